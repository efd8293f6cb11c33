import PyProof.Rows.All
import Wide.All
import OpenK.AllK
import Wide.FinOn
import PySem.Challenge.RW_nq0013_01
set_option Elab.async false
set_option maxRecDepth 100000
set_option maxHeartbeats 8000000
namespace Mine
open PySem PySem.W PyProof.Rows
open Sem (wp)
noncomputable def goodIds : List String := ["claim.caller", "type.__call__", "bytearray.__init__"]
noncomputable def okCode : Code → Bool
  | .builtin id _ => goodIds.contains id
  | _ => true
noncomputable def GoodS (l : List (Code × Pos)) : Prop := ∀ x ∈ l, okCode x.1 = true
noncomputable def Good (Γ : Ctx) : Prop := okCode Γ.code = true ∧ GoodS Γ.below
theorem GoodS.cons {c : Code} {p : Pos} {l : List (Code × Pos)} (hc : okCode c = true) (h : GoodS l) : GoodS ((c, p) :: l) := by
  intro x hx
  cases hx with
  | head => exact hc
  | tail _ hx => exact h x hx
theorem Good.stack {Γ : Ctx} (h : Good Γ) (p : Pos) : GoodS ((Γ.code, p) :: Γ.below) := GoodS.cons h.1 h.2
noncomputable def wpG {α : Type} (M : Model) (A : Around) (t : Sem α) (Q : α → Shared → Prop) (E : Value → Shared → Prop) (s : Shared) : Prop :=
  ∀ Γ p, Γ.In A → Good Γ → wp M Γ t (fun a _ s' => Q a s') (fun e _ s' => E e s') p s
noncomputable def codeG (M : Model) (A : Around) (c : Code) (R : Result → Shared → Prop) (s : Shared) : Prop :=
  okCode c = true ∧ ∀ Γ p, Γ.code = c → Γ.Below A → GoodS Γ.below → wpCode M Γ R p s
section
variable {α β : Type} {M : Model} {A : Around} {E : Value → Shared → Prop} {s : Shared}
theorem wpG_of {t : Sem α} {Q : α → Shared → Prop} (h : wpAny M A t Q E s) : wpG M A t Q E s := fun Γ p hΓ _ => h Γ p hΓ
theorem wpG_pure {a : α} {Q : α → Shared → Prop} (h : Q a s) : wpG M A (pure a) Q E s := fun _ _ _ _ => h
theorem wpG_mono {t : Sem α} {Q Q' : α → Shared → Prop} {E' : Value → Shared → Prop} (h : wpG M A t Q E s)
    (hQ : ∀ a s, Q a s → Q' a s) (hE : ∀ e s, E e s → E' e s) : wpG M A t Q' E' s :=
  fun Γ p hΓ hg => Sem.wp_mono M Γ t (fun a _ s => hQ a s) (fun e _ s => hE e s) p s (h Γ p hΓ hg)
theorem wpG_bind {m : Sem α} {f : α → Sem β} {Q : β → Shared → Prop} (h : wpG M A m (fun a s' => wpG M A (f a) Q E s') E s) :
    wpG M A (m >>= f) Q E s := fun Γ p hΓ hg => by
  rw [Sem.wp_bind']
  exact Sem.wp_mono M Γ m (fun a p' s' h' => h' Γ p' hΓ hg) (fun _ _ _ h' => h') p s (h Γ p hΓ hg)
theorem wpG_bindA {m : Sem α} {f : α → Sem β} {Q : β → Shared → Prop} (h : wpAny M A m (fun a s' => wpG M A (f a) Q E s') E s) :
    wpG M A (m >>= f) Q E s := wpG_bind (wpG_of h)
theorem wpG_holding {vs : List Value} {m : Sem α} {Q : α → Shared → Prop} (h : wpG M A m Q E s) : wpG M A (holding vs m) Q E s :=
  fun Γ p hΓ hg => by rw [Sem.wp_holding]; exact h Γ p hΓ hg
theorem wpG_keep {vs : List Value} {m : Sem α} {Q : α → Shared → Prop} (h : wpG M A m Q E s) : wpG M A (m.keep vs) Q E s :=
  fun Γ p hΓ hg => by rw [Sem.wp_keep]; exact h Γ p hΓ hg
theorem wpG_onRaise {m : Sem α} {k : Value → Sem Unit} {Q : α → Shared → Prop} (h : wpG M A m Q (fun _ _ => False) s) : wpG M A (m.onRaise k) Q E s := fun Γ p hΓ hg => by
  rw [Sem.wp_onRaise]
  exact Sem.wp_mono M Γ m (fun _ _ _ h' => h') (fun e p' s' h' => h'.elim) p s (h Γ p hΓ hg)
theorem wpG_run {c : Code} {h : Option Value} {Q : Flow → Shared → Prop}
    (hc : codeG M (A.mark h) c (fun r s' => match r with | .ok f => Q f s' | .error e => E e s') s) (hnb : h ≠ some byPass := by intro x; cases x) :
    wpG M A (run c h) Q E s :=
  fun Γ p hΓ hg => by rw [Sem.wp_run]; exact hc.2 _ p rfl (hΓ.enter c h p hnb) (hg.stack p)
theorem wpG_runValue {c : Code} {Q : Value → Shared → Prop}
    (hc : codeG M A c (fun r s' => match r with | .ok (.ret v) => Q v s' | .ok _ => False | .error e => E e s') s) :
    wpG M A (runValue c) Q E s := fun Γ p hΓ hg => by rw [Sem.wp_runValue]; exact hc.2 _ p rfl (hΓ.enter c none p (by intro x; cases x)) (hg.stack p)
theorem wpG_call {f : Value} {pos : List Value} {kw : List (Str × Value)} {Q : Value → Shared → Prop}
    (hc : codeG M A (.call f ⟨pos, kw⟩) (fun r s' => match r with | .ok (.ret v) => Q v s' | .ok _ => False | .error e => E e s') s) :
    wpG M A (call f pos kw) Q E s := wpG_runValue hc
theorem codeG_of {c : Code} {R : Result → Shared → Prop} (ok : okCode c = true) (h : codeAny M A c R s) : codeG M A c R s := ⟨ok, fun Γ p hc hΓ _ => h Γ p hc hΓ⟩
theorem codeG_of_tree {c : Code} {R : Result → Shared → Prop} (ok : okCode c = true)
    (h : wpG M (A.under c) (M.den c) (fun fin s' => match fin with | .done f => R (.ok f) s' | .again c' => c'.quiet = true ∧ codeG M A c' R s')
      (fun e s' => R (.error e) s') s) : codeG M A c R s := ⟨ok, fun Γ p hc hΓ hg => by
  rw [wpCode_iff_wp, hc]
  refine Sem.wp_mono M Γ _ (fun fin p' s' h' => ?_) (fun _ _ _ h' => h') p s (h Γ p (hc ▸ hΓ.in) ⟨hc ▸ ok, hg⟩)
  cases fin with
  | done f => exact h'
  | again c' => exact ⟨h'.1, h'.2.2 (Γ.goto c') p' rfl (hΓ.goto c') hg⟩⟩
theorem wpG_exported {self : Value} {Q : Bool → Shared → Prop} (h : Q false s) : wpG M A (Builtin.Bytes.exported self) Q E s := fun Γ p _ hg => by
  unfold Builtin.Bytes.exported
  show Q _ s
  refine Eq.mpr (congrArg (fun b => Q b s) (List.any_eq_false.mpr ?_)) h
  rintro ⟨c, p'⟩ hx
  have hc := hg.stack p _ hx
  refine (Bool.not_eq_true _).mpr ?_
  cases c with
  | builtin id args =>
    have hc : goodIds.contains id = true := hc
    have h3 : id = "claim.caller" ∨ id = "type.__call__" ∨ id = "bytearray.__init__" := by simpa [goodIds] using hc
    clear hc hx
    obtain ⟨pos, kw⟩ := args
    cases pos with
    | nil => rcases h3 with rfl | rfl | rfl <;> kernel_rfl
    | cons v r => rcases h3 with rfl | rfl | rfl <;> (refine Eq.trans (b := (Builtin.Bytes.sameRef v self && false)) ?_ (Bool.and_false _); kernel_rfl)
  | _ => kernel_rfl
end
open PySem PySem.W PySem.Calls PyProof.Rows
theorem caller_good : Good (⟨.builtin "claim.caller" {}, none, none, [], none⟩ : Ctx) := ⟨by decide +kernel, fun _ h => nomatch h⟩
theorem wp_of_wpG_done {M : Model} {A : Around} {Γ : Ctx} {t : Sem Fin} {R : Result → Shared → Prop} {s : Shared} (hin : Γ.In A) (hg : Good Γ)
    (h : wpG M A t (fun fin s' => ∃ f, fin = .done f ∧ R (.ok f) s') (fun e s' => R (.error e) s') s) (p : Pos) :
    wp M Γ t (Sem.finPost M Γ R) (fun e _ s' => R (.error e) s') p s := by
  refine Sem.wp_mono M Γ t (fun fin p' s' h' => ?_) (fun _ _ _ h' => h') p s (h Γ p hin hg)
  obtain ⟨f, rfl, hf⟩ := h'
  exact hf
theorem thread_endsG {prog : Program} {w : World} {t : Sem Fin} {s : Shared} {R : Result → Shared → Prop} (hreg : s.asleep)
    (h : wpG (model prog w) callerA t (fun fin s' => ∃ f, fin = .done f ∧ (R (.ok f) s' ∧ leftWithCleanup s'.gens = false)) (fun e s' => R (.error e) s' ∧ leftWithCleanup s'.gens = false) s) :
    ∃ n r s' s'', runN (denote table) prog w n s ⟨t, .builtin "claim.caller" {}, default, []⟩ = .halted (outcomeOf r) s' ∧
      schedN (denote table) prog w n (.single s ⟨t, .builtin "claim.caller" {}, default, []⟩) = .halted (outcomeOf r) s' ∧ s'.forget = s''.forget ∧ R r s'' := by
  obtain ⟨n, r, s₁, s₂, hs, hn, hfo, hR⟩ := wp_halts_full (M := model prog w) (R := R) hreg (wp_of_wpG_done (R := fun r s' => R r s' ∧ leftWithCleanup s'.gens = false) caller_in caller_good h default)
  exact ⟨n, r, s₂, s₁, hn, hs, hfo, hR⟩
theorem callFromG {c : ClaimW} {tree : List Value → Sem Fin} {w : World} {s : Shared} {free : Addr → Prop} {gens : Prop} {kept : Heap → Prop} (hz : s.asleep) (hgens : s.gens = #[])
    (hspec : ∀ args, c.pre args = true → WData.layableAll args = true →
      ∀ ord : List DictEntry → List DictEntry, (∀ l, (ord l).Perm l) →
      ∃ vs s₁, layAllW c.records (classAt s.heap) w.params ord args s = some (vs, s₁) ∧
        wpG (model c.prog w) callerA (tree vs) (fun fin s' => ∃ f, fin = .done f ∧ (c.Ends s args vs s₁ (.ok f) s' ∧ s'.os = s.os ∧ AllBare s'.gens ∧ kept s'.heap))
          (fun e s' => c.Ends s args vs s₁ (.error e) s' ∧ s'.os = s.os ∧ AllBare s'.gens ∧ kept s'.heap) s₁) :
    c.CallFrom (fun vs => ⟨tree vs, .builtin "claim.caller" {}, default, []⟩) w free gens kept s := by
  intro args hpre hlay ord hord
  obtain ⟨vs, s₁, hlaid, hcode⟩ := hspec args hpre hlay ord hord
  have hal := layAllW_rest _ _ _ hlaid
  obtain ⟨k, r, s', s'', hrun, hsched, hfo, hcase, hos, hkp⟩ := thread_endsG (prog := c.prog) (w := w) (t := tree vs) (s := s₁)
    (R := fun r s' => c.Ends s args vs s₁ r s' ∧ s'.os = s.os ∧ kept s'.heap) (Shared.asleep_of_life hal.2.2.2 hz)
    (wpG_mono hcode (fun fin s' ⟨f, e, h1, h2, h3, h4⟩ => ⟨f, e, ⟨h1, h2, h4⟩, leftWithCleanup_false_of_bare h3⟩)
      fun e s' ⟨h1, h2, h3, h4⟩ => ⟨⟨h1, h2, h4⟩, leftWithCleanup_false_of_bare h3⟩)
  obtain ⟨eh, _, _, eo, _⟩ := Shared.forget_eq hfo
  have hcase := hcase.congr eh
  have hkp : kept s'.heap := by rw [eh]; exact hkp
  rw [← eo] at hos
  have hlife : s'.heap.life = s.heap.life := (runN_life _ _ _ hrun).trans hal.2.2.2
  refine ⟨vs, s₁, hlaid, k, _, s', hsched, ?_, (fun _ i x hx => by rw [hgens] at hx; simp at hx), hkp, by rw [hlife], Shared.rest_eq hos⟩
  rcases hcase with ⟨v, rfl, d1, d2, d3, d4, d5⟩ | ⟨e, ob, cls, rfl, d1, d2, d3, d4, d5⟩
  · exact .inl ⟨v, rfl, d1, d2, d3, fun b o y _ => d4 b o y, d5⟩
  · exact .inr ⟨e, ob, cls, rfl, d1, d2, d3, d4, fun b o y _ => d5 b o y⟩
noncomputable abbrev WalkG (q : Program) (loose : List Str) (XP : (Str → Option Value) → Heap → Prop) (YP : World → Heap → Prop) (r : RowW) (d : DefRec) (kwd : List (Str × Expr)) : Prop :=
  ∀ (w : World) (s₀ s₁ : Shared) (mg mb : Str → Option Value), Ground q loose r.records XP w s₀ mg mb s₁.heap → YP w s₁.heap → ∀ (a : Addr) (o : Obj) (pm cd doc dV kV : Value), s₁.heap.get? a = some o →
    o.data = .func { docDef d.name d.params d.body d.scope pm cd doc with defaults := dV, kwdefaults := kV } → s₁.heap.CodeRec cd d.name → Dflts mg s₁.heap d.params kwd dV kV → mg d.name = some (.ref a) → s₁.gens = #[] →
    ∀ (args : List WData) (vals : List Value) (as : List Addr), r.claim.pre args = true → WData.layableAll args = true → ReadsAllW r.records (classAt s₀.heap) s₁.heap vals args as → WellAll w.params s₁.heap vals args → (∀ a ∈ as, (a == sysModules) = false) →
      wpG (model r.prog w) callerA (PySem.call (.ref a) vals) (fun v s' => GoodWG r.claim (classAt s₀.heap) (ExcName.means s₀.heap) args s₁ (.ok (.ret v)) s') (fun _ _ => False) s₁
theorem PySem.W.holds_open {r : OpenRow} {q : Program} {loose : List Str} {Xt : Shared → Bool} {XP : (Str → Option Value) → Heap → Prop} {α : Type} {Yf : Shared → α} {Ya : World → α} {YP : World → Heap → Prop} {d : DefRec} {kwd : List (Str × Expr)} {N : Nat}
    (left : LeftO r.prog q loose Xt Yf Ya N) (hY : ∀ w s, Yf s = Ya w → YP w s.heap) (hYk : ∀ w h h', YP w h → (∀ b o, h.get? b = some o → h'.get? b = some o) → YP w h')
    (hX : ∀ s, Xt s = true → XP (s.heap.nsMap mainGlobals) s.heap) (hXk : ∀ mg h h', XP mg h → (∀ b o, h.get? b = some o → h'.get? b = some o) → XP mg h')
    (hdef : defOf q r.name = some (d, kwd)) (hp : r.prog.theDef r.name = some (d.params, d.body, d.scope)) (hk : kwWritten? d.params.kwonlyargs d.params.kw_defaults = some kwd) (hRf : ∀ s, Xt s = true → RecFacts r.records s.heap) (hwr : (!r.writes || r.records.isEmpty) = true)
    (k1 : r.wellSaid = true) (ok : (chainsOk q && opensWell r.prog && (frees r.toRowW && r.within.isEmpty)) = true) (hb : r.prog.bare) (hw : r.toRowW.promised)
    (call : WalkG q loose XP YP r.toRowW d kwd) : r.Holds := by
  refine ⟨k1, hw, ?_⟩
  show r.toRowW.claim.HoldsOpenBy (fun vs => ⟨do match ← nsGet mainNs r.name with
      | some f => do ret (← PySem.call f vs)
      | none => unsupported "claim.caller:no-such-global", .builtin "claim.caller" {}, default, []⟩) (if r.pinned then [r.name] else []) r.keeps r.writes
  obtain ⟨ok, k5⟩ := Bool.and_eq_true_iff.mp ok
  obtain ⟨hch, o1⟩ := Bool.and_eq_true_iff.mp ok
  obtain ⟨k5, k6⟩ := Bool.and_eq_true_iff.mp k5
  obtain ⟨hsame, hu, ha, hap, hm⟩ := frees_parts k5
  refine ⟨⟨hb, o1, by show r.makers.map _ = []; rw [hm]; rfl⟩, hw.witness, fun w => ⟨(left.behind hX hch w).1, fun s' hs' => ?_⟩⟩
  obtain ⟨s₀, hf, hg0, s, hT, hz, hgens, hg, G00, y⟩ := (left.behind (XP := fun mg h => XP mg h ∧ RecFacts r.records h) (fun s hs => ⟨hX s hs, hRf s hs⟩) hch w).2 s' hs'
  have G0 : Ground q loose [] XP w s (s.heap.nsMap mainGlobals) (s.heap.nsMap builtinsNs) s.heap := ⟨G00.T, G00.B, G00.D, G00.TE, G00.TD, G00.W, G00.X.1, G00.cls, G00.has, G00.apart, G00.once, G00.K⟩
  have RF := G00.X.2
  have hT' := hT
  refine ⟨s₀, hf, hg0, s, hT, fun n hn => ?_, RF.1, RF.2.1, ?_⟩
  · obtain rfl : n = r.name := by split at hn <;> simp_all
    exact pinned_of_view hg G0 hdef hp hk
  have hgens : s.gens = #[] := Array.eq_empty_of_size_eq_zero (beq_iff_eq.mp hgens)
  have G : Ground q loose r.records XP w s _ _ s.heap := RF.ground G0
  refine callFromG (c := r.toRowW.claim) hz hgens fun args hpre hlay ord hord => ?_
  obtain ⟨⟨vs, s₁⟩, hlaid⟩ := Option.isSome_iff_exists.mp (layAllW_isSome (P := w.params) (ord := ord) G.has args r.args s (pre_splitW hpre).1)
  have keeps := layAllW_keeps _ _ _ hlaid
  have hal := layAllW_rest _ _ _ hlaid
  obtain ⟨as, hrd, hin, hold⟩ := reads_layAllW hord _ _ _ hlaid hlay s₁.heap (fun _ _ e => e)
  have L : Laid r.records w s s₁ args vs as := ⟨⟨ord, hord, hlaid⟩, hrd, hin, hold, keeps, hal.1.trans hgens, hal.2.2.1⟩
  have G₁ := G.keeps hXk keeps
  obtain ⟨a, o, pm, cd, doc, dV, kV, h1, h2, h3, h4, h5⟩ := G₁.fn hdef
  have h := call w s s₁ _ _ G₁ (hYk _ _ _ (hY w s y) keeps) a o pm cd doc dV kV h2 h3 h4 h5 (defOf_name hdef ▸ h1) L.gens args vs as hpre hlay L.reads L.well (L.low G.low)
  have hi := ident_freeW hu ha hap
  have hwi : r.claim.within = [] := List.isEmpty_iff.mp k6
  refine ⟨vs, s₁, hlaid, wpG_bindA (wpAny_nsGet G₁.T.g ?_)⟩
  rw [h1]
  refine wpG_bind (wpG_mono h (fun v s' g => wpG_pure ⟨_, rfl, have z := g.laid (c := r.claim) hsame hwi hi L; ⟨z.1, z.2.1, z.2.2, fun q => ⟨namesKept_of hT' hg r.keeps keeps g.2.1.old, noTable hwr q⟩⟩⟩) fun _ _ x => x.elim)
theorem call_type_bytes {prog : Program} {w : World} {A : Around} {E Q : Value → Shared → Prop} {s : Shared} {b : Array UInt8} {u : Tok} (hq : Q (.type "bytes") s) :
    wpAny (model prog w) A (call (.type "type") [.bytes b u]) Q E s := by
  obtain ⟨h, g, d, t, os⟩ := s
  refine wpAny_call (codeAny_of_tree ?_)
  show wpAny _ _ (callAny (.type "type") ⟨[.bytes b u], []⟩) _ _ _
  simp only [callAny]
  refine wpAny_pure ⟨Code.quiet_builtin _ (by decide +kernel), codeAny_builtin entry_type_call ?_⟩
  unfold Builtin.«type.__call__»
  dsimp only
  unfold shownTypeOf
  repeat (first | wp_step)
  exact hq
theorem sub_bytes_str : isSubtype (.type "bytes") (.type "str") = pure false := by rw [isSubtype_type]; kernel_rfl
theorem sub_bytes_bytes' : isSubtype (.type "bytes") (.type "bytes") = pure true := by rw [isSubtype_type]; kernel_rfl
theorem plain_nested : plainId "issubclass.nested" = true := by decide +kernel
theorem check_nested (a b c : Value) : checkBuiltinCall "issubclass.nested" ⟨[a, b, c], []⟩ = pure () := by kernel_rfl
theorem nested_leaf {prog : Program} {w : World} {A : Around} {E Q : Value → Shared → Prop} {s : Shared} {X : String} {dep : Int} {tk : Tok} {r : Bool} (hm : typeOf (.type X) = pure (.type "type")) (hi : isType (.type X) = pure true)
    (hs : isSubtype (.type "bytes") (.type X) = pure r) (hq : Q (.bool r) s) :
    wpAny (model prog w) A (call (.builtin "issubclass.nested") [.type "bytes", .type X, .int dep tk]) Q E s := by
  refine wpAny_call (codeAny_call_builtin plain_nested F.entry_issubclass_nested ?_)
  refine wpAny_of_eq (check_nested _ _ _) ?_
  have hb : isType (.type "bytes") = pure true := by rfl
  repeat (any_goals (first | assumption | (rw [hm]) | (rw [hi]) | (rw [hs]) | (rw [hb]) | wp_step))
theorem nested_tuple {prog : Program} {w : World} {A : Around} {E : Value → Shared → Prop} {Q : Fin → Shared → Prop} {s : Shared} {a : Addr} {k : Value} {tk : Tok} (hk : k = .int 0 tk) (ha : IsTup s.heap a #[.type "str", .type "bytes"])
    (hq : Q (.done (.ret (.bool true))) s) : wpAny (model prog w) A (Builtin.«issubclass.nested» ⟨[.type "bytes", .ref a, k], []⟩) Q E s := by
  subst hk
  obtain ⟨o, ho, hc, n, hd⟩ := ha
  have hT : s.TypeIs (.ref a) "tuple" := ⟨o, ho, hc⟩
  have hsub : isSubtype (.type "tuple") (.type "tuple") = pure true := by rw [isSubtype_type]; kernel_rfl
  unfold Builtin.«issubclass.nested»
  dsimp only
  refine wpAny_bind (wpAny_typeOf hT ?_)
  refine bm_if_false (by decide) ?_
  refine wpAny_bind (m := Builtin.Builtins.unionMembers (.ref a)) ?_
  unfold Builtin.Builtins.unionMembers
  refine wpAny_bind (wpAny_typeOf hT ?_)
  refine bm_if_false (by decide) ?_
  refine wpAny_pure ?_
  refine wpAny_bind (wpAny_isInstance hT hsub ?_)
  refine bm_if_true rfl ?_
  refine wpAny_ite ?_
  rw [if_neg (by decide)]
  refine wpAny_bind (wpAny_seqItems ho hd ?_)
  refine wpAny_bind (m := forIn _ _ _) ?_
  rw [← Array.forIn_toList]
  dsimp only [Option.getD_some]
  rw [List.forIn_cons]
  refine wpAny_bind (wpAny_bind (nested_leaf (X := "str") (by rfl) (by rfl) sub_bytes_str ?_))
  refine wpAny_bind (m := truthy (.bool false)) (wpAny_pure ?_)
  refine bm_if_false rfl (wpAny_pure ?_)
  dsimp only
  rw [List.forIn_cons]
  refine wpAny_bind (wpAny_bind (nested_leaf (X := "bytes") (by rfl) (by rfl) sub_bytes_bytes' ?_))
  refine wpAny_bind (m := truthy (.bool true)) (wpAny_pure ?_)
  refine bm_if_true rfl (wpAny_bind (wpAny_pure (wpAny_pure ?_)))
  exact wpAny_pure (wpAny_pure hq)
theorem issubclass_bytes {prog : Program} {w : World} {A : Around} {E Q : Value → Shared → Prop} {s : Shared} {a : Addr} (ha : IsTup s.heap a #[.type "str", .type "bytes"]) (hq : Q (.bool true) s) :
    wpAny (model prog w) A (call (.builtin "issubclass") [.type "bytes", .ref a]) Q E s := by
  refine call_issubclass (S := fun _ R s => IsTup s.heap a #[.type "str", .type "bytes"] ∧ R (.ok (.ret (.bool true))) s) ?_ ⟨ha, hq⟩
  intro prog w A R s hs
  exact issubclass_outer (nested_tuple rfl hs.1 hs.2)
noncomputable def cutL {α : Type} (l : List α) (lo hi : Option Int) : List α := (l.drop (lo.elim 0 (clipAt l.length))).take (hi.elim l.length (clipAt l.length) - lo.elim 0 (clipAt l.length))
theorem cutL_le {α : Type} (l : List α) (lo hi : Option Int) : (cutL l lo hi).length ≤ l.length := by
  unfold cutL
  rw [List.length_take, List.length_drop]
  exact Nat.le_trans (Nat.min_le_right _ _) (Nat.sub_le _ _)
theorem picked_list (l : List UInt8) (lo hi : Option Int) : KBy.picked l.toArray lo hi = (cutL l lo hi).toArray := by
  rw [KBc.picked_eq]
  simp only [List.size_toArray, cutL]
section
variable {prog : Program} {w : World} {A : Around} {E : Value → Shared → Prop} {s : Shared} {value slice : PySem.Expr} {b : List UInt8} {t : Tok} {h₀ : Heap} {L : Addr} {m : PySem.Str → Option Value} {news : List (Addr × Obj)} {l u : Value} {lo hi : Option Int} {Q : Value → Shared → Prop}
theorem slice_any (hF : Fr h₀ L s.heap m) (hN : News h₀ L s.heap news) (hl : IsPart l lo) (hu : IsPart u hi) (hz : b.length ≤ 16777216)
    (h : ∀ h' t' k, Fr h₀ L h' m → News h₀ L h' news → Q (.bytes (cutL b lo hi).toArray t') { s with heap := h', toks := k })
    (hs : subscripted slice false (.bytes b.toArray t) (.ref s.heap.objs.size) = operate [.ref s.heap.objs.size, .bytes b.toArray t] (getItem (.bytes b.toArray t) (.ref s.heap.objs.size)) := by with_unfolding_all rfl)
    (ht : ∀ r, letTemporaryGo value (.bytes b.toArray t) r = pure () := by intro _; with_unfolding_all rfl) :
    wpAny (model prog w) A (subscriptTail value slice (.bytes b.toArray t) (.ref s.heap.objs.size)) Q E { s with heap := s.heap.push { cls := .type "slice", data := .fields #[l, u, .none] } } :=
  KBc.slice_K hF hN rfl hl hu (by rw [KBw.ints_length, List.size_toArray]; exact hz) (fun h' t' k F N _ => by rw [picked_list]; exact h h' t' k F N) hs ht
theorem truthy_bytesL {Q : Bool → Shared → Prop} (hz : b.length ≤ 16777216) (h : ∀ k, Q (decide (b ≠ [])) { s with toks := k }) : wpAny (model prog w) A (truthy (.bytes b.toArray t)) Q E s := by
  refine truthy_bytes (by rw [List.size_toArray]; omega) ?_
  have e : (((b.toArray.size : Nat) : Int) != 0) = decide (b ≠ []) := by
    rw [List.size_toArray]
    cases b <;> simp
    omega
  rw [e]
  exact h _
theorem ne_bytesL {c : List UInt8} {u : Tok} (h : Q (.bool (decide (b ≠ c))) s) : wpAny (model prog w) A (compareOp .NotEq (.bytes b.toArray t) (.bytes c.toArray u)) Q E s := by
  refine ne_bytes ?_
  have e : (b.toArray.toList != c.toArray.toList) = decide (b ≠ c) := by
    show (!(b == c)) = _
    by_cases h : b = c <;> simp [h]
  rw [e]; exact h
theorem eq_bytesL {c : List UInt8} {u : Tok} (h : Q (.bool (decide (b = c))) s) : wpAny (model prog w) A (compareOp .Eq (.bytes b.toArray t) (.bytes c.toArray u)) Q E s := by
  refine eq_bytes ?_
  have e : (b.toArray.toList == c.toArray.toList) = decide (b = c) := by
    show (b == c) = _
    by_cases h : b = c <;> simp [h]
  rw [e]; exact h
end
open PySem
noncomputable def splitL (c : UInt8) : List UInt8 → List (List UInt8)
  | [] => [[]]
  | x :: xs => if x = c then [] :: splitL c xs else match splitL c xs with
    | h :: t => (x :: h) :: t
    | [] => [[x]]
noncomputable def idxL (c : UInt8) : List UInt8 → List Nat
  | [] => []
  | x :: xs => if x = c then 0 :: (idxL c xs).map (· + 1) else (idxL c xs).map (· + 1)
noncomputable def betweenL (l : List UInt8) : Nat → List Nat → List (List UInt8)
  | last, [] => [l.drop last]
  | last, p :: ps => (l.drop last).take (p - last) :: betweenL l (p + 1) ps
theorem betweenL_shift (x : UInt8) (xs : List UInt8) : ∀ (ps : List Nat) (last : Nat), betweenL (x :: xs) (last + 1) (ps.map (· + 1)) = betweenL xs last ps
  | [], last => by simp [betweenL]
  | p :: ps, last => by
    simp only [List.map_cons, betweenL, List.drop_succ_cons, betweenL_shift x xs ps (p + 1)]
    congr 2
    exact Nat.add_sub_add_right p 1 last
theorem betweenL_cons (x : UInt8) (xs : List UInt8) (ps : List Nat) : ∃ h t, betweenL xs 0 ps = h :: t ∧ betweenL (x :: xs) 0 (ps.map (· + 1)) = (x :: h) :: t := by
  cases ps with
  | nil => exact ⟨_, _, rfl, rfl⟩
  | cons p ps =>
    refine ⟨_, _, rfl, ?_⟩
    simp only [List.map_cons, betweenL, betweenL_shift]
    simp
theorem between_idx (c : UInt8) : ∀ l, betweenL l 0 (idxL c l) = splitL c l
  | [] => rfl
  | x :: xs => by
    unfold idxL splitL
    split
    · show [] :: betweenL (x :: xs) (0 + 1) _ = _
      rw [betweenL_shift, between_idx c xs]
    · obtain ⟨h, t, e1, e2⟩ := betweenL_cons x xs (idxL c xs)
      rw [e2, ← between_idx c xs, e1]
theorem between_fold (l : List UInt8) : ∀ (ps : List Nat) (parts : Array (Array UInt8)) (last : Nat),
    ((ps.foldl (fun (x : Array (Array UInt8) × Nat) p => (x.1.push (l.toArray.extract x.2 p), p + 1)) (parts, last)).1.push (l.toArray.extract (ps.foldl (fun (x : Array (Array UInt8) × Nat) p => (x.1.push (l.toArray.extract x.2 p), p + 1)) (parts, last)).2 l.toArray.size)).toList = parts.toList ++ (betweenL l last ps).map List.toArray
  | [], parts, last => by
    simp only [List.foldl_nil, betweenL, List.map_cons, List.map_nil, Array.toList_push]
    congr 2
    rw [List.extract_toArray, List.extract_eq_take_drop, List.size_toArray, List.take_of_length_le (by simp)]
  | p :: ps, parts, last => by
    rw [List.foldl_cons, between_fold l ps]
    simp only [betweenL, List.map_cons, Array.toList_push, List.append_assoc, List.singleton_append]
    congr 2
    rw [List.extract_toArray, List.extract_eq_take_drop]
theorem between_eq (l : List UInt8) (ps : List Nat) : Builtin.Bytes.between l.toArray 1 ps = (betweenL l 0 ps).map List.toArray := by
  have := between_fold l ps #[] 0
  simpa [Builtin.Bytes.between] using this
theorem extract1 (l : List UInt8) (c : UInt8) (i : Nat) (h : i < l.length) : (l.toArray.extract i (i + 1) == #[c]) = decide (l[i] = c) := by
  rw [List.extract_toArray, List.extract_eq_take_drop]
  have e : (l.drop i).take (i + 1 - i) = [l[i]] := by
    rw [Nat.add_sub_cancel_left, List.drop_eq_getElem_cons h]
    rfl
  rw [e]
  by_cases q : l[i] = c
  · simp [q]
  · simp [q]
noncomputable def idxTo (l : List UInt8) (c : UInt8) (k : Nat) : List Nat := (List.range k).filter fun i => decide (l[i]? = some c)
theorem occ_fold (l : List UInt8) (c : UInt8) : ∀ k, k ≤ l.length → ∃ last, last ≤ k ∧
    (List.range k).foldl (fun (acc : List Nat × Nat) i => if (decide (i ≥ acc.2) && (l.toArray.extract i (i + 1) == #[c])) = true then (i :: acc.1, i + 1) else acc) ([], 0) = ((idxTo l c k).reverse, last)
  | 0, _ => ⟨0, Nat.le_refl _, rfl⟩
  | k + 1, h => by
    obtain ⟨last, hl, e⟩ := occ_fold l c k (by omega)
    have hk : k < l.length := h
    rw [List.range_succ, List.foldl_append, e]
    simp only [List.foldl_cons, List.foldl_nil, extract1 l c k hk]
    have hge : decide (k ≥ last) = true := decide_eq_true hl
    rw [hge, Bool.true_and]
    unfold idxTo
    rw [List.range_succ, List.filter_append]
    by_cases q : l[k] = c
    · refine ⟨k + 1, Nat.le_refl _, ?_⟩
      simp [q, List.getElem?_eq_getElem hk]
    · refine ⟨last, by omega, ?_⟩
      simp [q, List.getElem?_eq_getElem hk]
theorem idxTo_eq (c : UInt8) : ∀ l, idxTo l c l.length = idxL c l
  | [] => rfl
  | x :: xs => by
    unfold idxTo idxL
    rw [← idxTo_eq c xs, List.length_cons, List.range_succ_eq_map, List.filter_cons]
    unfold idxTo
    have e : ((List.range xs.length).map Nat.succ).filter (fun i => decide ((x :: xs)[i]? = some c)) = ((List.range xs.length).filter fun i => decide (xs[i]? = some c)).map (· + 1) := by
      rw [List.filter_map]
      rfl
    rw [e]
    by_cases q : x = c <;> simp [q]
theorem idxL_le (c : UInt8) : ∀ l, (idxL c l).length ≤ l.length
  | [] => Nat.le_refl _
  | x :: xs => by
    have := idxL_le c xs
    unfold idxL
    split <;> simp <;> omega
theorem occ_eq (l : List UInt8) (c : UInt8) : Builtin.Bytes.occurrences l.toArray #[c] 0 l.toArray.size = idxL c l := by
  unfold Builtin.Bytes.occurrences
  have hs : l.toArray.size + 1 - (0 + (#[c] : Array UInt8).size) = l.length := by simp
  rw [hs]
  have hm : (List.range l.length).map (· + 0) = List.range l.length := by simp
  rw [hm]
  obtain ⟨last, _, e⟩ := occ_fold l c l.length (Nat.le_refl _)
  have e' := congrArg (fun x => x.1.reverse) e
  simp only [List.reverse_reverse] at e'
  rw [← idxTo_eq]
  exact e'
theorem splitL_none {c : UInt8} : ∀ {l : List UInt8}, idxL c l = [] → splitL c l = [l] := fun {l} h => by
  rw [← between_idx, h]; rfl
theorem splitL_pieces (c : UInt8) : ∀ l, ∀ q ∈ splitL c l, q.length ≤ l.length
  | [], q, h => by simp [splitL] at h; simp [h]
  | x :: xs, q, h => by
    unfold splitL at h
    have ih := splitL_pieces c xs
    split at h
    · cases h with
      | head => simp
      | tail _ h => have := ih q h; simp; omega
    · split at h
      · rename_i hd tl e
        cases h with
        | head => have := ih hd (by rw [e]; exact .head _); simp; omega
        | tail _ h => have := ih q (by rw [e]; exact .tail _ h); simp; omega
      · cases h with
        | head => simp
        | tail _ h => cases h
theorem splitL_length (c : UInt8) : ∀ l, (splitL c l).length ≤ l.length + 1
  | [] => by simp [splitL]
  | x :: xs => by
    have ih := splitL_length c xs
    unfold splitL
    split
    · simp; omega
    · split
      · rename_i e; rw [e] at ih; simp at ih ⊢; omega
      · simp
noncomputable def joinL (sep : List UInt8) : List (List UInt8) → List UInt8
  | [] => []
  | [p] => p
  | p :: q :: r => p ++ sep ++ joinL sep (q :: r)
theorem joined_fold (sep : List UInt8) : ∀ (ps : List (List UInt8)) (k : Nat) (out : Array UInt8), 0 < k →
    ((ps.map List.toArray).zipIdx k).foldl (fun (out : Array UInt8) (x : Array UInt8 × Nat) => (if x.2 > 0 then out ++ sep.toArray else out) ++ x.1) out = out ++ ((ps.map fun p => sep ++ p).flatten).toArray
  | [], k, out, _ => by simp
  | p :: ps, k, out, hk => by
    rw [List.map_cons, List.zipIdx_cons, List.foldl_cons, joined_fold sep ps (k + 1) _ (by omega)]
    simp [hk, Array.append_assoc]
theorem joinL_eq (sep : List UInt8) : ∀ (p : List UInt8) (ps : List (List UInt8)), joinL sep (p :: ps) = p ++ (ps.map fun q => sep ++ q).flatten
  | p, [] => by simp [joinL]
  | p, q :: r => by
    rw [joinL, joinL_eq sep q r]
    simp
theorem joined_eq (sep : List UInt8) (ps : List (List UInt8)) : Builtin.Bytes.joined sep.toArray (ps.map List.toArray) = (joinL sep ps).toArray := by
  unfold Builtin.Bytes.joined
  cases ps with
  | nil => rfl
  | cons p ps =>
    rw [List.map_cons, List.zipIdx_cons, List.foldl_cons]
    have := joined_fold sep ps (0 + 1) ((if 0 > 0 then #[] ++ sep.toArray else #[]) ++ p.toArray) (by omega)
    rw [joinL_eq]
    refine Eq.trans this ?_
    simp
noncomputable def BytesAre : List Value → List (List UInt8) → Prop
  | [], [] => True
  | v :: vs, b :: bs => (∃ t, v = .bytes b.toArray t) ∧ BytesAre vs bs
  | _, _ => False
theorem BytesAre.length : ∀ {vs : List Value} {bs : List (List UInt8)}, BytesAre vs bs → vs.length = bs.length
  | [], [], _ => rfl
  | _ :: _, _ :: _, h => by simp [BytesAre.length h.2]
theorem BytesAre.get : ∀ {vs : List Value} {bs : List (List UInt8)}, BytesAre vs bs → ∀ {i : Nat} {v : Value}, vs[i]? = some v → ∃ b t, bs[i]? = some b ∧ v = .bytes b.toArray t
  | [], [], _, i, v, e => by simp at e
  | x :: vs, b :: bs, h, 0, v, e => by
    obtain ⟨t, rfl⟩ := h.1
    simp at e
    exact ⟨b, t, rfl, e.symm⟩
  | x :: vs, b :: bs, h, i + 1, v, e => by
    have := BytesAre.get h.2 (i := i) (v := v) (by simpa using e)
    simpa using this
theorem BytesAre.append : ∀ {vs us : List Value} {bs cs : List (List UInt8)}, BytesAre vs bs → BytesAre us cs → BytesAre (vs ++ us) (bs ++ cs)
  | [], _, [], _, _, h => h
  | _ :: _, _, _ :: _, _, h, h' => ⟨h.1, BytesAre.append h.2 h'⟩
theorem BytesAre.one {b : List UInt8} {t : Tok} : BytesAre [.bytes b.toArray t] [b] := ⟨⟨t, rfl⟩, trivial⟩
theorem slot_split : Slot "bytes" "split" "bytes.split" :=
  .of (owner := "bytes") (n := "split") (by rw [typeLookup_type, builtinLookup_eq_fast]; kernel_rfl) (by decide +kernel) (by decide +kernel) (by decide +kernel)
    (by first | exact .inl (by decide +kernel) | exact .inr (by decide +kernel)) (by rw [isSubtype_type]; kernel_rfl)
theorem type_split : typeOf (.builtin "bytes.split") = pure (.type "method_descriptor") := by show builtinType _ = _; rw [builtinType_eq_fast]; kernel_rfl
theorem entry_split : entryFor table "bytes.split" = some Builtin.«bytes.split» := entryFor_of_tree (by kernel_rfl)
theorem args_split (a b : Value) : argsOk "bytes.split" ⟨[a, b], []⟩ := by
  unfold argsOk; rw [signature?_of (id := "bytes.split") (n := ['t', 'i', 'l', 'p', 's']) (o := ['s', 'e', 't', 'y', 'b']) (by kernel_rfl) FB.owner_bytes]; kernel_rfl
theorem bind_split (v : Value) : Builtin.Bytes.bindOptional "bytes.split" "split" ["sep", "maxsplit"] [v] [] = pure [some v, none] := by kernel_rfl
theorem slot_join : Slot "bytes" "join" "bytes.join" :=
  .of (owner := "bytes") (n := "join") (by rw [typeLookup_type, builtinLookup_eq_fast]; kernel_rfl) (by decide +kernel) (by decide +kernel) (by decide +kernel)
    (by first | exact .inl (by decide +kernel) | exact .inr (by decide +kernel)) (by rw [isSubtype_type]; kernel_rfl)
theorem type_join : typeOf (.builtin "bytes.join") = pure (.type "method_descriptor") := by show builtinType _ = _; rw [builtinType_eq_fast]; kernel_rfl
theorem entry_join : entryFor table "bytes.join" = some Builtin.«bytes.join» := entryFor_of_tree (by kernel_rfl)
theorem args_join (a b : Value) : argsOk "bytes.join" ⟨[a, b], []⟩ := by
  unfold argsOk; rw [signature?_of (id := "bytes.join") (n := ['n', 'i', 'o', 'j']) (o := ['s', 'e', 't', 'y', 'b']) (by kernel_rfl) FB.owner_bytes]; kernel_rfl
section
variable {prog : Program} {w : World} {A : Around} {E : Value → Shared → Prop} {s : Shared} {h₀ : Heap} {L : Addr} {m : PySem.Str → Option Value} {news : List (Addr × Obj)} {Q : Value → Shared → Prop} {b : List UInt8} {c : UInt8} {t u : Tok}
theorem new_all {M : Model} {Q : List Value → Shared → Prop} : ∀ (ps : List (List UInt8)) (s : Shared), (∀ p ∈ ps, p.length ≤ 16777216) → (∀ vs k, BytesAre vs ps → Q vs { s with toks := k }) → wpAny M A ((ps.map List.toArray).mapM (Builtin.Bytes.Kind.new .bytes)) Q E s
  | [], s, _, h => wpAny_pure (h [] s.toks trivial)
  | p :: ps, s, hz, h => by
    rw [List.map_cons, List.mapM_cons]
    refine wpAny_bind ?_
    show wpAny M A (mkBytes p.toArray) _ E s
    refine wpAny_mkBytes ?_ (by rw [List.size_toArray, sizeLine_eq]; exact hz p (.head _))
    refine wpAny_bind (new_all ps _ (fun q hq => hz q (.tail _ hq)) fun vs k hv => wpAny_pure (h _ k ⟨⟨_, rfl⟩, hv⟩))
theorem meets_split : Meets (Builtin.«bytes.split» ⟨[.bytes b.toArray t, .bytes #[c] u], []⟩) (fun _ R s => b.length ≤ 100000 ∧
    ∀ vs k, BytesAre vs (splitL c b) → ∀ a s', s' = { s with heap := s.heap.push (listOf vs.toArray 0), toks := k } → a = s.heap.objs.size → R (.ok (.ret (.ref a))) s') := by
  refine .of_wp fun prog w A R s hS => ?_
  obtain ⟨hz, h⟩ := hS
  show wpAny _ _ (Builtin.Bytes.splitM .bytes "split" false ⟨[.bytes b.toArray t, .bytes #[c] u], []⟩) _ _ s
  unfold Builtin.Bytes.splitM
  show wpAny _ _ (Builtin.Bytes.bindOptional "bytes.split" "split" ["sep", "maxsplit"] [.bytes #[c] u] [] >>= _) _ _ s
  refine wpAny_bind (wpAny_of_eq (bind_split _) ?_)
  refine wpAny_bind (wpAny_pure ?_)
  refine wpAny_bind (m := Builtin.Bytes.payload (.bytes b.toArray t)) (wpAny_of_eq (a := b.toArray) rfl ?_)
  refine wpAny_bind (wpAny_of_eq KBd.like_eq ?_)
  refine bm_if_false rfl ?_
  have hpl : List.take (if (-1 : Int) < 0 then b.toArray.size + 1 else (-1 : Int).toNat) (Builtin.Bytes.occurrences b.toArray #[c] 0 b.toArray.size) = idxL c b := by
    rw [occ_eq, if_pos (by decide), List.size_toArray, List.take_of_length_le (by have := idxL_le c b; omega)]
  have hnew : ∀ {vs : List Value} {k : Nat}, BytesAre vs (splitL c b) → wpAny (model prog w) A.in1 (newList vs >>= fun l => ret l) (fun fin s' => ∃ v, fin = Fin.done (Flow.ret v) ∧ R (Except.ok (Flow.ret v)) s') (fun e s' => R (Except.error e) s') { s with toks := k } := by
    intro vs k hv
    have hlen := hv.length
    have hle := splitL_length c b
    refine wpAny_bind (wpAny_newObj_type ?_ (by show vs.toArray.size ≤ sizeLine; rw [List.size_toArray, sizeLine_eq]; omega))
    exact wpAny_pure ⟨_, rfl, h vs k hv _ _ rfl rfl⟩
  simp only [Bool.false_eq_true, if_false]
  rw [hpl]
  by_cases hne : (idxL c b).isEmpty = true
  · refine bm_if_true hne ?_
    refine wpAny_bind (wpAny_rule ?_)
    refine wpAny_bind (m := Builtin.Bytes.Kind.same .bytes (.bytes b.toArray t)) (wpAny_of_eq (a := .bytes b.toArray t) rfl ?_)
    refine hnew (k := s.toks) ?_
    rw [splitL_none (List.isEmpty_iff.mp hne)]
    exact BytesAre.one
  · refine bm_if_false (by simpa using hne) ?_
    show wpAny _ _ (List.mapM _ (Builtin.Bytes.between b.toArray 1 (idxL c b)) >>= _) _ _ s
    rw [between_eq, between_idx]
    exact wpAny_bind (new_all _ _ (fun p hp => by have := splitL_pieces c b p hp; omega) fun vs k hv => hnew hv)
theorem split_K (F : Fr h₀ L s.heap m) (N : News h₀ L s.heap news) (hz : b.length ≤ 100000)
    (h : ∀ (l : Addr) (vs : List Value) (h' : Heap) (k : Nat), BytesAre vs (splitL c b) → Fr h₀ L h' m → News h₀ L h' ((l, listOf vs.toArray 0) :: news) → (∀ q ∈ news, q.1 < l) → Q (.ref l) { s with heap := h', toks := k }) :
    wpAny (model prog w) A (call (.builtin "bytes.split") [.bytes b.toArray t, .bytes #[c] u]) Q E s := by
  refine call_meets slot_split (typeIs_bytes _ _ _) entry_split (args_split _ _) meets_split ⟨hz, fun vs k hv a s' e1 e2 => ?_⟩
  subst e1 e2
  exact h _ vs _ k hv (F.push _) (N.push F _) fun q hq => Heap.lt_size (N q hq).1
theorem method_split {M : Model} {pl : Sem Bool} {Q : Value × List Value → Shared → Prop} {b : Array UInt8} (h : Q (.builtin "bytes.split", [.bytes b t]) s) : wpAny M A (getMethod (.bytes b t) "split" pl) Q E s := by
  with_reducible exact KBd.method_of (.bytes b t) (typeIs_bytes _ _ _) slot_split type_split KBd.noRef h
theorem method_join {M : Model} {pl : Sem Bool} {Q : Value × List Value → Shared → Prop} {b : Array UInt8} (h : Q (.builtin "bytes.join", [.bytes b t]) s) : wpAny M A (getMethod (.bytes b t) "join" pl) Q E s := by
  with_reducible exact KBd.method_of (.bytes b t) (typeIs_bytes _ _ _) slot_join type_join KBd.noRef h
theorem selfAndOne_join (a v : Value) : PySem.selfAndOne "bytes.join" ⟨[a, v], []⟩ = pure (a, v) := by kernel_rfl
theorem take_eq {id : String} {b : Array UInt8} : Builtin.Bytes.takeBufferQuiet? id (.bytes b t) 0 = pure (some (b, none)) := by
  unfold Builtin.Bytes.takeBufferQuiet? Builtin.Bytes.takeBuffer?
  rw [KBy.special_eq KBy.look_buffer, KBy.own_buffer, show ((0 : Int) == Builtin.Bytes.fullReadOnly) = false from by decide, KBy.buffer_eq]
  kernel_rfl
theorem forIn_list_inv {M : Model} {β : Type} {f : Nat → β → Sem (ForInStep β)} (I : Nat → β → Prop) (s : Shared) (n : Nat)
    (turn : ∀ i b, i < n → I i b → ∀ Q : ForInStep β → Shared → Prop, (∀ b', I (i + 1) b' → Q (.yield b') s) → wpAny M A (f i b) Q E s) :
    ∀ (k i : Nat) (b : β) (Q : β → Shared → Prop), i + k = n → I i b → (∀ b', I n b' → Q b' s) → wpAny M A (forIn (List.range' i k) b f) Q E s
  | 0, i, b, Q, hk, hI, hQ => by
    have : i = n := by omega
    subst this
    exact wpAny_pure (hQ b hI)
  | k + 1, i, b, Q, hk, hI, hQ => by
    rw [List.range'_succ, List.forIn_cons]
    refine wpAny_bind (turn i b (by omega) hI _ fun b' hI' => ?_)
    exact forIn_list_inv I s n turn k (i + 1) b' Q (by omega) hI' hQ
theorem forIn_inv {M : Model} {β : Type} {f : Nat → β → Sem (ForInStep β)} {b₀ : β} {n : Nat} {Q : β → Shared → Prop} (I : Nat → β → Prop) (h0 : I 0 b₀)
    (turn : ∀ i b, i < n → I i b → ∀ Q : ForInStep β → Shared → Prop, (∀ b', I (i + 1) b' → Q (.yield b') s) → wpAny M A (f i b) Q E s)
    (hQ : ∀ b', I n b' → Q b' s) : wpAny M A (forIn [:n] b₀ f) Q E s := by
  rw [Std.Legacy.Range.forIn_eq_forIn_range']
  have e : ([:n] : Std.Legacy.Range).size = n := by simp [Std.Legacy.Range.size]
  rw [e]
  exact forIn_list_inv I s n turn n 0 b₀ Q (by omega) h0 hQ
theorem joinLetGo_plain {M : Model} {Q : Unit → Shared → Prop} {keep : List Value} : ∀ (taken : List (Value × Option Value)) (s : Shared), (∀ x ∈ taken, x.2 = none) → Q () s → wpAny M A (Builtin.Bytes.joinLetGo taken keep) Q E s
  | [], s, _, h => wpAny_pure h
  | (x, o) :: r, s, hn, h => by
    have : o = none := hn (x, o) (.head _)
    subst this
    unfold Builtin.Bytes.joinLetGo
    exact wpAny_bind (wpAny_letGo (joinLetGo_plain r s (fun y hy => hn y (.tail _ hy)) h))
theorem foldl_sizes (ps : List (List UInt8)) : ∀ k : Nat, ((ps.map List.toArray).toArray.foldl (fun (n : Nat) (p : Array UInt8) => n + p.size) k) = k + (ps.map List.length).sum := by
  intro k
  rw [List.foldl_toArray]
  induction ps generalizing k with
  | nil => simp
  | cons p ps ih => simp only [List.map_cons, List.foldl_cons, List.sum_cons]; rw [ih]; simp; omega
theorem join_match {β : Type} {arr : Array Value} (h : arr.size ≠ 1) (f : Value → Sem β) (g : Array Value → Sem β) : Builtin.Bytes.joinM.match_1 (fun _ => Sem β) arr f g = g arr := by
  unfold Builtin.Bytes.joinM.match_1
  exact dif_neg h
theorem meets_join {l : Addr} {vs : List Value} {bs : List (List UInt8)} {sep : List UInt8} (hv : BytesAre vs bs) (hz : (joinL sep bs).length ≤ 16777216) (hzz : sep.length * (bs.length - 1) + (bs.map List.length).sum ≤ 16777216) :
    Meets (Builtin.«bytes.join» ⟨[.bytes sep.toArray t, .ref l], []⟩) (fun _ R s => s.heap.IsList l vs.toArray ∧ ∀ t' k, R (.ok (.ret (.bytes (joinL sep bs).toArray t'))) { s with toks := k }) := by
  refine .of_wp fun prog w A R s hS => ?_
  obtain ⟨hl, h⟩ := hS
  have hT : s.TypeIs (.ref l) "list" := hl.typeIs
  obtain ⟨o, ho, hc, n, hd⟩ := hl
  show wpAny _ _ (Builtin.Bytes.joinM .bytes ⟨[.bytes sep.toArray t, .ref l], []⟩) _ _ s
  unfold Builtin.Bytes.joinM
  show wpAny _ _ (PySem.selfAndOne "bytes.join" ⟨[.bytes sep.toArray t, .ref l], []⟩ >>= _) _ _ s
  refine wpAny_bind (wpAny_of_eq (selfAndOne_join _ _) ?_)
  dsimp only
  refine bm_if_true (by rfl) ?_
  unfold Builtin.Bytes.joinItems
  refine wpAny_bind (wpAny_bind (wpAny_typeOf hT ?_))
  refine bm_if_true (by decide) (wpAny_pure ?_)
  refine wpAny_bind (wpAny_seqItems ho hd ?_)
  have hlen := hv.length
  by_cases h1 : vs.length = 1
  · obtain ⟨v, rfl⟩ := List.length_eq_one_iff.mp h1
    cases bs with
    | nil => exact hv.elim
    | cons b bs =>
      cases bs with
      | cons b' bs => exact hv.2.elim
      | nil =>
        obtain ⟨⟨tb, rfl⟩, _⟩ := hv
        dsimp only
        refine bm_if_true rfl ?_
        refine wpAny_bind (wpAny_typeOf (typeIs_bytes _ _ _) ?_)
        refine bm_if_true (by decide) ?_
        refine wpAny_bind (wpAny_rule (wpAny_pure ⟨_, rfl, ?_⟩))
        exact h tb s.toks
  · dsimp only
    refine bm_if_true rfl ?_
    rw [join_match (by simpa using h1)]
    · refine wpAny_bind (forIn_inv (fun i (b : Array (Array UInt8) × List (Value × Option Value)) => b.1 = ((bs.take i).map List.toArray).toArray ∧ ∀ x ∈ b.2, x.2 = none ∧ x.1.onHeap = false) ⟨by simp, fun x hx => nomatch hx⟩ ?_ ?_)
      · rintro i ⟨ps, tk⟩ hi ⟨e1, e2⟩ Q hQ
        have hi' : i < vs.length := by simpa using hi
        obtain ⟨v, hvi⟩ : ∃ v, vs[i]? = some v := ⟨vs[i], List.getElem?_eq_getElem hi'⟩
        obtain ⟨b, tb, hbi, rfl⟩ := hv.get hvi
        have hgd : vs.toArray.getD i Value.none = .bytes b.toArray tb := by
          rw [Array.getD_eq_getD_getElem?]
          simp [hvi]
        refine wpAny_bind (wpAny_seqItems ho hd ?_)
        dsimp only
        rw [hgd]
        refine bm_if_false ?_ ?_
        · show (false || _) = false
          rw [Bool.false_or, List.any_eq_false]
          intro x hx
          simp [(e2 x hx).2]
        refine wpAny_bind (wpAny_holding (wpAny_of_eq take_eq ?_))
        dsimp only
        refine wpAny_bind (wpAny_seqItems ho hd ?_)
        dsimp only
        refine bm_if_false (by simp) (wpAny_pure (hQ _ ⟨?_, ?_⟩))
        · dsimp only at e1 ⊢
          rw [e1, List.take_add_one, hbi]
          simp
        · intro x hx
          rcases List.mem_append.mp hx with hx | hx
          · exact e2 x hx
          · obtain rfl := List.mem_singleton.mp hx
            exact ⟨rfl, rfl⟩
      · rintro ⟨ps, tk⟩ ⟨e1, e2⟩
        dsimp only at e1 e2 ⊢
        have e3 : ps = (bs.map List.toArray).toArray := by
          rw [e1, List.size_toArray, hlen, List.take_length]
        subst e3
        refine wpAny_bind (wpAny_of_eq (a := sep.toArray) rfl ?_)
        refine bm_if_false ?_ ?_
        · rw [foldl_sizes]
          refine KBy.tooLong_not ?_
          simpa using hzz
        rw [List.toList_toArray, joined_eq]
        refine wpAny_bind (wpAny_mkBytes ?_ (by rw [List.size_toArray, sizeLine_eq]; exact hz))
        refine wpAny_bind (wpAny_holding (wpAny_point ?_))
        refine wpAny_bind (joinLetGo_plain _ _ (fun x hx => (e2 x hx).1) ?_)
        exact wpAny_pure ⟨_, rfl, h _ _⟩
theorem joinL_length (sep : List UInt8) : ∀ bs : List (List UInt8), (joinL sep bs).length = sep.length * (bs.length - 1) + (bs.map List.length).sum
  | [] => by simp [joinL]
  | [p] => by simp [joinL]
  | p :: q :: r => by
    have := joinL_length sep (q :: r)
    simp only [joinL, List.length_append, this, List.length_cons, List.map_cons, List.sum_cons, Nat.add_sub_cancel]
    rw [Nat.mul_add]
    omega
theorem join_K {l : Addr} {vs : List Value} {bs : List (List UInt8)} {sep : List UInt8} (hl : s.heap.IsList l vs.toArray) (hv : BytesAre vs bs) (hz : (joinL sep bs).length ≤ 16777216)
    (h : ∀ t' k, Q (.bytes (joinL sep bs).toArray t') { s with toks := k }) : wpAny (model prog w) A (call (.builtin "bytes.join") [.bytes sep.toArray t, .ref l]) Q E s :=
  call_meets slot_join (typeIs_bytes _ _ _) entry_join (args_join _ _) (meets_join hv hz (by rw [← joinL_length]; exact hz)) ⟨hl, h⟩
end
section
variable {prog : Program} {w : World} {A : Around} {E : Value → Shared → Prop} {s : Shared} {env : Env} {h₀ : Heap} {x : Str} {body : List Stmt} {Q : Flow → Shared → Prop} {m₀ : Str → Option Value}
theorem iter_val {l : Addr} {vs : List Value} {rest : List (Addr × Obj)} (J : Nat → (Str → Option Value) → List (Addr × Obj) → Prop)
    (hh : A.handled = none) (hl : s.heap.IsList l vs.toArray) (hL : l ≠ env.locals) (F : Fr h₀ env.locals s.heap m₀) (N : News h₀ env.locals s.heap rest) (hnl : ∀ q ∈ rest, q.1 ≠ l) (hj : J 0 m₀ rest)
    (turn : ∀ i v m₁ news₁ h tk own, vs[i]? = some v → news₁.map (·.1) = rest.map (·.1) → OwnOff own (rest.map (·.1)) → J i m₁ news₁ → Fr h₀ env.locals h (fun y => if y = x then some v else m₁ y) → News h₀ env.locals h (news₁ ++ own) →
      wpAny (model prog w) A (execs body env) (InvPostN h₀ env.locals (J (i + 1)) own (rest.map (·.1)) { s with heap := h, toks := tk } Q) E { s with heap := h, toks := tk })
    (done : ∀ m₁ news₁ h tk, J vs.length m₁ news₁ → Fr h₀ env.locals h m₁ → News h₀ env.locals h news₁ → Q .next { s with heap := h, toks := tk }) :
    wpAny (model prog w) A (pyIter (.ref l)) (fun it s₂ => LoopAtV prog w A h₀ env x body Q E it s₂) E s := by
  obtain ⟨ol, hol, _⟩ := id hl
  have hne : l ≠ s.heap.objs.size := Nat.ne_of_lt (Heap.lt_size hol)
  refine wpAny_pyIter_list hl ?_
  have W := Walks.list (prog := prog) (w := w) hh s.heap.objs.size l hne vs.toArray
  rw [List.size_toArray] at W
  refine loop_invN J W ?_ ?_ ?_ ?_ ⟨⟨_, Heap.get?_push_size _ rfl, rfl, rfl⟩, hl.at fun o e => Heap.get?_push_of_some _ e⟩ (F.push _) (fun p hp => ⟨Heap.get?_push_of_some _ (N p hp).1, (N p hp).2⟩) hj ?_ ?_
  · intro hm
    rcases List.mem_cons.mp hm with e | hm
    · exact absurd F.ns.lt (e ▸ Nat.lt_irrefl _)
    · exact hL (List.mem_singleton.mp hm).symm
  · intro b hb
    rw [List.mem_singleton.mp hb]
    exact next_is_new F
  · intro p hp hI
    exact absurd (Heap.lt_size (N p hp).1) ((List.mem_singleton.mp hI) ▸ Nat.lt_irrefl _)
  · intro p hp hI
    rcases List.mem_cons.mp hI with e | hI
    · exact absurd (Heap.lt_size (N p hp).1) (e ▸ Nat.lt_irrefl _)
    · exact hnl p hp (List.mem_singleton.mp hI)
  · intro i v m₁ news₁ h tk own _ hP hadr hoff hJ F₁ N₁
    exact turn i v m₁ news₁ h tk own (by simpa using hP) hadr hoff hJ F₁ N₁
  · exact done
theorem iter_bl {l nc : Addr} {vs us₀ : List Value} {n₀ : Nat} {more : List (Addr × Obj)} {bs a₀ : List (List UInt8)} (g : List (List UInt8) → List UInt8 → List (List UInt8))
    (hh : A.handled = none) (hl : s.heap.IsList l vs.toArray) (hL : l ≠ env.locals) (F : Fr h₀ env.locals s.heap m₀) (N : News h₀ env.locals s.heap ((nc, listOf us₀.toArray n₀) :: more)) (hne : nc ≠ l) (hv : BytesAre vs bs) (hu : BytesAre us₀ a₀)
    (turn : ∀ i c t a us n h tk own, bs[i]? = some c → a = (bs.take i).foldl g a₀ → OwnOff own [nc] → BytesAre us a → Fr h₀ env.locals h (fun y => if y = x then some (.bytes c.toArray t) else m₀ y) → News h₀ env.locals h ((nc, listOf us.toArray n) :: own) →
      wpAny (model prog w) A (execs body env) (InvPostN h₀ env.locals (fun m' nx => (∃ us' n', nx = [(nc, listOf us'.toArray n')] ∧ BytesAre us' (g a c)) ∧ ∀ z, z ≠ x → m' z = m₀ z) own [nc] { s with heap := h, toks := tk } Q) E { s with heap := h, toks := tk })
    (done : ∀ (u : Str → Option Value) us n h tk, BytesAre us (bs.foldl g a₀) → Fr h₀ env.locals h (fun z => if z = x then u z else m₀ z) → News h₀ env.locals h [(nc, listOf us.toArray n)] → Q .next { s with heap := h, toks := tk }) :
    wpAny (model prog w) A (pyIter (.ref l)) (fun it s₂ => LoopAtV prog w A h₀ env x body Q E it s₂) E s := by
  refine iter_val (fun i m nx => (∃ us n, nx = [(nc, listOf us.toArray n)] ∧ BytesAre us ((bs.take i).foldl g a₀)) ∧ ∀ z, z ≠ x → m z = m₀ z) hh hl hL F (rest := [(nc, listOf us₀.toArray n₀)]) (fun q hq => N q (by rw [List.mem_singleton.mp hq]; exact .head _)) (fun q hq => by rw [List.mem_singleton.mp hq]; exact hne) ⟨⟨us₀, n₀, rfl, by simpa using hu⟩, fun _ _ => rfl⟩ ?_ ?_
  · rintro i v m₁ nx h tk own hvi _ hoff ⟨⟨us, n, rfl, hus⟩, hm⟩ F₁ N₁
    rw [map_none hm] at F₁
    obtain ⟨c, t, hc, rfl⟩ := hv.get hvi
    have hs : (bs.take (i + 1)).foldl g a₀ = g ((bs.take i).foldl g a₀) c := by
      rw [List.take_add_one, hc]; simp
    rw [hs]
    exact turn i c t _ us n h tk own hc rfl hoff hus F₁ N₁
  · rintro m₁ nx h tk ⟨⟨us, n, rfl, hus⟩, hm⟩ F₁ N₁
    rw [hv.length, List.take_length] at hus
    refine done m₁ us n h tk hus ?_ N₁
    rw [done_none hm]; exact F₁
end
theorem gsub_nil {H g h : Heap} {L : Addr} {m : Str → Option Value} (hG : GSub H g (([] : List (Addr × Obj)).map (·.1))) (F : Fr g L h m) : ∀ b o, H.get? b = some o → h.get? b = some o := fun b o e => F.keep b o (hG b o e (fun q => by cases q))
theorem BytesAre.last : ∀ {us : List Value} {a : List (List UInt8)}, BytesAre us a → us.isEmpty = false → ∃ c t, us = us.dropLast ++ [.bytes c.toArray t] ∧ a.getLast? = some c ∧ BytesAre us.dropLast a.dropLast
  | [], [], _, h => by cases h
  | [v], [b], h, _ => by
    obtain ⟨t, rfl⟩ := h.1
    exact ⟨b, t, rfl, rfl, trivial⟩
  | v :: v' :: us, b :: b' :: a, h, _ => by
    obtain ⟨c, t, e1, e2, e3⟩ := BytesAre.last h.2 rfl
    refine ⟨c, t, congrArg (List.cons v) e1, ?_, ⟨h.1, e3⟩⟩
    rw [List.getLast?_cons_cons]
    exact e2
section
variable {prog : Program} {w : World} {A : Around} {E : Value → Shared → Prop} {s : Shared} {h₀ : Heap} {L D : Addr} {m : Str → Option Value} {news news' : List (Addr × Obj)} {n : Nat} {us : List Value} {a : List (List UInt8)} {Q : Value → Shared → Prop}
theorem pop_bl (F : Fr h₀ L s.heap m) (N : News h₀ L s.heap news) (U : Upd D (listOf us.toArray n) (listOf us.dropLast.toArray (n + 1)) news news') (hi : BytesAre us a) (hne : us.isEmpty = false)
    (hz : us.length ≤ 200000) (h : ∀ h' v, Fr h₀ L h' m → News h₀ L h' news' → BytesAre us.dropLast a.dropLast → Q v { s with heap := h' }) : wpAny (model prog w) A (call (.builtin "list.pop") [.ref D]) Q E s := by
  obtain ⟨c, t, e1, e2, e3⟩ := hi.last hne
  refine kl_pop F N (p := us.dropLast) (y := .bytes c.toArray t) ?_ U (by rw [sizeLine_eq, Array.length_toList, List.size_toArray]; omega) fun h' F' N' => h h' _ F' N' e3
  have e := kpa_last (.bytes c.toArray t) us.dropLast
  rw [← e1] at e
  simpa using e
theorem last_bl {value slice : PySem.Expr} {u : Tok} (N : News h₀ L s.heap news) (hm : (D, listOf us.toArray n) ∈ news) (hi : BytesAre us a) (hne : us.isEmpty = false)
    (h : ∀ c t, a.getLast? = some c → Q (.bytes c.toArray t) s)
    (hs : subscripted slice false (.ref D) (.int (-1) u) = operate [.ref D, .int (-1) u] (getItem (.ref D) (.int (-1) u)) := by with_unfolding_all rfl) :
    wpAny (model prog w) A (subscriptTail value slice (.ref D) (.int (-1) u)) Q E s := by
  obtain ⟨c, t, e1, e2, e3⟩ := hi.last hne
  have hL : s.heap.IsList D us.toArray := ⟨_, (N _ hm).1, rfl, n, rfl⟩
  have hpos : 0 < us.length := by
    cases hu : us with
    | nil => rw [hu] at hne; cases hne
    | cons _ _ => exact Nat.succ_pos _
  refine tail_any hL.typeIs slot_list_getitem.lookup (wpAny_getItem_list_neg hL (by decide) (by rw [List.size_toArray]; omega) (by decide) ?_ (h c t e2)) hs
  rw [List.size_toArray]
  have : (-1 + (us.length : Int)).toNat = us.dropLast.length := by rw [List.length_dropLast]; omega
  rw [this]
  rw [List.getElem?_toArray]
  have e4 := congrArg (fun l => l[us.dropLast.length]?) e1
  simpa using e4
end
theorem bl_end {h₀ : Heap} {L : Addr} {x : Str} {m₀ m' : Str → Option Value} {nc : Addr} {own : List (Addr × Obj)} {its : Array Value} {n' : Nat} {r r' : List (List UInt8)} {s₁ : Shared} {h' : Heap} {tk' : Nat} {Q : Flow → Shared → Prop} {f : Flow}
    (F : Fr h₀ L h' m') (N : News h₀ L h' ((nc, listOf its n') :: own)) (hm : ∀ z, z ≠ x → m' z = m₀ z) (e : r = r') (hb : BytesAre its.toList r') (hf : f = .next ∨ f = .cont) :
    InvPostN h₀ L (fun m' nx => (∃ us' n', nx = [(nc, listOf us'.toArray n')] ∧ BytesAre us' r) ∧ ∀ z, z ≠ x → m' z = m₀ z) own [nc] s₁ Q f { s₁ with heap := h', toks := tk' } := by
  subst e
  have key : InvEndN h₀ L (fun m' nx => (∃ us' n', nx = [(nc, listOf us'.toArray n')] ∧ BytesAre us' r) ∧ ∀ z, z ≠ x → m' z = m₀ z) own [nc] s₁ { s₁ with heap := h', toks := tk' } :=
    ⟨h', tk', m', _, [(nc, listOf its n')], rfl, F, N, fun p hp => by rw [List.mem_singleton.mp hp]; exact .head _, fun p hp => .tail _ hp, rfl, ⟨its.toList, n', by rw [Array.toArray_toList], hb⟩, hm⟩
  rcases hf with rfl | rfl <;> exact key
theorem BytesAre.empty {us : List Value} {a : List (List UInt8)} (h : BytesAre us a) (e : us.isEmpty = true) : a = [] := by
  have := h.length
  rw [List.isEmpty_iff.mp e] at this
  exact List.length_eq_zero_iff.mp this.symm
theorem BytesAre.nonempty {us : List Value} {a : List (List UInt8)} (h : BytesAre us a) (e : us.isEmpty = false) : a ≠ [] := by
  rintro rfl
  have := h.length
  have h2 : us = [] := List.length_eq_zero_iff.mp this
  rw [h2] at e
  cases e
theorem BytesAre.push {us : List Value} {a : List (List UInt8)} {c : List UInt8} {t : Tok} (h : BytesAre us a) : BytesAre (us.toArray.push (.bytes c.toArray t)).toList (a ++ [c]) := by
  rw [Array.toList_push]
  exact h.append BytesAre.one
local macro_rules | `(tactic| k_all) => `(tactic| (refine OwnOff.ne ?o ?b; (case o => assumption); (case b => exact List.Mem.head _)))
noncomputable def rootB (p : List UInt8) : List UInt8 := if cutL p none (some 1) ≠ [47] then [] else if cutL p (some 1) (some 2) ≠ [47] ∨ cutL p (some 2) (some 3) = [47] then [47] else cutL p none (some 2)
noncomputable def restB (p : List UInt8) : List UInt8 := if cutL p none (some 1) ≠ [47] then p else if cutL p (some 1) (some 2) ≠ [47] ∨ cutL p (some 2) (some 3) = [47] then cutL p (some 1) none else cutL p (some 2) none
theorem restB_le (p : List UInt8) : (restB p).length ≤ p.length := by
  unfold restB
  split
  · exact Nat.le_refl _
  · split <;> exact cutL_le _ _ _
theorem rootB_le (p : List UInt8) : (rootB p).length ≤ 2 := by
  unfold rootB
  split
  · simp
  · split
    · simp
    · show (cutL p none (some 2)).length ≤ 2
      unfold cutL
      rw [List.length_take]
      show min (clipAt p.length 2 - 0) _ ≤ 2
      have : clipAt p.length 2 = min 2 p.length := clipAt_nat _ 2
      rw [this, Nat.sub_zero]
      exact Nat.le_trans (Nat.min_le_left _ _) (Nat.min_le_left _ _)
local macro_rules | `(tactic| walk_at "my:b_size") => `(tactic| first | ((refine Nat.le_trans (rootB_le _) ?_; walk_at "my:b_size")) | ((refine Nat.le_trans (restB_le _) ?_; walk_at "my:b_size")) | (first
  | omega
  | (refine Nat.le_trans (cutL_le _ _ _) ?_; walk_at "my:b_size")
  | (simp only [List.length_append, List.length_cons, List.length_nil]; omega)
  | decide))
noncomputable def normStep (root : List UInt8) (acc : List (List UInt8)) (c : List UInt8) : List (List UInt8) :=
  if c = [] ∨ c = [46] then acc
  else if c ≠ [46, 46] ∨ (root = [] ∧ acc = []) ∨ (acc ≠ [] ∧ acc.getLast? = some [46, 46]) then acc ++ [c]
  else acc.dropLast
noncomputable def normB (p : List UInt8) : List UInt8 :=
  if p = [] then [46] else
    let r := rootB p ++ joinL [47] ((splitL 47 (restB p)).foldl (normStep (rootB p)) [])
    if r = [] then [46] else r
section
variable {r c c9 : List UInt8} {a : List (List UInt8)} {us : List Value}
theorem ns_dot (h : c = [46]) : normStep r a c = a := by simp [normStep, h]
theorem ns_nil (h : ¬ c ≠ []) : normStep r a c = a := by
  have : c = [] := Classical.not_not.mp h
  simp [normStep, this]
theorem ns_name (h1 : c ≠ []) (h2 : ¬ c = [46]) (h3 : c ≠ [46, 46]) : normStep r a c = a ++ [c] := by simp [normStep, h1, h2, h3]
theorem ns_re (h3 : ¬ c ≠ [46, 46]) (h4 : r ≠ []) (h5 : us.isEmpty = true) (hu : BytesAre us a) : normStep r a c = a := by
  have h := hu.empty h5
  have hc : c = [46, 46] := Classical.not_not.mp h3
  simp [normStep, h, h4, hc]
theorem ns_ld (h3 : ¬ c ≠ [46, 46]) (h5 : us.isEmpty = false) (hu : BytesAre us a) (hl : a.getLast? = some c9) (h6 : c9 = [46, 46]) : normStep r a c = a ++ [c] := by
  have h := hu.nonempty h5
  have hc : c = [46, 46] := Classical.not_not.mp h3
  simp [normStep, h, hc, hl, h6]
theorem ns_pop (h3 : ¬ c ≠ [46, 46]) (h5 : us.isEmpty = false) (hu : BytesAre us a) (hl : a.getLast? = some c9) (h6 : ¬ c9 = [46, 46]) : normStep r a c = a.dropLast := by
  have h := hu.nonempty h5
  have hc : c = [46, 46] := Classical.not_not.mp h3
  simp [normStep, h, hc, hl, h6]
theorem ns_ne (h3 : ¬ c ≠ [46, 46]) (h4 : ¬ r ≠ []) (h5 : us.isEmpty = true) (hu : BytesAre us a) : normStep r a c = a ++ [c] := by
  have h := hu.empty h5
  have hr : r = [] := Classical.not_not.mp h4
  have hc : c = [46, 46] := Classical.not_not.mp h3
  simp [normStep, h, hr, hc]
end
theorem normStep_len (r : List UInt8) (a : List (List UInt8)) (c : List UInt8) : (normStep r a c).length ≤ a.length + 1 := by
  unfold normStep
  split
  · omega
  · split
    · simp
    · simp; omega
theorem normFold_len (r : List UInt8) : ∀ (bs a : List (List UInt8)), (bs.foldl (normStep r) a).length ≤ a.length + bs.length
  | [], a => by simp
  | b :: bs, a => by
    have := normFold_len r bs (normStep r a b)
    have := normStep_len r a b
    simp only [List.foldl_cons, List.length_cons]
    omega
theorem normB_a {p : List UInt8} (h1 : p ≠ []) (h2 : rootB p ++ joinL [47] ((splitL 47 (restB p)).foldl (normStep (rootB p)) []) ≠ []) : normB p = rootB p ++ joinL [47] ((splitL 47 (restB p)).foldl (normStep (rootB p)) []) := by
  unfold normB
  rw [if_neg h1]
  dsimp only
  rw [if_neg h2]
theorem normB_b {p : List UInt8} (h1 : p ≠ []) (h2 : ¬ rootB p ++ joinL [47] ((splitL 47 (restB p)).foldl (normStep (rootB p)) []) ≠ []) : normB p = [46] := by
  unfold normB
  rw [if_neg h1]
  dsimp only
  rw [if_pos (Classical.not_not.mp h2)]
theorem normB_c {p : List UInt8} (h1 : ¬ p ≠ []) : normB p = [46] := by
  unfold normB
  rw [if_pos (Classical.not_not.mp h1)]
theorem ret_bytes {s : Shared} {Q : Value → Shared → Prop} {r r' : List UInt8} {h' : Heap} {tk' : Nat} {t : Tok} (ret : ∀ (t : Tok) (h' : Heap) (tk' : Nat), (∀ b o, s.heap.get? b = some o → h'.get? b = some o) → Q (.bytes r.toArray t) { s with heap := h', toks := tk' })
    (e : r = r') (hk : ∀ b o, s.heap.get? b = some o → h'.get? b = some o) : Q (.bytes r'.toArray t) { s with heap := h', toks := tk' } := by
  subst e
  exact ret t h' tk' hk
noncomputable def sumLen (a : List (List UInt8)) : Nat := (a.map List.length).sum
theorem sumLen_drop : ∀ a : List (List UInt8), sumLen a.dropLast ≤ sumLen a
  | [] => Nat.le_refl _
  | [x] => by simp [sumLen]
  | x :: y :: r => by
    have := sumLen_drop (y :: r)
    simp only [sumLen, List.dropLast_cons_cons, List.map_cons, List.sum_cons] at this ⊢
    omega
theorem sumLen_step (r : List UInt8) (a : List (List UInt8)) (c : List UInt8) : sumLen (normStep r a c) ≤ sumLen a + c.length := by
  unfold normStep
  split
  · omega
  · split
    · simp [sumLen]
    · have := sumLen_drop a; omega
theorem sumLen_fold (r : List UInt8) : ∀ (bs a : List (List UInt8)), sumLen (bs.foldl (normStep r) a) ≤ sumLen a + sumLen bs
  | [], a => by simp [sumLen]
  | b :: bs, a => by
    have h1 := sumLen_fold r bs (normStep r a b)
    have h2 := sumLen_step r a b
    have h3 : sumLen (b :: bs) = b.length + sumLen bs := by simp [sumLen]
    rw [List.foldl_cons, h3]
    omega
theorem sumLen_split (c : UInt8) : ∀ l, sumLen (splitL c l) ≤ l.length
  | [] => by simp [splitL, sumLen]
  | x :: xs => by
    have ih := sumLen_split c xs
    unfold splitL
    split
    · simp only [sumLen, List.map_cons, List.sum_cons, List.length_nil, List.length_cons] at ih ⊢; omega
    · split
      · rename_i e; rw [e] at ih; simp only [sumLen, List.map_cons, List.sum_cons, List.length_cons] at ih ⊢; omega
      · simp [sumLen]
theorem joinFold_len (p : List UInt8) (hz : p.length ≤ 100000) : (joinL [47] ((splitL 47 (restB p)).foldl (normStep (rootB p)) [])).length ≤ 200001 := by
  rw [joinL_length]
  have h1 := sumLen_fold (rootB p) (splitL 47 (restB p)) []
  have h2 := sumLen_split 47 (restB p)
  have h3 := normFold_len (rootB p) (splitL 47 (restB p)) []
  have h4 := splitL_length 47 (restB p)
  have h5 := restB_le p
  have h6 : sumLen [] = 0 := rfl
  simp only [List.length_nil, List.length_cons] at *
  unfold sumLen at *
  omega
open_top hd for PySem.Challenge.rw_nq0013_01
section
variable {w : World} {mean : ExcName → Option Value} {mg mb : Str → Option Value} {dp un : Nat} {gd : Option (List Code)} {cn : Str} {cs : Scope} {a : Addr} {ccd : Value} {cl : List (Str × Addr)} {outer : List Env} {A₀ : Around} {base h₀ : Heap} {L : Addr} {m : Str → Option Value} {news : List (Addr × Obj)} {s : Shared} {Q E : Value → Shared → Prop}
theorem fspath_call {p : List UInt8} {t : Tok}
    (B : Below A₀ base outer h₀) (F : Fr h₀ L s.heap m) (X : (hd.heap_39 w.params).In h₀) (T : Top hd.view_39 (looseW hd.view_39 []) mean mg mb h₀) (hk : cs.kind = .function)
    (hd1 : dp + 1 < recursionLimit) (hu : un + 20 < cLine)
    (ret : ∀ (h' : Heap) (tk' : Nat), (∀ b o, s.heap.get? b = some o → h'.get? b = some o) → Q (.bytes p.toArray t) { s with heap := h', toks := tk' }) :
    wpAny (model Challenge.rw_nq0013_01.row.prog w) (ktrTop dp un gd cn cs L a ccd cl outer) (call (.ref 94) [.bytes p.toArray t]) Q E s := by
  w_top off
  revert X
  k_fill
  intro X
  refine wpAny_call ?_
  k_dflt ((refine' code_defG ?k1 ?k2 ?k3 News.nil ?k5 ?kA ?kF ?kK ?k6 ?k7 ?k8 ?k9 ?kB ?_ ?c2 ?c3 ?c4 ?c5; (case kA => exact rfl); (case kF => exact rfl); (case kK => assumption); (case k1 => k_asm); (case k2 => k_asm); (case k3 => k_asm); (case k5 => k_asm); (case k6 => k_is); (case k7 => k_is); (case k8 => ktr_room); (case k9 => exact BindsTo.of_eq rfl); (case c5 => decide); (case kB => exact locs rfl); (case c2 => exact rfl); (case c3 => exact rfl); (case c4 => exact rfl); k_whole; intro g' L' h' FG' F' N' B' X' T' hG'; (try dsimp only); (try k_lift B'); (try k_fold)))
  (repeat' (first | (k_unfold; (try dsimp only)) | ((((fail_if_success (with_reducible show InvPostN _ _ _ _ _ _ _ _ _)); (fail_if_success (with_reducible show InvEndN _ _ _ _ _ _ _)); (fail_if_success (with_reducible show wpG _ _ _ _ _ _)); (fail_if_success (with_reducible show wpAny _ _ (pyIter (Value.ref _)) _ _ _)))); (first | (with_reducible (k_here; (with_reducible show wpAny _ _ (call (Value.type "type") [Value.bytes _ _]) _ _ _); refine call_type_bytes ?_)) | (with_reducible (k_here; (with_reducible show wpAny _ _ (call (Value.builtin "issubclass") [Value.type "bytes", Value.ref _]) _ _ _); k_dflt (refine' issubclass_bytes ?t ?_; (case t => exact News.isTup (by k_asm) (by k_mem)); k_whole))) | walk1)) | ((((fail_if_success (with_reducible show InvPostN _ _ _ _ _ _ _ _ _)); (fail_if_success (with_reducible show InvEndN _ _ _ _ _ _ _)); (fail_if_success (with_reducible show wpG _ _ _ _ _ _)); (fail_if_success (with_reducible show wpAny _ _ (pyIter (Value.ref _)) _ _ _)))); dsimp only; (first | (with_reducible (k_here; (with_reducible show wpAny _ _ (call (Value.type "type") [Value.bytes _ _]) _ _ _); refine call_type_bytes ?_)) | (with_reducible (k_here; (with_reducible show wpAny _ _ (call (Value.builtin "issubclass") [Value.type "bytes", Value.ref _]) _ _ _); k_dflt (refine' issubclass_bytes ?t ?_; (case t => exact News.isTup (by k_asm) (by k_mem)); k_whole))) | walk1)) | (leave1; walk_say "STEP leave1"; try dsimp only) | fail "no step"))
  exact ret _ _ (by (exact gsub_nil (by assumption) (by assumption)))
end
section
variable {w : World} {mean : ExcName → Option Value} {mg mb : Str → Option Value} {dp un : Nat} {gd : Option (List Code)} {cn : Str} {cs : Scope} {a : Addr} {ccd : Value} {cl : List (Str × Addr)} {outer : List Env} {A₀ : Around} {base h₀ : Heap} {L : Addr} {m : Str → Option Value} {news : List (Addr × Obj)} {s : Shared} {Q E : Value → Shared → Prop}
noncomputable abbrev splitRet (s : Shared) (Q : Value → Shared → Prop) (p : List UInt8) : Prop :=
  ∀ (D : Addr) (t1 t2 t3 : Tok) (h' : Heap) (tk' : Nat), (∀ b o, s.heap.get? b = some o → h'.get? b = some o) → h'.get? D = some { cls := .type "tuple", data := .seq #[.bytes #[] t1, .bytes (rootB p).toArray t2, .bytes (restB p).toArray t3] } → s.heap.get? D = none → Q (.ref D) { s with heap := h', toks := tk' }
theorem split_end {g h' : Heap} {p r x : List UInt8} {D L' : Addr} {m' : Str → Option Value} {news : List (Addr × Obj)} {t1 t2 t3 : Tok} {tk' : Nat} (ret : splitRet s Q p) (hG : GSub s.heap g (([] : List (Addr × Obj)).map (·.1))) (F : Fr g L' h' m')
    (N : News g L' h' ((D, { cls := .type "tuple", data := .seq #[.bytes #[] t1, .bytes r.toArray t2, .bytes x.toArray t3] }) :: news))
    (e1 : rootB p = r) (e2 : restB p = x) : Q (.ref D) { s with heap := h', toks := tk' } := by
  refine ret D t1 t2 t3 h' tk' (gsub_nil hG F) (by rw [e1, e2]; exact (N _ (.head _)).1) ?_
  cases q : s.heap.get? D with
  | none => rfl
  | some o =>
    have := (N _ (.head _)).2.2
    rw [hG _ _ q (fun q => by cases q)] at this
    cases this
theorem splitroot_call {p : List UInt8} {t : Tok}
    (B : Below A₀ base outer h₀) (F : Fr h₀ L s.heap m) (X : (hd.heap_39 w.params).In h₀) (T : Top hd.view_39 (looseW hd.view_39 []) mean mg mb h₀) (hk : cs.kind = .function)
    (hd1 : dp + 2 < recursionLimit) (hu : un + 40 < cLine) (hz : p.length ≤ 100000) (ret : splitRet s Q p) :
    wpAny (model Challenge.rw_nq0013_01.row.prog w) (ktrTop dp un gd cn cs L a ccd cl outer) (call (.ref 101) [.bytes p.toArray t]) Q E s := by
  w_top off
  revert X
  k_fill
  intro X
  refine wpAny_call ?_
  k_dflt ((refine' code_defG ?k1 ?k2 ?k3 News.nil ?k5 ?kA ?kF ?kK ?k6 ?k7 ?k8 ?k9 ?kB ?_ ?c2 ?c3 ?c4 ?c5; (case kA => exact rfl); (case kF => exact rfl); (case kK => assumption); (case k1 => k_asm); (case k2 => k_asm); (case k3 => k_asm); (case k5 => k_asm); (case k6 => k_is); (case k7 => k_is); (case k8 => ktr_room); (case k9 => exact BindsTo.of_eq rfl); (case c5 => decide); (case kB => exact locs rfl); (case c2 => exact rfl); (case c3 => exact rfl); (case c4 => exact rfl); k_whole; intro g' L' h' FG' F' N' B' X' T' hG'; (try dsimp only); (try k_lift B'); (try k_fold)))
  (repeat' (first | (k_unfold; (try dsimp only)) | ((((fail_if_success (with_reducible show InvPostN _ _ _ _ _ _ _ _ _)); (fail_if_success (with_reducible show InvEndN _ _ _ _ _ _ _)); (fail_if_success (with_reducible show wpG _ _ _ _ _ _)); (fail_if_success (with_reducible show wpAny _ _ (pyIter (Value.ref _)) _ _ _)))); (first | (with_reducible (k_here; (with_reducible show wpAny _ _ (call (Value.ref 94) [Value.bytes (List.toArray _) _]) _ _ _); (with_reducible rename Fr _ _ _ _ => kF9); (with_reducible rename News _ _ _ _ => kN9); k_dflt (refine' fspath_call ?k1 ?k2 ?k3 ?k5 ?kK ?kd ?ku ?_; (case k1 => k_asm); (case k2 => k_asm); (case k3 => k_asm); (case k5 => k_asm); (case kK => first | exact rfl | assumption); (case kd => ktr_room); (case ku => ktr_units); k_whole); intro h9 tk9 keep9; (have F9 := Fr.keeps kF9 keep9); (have N9 := News.grown kN9 keep9); clear keep9; (try dsimp only); (try k_fold))) | (with_reducible (k_here; (with_reducible show wpAny _ _ (subscriptTail _ (Expr.Slice _ _ none _) (Value.bytes (List.toArray _) _) (Value.ref _)) _ _ _); (with_reducible rename Fr _ _ _ _ => F'); (with_reducible rename News _ _ _ _ => N'); (refine slice_any (s := ⟨_, _, _, _, _⟩) F' N' (by constructor) (by constructor) (by walk_at "my:b_size") ?_); intro _ _ _ _ _)) | (with_reducible (k_here; (with_reducible show wpAny _ _ (compareOp CmpOp.NotEq (Value.bytes (List.toArray _) _) (Value.bytes (List.toArray _) _)) _ _ _); (refine ne_bytesL ?_))) | (with_reducible (k_here; (with_reducible show wpAny _ _ (compareOp CmpOp.Eq (Value.bytes (List.toArray _) _) (Value.bytes (List.toArray _) _)) _ _ _); (refine eq_bytesL ?_))) | walk1)) | ((((fail_if_success (with_reducible show InvPostN _ _ _ _ _ _ _ _ _)); (fail_if_success (with_reducible show InvEndN _ _ _ _ _ _ _)); (fail_if_success (with_reducible show wpG _ _ _ _ _ _)); (fail_if_success (with_reducible show wpAny _ _ (pyIter (Value.ref _)) _ _ _)))); dsimp only; (first | (with_reducible (k_here; (with_reducible show wpAny _ _ (call (Value.ref 94) [Value.bytes (List.toArray _) _]) _ _ _); (with_reducible rename Fr _ _ _ _ => kF9); (with_reducible rename News _ _ _ _ => kN9); k_dflt (refine' fspath_call ?k1 ?k2 ?k3 ?k5 ?kK ?kd ?ku ?_; (case k1 => k_asm); (case k2 => k_asm); (case k3 => k_asm); (case k5 => k_asm); (case kK => first | exact rfl | assumption); (case kd => ktr_room); (case ku => ktr_units); k_whole); intro h9 tk9 keep9; (have F9 := Fr.keeps kF9 keep9); (have N9 := News.grown kN9 keep9); clear keep9; (try dsimp only); (try k_fold))) | (with_reducible (k_here; (with_reducible show wpAny _ _ (subscriptTail _ (Expr.Slice _ _ none _) (Value.bytes (List.toArray _) _) (Value.ref _)) _ _ _); (with_reducible rename Fr _ _ _ _ => F'); (with_reducible rename News _ _ _ _ => N'); (refine slice_any (s := ⟨_, _, _, _, _⟩) F' N' (by constructor) (by constructor) (by walk_at "my:b_size") ?_); intro _ _ _ _ _)) | (with_reducible (k_here; (with_reducible show wpAny _ _ (compareOp CmpOp.NotEq (Value.bytes (List.toArray _) _) (Value.bytes (List.toArray _) _)) _ _ _); (refine ne_bytesL ?_))) | (with_reducible (k_here; (with_reducible show wpAny _ _ (compareOp CmpOp.Eq (Value.bytes (List.toArray _) _) (Value.bytes (List.toArray _) _)) _ _ _); (refine eq_bytesL ?_))) | walk1)) | (leave1; walk_say "STEP leave1"; try dsimp only) | fail "no step"))
  all_goals refine split_end ret (by assumption) (by assumption) (by assumption) (by simp [rootB, *]) (by simp [restB, *])
theorem news_new {h₀ h h' : Heap} {L D : Addr} {m : Str → Option Value} {o : Obj} {news : List (Addr × Obj)} (F : Fr h₀ L h m) (N : News h₀ L h news) (hk : ∀ b o, h.get? b = some o → h'.get? b = some o) (hD : h'.get? D = some o) (hn : h.get? D = none) : News h₀ L h' ((D, o) :: news) := by
  intro q hq
  rcases List.mem_cons.mp hq with rfl | hq
  · refine ⟨hD, ?_, ?_⟩
    · rintro rfl
      obtain ⟨oL, _, _, hL, _⟩ := F.ns
      rw [hL] at hn; cases hn
    · cases q : h₀.get? D with
      | none => rfl
      | some o' => rw [F.keep _ _ q] at hn; cases hn
  · exact ⟨hk _ _ (N q hq).1, (N q hq).2⟩
end
section
variable {w : World} {mean : ExcName → Option Value} {mg mb : Str → Option Value} {dp un : Nat} {gd : Option (List Code)} {cn : Str} {cs : Scope} {a : Addr} {ccd : Value} {cl : List (Str × Addr)} {outer : List Env} {A₀ : Around} {base h₀ : Heap} {L : Addr} {m : Str → Option Value} {news : List (Addr × Obj)} {s : Shared} {Q E : Value → Shared → Prop}
end
section
variable {prog : Program} {w : World} {A : Around} {E : Value → Shared → Prop} {s : Shared} {h₀ : Heap} {L : Addr} {m : Str → Option Value}
theorem truthy_bl {D : Addr} {us : List Value} {n : Nat} {news : List (Addr × Obj)} {Q : Bool → Shared → Prop} (N : News h₀ L s.heap news) (hm : (D, listOf us.toArray n) ∈ news) (hz : us.length ≤ 1000000)
    (h : Q (!us.isEmpty) { s with toks := s.toks + 1 + 1 }) : wpAny (model prog w) A (truthy (.ref D)) Q E s :=
  wpAny_truthy_list (items := us.toArray) ⟨_, (N _ hm).1, rfl, n, rfl⟩ (by rw [List.size_toArray]; omega) (by rw [List.isEmpty_toArray]; exact h)
theorem app_bl {D : Addr} {us : List Value} {n : Nat} {x : Value} {own : List (Addr × Obj)} {Q : Value → Shared → Prop} (F : Fr h₀ L s.heap m) (N : News h₀ L s.heap ((D, listOf us.toArray n) :: own)) (hoff : OwnOff own [D]) (hz : us.length ≤ 1000000)
    (h : ∀ h', Fr h₀ L h' m → News h₀ L h' ((D, listOf (us.toArray.push x) (n + 1)) :: own) → Q .none { s with heap := h' }) : wpAny (model prog w) A (call (.builtin "list.append") [.ref D, x]) Q E s :=
  append_K F N (.head (hoff.ne (.head _))) h (by rw [sizeLine_eq, List.size_toArray]; omega)
end
section
variable {w : World} {mean : ExcName → Option Value} {mg mb : Str → Option Value} {dp un : Nat} {gd : Option (List Code)} {cn : Str} {cs : Scope} {a : Addr} {ccd : Value} {cl : List (Str × Addr)} {outer : List Env} {A₀ : Around} {base h₀ : Heap} {L : Addr} {m : Str → Option Value} {news : List (Addr × Obj)} {s : Shared} {Q E : Value → Shared → Prop}
theorem normpath_call {p : List UInt8} {t : Tok}
    (B : Below A₀ base outer h₀) (F : Fr h₀ L s.heap m) (X : (hd.heap_39 w.params).In h₀) (T : Top hd.view_39 (looseW hd.view_39 []) mean mg mb h₀) (hk : cs.kind = .function)
    (hd1 : dp + 3 < recursionLimit) (hu : un + 60 < cLine) (hz : p.length ≤ 100000)
    (ret : ∀ (t : Tok) (h' : Heap) (tk' : Nat), (∀ b o, s.heap.get? b = some o → h'.get? b = some o) → Q (.bytes (normB p).toArray t) { s with heap := h', toks := tk' }) :
    wpAny (model Challenge.rw_nq0013_01.row.prog w) (ktrTop dp un gd cn cs L a ccd cl outer) (call (.ref 108) [.bytes p.toArray t]) Q E s := by
  w_top off
  revert X
  k_fill
  intro X
  refine wpAny_call ?_
  k_dflt ((refine' code_defG ?k1 ?k2 ?k3 News.nil ?k5 ?kA ?kF ?kK ?k6 ?k7 ?k8 ?k9 ?kB ?_ ?c2 ?c3 ?c4 ?c5; (case kA => exact rfl); (case kF => exact rfl); (case kK => assumption); (case k1 => k_asm); (case k2 => k_asm); (case k3 => k_asm); (case k5 => k_asm); (case k6 => k_is); (case k7 => k_is); (case k8 => ktr_room); (case k9 => exact BindsTo.of_eq rfl); (case c5 => decide); (case kB => exact locs rfl); (case c2 => exact rfl); (case c3 => exact rfl); (case c4 => exact rfl); k_whole; intro g' L' h' FG' F' N' B' X' T' hG'; (try dsimp only); (try k_lift B'); (try k_fold)))
  (repeat' (first | (k_unfold; (try dsimp only)) | ((((fail_if_success (with_reducible show InvPostN _ _ _ _ _ _ _ _ _)); (fail_if_success (with_reducible show InvEndN _ _ _ _ _ _ _)); (fail_if_success (with_reducible show wpG _ _ _ _ _ _)); (fail_if_success (with_reducible show wpAny _ _ (pyIter (Value.ref _)) _ _ _)))); (first | (with_reducible (k_here; (with_reducible show wpAny _ _ (call (Value.ref 94) [Value.bytes (List.toArray _) _]) _ _ _); (with_reducible rename Fr _ _ _ _ => kF9); (with_reducible rename News _ _ _ _ => kN9); k_dflt (refine' fspath_call ?k1 ?k2 ?k3 ?k5 ?kK ?kd ?ku ?_; (case k1 => k_asm); (case k2 => k_asm); (case k3 => k_asm); (case k5 => k_asm); (case kK => first | exact rfl | assumption); (case kd => ktr_room); (case ku => ktr_units); k_whole); intro h9 tk9 keep9; (have F9 := Fr.keeps kF9 keep9); (have N9 := News.grown kN9 keep9); clear keep9; (try dsimp only); (try k_fold))) | (with_reducible (k_here; (with_reducible show wpAny _ _ (truthy (Value.bytes (List.toArray _) _)) _ _ _); (refine truthy_bytesL (by walk_at "my:b_size") ?_); intro _)) | (with_reducible (k_here; (with_reducible show wpAny _ _ (call (Value.ref 101) [Value.bytes (List.toArray _) _]) _ _ _); (with_reducible rename Fr _ _ _ _ => kF9); (with_reducible rename News _ _ _ _ => kN9); k_dflt (refine' splitroot_call ?k1 ?k2 ?k3 ?k5 ?kK ?kd ?ku ?kz ?_; (case k1 => k_asm); (case k2 => k_asm); (case k3 => k_asm); (case k5 => k_asm); (case kK => first | exact rfl | assumption); (case kd => ktr_room); (case ku => ktr_units); (case kz => walk_at "my:b_size"); k_whole); intro D9 t91 t92 t93 h9 tk9 keep9 hD9 hn9; (have F9 := Fr.keeps kF9 keep9); (have N9 := news_new kF9 kN9 keep9 hD9 hn9); clear keep9 hD9 hn9; (try dsimp only); (try k_fold))) | (with_reducible ((with_reducible show wpAny _ _ (getMethod (Value.bytes _ _) _ _) _ _ _); (k_here; (with_reducible refine method_split ?_)))) | (with_reducible ((with_reducible show wpAny _ _ (call (Value.builtin "bytes.split") _) _ _ _); (k_here; k_dflt (refine' split_K ?F ?N ?z ?_; (case F => k_asm); (case N => k_asm); (case z => walk_at "my:b_size"); k_whole); intro l9 vs9 h9 tk9 ba9 F9 N9 l91; (try k_lt l91)))) | walk1)) | ((((fail_if_success (with_reducible show InvPostN _ _ _ _ _ _ _ _ _)); (fail_if_success (with_reducible show InvEndN _ _ _ _ _ _ _)); (fail_if_success (with_reducible show wpG _ _ _ _ _ _)); (fail_if_success (with_reducible show wpAny _ _ (pyIter (Value.ref _)) _ _ _)))); dsimp only; (first | (with_reducible (k_here; (with_reducible show wpAny _ _ (call (Value.ref 94) [Value.bytes (List.toArray _) _]) _ _ _); (with_reducible rename Fr _ _ _ _ => kF9); (with_reducible rename News _ _ _ _ => kN9); k_dflt (refine' fspath_call ?k1 ?k2 ?k3 ?k5 ?kK ?kd ?ku ?_; (case k1 => k_asm); (case k2 => k_asm); (case k3 => k_asm); (case k5 => k_asm); (case kK => first | exact rfl | assumption); (case kd => ktr_room); (case ku => ktr_units); k_whole); intro h9 tk9 keep9; (have F9 := Fr.keeps kF9 keep9); (have N9 := News.grown kN9 keep9); clear keep9; (try dsimp only); (try k_fold))) | (with_reducible (k_here; (with_reducible show wpAny _ _ (truthy (Value.bytes (List.toArray _) _)) _ _ _); (refine truthy_bytesL (by walk_at "my:b_size") ?_); intro _)) | (with_reducible (k_here; (with_reducible show wpAny _ _ (call (Value.ref 101) [Value.bytes (List.toArray _) _]) _ _ _); (with_reducible rename Fr _ _ _ _ => kF9); (with_reducible rename News _ _ _ _ => kN9); k_dflt (refine' splitroot_call ?k1 ?k2 ?k3 ?k5 ?kK ?kd ?ku ?kz ?_; (case k1 => k_asm); (case k2 => k_asm); (case k3 => k_asm); (case k5 => k_asm); (case kK => first | exact rfl | assumption); (case kd => ktr_room); (case ku => ktr_units); (case kz => walk_at "my:b_size"); k_whole); intro D9 t91 t92 t93 h9 tk9 keep9 hD9 hn9; (have F9 := Fr.keeps kF9 keep9); (have N9 := news_new kF9 kN9 keep9 hD9 hn9); clear keep9 hD9 hn9; (try dsimp only); (try k_fold))) | (with_reducible ((with_reducible show wpAny _ _ (getMethod (Value.bytes _ _) _ _) _ _ _); (k_here; (with_reducible refine method_split ?_)))) | (with_reducible ((with_reducible show wpAny _ _ (call (Value.builtin "bytes.split") _) _ _ _); (k_here; k_dflt (refine' split_K ?F ?N ?z ?_; (case F => k_asm); (case N => k_asm); (case z => walk_at "my:b_size"); k_whole); intro l9 vs9 h9 tk9 ba9 F9 N9 l91; (try k_lt l91)))) | walk1)) | (leave1; walk_say "STEP leave1"; try dsimp only) | fail "no step"))
  · (with_reducible rename Fr _ _ _ _ => kF)
    (with_reducible rename News _ _ _ _ => kN)
    (with_reducible rename BytesAre _ _ => kB)
    refine iter_bl (normStep (rootB p)) rfl (News.isList kN (.tail _ (.head _))) (kN _ (.tail _ (.head _))).2.1 kF kN (by refine neN ?_; omega) kB (us₀ := []) (a₀ := []) trivial ?_ ?_
    · intro i c t a us n h tk own hic ha hoff hus F₁ N₁
      have hcz : c.length ≤ 100000 := by
        have h1 := splitL_pieces 47 _ c (List.mem_of_getElem? hic)
        have h2 := restB_le p
        omega
      have huz : us.length ≤ 100001 := by
        have h1 := normFold_len (rootB p) ((splitL 47 (restB p)).take i) []
        have h2 := splitL_length 47 (restB p)
        have h3 := restB_le p
        have h4 : ((splitL 47 (restB p)).take i).length ≤ (splitL 47 (restB p)).length := by rw [List.length_take]; omega
        rw [hus.length, ha]
        simp only [List.length_nil] at h1
        omega
      have huz' : us.length ≤ 200000 := Nat.le_trans huz (by decide)
      have huz2 : us.length ≤ 1000000 := Nat.le_trans huz (by decide)
      repeat' (first
        | ((with_reducible show wpAny _ _ (truthy (Value.ref _)) _ _ _); refine truthy_bl N₁ (.head _) huz2 ?_)
        | ((with_reducible show wpAny _ _ (subscriptTail _ _ (Value.ref _) (Value.int (-1) _)) _ _ _); refine last_bl N₁ (.head _) hus (by assumption) ?_; intro c9 t9 hc9)
        | ((with_reducible show wpAny _ _ (call (Value.builtin "list.append") _) _ _ _); refine app_bl (by k_asm) N₁ hoff huz2 ?_; intro h8 F8 N8)
        | ((with_reducible show wpAny _ _ (call (Value.builtin "list.pop") _) _ _ _); refine pop_bl (by k_asm) N₁ (.head (hoff.ne (.head _))) hus (by assumption) huz' ?_; intro h8 v8 F8 N8 H8)
        | (k_unfold; (try dsimp only)) | ((((fail_if_success (with_reducible show InvPostN _ _ _ _ _ _ _ _ _)); (fail_if_success (with_reducible show InvEndN _ _ _ _ _ _ _)); (fail_if_success (with_reducible show wpG _ _ _ _ _ _)); (fail_if_success (with_reducible show wpAny _ _ (pyIter (Value.ref _)) _ _ _)))); (first | (with_reducible (k_here; (with_reducible show wpAny _ _ (truthy (Value.bytes (List.toArray _) _)) _ _ _); (refine truthy_bytesL (by walk_at "my:b_size") ?_); intro _)) | (with_reducible (k_here; (with_reducible show wpAny _ _ (compareOp CmpOp.Eq (Value.bytes (List.toArray _) _) (Value.bytes (List.toArray _) _)) _ _ _); (refine eq_bytesL ?_))) | (with_reducible (k_here; (with_reducible show wpAny _ _ (compareOp CmpOp.NotEq (Value.bytes (List.toArray _) _) (Value.bytes (List.toArray _) _)) _ _ _); (refine ne_bytesL ?_))) | walk1)) | ((((fail_if_success (with_reducible show InvPostN _ _ _ _ _ _ _ _ _)); (fail_if_success (with_reducible show InvEndN _ _ _ _ _ _ _)); (fail_if_success (with_reducible show wpG _ _ _ _ _ _)); (fail_if_success (with_reducible show wpAny _ _ (pyIter (Value.ref _)) _ _ _)))); dsimp only; (first | (with_reducible (k_here; (with_reducible show wpAny _ _ (truthy (Value.bytes (List.toArray _) _)) _ _ _); (refine truthy_bytesL (by walk_at "my:b_size") ?_); intro _)) | (with_reducible (k_here; (with_reducible show wpAny _ _ (compareOp CmpOp.Eq (Value.bytes (List.toArray _) _) (Value.bytes (List.toArray _) _)) _ _ _); (refine eq_bytesL ?_))) | (with_reducible (k_here; (with_reducible show wpAny _ _ (compareOp CmpOp.NotEq (Value.bytes (List.toArray _) _) (Value.bytes (List.toArray _) _)) _ _ _); (refine ne_bytesL ?_))) | walk1)) | (leave1; walk_say "STEP leave1"; try dsimp only) | fail "no step")
      all_goals (try dsimp only)
      all_goals (
        refine bl_end (by k_asm) (by assumption) (fun z hz => if_neg hz) (by first | exact ns_dot (by assumption) | exact ns_nil (by assumption) | exact ns_name (by assumption) (by assumption) (by assumption) | exact ns_re (by assumption) (by assumption) (by assumption) (by assumption) | exact ns_ld (by assumption) (by assumption) (by assumption) (by assumption) (by assumption) | exact ns_pop (by assumption) (by assumption) (by assumption) (by assumption) (by assumption) | exact ns_ne (by assumption) (by assumption) (by assumption) (by assumption)) (by first | assumption | exact BytesAre.push (by assumption)) (by first | exact .inl rfl | exact .inr rfl))
    · intro u us n h tk hus F₁ N₁
      have hj1 := joinFold_len p hz
      have hj0 := rootB_le p
      have hj2 : (joinL [47] ((splitL 47 (restB p)).foldl (normStep (rootB p)) [])).length ≤ 16777216 := by omega
      (repeat' (first | (k_unfold; (try dsimp only)) | ((((fail_if_success (with_reducible show InvPostN _ _ _ _ _ _ _ _ _)); (fail_if_success (with_reducible show InvEndN _ _ _ _ _ _ _)); (fail_if_success (with_reducible show wpG _ _ _ _ _ _)); (fail_if_success (with_reducible show wpAny _ _ (pyIter (Value.ref _)) _ _ _)))); (first | (with_reducible ((with_reducible show wpAny _ _ (getMethod (Value.bytes _ _) _ _) _ _ _); (k_here; (with_reducible refine method_join ?_)))) | (with_reducible ((with_reducible show wpAny _ _ (call (Value.builtin "bytes.join") _) _ _ _); (k_here; k_dflt (refine' join_K (by exact News.isList (by k_asm) (by k_mem)) (by assumption) (by first | assumption | walk_at "my:b_size") ?_; k_whole); intro t9 tk9))) | (with_reducible (k_here; (with_reducible show wpAny _ _ (binaryOp Operator.Add (Value.bytes (List.toArray _) _) (Value.bytes (List.toArray _) _)) _ _ _); k_dflt (refine' bytes_add_K ?z rfl ?_; (case z => (simp only [List.size_toArray, List.length_cons, List.length_nil]; first | omega | walk_at "my:b_size")); k_whole); intro t9 k9)) | (with_reducible (k_here; (with_reducible show wpAny _ _ (truthy (Value.bytes (List.toArray _) _)) _ _ _); (refine truthy_bytesL (by walk_at "my:b_size") ?_); intro _)) | walk1)) | ((((fail_if_success (with_reducible show InvPostN _ _ _ _ _ _ _ _ _)); (fail_if_success (with_reducible show InvEndN _ _ _ _ _ _ _)); (fail_if_success (with_reducible show wpG _ _ _ _ _ _)); (fail_if_success (with_reducible show wpAny _ _ (pyIter (Value.ref _)) _ _ _)))); dsimp only; (first | (with_reducible ((with_reducible show wpAny _ _ (getMethod (Value.bytes _ _) _ _) _ _ _); (k_here; (with_reducible refine method_join ?_)))) | (with_reducible ((with_reducible show wpAny _ _ (call (Value.builtin "bytes.join") _) _ _ _); (k_here; k_dflt (refine' join_K (by exact News.isList (by k_asm) (by k_mem)) (by assumption) (by first | assumption | walk_at "my:b_size") ?_; k_whole); intro t9 tk9))) | (with_reducible (k_here; (with_reducible show wpAny _ _ (binaryOp Operator.Add (Value.bytes (List.toArray _) _) (Value.bytes (List.toArray _) _)) _ _ _); k_dflt (refine' bytes_add_K ?z rfl ?_; (case z => (simp only [List.size_toArray, List.length_cons, List.length_nil]; first | omega | walk_at "my:b_size")); k_whole); intro t9 k9)) | (with_reducible (k_here; (with_reducible show wpAny _ _ (truthy (Value.bytes (List.toArray _) _)) _ _ _); (refine truthy_bytesL (by walk_at "my:b_size") ?_); intro _)) | walk1)) | (leave1; walk_say "STEP leave1"; try dsimp only) | fail "no step"))
      all_goals exact ret_bytes ret (by first | exact normB_a (by assumption) (by assumption) | exact normB_b (by assumption) (by assumption)) (by (exact gsub_nil (by assumption) (by assumption)))
  · exact ret_bytes ret (normB_c (by assumption)) (by (exact gsub_nil (by assumption) (by assumption)))
end
noncomputable abbrev baObj (b : List UInt8) : Obj := { cls := .type "bytearray", data := .bytearray b.toArray }
theorem owner_ba : Manifest.owners.lookup (String.ofList ['y', 'a', 'r', 'r', 'a', 'e', 't', 'y', 'b'].reverse) = some Manifest.sig_bytearray := by kernel_rfl
theorem slot_ba_setitem : Slot "bytearray" "__setitem__" "bytearray.__setitem__" :=
  .of (owner := "bytearray") (n := "__setitem__") (by rw [typeLookup_type, builtinLookup_eq_fast]; kernel_rfl) (by decide +kernel) (by decide +kernel) (by decide +kernel)
    (by first | exact .inl (by decide +kernel) | exact .inr (by decide +kernel)) (by rw [isSubtype_type]; kernel_rfl)
theorem entry_ba_setitem : entryFor table "bytearray.__setitem__" = some Builtin.«bytearray.__setitem__» := entryFor_of_tree (by kernel_rfl)
theorem args_ba_setitem (a b c : Value) : argsOk "bytearray.__setitem__" ⟨[a, b, c], []⟩ := by
  unfold argsOk; rw [signature?_of (id := "bytearray.__setitem__") (n := ['_', '_', 'm', 'e', 't', 'i', 't', 'e', 's', '_', '_']) (o := ['y', 'a', 'r', 'r', 'a', 'e', 't', 'y', 'b']) (by kernel_rfl) owner_ba]; kernel_rfl
theorem slot_ba_init : Slot "bytearray" "__init__" "bytearray.__init__" :=
  .of (owner := "bytearray") (n := "__init__") (by rw [typeLookup_type, builtinLookup_eq_fast]; kernel_rfl) (by decide +kernel) (by decide +kernel) (by decide +kernel)
    (by first | exact .inl (by decide +kernel) | exact .inr (by decide +kernel)) (by rw [isSubtype_type]; kernel_rfl)
theorem entry_ba_init : entryFor table "bytearray.__init__" = some Builtin.«bytearray.__init__» := entryFor_of_tree (by kernel_rfl)
section
variable {prog : Program} {w : World} {A : Around} {E : Value → Shared → Prop} {s : Shared} {h₀ : Heap} {L D : Addr} {m : Str → Option Value} {news news' : List (Addr × Obj)} {b : List UInt8}
theorem subscript_int {M : Model} {k : Int} {t : Tok} {Q : Option Int → Shared → Prop} (hfit : Builtin.Bytes.fitsIndex k = true) (h : Q (some k) s) :
    wpAny M A (Builtin.Bytes.subscript? (.int k t)) Q E s := by
  unfold Builtin.Bytes.subscript?
  refine wpAny_bind (wpAny_specialOf (T := "int") (typeIs_int s k t) int_index ?_)
  show wpAny M A (asIndex (.int k t) >>= _) Q E s
  refine wpAny_bind (wpAny_of_eq (a := k) rfl ?_)
  show wpAny M A (if (!Builtin.Bytes.fitsIndex k) = true then _ else _) Q E s
  rw [if_neg (by rw [hfit]; decide)]
  exact wpAny_pure h
theorem setItem_ba {k x : Int} {t u : Tok} {Q : Unit → Shared → Prop} (ho : s.heap.get? D = some (baObj b)) (h0 : 0 ≤ k) (h1 : k < b.length) (hz : b.length ≤ 100000) (hx0 : 0 ≤ x) (hx1 : x < 256)
    (hQ : ∀ h', h'.get? D = some (baObj (b.set k.toNat x.toNat.toUInt8)) → Heap.SameBut D s.heap h' → Q () { s with heap := h' }) :
    wpAny (model prog w) A (setItem (.ref D) (.int k t) (.int x u)) Q E s := by
  have hT : s.TypeIs (.ref D) "bytearray" := ⟨_, ho, rfl⟩
  unfold setItem
  try with_reducible refine wpAny_holding ?_
  first | refine wpAny_bind (wpAny_pure ?_) | skip
  refine wpAny_bind (wpAny_sequenceKey hT (by decide) ?_)
  refine wpAny_bind (wpAny_callSpecial?_slot (name := Str.ofString "__setitem__") hT slot_ba_setitem
    (wpAny_call_entry slot_ba_setitem hT entry_ba_setitem ?_ (args_ba_setitem _ _ _)))
  unfold Builtin.«bytearray.__setitem__»
  dsimp only
  refine bm_if_false rfl ?_
  refine wpAny_bind (subscript_int (by unfold Builtin.Bytes.fitsIndex; simp only [Bool.and_eq_true, decide_eq_true_eq]; omega) ?_)
  dsimp only
  refine wpAny_bind (m := Builtin.Bytes.byteValue (.int x u)) ?_
  unfold Builtin.Bytes.byteValue
  refine wpAny_bind (wpAny_of_eq (rfl : asIndex (.int x u) = pure x) ?_)
  refine bm_if_false (by simp only [Bool.or_eq_false_iff, decide_eq_false_iff_not]; omega) (wpAny_pure ?_)
  refine wpAny_bind (m := Builtin.Bytes.payload (.ref D)) ?_
  unfold Builtin.Bytes.payload Builtin.Bytes.payload?
  refine wpAny_bind (wpAny_bind (wpAny_load ho ?_))
  refine wpAny_pure (wpAny_pure ?_)
  have hk : seqIndex? k b.toArray.size = some k.toNat := by
    have h2 : ¬ k < 0 := by omega
    have h3 : k < (b.toArray.size : Int) := by rw [List.size_toArray]; exact h1
    unfold seqIndex?
    simp only [h2, if_false]
    rw [if_pos (by simp only [Bool.and_eq_true, decide_eq_true_eq]; omega)]
  rw [hk]
  dsimp only
  refine wpAny_bind ?_
  show wpAny _ _ (updateBytearray D (fun y => y.setIfInBounds k.toNat x.toNat.toUInt8)) _ _ _
  unfold updateBytearray
  refine wpAny_bind (wpAny_load ho ?_)
  show wpAny _ _ (update D (Obj.mapBytearray (fun y => y.setIfInBounds k.toNat x.toNat.toUInt8)) >>= fun _ => lookBehind D) _ _ _
  refine wpAny_bind (wpAny_update ho ?_)
  have e : Obj.mapBytearray (fun y => y.setIfInBounds k.toNat x.toNat.toUInt8) (baObj b) = baObj (b.set k.toNat x.toNat.toUInt8) := by
    show ({ cls := .type "bytearray", data := .bytearray (b.toArray.setIfInBounds k.toNat x.toNat.toUInt8) } : Obj) = _
    simp
  have hS₂ : (s.heap.update D (Obj.mapBytearray (fun y => y.setIfInBounds k.toNat x.toNat.toUInt8))).get? D = some (baObj (b.set k.toNat x.toNat.toUInt8)) := by
    rw [← e]
    exact Heap.get?_update_self _ ho rfl
  refine wpAny_lookBehind hS₂ ?_ ?_
  · show (if (b.set k.toNat x.toNat.toUInt8).toArray.size > sizeLine then some "bytearray:memory" else none) = none
    rw [if_neg]
    rw [List.size_toArray, List.length_set, sizeLine_eq]
    omega
  · first
      | exact wpAny_bind (wpAny_pure (wpAny_pure ⟨.none, rfl, wpAny_pure (hQ _ hS₂ (Heap.SameBut.update ..))⟩))
      | exact wpAny_pure ⟨.none, rfl, wpAny_pure (hQ _ hS₂ (Heap.SameBut.update ..))⟩
theorem setItem_baK {k x : Int} {t u : Tok} {Q : Unit → Shared → Prop} (F : Fr h₀ L s.heap m) (N : News h₀ L s.heap news) (U : Upd D (baObj b) (baObj (b.set k.toNat x.toNat.toUInt8)) news news') (h0 : 0 ≤ k) (h1 : k < b.length) (hz : b.length ≤ 100000) (hx0 : 0 ≤ x) (hx1 : x < 256)
    (hQ : ∀ h', Fr h₀ L h' m → News h₀ L h' news' → Q () { s with heap := h' }) :
    wpAny (model prog w) A (setItem (.ref D) (.int k t) (.int x u)) Q E s := by
  obtain ⟨pre, post, rfl, rfl, a1, a2⟩ := U.split
  have z := N (D, baObj b) (List.mem_append.mpr (.inr (.head _)))
  refine setItem_ba z.1 h0 h1 hz hx0 hx1 fun h' ho' hs => ?_
  exact hQ h' (F.change hs z.2.1 z.2.2) (news_set N a1 a2 hs ho')
theorem look_ba_bytes : typeLookup (.type "bytearray") "__bytes__" = pure none := by rw [typeLookup_type, builtinLookup_eq_fast]; kernel_rfl
theorem look_ba_index : typeLookup (.type "bytearray") "__index__" = pure none := by rw [typeLookup_type, builtinLookup_eq_fast]; kernel_rfl
theorem look_ba_buffer : typeLookup (.type "bytearray") "__buffer__" = pure (some (.builtin "bytearray.__buffer__")) := by rw [typeLookup_type, builtinLookup_eq_fast]; kernel_rfl
theorem look_ba_release : typeLookup (.type "bytearray") "__release_buffer__" = pure (some (.builtin "bytearray.__release_buffer__")) := by rw [typeLookup_type, builtinLookup_eq_fast]; kernel_rfl
theorem sub_ba : isSubtype (.type "bytearray") (.type "bytearray") = pure true := by rw [isSubtype_type]; kernel_rfl
end
section
variable {prog : Program} {w : World} {A : Around} {E : Value → Shared → Prop} {s : Shared} {h₀ : Heap} {L D : Addr} {m : Str → Option Value} {news news' : List (Addr × Obj)} {b : List UInt8}
theorem ownSlot_ba {M : Model} {name : String} {id : String} {Q : Bool → Shared → Prop} (hT : s.TypeIs (.ref D) "bytearray") (hl : typeLookup (.type "bytearray") (name : Str) = pure (some (.builtin id))) (he : id.endsWith ("." ++ name) = true)
    (hx : id.dropRight (name.length + 1) = "bytearray") (h : Q true s) : wpAny M A (Builtin.Bytes.slotIsOwn (.ref D) name) Q E s := by
  unfold Builtin.Bytes.slotIsOwn
  refine wpAny_bind (wpAny_specialOf hT hl ?_)
  dsimp only
  refine bm_if_false (by rw [he]; rfl) ?_
  rw [hx]
  exact wpAny_isInstance hT sub_ba h
theorem release_ba {M : Model} {Q : Bool → Shared → Prop} (hT : s.TypeIs (.ref D) "bytearray") (h : Q false s) : wpAny M A (Builtin.Bytes.ownRelease (.ref D)) Q E s := by
  unfold Builtin.Bytes.ownRelease
  exact wpAny_bind (ownSlot_ba hT look_ba_release (by decide +kernel) (by decide +kernel) (wpAny_pure h))
theorem payload_ba {M : Model} {Q : Array UInt8 → Shared → Prop} (ho : s.heap.get? D = some (baObj b)) (h : Q b.toArray s) : wpAny M A (Builtin.Bytes.payload (.ref D)) Q E s := by
  unfold Builtin.Bytes.payload Builtin.Bytes.payload?
  refine wpAny_bind (wpAny_bind (wpAny_load ho ?_))
  exact wpAny_pure (wpAny_pure h)
theorem buffer_ba {M : Model} {id : String} {full : Bool} {Q : Option (Array UInt8) → Shared → Prop} (ho : s.heap.get? D = some (baObj b)) (h : Q (some b.toArray) s) : wpAny M A (Builtin.Bytes.buffer? id (.ref D) full) Q E s := by
  have hT : s.TypeIs (.ref D) "bytearray" := ⟨_, ho, rfl⟩
  unfold Builtin.Bytes.buffer?
  refine wpAny_bind (wpAny_specialOf hT look_ba_buffer ?_)
  dsimp only
  refine wpAny_bind (ownSlot_ba hT look_ba_buffer (by decide +kernel) (by decide +kernel) ?_)
  refine bm_if_false rfl ?_
  refine wpAny_bind (wpAny_specialOf hT look_ba_buffer ?_)
  refine wpAny_bind (release_ba hT ?_)
  refine bm_if_false rfl ?_
  exact wpAny_bind (payload_ba ho (wpAny_pure h))
theorem bytes_new_ba {Q : Value → Shared → Prop} (ho : s.heap.get? D = some (baObj b)) (hz : b.length ≤ 100000) (hQ : ∀ t k, Q (.bytes b.toArray t) { s with toks := k }) :
    codeAny (model prog w) A (.call (.builtin "bytes.__new__") ⟨[.type "bytes", .ref D], []⟩) (wants Q E) s := by
  refine codeAny_of_tree ?_
  show wpAny _ A.in1 (do checkBuiltinCall "bytes.__new__" ⟨[.type "bytes", .ref D], []⟩; again (.builtin "bytes.__new__" ⟨[.type "bytes", .ref D], []⟩)) _ _ s
  refine wpAny_bind (wpAny_of_eq (F.bm_newCall _) (wpAny_pure ⟨plainId_quiet F.bm_plain _, codeAny_builtin F.bm_entry ?_⟩))
  rw [Around.under_plainId F.bm_plain _]
  have hT : s.TypeIs (.ref D) "bytearray" := ⟨_, ho, rfl⟩
  unfold Builtin.«bytes.__new__»
  refine wpAny_bind (wpAny_of_eq (a := true) rfl ?_)
  refine bm_if_false rfl ?_
  refine wpAny_bind (wpAny_of_eq F.bm_sub ?_)
  refine bm_if_false rfl ?_
  refine wpAny_bind (wpAny_of_eq (F.bm_bind _) ?_)
  refine wpAny_bind (wpAny_of_eq (a := ()) rfl ?_)
  refine wpAny_bind (wpAny_of_eq (a := ()) rfl ?_)
  refine bm_if_false rfl ?_
  refine wpAny_bind (wpAny_specialOf hT look_ba_bytes ?_)
  refine wpAny_bind (wpAny_bind ?_)
  show wpAny _ _ (load D >>= _) _ _ _
  refine wpAny_bind (wpAny_load ho ?_)
  refine wpAny_pure (wpAny_pure ?_)
  refine bm_if_false rfl ?_
  refine wpAny_bind (wpAny_specialOf hT look_ba_index ?_)
  refine bm_if_true rfl ?_
  first
    | show wpAny _ _ (Builtin.Bytes.buffer? "bytes.__new__" (.ref D) true >>= _) _ _ _
    | (refine wpAny_bind ?_; show wpAny _ _ (Builtin.Bytes.buffer? "bytes.__new__" (.ref D) true >>= _) _ _ _)
  refine wpAny_bind (buffer_ba ho ?_)
  dsimp only
  refine wpAny_bind (wpAny_rule ?_)
  refine wpAny_bind (wpAny_mkBytes ?_ (by rw [List.size_toArray, sizeLine_eq]; omega))
  first
    | exact wpAny_pure (hQ _ _)
    | exact wpAny_bind (wpAny_pure (wpAny_pure (hQ _ _)))
theorem call_bytes_ba {Q : Value → Shared → Prop} (ho : s.heap.get? D = some (baObj b)) (hz : b.length ≤ 100000) (hQ : ∀ t k, Q (.bytes b.toArray t) { s with toks := k }) :
    wpAny (model prog w) A (call (.type "bytes") [.ref D]) Q E s := by
  refine callType_codes (Q₁ := fun obj s₁ => s₁.TypeIs obj "bytes" ∧ Q obj s₁) F.bm_called (F.bm_typeCall _) F.entry_object_init
    (bytes_new_ba ho hz fun t k => ⟨PySem.W.typeIs_bytes _ _ _, hQ t k⟩) fun obj s₁ h₁ => ?_
  exact ⟨h₁.1, F.args_object_init_2 obj _, object_init_meets F.bm_called.init.lookup F.bm_called.made (by decide) prog w A.in1 _ s₁ ⟨h₁.1, rfl, h₁.2⟩⟩
end
theorem ba_mro : mroOf (.type "bytearray") = pure [.type "bytearray", .type "object"] := by rw [mroOf_type]; kernel_rfl
theorem ba_lookup_new : typeLookup (.type "bytearray") "__new__" = pure (some (.builtin "bytearray.__new__")) := by rw [typeLookup_type, builtinLookup_eq_fast]; kernel_rfl
theorem ba_made : Bind.madeBy (.type "bytearray") = pure (some "bytearray.__new__") := madeBy_type ba_mro ba_lookup_new (by decide +kernel)
theorem ba_typeCall (a : Value) : checkTypeCall "bytearray" ⟨[a], []⟩ = pure () := by kernel_rfl
theorem ba_newCall (a : Value) : checkBuiltinCall "bytearray.__new__" ⟨[.type "bytearray", a], []⟩ = pure () := by kernel_rfl
theorem ba_entry_new : entryFor table "bytearray.__new__" = some Builtin.«list.__new__» := entryFor_alias (id' := "list.__new__") (by kernel_rfl) (by first | rfl | decide +kernel) (by decide +kernel) (by kernel_rfl)
theorem ba_plain_new : plainId "bytearray.__new__" = true := by decide +kernel
theorem ba_owner_new : ("bytearray.__new__".splitOn ".__new__").headD "" = "bytearray" := by simp +decide [String.splitOn, String.splitOnAux]
theorem ba_cannot : ((Manifest.find? "bytearray").bind (·.mro.findSome? fun t => (Manifest.find? t).bind fun b => if b.noNew then some true else if b.attrs.any (·.1 == "__new__") then some false else none)).getD false = false := by decide +kernel
theorem ba_bind (v : Value) : Builtin.Bytes.bindOptional "bytearray.__init__" "bytearray" ["source", "encoding", "errors"] [v] [] = pure [some v, none, none] := by kernel_rfl
theorem ba_args_init (a b : Value) : argsOk "bytearray.__init__" ⟨[a, b], []⟩ := by
  unfold argsOk; rw [signature?_of (id := "bytearray.__init__") (n := ['_', '_', 't', 'i', 'n', 'i', '_', '_']) (o := ['y', 'a', 'r', 'r', 'a', 'e', 't', 'y', 'b']) (by kernel_rfl) owner_ba]; kernel_rfl
section
variable {prog : Program} {w : World} {A : Around} {E : Value → Shared → Prop} {s : Shared} {h₀ : Heap} {L D : Addr} {m : Str → Option Value} {news news' : List (Addr × Obj)} {b : List UInt8}
theorem if_falseG {α : Type} {M : Model} {c : Bool} {a b : Sem α} {Q : α → Shared → Prop} (hc : c = false) (h : wpG M A b Q E s) : wpG M A (if c = true then a else b) Q E s := by
  subst hc
  exact h
theorem okB {id : String} {args : Args} (h : goodIds.contains id = true) : okCode (.builtin id args) = true := h
theorem codeG_builtin {R : Result → Shared → Prop} {id : String} {args : Args} {b : Builtin} (ok : okCode (.builtin id args) = true) (hb : entryFor table id = some b)
    (h : wpG (model prog w) (A.under (.builtin id args)) (b args)
      (fun fin s' => match fin with | .done f => R (.ok f) s' | .again c' => c'.quiet = true ∧ codeG (model prog w) A c' R s') (fun e s' => R (.error e) s') s) :
    codeG (model prog w) A (.builtin id args) R s := by
  refine codeG_of_tree ok ?_
  show wpG _ _ (match entryFor table id with | some b => b args | none => unsupported ((withoutEnding? id "#data").getD id)) _ _ s
  rw [hb]; exact h
theorem codeG_call_builtin {R : Result → Shared → Prop} {id : String} {args : Args} {b : Builtin} (ok : okCode (.builtin id args) = true) (hq : plainId id = true) (hb : entryFor table id = some b)
    (h : wpAny (model prog w) A.in1 (checkBuiltinCall id args) (fun _ s₁ => wpG (model prog w) A.in1 (b args)
      (fun fin s' => match fin with | .done f => R (.ok f) s' | .again c' => c'.quiet = true ∧ codeG (model prog w) A c' R s') (fun e s' => R (.error e) s') s₁)
      (fun e s' => R (.error e) s') s) : codeG (model prog w) A (.call (.builtin id) args) R s := by
  refine codeG_of_tree rfl ?_
  show wpG _ A.in1 (do checkBuiltinCall id args; again (.builtin id args)) _ _ s
  refine wpG_bindA (wpAny_mono h (fun _ s₁ h₁ => wpG_pure (And.intro (plainId_quiet hq args) (codeG_builtin ok hb ?_))) fun _ _ h' => h')
  rw [Around.under_plainId hq args]
  exact h₁
theorem ba_new (a : Value) {Q₁ : Value → Shared → Prop} (h : Q₁ (.ref s.heap.objs.size) { s with heap := s.heap.push (baObj []) }) :
    wpAny (model prog w) A (call (.builtin "bytearray.__new__") [.type "bytearray", a]) Q₁ E s := by
  refine wpAny_call (codeAny_of_tree ?_)
  show wpAny _ A.in1 (do checkBuiltinCall "bytearray.__new__" ⟨[.type "bytearray", a], []⟩; again (.builtin "bytearray.__new__" ⟨[.type "bytearray", a], []⟩)) _ _ s
  refine wpAny_bind (wpAny_of_eq (ba_newCall a) (wpAny_pure ⟨plainId_quiet ba_plain_new _, codeAny_builtin_stack ba_entry_new rfl fun p st => ?_⟩))
  rw [Around.under_plainId ba_plain_new _]
  have hsub := sub_ba
  have hown := ba_owner_new
  obtain ⟨hp, g, d, tk, os⟩ := s
  simp only [hown]
  wp_walk
  exact h
theorem write_ba {M : Model} {Q : Unit → Shared → Prop} (f : List UInt8 → List UInt8) {g : Array UInt8 → Array UInt8} (ho : s.heap.get? D = some (baObj b)) (hz : (f b).length ≤ 100000)
    (hQ : ∀ h', h'.get? D = some (baObj (f b)) → Heap.SameBut D s.heap h' → Q () { s with heap := h' }) (hg : g b.toArray = (f b).toArray := by simp) : wpAny M A (Builtin.Bytes.write (.ref D) g) Q E s := by
  show wpAny _ _ (updateBytearray D g) _ _ _
  unfold updateBytearray
  refine wpAny_bind (wpAny_load ho ?_)
  show wpAny _ _ (update D (Obj.mapBytearray g) >>= fun _ => lookBehind D) _ _ _
  refine wpAny_bind (wpAny_update ho ?_)
  have e : Obj.mapBytearray g (baObj b) = baObj (f b) := by
    show ({ cls := .type "bytearray", data := .bytearray (g b.toArray) } : Obj) = _
    rw [hg]
  have hS₂ : (s.heap.update D (Obj.mapBytearray g)).get? D = some (baObj (f b)) := by
    rw [← e]
    exact Heap.get?_update_self _ ho rfl
  refine wpAny_lookBehind hS₂ ?_ (hQ _ hS₂ (Heap.SameBut.update ..))
  show (if (f b).toArray.size > sizeLine then some "bytearray:memory" else none) = none
  rw [if_neg]
  rw [List.size_toArray, sizeLine_eq]
  omega
theorem ba_init {n : Int} {t : Tok} {Q : Fin → Shared → Prop} (ho : s.heap.get? D = some (baObj [])) (h0 : 0 ≤ n) (hz : n ≤ 100000)
    (hQ : ∀ h', h'.get? D = some (baObj (List.replicate n.toNat 0)) → Heap.SameBut D s.heap h' → Q (.done (.ret .none)) { s with heap := h' }) :
    wpG (model prog w) A (Builtin.«bytearray.__init__» ⟨[.ref D, .int n t], []⟩) Q E s := by
  have hT : s.TypeIs (.ref D) "bytearray" := ⟨_, ho, rfl⟩
  unfold Builtin.«bytearray.__init__»
  dsimp only
  refine wpG_bindA (release_ba hT ?_)
  refine if_falseG rfl ?_
  refine wpG_bindA (wpAny_of_eq (ba_bind _) ?_)
  refine wpG_bindA (wpAny_of_eq (a := ()) rfl ?_)
  refine wpG_bindA (wpAny_of_eq (a := ()) rfl ?_)
  refine wpG_bind (wpG_bind (wpG_exported ?_))
  show wpG _ _ (Builtin.Bytes.exportsOf (.ref D) >>= _) _ _ _
  refine wpG_of ?_
  unfold Builtin.Bytes.exportsOf
  refine wpAny_bind (wpAny_bind (wpAny_load ho (wpAny_pure (wpAny_pure (wpG_of ?_)))))
  refine bm_if_false rfl ?_
  refine wpAny_bind (write_ba (fun _ => []) ho (by simp) ?_)
  intro h₁ ho₁ hs₁
  dsimp only
  refine wpAny_bind (wpAny_of_eq (a := none) rfl ?_)
  refine bm_if_false rfl ?_
  refine wpAny_bind (wpAny_of_eq (a := ()) rfl ?_)
  refine wpAny_bind (wpAny_specialOf (T := "int") (typeIs_int _ n t) int_index ?_)
  refine bm_if_true rfl ?_
  refine wpAny_bind (wpAny_attempt (wpAny_of_eq (rfl : asIndex (.int n t) = pure n) ?_))
  dsimp only
  refine bm_if_false (by unfold Builtin.Bytes.fitsIndex; simp only [Bool.not_eq_false', Bool.and_eq_true, decide_eq_true_eq]; omega) ?_
  refine wpAny_ite ?_
  rw [if_neg (by omega)]
  refine bm_if_false (by simp only [beq_eq_false_iff_ne, ne_eq]; omega) ?_
  refine bm_if_false (KBy.tooLong_not (by omega)) ?_
  refine wpAny_bind (wpAny_rule ?_)
  refine wpAny_ite ?_
  by_cases hn : n > 0
  · rw [if_pos hn]
    refine wpAny_bind (write_ba (fun _ => List.replicate n.toNat 0) ho₁ (by simp; omega) ?_)
    intro h₂ ho₂ hs₂
    exact wpAny_pure (hQ h₂ ho₂ (hs₁.trans hs₂))
  · rw [if_neg hn]
    have e : n.toNat = 0 := by omega
    exact wpAny_pure (hQ h₁ (by rw [e]; exact ho₁) hs₁)
theorem call_ba {n : Int} {t : Tok} {Q : Value → Shared → Prop} (h0 : 0 ≤ n) (hz : n ≤ 100000)
    (hQ : ∀ D h', h'.get? D = some (baObj (List.replicate n.toNat 0)) → D = s.heap.objs.size → (∀ b o, s.heap.get? b = some o → h'.get? b = some o) → Q (.ref D) { s with heap := h' }) :
    wpG (model prog w) A (call (.type "bytearray") [.int n t]) Q E s := by
  refine wpG_call (codeG_of_tree rfl ?_)
  show wpG _ _ (callAny (.type "bytearray") _) _ _ _
  refine wpG_pure ⟨Code.quiet_builtin _ (by decide +kernel), codeG_builtin (okB (by decide +kernel)) F.entry_type_call ?_⟩
  rw [Around.under_plain (weight_type_call_type "bytearray" _ []) rfl]
  unfold Builtin.«type.__call__»
  dsimp only
  refine if_falseG (by decide) ?_
  refine if_falseG ba_cannot ?_
  refine wpG_bindA (wpAny_of_eq (ba_typeCall _) ?_)
  refine wpG_bindA (wpAny_of_eq ba_mro ?_)
  refine if_falseG rfl ?_
  refine wpG_bindA (wpAny_of_eq ba_made ?_)
  dsimp only
  refine wpG_bindA (wpAny_pure ?_)
  refine wpG_bindA (wpAny_holding (ba_new _ ?_))
  have ho : (s.heap.push (baObj [])).get? s.heap.objs.size = some (baObj []) := Heap.get?_push_size _ rfl
  have hT : ({ s with heap := s.heap.push (baObj []) } : Shared).TypeIs (.ref s.heap.objs.size) "bytearray" := ⟨_, ho, rfl⟩
  refine wpG_bindA (wpAny_isInstance hT sub_ba ?_)
  refine if_falseG rfl ?_
  refine wpG_bind (wpG_holding ?_)
  simp only [callSpecial?]
  refine wpG_bindA (wpAny_specialOf hT slot_ba_init.lookup ?_)
  simp only [slot_ba_init.bind]
  refine wpG_holding (wpG_bindA (wpAny_pure (wpG_bind ?_)))
  refine wpG_call (codeG_call_builtin (okB (by decide +kernel)) slot_ba_init.plain entry_ba_init (slot_ba_init.check _ _ _ _ _ _ _ _ hT (ba_args_init _ _) ?_))
  refine ba_init ho h0 hz fun h' ho' hs => ?_
  dsimp only
  refine wpG_pure ?_
  dsimp only
  refine if_falseG rfl ?_
  refine wpG_pure ?_
  refine hQ _ h' ho' rfl fun b o e => (hs.2 b (Nat.ne_of_lt (Heap.lt_size e))).trans (Heap.get?_push_of_some _ e)
end
section
variable {M : Model} {A : Around} {E : Value → Shared → Prop} {s : Shared} {env : Env}
theorem wpG_execs_cons {st : Stmt} {rest : List Stmt} {Q : Flow → Shared → Prop}
    (h : wpG M A (exec st env) (fun f s' => match f with | .next => wpG M A (execs rest env) Q E s' | f => Q f s') E s) :
    wpG M A (execs (st :: rest) env) Q E s := fun Γ p hΓ hg => by
  rw [execs_cons, Sem.wp_bind']
  refine Sem.wp_mono M Γ _ (fun f p' s' h' => ?_) (fun _ _ _ h' => h') _ _ (h Γ p hΓ hg)
  cases f <;> first | exact h' Γ p' hΓ hg | exact h'
theorem wpG_Assign_Name {x pos' value pos} {Q : Flow → Shared → Prop}
    (h : wpG M A (eval value env) (fun v s₁ => wpAny M A (storeName env x v) (fun _ => Q .next) E s₁) E s)
    (hs : swapsWith value (some (.Name x pos')) pos.line env = pure false := by rfl) :
    wpG M A (exec (.Assign [.Name x pos'] value pos) env) Q E s := fun Γ p hΓ hg => by
  simp only [exec_Assign_Name env x pos' value pos hs, Sem.wp_bind', Sem.wp_cmd_standAt, Sem.wp_bindName, Sem.wp_pure']
  exact Sem.wp_mono M Γ _ (fun v _ s₁ h₁ => h₁ Γ _ hΓ) (fun _ _ _ h' => h') _ _ (h Γ _ hΓ hg)
theorem wpG_Return {e pos} {Q : Flow → Shared → Prop} (h : wpG M A (eval e env) (fun v => Q (.ret v)) E s) :
    wpG M A (exec (.Return (some e) pos) env) Q E s := fun Γ p hΓ hg => by
  simp only [exec_Return_some, Sem.wp_bind', Sem.wp_cmd_standAt, Sem.wp_pure']; exact h Γ _ hΓ hg
theorem wpG_standAt {pos : Pos} {Q : Unit → Shared → Prop} (h : Q () s) : wpG M A (standAt pos) Q E s := fun _ _ _ _ => h
theorem wpG_operate {vs : List Value} {m : Sem Value} {Q : Value → Shared → Prop} (h : wpG M A m Q E s) : wpG M A (operate vs m) Q E s :=
  fun Γ p hΓ hg => by rw [Sem.wp_operate]; exact h Γ p hΓ hg
theorem wpG_Call_Name {id : Str} {p pos : Pos} {args : List Expr} {Q : Value → Shared → Prop}
    (h : wpAny M A (eval (.Name id p) env) (fun f s₁ => wpG M A (callWith pos f [] (backTo pos (starEach args env)) []) Q E s₁) E s) :
    wpG M A (eval (.Call (.Name id p) args [] pos) env) Q E s := by
  rw [arm_eval_Call_Name']
  exact wpG_bindA h
theorem wpG_spliced_nil {Q : List Value → Shared → Prop} (h : Q [] s) : wpG M A (spliced []) Q E s := wpG_pure h
theorem wpG_spliced_cons {x : Sem Value} {rest : List (Bool × Sem Value)} {Q : List Value → Shared → Prop}
    (h : wpG M A x (fun v s₁ => wpG M A (spliced rest) (fun vs s₂ => Q (v :: vs) s₂) E s₁) E s) : wpG M A (spliced ((false, x) :: rest)) Q E s := by
  unfold spliced
  refine wpG_bind (wpG_mono h (fun v s₁ h₁ => ?_) fun _ _ e => e)
  refine wpG_bind (wpG_pure ?_)
  exact wpG_bind (wpG_holding (wpG_mono h₁ (fun vs s₂ h₂ => wpG_pure h₂) fun _ _ e => e))
theorem wpG_evalArgs {f : Value} {x : Sem Value} {rest : List (Bool × Sem Value)} {Q : Args → Shared → Prop}
    (h : wpG M A (spliced ((false, x) :: rest)) (fun vs s' => Q ⟨vs, []⟩ s') E s) : wpG M A (evalArgs f true ((false, x) :: rest) []) Q E s := by
  unfold evalArgs
  show wpG M A (spliced ((false, x) :: rest) >>= _) Q E s
  refine wpG_bind (wpG_mono h (fun vs s' h' => ?_) fun _ _ x => x)
  refine wpG_holding ?_
  exact wpG_bind (wpG_pure (wpG_bind (wpG_pure (wpG_pure h'))))
theorem wpG_callWith {P : Heap → Prop} {pos : Pos} {f : Value} {first : List Value} {Q : Value → Shared → Prop} {args : List (Bool × Sem Value)} (hplain : args.any (·.1) = false)
    (hk : ∀ h, P h → ∃ k, (k = Keeper.frame ∨ k = Keeper.machine ∨ k = Keeper.boundFrame) ∧ Looks M h (keeperOf f) k)
    (h : wpG M A (evalArgs f true args []) (fun a s₁ => P s₁.heap ∧ wpG M A (call f (first ++ a.pos) a.kw) Q E s₁) E s) : wpG M A (callWith pos f first args []) Q E s := by
  have hplain' : (args.any (·.1) || ([] : List (Option Str × Sem Value)).any (·.1.isNone)) = false := by rw [hplain]; rfl
  unfold callWith
  refine wpG_bind (wpG_holding (wpG_mono h (fun a s₁ h₁ => wpG_bind (wpG_standAt ?_)) fun _ _ x => x))
  obtain ⟨k, hk', L⟩ := hk _ h₁.1
  simp only [hplain']
  refine wpG_bindA (L.here ?_)
  have tail : ∀ {t : Sem Value}, wpG M A t Q E s₁ → wpG M A (t >>= fun r => holding [r] point >>= fun _ => pure r) Q E s₁ :=
    fun ht => wpG_bind (wpG_mono ht (fun r s₂ hr => wpG_bindA (wpAny_holding (wpAny_point (wpG_pure hr)))) fun _ _ x => x)
  have marked (mk : Value) : wpG M A (callMarked mk f (first ++ a.pos) a.kw) Q E s₁ := by unfold callMarked; exact wpG_keep h₁.2
  rcases hk' with rfl | rfl | rfl <;> dsimp only <;> first | exact tail h₁.2 | (split <;> first | exact tail h₁.2 | exact tail (marked _))
theorem wpG_call1 {P : Heap → Prop} {pos : Pos} {f : Value} {e1 : Expr} {Q : Value → Shared → Prop}
    (hk : ∀ h, P h → ∃ k, (k = Keeper.frame ∨ k = Keeper.machine ∨ k = Keeper.boundFrame) ∧ Looks M h (keeperOf f) k)
    (h : wpG M A (eval e1 env) (fun v s₁ => P s₁.heap ∧ wpG M A (call f [v]) Q E s₁) E s)
    (he : starEach [e1] env = [(false, eval e1 env)] := by rfl) : wpG M A (callWith pos f [] (backTo pos (starEach [e1] env)) []) Q E s := by
  rw [he]
  refine wpG_callWith rfl hk (wpG_evalArgs (wpG_spliced_cons (wpG_mono h (fun v s₁ h₁ => wpG_spliced_nil h₁) fun _ _ e => e)))
theorem wpG_call2 {P : Heap → Prop} {pos : Pos} {f : Value} {e1 e2 : Expr} {Q : Value → Shared → Prop}
    (hk : ∀ h, P h → ∃ k, (k = Keeper.frame ∨ k = Keeper.machine ∨ k = Keeper.boundFrame) ∧ Looks M h (keeperOf f) k)
    (h : wpG M A (eval e1 env) (fun v s₁ => wpG M A (eval e2 env) (fun v2 s₂ => P s₂.heap ∧ wpG M A (call f [v, v2]) Q E s₂) E s₁) E s)
    (he : starEach [e1, e2] env = [(false, eval e1 env), (false, eval e2 env)] := by rfl) : wpG M A (callWith pos f [] (backTo pos (starEach [e1, e2] env)) []) Q E s := by
  rw [he]
  refine wpG_callWith rfl hk (wpG_evalArgs (wpG_spliced_cons (wpG_mono h (fun v s₁ h₁ => wpG_spliced_cons (wpG_mono h₁ (fun v2 s₂ h₂ => wpG_spliced_nil h₂) fun _ _ e => e)) fun _ _ e => e)))
end
section
variable {prog : Program} {w : World} {A₀ A : Around} {s : Shared} {base h₀ : Heap} {outer : List Env} {L : Addr} {m : Str → Option Value} {env : Env} {news : List (Addr × Obj)}
theorem codeG_call_function {R : Result → Shared → Prop} {a : Addr} {args : Args} {o : Obj} {fd : FuncData} {body : List Stmt} (hroom : A.depth < recursionLimit)
    (ho : s.heap.get? a = some o)
    (hd' : o.data = .func fd) (hco : fd.scope.isCoroutine = false) (hgen : fd.scope.isGenerator = false) (hbody : fd.body = .stmts body) (hcd : s.heap.CodeRec fd.code fd.qualname)
    (h : wpAny (model prog w) A.in1 (bindArgs fd args) (fun binds s₁ =>
      wpAny (model prog w) A.in1 (newFunctionEnv fd.scope fd.globals fd.closure binds (fd.qualname ++ ".<locals>.") (some a) fd.code none fd.builtins)
        (fun env s₂ => s₂.heap.NoLimit ∧ codeG (model prog w) A (.func body env) R s₂) (fun e s' => R (.error e) s') s₁) (fun e s' => R (.error e) s') s) :
    codeG (model prog w) A (.call (.ref a) args) R s := by
  refine codeG_of_tree rfl (wpG_of ?_)
  show wpAny _ A.in1 (callAny (.ref a) args) _ _ s
  simp only [callAny]
  refine wpAny_bind (wpAny_load ho ?_)
  obtain ⟨c, oc, vs, tq, hc, hoc, hdc, hq⟩ := hcd
  simp only [hd', callFunction, hco, hgen, hbody, hc]
  rw [hc] at h
  refine wpAny_bind (m := field (.ref c) 1) (wpAny_field hoc hdc hq (wpAny_bind (wpAny_pure ?_)))
  exact wpAny_bind (wpAny_mono h (fun binds s₁ h₁ => wpAny_bind (wpAny_mono h₁ (fun env s₂ h₂ => wpAny_bind (wpAny_enterFrame h₂.1 hroom
    (wpAny_pure (And.intro rfl h₂.2)))) fun _ _ h' => h')) fun _ _ h' => h')
theorem codeG_func {R : Result → Shared → Prop} {body env}
    (h : wpG (model prog w) (A.deeper env) (execs body env) (fun f s' => R (.ok (.ret (match f with | .ret v => v | _ => .none))) s') (fun _ _ => False) s) :
    codeG (model prog w) A (.func body env) R s := by
  refine codeG_of_tree rfl ?_
  show wpG _ (A.deeper env) (do point; match ← (execs body env).onRaise (leaving env) with | .ret v => ret v | _ => ret .none) _ _ s
  refine wpG_bindA (wpAny_point (wpG_bind (wpG_onRaise (wpG_mono h (fun f s' h' => ?_) fun _ _ h' => h'))))
  cases f <;> exact wpG_pure h'
theorem code_defGG {K : Frag} {p : Program} {loose : List Str} {mean : ExcName → Option Value} {mg mb : Str → Option Value} {R : Result → Shared → Prop} {name qual : Str} {params : Arguments} {body : List Stmt} {scope : Scope} {dV kV doc pm cdv ct oc : Value} {an od : Option Addr} {osl : Array (Option Value)} {f : Addr} {args : Args} {binds : List (Str × Value)}
    (B : Below A₀ base outer h₀) (F : Fr h₀ L s.heap m) (X₀ : K.In h₀) (T : Top p loose mean mg mb h₀) (hA : A.frames = some (env :: outer)) (hf : env.frame = some L) (hke : env.scope.kind = .function)
    (ho : K.lookup f = some ⟨oc, od, .func (fnOf name qual params body scope dV kV doc pm an cdv ct), osl⟩) (hcd : codeIn K cdv qual = true) (hroom : A.depth < recursionLimit)
    (hbind : BindsTo s (fnOf name qual params body scope dV kV doc pm an cdv ct) args binds) (hloc : ∀ y ∈ binds, scope.names.lookup y.1 = some .local)
    (h : ∀ g L' h₁, Fr h₀ L g m → Fr g L' h₁ (fun y => binds.reverse.lookup y) → News g L' h₁ [] → Below A base (env :: outer) g → K.In g → Top p loose mean mg mb g → GSub s.heap g (([] : List (Addr × Obj)).map (·.1)) →
      wpG (model prog w) (A.deeper (envOf qual scope L' f cdv)) (execs body (envOf qual scope L' f cdv))
        (fun fl s' => R (.ok (.ret (match fl with | .ret v => v | _ => .none))) s') (fun _ _ => False)
        { s with heap := h₁, toks := s.toks + binds.length })
    (hco : scope.isCoroutine = false) (hgen : scope.isGenerator = false) (hk : scope.kind = .function)
    (hcell : ∀ x ∈ scope.names, x.2 ≠ .cell) : codeG (model prog w) A (.call (.ref f) args) R s := by
  obtain ⟨FG, BG, st, lv⟩ := groundX (R := R) B F (News.nil (h := s.heap)) hA hf hke
  refine codeG_call_function (fd := fnX name qual params body scope [] dV kV doc pm an cdv ct) (body := body) hroom ((X₀.keeps F.keep) _ _ ho) rfl hco hgen rfl (codeRec_of (X₀.keeps F.keep) hcd) (hbind _ _ _ _ ?_)
  refine wpAny_newFunctionEnv hcell hloc (fun h₁ hns hsb => ⟨(T.nolimit.keeps F.keep).fresh _ hsb, codeG_func ?_⟩) hk
  have hk₁ : ∀ b o, s.heap.get? b = some o → h₁.get? b = some o := fun b o e => hsb.extBut b o (Nat.ne_of_lt (Heap.lt_size e)) (Heap.get?_push_of_some _ e)
  exact h _ s.heap.objs.size h₁ FG ⟨hns, hk₁, Nat.le_refl _⟩ (fun p hp => nomatch hp) BG (X₀.keeps st) (T.keeps st) (fun b o e _ => e)
end
noncomputable def swAt (wd : Nat) (b : List UInt8) (k : Nat) : UInt8 := b.getD (k / wd * wd + (wd - 1 - k % wd)) 0
noncomputable def swapB (wd : Nat) (b : List UInt8) : List UInt8 := (List.range b.length).map (swAt wd b)
noncomputable def fillB (wd : Nat) (b : List UInt8) (P : Nat → Bool) : List UInt8 := (List.range b.length).map fun k => if P k then swAt wd b k else 0
theorem fillB_len (wd b P) : (fillB wd b P).length = b.length := by simp [fillB]
theorem fillB_congr {wd b} {P P' : Nat → Bool} (h : ∀ k, k < b.length → P k = P' k) : fillB wd b P = fillB wd b P' := by
  unfold fillB
  refine List.map_congr_left fun k hk => ?_
  rw [h k (List.mem_range.mp hk)]
theorem fillB_zero {wd b} {P : Nat → Bool} (h : ∀ k, k < b.length → P k = false) : fillB wd b P = List.replicate b.length 0 := by
  unfold fillB
  rw [List.eq_replicate_iff]
  refine ⟨by simp, ?_⟩
  intro x hx
  obtain ⟨k, hk, rfl⟩ := List.mem_map.mp hx
  rw [h k (List.mem_range.mp hk)]
  rfl
theorem fillB_all {wd b} {P : Nat → Bool} (h : ∀ k, k < b.length → P k = true) : fillB wd b P = swapB wd b := by
  unfold fillB swapB
  refine List.map_congr_left fun k hk => ?_
  rw [h k (List.mem_range.mp hk)]
  rfl
theorem fillB_get (wd b P) (k : Nat) : (fillB wd b P)[k]? = if k < b.length then some (if P k then swAt wd b k else 0) else none := by
  unfold fillB
  rw [List.getElem?_map]
  by_cases h : k < b.length
  · rw [List.getElem?_range h, if_pos h]; rfl
  · rw [if_neg h, List.getElem?_eq_none (by simpa using h)]; rfl
theorem fillB_set {wd b} {P P' : Nat → Bool} {k₀ : Nat} {v : UInt8} (hv : v = swAt wd b k₀) (hP : ∀ k, k < b.length → P' k = (P k || decide (k = k₀))) : (fillB wd b P).set k₀ v = fillB wd b P' := by
  refine List.ext_getElem? fun k => ?_
  rw [List.getElem?_set, fillB_get, fillB_get, fillB_len]
  by_cases hk : k < b.length
  · rw [if_pos hk, if_pos hk, hP k hk]
    by_cases e : k₀ = k
    · subst e
      simp [hv, hk]
    · have : decide (k = k₀) = false := decide_eq_false (fun q => e q.symm)
      rw [if_neg e, this, Bool.or_false]
  · rw [if_neg hk, if_neg hk]
    by_cases e : k₀ = k
    · subst e
      simp [hk]
    · rw [if_neg e]
noncomputable def filled (wd i j k : Nat) : Bool := decide (k < i * wd) || (decide (i * wd + wd - j ≤ k) && decide (k < i * wd + wd))
theorem filled_start (wd k : Nat) : filled wd 0 0 k = false := by
  unfold filled
  rw [Bool.eq_false_iff, ne_eq, Bool.or_eq_true, Bool.and_eq_true]
  simp only [decide_eq_true_eq]
  omega
theorem filled_wr {k a c : Nat} : (k < a ∨ (a ≤ k ∧ k < c)) ↔ (k < a ∨ k < c) := by omega
theorem filled_word (wd i k : Nat) : filled wd i wd k = filled wd (i + 1) 0 k := by
  unfold filled
  have e : (i + 1) * wd = i * wd + wd := Nat.succ_mul i wd
  rw [e, Nat.add_sub_cancel, Nat.sub_zero, Bool.eq_iff_iff]
  simp only [Bool.or_eq_true, Bool.and_eq_true, decide_eq_true_eq]
  generalize i * wd = a
  rw [filled_wr]
  exact ⟨fun h => .inl (h.elim (fun h => Nat.lt_of_lt_of_le h (Nat.le_add_right _ _)) id), fun h => h.elim .inr fun h => absurd h.2 (Nat.not_lt.mpr h.1)⟩
theorem filled_ar {k a c m : Nat} (hc : c < m) : (k < a ∨ (c ≤ k ∧ k < m)) ↔ ((k < a ∨ (c + 1 ≤ k ∧ k < m)) ∨ k = c) := by omega
theorem filled_step (wd i j k : Nat) (hj : j < wd) : filled wd i (j + 1) k = (filled wd i j k || decide (k = i * wd + wd - 1 - j)) := by
  unfold filled
  generalize i * wd = a
  obtain ⟨c, hc⟩ : ∃ c, a + wd = c + (j + 1) := ⟨a + wd - (j + 1), by omega⟩
  have e1 : a + wd - (j + 1) = c := by rw [hc]; exact Nat.add_sub_cancel _ _
  have e2 : a + wd - j = c + 1 := by rw [hc]; exact Nat.sub_eq_of_eq_add (by rw [Nat.add_comm j 1, ← Nat.add_assoc])
  have e3 : a + wd - 1 - j = c := by rw [Nat.sub_sub, Nat.add_comm 1 j]; exact e1
  rw [e1, e2, e3, Bool.eq_iff_iff]
  simp only [Bool.or_eq_true, Bool.and_eq_true, decide_eq_true_eq]
  exact filled_ar (by omega)
theorem swAt_place {wd : Nat} {b : List UInt8} {i j : Nat} (hj : j < wd) : swAt wd b (i * wd + wd - 1 - j) = b.getD (i * wd + j) 0 := by
  unfold swAt
  have e : i * wd + wd - 1 - j = (wd - 1 - j) + wd * i := by rw [Nat.mul_comm wd i, Nat.sub_sub, Nat.sub_sub, Nat.add_sub_assoc (by omega), Nat.add_comm]
  have hw : 0 < wd := by omega
  have h1 : (i * wd + wd - 1 - j) / wd = i := by
    rw [e, Nat.add_mul_div_left _ _ hw, Nat.div_eq_of_lt (by omega), Nat.zero_add]
  have h2 : (i * wd + wd - 1 - j) % wd = wd - 1 - j := by
    rw [e, Nat.add_mul_mod_self_left, Nat.mod_eq_of_lt (by omega)]
  rw [h1, h2]
  congr 1
  rw [Nat.sub_sub_self (Nat.le_sub_one_of_lt hj)]
section
variable {prog : Program} {w : World} {A : Around} {E : Value → Shared → Prop} {s : Shared} {env : Env} {h₀ : Heap} {x : Str} {body : List Stmt} {Q : Flow → Shared → Prop} {m₀ : Str → Option Value}
theorem iter_rng {r : Addr} {a b c : Int} {t₀ u₀ v₀ : Tok} {n : Nat} {rest : List (Addr × Obj)} (J : Nat → (Str → Option Value) → List (Addr × Obj) → Prop)
    (hh : A.handled = none) (hr : IsRange s.heap r a b c t₀ u₀ v₀) (hsmall : Builtin.Range.small a b c = true) (hn : Builtin.Range.rangeSize a b c = (n : Int)) (F : Fr h₀ env.locals s.heap m₀) (N : News h₀ env.locals s.heap rest) (hj : J 0 m₀ rest)
    (turn : ∀ i t m₁ news₁ h tk own, i < n → news₁.map (·.1) = rest.map (·.1) → OwnOff own (rest.map (·.1)) → J i m₁ news₁ → Fr h₀ env.locals h (fun y => if y = x then some (.int (a + (i : Int) * c) t) else m₁ y) → News h₀ env.locals h (news₁ ++ own) →
      wpAny (model prog w) A (execs body env) (InvPostN h₀ env.locals (J (i + 1)) own (rest.map (·.1)) { s with heap := h, toks := tk } Q) E { s with heap := h, toks := tk })
    (done : ∀ m₁ news₁ h tk, J n m₁ news₁ → Fr h₀ env.locals h m₁ → News h₀ env.locals h news₁ → Q .next { s with heap := h, toks := tk }) :
    wpAny (model prog w) A (pyIter (.ref r)) (fun it s₂ => LoopAtV prog w A h₀ env x body Q E it s₂) E s := by
  refine wpAny_pyIter_range hr hsmall ?_
  have W : Walks prog w A s.heap.objs.size [s.heap.objs.size] [s.heap.objs.size] n (fun i v => i < n ∧ ∃ t, v = .int (a + i * c) t)
      (fun i h => IsRangeIter h s.heap.objs.size (a + (i : Nat) * c) ((n : Int) - (i : Nat)) c) := (Walks.range hh _ a c n).bound
  refine loop_invN J W ?_ ?_ ?_ ?_ (by show IsRangeIter _ _ _ _ _; rw [hn]; simpa using Heap.get?_push_size _ rfl) (F.push _) (fun p hp => ⟨Heap.get?_push_of_some _ (N p hp).1, (N p hp).2⟩) hj ?_ ?_
  · intro hm
    exact absurd F.ns.lt ((List.mem_singleton.mp hm) ▸ Nat.lt_irrefl _)
  · intro b hb
    rw [List.mem_singleton.mp hb]
    exact next_is_new F
  · intro p hp hI
    exact absurd (Heap.lt_size (N p hp).1) ((List.mem_singleton.mp hI) ▸ Nat.lt_irrefl _)
  · intro p hp hI
    exact absurd (Heap.lt_size (N p hp).1) ((List.mem_singleton.mp hI) ▸ Nat.lt_irrefl _)
  · rintro i v m₁ news₁ h tk own hi ⟨_, t, rfl⟩ hadr hoff hJ F₁ N₁
    exact turn i t m₁ news₁ h tk own hi hadr hoff hJ F₁ N₁
  · exact done
theorem iter_ba {r D : Addr} {a b c : Int} {t₀ u₀ v₀ : Tok} {n : Nat} {keepL : List (Addr × Obj)} (y₂ : Str) (g : Nat → List UInt8)
    (hh : A.handled = none) (hr : IsRange s.heap r a b c t₀ u₀ v₀) (hsmall : Builtin.Range.small a b c = true) (hn : Builtin.Range.rangeSize a b c = (n : Int)) (F : Fr h₀ env.locals s.heap m₀) (N : News h₀ env.locals s.heap ((D, baObj (g 0)) :: keepL)) (hD : ∀ p ∈ keepL, p.1 ≠ D)
    (turn : ∀ (i : Nat) (t : Tok) (u : Str → Option Value) (h : Heap) (tk : Nat) (own : List (Addr × Obj)), i < n → OwnOff own [D] → Fr h₀ env.locals h (fun z => if z = x then some (.int (a + (i : Int) * c) t) else if z = y₂ then u z else m₀ z) → News h₀ env.locals h ((D, baObj (g i)) :: own) →
      wpAny (model prog w) A (execs body env) (InvPostN h₀ env.locals (fun m' nx => nx = [(D, baObj (g (i + 1)))] ∧ ∀ z, z ≠ x → z ≠ y₂ → m' z = m₀ z) own [D] { s with heap := h, toks := tk } Q) E { s with heap := h, toks := tk })
    (done : ∀ (u : Str → Option Value) h tk, Fr h₀ env.locals h (fun z => if z = x then u z else if z = y₂ then u z else m₀ z) → News h₀ env.locals h ((D, baObj (g n)) :: keepL) → Q .next { s with heap := h, toks := tk }) :
    wpAny (model prog w) A (pyIter (.ref r)) (fun it s₂ => LoopAtV prog w A h₀ env x body Q E it s₂) E s := by
  refine iter_rng (fun i m nx => nx = (D, baObj (g i)) :: keepL ∧ ∀ z, z ≠ x → z ≠ y₂ → m z = m₀ z) hh hr hsmall hn F N ⟨rfl, fun _ _ _ => rfl⟩ ?_ ?_
  · rintro i t m₁ nx h tk own hi _ hoff ⟨rfl, hm⟩ F₁ N₁
    have e : (fun z => if z = x then some (Value.int (a + (i : Int) * c) t) else m₁ z) = fun z => if z = x then some (Value.int (a + (i : Int) * c) t) else if z = y₂ then m₁ z else m₀ z := by
      funext z
      by_cases h1 : z = x
      · simp [h1]
      · simp only [if_neg h1]
        by_cases h2 : z = y₂
        · simp [h2]
        · simp only [if_neg h2]; exact hm z h1 h2
    rw [e] at F₁
    have hoff' : OwnOff (keepL ++ own) [D] := by
      intro p hp q hq
      rw [List.mem_singleton.mp hq]
      rcases List.mem_append.mp hp with hp | hp
      · exact hD p hp
      · exact hoff p hp D (by simp)
    refine wpAny_mono (turn i t m₁ h tk (keepL ++ own) hi hoff' F₁ N₁) (fun f s₂ p => ?_) fun _ _ e => e
    have fin : InvEndN h₀ env.locals (fun m' nx => nx = [(D, baObj (g (i + 1)))] ∧ ∀ z, z ≠ x → z ≠ y₂ → m' z = m₀ z) (keepL ++ own) [D] { s with heap := h, toks := tk } s₂ →
        InvEndN h₀ env.locals (fun m nx => nx = (D, baObj (g (i + 1))) :: keepL ∧ ∀ z, z ≠ x → z ≠ y₂ → m z = m₀ z) own (((D, baObj (g 0)) :: keepL).map (·.1)) { s with heap := h, toks := tk } s₂ := by
      rintro ⟨h', tk', m', news', nx, e, F', N', hn', ho, ha, rfl, hm'⟩
      refine ⟨h', tk', m', news', (D, baObj (g (i + 1))) :: keepL, e, F', N', fun p hp => ?_, fun p hp => ho p (List.mem_append.mpr (.inr hp)), rfl, rfl, hm'⟩
      rcases List.mem_cons.mp hp with rfl | hp
      · exact hn' _ (by simp)
      · exact ho p (List.mem_append.mpr (.inl hp))
    cases f with
    | ret v => exact p
    | brk => exact p
    | next => exact fin p
    | cont => exact fin p
  · rintro m₁ nx h tk ⟨rfl, hm⟩ F₁ N₁
    refine done m₁ h tk ?_ N₁
    have e : (fun z => if z = x then m₁ z else if z = y₂ then m₁ z else m₀ z) = m₁ := by
      funext z
      by_cases h1 : z = x
      · simp [h1]
      · simp only [if_neg h1]
        by_cases h2 : z = y₂
        · simp [h2]
        · simp only [if_neg h2]; exact (hm z h1 h2).symm
    rw [e]; exact F₁
theorem ba_end {L : Addr} {x y₂ : Str} {m' : Str → Option Value} {D : Addr} {own : List (Addr × Obj)} {b b' : List UInt8} {s₁ : Shared} {h' : Heap} {tk' : Nat} {f : Flow}
    (F : Fr h₀ L h' m') (N : News h₀ L h' ((D, baObj b') :: own)) (hm : ∀ z, z ≠ x → z ≠ y₂ → m' z = m₀ z) (e : b = b') (hf : f = .next ∨ f = .cont) :
    InvPostN h₀ L (fun m' nx => nx = [(D, baObj b)] ∧ ∀ z, z ≠ x → z ≠ y₂ → m' z = m₀ z) own [D] s₁ Q f { s₁ with heap := h', toks := tk' } := by
  subst e
  have key : InvEndN h₀ L (fun m' nx => nx = [(D, baObj b)] ∧ ∀ z, z ≠ x → z ≠ y₂ → m' z = m₀ z) own [D] s₁ { s₁ with heap := h', toks := tk' } :=
    ⟨h', tk', m', _, [(D, baObj b)], rfl, F, N, fun p hp => by rw [List.mem_singleton.mp hp]; exact .head _, fun p hp => .tail _ hp, rfl, rfl, hm⟩
  rcases hf with rfl | rfl <;> exact key
theorem len_bytesL {b : List UInt8} {t : Tok} {Q : Value → Shared → Prop} (hz : b.length ≤ 16777216) (h : ∀ t' k, Q (.int b.length t') { s with toks := k }) : wpAny (model prog w) A (call (.builtin "len") [.bytes b.toArray t]) Q E s := by
  refine len_bytes (by rw [List.size_toArray]; omega) ?_
  rw [List.size_toArray]
  exact h _ _
theorem news_push {h₀ h h' : Heap} {L D : Addr} {m : Str → Option Value} {o : Obj} {news : List (Addr × Obj)} (F : Fr h₀ L h m) (N : News h₀ L h news) (hk : ∀ b o, h.get? b = some o → h'.get? b = some o) (hD : h'.get? D = some o) (e : D = h.objs.size) : News h₀ L h' ((D, o) :: news) := by
  subst e
  intro q hq
  rcases List.mem_cons.mp hq with rfl | hq
  · refine ⟨hD, ?_, ?_⟩
    · obtain ⟨oL, _, _, hL, _⟩ := F.ns
      exact Nat.ne_of_gt (Heap.lt_size hL)
    · exact next_is_new F
  · exact ⟨hk _ _ (N q hq).1, (N q hq).2⟩
theorem item_bytesL {value slice : PySem.Expr} {b : List UInt8} {i : Int} {t ui : Tok} {Q : Value → Shared → Prop} (hz : b.length ≤ 16777216) (h0 : 0 ≤ i) (h1 : i < (b.length : Int))
    (h : ∀ t' k, Q (.int ((b.getD i.toNat 0).toNat : Nat) t') { s with toks := k })
    (hs : subscripted slice false (.bytes b.toArray t) (.int i ui) = operate [.bytes b.toArray t, .int i ui] (getItem (.bytes b.toArray t) (.int i ui)) := by with_unfolding_all rfl)
    (ht : ∀ r, letTemporaryGo value (.bytes b.toArray t) r = pure () := by intro _; with_unfolding_all rfl) : wpAny (model prog w) A (subscriptTail value slice (.bytes b.toArray t) (.int i ui)) Q E s :=
  KBy.item_N (by omega) h0 h1 (h _ _) hs ht
end
theorem small_of {n c : Int} (h0 : 0 ≤ n) (h1 : n ≤ 1000000) (h2 : 0 < c) (h3 : c ≤ 1000000) (hn : 0 ≤ Builtin.Range.rangeSize 0 n c) (hn' : Builtin.Range.rangeSize 0 n c ≤ 1000000) : Builtin.Range.small 0 n c = true := by
  unfold Builtin.Range.small Builtin.Range.rangeFitsLong
  simp only [Bool.and_eq_true, decide_eq_true_eq, Bool.or_eq_true]
  refine ⟨⟨⟨⟨?_, ?_⟩, ?_⟩, ?_⟩, .inr ?_⟩
  · omega
  · omega
  · omega
  · omega
  · rw [if_pos h2]
    simp only [Bool.and_eq_true, decide_eq_true_eq]
    omega
theorem rangeSize_mul {q wd : Nat} (hw : 0 < wd) : Builtin.Range.rangeSize 0 ((q * wd : Nat) : Int) (wd : Int) = (q : Int) := by
  unfold Builtin.Range.rangeSize
  rw [if_pos (by omega)]
  cases q with
  | zero => simp
  | succ q =>
    have h1 : (0 : Int) < (((q + 1) * wd : Nat) : Int) := by
      have : 0 < (q + 1) * wd := Nat.mul_pos (Nat.succ_pos q) hw
      omega
    rw [if_pos h1]
    have e : ((((q + 1) * wd : Nat) : Int) - 0 - 1) = ((wd - 1 : Nat) : Int) + (wd : Int) * (q : Int) := by
      rw [Nat.succ_mul]
      push_cast
      rw [Int.mul_comm (wd : Int) (q : Int)]
      omega
    rw [e, Int.add_mul_ediv_left _ _ (by omega)]
    have h2 : ((wd - 1 : Nat) : Int) / (wd : Int) = 0 := Int.ediv_eq_zero_of_lt (by omega) (by omega)
    rw [h2]
    omega
theorem rangeSize_one {n : Nat} : Builtin.Range.rangeSize 0 (n : Int) 1 = (n : Int) := by
  have := rangeSize_mul (q := n) (wd := 1) (by omega)
  simpa using this
theorem inner_eq {wd i j : Nat} {b : List UInt8} {k r : Int} (hj : j < wd) (ek : k = ((i * wd + wd - 1 - j : Nat) : Int)) (er : r = ((i * wd + j : Nat) : Int)) :
    fillB wd b (filled wd i (j + 1)) = (fillB wd b (filled wd i j)).set k.toNat ((((b.getD r.toNat 0).toNat : Nat) : Int).toNat.toUInt8) := by
  subst ek er
  rw [Int.toNat_natCast, Int.toNat_natCast, Int.toNat_natCast]
  refine (fillB_set ?_ fun k _ => filled_step wd i j k hj).symm
  rw [swAt_place hj]
  simp
local macro_rules | `(tactic| walk_at "my:idx") => `(tactic| first | (omega) | ((rw [fillB_len]; omega)) | ((simp only [fillB_len] at *; omega)) | (exact Int.ofNat_lt.mpr (UInt8.toNat_lt _)))
section
variable {w : World} {mean : ExcName → Option Value} {mg mb : Str → Option Value} {dp un : Nat} {gd : Option (List Code)} {cn : Str} {cs : Scope} {a : Addr} {ccd : Value} {cl : List (Str × Addr)} {outer : List Env} {A₀ : Around} {base h₀ : Heap} {L : Addr} {m : Str → Option Value} {news : List (Addr × Obj)} {s : Shared} {Q E : Value → Shared → Prop}
theorem byteswap_call {b : List UInt8} {t u : Tok} {wd : Nat}
    (B : Below A₀ base outer h₀) (F : Fr h₀ L s.heap m) (X : (hd.heap_39 w.params).In h₀) (T : Top hd.view_39 (looseW hd.view_39 []) mean mg mb h₀) (hk : cs.kind = .function)
    (hd1 : dp + 3 < recursionLimit) (hu : un + 60 < cLine) (hz : b.length ≤ 100000) (hw0 : 0 < wd) (hwz : wd ≤ 100000) (q : Nat) (hq : b.length = q * wd)
    (ret : ∀ (t : Tok) (h' : Heap) (tk' : Nat), (∀ b o, s.heap.get? b = some o → h'.get? b = some o) → Q (.bytes (swapB wd b).toArray t) { s with heap := h', toks := tk' }) :
    wpG (model Challenge.rw_nq0013_01.row.prog w) (ktrTop dp un gd cn cs L a ccd cl outer) (call (.ref 115) [.bytes b.toArray t, .int (wd : Int) u]) Q E s := by
  w_top off
  revert X
  k_fill
  intro X
  refine wpG_call ?_
  k_dflt ((refine' code_defGG ?k1 ?k2 ?k3 ?k5 ?kA ?kF ?kK ?k6 ?k7 ?k8 ?k9 ?kB ?_ ?c2 ?c3 ?c4 ?c5; (case kA => exact rfl); (case kF => exact rfl); (case kK => assumption); (case k1 => k_asm); (case k2 => k_asm); (case k3 => k_asm); (case k5 => k_asm); (case k6 => k_is); (case k7 => k_is); (case k8 => ktr_room); (case k9 => exact BindsTo.of_eq rfl); (case c5 => decide); (case kB => exact locs rfl); (case c2 => exact rfl); (case c3 => exact rfl); (case c4 => exact rfl); k_whole; intro g' L' h' FG' F' N' B' X' T' hG'; (try dsimp only); (try k_lift B')))
  refine wpG_execs_cons (wpG_Assign_Name (wpG_Call_Name ?_))
  (repeat' (first | (k_unfold; (try dsimp only)) | ((((fail_if_success (with_reducible show InvPostN _ _ _ _ _ _ _ _ _)); (fail_if_success (with_reducible show InvEndN _ _ _ _ _ _ _)); (fail_if_success (with_reducible show wpG _ _ _ _ _ _)); (fail_if_success (with_reducible show wpAny _ _ (pyIter (Value.ref _)) _ _ _)))); walk1) | ((((fail_if_success (with_reducible show InvPostN _ _ _ _ _ _ _ _ _)); (fail_if_success (with_reducible show InvEndN _ _ _ _ _ _ _)); (fail_if_success (with_reducible show wpG _ _ _ _ _ _)); (fail_if_success (with_reducible show wpAny _ _ (pyIter (Value.ref _)) _ _ _)))); dsimp only; walk1) | (leave1; walk_say "STEP leave1"; try dsimp only) | fail "no step"))
  refine wpG_call1 (P := fun _ => True) (fun _ _ => ⟨.machine, .inr (.inl rfl), Looks.of_pure rfl⟩) (wpG_of ?_)
  (repeat' (first | (k_unfold; (try dsimp only)) | ((((fail_if_success (with_reducible show InvPostN _ _ _ _ _ _ _ _ _)); (fail_if_success (with_reducible show InvEndN _ _ _ _ _ _ _)); (fail_if_success (with_reducible show wpG _ _ _ _ _ _)); (fail_if_success (with_reducible show wpAny _ _ (pyIter (Value.ref _)) _ _ _)))); (first | (with_reducible (k_here; (with_reducible show wpAny _ _ (call (Value.builtin "len") [Value.bytes (List.toArray _) _]) _ _ _); (refine len_bytesL (by walk_at "my:b_size") ?_); intro _ _)) | walk1)) | ((((fail_if_success (with_reducible show InvPostN _ _ _ _ _ _ _ _ _)); (fail_if_success (with_reducible show InvEndN _ _ _ _ _ _ _)); (fail_if_success (with_reducible show wpG _ _ _ _ _ _)); (fail_if_success (with_reducible show wpAny _ _ (pyIter (Value.ref _)) _ _ _)))); dsimp only; (first | (with_reducible (k_here; (with_reducible show wpAny _ _ (call (Value.builtin "len") [Value.bytes (List.toArray _) _]) _ _ _); (refine len_bytesL (by walk_at "my:b_size") ?_); intro _ _)) | walk1)) | (leave1; walk_say "STEP leave1"; try dsimp only) | fail "no step"))
  · trivial
  (with_reducible rename Fr _ _ _ _ => kF)
  (with_reducible rename News _ _ _ _ => kN)
  refine call_ba (by omega) (by omega) fun D9 h9 hD9 eD9 keep9 => ?_
  have F9 := Fr.keeps kF keep9
  have N9 := news_push kF kN keep9 hD9 eD9
  clear eD9 hD9 keep9 kF kN
  (repeat' (first | (k_unfold; (try dsimp only)) | ((((fail_if_success (with_reducible show InvPostN _ _ _ _ _ _ _ _ _)); (fail_if_success (with_reducible show InvEndN _ _ _ _ _ _ _)); (fail_if_success (with_reducible show wpG _ _ _ _ _ _)); (fail_if_success (with_reducible show wpAny _ _ (pyIter (Value.ref _)) _ _ _)))); walk1) | ((((fail_if_success (with_reducible show InvPostN _ _ _ _ _ _ _ _ _)); (fail_if_success (with_reducible show InvEndN _ _ _ _ _ _ _)); (fail_if_success (with_reducible show wpG _ _ _ _ _ _)); (fail_if_success (with_reducible show wpAny _ _ (pyIter (Value.ref _)) _ _ _)))); dsimp only; walk1) | (leave1; walk_say "STEP leave1"; try dsimp only) | fail "no step"))
  dsimp only
  refine wpG_of ?_
  (repeat' (first | (k_unfold; (try dsimp only)) | ((((fail_if_success (with_reducible show InvPostN _ _ _ _ _ _ _ _ _)); (fail_if_success (with_reducible show InvEndN _ _ _ _ _ _ _)); (fail_if_success (with_reducible show wpG _ _ _ _ _ _)); (fail_if_success (with_reducible show wpAny _ _ (pyIter (Value.ref _)) _ _ _)))); (first | (with_reducible (k_here; (with_reducible show wpAny _ _ (call (Value.builtin "len") [Value.bytes (List.toArray _) _]) _ _ _); (refine len_bytesL (by walk_at "my:b_size") ?_); intro _ _)) | walk1)) | ((((fail_if_success (with_reducible show InvPostN _ _ _ _ _ _ _ _ _)); (fail_if_success (with_reducible show InvEndN _ _ _ _ _ _ _)); (fail_if_success (with_reducible show wpG _ _ _ _ _ _)); (fail_if_success (with_reducible show wpAny _ _ (pyIter (Value.ref _)) _ _ _)))); dsimp only; (first | (with_reducible (k_here; (with_reducible show wpAny _ _ (call (Value.builtin "len") [Value.bytes (List.toArray _) _]) _ _ _); (refine len_bytesL (by walk_at "my:b_size") ?_); intro _ _)) | walk1)) | (leave1; walk_say "STEP leave1"; try dsimp only) | fail "no step"))
  (with_reducible rename IsRange _ _ _ _ _ _ _ _ => kR)
  (with_reducible rename Fr _ _ _ _ => kF)
  (with_reducible rename News _ _ _ _ => kN)
  rw [Int.toNat_natCast, ← fillB_zero (wd := wd) (fun k _ => filled_start wd k)] at kN
  have hqz : q ≤ 100000 := by
    have := Nat.mul_le_mul (Nat.le_refl q) hw0
    omega
  have hrs : Builtin.Range.rangeSize 0 (b.length : Int) (wd : Int) = (q : Int) := by rw [hq]; exact rangeSize_mul hw0
  refine iter_ba (n := q) (Str.ofString "j") (fun i => fillB wd b (filled wd i 0)) rfl kR (small_of (by omega) (by omega) (by omega) (by omega) (by omega) (by omega)) hrs kF kN (fun p hp => nomatch hp) ?_ ?_
  · intro i ti ui hi tki own hiq hoff Fi Ni
    have hib : i * wd + wd ≤ b.length := by
      rw [hq, ← Nat.succ_mul]
      exact Nat.mul_le_mul_right wd hiq
    (repeat' (first | (k_unfold; (try dsimp only)) | ((((fail_if_success (with_reducible show InvPostN _ _ _ _ _ _ _ _ _)); (fail_if_success (with_reducible show InvEndN _ _ _ _ _ _ _)); (fail_if_success (with_reducible show wpG _ _ _ _ _ _)); (fail_if_success (with_reducible show wpAny _ _ (pyIter (Value.ref _)) _ _ _)))); walk1) | ((((fail_if_success (with_reducible show InvPostN _ _ _ _ _ _ _ _ _)); (fail_if_success (with_reducible show InvEndN _ _ _ _ _ _ _)); (fail_if_success (with_reducible show wpG _ _ _ _ _ _)); (fail_if_success (with_reducible show wpAny _ _ (pyIter (Value.ref _)) _ _ _)))); dsimp only; walk1) | (leave1; walk_say "STEP leave1"; try dsimp only) | fail "no step"))
    (with_reducible rename IsRange _ _ _ _ _ _ _ _ => kRi)
    (with_reducible rename Fr _ _ _ _ => kFi)
    (with_reducible rename News _ _ _ _ => kNi)
    refine iter_ba (n := wd) (Str.ofString "j") (fun j => fillB wd b (filled wd i j)) rfl kRi (small_of (by omega) (by omega) (by omega) (by omega) (by rw [rangeSize_one]; omega) (by rw [rangeSize_one]; omega)) rangeSize_one kFi kNi (fun p hp => hoff p hp D9 (by simp)) ?_ ?_
    · intro j tj uj hj tkj ownj hjw hoffj Fj Nj
      (repeat' (first | (k_unfold; (try dsimp only)) | ((((fail_if_success (with_reducible show InvPostN _ _ _ _ _ _ _ _ _)); (fail_if_success (with_reducible show InvEndN _ _ _ _ _ _ _)); (fail_if_success (with_reducible show wpG _ _ _ _ _ _)); (fail_if_success (with_reducible show wpAny _ _ (pyIter (Value.ref _)) _ _ _)))); (first | (with_reducible (k_here; (with_reducible show wpAny _ _ (subscriptTail _ _ (Value.bytes (List.toArray _) _) (Value.int _ _)) _ _ _); (refine item_bytesL (by walk_at "my:b_size") (by walk_at "my:idx") (by walk_at "my:idx") ?_); intro _ _)) | (with_reducible (k_here; (with_reducible show wpAny _ _ (setItem (Value.ref _) (Value.int _ _) (Value.int _ _)) _ _ _); k_dflt (refine' setItem_baK ?F ?N ?U ?a ?b ?z ?c ?d ?_; (case F => k_asm); (case N => k_asm); (case U => k_upd); (case a => walk_at "my:idx"); (case b => walk_at "my:idx"); (case z => walk_at "my:idx"); (case c => omega); (case d => walk_at "my:idx")); intro h' F' N'; (try dsimp only at N'); (try k_sweep))) | walk1)) | ((((fail_if_success (with_reducible show InvPostN _ _ _ _ _ _ _ _ _)); (fail_if_success (with_reducible show InvEndN _ _ _ _ _ _ _)); (fail_if_success (with_reducible show wpG _ _ _ _ _ _)); (fail_if_success (with_reducible show wpAny _ _ (pyIter (Value.ref _)) _ _ _)))); dsimp only; (first | (with_reducible (k_here; (with_reducible show wpAny _ _ (subscriptTail _ _ (Value.bytes (List.toArray _) _) (Value.int _ _)) _ _ _); (refine item_bytesL (by walk_at "my:b_size") (by walk_at "my:idx") (by walk_at "my:idx") ?_); intro _ _)) | (with_reducible (k_here; (with_reducible show wpAny _ _ (setItem (Value.ref _) (Value.int _ _) (Value.int _ _)) _ _ _); k_dflt (refine' setItem_baK ?F ?N ?U ?a ?b ?z ?c ?d ?_; (case F => k_asm); (case N => k_asm); (case U => k_upd); (case a => walk_at "my:idx"); (case b => walk_at "my:idx"); (case z => walk_at "my:idx"); (case c => omega); (case d => walk_at "my:idx")); intro h' F' N'; (try dsimp only at N'); (try k_sweep))) | walk1)) | (leave1; walk_say "STEP leave1"; try dsimp only) | fail "no step"))
      exact ba_end (s₁ := ⟨hj, s.gens, s.drawn, tkj, s.os⟩) (by k_asm) (by assumption) (fun z h1 h2 => by simp only [if_neg h1]) (inner_eq hjw (by omega) (by omega)) (.inl rfl)
    · intro uj hj tkj Fj Nj
      (repeat' (first | (k_unfold; (try dsimp only)) | ((((fail_if_success (with_reducible show InvPostN _ _ _ _ _ _ _ _ _)); (fail_if_success (with_reducible show InvEndN _ _ _ _ _ _ _)); (fail_if_success (with_reducible show wpG _ _ _ _ _ _)); (fail_if_success (with_reducible show wpAny _ _ (pyIter (Value.ref _)) _ _ _)))); walk1) | ((((fail_if_success (with_reducible show InvPostN _ _ _ _ _ _ _ _ _)); (fail_if_success (with_reducible show InvEndN _ _ _ _ _ _ _)); (fail_if_success (with_reducible show wpG _ _ _ _ _ _)); (fail_if_success (with_reducible show wpAny _ _ (pyIter (Value.ref _)) _ _ _)))); dsimp only; walk1) | (leave1; walk_say "STEP leave1"; try dsimp only) | fail "no step"))
      exact ba_end (s₁ := ⟨hi, s.gens, s.drawn, tki, s.os⟩) (by k_asm) (by assumption) (fun z h1 h2 => by simp only [if_neg h1, if_neg h2]) (fillB_congr fun k _ => (filled_word wd i k).symm) (.inl rfl)
  · intro ui hi tki Fi Ni
    (repeat' (first | (k_unfold; (try dsimp only)) | ((((fail_if_success (with_reducible show InvPostN _ _ _ _ _ _ _ _ _)); (fail_if_success (with_reducible show InvEndN _ _ _ _ _ _ _)); (fail_if_success (with_reducible show wpG _ _ _ _ _ _)); (fail_if_success (with_reducible show wpAny _ _ (pyIter (Value.ref _)) _ _ _)))); (first | (with_reducible (k_here; (with_reducible show wpAny _ _ (call (Value.type _) [Value.ref _]) _ _ _); k_dflt (refine' call_bytes_ba ?o ?z ?_; (case o => exact (News.get (by k_asm) (by k_mem))); (case z => walk_at "my:idx")); intro _ _)) | walk1)) | ((((fail_if_success (with_reducible show InvPostN _ _ _ _ _ _ _ _ _)); (fail_if_success (with_reducible show InvEndN _ _ _ _ _ _ _)); (fail_if_success (with_reducible show wpG _ _ _ _ _ _)); (fail_if_success (with_reducible show wpAny _ _ (pyIter (Value.ref _)) _ _ _)))); dsimp only; (first | (with_reducible (k_here; (with_reducible show wpAny _ _ (call (Value.type _) [Value.ref _]) _ _ _); k_dflt (refine' call_bytes_ba ?o ?z ?_; (case o => exact (News.get (by k_asm) (by k_mem))); (case z => walk_at "my:idx")); intro _ _)) | walk1)) | (leave1; walk_say "STEP leave1"; try dsimp only) | fail "no step"))
    exact ret_bytes (s := s) ret (fillB_all fun k hk => by unfold filled; simp only [Bool.or_eq_true, decide_eq_true_eq]; left; omega).symm (by (exact gsub_nil (by assumption) (by assumption)))
end
noncomputable def riseF (b : List UInt8) : Int := if b = [46, 46] then -1 else if b = [46] then 0 else 1
theorem rise_dd : riseF [46, 46] = -1 := rfl
theorem rise_dot : riseF [46] = 0 := rfl
theorem rise_name {b : List UInt8} (h : b ≠ [46, 46]) (h' : b ≠ [46]) : riseF b = 1 := by unfold riseF; rw [if_neg h, if_neg h']
noncomputable def htF (st : Nat → List UInt8) : Nat → Int
  | 0 => 0
  | n + 1 => htF st n + riseF (st n)
noncomputable def kpF (st : Nat → List UInt8) (root : List UInt8) (n k : Nat) : Bool :=
  if st k = [46, 46] then decide (root = []) && (List.range (k + 1)).all fun j => decide (htF st (k + 1) < htF st j)
  else decide (st k ≠ [46]) && (List.range n).all fun j => decide (k ≤ j → htF st k < htF st (j + 1))
theorem kpF_succ (st : Nat → List UInt8) (root : List UInt8) (n k : Nat) (hk : k ≤ n) : kpF st root (n + 1) k = (kpF st root n k && (decide (st k = [46, 46]) || decide (htF st k < htF st (n + 1)))) := by
  unfold kpF
  by_cases h : st k = [46, 46]
  · simp [h]
  · simp only [h, if_false, List.range_succ, List.all_append, List.all_cons, List.all_nil, Bool.and_true, decide_false, Bool.false_or]
    rw [Bool.and_assoc]
    congr 2
    simp [hk]
structure StackAt (st : Nat → List UInt8) (root : List UInt8) (n : Nat) (ds ns : List Nat) (base : Int) : Prop where
  kept : (List.range n).filter (kpF st root n) = ds ++ ns
  dsd : ∀ k ∈ ds, st k = [46, 46]
  nsn : ∀ k ∈ ns, st k ≠ [46, 46] ∧ st k ≠ [46]
  hts : ns.map (htF st) = (List.range ns.length).map fun (l : Nat) => base + (l : Int)
  top : htF st n = base + (ns.length : Int)
  low : ∀ j, j ≤ n → base ≤ htF st j
  dots : root = [] → (ds.length : Int) = -base
  none : root ≠ [] → ds = []
  acc : ((List.range n).map st).foldl (normStep root) [] = (ds ++ ns).map st
theorem hts_lt {f : Nat → Int} {ns : List Nat} {base : Int} (h : ns.map f = (List.range ns.length).map fun (l : Nat) => base + (l : Int)) : ∀ k ∈ ns, base ≤ f k ∧ f k < base + (ns.length : Int) := by
  intro k hk
  have : f k ∈ ns.map f := List.mem_map_of_mem hk
  rw [h, List.mem_map] at this
  obtain ⟨l, hl, e⟩ := this
  have := List.mem_range.mp hl
  omega
theorem hts_snoc {f : Nat → Int} {ns : List Nat} {x : Nat} {base : Int} (h : (ns ++ [x]).map f = (List.range (ns ++ [x]).length).map fun (l : Nat) => base + (l : Int)) :
    (ns.map f = (List.range ns.length).map fun (l : Nat) => base + (l : Int)) ∧ f x = base + (ns.length : Int) := by
  simp only [List.map_append, List.map_cons, List.map_nil, List.length_append, List.length_cons, List.length_nil, List.range_succ, Nat.zero_add] at h
  have := List.append_inj h (by simp)
  exact ⟨this.1, by simpa using this.2⟩
theorem hts_push {f : Nat → Int} {ns : List Nat} {x : Nat} {base : Int} (h : ns.map f = (List.range ns.length).map fun (l : Nat) => base + (l : Int)) (hx : f x = base + (ns.length : Int)) :
    (ns ++ [x]).map f = (List.range (ns ++ [x]).length).map fun (l : Nat) => base + (l : Int) := by
  simp only [List.map_append, List.map_cons, List.map_nil, List.length_append, List.length_cons, List.length_nil, List.range_succ, Nat.zero_add]
  rw [h, hx]
theorem stack_step {st : Nat → List UInt8} {root : List UInt8} (hst : ∀ k, st k ≠ []) {n : Nat} {ds ns : List Nat} {base : Int} (S : StackAt st root n ds ns base) : ∃ ds ns base, StackAt st root (n + 1) ds ns base := by
  have hfil : (List.range (n + 1)).filter (kpF st root (n + 1)) = ds ++ ns.filter (fun k => decide (htF st k < htF st (n + 1))) ++ (if kpF st root (n + 1) n then [n] else []) := by
    rw [List.range_succ, List.filter_append]
    congr 1
    · have e1 : (List.range n).filter (kpF st root (n + 1)) = ((List.range n).filter (kpF st root n)).filter (fun k => decide (st k = [46, 46]) || decide (htF st k < htF st (n + 1))) := by
        rw [List.filter_filter]
        refine List.filter_congr fun k hk => ?_
        rw [kpF_succ st root n k (Nat.le_of_lt (List.mem_range.mp hk)), Bool.and_comm]
      rw [e1, S.kept, List.filter_append]
      congr 1
      · rw [List.filter_eq_self]
        intro k hk
        simp [S.dsd k hk]
      · refine List.filter_congr fun k hk => ?_
        simp [(S.nsn k hk).1]
    · by_cases h : kpF st root (n + 1) n = true <;> simp [h]
  have hfold : ((List.range (n + 1)).map st).foldl (normStep root) [] = normStep root ((ds ++ ns).map st) (st n) := by
    rw [List.range_succ, List.map_append, List.foldl_append, S.acc]; rfl
  have hsucc : htF st (n + 1) = htF st n + riseF (st n) := rfl
  have hlt := hts_lt S.hts
  have htop := S.top
  have hnk : ∀ k ∈ ns, k < n := by
    intro k hk
    have : k ∈ (List.range n).filter (kpF st root n) := by rw [S.kept]; exact List.mem_append_right _ hk
    exact List.mem_range.mp (List.mem_filter.mp this).1
  by_cases h1 : st n = [46]
  · rw [h1, rise_dot] at hsucc
    have hno : kpF st root (n + 1) n = false := by unfold kpF; rw [h1]; simp
    refine ⟨ds, ns, base, ?_, S.dsd, S.nsn, S.hts, by omega, fun j hj => ?_, S.dots, S.none, ?_⟩
    · rw [hfil, hno, List.filter_eq_self.mpr fun k hk => by have := hlt k hk; simp; omega]; simp
    · by_cases e : j = n + 1
      · subst e; have := S.low n (Nat.le_refl _); omega
      · exact S.low j (by omega)
    · rw [hfold, h1]; simp [normStep]
  by_cases h2 : st n = [46, 46]
  · rw [h2, rise_dd] at hsucc
    by_cases hm : ns = []
    · subst hm
      simp only [List.length_nil] at htop
      by_cases hr : root = []
      · have hyes : kpF st root (n + 1) n = true := by
          unfold kpF
          rw [if_pos h2]
          simp only [hr, decide_true, Bool.true_and, List.all_eq_true, decide_eq_true_eq, List.mem_range]
          intro j hj
          have := S.low j (by omega)
          omega
        refine ⟨ds ++ [n], [], base - 1, ?_, ?_, (fun k hk => nomatch hk), rfl, by simp only [List.length_nil]; omega, fun j hj => ?_, fun _ => ?_, fun h => absurd hr h, ?_⟩
        · rw [hfil, hyes]; simp
        · intro k hk
          rcases List.mem_append.mp hk with hk | hk
          · exact S.dsd k hk
          · rw [List.mem_singleton.mp hk]; exact h2
        · by_cases e : j = n + 1
          · subst e; omega
          · have := S.low j (by omega); omega
        · have := S.dots hr
          simp only [List.length_append, List.length_cons, List.length_nil]
          omega
        · rw [hfold, h2]
          simp only [List.append_nil, List.map_append, List.map_cons, List.map_nil, h2]
          unfold normStep
          rw [if_neg (by simp)]
          refine if_pos (.inr ?_)
          rcases List.eq_nil_or_concat ds with e | ⟨ds', x, e⟩
          · left; subst e; exact ⟨hr, rfl⟩
          · right
            subst e
            have := S.dsd x (by simp)
            simp [this]
      · have hds := S.none hr
        subst hds
        have hno : kpF st root (n + 1) n = false := by unfold kpF; rw [if_pos h2]; simp [hr]
        refine ⟨[], [], base - 1, ?_, (fun k hk => nomatch hk), (fun k hk => nomatch hk), rfl, by simp only [List.length_nil]; omega, fun j hj => ?_, fun h => absurd h hr, fun _ => rfl, ?_⟩
        · rw [hfil, hno]; simp
        · by_cases e : j = n + 1
          · subst e; omega
          · have := S.low j (by omega); omega
        · rw [hfold, h2]; simp [normStep, hr]
    · rcases List.eq_nil_or_concat ns with e | ⟨ns', x, e⟩
      · exact absurd e hm
      subst e
      obtain ⟨e1, e2⟩ := hts_snoc (by simpa using S.hts)
      have hlen : ((ns'.concat x).length : Int) = (ns'.length : Int) + 1 := by simp
      have hlt' := hts_lt e1
      have hno : kpF st root (n + 1) n = false := by
        unfold kpF
        rw [if_pos h2]
        rw [Bool.and_eq_false_iff]
        right
        rw [List.all_eq_false]
        refine ⟨x, List.mem_range.mpr ?_, ?_⟩
        · have := hnk x (by simp); omega
        · simp; omega
      refine ⟨ds, ns', base, ?_, S.dsd, fun k hk => S.nsn k (by simp [hk]), e1, by omega, fun j hj => ?_, S.dots, S.none, ?_⟩
      · rw [hfil, hno]
        simp only [Bool.false_eq_true, if_false, List.append_nil, List.concat_eq_append, List.filter_append, List.filter_cons, List.filter_nil]
        rw [List.filter_eq_self.mpr fun k hk => by have := hlt' k hk; simp; omega]
        have : ¬ htF st x < htF st (n + 1) := by omega
        simp [this]
      · by_cases e : j = n + 1
        · subst e; omega
        · exact S.low j (by omega)
      · rw [hfold, h2]
        have hx := (S.nsn x (by simp)).1
        unfold normStep
        rw [if_neg (by simp), if_neg]
        · simp [List.dropLast_append_of_ne_nil]
        · simp [hx]
  · have hr1 := rise_name h2 h1
    rw [hr1] at hsucc
    have hyes : kpF st root (n + 1) n = true := by
      unfold kpF
      rw [if_neg h2]
      simp only [h1, ne_eq, not_false_eq_true, decide_true, Bool.true_and, List.all_eq_true, decide_eq_true_eq, List.mem_range]
      intro j hj hle
      obtain rfl : j = n := by omega
      omega
    refine ⟨ds, ns ++ [n], base, ?_, S.dsd, ?_, hts_push S.hts htop, by simp only [List.length_append, List.length_cons, List.length_nil]; omega, fun j hj => ?_, S.dots, S.none, ?_⟩
    · rw [hfil, hyes, List.filter_eq_self.mpr fun k hk => by have := hlt k hk; simp; omega]; simp
    · intro k hk
      rcases List.mem_append.mp hk with hk | hk
      · exact S.nsn k hk
      · rw [List.mem_singleton.mp hk]; exact ⟨h2, h1⟩
    · by_cases e : j = n + 1
      · subst e; have := S.low n (Nat.le_refl _); omega
      · exact S.low j (by omega)
    · rw [hfold]
      unfold normStep
      rw [if_neg (by simp [h1, hst n]), if_pos (.inl h2)]
      simp
theorem stack_inv {st : Nat → List UInt8} (root : List UInt8) (hst : ∀ k, st k ≠ []) : ∀ n, ∃ ds ns base, StackAt st root n ds ns base
  | 0 => ⟨[], [], 0, rfl, (fun k hk => nomatch hk), (fun k hk => nomatch hk), rfl, rfl, (fun j hj => by have e : j = 0 := Nat.le_zero.mp hj; subst e; exact Int.le_refl _), fun _ => rfl, fun _ => rfl, rfl⟩
  | n + 1 => by
    obtain ⟨ds, ns, base, S⟩ := stack_inv root hst n
    exact stack_step hst S
noncomputable def hsL (steps : List (List UInt8)) : Nat → List Int
  | 0 => [0]
  | i + 1 => hsL steps i ++ [(hsL steps i).getLastD 0 + (if steps.getD i [] = [46, 46] then -1 else 1)]
theorem hsL_len (steps : List (List UInt8)) : ∀ i, (hsL steps i).length = i + 1
  | 0 => rfl
  | i + 1 => by simp [hsL, hsL_len steps i]
theorem hsL_ne (steps : List (List UInt8)) (i : Nat) : hsL steps i ≠ [] := by
  intro e
  have := hsL_len steps i
  rw [e] at this
  cases this
noncomputable def stayF (steps : List (List UInt8)) (front back : List UInt8) (k : Nat) : List Bool :=
  let hs := hsL steps steps.length
  let low := (hs.drop (k + 1)).all fun a => decide (hs.getD k 0 < a)
  let high := (hs.take (k + 1)).all fun a => decide (a < hs.getD (k + 1) 0)
  if steps.getD k [] = [46, 46] then
    [decide (front = []) && (hs.take (k + 1)).all fun a => decide (hs.getD (k + 1) 0 < a), decide (back = []) && (hs.drop (k + 1)).all fun a => decide (a < hs.getD k 0)]
  else [low, high, low && (decide (front ≠ []) || decide (0 ≤ hs.getD k 0)), high && (decide (back ≠ []) || decide (hs.getD (k + 1) 0 ≤ hs.getD steps.length 0))]
noncomputable def keptN (steps : List (List UInt8)) (front back : List UInt8) : Nat → Nat → List (List UInt8)
  | 0, _ => []
  | i + 1, side => keptN steps front back i side ++ (if (stayF steps front back i).getD side false then [steps.getD i []] else [])
noncomputable def leadN : List (List UInt8) → Nat
  | [] => 0
  | q :: qs => if q = [] then leadN qs + 1 else 0
noncomputable def lawRoot (bs : List (List UInt8)) : List UInt8 := if leadN bs = 2 then [47, 47] else if leadN bs = 0 then [] else [47]
noncomputable def endB (p : List UInt8) : List UInt8 := (normB p.reverse).reverse
noncomputable def letterB (k : Int) : List UInt8 := cutL [97, 98, 99, 100, 101, 102, 103, 104, 105, 106, 107, 108] (some k) (some (k + 1))
noncomputable def partB (k x : Int) : List UInt8 := if x.fmod 5 < 2 then [46, 46] else if x.fmod 5 = 4 then cutL [46] none (some ((x.fdiv 5).fmod 2)) else if x.fdiv 5 = 0 then letterB k else if x.fdiv 5 = 1 then letterB k ++ [46] else if x.fdiv 5 = 2 then [46] ++ letterB k else [46, 46] ++ letterB k
section
variable {k x : Int}
theorem partB_a (h : x.fmod 5 < 2) : partB k x = [46, 46] := by unfold partB; rw [if_pos h]
theorem partB_b (h : ¬ x.fmod 5 < 2) (h' : x.fmod 5 = 4) : partB k x = cutL [46] none (some ((x.fdiv 5).fmod 2)) := by unfold partB; rw [if_neg h, if_pos h']
theorem partB_c (h : ¬ x.fmod 5 < 2) (h' : x.fmod 5 ≠ 4) (e : x.fdiv 5 = 0) : partB k x = letterB k := by unfold partB; rw [if_neg h, if_neg h', if_pos e]
theorem partB_d (h : ¬ x.fmod 5 < 2) (h' : x.fmod 5 ≠ 4) (e : x.fdiv 5 = 1) : partB k x = letterB k ++ [46] := by unfold partB; rw [if_neg h, if_neg h', if_neg (by omega), if_pos e]
theorem partB_e (h : ¬ x.fmod 5 < 2) (h' : x.fmod 5 ≠ 4) (e : x.fdiv 5 = 2) : partB k x = [46] ++ letterB k := by unfold partB; rw [if_neg h, if_neg h', if_neg (by omega), if_neg (by omega), if_pos e]
theorem partB_f (h : ¬ x.fmod 5 < 2) (h' : x.fmod 5 ≠ 4) (e : x.fdiv 5 = 3) : partB k x = [46, 46] ++ letterB k := by unfold partB; rw [if_neg h, if_neg h', if_neg (by omega), if_neg (by omega), if_neg (by omega)]
end
theorem swap_full (b : List UInt8) : swapB b.length b = b.reverse := by
  refine List.ext_getElem? fun k => ?_
  unfold swapB
  rw [List.getElem?_map]
  by_cases h : k < b.length
  · rw [List.getElem?_range h, List.getElem?_reverse h]
    unfold swAt
    rw [Option.map_some, Nat.div_eq_of_lt h, Nat.mod_eq_of_lt h, List.getD_eq_getElem?_getD]
    have : 0 * b.length + (b.length - 1 - k) = b.length - 1 - k := by omega
    rw [this, List.getElem?_eq_getElem (by omega : b.length - 1 - k < b.length)]
    rfl
  · rw [List.getElem?_eq_none (by simpa using h), List.getElem?_eq_none (by simpa using h)]; rfl
theorem normB_len (p : List UInt8) : (normB p).length ≤ 2 * p.length + 4 := by
  have h1 := sumLen_fold (rootB p) (splitL 47 (restB p)) []
  have h2 := sumLen_split 47 (restB p)
  have h3 := normFold_len (rootB p) (splitL 47 (restB p)) []
  have h4 := splitL_length 47 (restB p)
  have h5 := restB_le p
  have h6 : sumLen [] = 0 := rfl
  have h7 := rootB_le p
  have h8 := joinL_length [47] ((splitL 47 (restB p)).foldl (normStep (rootB p)) [])
  unfold normB
  split
  · simp
  · dsimp only
    split
    · simp
    · rw [List.length_append, h8]
      simp only [List.length_nil, List.length_cons] at *
      unfold sumLen at *
      omega
theorem normB_ne (p : List UInt8) : normB p ≠ [] := by
  unfold normB
  split
  · simp
  · dsimp only
    split
    · simp
    · assumption
section
variable {w : World} {mean : ExcName → Option Value} {mg mb : Str → Option Value} {dp un : Nat} {gd : Option (List Code)} {cn : Str} {cs : Scope} {a : Addr} {ccd : Value} {cl : List (Str × Addr)} {outer : List Env} {A₀ : Around} {base h₀ : Heap} {L : Addr} {m : Str → Option Value} {news : List (Addr × Obj)} {s : Shared} {Q E : Value → Shared → Prop}
theorem part_call {k x : Int} {t u : Tok}
    (B : Below A₀ base outer h₀) (F : Fr h₀ L s.heap m) (X : (hd.heap_39 w.params).In h₀) (T : Top hd.view_39 (looseW hd.view_39 []) mean mg mb h₀) (hk : cs.kind = .function)
    (hd1 : dp + 3 < recursionLimit) (hu : un + 60 < cLine) (hk0 : 0 ≤ k) (hk1 : k < 12) (hx0 : 0 ≤ x) (hx1 : x < 20)
    (ret : ∀ (t : Tok) (h' : Heap) (tk' : Nat), (∀ b o, s.heap.get? b = some o → h'.get? b = some o) → Q (.bytes (partB k x).toArray t) { s with heap := h', toks := tk' }) :
    wpAny (model Challenge.rw_nq0013_01.row.prog w) (ktrTop dp un gd cn cs L a ccd cl outer) (call (.ref 122) [.int k t, .int x u]) Q E s := by
  w_top off
  revert X
  k_fill
  intro X
  refine wpAny_call ?_
  k_dflt ((refine' code_defG ?k1 ?k2 ?k3 News.nil ?k5 ?kA ?kF ?kK ?k6 ?k7 ?k8 ?k9 ?kB ?_ ?c2 ?c3 ?c4 ?c5; (case kA => exact rfl); (case kF => exact rfl); (case kK => assumption); (case k1 => k_asm); (case k2 => k_asm); (case k3 => k_asm); (case k5 => k_asm); (case k6 => k_is); (case k7 => k_is); (case k8 => ktr_room); (case k9 => exact BindsTo.of_eq rfl); (case c5 => decide); (case kB => exact locs rfl); (case c2 => exact rfl); (case c3 => exact rfl); (case c4 => exact rfl); k_whole; intro g' L' h' FG' F' N' B' X' T' hG'; (try dsimp only); (try k_lift B'); (try k_fold)))
  have hlet : (cutL ([97, 98, 99, 100, 101, 102, 103, 104, 105, 106, 107, 108] : List UInt8) (some k) (some (k + 1))).length ≤ 12 := cutL_le _ _ _
  (repeat' (first | (k_unfold; (try dsimp only)) | ((((fail_if_success (with_reducible show InvPostN _ _ _ _ _ _ _ _ _)); (fail_if_success (with_reducible show InvEndN _ _ _ _ _ _ _)); (fail_if_success (with_reducible show wpG _ _ _ _ _ _)); (fail_if_success (with_reducible show wpAny _ _ (pyIter (Value.ref _)) _ _ _)))); (first | (with_reducible (k_here; (with_reducible show wpAny _ _ (subscriptTail _ (Expr.Slice _ _ none _) (Value.bytes (List.toArray _) _) (Value.ref _)) _ _ _); (with_reducible rename Fr _ _ _ _ => F'); (with_reducible rename News _ _ _ _ => N'); (refine slice_any (s := ⟨_, _, _, _, _⟩) F' N' (by constructor) (by constructor) (by walk_at "my:b_size") ?_); intro _ _ _ _ _)) | (with_reducible (k_here; (with_reducible show wpAny _ _ (binaryOp Operator.Add (Value.bytes (List.toArray _) _) (Value.bytes (List.toArray _) _)) _ _ _); k_dflt (refine' bytes_add_K ?z rfl ?_; (case z => (simp only [List.size_toArray, List.length_cons, List.length_nil]; first | omega | walk_at "my:b_size")); k_whole); intro t9 k9)) | walk1)) | ((((fail_if_success (with_reducible show InvPostN _ _ _ _ _ _ _ _ _)); (fail_if_success (with_reducible show InvEndN _ _ _ _ _ _ _)); (fail_if_success (with_reducible show wpG _ _ _ _ _ _)); (fail_if_success (with_reducible show wpAny _ _ (pyIter (Value.ref _)) _ _ _)))); dsimp only; (first | (with_reducible (k_here; (with_reducible show wpAny _ _ (subscriptTail _ (Expr.Slice _ _ none _) (Value.bytes (List.toArray _) _) (Value.ref _)) _ _ _); (with_reducible rename Fr _ _ _ _ => F'); (with_reducible rename News _ _ _ _ => N'); (refine slice_any (s := ⟨_, _, _, _, _⟩) F' N' (by constructor) (by constructor) (by walk_at "my:b_size") ?_); intro _ _ _ _ _)) | (with_reducible (k_here; (with_reducible show wpAny _ _ (binaryOp Operator.Add (Value.bytes (List.toArray _) _) (Value.bytes (List.toArray _) _)) _ _ _); k_dflt (refine' bytes_add_K ?z rfl ?_; (case z => (simp only [List.size_toArray, List.length_cons, List.length_nil]; first | omega | walk_at "my:b_size")); k_whole); intro t9 k9)) | walk1)) | (leave1; walk_say "STEP leave1"; try dsimp only) | fail "no step"))
  all_goals exact ret_bytes ret (by first | exact partB_a (by assumption) | exact partB_b (by assumption) (by assumption) | exact partB_c (by assumption) (by assumption) (by assumption) | exact partB_d (by assumption) (by assumption) (by assumption) | exact partB_e (by assumption) (by assumption) (by assumption) | exact partB_f (by assumption) (by assumption) (by assumption)) (by (exact gsub_nil (by assumption) (by assumption)))
theorem mirror_call {b : List UInt8} {t : Tok}
    (B : Below A₀ base outer h₀) (F : Fr h₀ L s.heap m) (X : (hd.heap_39 w.params).In h₀) (T : Top hd.view_39 (looseW hd.view_39 []) mean mg mb h₀) (hk : cs.kind = .function)
    (hd1 : dp + 5 < recursionLimit) (hu : un + 80 < cLine) (hz : b.length ≤ 100000) (hne : b ≠ [])
    (ret : ∀ (t : Tok) (h' : Heap) (tk' : Nat), (∀ b o, s.heap.get? b = some o → h'.get? b = some o) → Q (.bytes b.reverse.toArray t) { s with heap := h', toks := tk' }) :
    wpG (model Challenge.rw_nq0013_01.row.prog w) (ktrTop dp un gd cn cs L a ccd cl outer) (call (.ref 136) [.bytes b.toArray t]) Q E s := by
  w_top off
  revert X
  k_fill
  intro X
  refine wpG_call ?_
  k_dflt ((refine' code_defGG ?k1 ?k2 ?k3 ?k5 ?kA ?kF ?kK ?k6 ?k7 ?k8 ?k9 ?kB ?_ ?c2 ?c3 ?c4 ?c5; (case kA => exact rfl); (case kF => exact rfl); (case kK => assumption); (case k1 => k_asm); (case k2 => k_asm); (case k3 => k_asm); (case k5 => k_asm); (case k6 => k_is); (case k7 => k_is); (case k8 => ktr_room); (case k9 => exact BindsTo.of_eq rfl); (case c5 => decide); (case kB => exact locs rfl); (case c2 => exact rfl); (case c3 => exact rfl); (case c4 => exact rfl); k_whole; intro g' L' h' FG' F' N' B' X' T' hG'; (try dsimp only); (try k_lift B')))
  refine wpG_execs_cons (wpG_Return (wpG_Call_Name ?_))
  (repeat' (first | (k_unfold; (try dsimp only)) | ((((fail_if_success (with_reducible show InvPostN _ _ _ _ _ _ _ _ _)); (fail_if_success (with_reducible show InvEndN _ _ _ _ _ _ _)); (fail_if_success (with_reducible show wpG _ _ _ _ _ _)); (fail_if_success (with_reducible show wpAny _ _ (pyIter (Value.ref _)) _ _ _)))); walk1) | ((((fail_if_success (with_reducible show InvPostN _ _ _ _ _ _ _ _ _)); (fail_if_success (with_reducible show InvEndN _ _ _ _ _ _ _)); (fail_if_success (with_reducible show wpG _ _ _ _ _ _)); (fail_if_success (with_reducible show wpAny _ _ (pyIter (Value.ref _)) _ _ _)))); dsimp only; walk1) | (leave1; walk_say "STEP leave1"; try dsimp only) | fail "no step"))
  refine wpG_call2 (P := fun h => (hd.heap_39 w.params).In h) (fun h X => keeps_K (by k_is) h X) (wpG_of ?_)
  (repeat' (first | (k_unfold; (try dsimp only)) | ((((fail_if_success (with_reducible show InvPostN _ _ _ _ _ _ _ _ _)); (fail_if_success (with_reducible show InvEndN _ _ _ _ _ _ _)); (fail_if_success (with_reducible show wpG _ _ _ _ _ _)); (fail_if_success (with_reducible show wpAny _ _ (pyIter (Value.ref _)) _ _ _)))); walk1) | ((((fail_if_success (with_reducible show InvPostN _ _ _ _ _ _ _ _ _)); (fail_if_success (with_reducible show InvEndN _ _ _ _ _ _ _)); (fail_if_success (with_reducible show wpG _ _ _ _ _ _)); (fail_if_success (with_reducible show wpAny _ _ (pyIter (Value.ref _)) _ _ _)))); dsimp only; walk1) | (leave1; walk_say "STEP leave1"; try dsimp only) | fail "no step"))
  refine wpG_of ?_
  (repeat' (first | (k_unfold; (try dsimp only)) | ((((fail_if_success (with_reducible show InvPostN _ _ _ _ _ _ _ _ _)); (fail_if_success (with_reducible show InvEndN _ _ _ _ _ _ _)); (fail_if_success (with_reducible show wpG _ _ _ _ _ _)); (fail_if_success (with_reducible show wpAny _ _ (pyIter (Value.ref _)) _ _ _)))); (first | (with_reducible (k_here; (with_reducible show wpAny _ _ (call (Value.builtin "len") [Value.bytes (List.toArray _) _]) _ _ _); (refine len_bytesL (by walk_at "my:b_size") ?_); intro _ _)) | walk1)) | ((((fail_if_success (with_reducible show InvPostN _ _ _ _ _ _ _ _ _)); (fail_if_success (with_reducible show InvEndN _ _ _ _ _ _ _)); (fail_if_success (with_reducible show wpG _ _ _ _ _ _)); (fail_if_success (with_reducible show wpAny _ _ (pyIter (Value.ref _)) _ _ _)))); dsimp only; (first | (with_reducible (k_here; (with_reducible show wpAny _ _ (call (Value.builtin "len") [Value.bytes (List.toArray _) _]) _ _ _); (refine len_bytesL (by walk_at "my:b_size") ?_); intro _ _)) | walk1)) | (leave1; walk_say "STEP leave1"; try dsimp only) | fail "no step"))
  have hpos : 0 < b.length := List.length_pos_iff.mpr hne
  refine byteswap_call (wd := b.length) (by k_asm) (by k_asm) (by k_asm) (by k_asm) rfl (by ktr_room) (by ktr_units) hz hpos hz 1 (by omega) ?_
  intro t9 h9 tk9 keep9
  rw [swap_full]
  exact ret t9 h9 tk9 fun b o e => keep9 b o (gsub_nil (by assumption) (by assumption) b o e)
theorem fromend_call {b : List UInt8} {t : Tok}
    (B : Below A₀ base outer h₀) (F : Fr h₀ L s.heap m) (X : (hd.heap_39 w.params).In h₀) (T : Top hd.view_39 (looseW hd.view_39 []) mean mg mb h₀) (hk : cs.kind = .function)
    (hd1 : dp + 7 < recursionLimit) (hu : un + 120 < cLine) (hz : b.length ≤ 10000) (hne : b ≠ [])
    (ret : ∀ (t : Tok) (h' : Heap) (tk' : Nat), (∀ b o, s.heap.get? b = some o → h'.get? b = some o) → Q (.bytes (endB b).toArray t) { s with heap := h', toks := tk' }) :
    wpG (model Challenge.rw_nq0013_01.row.prog w) (ktrTop dp un gd cn cs L a ccd cl outer) (call (.ref 143) [.bytes b.toArray t]) Q E s := by
  w_top off
  revert X
  k_fill
  intro X
  refine wpG_call ?_
  k_dflt ((refine' code_defGG ?k1 ?k2 ?k3 ?k5 ?kA ?kF ?kK ?k6 ?k7 ?k8 ?k9 ?kB ?_ ?c2 ?c3 ?c4 ?c5; (case kA => exact rfl); (case kF => exact rfl); (case kK => assumption); (case k1 => k_asm); (case k2 => k_asm); (case k3 => k_asm); (case k5 => k_asm); (case k6 => k_is); (case k7 => k_is); (case k8 => ktr_room); (case k9 => exact BindsTo.of_eq rfl); (case c5 => decide); (case kB => exact locs rfl); (case c2 => exact rfl); (case c3 => exact rfl); (case c4 => exact rfl); k_whole; intro g' L' h' FG' F' N' B' X' T' hG'; (try dsimp only); (try k_lift B')))
  refine wpG_execs_cons (wpG_Return (wpG_Call_Name ?_))
  (repeat' (first | (k_unfold; (try dsimp only)) | ((((fail_if_success (with_reducible show InvPostN _ _ _ _ _ _ _ _ _)); (fail_if_success (with_reducible show InvEndN _ _ _ _ _ _ _)); (fail_if_success (with_reducible show wpG _ _ _ _ _ _)); (fail_if_success (with_reducible show wpAny _ _ (pyIter (Value.ref _)) _ _ _)))); walk1) | ((((fail_if_success (with_reducible show InvPostN _ _ _ _ _ _ _ _ _)); (fail_if_success (with_reducible show InvEndN _ _ _ _ _ _ _)); (fail_if_success (with_reducible show wpG _ _ _ _ _ _)); (fail_if_success (with_reducible show wpAny _ _ (pyIter (Value.ref _)) _ _ _)))); dsimp only; walk1) | (leave1; walk_say "STEP leave1"; try dsimp only) | fail "no step"))
  refine wpG_call1 (P := fun h => (hd.heap_39 w.params).In h) (fun h X => keeps_K (by k_is) h X) (wpG_Call_Name ?_)
  (repeat' (first | (k_unfold; (try dsimp only)) | ((((fail_if_success (with_reducible show InvPostN _ _ _ _ _ _ _ _ _)); (fail_if_success (with_reducible show InvEndN _ _ _ _ _ _ _)); (fail_if_success (with_reducible show wpG _ _ _ _ _ _)); (fail_if_success (with_reducible show wpAny _ _ (pyIter (Value.ref _)) _ _ _)))); walk1) | ((((fail_if_success (with_reducible show InvPostN _ _ _ _ _ _ _ _ _)); (fail_if_success (with_reducible show InvEndN _ _ _ _ _ _ _)); (fail_if_success (with_reducible show wpG _ _ _ _ _ _)); (fail_if_success (with_reducible show wpAny _ _ (pyIter (Value.ref _)) _ _ _)))); dsimp only; walk1) | (leave1; walk_say "STEP leave1"; try dsimp only) | fail "no step"))
  refine wpG_call1 (P := fun h => (hd.heap_39 w.params).In h) (fun h X => keeps_K (by k_is) h X) (wpG_Call_Name ?_)
  (repeat' (first | (k_unfold; (try dsimp only)) | ((((fail_if_success (with_reducible show InvPostN _ _ _ _ _ _ _ _ _)); (fail_if_success (with_reducible show InvEndN _ _ _ _ _ _ _)); (fail_if_success (with_reducible show wpG _ _ _ _ _ _)); (fail_if_success (with_reducible show wpAny _ _ (pyIter (Value.ref _)) _ _ _)))); walk1) | ((((fail_if_success (with_reducible show InvPostN _ _ _ _ _ _ _ _ _)); (fail_if_success (with_reducible show InvEndN _ _ _ _ _ _ _)); (fail_if_success (with_reducible show wpG _ _ _ _ _ _)); (fail_if_success (with_reducible show wpAny _ _ (pyIter (Value.ref _)) _ _ _)))); dsimp only; walk1) | (leave1; walk_say "STEP leave1"; try dsimp only) | fail "no step"))
  refine wpG_call1 (P := fun h => (hd.heap_39 w.params).In h) (fun h X => keeps_K (by k_is) h X) (wpG_of ?_)
  (repeat' (first | (k_unfold; (try dsimp only)) | ((((fail_if_success (with_reducible show InvPostN _ _ _ _ _ _ _ _ _)); (fail_if_success (with_reducible show InvEndN _ _ _ _ _ _ _)); (fail_if_success (with_reducible show wpG _ _ _ _ _ _)); (fail_if_success (with_reducible show wpAny _ _ (pyIter (Value.ref _)) _ _ _)))); walk1) | ((((fail_if_success (with_reducible show InvPostN _ _ _ _ _ _ _ _ _)); (fail_if_success (with_reducible show InvEndN _ _ _ _ _ _ _)); (fail_if_success (with_reducible show wpG _ _ _ _ _ _)); (fail_if_success (with_reducible show wpAny _ _ (pyIter (Value.ref _)) _ _ _)))); dsimp only; walk1) | (leave1; walk_say "STEP leave1"; try dsimp only) | fail "no step"))
  rename Fr _ _ _ _ => Fa
  refine mirror_call (by k_asm) (by k_asm) (by k_asm) (by k_asm) rfl (by ktr_room) (by ktr_units) (by omega) hne ?_
  intro t1 h1 tk1 keep1
  have Fb := Fr.keeps Fa keep1
  have hG1 := fun b o e => keep1 b o (gsub_nil (by assumption) Fa b o e)
  clear keep1 Fa
  dsimp only
  (repeat' (first | (k_unfold; (try dsimp only)) | ((((fail_if_success (with_reducible show InvPostN _ _ _ _ _ _ _ _ _)); (fail_if_success (with_reducible show InvEndN _ _ _ _ _ _ _)); (fail_if_success (with_reducible show wpG _ _ _ _ _ _)); (fail_if_success (with_reducible show wpAny _ _ (pyIter (Value.ref _)) _ _ _)))); walk1) | ((((fail_if_success (with_reducible show InvPostN _ _ _ _ _ _ _ _ _)); (fail_if_success (with_reducible show InvEndN _ _ _ _ _ _ _)); (fail_if_success (with_reducible show wpG _ _ _ _ _ _)); (fail_if_success (with_reducible show wpAny _ _ (pyIter (Value.ref _)) _ _ _)))); dsimp only; walk1) | (leave1; walk_say "STEP leave1"; try dsimp only) | fail "no step"))
  refine wpG_of ?_
  have hl1 : b.reverse.length ≤ 10000 := by rw [List.length_reverse]; exact hz
  refine normpath_call (by k_asm) (by k_asm) (by k_asm) (by k_asm) rfl (by ktr_room) (by ktr_units) (by omega) ?_
  intro t2 h2 tk2 keep2
  have Fc := Fr.keeps Fb keep2
  have hG2 := fun b o e => keep2 b o (hG1 b o e)
  clear keep2 Fb hG1
  dsimp only
  (repeat' (first | (k_unfold; (try dsimp only)) | ((((fail_if_success (with_reducible show InvPostN _ _ _ _ _ _ _ _ _)); (fail_if_success (with_reducible show InvEndN _ _ _ _ _ _ _)); (fail_if_success (with_reducible show wpG _ _ _ _ _ _)); (fail_if_success (with_reducible show wpAny _ _ (pyIter (Value.ref _)) _ _ _)))); walk1) | ((((fail_if_success (with_reducible show InvPostN _ _ _ _ _ _ _ _ _)); (fail_if_success (with_reducible show InvEndN _ _ _ _ _ _ _)); (fail_if_success (with_reducible show wpG _ _ _ _ _ _)); (fail_if_success (with_reducible show wpAny _ _ (pyIter (Value.ref _)) _ _ _)))); dsimp only; walk1) | (leave1; walk_say "STEP leave1"; try dsimp only) | fail "no step"))
  have hl2 := normB_len b.reverse
  refine mirror_call (by k_asm) (by k_asm) (by k_asm) (by k_asm) rfl (by ktr_room) (by ktr_units) (by omega) (normB_ne _) ?_
  intro t3 h3 tk3 keep3
  exact ret t3 h3 tk3 fun b o e => keep3 b o (hG2 b o e)
end
section
variable {prog : Program} {w : World} {A : Around} {E : Value → Shared → Prop} {s : Shared} {env : Env} {h₀ : Heap} {x : Str} {body : List Stmt} {Q : Flow → Shared → Prop} {m₀ : Str → Option Value}
end
section
variable {prog : Program} {w : World} {A : Around} {E : Value → Shared → Prop} {s : Shared} {env : Env} {h₀ : Heap} {x : Str} {body : List Stmt} {Q : Flow → Shared → Prop} {m₀ : Str → Option Value}
end
theorem BytesAre.flat {vs : List Value} {bs : List (List UInt8)} (h : BytesAre vs bs) : ∀ n : Nat, BytesAre (List.replicate n vs).flatten (List.replicate n bs).flatten
  | 0 => trivial
  | n + 1 => by
    rw [List.replicate_succ, List.replicate_succ, List.flatten_cons, List.flatten_cons]
    exact h.append (BytesAre.flat h n)
theorem BytesAre.at {vs : List Value} {bs : List (List UInt8)} (h : BytesAre vs bs) {k : Nat} (hk : k < bs.length) : ∃ t, vs[k]? = some (.bytes (bs.getD k []).toArray t) := by
  have hk' : k < vs.length := by rw [h.length]; exact hk
  obtain ⟨b, t, e1, e2⟩ := h.get (List.getElem?_eq_getElem hk')
  refine ⟨t, ?_⟩
  rw [List.getElem?_eq_getElem hk', e2, List.getD_eq_getElem?_getD, e1]
  rfl
section
variable {prog : Program} {w : World} {A : Around} {E : Value → Shared → Prop} {s : Shared} {h₀ : Heap} {L l l₂ : Addr} {m : Str → Option Value} {news : List (Addr × Obj)} {vs ws : List Value} {bs cs : List (List UInt8)} {Q : Value → Shared → Prop}
theorem mul_bl {x : Int} {u : Tok} (F : Fr h₀ L s.heap m) (N : News h₀ L s.heap news) (hl : s.heap.IsList l vs.toArray) (hv : BytesAre vs bs) (h0 : -1000 ≤ x) (h1 : x ≤ 1000) (hb : bs.length * x.toNat ≤ 256)
    (h : ∀ (D : Addr) (ws : List Value) (h' : Heap), BytesAre ws (List.replicate x.toNat bs).flatten → Fr h₀ L h' m → News h₀ L h' ((D, listOf ws.toArray 0) :: news) → (∀ q ∈ news, q.1 < D) → Q (.ref D) { s with heap := h' }) :
    wpAny (model prog w) A (binaryOp .Mult (.ref l) (.int x u)) Q E s :=
  KMa.mul F N hl (by omega) (by omega) (by rw [hv.length]; exact hb) rfl fun D h' F' N' hl' => h D _ h' (hv.flat _) F' N' hl'
theorem isl_keep {g h : Heap} (F : Fr g L h m) (hl : g.IsList l vs.toArray) : h.IsList l vs.toArray := hl.at fun o e => F.keep l o e
theorem add_bl (F : Fr h₀ L s.heap m) (N : News h₀ L s.heap news) (hl : s.heap.IsList l vs.toArray) (hb : s.heap.IsList l₂ ws.toArray) (hv : BytesAre vs bs) (hw : BytesAre ws cs) (hz : bs.length + cs.length ≤ 16777216)
    (h : ∀ (D : Addr) (us : List Value) (h' : Heap), BytesAre us (bs ++ cs) → Fr h₀ L h' m → News h₀ L h' ((D, listOf us.toArray 0) :: news) → (∀ q ∈ news, q.1 < D) → Q (.ref D) { s with heap := h' }) :
    wpAny (model prog w) A (binaryOp .Add (.ref l) (.ref l₂)) Q E s :=
  add_lists (hsz := by rw [hv.length, hw.length, sizeLine_eq]; exact hz) F N hl hb fun h' F' N' => h _ (vs ++ ws) h' (hv.append hw) F' N' fun q hq => Heap.lt_size (N q hq).1
theorem item_bl {value slice : PySem.Expr} {k : Int} {u : Tok} (hl : s.heap.IsList l vs.toArray) (hv : BytesAre vs bs) (h0 : 0 ≤ k) (h1 : k < (bs.length : Int)) (hz : bs.length ≤ 1000000)
    (h : ∀ t, Q (.bytes (bs.getD k.toNat []).toArray t) s)
    (hs : subscripted slice false (.ref l) (.int k u) = operate [.ref l, .int k u] (getItem (.ref l) (.int k u)) := by with_unfolding_all rfl) :
    wpAny (model prog w) A (subscriptTail value slice (.ref l) (.int k u)) Q E s := by
  obtain ⟨t, e⟩ := hv.at (k := k.toNat) (by omega)
  exact tail_any hl.typeIs slot_list_getitem.lookup (wpAny_getItem_list hl h0 (by omega) (by rw [List.getElem?_toArray]; exact e) (h t)) hs
end
local macro_rules | `(tactic| walk_at "my:isl") => `(tactic| first | exact News.isList (by k_asm) (by k_mem) | exact isl_keep (by k_asm) (by assumption))
open PySem PySem.W PySem.Calls PyProof.Rows PySem.Spec
theorem call_cellsG {prog : Program} {w : World} {A : Around} {R : Result → Shared → Prop} {s : Shared} {name : Str} {params : Arguments} {body : List Stmt} {scope : Scope}
    {pm cd doc : Value} {a : Addr} {o : Obj} {args : List Value} {binds : List (Str × Value)}
    (hroom : A.depth < recursionLimit) (ho : s.heap.get? a = some o) (hdata : o.data = .func (Calls.docDef name params body scope pm cd doc)) (hlim : s.heap.NoLimit) (hcd : s.heap.CodeRec cd name)
    (hbind : bindArgs (Calls.docDef name params body scope pm cd doc) ⟨args, []⟩ = pure binds)
    (hkind : ∀ x ∈ binds, scope.names.lookup x.1 = some .local ∨ (scope.names.lookup x.1 = some .cell ∧ ((cellsFrom (s.heap.objs.size + 1) scope.names []).lookup x.1).isSome = true))
    (hnd : ((cellsFrom 0 scope.names []).map (·.1)).Nodup)
    (h : ∀ h₁ tk cells, Fr s.heap s.heap.objs.size h₁ (bindL (envOfC name scope s.heap.objs.size a cd).kindOf binds fun _ => none) → News s.heap s.heap.objs.size h₁ cells →
      CellsAre (bindC (envOfC name scope s.heap.objs.size a cd).kindOf binds fun _ => none) (cellsFrom (s.heap.objs.size + 1) scope.names []) cells →
      wpG (model prog w) (A.deeper (envOfC name scope s.heap.objs.size a cd)) (execs body (envOfC name scope s.heap.objs.size a cd))
        (fun f s' => R (.ok (.ret (match f with | .ret v => v | _ => .none))) s') (fun _ _ => False)
        { s with heap := h₁, toks := tk })
    (hco : scope.isCoroutine = false := by rfl) (hgen : scope.isGenerator = false := by rfl) (hk : scope.kind = .function := by rfl) :
    codeG (model prog w) A (.call (.ref a) ⟨args, []⟩) R s := by
  refine codeG_call_function (fd := Calls.docDef name params body scope pm cd doc) (body := body) hroom ho hdata hco hgen rfl hcd ?_
  rw [hbind]
  refine wpAny_pure ?_
  refine wpAny_newFunctionEnv_cells hk hkind fun env' he s' x => ?_
  subst he
  refine ⟨hlim.keeps x.toInCall.keep, codeG_func ?_⟩
  obtain ⟨h₁, tk, rfl, _⟩ := x.done
  obtain ⟨cells, NC, Y⟩ := Cl.news (h₀ := s.heap) (Nat.le_refl _) fun n c hm => ⟨x.cell n c (lookup_of_mem_nodup (cellsFrom_names scope.names 0 (s.heap.objs.size + 1) [] [] rfl ▸ hnd) hm), x.above n c hm⟩
  exact h h₁ tk cells ⟨x.toInCall.ns, x.toInCall.keep, Nat.le_refl _⟩ NC Y
section
variable {M : Model} {A : Around} {s : Shared} {env : Env}
noncomputable abbrev noE : Value → Shared → Prop := fun _ _ => False
theorem wpG_runOwn {c : Code} {Q : Flow → Shared → Prop}
    (hc : codeG M A c (fun r s' => match r with | .ok f => Q f s' | .error _ => False) s) :
    wpG M A (runOwn c env none) Q noE s := by
  unfold runOwn
  exact wpG_onRaise (wpG_run (h := none) hc)
theorem wpG_For {target iter body orelse pos} {Q : Flow → Shared → Prop}
    (h : wpAny M A (eval iter env) (fun x s₁ => wpAny M A (pyIter x) (fun it s₂ =>
      codeG M A (.forLoop target it body orelse env) (fun r s' => match r with | .ok f => Q f s' | .error _ => False) s₂) noE s₁) noE s)
    (hs : ∀ x, foldedSetIterable iter env x = pure x := by intro _; rfl) :
    wpG M A (exec (.For target iter body orelse pos) env) Q noE s := by
  rw [exec_For]
  refine wpG_bind (wpG_standAt (wpG_bindA (wpAny_mono h (fun x s₁ h₁ => ?_) fun _ _ h' => h')))
  rw [hs x]
  refine wpG_bind (wpG_pure (wpG_bind (wpG_standAt (wpG_bindA (wpAny_holding (wpAny_mono h₁ (fun it s₂ h₂ => wpG_runOwn h₂) fun _ _ h' => h'))))))
end
section
variable {prog : Program} {w : World} {A : Around} {s : Shared} {env : Env}
theorem codeG_block_nil {R : Result → Shared → Prop} (h : R (.ok .next) s) : codeG (model prog w) A (.block [] env) R s :=
  codeG_of rfl (codeAny_block (wpAny_pure h))
theorem codeG_forLoop {R : Result → Shared → Prop} {target it body env} (I : Nat → Shared → Prop)
    (turn : ∀ n s, I n s → wpAny (model prog w) A (pyNext it) (fun r s₁ => match r with
      | none => R (.ok .next) s₁
      | some v => wpAny (model prog w) A (assign target env v) (fun _ s₂ => wpG (model prog w) A (execs body env) (fun f s₃ => match f with
          | .next | .cont => ∃ m, m < n ∧ I m s₃
          | .brk => R (.ok .next) s₃
          | .ret v => R (.ok (.ret v)) s₃) noE s₂) noE s₁) noE s)
    (n : Nat) (h : I n s) (ht : ∀ v, letOwnedTupleGo target it v = pure () := by intro _; rfl) : codeG (model prog w) A (.forLoop target it body [] env) R s := by
  induction n using Nat.strongRecOn generalizing s with
  | ind n ih =>
    refine codeG_of_tree rfl ?_
    show wpG _ _ ((forTurn target it body [] env).onRaise (fun x => do noteFrame x env; theTreesLotGoes x)) _ _ s
    refine wpG_onRaise ?_
    simp only [forTurn]
    refine wpG_bind (wpG_standAt (wpG_bind (wpG_onRaise (wpG_of (wpAny_mono (turn n s h) (fun r s₁ h₁ => ?_) fun _ _ h' => h')))))
    cases r with
    | none => exact wpG_pure ⟨rfl, codeG_block_nil h₁⟩
    | some v =>
      dsimp only
      rw [ht v]
      refine wpG_bind (wpG_pure ?_)
      refine wpG_bindA (wpAny_mono h₁ (fun _ s₂ h₂ => wpG_bind (wpG_mono h₂ (fun f s₃ h₃ => ?_) fun _ _ h' => h')) fun _ _ h' => h')
      cases f with
      | next => obtain ⟨m, hm, hI⟩ := h₃; exact wpG_pure ⟨rfl, ih m hm hI⟩
      | cont => obtain ⟨m, hm, hI⟩ := h₃; exact wpG_pure ⟨rfl, ih m hm hI⟩
      | brk => exact wpG_pure h₃
      | ret v => exact wpG_pure h₃
end
section
variable {prog : Program} {w : World} {A : Around} {h₀ : Heap} {L : Addr} {m : Str → Option Value} {env : Env} {elt : Expr} {x : Str} {scope : Scope} {cl : List (Str × Addr)} {s : Shared} {S : List (Addr × Obj) → Prop} {P : Nat → Value → Prop} {Fin : List Value → List (Addr × Obj) → Prop} {news : List (Addr × Obj)}
theorem cr_rest {n : Nat} (G : Nat → Value → Prop)
    (turn : ∀ i v I oI C oC D m₂ ys h tk (E' : Value → Shared → Prop), i < n → P i v → LCg.NsObj oC m₂ → m₂ x = some v → Fr h₀ L h m → News h₀ L h ((I, oI) :: (C, oC) :: (D, LCg.lst ys) :: news) → LCg.Off3 I C D news → ((@Ne Nat I C) ∧ (@Ne Nat I D) ∧ (@Ne Nat C D)) →
      wpAny (model prog w) A (eval elt (compEnvC scope cl C env)) (LCg.CompEnd h₀ L m { s with heap := h, toks := tk } I oI C oC D (LCg.lst ys) S (fun y news' => news' = news ∧ G i y)) E' { s with heap := h, toks := tk })
    (fin : ∀ ys, ys.length = n → (∀ i y, ys[i]? = some y → G i y) → Fin ys news) : LCg.CompRest prog w A h₀ L m env elt x scope cl s S P Fin n 0 [] news := by
  have key : ∀ (j i : Nat) (ys : List Value), i + j = n → ys.length = i → (∀ i y, ys[i]? = some y → G i y) → LCg.CompRest prog w A h₀ L m env elt x scope cl s S P Fin j i ys news := by
    intro j
    induction j with
    | zero => exact fun i ys hi hl hy => LCg.CompRest.zero (fin ys (by omega) hy)
    | succ j ih =>
      intro i ys hi hl hy
      refine LCg.CompRest.succ ?_
      intro v I oI C oC D m₂ h tk E' hv hC hx F N off ne
      refine wpAny_mono (turn i v I oI C oC D m₂ ys h tk E' (by omega) hv hC hx F N off ne) (fun y s₂ hq => ?_) fun _ _ e => e
      obtain ⟨h', tk', nw, e, F', N', off', hS, hn, hg⟩ := hq
      rw [hn] at N' off' hS
      refine ⟨h', tk', news, e, F', N', off', hS, ?_⟩
      refine ih (i + 1) _ (by omega) (by simp [hl]) fun k z hz => ?_
      by_cases hk : k < ys.length
      · rw [List.getElem?_append_left hk] at hz; exact hy k z hz
      · rw [List.getElem?_append_right (by omega)] at hz
        have e0 : k - ys.length = 0 := by
          cases e : k - ys.length with
          | zero => rfl
          | succ q => rw [e] at hz; simp at hz
        rw [e0] at hz
        have : k = i := by omega
        subst this
        simp at hz
        exact hz ▸ hg
  exact key n 0 [] (by omega) rfl (fun i y e => by simp at e)
end
section
variable {prog : Program} {w : World} {A : Around} {E : Value → Shared → Prop} {s : Shared}
theorem slice_listS {value slice : Expr} {l : Addr} {items : Array Value} {vl vu vt : Value} {lo hi st : Option Int} {Q : Value → Shared → Prop} {ops : List Value}
    (hl : s.heap.IsList l items) (pl : IsPart vl lo) (pu : IsPart vu hi) (pt : IsPart vt st) (h0 : st ≠ some 0)
    (h : Q (.ref (s.heap.objs.size + 1)) { s with heap := (s.heap.push { cls := .type "slice", data := .fields #[vl, vu, vt] }).push { cls := .type "list", data := .seq (slicePick items lo hi st) } })
    (hs : subscripted slice false (.ref l) (.ref s.heap.objs.size) = operate ops (getItem (.ref l) (.ref s.heap.objs.size)))
    (ht : ∀ r, letTemporaryGo value (.ref l) r = pure () := by intro _; with_unfolding_all rfl)
    (hsz : items.size ≤ sizeLine := by size_fits) :
    wpAny (model prog w) A (subscriptTail value slice (.ref l) (.ref s.heap.objs.size)) Q E { s with heap := s.heap.push { cls := .type "slice", data := .fields #[vl, vu, vt] } } := by
  refine subscriptTail_ops (Heap.IsList.typeIs (s := { s with heap := s.heap.push { cls := .type "slice", data := .fields #[vl, vu, vt] } }) (hl.push _)) list_getitem_lookup
    (wpAny_getItem_list_slice (hl.push _) (Heap.IsSliceOf.new ..) pl pu pt h0 ?_ hsz) hs ht
  show Q (.ref (s.heap.push _).objs.size) _
  rw [Heap.size_push]
  exact h
theorem pick_mem {items : Array Value} {lo hi st : Option Int} {v : Value} (h : v ∈ slicePick items lo hi st) : v ∈ items := by
  unfold slicePick at h
  rw [List.mem_toArray, List.mem_filterMap] at h
  obtain ⟨i, _, e⟩ := h
  exact Array.mem_of_getElem? e
theorem slice_ints {h₀ : Heap} {L : Addr} {m : Str → Option Value} {news : List (Addr × Obj)} {value slice : Expr} {l : Addr} {vs : List Value} {ns : List Int} {vl vu vt : Value} {lo hi st : Option Int} {Q : Value → Shared → Prop}
    (F : Fr h₀ L s.heap m) (N : News h₀ L s.heap news) (hl : s.heap.IsList l vs.toArray) (hi' : IntsAre vs ns) (pl : IsPart vl lo) (pu : IsPart vu hi) (pt : IsPart vt st) (h0 : st ≠ some 0) (hz : ns.length ≤ 16777216)
    (h : ∀ (D : Addr) (ws : List Value) (ms : List Int) h', IntsAre ws ms → Fr h₀ L h' m → News h₀ L h' ((D, listOf ws.toArray 0) :: news) → (∀ q ∈ news, q.1 < D) → Q (.ref D) { s with heap := h' })
    (hs : subscripted slice false (.ref l) (.ref s.heap.objs.size) = operate [.ref l, .ref s.heap.objs.size] (getItem (.ref l) (.ref s.heap.objs.size)) := by with_unfolding_all rfl)
    (ht : ∀ r, letTemporaryGo value (.ref l) r = pure () := by intro _; with_unfolding_all rfl) :
    wpAny (model prog w) A (subscriptTail value slice (.ref l) (.ref s.heap.objs.size)) Q E { s with heap := s.heap.push { cls := .type "slice", data := .fields #[vl, vu, vt] } } := by
  refine slice_listS hl pl pu pt h0 ?_ hs ht (by rw [sizeLine_eq]; simpa [hi'.length] using hz)
  have ha : AllInts (slicePick vs.toArray lo hi st) := fun v hv => hi'.allInts v (pick_mem hv)
  have e1 : s.heap.objs.size + 1 = (s.heap.push { cls := .type "slice", data := .fields #[vl, vu, vt] }).objs.size := by rw [Heap.size_push]
  have up : ∀ b o, s.heap.get? b = some o → ((s.heap.push { cls := .type "slice", data := .fields #[vl, vu, vt] }).push { cls := .type "list", data := .seq (slicePick vs.toArray lo hi st) }).get? b = some o :=
    fun b o e => Heap.get?_push_of_some _ (Heap.get?_push_of_some _ e)
  have F1 : Fr h₀ L (s.heap.push { cls := .type "slice", data := .fields #[vl, vu, vt] }) m := F.push _
  refine h _ (slicePick vs.toArray lo hi st).toList _ _ (intsAre_of ha) (F.keeps up) (fun p hp => ?_) (fun q hq => Nat.lt_succ_of_lt (Heap.lt_size (N q hq).1))
  rcases List.mem_cons.mp hp with rfl | hp
  · refine ⟨?_, ?_, ?_⟩
    · show Heap.get? _ (s.heap.objs.size + 1) = _
      rw [e1]; exact Heap.get?_push_size _ rfl
    · show s.heap.objs.size + 1 ≠ L
      have h9 : L < s.heap.objs.size := F.ns.lt
      exact fun q => absurd h9 (by rw [← q]; exact Nat.not_lt.mpr (Nat.le_succ _))
    · show h₀.get? (s.heap.objs.size + 1) = none
      rw [e1]; exact next_is_new F1
  · exact ⟨up _ _ (N p hp).1, (N p hp).2⟩
theorem BytesAre.take : ∀ {vs : List Value} {bs : List (List UInt8)}, BytesAre vs bs → ∀ n, BytesAre (vs.take n) (bs.take n)
  | [], [], _, n => by simp [BytesAre]
  | _ :: _, _ :: _, _, 0 => by simp [BytesAre]
  | _ :: _, _ :: _, h, n + 1 => by simp only [List.take_succ_cons]; exact ⟨h.1, h.2.take n⟩
theorem BytesAre.drop : ∀ {vs : List Value} {bs : List (List UInt8)}, BytesAre vs bs → ∀ n, BytesAre (vs.drop n) (bs.drop n)
  | [], [], _, n => by simp [BytesAre]
  | _ :: _, _ :: _, h, 0 => by simpa using h
  | _ :: _, _ :: _, h, n + 1 => by simp only [List.drop_succ_cons]; exact h.2.drop n
theorem BytesAre.rev : ∀ {vs : List Value} {bs : List (List UInt8)}, BytesAre vs bs → BytesAre vs.reverse bs.reverse
  | [], [], _ => by simp [BytesAre]
  | v :: vs, b :: bs, h => by
    rw [List.reverse_cons, List.reverse_cons]
    exact h.2.rev.append ⟨h.1, trivial⟩
theorem pick_rev (items : Array Value) : slicePick items none none (some (-1)) = items.toList.reverse.toArray := by
  have e : sliceBounds none none (some (-1)) items.size = ((items.size : Int) - 1, -1, -1) := by simp [sliceBounds]
  unfold slicePick
  rw [e]
  congr 1
  have e2 : sliceRange ((items.size : Int) - 1) (-1) (-1) = (List.range items.size).map fun k => items.size - 1 - k := by
    have e3 : (if (-1 : Int) > 0 then (if (items.size : Int) - 1 < -1 then (-1 - ((items.size : Int) - 1) + -1 - 1) / -1 else 0) else (if (items.size : Int) - 1 > -1 then ((items.size : Int) - 1 - -1 - -1 - 1) / (- -1) else 0)) = (items.size : Int) := by
      rw [if_neg (by omega)]
      by_cases h : (items.size : Int) - 1 > -1
      · rw [if_pos h, show (- -1 : Int) = 1 from rfl, Int.ediv_one]; omega
      · rw [if_neg h]; omega
    unfold sliceRange
    rw [e3]
    simp only [Int.toNat_natCast]
    refine List.map_congr_left fun k hk => ?_
    have := List.mem_range.mp hk
    omega
  rw [e2, List.filterMap_map]
  have key : ∀ (l : List Value) (n : Nat), n ≤ l.length → (List.range n).filterMap (fun k => l[n - 1 - k]?) = (l.take n).reverse := by
    intro l n
    induction n with
    | zero => intro _; simp
    | succ n ih =>
      intro h
      rw [List.range_succ_eq_map, List.filterMap_cons, List.filterMap_map]
      have hn : n < l.length := h
      have e4 : l[n + 1 - 1 - 0]? = some l[n] := by simp [hn]
      rw [e4, List.take_add_one, List.getElem?_eq_getElem hn]
      simp only [Option.toList_some, List.reverse_append, List.reverse_cons, List.reverse_nil, List.nil_append, List.cons_append]
      congr 1
      rw [← ih (by omega)]
      congr 1
      funext k
      show l[n + 1 - 1 - (k + 1)]? = _
      congr 1
      rw [Nat.add_sub_cancel, Nat.sub_sub, Nat.add_comm 1 k]
  have := key items.toList items.size (by simp)
  rw [show items.toList.take items.size = items.toList from List.take_of_length_le (by simp)] at this
  rw [← this]
  congr 1
  funext k
  simp
theorem slice_made {h₀ : Heap} {L : Addr} {m : Str → Option Value} {news : List (Addr × Obj)} {value slice : Expr} {l : Addr} {vs ws : List Value} {vl vu vt : Value} {lo hi st : Option Int} {Q : Value → Shared → Prop} {ops : List Value}
    (F : Fr h₀ L s.heap m) (N : News h₀ L s.heap news) (hl : s.heap.IsList l vs.toArray) (pl : IsPart vl lo) (pu : IsPart vu hi) (pt : IsPart vt st) (h0 : st ≠ some 0) (hz : vs.length ≤ 16777216) (hw : slicePick vs.toArray lo hi st = ws.toArray)
    (h : ∀ (D : Addr) h', Fr h₀ L h' m → News h₀ L h' ((D, listOf ws.toArray 0) :: news) → (∀ q ∈ news, q.1 < D) → Q (.ref D) { s with heap := h' })
    (hs : subscripted slice false (.ref l) (.ref s.heap.objs.size) = operate ops (getItem (.ref l) (.ref s.heap.objs.size)))
    (ht : ∀ r, letTemporaryGo value (.ref l) r = pure () := by intro _; with_unfolding_all rfl) :
    wpAny (model prog w) A (subscriptTail value slice (.ref l) (.ref s.heap.objs.size)) Q E { s with heap := s.heap.push { cls := .type "slice", data := .fields #[vl, vu, vt] } } := by
  refine slice_listS hl pl pu pt h0 ?_ hs ht (by rw [sizeLine_eq]; simpa using hz)
  rw [hw]
  have e1 : s.heap.objs.size + 1 = (s.heap.push { cls := .type "slice", data := .fields #[vl, vu, vt] }).objs.size := by rw [Heap.size_push]
  have up : ∀ b o, s.heap.get? b = some o → ((s.heap.push { cls := .type "slice", data := .fields #[vl, vu, vt] }).push { cls := .type "list", data := .seq ws.toArray }).get? b = some o :=
    fun b o e => Heap.get?_push_of_some _ (Heap.get?_push_of_some _ e)
  have F1 : Fr h₀ L (s.heap.push { cls := .type "slice", data := .fields #[vl, vu, vt] }) m := F.push _
  refine h _ _ (F.keeps up) (fun p hp => ?_) (fun q hq => Nat.lt_succ_of_lt (Heap.lt_size (N q hq).1))
  rcases List.mem_cons.mp hp with rfl | hp
  · refine ⟨?_, ?_, ?_⟩
    · show Heap.get? _ (s.heap.objs.size + 1) = _
      rw [e1]; exact Heap.get?_push_size _ rfl
    · show s.heap.objs.size + 1 ≠ L
      have h9 : L < s.heap.objs.size := F.ns.lt
      exact fun q => absurd h9 (by rw [← q]; exact Nat.not_lt.mpr (Nat.le_succ _))
    · show h₀.get? (s.heap.objs.size + 1) = none
      rw [e1]; exact next_is_new F1
  · exact ⟨up _ _ (N p hp).1, (N p hp).2⟩
theorem slice_bl {h₀ : Heap} {L : Addr} {m : Str → Option Value} {news : List (Addr × Obj)} {value slice : Expr} {l : Addr} {vs : List Value} {bs : List (List UInt8)} {vl vu : Value} {lo hi : Option Int} {Q : Value → Shared → Prop}
    (F : Fr h₀ L s.heap m) (N : News h₀ L s.heap news) (hl : s.heap.IsList l vs.toArray) (hv : BytesAre vs bs) (pl : IsPart vl lo) (pu : IsPart vu hi) (hz : bs.length ≤ 16777216)
    (h : ∀ (D : Addr) (ws : List Value) h', BytesAre ws (cutL bs lo hi) → Fr h₀ L h' m → News h₀ L h' ((D, listOf ws.toArray 0) :: news) → (∀ q ∈ news, q.1 < D) → Q (.ref D) { s with heap := h' })
    (hs : subscripted slice false (.ref l) (.ref s.heap.objs.size) = operate [.ref s.heap.objs.size, .ref l] (getItem (.ref l) (.ref s.heap.objs.size)) := by with_unfolding_all rfl)
    (ht : ∀ r, letTemporaryGo value (.ref l) r = pure () := by intro _; with_unfolding_all rfl) :
    wpAny (model prog w) A (subscriptTail value slice (.ref l) (.ref s.heap.objs.size)) Q E { s with heap := s.heap.push { cls := .type "slice", data := .fields #[vl, vu, .none] } } := by
  refine slice_made (ws := cutL vs lo hi) F N hl pl pu .none (by simp) (by rw [hv.length]; exact hz) ?_ (fun D h' F' N' q => h D _ h' ?_ F' N' q) hs ht
  · rw [slicePick_plain]; simp only [List.size_toArray, cutL]
  · unfold cutL
    rw [hv.length]
    exact (hv.drop _).take _
theorem slice_blr {h₀ : Heap} {L : Addr} {m : Str → Option Value} {news : List (Addr × Obj)} {value slice : Expr} {l : Addr} {vs : List Value} {bs : List (List UInt8)} {t : Tok} {Q : Value → Shared → Prop}
    (F : Fr h₀ L s.heap m) (N : News h₀ L s.heap news) (hl : s.heap.IsList l vs.toArray) (hv : BytesAre vs bs) (hz : bs.length ≤ 16777216)
    (h : ∀ (D : Addr) (ws : List Value) h', BytesAre ws bs.reverse → Fr h₀ L h' m → News h₀ L h' ((D, listOf ws.toArray 0) :: news) → (∀ q ∈ news, q.1 < D) → Q (.ref D) { s with heap := h' })
    (hs : subscripted slice false (.ref l) (.ref s.heap.objs.size) = operate [.ref l, .ref s.heap.objs.size] (getItem (.ref l) (.ref s.heap.objs.size)) := by with_unfolding_all rfl)
    (ht : ∀ r, letTemporaryGo value (.ref l) r = pure () := by intro _; with_unfolding_all rfl) :
    wpAny (model prog w) A (subscriptTail value slice (.ref l) (.ref s.heap.objs.size)) Q E { s with heap := s.heap.push { cls := .type "slice", data := .fields #[.none, .none, .int (-1) t] } } :=
  slice_made (ws := vs.reverse) F N hl .none .none (.int _ _) (by simp) (by rw [hv.length]; exact hz) (pick_rev _) (fun D h' F' N' q => h D _ h' hv.rev F' N' q) hs ht
end
theorem bytes_of (R : Nat → List UInt8 → Prop) : ∀ {ys : List Value}, (∀ i y, ys[i]? = some y → ∃ b t, R i b ∧ y = .bytes b.toArray t) → ∃ bs, BytesAre ys bs ∧ ∀ i b, bs[i]? = some b → R i b
  | [], _ => ⟨[], trivial, fun i b e => by simp at e⟩
  | y :: ys, h => by
    obtain ⟨b, t, hr, e⟩ := h 0 y rfl
    obtain ⟨bs, hb, hR⟩ := bytes_of (fun i => R (i + 1)) (ys := ys) fun i z e => h (i + 1) z (by simpa using e)
    refine ⟨b :: bs, ⟨⟨t, e⟩, hb⟩, fun i c e => ?_⟩
    cases i with
    | zero => simp at e; exact e ▸ hr
    | succ i => exact hR i c (by simpa using e)
theorem table_of {α : Type} {l : List α} {n : Nat} {f : Nat → α} (hl : l.length = n) (h : ∀ i b, l[i]? = some b → b = f i) : l = (List.range n).map f := by
  refine List.ext_getElem? fun i => ?_
  rw [List.getElem?_map]
  cases e : l[i]? with
  | none => rw [List.getElem?_eq_none_iff] at e; rw [List.getElem?_eq_none_iff.mpr (by simp; omega)]; rfl
  | some q =>
    have := (List.getElem?_eq_some_iff.mp e).1
    rw [h i q e, List.getElem?_range (by omega)]; rfl
theorem cut_take {α : Type} (l : List α) (k : Nat) (h : k ≤ l.length) : cutL l none (some (k : Int)) = l.take k := by
  unfold cutL
  show (l.drop 0).take (clipAt l.length k - 0) = _
  rw [clipAt_nat, List.drop_zero]
  congr 1
  omega
theorem cut_drop {α : Type} (l : List α) (k : Nat) (h : k ≤ l.length) : cutL l (some (k : Int)) none = l.drop k := by
  unfold cutL
  show (l.drop (clipAt l.length k)).take (l.length - clipAt l.length k) = _
  rw [clipAt_nat]
  have : min k l.length = k := by omega
  rw [this, List.take_of_length_le (by simp)]
section
variable {M : Model} {A : Around} {E : Value → Shared → Prop} {s : Shared} {env : Env}
theorem wpG_BinOp {l op r pos} {Q : Value → Shared → Prop}
    (h : wpG M A (eval l env) (fun a s₁ => wpG M A (eval r env) (fun b s₂ => wpAny M A (binaryOp op a b) Q E s₂) E s₁) E s) :
    wpG M A (eval (.BinOp l op r pos) env) Q E s := by
  rw [arm_eval_BinOp]
  exact wpG_bind (wpG_mono h (fun a s₁ h₁ => wpG_bind (wpG_holding (wpG_mono h₁ (fun b s₂ h₂ => wpG_bind (wpG_standAt (wpG_operate (wpG_of h₂)))) fun _ _ e => e))) fun _ _ e => e)
theorem wpG_List2 {e1 e2 : Expr} {pos : Pos} {Q : Value → Shared → Prop}
    (h : wpG M A (spliced (backTo pos (starEach [e1, e2] env))) (fun vs s' => wpAny M A (newList vs) Q E s') E s) : wpG M A (eval (.List [e1, e2] pos) env) Q E s := by
  rw [arm_eval_List]
  exact wpG_bind (wpG_standAt (wpG_bind (wpG_mono h (fun vs s' h' => wpG_of h') fun _ _ e => e)))
end
section
variable {M : Model} {A : Around} {E : Value → Shared → Prop} {s : Shared} {env : Env}
theorem wpG_pair {e1 e2 : Expr} {pos : Pos} {Q : Value → Shared → Prop}
    (h : wpG M A (eval e1 env) (fun v s₁ => wpG M A (eval e2 env) (fun v2 s₂ => wpAny M A (newList [v, v2]) Q E s₂) E s₁) E s)
    (he : starEach [e1, e2] env = [(false, eval e1 env), (false, eval e2 env)] := by rfl) : wpG M A (eval (.List [e1, e2] pos) env) Q E s := by
  refine wpG_List2 ?_
  rw [he]
  exact wpG_spliced_cons (wpG_mono h (fun v s₁ h₁ => wpG_spliced_cons (wpG_mono h₁ (fun v2 s₂ h₂ => wpG_spliced_nil h₂) fun _ _ e => e)) fun _ _ e => e)
end
section
variable {prog : Program} {w : World} {A : Around} {E : Value → Shared → Prop} {s : Shared}
end
theorem BytesAre.two {b c : List UInt8} {t u : Tok} : BytesAre [.bytes b.toArray t, .bytes c.toArray u] [b, c] := ⟨⟨t, rfl⟩, ⟨u, rfl⟩, trivial⟩
local macro_rules | `(tactic| walk_at "my:len") => `(tactic| first | ((first | omega | (simp only [List.length_append, List.length_reverse]; omega))) | ((simp only [List.length_append, List.length_flatten, List.map_replicate, List.sum_replicate_nat, List.length_cons, List.length_nil, List.length_replicate]; omega)))
local macro_rules | `(tactic| walk_at "my:bytes") => `(tactic| first | (exact BytesAre.two) | (first | (with_reducible assumption) | exact BytesAre.one | (refine BytesAre.append ?_ ?_ <;> assumption)))
section
variable {prog : Program} {w : World} {A : Around} {E : Value → Shared → Prop} {s : Shared}
theorem eqAt_bytesD (b c : List UInt8) (t u : Tok) : SeqAt.EqAt A s (.bytes b.toArray t) (.bytes c.toArray u) (decide (b = c)) := fun prog w E Q h => by
  have e : (b.toArray.toList == c.toArray.toList) = decide (b = c) := by
    show (b == c) = _
    by_cases h : b = c <;> simp [h]
  unfold eqBool
  refine wpAny_holding ?_
  refine wpAny_ite_split (fun hab => ?_) (fun hab => ?_)
  · have hbc : b = c := by
      have := eq_of_beq hab
      cases this
      rfl
    subst hbc
    exact wpAny_bind (wpAny_rule (wpAny_pure (by simpa using h)))
  · exact wpAny_bind (richCompare_gives (typeIs_bytes s b.toArray t) (typeIs_bytes s c.toArray u) FB.slot_bytes_eq FB.entry_bytes_eq (FB.args_bytes_eq_2 _ _) (gives_bytes_eq b.toArray c.toArray t u) (by simp [Made.takes]) (wpAny_truthy_bool (by rw [e]; exact h)))
theorem eq_bl {l l₂ : Addr} {vs ws : List Value} {bs cs : List (List UInt8)} {Q : Value → Shared → Prop} (hl : s.heap.IsList l vs.toArray) (hb : s.heap.IsList l₂ ws.toArray) (hv : BytesAre vs bs) (hw : BytesAre ws cs) (hu : A.units < cLine) (h : Q (.bool (decide (bs = cs))) s) :
    wpAny (model prog w) A (compareOp .Eq (.ref l) (.ref l₂)) Q E s := by
  by_cases hsz : bs.length = cs.length
  · refine SeqAt.eq_listAt (e := fun j => decide (bs.getD j [] = cs.getD j [])) hl hb (by simp [hv.length, hw.length, hsz]) hu (fun j h1 h2 => ?_) ?_
    · have g1 : vs[j]? = some (vs.toArray[j]) := by simp at h1; simp [h1]
      have g2 : ws[j]? = some (ws.toArray[j]) := by simp at h2; simp [h2]
      obtain ⟨b, t, e1, e2⟩ := hv.get g1
      obtain ⟨c, u, e3, e4⟩ := hw.get g2
      have e5 : bs.getD j [] = b := by rw [List.getD_eq_getElem?_getD, e1]; rfl
      have e6 : cs.getD j [] = c := by rw [List.getD_eq_getElem?_getD, e3]; rfl
      rw [e2, e4, e5, e6]
      exact eqAt_bytesD b c t u
    · have e : (List.range vs.toArray.size).all (fun j => decide (bs.getD j [] = cs.getD j [])) = decide (bs = cs) := by
        rw [Bool.eq_iff_iff]
        simp only [List.all_eq_true, List.mem_range, decide_eq_true_eq, List.size_toArray, hv.length]
        constructor
        · intro hall
          refine List.ext_getElem hsz fun j h1 h2 => ?_
          have := hall j h1
          rw [List.getD_eq_getElem?_getD, List.getD_eq_getElem?_getD, List.getElem?_eq_getElem h1, List.getElem?_eq_getElem h2] at this
          exact this
        · rintro rfl _ _; rfl
      rw [e]; exact h
  · refine SeqAt.eq_list_lengthsAt hl hb (by simp [hv.length, hw.length, hsz]) hu ?_
    have : decide (bs = cs) = false := decide_eq_false (fun e => hsz (by rw [e]))
    rw [this] at h
    exact h
theorem notIn_bl {l : Addr} {vs : List Value} {bs : List (List UInt8)} {c : List UInt8} {t : Tok} {Q : Value → Shared → Prop} (hl : s.heap.IsList l vs.toArray) (hv : BytesAre vs bs) (h : Q (.bool (decide (c ∉ bs))) s) :
    wpAny (model prog w) A (compareOp .NotIn (.bytes c.toArray t) (.ref l)) Q E s := by
  refine SeqAt.notIn_listAt (fun y => match y with | .bytes b _ => decide (b.toList = c) | _ => false) hl (fun y hy => ?_) ?_
  · rw [List.mem_toArray] at hy
    obtain ⟨i, hi⟩ := List.mem_iff_getElem?.mp hy
    obtain ⟨b, u, e1, rfl⟩ := hv.get hi
    exact eqAt_bytesD b c u t
  · have e : (vs.toArray.any fun y => match y with | .bytes b _ => decide (b.toList = c) | _ => false) = decide (c ∈ bs) := by
      rw [Bool.eq_iff_iff, List.any_toArray, List.any_eq_true, decide_eq_true_eq]
      constructor
      · rintro ⟨y, hy, hy'⟩
        obtain ⟨i, hi⟩ := List.mem_iff_getElem?.mp hy
        obtain ⟨b, u, e1, rfl⟩ := hv.get hi
        simp only [decide_eq_true_eq] at hy'
        exact hy' ▸ List.mem_of_getElem? e1
      · intro hc
        obtain ⟨i, hi⟩ := List.mem_iff_getElem?.mp hc
        have hlt : i < bs.length := (List.getElem?_eq_some_iff.mp hi).1
        obtain ⟨u, e1⟩ := hv.at hlt
        rw [List.getD_eq_getElem?_getD, hi] at e1
        exact ⟨_, List.mem_of_getElem? e1, by simp⟩
    rw [e]
    have : (!decide (c ∈ bs)) = decide (c ∉ bs) := by by_cases q : c ∈ bs <;> simp [q]
    rw [this]; exact h
end
theorem leadN_eq : ∀ {bs : List (List UInt8)} {k : Nat}, (∀ j, j < k → bs[j]? = some []) → bs[k]? ≠ some [] → leadN bs = k
  | [], 0, _, _ => rfl
  | [], k + 1, h, _ => by have := h 0 (by omega); simp at this
  | q :: qs, 0, _, h => by
    have : q ≠ [] := by simpa using h
    simp [leadN, this]
  | q :: qs, k + 1, h, h' => by
    have h0 : q = [] := by have := h 0 (by omega); simpa using this
    have := leadN_eq (bs := qs) (k := k) (fun j hj => by have := h (j + 1) (by omega); simpa using this) (by simpa using h')
    simp [leadN, h0, this]
theorem cut_one {α : Type} (l : List α) (k : Nat) (hk : k ≤ l.length) : cutL l (some (k : Int)) (some ((k : Int) + 1)) = (match l[k]? with | some x => [x] | none => []) := by
  unfold cutL
  show (l.drop (clipAt l.length k)).take (clipAt l.length ((k : Int) + 1) - clipAt l.length k) = _
  rw [show (k : Int) + 1 = ((k + 1 : Nat) : Int) from rfl, clipAt_nat, clipAt_nat]
  have h1 : min k l.length = k := by omega
  rw [h1]
  by_cases h : k < l.length
  · have h2 : min (k + 1) l.length - k = 1 := by rw [Nat.min_eq_left h]; exact Nat.add_sub_cancel_left k 1
    rw [h2, List.drop_eq_getElem_cons h, List.getElem?_eq_getElem h]
    rfl
  · have h2 : min (k + 1) l.length - k = 0 := by omega
    rw [h2, List.getElem?_eq_none (by omega)]
    rfl
theorem cut_is {bs : List (List UInt8)} {k : Nat} (hk : k ≤ bs.length) : cutL bs (some (k : Int)) (some ((k : Int) + 1)) = [[]] ↔ bs[k]? = some [] := by
  rw [cut_one bs k hk]
  cases e : bs[k]? with
  | none => simp
  | some x => simp
theorem root_two {bs : List (List UInt8)} {k : Nat} (h : leadN bs = k) (h2 : (k : Int) = 2) : lawRoot bs = [47, 47] := by
  unfold lawRoot; rw [h, if_pos (by omega)]
theorem root_cut {bs : List (List UInt8)} {k : Nat} (h : leadN bs = k) (h2 : (k : Int) ≠ 2) : lawRoot bs = cutL [47] none (some (k : Int)) := by
  unfold lawRoot
  rw [h, if_neg (by omega)]
  unfold cutL
  show _ = ([47] : List UInt8).take (clipAt 1 k - 0)
  rw [clipAt_nat]
  by_cases h0 : k = 0
  · subst h0; rfl
  · have : min k 1 - 0 = 1 := Nat.min_eq_right (Nat.one_le_iff_ne_zero.mpr h0)
    rw [if_neg h0, this]; rfl
section
variable {prog : Program} {w : World} {A : Around} {E : Value → Shared → Prop} {Q : Flow → Shared → Prop} {s : Shared} {env : Env} {h₀ : Heap} {L : Addr}
theorem While_nat {x : Str} {test : Expr} {body : List Stmt} {pos : Pos} {m₀ : Str → Option Value} {t₀ : Tok} (lim : Nat) (P : Nat → Prop)
    (F : Fr h₀ L s.heap (fun y => if y = x then some (.int 0 t₀) else m₀ y)) (h0 : P 0)
    (turn : ∀ k t h₁ tk₁ J, Fr h₀ L h₁ (fun y => if y = x then some (.int (k : Nat) t) else m₀ y) → News h₀ L h₁ [] → k ≤ lim → P k →
      (∀ h' tk' m', Fr h₀ L h' m' → k < lim → P (k + 1) → (∃ t', m' = fun y => if y = x then some (.int ((k : Int) + 1) t') else m₀ y) → WhileStep h₀ L s J (lim - k) .next { s with heap := h', toks := tk' }) →
      wpAny (model prog w) A (isTrue test env (eval test env)) (fun b s₂ =>
        if b = true then wpAny (model prog w) A (execs body env) (WhileStep h₀ L s J (lim - k)) E s₂ else Q .next s₂) E { s with heap := h₁, toks := tk₁ })
    (hE : PassesOwn (model prog w) A env E := by passes_own) :
    wpAny (model prog w) A (exec (.While test body [] pos) env) Q E s := by
  refine While_inv (fun n m₁ news₁ => ∃ (k : Nat) (t : Tok), m₁ = (fun y => if y = x then some (.int (k : Int) t) else m₀ y) ∧ news₁ = [] ∧ n = lim - k ∧ k ≤ lim ∧ P k) (n₀ := lim) F (news := []) (fun p hp => nomatch hp) ⟨0, t₀, rfl, rfl, rfl, Nat.zero_le _, h0⟩ ?_ hE
  rintro n m₁ news₁ h₁ tk₁ F₁ N₁ ⟨k, t, rfl, rfl, rfl, hkl, hP⟩
  refine turn k t h₁ tk₁ _ F₁ N₁ hkl hP ?_
  rintro h' tk' m' F' hlt hP' ⟨t', rfl⟩
  exact WhileStep.intro (news₂ := []) F' (fun p hp => nomatch hp) (Nat.sub_succ_lt_self _ _ hlt : lim - (k + 1) < lim - k) ⟨k + 1, t', rfl, rfl, rfl, hlt, hP'⟩
end
section
variable {w : World} {mean : ExcName → Option Value} {mg mb : Str → Option Value} {dp un : Nat} {gd : Option (List Code)} {cn : Str} {cs : Scope} {a : Addr} {ccd : Value} {cl : List (Str × Addr)} {outer : List Env} {A₀ : Around} {base h₀ : Heap} {L : Addr} {m : Str → Option Value} {news : List (Addr × Obj)} {s : Shared} {Q E : Value → Shared → Prop}
theorem root_call {l : Addr} {vs : List Value} {bs : List (List UInt8)}
    (B : Below A₀ base outer h₀) (F : Fr h₀ L s.heap m) (X : (hd.heap_39 w.params).In h₀) (T : Top hd.view_39 (looseW hd.view_39 []) mean mg mb h₀) (hk : cs.kind = .function)
    (hd1 : dp + 3 < recursionLimit) (hu : un + 60 < cLine) (hl : s.heap.IsList l vs.toArray) (hv : BytesAre vs bs) (hz : bs.length ≤ 1000)
    (ret : ∀ (t : Tok) (h' : Heap) (tk' : Nat), (∀ b o, s.heap.get? b = some o → h'.get? b = some o) → Q (.bytes (lawRoot bs).toArray t) { s with heap := h', toks := tk' }) :
    wpAny (model Challenge.rw_nq0013_01.row.prog w) (ktrTop dp un gd cn cs L a ccd cl outer) (call (.ref 129) [.ref l]) Q E s := by
  w_top off
  revert X
  k_fill
  intro X
  refine wpAny_call ?_
  k_dflt ((refine' code_defG ?k1 ?k2 ?k3 News.nil ?k5 ?kA ?kF ?kK ?k6 ?k7 ?k8 ?k9 ?kB ?_ ?c2 ?c3 ?c4 ?c5; (case kA => exact rfl); (case kF => exact rfl); (case kK => assumption); (case k1 => k_asm); (case k2 => k_asm); (case k3 => k_asm); (case k5 => k_asm); (case k6 => k_is); (case k7 => k_is); (case k8 => ktr_room); (case k9 => exact BindsTo.of_eq rfl); (case c5 => decide); (case kB => exact locs rfl); (case c2 => exact rfl); (case c3 => exact rfl); (case c4 => exact rfl); k_whole; intro g' L' h' FG' F' N' B' X' T' hG'; (try dsimp only); (try k_lift B'); (try k_fold)))
  (with_reducible rename GSub _ _ _ => hG)
  have hl' := hl.at fun o e => hG _ o e (fun q => by cases q)
  (repeat' (first | (k_unfold; (try dsimp only)) | ((((((((((((fail_if_success (with_reducible show InvPostN _ _ _ _ _ _ _ _ _)); (fail_if_success (with_reducible show InvEndN _ _ _ _ _ _ _)); (fail_if_success (with_reducible show wpG _ _ _ _ _ _)); (fail_if_success (with_reducible show wpAny _ _ (pyIter (Value.ref _)) _ _ _)))); (fail_if_success (with_reducible show LCg.CompSrc _ _ _ _ _ _ _ _ _ _ _ _ _ _)); (fail_if_success (with_reducible show LCg.CompEnd _ _ _ _ _ _ _ _ _ _ _ _ _ _)))); (fail_if_success (with_reducible show wpAny _ _ (eval (Expr.ListComp _ _ _ _) _) _ _ _)))); (fail_if_success (with_reducible show wpAny _ _ (call (Value.ref _) _) _ _ _)))); (fail_if_success (with_reducible show wpAny _ _ (exec (Stmt.While _ _ _ _) _) _ _ _)); (fail_if_success (with_reducible show WhileStep _ _ _ _ _ _ _)))); walk1) | ((((((((((((fail_if_success (with_reducible show InvPostN _ _ _ _ _ _ _ _ _)); (fail_if_success (with_reducible show InvEndN _ _ _ _ _ _ _)); (fail_if_success (with_reducible show wpG _ _ _ _ _ _)); (fail_if_success (with_reducible show wpAny _ _ (pyIter (Value.ref _)) _ _ _)))); (fail_if_success (with_reducible show LCg.CompSrc _ _ _ _ _ _ _ _ _ _ _ _ _ _)); (fail_if_success (with_reducible show LCg.CompEnd _ _ _ _ _ _ _ _ _ _ _ _ _ _)))); (fail_if_success (with_reducible show wpAny _ _ (eval (Expr.ListComp _ _ _ _) _) _ _ _)))); (fail_if_success (with_reducible show wpAny _ _ (call (Value.ref _) _) _ _ _)))); (fail_if_success (with_reducible show wpAny _ _ (exec (Stmt.While _ _ _ _) _) _ _ _)); (fail_if_success (with_reducible show WhileStep _ _ _ _ _ _ _)))); dsimp only; walk1) | ((((((((((((fail_if_success (with_reducible show InvPostN _ _ _ _ _ _ _ _ _)); (fail_if_success (with_reducible show InvEndN _ _ _ _ _ _ _)); (fail_if_success (with_reducible show wpG _ _ _ _ _ _)); (fail_if_success (with_reducible show wpAny _ _ (pyIter (Value.ref _)) _ _ _)))); (fail_if_success (with_reducible show LCg.CompSrc _ _ _ _ _ _ _ _ _ _ _ _ _ _)); (fail_if_success (with_reducible show LCg.CompEnd _ _ _ _ _ _ _ _ _ _ _ _ _ _)))); (fail_if_success (with_reducible show wpAny _ _ (eval (Expr.ListComp _ _ _ _) _) _ _ _)))); (fail_if_success (with_reducible show wpAny _ _ (call (Value.ref _) _) _ _ _)))); (fail_if_success (with_reducible show wpAny _ _ (exec (Stmt.While _ _ _ _) _) _ _ _)); (fail_if_success (with_reducible show WhileStep _ _ _ _ _ _ _)))); leave1; walk_say "STEP leave1"; try dsimp only) | fail "no step"))
  (with_reducible rename Fr _ _ _ _ => kF)
  (with_reducible rename News _ _ _ _ => kN)
  refine While_nat bs.length (fun k => ∀ j, j < k → bs[j]? = some []) kF (fun j hj => absurd hj (Nat.not_lt_zero j)) ?_
  intro k t h₁ tk₁ J F₁ N₁ hkl hall fin
  clear kF kN
  have hci := cut_is hkl
  (repeat' (first | (k_unfold; (try dsimp only)) | ((((((((((((fail_if_success (with_reducible show InvPostN _ _ _ _ _ _ _ _ _)); (fail_if_success (with_reducible show InvEndN _ _ _ _ _ _ _)); (fail_if_success (with_reducible show wpG _ _ _ _ _ _)); (fail_if_success (with_reducible show wpAny _ _ (pyIter (Value.ref _)) _ _ _)))); (fail_if_success (with_reducible show LCg.CompSrc _ _ _ _ _ _ _ _ _ _ _ _ _ _)); (fail_if_success (with_reducible show LCg.CompEnd _ _ _ _ _ _ _ _ _ _ _ _ _ _)))); (fail_if_success (with_reducible show wpAny _ _ (eval (Expr.ListComp _ _ _ _) _) _ _ _)))); (fail_if_success (with_reducible show wpAny _ _ (call (Value.ref _) _) _ _ _)))); (fail_if_success (with_reducible show wpAny _ _ (exec (Stmt.While _ _ _ _) _) _ _ _)); (fail_if_success (with_reducible show WhileStep _ _ _ _ _ _ _)))); (first | (with_reducible (k_here; (with_reducible show wpAny _ _ (subscriptTail _ (Expr.Slice _ _ none _) (Value.ref _) (Value.ref _)) _ _ _); k_dflt (refine' slice_bl (s := ⟨_, _, _, _, _⟩) ?q9F ?q9N ?q9l ?q9v ?q9a ?q9b ?q9z ?_; (case q9F => k_asm); (case q9N => k_asm); (case q9l => walk_at "my:isl"); (case q9v => walk_at "my:bytes"); (case q9a => constructor); (case q9b => constructor); (case q9z => walk_at "my:len"); k_whole); intro D9 ws9 h9 ba9 F9 N9 l9; (try k_lt l9))) | (with_reducible (k_here; (with_reducible show wpAny _ _ (compareOp CmpOp.Eq (Value.ref _) (Value.ref _)) _ _ _); k_dflt (refine' eq_bl ?q9l ?q9m ?q9v ?q9w ?q9u ?_; (case q9l => walk_at "my:isl"); (case q9m => walk_at "my:isl"); (case q9v => walk_at "my:bytes"); (case q9w => walk_at "my:bytes"); (case q9u => ktr_units); k_whole))) | (with_reducible (k_here; (with_reducible show wpAny _ _ (subscriptTail _ (Expr.Slice _ _ none _) (Value.bytes (List.toArray _) _) (Value.ref _)) _ _ _); (with_reducible rename Fr _ _ _ _ => F'); (with_reducible rename News _ _ _ _ => N'); (refine slice_any (s := ⟨_, _, _, _, _⟩) F' N' (by constructor) (by constructor) (by walk_at "my:b_size") ?_); intro _ _ _ _ _)) | walk1)) | ((((((((((((fail_if_success (with_reducible show InvPostN _ _ _ _ _ _ _ _ _)); (fail_if_success (with_reducible show InvEndN _ _ _ _ _ _ _)); (fail_if_success (with_reducible show wpG _ _ _ _ _ _)); (fail_if_success (with_reducible show wpAny _ _ (pyIter (Value.ref _)) _ _ _)))); (fail_if_success (with_reducible show LCg.CompSrc _ _ _ _ _ _ _ _ _ _ _ _ _ _)); (fail_if_success (with_reducible show LCg.CompEnd _ _ _ _ _ _ _ _ _ _ _ _ _ _)))); (fail_if_success (with_reducible show wpAny _ _ (eval (Expr.ListComp _ _ _ _) _) _ _ _)))); (fail_if_success (with_reducible show wpAny _ _ (call (Value.ref _) _) _ _ _)))); (fail_if_success (with_reducible show wpAny _ _ (exec (Stmt.While _ _ _ _) _) _ _ _)); (fail_if_success (with_reducible show WhileStep _ _ _ _ _ _ _)))); dsimp only; (first | (with_reducible (k_here; (with_reducible show wpAny _ _ (subscriptTail _ (Expr.Slice _ _ none _) (Value.ref _) (Value.ref _)) _ _ _); k_dflt (refine' slice_bl (s := ⟨_, _, _, _, _⟩) ?q9F ?q9N ?q9l ?q9v ?q9a ?q9b ?q9z ?_; (case q9F => k_asm); (case q9N => k_asm); (case q9l => walk_at "my:isl"); (case q9v => walk_at "my:bytes"); (case q9a => constructor); (case q9b => constructor); (case q9z => walk_at "my:len"); k_whole); intro D9 ws9 h9 ba9 F9 N9 l9; (try k_lt l9))) | (with_reducible (k_here; (with_reducible show wpAny _ _ (compareOp CmpOp.Eq (Value.ref _) (Value.ref _)) _ _ _); k_dflt (refine' eq_bl ?q9l ?q9m ?q9v ?q9w ?q9u ?_; (case q9l => walk_at "my:isl"); (case q9m => walk_at "my:isl"); (case q9v => walk_at "my:bytes"); (case q9w => walk_at "my:bytes"); (case q9u => ktr_units); k_whole))) | (with_reducible (k_here; (with_reducible show wpAny _ _ (subscriptTail _ (Expr.Slice _ _ none _) (Value.bytes (List.toArray _) _) (Value.ref _)) _ _ _); (with_reducible rename Fr _ _ _ _ => F'); (with_reducible rename News _ _ _ _ => N'); (refine slice_any (s := ⟨_, _, _, _, _⟩) F' N' (by constructor) (by constructor) (by walk_at "my:b_size") ?_); intro _ _ _ _ _)) | walk1)) | ((((((((((((fail_if_success (with_reducible show InvPostN _ _ _ _ _ _ _ _ _)); (fail_if_success (with_reducible show InvEndN _ _ _ _ _ _ _)); (fail_if_success (with_reducible show wpG _ _ _ _ _ _)); (fail_if_success (with_reducible show wpAny _ _ (pyIter (Value.ref _)) _ _ _)))); (fail_if_success (with_reducible show LCg.CompSrc _ _ _ _ _ _ _ _ _ _ _ _ _ _)); (fail_if_success (with_reducible show LCg.CompEnd _ _ _ _ _ _ _ _ _ _ _ _ _ _)))); (fail_if_success (with_reducible show wpAny _ _ (eval (Expr.ListComp _ _ _ _) _) _ _ _)))); (fail_if_success (with_reducible show wpAny _ _ (call (Value.ref _) _) _ _ _)))); (fail_if_success (with_reducible show wpAny _ _ (exec (Stmt.While _ _ _ _) _) _ _ _)); (fail_if_success (with_reducible show WhileStep _ _ _ _ _ _ _)))); leave1; walk_say "STEP leave1"; try dsimp only) | fail "no step"))
  · refine fin _ _ _ (by k_asm) ?_ ?_ ⟨?wt, ?we⟩
    case we =>
      funext y
      by_cases e : y = Str.ofString "size"
      · rw [if_pos e, if_pos e]
      · rw [if_neg e, if_neg e, if_neg e]
    · have := hci.mp (by assumption)
      exact (List.getElem?_eq_some_iff.mp this).1
    · intro j hj
      by_cases e : j = k
      · subst e; exact hci.mp (by assumption)
      · exact hall j (by omega)
  · exact ret_bytes (s := s) ret (root_two (leadN_eq hall (fun e => absurd (hci.mpr e) (by assumption))) (by assumption)) (by (exact gsub_nil (by assumption) (by assumption)))
  · exact ret_bytes (s := s) ret (root_cut (leadN_eq hall (fun e => absurd (hci.mpr e) (by assumption))) (by assumption)) (by (exact gsub_nil (by assumption) (by assumption)))
end
theorem ints_take : ∀ {vs : List Value} {ns : List Int}, IntsAre vs ns → ∀ n, IntsAre (vs.take n) (ns.take n)
  | _, _, .nil, n => by simp; exact .nil
  | _, _, .cons _ _ _, 0 => by simp; exact .nil
  | _, _, .cons a t h, n + 1 => by simp only [List.take_succ_cons]; exact .cons a t (ints_take h n)
theorem ints_drop : ∀ {vs : List Value} {ns : List Int}, IntsAre vs ns → ∀ n, IntsAre (vs.drop n) (ns.drop n)
  | _, _, .nil, n => by simp; exact .nil
  | _, _, .cons a t h, 0 => by simpa using IntsAre.cons a t h
  | _, _, .cons _ _ h, n + 1 => by simp only [List.drop_succ_cons]; exact ints_drop h n
theorem ints_last {us : List Value} {a : List Int} (h : IntsAre us a) : a ≠ [] → ∃ t, us[us.length - 1]? = some (.int (a.getLastD 0) t) := by
  induction h with
  | nil => exact fun h => absurd rfl h
  | cons a t h ih =>
    intro _
    cases h with
    | nil => exact ⟨t, rfl⟩
    | cons b u h =>
      obtain ⟨t', e⟩ := ih (by simp)
      exact ⟨t', by simpa using e⟩
section
variable {prog : Program} {w : World} {A : Around} {E : Value → Shared → Prop} {s : Shared}
theorem slice_il {h₀ : Heap} {L : Addr} {m : Str → Option Value} {news : List (Addr × Obj)} {value slice : Expr} {l : Addr} {vs : List Value} {ns : List Int} {vl vu : Value} {lo hi : Option Int} {Q : Value → Shared → Prop}
    (F : Fr h₀ L s.heap m) (N : News h₀ L s.heap news) (hl : s.heap.IsList l vs.toArray) (hv : IntsAre vs ns) (pl : IsPart vl lo) (pu : IsPart vu hi) (hz : ns.length ≤ 16777216)
    (h : ∀ (D : Addr) (ws : List Value) h', IntsAre ws (cutL ns lo hi) → Fr h₀ L h' m → News h₀ L h' ((D, listOf ws.toArray 0) :: news) → (∀ q ∈ news, q.1 < D) → Q (.ref D) { s with heap := h' })
    (hs : subscripted slice false (.ref l) (.ref s.heap.objs.size) = operate [.ref s.heap.objs.size, .ref l] (getItem (.ref l) (.ref s.heap.objs.size)) := by with_unfolding_all rfl)
    (ht : ∀ r, letTemporaryGo value (.ref l) r = pure () := by intro _; with_unfolding_all rfl) :
    wpAny (model prog w) A (subscriptTail value slice (.ref l) (.ref s.heap.objs.size)) Q E { s with heap := s.heap.push { cls := .type "slice", data := .fields #[vl, vu, .none] } } := by
  refine slice_made (ws := cutL vs lo hi) F N hl pl pu .none (by simp) (by rw [hv.length]; exact hz) ?_ (fun D h' F' N' q => h D _ h' ?_ F' N' q) hs ht
  · rw [slicePick_plain]; simp only [List.size_toArray, cutL]
  · unfold cutL
    rw [hv.length]
    exact ints_take (ints_drop hv _) _
theorem last_il {value slice : PySem.Expr} {l : Addr} {us : List Value} {a : List Int} {u : Tok} {Q : Value → Shared → Prop} (hl : s.heap.IsList l us.toArray) (hi : IntsAre us a) (hne : a ≠ [])
    (h : ∀ t, Q (.int (a.getLastD 0) t) s)
    (hs : subscripted slice false (.ref l) (.int (-1) u) = operate [.ref l, .int (-1) u] (getItem (.ref l) (.int (-1) u)) := by with_unfolding_all rfl) :
    wpAny (model prog w) A (subscriptTail value slice (.ref l) (.int (-1) u)) Q E s := by
  obtain ⟨t, e⟩ := ints_last hi hne
  have hpos : 0 < us.length := by
    rw [hi.length]; exact List.length_pos_iff.mpr hne
  refine tail_any hl.typeIs slot_list_getitem.lookup (wpAny_getItem_list_neg hl (by decide) (by rw [List.size_toArray]; omega) (by decide) ?_ (h t)) hs
  rw [List.size_toArray]
  have : (-1 + (us.length : Int)).toNat = us.length - 1 := by omega
  rw [this, List.getElem?_toArray]
  exact e
end
section
variable {prog : Program} {w : World} {A : Around} {E : Value → Shared → Prop} {s : Shared} {env : Env} {h₀ : Heap} {x : Str} {body : List Stmt} {Q : Flow → Shared → Prop} {m₀ : Str → Option Value}
theorem iter_vl {l nc : Addr} {vs us₀ : List Value} {n₀ : Nat} {more : List (Addr × Obj)} {bs : List (List UInt8)} (R : Nat → List Value → Prop)
    (hh : A.handled = none) (hl : s.heap.IsList l vs.toArray) (hL : l ≠ env.locals) (F : Fr h₀ env.locals s.heap m₀) (N : News h₀ env.locals s.heap ((nc, listOf us₀.toArray n₀) :: more)) (hne : nc ≠ l) (hv : BytesAre vs bs) (hu : R 0 us₀)
    (turn : ∀ i c t us n h tk own, bs[i]? = some c → OwnOff own [nc] → R i us → Fr h₀ env.locals h (fun y => if y = x then some (.bytes c.toArray t) else m₀ y) → News h₀ env.locals h ((nc, listOf us.toArray n) :: own) →
      wpAny (model prog w) A (execs body env) (InvPostN h₀ env.locals (fun m' nx => (∃ us' n', nx = [(nc, listOf us'.toArray n')] ∧ R (i + 1) us') ∧ ∀ z, z ≠ x → m' z = m₀ z) own [nc] { s with heap := h, toks := tk } Q) E { s with heap := h, toks := tk })
    (done : ∀ (u : Str → Option Value) us n h tk, R bs.length us → Fr h₀ env.locals h (fun z => if z = x then u z else m₀ z) → News h₀ env.locals h [(nc, listOf us.toArray n)] → Q .next { s with heap := h, toks := tk }) :
    wpAny (model prog w) A (pyIter (.ref l)) (fun it s₂ => LoopAtV prog w A h₀ env x body Q E it s₂) E s := by
  refine iter_val (fun i m nx => (∃ us n, nx = [(nc, listOf us.toArray n)] ∧ R i us) ∧ ∀ z, z ≠ x → m z = m₀ z) hh hl hL F (rest := [(nc, listOf us₀.toArray n₀)]) (fun q hq => N q (by rw [List.mem_singleton.mp hq]; exact .head _)) (fun q hq => by rw [List.mem_singleton.mp hq]; exact hne) ⟨⟨us₀, n₀, rfl, hu⟩, fun _ _ => rfl⟩ ?_ ?_
  · rintro i v m₁ nx h tk own hvi _ hoff ⟨⟨us, n, rfl, hus⟩, hm⟩ F₁ N₁
    rw [map_none hm] at F₁
    obtain ⟨c, t, hc, rfl⟩ := hv.get hvi
    exact turn i c t us n h tk own hc hoff hus F₁ N₁
  · rintro m₁ nx h tk ⟨⟨us, n, rfl, hus⟩, hm⟩ F₁ N₁
    rw [hv.length] at hus
    refine done m₁ us n h tk hus ?_ N₁
    rw [done_none hm]; exact F₁
theorem vl_end {h₀ : Heap} {L : Addr} {x : Str} {m₀ m' : Str → Option Value} {nc : Addr} {own : List (Addr × Obj)} {its : Array Value} {n' : Nat} {R : List Value → Prop} {s₁ : Shared} {h' : Heap} {tk' : Nat} {Q : Flow → Shared → Prop} {f : Flow}
    (F : Fr h₀ L h' m') (N : News h₀ L h' ((nc, listOf its n') :: own)) (hm : ∀ z, z ≠ x → m' z = m₀ z) (hb : R its.toList) (hf : f = .next ∨ f = .cont) :
    InvPostN h₀ L (fun m' nx => (∃ us' n', nx = [(nc, listOf us'.toArray n')] ∧ R us') ∧ ∀ z, z ≠ x → m' z = m₀ z) own [nc] s₁ Q f { s₁ with heap := h', toks := tk' } := by
  have key : InvEndN h₀ L (fun m' nx => (∃ us' n', nx = [(nc, listOf us'.toArray n')] ∧ R us') ∧ ∀ z, z ≠ x → m' z = m₀ z) own [nc] s₁ { s₁ with heap := h', toks := tk' } :=
    ⟨h', tk', m', _, [(nc, listOf its n')], rfl, F, N, fun p hp => by rw [List.mem_singleton.mp hp]; exact .head _, fun p hp => .tail _ hp, rfl, ⟨its.toList, n', by rw [Array.toArray_toList], hb⟩, hm⟩
  rcases hf with rfl | rfl <;> exact key
theorem vl_endE {h₀ : Heap} {L : Addr} {x : Str} {m₀ m' : Str → Option Value} {nc : Addr} {own : List (Addr × Obj)} {its : Array Value} {n' : Nat} {R : List Value → Prop} {s₁ : Shared} {h' : Heap} {tk' : Nat}
    (F : Fr h₀ L h' m') (N : News h₀ L h' ((nc, listOf its n') :: own)) (hm : ∀ z, z ≠ x → m' z = m₀ z) (hb : R its.toList) :
    InvEndN h₀ L (fun m' nx => (∃ us' n', nx = [(nc, listOf us'.toArray n')] ∧ R us') ∧ ∀ z, z ≠ x → m' z = m₀ z) own [nc] s₁ { s₁ with heap := h', toks := tk' } :=
  vl_end (Q := fun _ _ => True) (f := .next) F N hm hb (.inl rfl)
end
theorem isl_ne_locals {g h : Heap} {L l : Addr} {m : Str → Option Value} {vs : List Value} (F : Fr g L h m) (hl : g.IsList l vs.toArray) : l ≠ L := by
  obtain ⟨o, e, _⟩ := hl
  exact Nat.ne_of_lt (Nat.lt_of_lt_of_le (Heap.lt_size e) F.above)
theorem isl_ne_new {g h : Heap} {L l D : Addr} {o : Obj} {news : List (Addr × Obj)} {vs : List Value} (N : News g L h news) (hm : (D, o) ∈ news) (hl : g.IsList l vs.toArray) : D ≠ l := by
  obtain ⟨ol, e, _⟩ := hl
  rintro rfl
  have := (N _ hm).2.2
  rw [e] at this
  cases this
noncomputable abbrev mapN (x n1 n2 n3 n4 n5 n6 : Str) (v : Option Value) (u m : Str → Option Value) : Str → Option Value := fun z => if z = x then v else if z = n1 then u z else if z = n2 then u z else if z = n3 then u z else if z = n4 then u z else if z = n5 then u z else if z = n6 then u z else m z
noncomputable abbrev offN (x n1 n2 n3 n4 n5 n6 : Str) (m' m : Str → Option Value) : Prop := ∀ z, z ≠ x → z ≠ n1 → z ≠ n2 → z ≠ n3 → z ≠ n4 → z ≠ n5 → z ≠ n6 → m' z = m z
theorem mapN_eq {x n1 n2 n3 n4 n5 n6 : Str} {v : Option Value} {m₁ m₀ : Str → Option Value} (hm : offN x n1 n2 n3 n4 n5 n6 m₁ m₀) : (fun z => if z = x then v else m₁ z) = mapN x n1 n2 n3 n4 n5 n6 v m₁ m₀ := by
  funext z
  unfold mapN
  by_cases h : z = x
  · rw [if_pos h, if_pos h]
  · rw [if_neg h, if_neg h]
    by_cases h1 : z = n1
    · rw [if_pos h1]
    · rw [if_neg h1]
      by_cases h2 : z = n2
      · rw [if_pos h2]
      · rw [if_neg h2]
        by_cases h3 : z = n3
        · rw [if_pos h3]
        · rw [if_neg h3]
          by_cases h4 : z = n4
          · rw [if_pos h4]
          · rw [if_neg h4]
            by_cases h5 : z = n5
            · rw [if_pos h5]
            · rw [if_neg h5]
              by_cases h6 : z = n6
              · rw [if_pos h6]
              · rw [if_neg h6]; exact hm z h h1 h2 h3 h4 h5 h6
theorem mapN_done {x n1 n2 n3 n4 n5 n6 : Str} {m₁ m₀ : Str → Option Value} (hm : offN x n1 n2 n3 n4 n5 n6 m₁ m₀) : m₁ = mapN x n1 n2 n3 n4 n5 n6 (m₁ x) m₁ m₀ := by
  rw [← mapN_eq hm]
  funext z
  by_cases h : z = x
  · rw [if_pos h, h]
  · rw [if_neg h]
theorem mapN_off {x n1 n2 n3 n4 n5 n6 : Str} {v : Option Value} {u m : Str → Option Value} : offN x n1 n2 n3 n4 n5 n6 (mapN x n1 n2 n3 n4 n5 n6 v u m) m := fun z h h1 h2 h3 h4 h5 h6 => by
  unfold mapN
  rw [if_neg h, if_neg h1, if_neg h2, if_neg h3, if_neg h4, if_neg h5, if_neg h6]
section
variable {prog : Program} {w : World} {A : Around} {E : Value → Shared → Prop} {s : Shared} {env : Env} {h₀ : Heap} {x : Str} {body : List Stmt} {Q : Flow → Shared → Prop} {m₀ : Str → Option Value}
noncomputable abbrev FourJ (x n1 n2 n3 n4 n5 n6 : Str) (m₀ : Str → Option Value) (D0 D1 D2 D3 : Addr) (fixed : List (Addr × Obj)) (g : Nat → List (List UInt8)) (m' : Str → Option Value) (nx : List (Addr × Obj)) : Prop :=
  (∃ u0 u1 u2 u3 c0 c1 c2 c3, nx = (D0, listOf (List.toArray u0) c0) :: (D1, listOf (List.toArray u1) c1) :: (D2, listOf (List.toArray u2) c2) :: (D3, listOf (List.toArray u3) c3) :: fixed ∧ BytesAre u0 (g 0) ∧ BytesAre u1 (g 1) ∧ BytesAre u2 (g 2) ∧ BytesAre u3 (g 3)) ∧ offN x n1 n2 n3 n4 n5 n6 m' m₀
theorem iter_four {r D0 D1 D2 D3 : Addr} {a b c : Int} {t₀ u₀ v₀ : Tok} {n : Nat} {w0 w1 w2 w3 : List Value} {c0 c1 c2 c3 : Nat} {news₀ : List (Addr × Obj)} (fixed : List (Addr × Obj)) (n1 n2 n3 n4 n5 n6 : Str) (g : Nat → Nat → List (List UInt8))
    (hh : A.handled = none) (hr : IsRange s.heap r a b c t₀ u₀ v₀) (hsmall : Builtin.Range.small a b c = true) (hn : Builtin.Range.rangeSize a b c = (n : Int)) (F : Fr h₀ env.locals s.heap m₀) (N : News h₀ env.locals s.heap news₀)
    (i0 : (D0, listOf w0.toArray c0) ∈ news₀) (i1 : (D1, listOf w1.toArray c1) ∈ news₀) (i2 : (D2, listOf w2.toArray c2) ∈ news₀) (i3 : (D3, listOf w3.toArray c3) ∈ news₀) (iF : ∀ p ∈ fixed, p ∈ news₀)
    (b0 : BytesAre w0 (g 0 0)) (b1 : BytesAre w1 (g 0 1)) (b2 : BytesAre w2 (g 0 2)) (b3 : BytesAre w3 (g 0 3))
    (turn : ∀ (i : Nat) (t : Tok) (u : Str → Option Value) (u0 u1 u2 u3 : List Value) (e0 e1 e2 e3 : Nat) (h : Heap) (tk : Nat) (own : List (Addr × Obj)), i < n → OwnOff own (D0 :: D1 :: D2 :: D3 :: fixed.map (·.1)) → BytesAre u0 (g i 0) → BytesAre u1 (g i 1) → BytesAre u2 (g i 2) → BytesAre u3 (g i 3) →
      Fr h₀ env.locals h (mapN x n1 n2 n3 n4 n5 n6 (some (.int (a + (i : Int) * c) t)) u m₀) → News h₀ env.locals h ((D0, listOf u0.toArray e0) :: (D1, listOf u1.toArray e1) :: (D2, listOf u2.toArray e2) :: (D3, listOf u3.toArray e3) :: (fixed ++ own)) →
      wpAny (model prog w) A (execs body env) (InvPostN h₀ env.locals (FourJ x n1 n2 n3 n4 n5 n6 m₀ D0 D1 D2 D3 fixed (g (i + 1))) own (D0 :: D1 :: D2 :: D3 :: fixed.map (·.1)) { s with heap := h, toks := tk } Q) E { s with heap := h, toks := tk })
    (done : ∀ (v : Option Value) (u : Str → Option Value) (u0 u1 u2 u3 : List Value) (e0 e1 e2 e3 : Nat) (h : Heap) (tk : Nat), BytesAre u0 (g n 0) → BytesAre u1 (g n 1) → BytesAre u2 (g n 2) → BytesAre u3 (g n 3) →
      Fr h₀ env.locals h (mapN x n1 n2 n3 n4 n5 n6 v u m₀) → News h₀ env.locals h ((D0, listOf u0.toArray e0) :: (D1, listOf u1.toArray e1) :: (D2, listOf u2.toArray e2) :: (D3, listOf u3.toArray e3) :: fixed) → Q .next { s with heap := h, toks := tk }) :
    wpAny (model prog w) A (pyIter (.ref r)) (fun it s₂ => LoopAtV prog w A h₀ env x body Q E it s₂) E s := by
  have N' : News h₀ env.locals s.heap ((D0, listOf w0.toArray c0) :: (D1, listOf w1.toArray c1) :: (D2, listOf w2.toArray c2) :: (D3, listOf w3.toArray c3) :: fixed) := by
    intro p hp
    simp only [List.mem_cons] at hp
    rcases hp with rfl | rfl | rfl | rfl | hp
    · exact N _ i0
    · exact N _ i1
    · exact N _ i2
    · exact N _ i3
    · exact N p (iF p hp)
  refine iter_rng (fun i => FourJ x n1 n2 n3 n4 n5 n6 m₀ D0 D1 D2 D3 fixed (g i)) hh hr hsmall hn F N' ⟨⟨w0, w1, w2, w3, c0, c1, c2, c3, rfl, b0, b1, b2, b3⟩, fun _ _ _ _ _ _ _ _ => rfl⟩ ?_ ?_
  · rintro i t m₁ nx h tk own hi _ hoff ⟨⟨u0, u1, u2, u3, e0, e1, e2, e3, rfl, B0, B1, B2, B3⟩, hm⟩ F₁ N₁
    rw [mapN_eq hm] at F₁
    exact turn i t m₁ u0 u1 u2 u3 e0 e1 e2 e3 h tk own hi hoff B0 B1 B2 B3 F₁ N₁
  · rintro m₁ nx h tk ⟨⟨u0, u1, u2, u3, e0, e1, e2, e3, rfl, B0, B1, B2, B3⟩, hm⟩ F₁ N₁
    refine done (m₁ x) m₁ u0 u1 u2 u3 e0 e1 e2 e3 h tk B0 B1 B2 B3 ?_ N₁
    rw [← mapN_done hm]
    exact F₁
theorem iter_fourF {r D0 D1 D2 D3 : Addr} {a b c : Int} {t₀ u₀ v₀ : Tok} {n : Nat} {w0 w1 w2 w3 : List Value} {c0 c1 c2 c3 : Nat} {news₀ : List (Addr × Obj)} (ff fo : List (Addr × Obj)) (n1 n2 n3 n4 n5 n6 : Str) (g : Nat → Nat → List (List UInt8))
    (hh : A.handled = none) (hr : IsRange s.heap r a b c t₀ u₀ v₀) (hsmall : Builtin.Range.small a b c = true) (hn : Builtin.Range.rangeSize a b c = (n : Int)) (F : Fr h₀ env.locals s.heap m₀) (N : News h₀ env.locals s.heap news₀)
    (i0 : (D0, listOf w0.toArray c0) ∈ news₀) (i1 : (D1, listOf w1.toArray c1) ∈ news₀) (i2 : (D2, listOf w2.toArray c2) ∈ news₀) (i3 : (D3, listOf w3.toArray c3) ∈ news₀) (iF : ∀ p ∈ ff, p ∈ news₀) (iO : ∀ p ∈ fo, p ∈ news₀) (hfo : OwnOff fo [D0, D1, D2, D3])
    (b0 : BytesAre w0 (g 0 0)) (b1 : BytesAre w1 (g 0 1)) (b2 : BytesAre w2 (g 0 2)) (b3 : BytesAre w3 (g 0 3))
    (turn : ∀ (i : Nat) (t : Tok) (u : Str → Option Value) (u0 u1 u2 u3 : List Value) (e0 e1 e2 e3 : Nat) (h : Heap) (tk : Nat) (own : List (Addr × Obj)), i < n → OwnOff own [D0, D1, D2, D3] → BytesAre u0 (g i 0) → BytesAre u1 (g i 1) → BytesAre u2 (g i 2) → BytesAre u3 (g i 3) →
      Fr h₀ env.locals h (mapN x n1 n2 n3 n4 n5 n6 (some (.int (a + (i : Int) * c) t)) u m₀) → News h₀ env.locals h ((D0, listOf u0.toArray e0) :: (D1, listOf u1.toArray e1) :: (D2, listOf u2.toArray e2) :: (D3, listOf u3.toArray e3) :: (ff ++ own)) →
      wpAny (model prog w) A (execs body env) (InvPostN h₀ env.locals (FourJ x n1 n2 n3 n4 n5 n6 m₀ D0 D1 D2 D3 ff (g (i + 1))) own (D0 :: D1 :: D2 :: D3 :: ff.map (·.1)) { s with heap := h, toks := tk } Q) E { s with heap := h, toks := tk })
    (done : ∀ (v : Option Value) (u : Str → Option Value) (u0 u1 u2 u3 : List Value) (e0 e1 e2 e3 : Nat) (h : Heap) (tk : Nat), BytesAre u0 (g n 0) → BytesAre u1 (g n 1) → BytesAre u2 (g n 2) → BytesAre u3 (g n 3) →
      Fr h₀ env.locals h (mapN x n1 n2 n3 n4 n5 n6 v u m₀) → News h₀ env.locals h ((D0, listOf u0.toArray e0) :: (D1, listOf u1.toArray e1) :: (D2, listOf u2.toArray e2) :: (D3, listOf u3.toArray e3) :: (ff ++ fo)) → Q .next { s with heap := h, toks := tk }) :
    wpAny (model prog w) A (pyIter (.ref r)) (fun it s₂ => LoopAtV prog w A h₀ env x body Q E it s₂) E s := by
  refine iter_four (ff ++ fo) n1 n2 n3 n4 n5 n6 g hh hr hsmall hn F N i0 i1 i2 i3 (fun p hp => (List.mem_append.mp hp).elim (iF p) (iO p)) b0 b1 b2 b3 ?_ done
  intro i t u u0 u1 u2 u3 e0 e1 e2 e3 h tk own hi hoff B0 B1 B2 B3 F₁ N₁
  rw [List.append_assoc] at N₁
  have hoff' : OwnOff (fo ++ own) [D0, D1, D2, D3] := fun p hp d hd =>
    (List.mem_append.mp hp).elim (fun hp => hfo p hp d hd) (fun hp => hoff p hp d (List.mem_append_left (List.map (fun x : Addr × Obj => x.1) (ff ++ fo)) hd))
  refine wpAny_mono (turn i t u u0 u1 u2 u3 e0 e1 e2 e3 h tk (fo ++ own) hi hoff' B0 B1 B2 B3 F₁ N₁) (fun f s₂ p => ?_) fun _ _ e => e
  have fin : InvEndN h₀ env.locals (FourJ x n1 n2 n3 n4 n5 n6 m₀ D0 D1 D2 D3 ff (g (i + 1))) (fo ++ own) (D0 :: D1 :: D2 :: D3 :: ff.map (·.1)) { s with heap := h, toks := tk } s₂ →
      InvEndN h₀ env.locals (FourJ x n1 n2 n3 n4 n5 n6 m₀ D0 D1 D2 D3 (ff ++ fo) (g (i + 1))) own (D0 :: D1 :: D2 :: D3 :: (ff ++ fo).map (·.1)) { s with heap := h, toks := tk } s₂ := by
    rintro ⟨h', tk', m', news', nx, e, F', N', hn', ho, ha, ⟨u0, u1, u2, u3, e0, e1, e2, e3, rfl, B⟩, hm'⟩
    exact ⟨h', tk', m', news', ((D0, listOf u0.toArray e0) :: (D1, listOf u1.toArray e1) :: (D2, listOf u2.toArray e2) :: (D3, listOf u3.toArray e3) :: ff) ++ fo, e, F', N', fun p hp => (List.mem_append.mp hp).elim (hn' p) (fun hp => ho p (List.mem_append.mpr (.inl hp))), fun p hp => ho p (List.mem_append.mpr (.inr hp)), rfl, ⟨u0, u1, u2, u3, e0, e1, e2, e3, rfl, B⟩, hm'⟩
  cases f with
  | ret v => exact p
  | brk => exact p
  | next => exact fin p
  | cont => exact fin p
noncomputable abbrev FourTurn (prog : Program) (w : World) (A : Around) (env : Env) (h₀ : Heap) (x : Str) (body : List Stmt) (Q : Flow → Shared → Prop) (E : Value → Shared → Prop) (s : Shared) (m₀ : Str → Option Value) (n1 n2 n3 n4 n5 n6 : Str) (a c : Int) (n : Nat) (D0 D1 D2 D3 : Addr) (ff : List (Addr × Obj)) (g : Nat → Nat → List (List UInt8)) : Prop :=
  ∀ (i : Nat) (t : Tok) (u : Str → Option Value) (u0 u1 u2 u3 : List Value) (e0 e1 e2 e3 : Nat) (h : Heap) (tk : Nat) (own : List (Addr × Obj)), i < n → OwnOff own [D0, D1, D2, D3] → BytesAre u0 (g i 0) → BytesAre u1 (g i 1) → BytesAre u2 (g i 2) → BytesAre u3 (g i 3) →
      Fr h₀ env.locals h (mapN x n1 n2 n3 n4 n5 n6 (some (.int (a + (i : Int) * c) t)) u m₀) → News h₀ env.locals h ((D0, listOf u0.toArray e0) :: (D1, listOf u1.toArray e1) :: (D2, listOf u2.toArray e2) :: (D3, listOf u3.toArray e3) :: (ff ++ own)) →
      wpAny (model prog w) A (execs body env) (InvPostN h₀ env.locals (FourJ x n1 n2 n3 n4 n5 n6 m₀ D0 D1 D2 D3 ff (g (i + 1))) own (D0 :: D1 :: D2 :: D3 :: ff.map (·.1)) { s with heap := h, toks := tk } Q) E { s with heap := h, toks := tk }
noncomputable abbrev FourDone (env : Env) (h₀ : Heap) (x : Str) (Q : Flow → Shared → Prop) (s : Shared) (m₀ : Str → Option Value) (n1 n2 n3 n4 n5 n6 : Str) (n : Nat) (D0 D1 D2 D3 : Addr) (ff : List (Addr × Obj)) (g : Nat → Nat → List (List UInt8)) : Prop :=
  ∀ (v : Option Value) (u : Str → Option Value) (u0 u1 u2 u3 : List Value) (e0 e1 e2 e3 : Nat) (h : Heap) (tk : Nat), BytesAre u0 (g n 0) → BytesAre u1 (g n 1) → BytesAre u2 (g n 2) → BytesAre u3 (g n 3) →
      Fr h₀ env.locals h (mapN x n1 n2 n3 n4 n5 n6 v u m₀) → News h₀ env.locals h ((D0, listOf u0.toArray e0) :: (D1, listOf u1.toArray e1) :: (D2, listOf u2.toArray e2) :: (D3, listOf u3.toArray e3) :: ff) → Q .next { s with heap := h, toks := tk }
theorem iter_four2 {r D0 D1 D2 D3 K H : Addr} {oK oH : Obj} {a b c : Int} {t₀ u₀ v₀ : Tok} {n : Nat} {w0 w1 w2 w3 : List Value} {c0 c1 c2 c3 : Nat} {news₀ : List (Addr × Obj)} (n1 n2 n3 n4 n5 n6 : Str) (g : Nat → Nat → List (List UInt8))
    (hh : A.handled = none) (hr : IsRange s.heap r a b c t₀ u₀ v₀) (hsmall : Builtin.Range.small a b c = true) (hn : Builtin.Range.rangeSize a b c = (n : Int)) (F : Fr h₀ env.locals s.heap m₀) (N : News h₀ env.locals s.heap news₀)
    (i0 : (D0, listOf w0.toArray c0) ∈ news₀) (i1 : (D1, listOf w1.toArray c1) ∈ news₀) (i2 : (D2, listOf w2.toArray c2) ∈ news₀) (i3 : (D3, listOf w3.toArray c3) ∈ news₀) (iK : (K, oK) ∈ news₀) (iH : (H, oH) ∈ news₀)
    (b0 : BytesAre w0 (g 0 0)) (b1 : BytesAre w1 (g 0 1)) (b2 : BytesAre w2 (g 0 2)) (b3 : BytesAre w3 (g 0 3))
    (turn : FourTurn prog w A env h₀ x body Q E s m₀ n1 n2 n3 n4 n5 n6 a c n D0 D1 D2 D3 [(K, oK), (H, oH)] g)
    (done : FourDone env h₀ x Q s m₀ n1 n2 n3 n4 n5 n6 n D0 D1 D2 D3 [(K, oK), (H, oH)] g) :
    wpAny (model prog w) A (pyIter (.ref r)) (fun it s₂ => LoopAtV prog w A h₀ env x body Q E it s₂) E s :=
  iter_fourF [(K, oK), (H, oH)] [] n1 n2 n3 n4 n5 n6 g hh hr hsmall hn F N i0 i1 i2 i3 (fun p hp => by
    simp only [List.mem_cons, List.not_mem_nil, or_false] at hp
    rcases hp with rfl | rfl
    · exact iK
    · exact iH) (fun p hp => nomatch hp) (fun p hp => nomatch hp) b0 b1 b2 b3 turn done
theorem iter_four3 {r D0 D1 D2 D3 S K H : Addr} {oS oK oH : Obj} {a b c : Int} {t₀ u₀ v₀ : Tok} {n : Nat} {w0 w1 w2 w3 : List Value} {c0 c1 c2 c3 : Nat} {news₀ : List (Addr × Obj)} (fo : List (Addr × Obj)) (n1 n2 n3 n4 n5 n6 : Str) (g : Nat → Nat → List (List UInt8))
    (hh : A.handled = none) (hr : IsRange s.heap r a b c t₀ u₀ v₀) (hsmall : Builtin.Range.small a b c = true) (hn : Builtin.Range.rangeSize a b c = (n : Int)) (F : Fr h₀ env.locals s.heap m₀) (N : News h₀ env.locals s.heap news₀)
    (i0 : (D0, listOf w0.toArray c0) ∈ news₀) (i1 : (D1, listOf w1.toArray c1) ∈ news₀) (i2 : (D2, listOf w2.toArray c2) ∈ news₀) (i3 : (D3, listOf w3.toArray c3) ∈ news₀) (iS : (S, oS) ∈ news₀) (iK : (K, oK) ∈ news₀) (iH : (H, oH) ∈ news₀) (iO : ∀ p ∈ fo, p ∈ news₀) (hfo : OwnOff fo [D0, D1, D2, D3])
    (b0 : BytesAre w0 (g 0 0)) (b1 : BytesAre w1 (g 0 1)) (b2 : BytesAre w2 (g 0 2)) (b3 : BytesAre w3 (g 0 3))
    (turn : FourTurn prog w A env h₀ x body Q E s m₀ n1 n2 n3 n4 n5 n6 a c n D0 D1 D2 D3 [(S, oS), (K, oK), (H, oH)] g)
    (done : FourDone env h₀ x Q s m₀ n1 n2 n3 n4 n5 n6 n D0 D1 D2 D3 ((S, oS) :: (K, oK) :: (H, oH) :: fo) g) :
    wpAny (model prog w) A (pyIter (.ref r)) (fun it s₂ => LoopAtV prog w A h₀ env x body Q E it s₂) E s :=
  iter_fourF [(S, oS), (K, oK), (H, oH)] fo n1 n2 n3 n4 n5 n6 g hh hr hsmall hn F N i0 i1 i2 i3 (fun p hp => by
    simp only [List.mem_cons, List.not_mem_nil, or_false] at hp
    rcases hp with rfl | rfl | rfl
    · exact iS
    · exact iK
    · exact iH) iO hfo b0 b1 b2 b3 turn done
theorem four_end {L : Addr} {n1 n2 n3 n4 n5 n6 : Str} {m' : Str → Option Value} {D0 D1 D2 D3 : Addr} {fixed own news' : List (Addr × Obj)} {i0 i1 i2 i3 : Array Value} {e0 e1 e2 e3 : Nat} {g : Nat → List (List UInt8)} {s₁ : Shared} {h' : Heap} {tk' : Nat} {f : Flow}
    (F : Fr h₀ L h' m') (N : News h₀ L h' news') (j0 : (D0, listOf i0 e0) ∈ news') (j1 : (D1, listOf i1 e1) ∈ news') (j2 : (D2, listOf i2 e2) ∈ news') (j3 : (D3, listOf i3 e3) ∈ news') (jF : ∀ p ∈ fixed, p ∈ news') (jo : ∀ p ∈ own, p ∈ news')
    (hm : offN x n1 n2 n3 n4 n5 n6 m' m₀) (b0 : BytesAre i0.toList (g 0)) (b1 : BytesAre i1.toList (g 1)) (b2 : BytesAre i2.toList (g 2)) (b3 : BytesAre i3.toList (g 3)) (hf : f = .next ∨ f = .cont) :
    InvPostN h₀ L (FourJ x n1 n2 n3 n4 n5 n6 m₀ D0 D1 D2 D3 fixed g) own (D0 :: D1 :: D2 :: D3 :: fixed.map (·.1)) s₁ Q f { s₁ with heap := h', toks := tk' } := by
  have key : InvEndN h₀ L (FourJ x n1 n2 n3 n4 n5 n6 m₀ D0 D1 D2 D3 fixed g) own (D0 :: D1 :: D2 :: D3 :: fixed.map (·.1)) s₁ { s₁ with heap := h', toks := tk' } := by
    refine ⟨h', tk', m', news', (D0, listOf i0 e0) :: (D1, listOf i1 e1) :: (D2, listOf i2 e2) :: (D3, listOf i3 e3) :: fixed, rfl, F, N, ?_, jo, rfl, ⟨i0.toList, i1.toList, i2.toList, i3.toList, e0, e1, e2, e3, by simp only [Array.toArray_toList], b0, b1, b2, b3⟩, hm⟩
    intro p hp
    simp only [List.mem_cons] at hp
    rcases hp with rfl | rfl | rfl | rfl | hp
    · exact j0
    · exact j1
    · exact j2
    · exact j3
    · exact jF p hp
  rcases hf with rfl | rfl <;> exact key
theorem four_endE {L : Addr} {n1 n2 n3 n4 n5 n6 : Str} {m' : Str → Option Value} {D0 D1 D2 D3 : Addr} {fixed own news' : List (Addr × Obj)} {i0 i1 i2 i3 : Array Value} {e0 e1 e2 e3 : Nat} {g : Nat → List (List UInt8)} {s₁ : Shared} {h' : Heap} {tk' : Nat}
    (F : Fr h₀ L h' m') (N : News h₀ L h' news') (j0 : (D0, listOf i0 e0) ∈ news') (j1 : (D1, listOf i1 e1) ∈ news') (j2 : (D2, listOf i2 e2) ∈ news') (j3 : (D3, listOf i3 e3) ∈ news') (jF : ∀ p ∈ fixed, p ∈ news') (jo : ∀ p ∈ own, p ∈ news')
    (hm : offN x n1 n2 n3 n4 n5 n6 m' m₀) (b0 : BytesAre i0.toList (g 0)) (b1 : BytesAre i1.toList (g 1)) (b2 : BytesAre i2.toList (g 2)) (b3 : BytesAre i3.toList (g 3)) :
    InvEndN h₀ L (FourJ x n1 n2 n3 n4 n5 n6 m₀ D0 D1 D2 D3 fixed g) own (D0 :: D1 :: D2 :: D3 :: fixed.map (·.1)) s₁ { s₁ with heap := h', toks := tk' } :=
  four_end (Q := fun _ _ => True) (f := .next) F N j0 j1 j2 j3 jF jo hm b0 b1 b2 b3 (.inl rfl)
end
noncomputable def BoolCut (h₀ : Heap) (L : Addr) (m : Str → Option Value) (news : List (Addr × Obj)) (s : Shared) (X : Bool) (v : Value) (s' : Shared) : Prop := v = .bool X ∧ ∃ h tk, s' = { s with heap := h, toks := tk } ∧ Fr h₀ L h m ∧ News h₀ L h news
noncomputable def BytesCut (h₀ : Heap) (L : Addr) (m : Str → Option Value) (news : List (Addr × Obj)) (s : Shared) (X : List UInt8) (v : Value) (s' : Shared) : Prop := ∃ t h tk, v = .bytes X.toArray t ∧ s' = { s with heap := h, toks := tk } ∧ Fr h₀ L h m ∧ News h₀ L h news
section
variable {M : Model} {A : Around} {E : Value → Shared → Prop} {s : Shared} {h₀ : Heap} {L : Addr} {m : Str → Option Value} {news : List (Addr × Obj)} {e : Sem Value} {Q : Value → Shared → Prop}
theorem bool_cut (F : Fr h₀ L s.heap m) (N : News h₀ L s.heap news) (X : Bool) (h1 : wpAny M A e (BoolCut h₀ L m news s X) E s) (h2 : ∀ h tk, Fr h₀ L h m → News h₀ L h news → Q (.bool X) { s with heap := h, toks := tk }) : wpAny M A e Q E s :=
  wpAny_mono h1 (fun v s' c => by obtain ⟨rfl, h, tk, rfl, F, N⟩ := c; exact h2 h tk F N) fun _ _ x => x
theorem bytes_cut (F : Fr h₀ L s.heap m) (N : News h₀ L s.heap news) (X : List UInt8) (h1 : wpAny M A e (BytesCut h₀ L m news s X) E s) (h2 : ∀ t h tk, Fr h₀ L h m → News h₀ L h news → Q (.bytes X.toArray t) { s with heap := h, toks := tk }) : wpAny M A e Q E s :=
  wpAny_mono h1 (fun v s' c => by obtain ⟨t, h, tk, rfl, rfl, F, N⟩ := c; exact h2 t h tk F N) fun _ _ x => x
theorem BoolCut.intro {h : Heap} {tk : Nat} {X Y : Bool} (F : Fr h₀ L h m) (N : News h₀ L h news) (e : Y = X) : BoolCut h₀ L m news s X (.bool Y) { s with heap := h, toks := tk } := ⟨by rw [e], h, tk, rfl, F, N⟩
theorem BytesCut.intro {h : Heap} {tk : Nat} {X Y : List UInt8} {t : Tok} (F : Fr h₀ L h m) (N : News h₀ L h news) (e : X = Y) : BytesCut h₀ L m news s X (.bytes Y.toArray t) { s with heap := h, toks := tk } := ⟨t, h, tk, by rw [e], rfl, F, N⟩
end
section
variable {prog : Program} {w : World} {A : Around} {E : Value → Shared → Prop} {s : Shared}
end
theorem four_of_lt {n : Nat} : n < 4 → n = 0 ∨ n = 1 ∨ n = 2 ∨ n = 3
  | h => match n, h with
    | 0, _ => .inl rfl
    | 1, _ => .inr (.inl rfl)
    | 2, _ => .inr (.inr (.inl rfl))
    | 3, _ => .inr (.inr (.inr rfl))
section
variable {prog : Program} {w : World} {A : Around} {E : Value → Shared → Prop} {s : Shared} {h₀ : Heap} {L : Addr} {m : Str → Option Value}
theorem item_bool {value slice : PySem.Expr} {l : Addr} {bs : List Bool} {k : Int} {u : Tok} {Q : Value → Shared → Prop} (hl : s.heap.IsList l (bs.map Value.bool).toArray) (h0 : 0 ≤ k) (h1 : k < (bs.length : Int)) (hz : bs.length ≤ 1000)
    (h : Q (.bool (bs.getD k.toNat false)) s)
    (hs : subscripted slice false (.ref l) (.int k u) = operate [.ref l, .int k u] (getItem (.ref l) (.int k u)) := by with_unfolding_all rfl) :
    wpAny (model prog w) A (subscriptTail value slice (.ref l) (.int k u)) Q E s := by
  refine tail_any hl.typeIs slot_list_getitem.lookup (wpAny_getItem_list hl h0 (by omega) ?_ h) hs
  have h2 : k.toNat < bs.length := by omega
  rw [List.getElem?_toArray, List.getElem?_map, List.getD_eq_getElem?_getD, List.getElem?_eq_getElem h2]
  rfl
theorem item_four {value slice : PySem.Expr} {l D0 D1 D2 D3 : Addr} {k : Int} {j : Nat} {u : Tok} {Q : Value → Shared → Prop} (hl : s.heap.IsList l #[.ref D0, .ref D1, .ref D2, .ref D3]) (hk : k = (j : Int)) (hj : j < 4)
    (q0 : j = 0 → Q (.ref D0) s) (q1 : j = 1 → Q (.ref D1) s) (q2 : j = 2 → Q (.ref D2) s) (q3 : j = 3 → Q (.ref D3) s)
    (hs : subscripted slice false (.ref l) (.int k u) = operate [.ref l, .int k u] (getItem (.ref l) (.int k u)) := by with_unfolding_all rfl) :
    wpAny (model prog w) A (subscriptTail value slice (.ref l) (.int k u)) Q E s := by
  subst hk
  obtain rfl | rfl | rfl | rfl := four_of_lt hj
  · exact tail_any hl.typeIs slot_list_getitem.lookup (wpAny_getItem_list hl (by omega) (by omega) rfl (q0 rfl)) hs
  · exact tail_any hl.typeIs slot_list_getitem.lookup (wpAny_getItem_list hl (by omega) (by omega) rfl (q1 rfl)) hs
  · exact tail_any hl.typeIs slot_list_getitem.lookup (wpAny_getItem_list hl (by omega) (by omega) rfl (q2 rfl)) hs
  · exact tail_any hl.typeIs slot_list_getitem.lookup (wpAny_getItem_list hl (by omega) (by omega) rfl (q3 rfl)) hs
theorem app_in {pre post : List (Addr × Obj)} {D : Addr} {us : List Value} {n : Nat} {x : Value} {Q : Value → Shared → Prop} (F : Fr h₀ L s.heap m) (N : News h₀ L s.heap (pre ++ (D, listOf us.toArray n) :: post)) (a : ∀ p ∈ pre, p.1 ≠ D) (b : ∀ p ∈ post, p.1 ≠ D) (hz : us.length ≤ 1000000)
    (h : ∀ h', Fr h₀ L h' m → News h₀ L h' (pre ++ (D, listOf (us.toArray.push x) (n + 1)) :: post) → Q .none { s with heap := h' }) : wpAny (model prog w) A (call (.builtin "list.append") [.ref D, x]) Q E s := by
  have z := N (D, listOf us.toArray n) (List.mem_append.mpr (.inr (.head _)))
  exact append_at (hsz := by rw [sizeLine_eq, List.size_toArray]; omega) z.1 fun h' hs ho' => h h' (F.change hs z.2.1 z.2.2) (news_set N a b hs ho')
theorem news_one {h : Heap} {D : Addr} {o : Obj} {news : List (Addr × Obj)} (N : News h₀ L h news) (hm : (D, o) ∈ news) : News h₀ L h [(D, o)] := fun x hx => N x (by rw [List.mem_singleton.mp hx]; exact hm)
structure Chain (D0 D1 D2 D3 S K H : Addr) : Prop where
  h0 : @LT.lt Nat _ H D0
  h1 : @LT.lt Nat _ D0 D1
  h2 : @LT.lt Nat _ D1 D2
  h3 : @LT.lt Nat _ D2 D3
  h4 : @LT.lt Nat _ D3 K
  h5 : @LT.lt Nat _ K S
theorem chain_of {g h : Heap} {D0 D1 D2 D3 S K H : Addr} {o0 o1 o2 o3 oS oK oH : Obj} {own : List (Addr × Obj)} (N : News g L h ((D0, o0) :: (D1, o1) :: (D2, o2) :: (D3, o3) :: (S, oS) :: (K, oK) :: (H, oH) :: own))
    (h0 : @LT.lt Nat _ H D0) (h1 : @LT.lt Nat _ D0 D1) (h2 : @LT.lt Nat _ D1 D2) (h3 : @LT.lt Nat _ D2 D3) (h4 : @LT.lt Nat _ D3 K) (h5 : @LT.lt Nat _ K S) : Chain D0 D1 D2 D3 S K H := ⟨h0, h1, h2, h3, h4, h5⟩
section
variable {D0 D1 D2 D3 S K H : Addr} {o0 o1 o2 o3 oS oK oH : Obj} {own : List (Addr × Obj)} {us : List Value} {n : Nat} {x : Value} {Q : Value → Shared → Prop}
theorem app_0 (hc : Chain D0 D1 D2 D3 S K H) (hoff : OwnOff own [D0, D1, D2, D3]) (F : Fr h₀ L s.heap m) (N : News h₀ L s.heap ((D0, listOf us.toArray n) :: (D1, o1) :: (D2, o2) :: (D3, o3) :: (S, oS) :: (K, oK) :: (H, oH) :: own)) (hz : us.length ≤ 1000000)
    (h : ∀ h', Fr h₀ L h' m → News h₀ L h' ((D0, listOf (us.toArray.push x) (n + 1)) :: (D1, o1) :: (D2, o2) :: (D3, o3) :: (S, oS) :: (K, oK) :: (H, oH) :: own) → Q .none { s with heap := h' }) : wpAny (model prog w) A (call (.builtin "list.append") [.ref D0, x]) Q E s := by
  obtain ⟨a0, a1, a2, a3, a4, a5⟩ := hc
  refine app_in (pre := []) (post := (D1, o1) :: (D2, o2) :: (D3, o3) :: (S, oS) :: (K, oK) :: (H, oH) :: own) F N ?_ ?_ hz h
  · exact fun p hp => nomatch hp
  · simp only [List.forall_mem_cons]
    refine ⟨?_, ?_, ?_, ?_, ?_, ?_, hoff.ne (by simp)⟩ <;> (refine neN ?_; omega)
theorem app_1 (hc : Chain D0 D1 D2 D3 S K H) (hoff : OwnOff own [D0, D1, D2, D3]) (F : Fr h₀ L s.heap m) (N : News h₀ L s.heap ((D0, o0) :: (D1, listOf us.toArray n) :: (D2, o2) :: (D3, o3) :: (S, oS) :: (K, oK) :: (H, oH) :: own)) (hz : us.length ≤ 1000000)
    (h : ∀ h', Fr h₀ L h' m → News h₀ L h' ((D0, o0) :: (D1, listOf (us.toArray.push x) (n + 1)) :: (D2, o2) :: (D3, o3) :: (S, oS) :: (K, oK) :: (H, oH) :: own) → Q .none { s with heap := h' }) : wpAny (model prog w) A (call (.builtin "list.append") [.ref D1, x]) Q E s := by
  obtain ⟨a0, a1, a2, a3, a4, a5⟩ := hc
  refine app_in (pre := [(D0, o0)]) (post := (D2, o2) :: (D3, o3) :: (S, oS) :: (K, oK) :: (H, oH) :: own) F N ?_ ?_ hz h
  · simp only [List.forall_mem_cons]
    exact ⟨by refine neN ?_; omega, fun p hp => nomatch hp⟩
  · simp only [List.forall_mem_cons]
    refine ⟨?_, ?_, ?_, ?_, ?_, hoff.ne (by simp)⟩ <;> (refine neN ?_; omega)
theorem app_2 (hc : Chain D0 D1 D2 D3 S K H) (hoff : OwnOff own [D0, D1, D2, D3]) (F : Fr h₀ L s.heap m) (N : News h₀ L s.heap ((D0, o0) :: (D1, o1) :: (D2, listOf us.toArray n) :: (D3, o3) :: (S, oS) :: (K, oK) :: (H, oH) :: own)) (hz : us.length ≤ 1000000)
    (h : ∀ h', Fr h₀ L h' m → News h₀ L h' ((D0, o0) :: (D1, o1) :: (D2, listOf (us.toArray.push x) (n + 1)) :: (D3, o3) :: (S, oS) :: (K, oK) :: (H, oH) :: own) → Q .none { s with heap := h' }) : wpAny (model prog w) A (call (.builtin "list.append") [.ref D2, x]) Q E s := by
  obtain ⟨a0, a1, a2, a3, a4, a5⟩ := hc
  refine app_in (pre := [(D0, o0), (D1, o1)]) (post := (D3, o3) :: (S, oS) :: (K, oK) :: (H, oH) :: own) F N ?_ ?_ hz h
  · simp only [List.forall_mem_cons]
    exact ⟨by refine neN ?_; omega, by refine neN ?_; omega, fun p hp => nomatch hp⟩
  · simp only [List.forall_mem_cons]
    refine ⟨?_, ?_, ?_, ?_, hoff.ne (by simp)⟩ <;> (refine neN ?_; omega)
theorem app_3 (hc : Chain D0 D1 D2 D3 S K H) (hoff : OwnOff own [D0, D1, D2, D3]) (F : Fr h₀ L s.heap m) (N : News h₀ L s.heap ((D0, o0) :: (D1, o1) :: (D2, o2) :: (D3, listOf us.toArray n) :: (S, oS) :: (K, oK) :: (H, oH) :: own)) (hz : us.length ≤ 1000000)
    (h : ∀ h', Fr h₀ L h' m → News h₀ L h' ((D0, o0) :: (D1, o1) :: (D2, o2) :: (D3, listOf (us.toArray.push x) (n + 1)) :: (S, oS) :: (K, oK) :: (H, oH) :: own) → Q .none { s with heap := h' }) : wpAny (model prog w) A (call (.builtin "list.append") [.ref D3, x]) Q E s := by
  obtain ⟨a0, a1, a2, a3, a4, a5⟩ := hc
  refine app_in (pre := [(D0, o0), (D1, o1), (D2, o2)]) (post := (S, oS) :: (K, oK) :: (H, oH) :: own) F N ?_ ?_ hz h
  · simp only [List.forall_mem_cons]
    exact ⟨by refine neN ?_; omega, by refine neN ?_; omega, by refine neN ?_; omega, fun p hp => nomatch hp⟩
  · simp only [List.forall_mem_cons]
    refine ⟨?_, ?_, ?_, hoff.ne (by simp)⟩ <;> (refine neN ?_; omega)
end
end
noncomputable def StayCut (h₀ : Heap) (L : Addr) (x ns n1 n2 n3 n4 n5 n6 : Str) (v : Option Value) (m₀ : Str → Option Value) (K : Addr) (news : List (Addr × Obj)) (s : Shared) (bs : List Bool) (f : Flow) (s' : Shared) : Prop :=
  f = .next ∧ ∃ h tk S u, s' = { s with heap := h, toks := tk } ∧ Fr h₀ L h (fun y => if y = ns then some (.ref S) else mapN x n1 n2 n3 n4 n5 n6 v u m₀ y) ∧ News h₀ L h ((S, listOf (bs.map Value.bool).toArray 0) :: news) ∧ @LT.lt Nat _ K S
section
variable {M : Model} {A : Around} {E : Value → Shared → Prop} {s : Shared} {h₀ : Heap} {L : Addr} {x ns n1 n2 n3 n4 n5 n6 : Str} {v : Option Value} {m₀ : Str → Option Value} {K : Addr} {news : List (Addr × Obj)} {e : Sem Flow} {Q : Flow → Shared → Prop}
structure HidF (p : Prop) : Prop where
  out : p
theorem stay_cut {L₂ : Addr} {h₂ : Heap} {u₂ : Str → Option Value} (hid : HidF (Fr h₀ L₂ h₂ (mapN x n1 n2 n3 n4 n5 n6 v u₂ m₀))) {q0 q1 q2 q3 : Addr × Obj} {oK : Obj} {rest : List (Addr × Obj)} (hidN : HidF (News h₀ L₂ h₂ (q0 :: q1 :: q2 :: q3 :: (K, oK) :: rest))) (ns : Str) (bs : List Bool) (N : News h₀ L s.heap news) (h1 : wpAny M A e (StayCut h₀ L x ns n1 n2 n3 n4 n5 n6 v m₀ K news s bs) E s)
    (h2 : ∀ h tk S u, Fr h₀ L h (fun y => if y = ns then some (.ref S) else mapN x n1 n2 n3 n4 n5 n6 v u m₀ y) → News h₀ L h ((S, listOf (bs.map Value.bool).toArray 0) :: news) → @LT.lt Nat _ K S → Q .next { s with heap := h, toks := tk }) : wpAny M A e Q E s :=
  wpAny_mono h1 (fun f s' c => by obtain ⟨rfl, h, tk, S, u, rfl, F, N, z⟩ := c; exact h2 h tk S u F N z) fun _ _ x => x
theorem StayCut.intro {h : Heap} {tk : Nat} {S : Addr} {bs bs' : List Bool} {M5 : Str → Option Value} (F : Fr h₀ L h M5) (N : News h₀ L h ((S, listOf (bs'.map Value.bool).toArray 0) :: news)) (z : @LT.lt Nat _ K S) (e : bs' = bs) (hx : M5 x = v) (hn : M5 ns = some (.ref S)) (hm : offN x n1 n2 n3 n4 n5 n6 M5 m₀) :
    StayCut h₀ L x ns n1 n2 n3 n4 n5 n6 v m₀ K news s bs .next { s with heap := h, toks := tk } := by
  subst e
  refine ⟨rfl, h, tk, S, M5, rfl, ?_, N, z⟩
  have e : M5 = fun y => if y = ns then some (.ref S) else mapN x n1 n2 n3 n4 n5 n6 v M5 m₀ y := by
    subst hx
    funext y
    by_cases h : y = ns
    · rw [if_pos h, h]; exact hn
    · rw [if_neg h]; exact congrFun (mapN_done hm) y
  rw [← e]; exact F
end
theorem split_no {c : UInt8} : ∀ {q : List UInt8}, c ∉ q → splitL c q = [q]
  | [], _ => rfl
  | x :: q, h => by
    have hx : x ≠ c := fun e => h (e ▸ .head _)
    rw [splitL, if_neg hx, split_no fun m => h (.tail _ m)]
theorem split_app1 {c : UInt8} : ∀ {q : List UInt8} (r : List UInt8), c ∉ q → splitL c (q ++ c :: r) = q :: splitL c r
  | [], r, _ => by show splitL c (c :: r) = _; rw [splitL, if_pos rfl]
  | x :: q, r, h => by
    have hx : x ≠ c := fun e => h (e ▸ .head _)
    rw [List.cons_append, splitL, if_neg hx, split_app1 r fun m => h (.tail _ m)]
theorem split_join {c : UInt8} : ∀ {ps : List (List UInt8)}, ps ≠ [] → (∀ q ∈ ps, c ∉ q) → splitL c (joinL [c] ps) = ps
  | [], h, _ => absurd rfl h
  | [p], _, h => split_no (h p (.head _))
  | p :: q :: r, _, h => by
    rw [joinL, List.append_assoc, List.singleton_append, split_app1 _ (h p (.head _)), split_join (by simp) fun x hx => h x (.tail _ hx)]
noncomputable def skips (q : List UInt8) : Bool := decide (q = [] ∨ q = [46])
theorem fold_skip (r : List UInt8) : ∀ (ps : List (List UInt8)) (a : List (List UInt8)), ps.foldl (normStep r) a = (ps.filter fun q => !skips q).foldl (normStep r) a
  | [], a => rfl
  | p :: ps, a => by
    rw [List.foldl_cons, List.filter_cons]
    by_cases h : skips p = true
    · have h' : p = [] ∨ p = [46] := by simpa [skips] using h
      have e : normStep r a p = a := by unfold normStep; rw [if_pos h']
      rw [e, h, fold_skip r ps a]; rfl
    · rw [Bool.not_eq_true] at h
      rw [h, fold_skip r ps]; rfl
theorem norm_skip (r : List UInt8) (a : List (List UInt8)) : normStep r a [] = a := by simp [normStep]
theorem join_cons (c : UInt8) (p : List UInt8) {ps : List (List UInt8)} (h : ps ≠ []) : joinL [c] (p :: ps) = p ++ c :: joinL [c] ps := by
  cases ps with
  | nil => exact absurd rfl h
  | cons q r => rw [joinL, List.append_assoc]; rfl
theorem cutL_take {α : Type} (l : List α) (k : Nat) : cutL l none (some (k : Int)) = l.take k := by
  unfold cutL
  show (l.drop 0).take (clipAt l.length k - 0) = _
  rw [clipAt_nat, List.drop_zero, Nat.sub_zero, ← List.take_eq_take_min]
theorem cutL_drop {α : Type} (l : List α) (k : Nat) : cutL l (some (k : Int)) none = l.drop k := by
  unfold cutL
  show (l.drop (clipAt l.length k)).take (l.length - clipAt l.length k) = _
  rw [clipAt_nat]
  by_cases h : k ≤ l.length
  · have : min k l.length = k := by omega
    rw [this, List.take_of_length_le (by simp)]
  · have : min k l.length = l.length := by omega
    rw [this, List.drop_of_length_le (by omega), List.drop_of_length_le (by omega)]; simp
theorem cutL_mid {α : Type} (l : List α) (a b : Nat) : cutL l (some (a : Int)) (some (b : Int)) = (l.take b).drop a := by
  unfold cutL
  show (l.drop (clipAt l.length a)).take (clipAt l.length b - clipAt l.length a) = _
  rw [clipAt_nat, clipAt_nat, List.drop_take]
  by_cases h : a ≤ l.length
  · have e1 : min a l.length = a := by omega
    rw [e1]
    by_cases h2 : b ≤ l.length
    · have e2 : min b l.length = b := by omega
      rw [e2]
    · have e2 : min b l.length = l.length := by omega
      rw [e2, List.take_of_length_le (by simp), List.take_of_length_le (by simp; omega)]
  · have e1 : min a l.length = l.length := by omega
    rw [e1, List.drop_of_length_le (Nat.le_refl _), List.drop_of_length_le (by omega)]; simp
theorem rootB_eq (p : List UInt8) : rootB p = if p.take 1 ≠ [47] then [] else if (p.take 2).drop 1 ≠ [47] ∨ (p.take 3).drop 2 = [47] then [47] else p.take 2 := by
  unfold rootB
  rw [show (1 : Int) = ((1 : Nat) : Int) from rfl, show (2 : Int) = ((2 : Nat) : Int) from rfl, show (3 : Int) = ((3 : Nat) : Int) from rfl, cutL_take, cutL_mid, cutL_mid, cutL_take]
theorem restB_eq (p : List UInt8) : restB p = if p.take 1 ≠ [47] then p else if (p.take 2).drop 1 ≠ [47] ∨ (p.take 3).drop 2 = [47] then p.drop 1 else p.drop 2 := by
  unfold restB
  rw [show (1 : Int) = ((1 : Nat) : Int) from rfl, show (2 : Int) = ((2 : Nat) : Int) from rfl, show (3 : Int) = ((3 : Nat) : Int) from rfl, cutL_take, cutL_mid, cutL_mid, cutL_drop, cutL_drop]
theorem root_join {ps : List (List UInt8)} (hne : ps ≠ []) (h47 : ∀ q ∈ ps, 47 ∉ q) (hok : (∃ q ∈ ps, q ≠ []) ∨ 4 ≤ ps.length) :
    rootB (joinL [47] ps) = lawRoot ps ∧ ∀ a, (splitL 47 (restB (joinL [47] ps))).foldl (normStep (lawRoot ps)) a = ps.foldl (normStep (lawRoot ps)) a := by
  rw [rootB_eq, restB_eq]
  cases ps with
  | nil => exact absurd rfl hne
  | cons p ps =>
    by_cases hp : p = []
    · subst hp
      cases ps with
      | nil =>
        rcases hok with ⟨q, hq, hq'⟩ | h
        · exact absurd (List.mem_singleton.mp hq) hq'
        · simp at h
      | cons q ps =>
        have e1 : joinL [47] ([] :: q :: ps) = 47 :: joinL [47] (q :: ps) := by rw [join_cons 47 [] (by simp)]; rfl
        have h47' : ∀ x ∈ q :: ps, 47 ∉ x := fun x hx => h47 x (.tail _ hx)
        rw [e1]
        by_cases hq : q = []
        · subst hq
          cases ps with
          | nil =>
            rcases hok with ⟨q, hq, hq'⟩ | h
            · simp at hq; exact absurd hq hq'
            · simp at h
          | cons r ps =>
            have e2 : joinL [47] ([] :: r :: ps) = 47 :: joinL [47] (r :: ps) := by rw [join_cons 47 [] (by simp)]; rfl
            have h47'' : ∀ x ∈ r :: ps, 47 ∉ x := fun x hx => h47' x (.tail _ hx)
            rw [e2]
            by_cases hr : r = []
            · subst hr
              cases ps with
              | nil =>
                rcases hok with ⟨q, hq, hq'⟩ | h
                · simp at hq; exact absurd hq hq'
                · simp at h
              | cons t ps =>
                have e3 : joinL [47] ([] :: t :: ps) = 47 :: joinL [47] (t :: ps) := by rw [join_cons 47 [] (by simp)]; rfl
                have hl : lawRoot ([] :: [] :: [] :: t :: ps) = [47] := by
                  unfold lawRoot
                  simp [leadN]
                rw [e3, hl]
                refine ⟨by simp, fun a => ?_⟩
                have : (if List.take 1 (47 :: 47 :: 47 :: joinL [47] (t :: ps)) ≠ [47] then 47 :: 47 :: 47 :: joinL [47] (t :: ps) else if List.drop 1 (List.take 2 (47 :: 47 :: 47 :: joinL [47] (t :: ps))) ≠ [47] ∨ List.drop 2 (List.take 3 (47 :: 47 :: 47 :: joinL [47] (t :: ps))) = [47] then List.drop 1 (47 :: 47 :: 47 :: joinL [47] (t :: ps)) else List.drop 2 (47 :: 47 :: 47 :: joinL [47] (t :: ps))) = joinL [47] ([] :: [] :: t :: ps) := by
                  rw [e2, e3]; simp
                rw [this, split_join (by simp) h47', List.foldl_cons (l := [] :: [] :: t :: ps), norm_skip]
            · have hl : lawRoot ([] :: [] :: r :: ps) = [47, 47] := by
                unfold lawRoot
                simp [leadN, hr]
              obtain ⟨x, r', hxr⟩ : ∃ x r', r = x :: r' := by
                cases r with
                | nil => exact absurd rfl hr
                | cons x r' => exact ⟨x, r', rfl⟩
              have hx : x ≠ 47 := fun e => h47'' r (.head _) (by rw [hxr, e]; exact .head _)
              obtain ⟨y, hy⟩ : ∃ y, joinL [47] (r :: ps) = x :: y := by
                rw [joinL_eq, hxr]; exact ⟨_, rfl⟩
              rw [hl]
              refine ⟨by rw [hy]; simp [hx], fun a => ?_⟩
              have : (if List.take 1 (47 :: 47 :: joinL [47] (r :: ps)) ≠ [47] then 47 :: 47 :: joinL [47] (r :: ps) else if List.drop 1 (List.take 2 (47 :: 47 :: joinL [47] (r :: ps))) ≠ [47] ∨ List.drop 2 (List.take 3 (47 :: 47 :: joinL [47] (r :: ps))) = [47] then List.drop 1 (47 :: 47 :: joinL [47] (r :: ps)) else List.drop 2 (47 :: 47 :: joinL [47] (r :: ps))) = joinL [47] (r :: ps) := by
                rw [hy]; simp [hx]
              rw [this, split_join (by simp) h47'', List.foldl_cons (l := [] :: r :: ps), norm_skip, List.foldl_cons (l := r :: ps), norm_skip]
        · have hl : lawRoot ([] :: q :: ps) = [47] := by
            unfold lawRoot
            simp [leadN, hq]
          obtain ⟨x, r', hxr⟩ : ∃ x r', q = x :: r' := by
            cases q with
            | nil => exact absurd rfl hq
            | cons x r' => exact ⟨x, r', rfl⟩
          have hx : x ≠ 47 := fun e => h47' q (.head _) (by rw [hxr, e]; exact .head _)
          obtain ⟨y, hy⟩ : ∃ y, joinL [47] (q :: ps) = x :: y := by
            rw [joinL_eq, hxr]; exact ⟨_, rfl⟩
          rw [hl]
          refine ⟨by rw [hy]; simp [hx], fun a => ?_⟩
          have : (if List.take 1 (47 :: joinL [47] (q :: ps)) ≠ [47] then 47 :: joinL [47] (q :: ps) else if List.drop 1 (List.take 2 (47 :: joinL [47] (q :: ps))) ≠ [47] ∨ List.drop 2 (List.take 3 (47 :: joinL [47] (q :: ps))) = [47] then List.drop 1 (47 :: joinL [47] (q :: ps)) else List.drop 2 (47 :: joinL [47] (q :: ps))) = joinL [47] (q :: ps) := by
            rw [hy]; simp [hx]
          rw [this, split_join (by simp) h47', List.foldl_cons (l := q :: ps), norm_skip]
    · have hl : lawRoot (p :: ps) = [] := by
        unfold lawRoot
        simp [leadN, hp]
      obtain ⟨x, r', hxr⟩ : ∃ x r', p = x :: r' := by
        cases p with
        | nil => exact absurd rfl hp
        | cons x r' => exact ⟨x, r', rfl⟩
      have hx : x ≠ 47 := fun e => h47 p (.head _) (by rw [hxr, e]; exact .head _)
      obtain ⟨y, hy⟩ : ∃ y, joinL [47] (p :: ps) = x :: y := by
        rw [joinL_eq, hxr]; exact ⟨_, rfl⟩
      rw [hl]
      have hc : (joinL [47] (p :: ps)).take 1 ≠ [47] := by rw [hy]; simp [hx]
      refine ⟨if_pos hc, fun a => ?_⟩
      rw [if_pos hc, split_join (by simp) h47]
noncomputable def orB (a b : List UInt8) : List UInt8 := if a = [] then b else a
theorem join_ne {ps : List (List UInt8)} (hne : ps ≠ []) (hok : (∃ q ∈ ps, q ≠ []) ∨ 4 ≤ ps.length) : joinL [47] ps ≠ [] := by
  match ps, hne, hok with
  | [p], _, .inl ⟨q, hq, hq'⟩ => rw [List.mem_singleton.mp hq] at hq'; exact hq'
  | [p], _, .inr h => simp at h
  | p :: q :: r, _, _ => rw [join_cons 47 p (by simp)]; simp
theorem norm_join {ps : List (List UInt8)} (hne : ps ≠ []) (h47 : ∀ q ∈ ps, 47 ∉ q) (hok : (∃ q ∈ ps, q ≠ []) ∨ 4 ≤ ps.length) :
    normB (joinL [47] ps) = orB (lawRoot ps ++ joinL [47] ((ps.filter fun q => !skips q).foldl (normStep (lawRoot ps)) [])) [46] := by
  obtain ⟨e1, e2⟩ := root_join hne h47 hok
  unfold normB orB
  rw [if_neg (join_ne hne hok)]
  dsimp only
  rw [e1, e2, fold_skip]
noncomputable def StepOk (q : List UInt8) : Prop := q ≠ [] ∧ q ≠ [46] ∧ 47 ∉ q
section
variable {steps : List (List UInt8)}
noncomputable def stD (steps : List (List UInt8)) (k : Nat) : List UInt8 := steps.getD k [46]
theorem stD_ne (hs : ∀ q ∈ steps, StepOk q) (k : Nat) : stD steps k ≠ [] := by
  unfold stD
  rw [List.getD_eq_getElem?_getD]
  cases e : steps[k]? with
  | none => simp
  | some q => exact (hs q (List.mem_of_getElem? e)).1
theorem stD_at {k : Nat} (h : k < steps.length) : steps.getD k [] = stD steps k := by
  unfold stD
  rw [List.getD_eq_getElem?_getD, List.getD_eq_getElem?_getD, List.getElem?_eq_getElem h]; rfl
theorem stD_mem {k : Nat} (h : k < steps.length) : stD steps k ∈ steps := by
  unfold stD
  rw [List.getD_eq_getElem?_getD, List.getElem?_eq_getElem h]
  exact List.getElem_mem h
theorem stD_map : (List.range steps.length).map (stD steps) = steps := by
  refine List.ext_getElem? fun i => ?_
  rw [List.getElem?_map]
  by_cases h : i < steps.length
  · rw [List.getElem?_range h, List.getElem?_eq_getElem h]
    show some (stD steps i) = _
    unfold stD
    rw [List.getD_eq_getElem?_getD, List.getElem?_eq_getElem h]; rfl
  · rw [List.getElem?_eq_none (by simpa using h), List.getElem?_eq_none (by omega)]; rfl
theorem rise_step {q : List UInt8} (h : q ≠ [46]) : riseF q = if q = [46, 46] then -1 else 1 := by
  unfold riseF
  by_cases h2 : q = [46, 46]
  · rw [if_pos h2, if_pos h2]
  · rw [if_neg h2, if_neg h2, if_neg h]
theorem hsL_get (hs : ∀ q ∈ steps, StepOk q) : ∀ i, i ≤ steps.length → ∀ j, j ≤ i → (hsL steps i).getD j 0 = htF (stD steps) j
  | 0, _, j, hj => by
    obtain rfl : j = 0 := by omega
    rfl
  | i + 1, hi, j, hj => by
    have hl := hsL_len steps i
    unfold hsL
    rw [List.getD_eq_getElem?_getD]
    by_cases h : j ≤ i
    · rw [List.getElem?_append_left (by omega), ← List.getD_eq_getElem?_getD]
      exact hsL_get hs i (by omega) j h
    · obtain rfl : j = i + 1 := by omega
      rw [List.getElem?_append_right (by omega), hl, Nat.sub_self]
      show (hsL steps i).getLastD 0 + _ = htF (stD steps) i + riseF (stD steps i)
      have e1 : (hsL steps i).getLastD 0 = (hsL steps i).getD i 0 := by
        rw [List.getLastD_eq_getLast?, List.getLast?_eq_getElem?, hl, List.getD_eq_getElem?_getD]; rfl
      rw [e1, hsL_get hs i (by omega) i (Nat.le_refl _), stD_at (by omega), rise_step (hs _ (stD_mem (by omega))).2.1]
theorem all_take {l : List Int} {f : Int → Bool} {k : Nat} (h : k ≤ l.length) : (l.take k).all f = (List.range k).all fun j => f (l.getD j 0) := by
  rw [Bool.eq_iff_iff, List.all_eq_true, List.all_eq_true]
  constructor
  · intro hall j hj
    have hj := List.mem_range.mp hj
    rw [List.getD_eq_getElem?_getD, List.getElem?_eq_getElem (by omega : j < l.length)]
    refine hall _ ?_
    rw [List.mem_take_iff_getElem]
    exact ⟨j, by omega, rfl⟩
  · intro hall x hx
    rw [List.mem_take_iff_getElem] at hx
    obtain ⟨j, hj, rfl⟩ := hx
    have := hall j (List.mem_range.mpr (by omega))
    rw [List.getD_eq_getElem?_getD, List.getElem?_eq_getElem (by omega : j < l.length)] at this
    exact this
theorem all_drop {l : List Int} {f : Int → Bool} {k n : Nat} (h : l.length = n + 1) : (l.drop (k + 1)).all f = (List.range n).all fun j => decide (k ≤ j → f (l.getD (j + 1) 0) = true) := by
  rw [Bool.eq_iff_iff, List.all_eq_true, List.all_eq_true]
  constructor
  · intro hall j hj
    have hj := List.mem_range.mp hj
    rw [decide_eq_true_eq]
    intro hkj
    refine hall _ ?_
    rw [List.mem_drop_iff_getElem]
    refine ⟨j - k, by omega, ?_⟩
    rw [List.getD_eq_getElem?_getD, List.getElem?_eq_getElem (by omega : j + 1 < l.length)]
    show l[_] = l[j + 1]
    congr 1
    omega
  · intro hall x hx
    rw [List.mem_drop_iff_getElem] at hx
    obtain ⟨j, hj, rfl⟩ := hx
    have := hall (k + j) (List.mem_range.mpr (by omega))
    rw [decide_eq_true_eq] at this
    have := this (by omega)
    rw [List.getD_eq_getElem?_getD, List.getElem?_eq_getElem (by omega : k + j + 1 < l.length)] at this
    have e : k + 1 + j = k + j + 1 := by omega
    simp only [e]
    exact this
theorem stay0 (hs : ∀ q ∈ steps, StepOk q) (front back : List UInt8) {k : Nat} (hk : k < steps.length) : (stayF steps front back k).getD 0 false = kpF (stD steps) front steps.length k := by
  have hl := hsL_len steps steps.length
  have hg := hsL_get hs steps.length (Nat.le_refl _)
  unfold stayF kpF
  rw [stD_at hk]
  by_cases h : stD steps k = [46, 46]
  · rw [if_pos h, if_pos h, List.getD_cons_zero, all_take (by omega), hg (k + 1) (by omega)]
    congr 1
    rw [Bool.eq_iff_iff, List.all_eq_true, List.all_eq_true]
    constructor
    · intro hall j hj
      have h1 := hall j hj
      have := List.mem_range.mp hj
      rw [hg j (by omega)] at h1
      exact h1
    · intro hall j hj
      have := List.mem_range.mp hj
      rw [hg j (by omega)]
      exact hall j hj
  · rw [if_neg h, if_neg h, List.getD_cons_zero, all_drop hl, hg k (by omega)]
    have h1 : stD steps k ≠ [46] := (hs _ (stD_mem hk)).2.1
    rw [decide_eq_true h1, Bool.true_and]
    rw [Bool.eq_iff_iff, List.all_eq_true, List.all_eq_true]
    constructor
    · intro hall j hj
      have h1 := hall j hj
      have := List.mem_range.mp hj
      simp only [decide_eq_true_eq] at h1 ⊢
      rw [hg (j + 1) (by omega)] at h1
      exact h1
    · intro hall j hj
      have h1 := hall j hj
      have := List.mem_range.mp hj
      simp only [decide_eq_true_eq] at h1 ⊢
      rw [hg (j + 1) (by omega)]
      exact h1
theorem keptN_filter (front back : List UInt8) (side : Nat) : ∀ n, n ≤ steps.length → keptN steps front back n side = ((List.range n).filter fun k => (stayF steps front back k).getD side false).map (stD steps)
  | 0, _ => rfl
  | n + 1, hn => by
    rw [keptN, keptN_filter front back side n (by omega), List.range_succ, List.filter_append, List.map_append]
    congr 1
    by_cases h : (stayF steps front back n).getD side false = true
    · rw [if_pos h, List.filter_cons, if_pos h, stD_at (by omega)]; rfl
    · rw [if_neg h, List.filter_cons, if_neg h]; rfl
end
noncomputable def mir (l : List (List UInt8)) : List (List UInt8) := (l.map List.reverse).reverse
theorem mir_append (a b : List (List UInt8)) : mir (a ++ b) = mir b ++ mir a := by simp [mir]
theorem mir_mir (a : List (List UInt8)) : mir (mir a) = a := by simp [mir, Function.comp_def]
theorem mir_dd (d : Nat) : mir (List.replicate d [46, 46]) = List.replicate d [46, 46] := by simp [mir]
theorem mir_len (a : List (List UInt8)) : (mir a).length = a.length := by simp [mir]
theorem mir_nil {a : List (List UInt8)} : mir a = [] ↔ a = [] := by simp [mir]
theorem mir_mem {a : List (List UInt8)} {q : List UInt8} : q ∈ mir a ↔ q.reverse ∈ a := by
  unfold mir
  rw [List.mem_reverse, List.mem_map]
  constructor
  · rintro ⟨p, hp, rfl⟩; rw [List.reverse_reverse]; exact hp
  · intro h; exact ⟨_, h, List.reverse_reverse _⟩
theorem mir_take (a : List (List UInt8)) (j : Nat) : (mir a).take j = mir (a.drop (a.length - j)) := by
  unfold mir
  rw [List.take_reverse, List.length_map, List.map_drop]
theorem join_snoc (p : List UInt8) : ∀ {a : List (List UInt8)}, a ≠ [] → joinL [47] (a ++ [p]) = joinL [47] a ++ 47 :: p
  | [], h => absurd rfl h
  | [q], _ => by rw [List.singleton_append, join_cons 47 q (by simp)]; rfl
  | q :: r :: a, _ => by
    rw [List.cons_append, join_cons 47 q (by simp), join_snoc p (a := r :: a) (by simp), join_cons 47 q (by simp), List.append_assoc]; rfl
theorem join_rev : ∀ l : List (List UInt8), (joinL [47] l).reverse = joinL [47] (mir l)
  | [] => rfl
  | [p] => rfl
  | p :: q :: r => by
    have h : mir (p :: q :: r) = mir (q :: r) ++ [p.reverse] := by simp [mir]
    rw [join_cons 47 p (by simp), List.reverse_append, List.reverse_cons, join_rev (q :: r), h, join_snoc _ (by simp [mir]), List.append_assoc]; rfl
noncomputable def NameOk (q : List UInt8) : Prop := StepOk q ∧ q ≠ [46, 46]
theorem rev_eq {q r : List UInt8} (h : q.reverse = r) : q = r.reverse := by rw [← h, List.reverse_reverse]
theorem step_rev {q : List UInt8} (h : StepOk q) : StepOk q.reverse := by
  refine ⟨fun e => h.1 (by simpa using e), fun e => h.2.1 (rev_eq e), fun e => h.2.2 (by simpa using e)⟩
theorem name_rev {q : List UInt8} (h : NameOk q) : NameOk q.reverse := ⟨step_rev h.1, fun e => h.2 (rev_eq e)⟩
theorem dd_ok : StepOk [46, 46] := ⟨by decide, by decide, by decide⟩
theorem noskip {l : List (List UInt8)} (h : ∀ q ∈ l, StepOk q) : (l.filter fun q => !skips q) = l := by
  rw [List.filter_eq_self]
  intro q hq
  have := h q hq
  simp [skips, this.1, this.2.1]
theorem root_none {l : List (List UInt8)} {q : List UInt8} (h : l.head? = some q) (hq : q ≠ []) : lawRoot l = [] := by
  cases l with
  | nil => cases h
  | cons p l =>
    simp at h
    subst h
    simp [lawRoot, leadN, hq]
theorem fold_names (r : List UInt8) : ∀ (l a : List (List UInt8)), (∀ q ∈ l, NameOk q) → l.foldl (normStep r) a = a ++ l
  | [], a, _ => by simp
  | q :: l, a, h => by
    have hq := h q (.head _)
    have e : normStep r a q = a ++ [q] := by
      unfold normStep
      rw [if_neg (by rintro (e | e); exact hq.1.1 e; exact hq.1.2.1 e), if_pos (.inl hq.2)]
    rw [List.foldl_cons, e, fold_names r l _ fun p hp => h p (.tail _ hp), List.append_assoc]; rfl
theorem fold_dds {l : List (List UInt8)} (h : ∀ q ∈ l, NameOk q) : ∀ d, (List.replicate d [46, 46]).foldl (normStep []) l = l.take (l.length - d) ++ List.replicate (d - l.length) [46, 46]
  | 0 => by simp
  | d + 1 => by
    rw [List.replicate_succ', List.foldl_append, fold_dds h d]
    show normStep [] _ [46, 46] = _
    unfold normStep
    rw [if_neg (by simp)]
    by_cases hd : d < l.length
    · have e1 : d - l.length = 0 := by omega
      have e2 : d + 1 - l.length = 0 := by omega
      rw [e1, e2]
      simp only [List.replicate_zero, List.append_nil]
      have hne : l.take (l.length - d) ≠ [] := by
        clear e1 e2
        intro e
        have := congrArg List.length e
        rw [List.length_take] at this
        simp at this
        omega
      have hlast : (l.take (l.length - d)).getLast? ≠ some [46, 46] := by
        intro e
        have := List.mem_of_getLast? e
        exact (h _ (List.mem_of_mem_take this)).2 rfl
      rw [if_neg]
      · rw [List.dropLast_eq_take, List.length_take, List.take_take, Nat.min_eq_left (Nat.sub_le l.length d), Nat.min_eq_left (Nat.sub_le _ 1), Nat.sub_sub]
      · rintro (e | ⟨_, e⟩ | ⟨_, e⟩)
        · exact e rfl
        · exact hne e
        · exact hlast e
    · have e0 : l.length - d = 0 := by omega
      have e0' : l.length - (d + 1) = 0 := by omega
      have e1 : d + 1 - l.length = (d - l.length) + 1 := by omega
      rw [e0, e0', e1, List.take_zero, List.nil_append, List.nil_append, List.replicate_succ']
      rw [if_pos]
      right
      by_cases hz : d - l.length = 0
      · left; rw [hz]; exact ⟨rfl, rfl⟩
      · right
        obtain ⟨c, hc⟩ : ∃ c, d - l.length = c + 1 := ⟨d - l.length - 1, by omega⟩
        rw [hc, List.replicate_succ']
        simp
theorem norm_steps {l : List (List UInt8)} (hne : l ≠ []) (h : ∀ q ∈ l, StepOk q) : normB (joinL [47] l) = orB (joinL [47] (l.foldl (normStep []) [])) [46] := by
  obtain ⟨p, l', rfl⟩ : ∃ p l', l = p :: l' := by
    cases l with
    | nil => exact absurd rfl hne
    | cons p l' => exact ⟨p, l', rfl⟩
  have hr : lawRoot (p :: l') = [] := root_none rfl (h p (.head _)).1
  rw [norm_join hne (fun q hq => (h q hq).2.2) (.inl ⟨p, .head _, (h p (.head _)).1⟩), noskip h, hr, List.nil_append]
theorem join_nil {l : List (List UInt8)} (h : ∀ q ∈ l, StepOk q) : joinL [47] l = [] ↔ l = [] := by
  constructor
  · intro e
    cases l with
    | nil => rfl
    | cons p l => exact absurd e (join_ne (by simp) (.inl ⟨p, .head _, (h p (.head _)).1⟩))
  · rintro rfl; rfl
theorem norm_names {l : List (List UInt8)} (hne : l ≠ []) (h : ∀ q ∈ l, NameOk q) : normB (joinL [47] l) = joinL [47] l := by
  have hs : ∀ q ∈ l, StepOk q := fun q hq => (h q hq).1
  rw [norm_steps hne hs, fold_names _ _ _ h, List.nil_append]
  exact if_neg (fun e => hne ((join_nil hs).mp e))
theorem mir_names {l : List (List UInt8)} (h : ∀ q ∈ l, NameOk q) : ∀ q ∈ mir l, NameOk q := by
  intro q hq
  have := name_rev (h _ (mir_mem.mp hq))
  rwa [List.reverse_reverse] at this
theorem end_names {l : List (List UInt8)} (hne : l ≠ []) (h : ∀ q ∈ l, NameOk q) : endB (joinL [47] l) = joinL [47] l := by
  unfold endB
  rw [join_rev, norm_names (by rw [ne_eq, mir_nil]; exact hne) (mir_names h), join_rev, mir_mir]
theorem dds_ok (e : Nat) : ∀ q ∈ List.replicate e ([46, 46] : List UInt8), StepOk q := fun q hq => by rw [List.eq_of_mem_replicate hq]; exact dd_ok
theorem norm_dds {e : Nat} (he : e ≠ 0) : normB (joinL [47] (List.replicate e [46, 46])) = joinL [47] (List.replicate e [46, 46]) := by
  have hne : List.replicate e ([46, 46] : List UInt8) ≠ [] := by simp [he]
  rw [norm_steps hne (dds_ok e), fold_dds (l := []) (fun q hq => nomatch hq)]
  simp only [List.take_nil, List.nil_append, List.length_nil, Nat.sub_zero]
  exact if_neg (fun q => hne ((join_nil (dds_ok e)).mp q))
theorem end_dds {e : Nat} (he : e ≠ 0) : endB (joinL [47] (List.replicate e [46, 46])) = joinL [47] (List.replicate e [46, 46]) := by
  unfold endB
  rw [join_rev, mir_dd, norm_dds he, join_rev, mir_dd]
theorem norm_dot : normB [46] = [46] := by decide
theorem end_dot : endB [46] = [46] := by decide
theorem norm_r1 : normB [47] = [47] := by decide
theorem norm_r2 : normB [47, 47] = [47, 47] := by decide
theorem end_r1 : endB [47] = [47] := by decide
theorem end_r2 : endB [47, 47] = [47, 47] := by decide
section
variable {steps : List (List UInt8)} {front back : List UInt8}
theorem kept0_eq (hs : ∀ q ∈ steps, StepOk q) {ds ns : List Nat} {base : Int} (S : StackAt (stD steps) front steps.length ds ns base) : keptN steps front back steps.length 0 = (ds ++ ns).map (stD steps) := by
  rw [keptN_filter front back 0 _ (Nat.le_refl _), ← S.kept]
  congr 1
  refine List.filter_congr fun k hk => ?_
  exact stay0 hs front back (List.mem_range.mp hk)
theorem stay2 (hs : ∀ q ∈ steps, StepOk q) {k : Nat} (hk : k < steps.length) : (stayF steps front back k).getD 2 false = (decide (stD steps k ≠ [46, 46] ∧ (front ≠ [] ∨ 0 ≤ htF (stD steps) k)) && kpF (stD steps) front steps.length k) := by
  rw [← stay0 hs front back hk]
  have hg := hsL_get hs steps.length (Nat.le_refl _)
  unfold stayF
  rw [stD_at hk]
  by_cases h : stD steps k = [46, 46]
  · rw [if_pos h]; simp [h]
  · rw [if_neg h, hg k (by omega)]
    simp only [List.getD_cons_succ, List.getD_cons_zero]
    rw [Bool.and_comm]
    congr 1
    by_cases h1 : front = [] <;> by_cases h2 : 0 ≤ htF (stD steps) k <;> simp [h, h1, h2]
theorem kept2_eq (hs : ∀ q ∈ steps, StepOk q) {ds ns : List Nat} {base : Int} (S : StackAt (stD steps) front steps.length ds ns base) : keptN steps front back steps.length 2 = (ns.filter fun k => decide (front ≠ [] ∨ 0 ≤ htF (stD steps) k)).map (stD steps) := by
  rw [keptN_filter front back 2 _ (Nat.le_refl _)]
  congr 1
  have e : ((List.range steps.length).filter fun k => (stayF steps front back k).getD 2 false) = ((List.range steps.length).filter (kpF (stD steps) front steps.length)).filter fun k => decide (stD steps k ≠ [46, 46] ∧ (front ≠ [] ∨ 0 ≤ htF (stD steps) k)) := by
    rw [List.filter_filter]
    refine List.filter_congr fun k hk => ?_
    exact stay2 hs (List.mem_range.mp hk)
  rw [e, S.kept, List.filter_append, List.filter_eq_nil_iff.mpr fun k hk => by simp [S.dsd k hk], List.nil_append]
  refine List.filter_congr fun k hk => ?_
  simp [(S.nsn k hk).1]
theorem filter_up {f : Nat → Int} {base : Int} : ∀ {ns : List Nat} {j : Nat}, ns.map f = (List.range' j ns.length).map (fun (l : Nat) => base + (l : Int)) → (ns.filter fun k => decide (0 ≤ f k)) = ns.drop ((-base).toNat - j)
  | [], j, _ => by simp
  | k :: ns, j, h => by
    rw [List.length_cons, List.range'_succ, List.map_cons, List.map_cons, List.cons.injEq] at h
    have ih := filter_up (ns := ns) (j := j + 1) h.2
    rw [List.filter_cons]
    by_cases h0 : 0 ≤ f k
    · rw [if_pos (decide_eq_true h0), ih]
      have e1 : (-base).toNat - (j + 1) = 0 := by omega
      have e2 : (-base).toNat - j = 0 := by omega
      rw [e1, e2]; rfl
    · rw [if_neg (by simpa using h0), ih]
      have hj : j < (-base).toNat := Int.lt_toNat.mpr (by have := h.1; omega)
      have e2 : (-base).toNat - j = ((-base).toNat - (j + 1)) + 1 := by rw [← Nat.sub_sub]; exact (Nat.succ_pred (Nat.sub_ne_zero_of_lt hj)).symm
      rw [e2, List.drop_succ_cons]
noncomputable def downB (steps : List (List UInt8)) : List UInt8 := joinL [47] (List.replicate (max 0 (-(hsL steps steps.length).getD steps.length 0)).toNat [46, 46])
noncomputable def t0F (steps : List (List UInt8)) (front back : List UInt8) : List UInt8 := orB (front ++ joinL [47] (keptN steps front back steps.length 0)) [46]
noncomputable def t2F (steps : List (List UInt8)) (front back : List UInt8) : List UInt8 := orB (joinL [47] (keptN steps front back steps.length 2)) (orB front (orB (downB steps) [46]))
theorem or_nil {a b : List UInt8} (h : a = []) : orB a b = b := if_pos h
theorem or_some {a b : List UInt8} (h : a ≠ []) : orB a b = a := if_neg h
theorem core (hs : ∀ q ∈ steps, StepOk q) (hf : front = [] ∨ front = [47] ∨ front = [47, 47]) :
    endB (t0F steps front back) = t2F steps front back ∧ normB (t2F steps front back) = t2F steps front back ∧ endB (t2F steps front back) = t2F steps front back := by
  obtain ⟨ds, ns, base, S⟩ := stack_inv (st := stD steps) front (stD_ne hs) steps.length
  have hg := hsL_get hs steps.length (Nat.le_refl _) steps.length (Nat.le_refl _)
  have hin : ∀ k ∈ ds ++ ns, k < steps.length := by
    intro k hk
    rw [← S.kept] at hk
    exact List.mem_range.mp (List.mem_filter.mp hk).1
  have hnm : ∀ q ∈ ns.map (stD steps), NameOk q := by
    intro q hq
    obtain ⟨k, hk, rfl⟩ := List.mem_map.mp hq
    exact ⟨hs _ (stD_mem (hin k (List.mem_append_right _ hk))), (S.nsn k hk).1⟩
  have hdd : ds.map (stD steps) = List.replicate ds.length [46, 46] := by
    rw [List.eq_replicate_iff]
    refine ⟨by simp, fun x hx => ?_⟩
    obtain ⟨k, hk, rfl⟩ := List.mem_map.mp hx
    exact S.dsd k hk
  have h0 := kept0_eq (back := back) hs S
  have h2 := kept2_eq (back := back) hs S
  unfold t0F t2F
  rw [h0, h2, List.map_append, hdd]
  by_cases hfr : front = []
  · subst hfr
    have hd := S.dots rfl
    have ht := S.top
    have hfil : (ns.filter fun k => decide (([] : List UInt8) ≠ [] ∨ 0 ≤ htF (stD steps) k)) = ns.drop ds.length := by
      have := filter_up (f := htF (stD steps)) (base := base) (ns := ns) (j := 0) (by rw [← List.range_eq_range']; exact S.hts)
      have e : (-base).toNat - 0 = ds.length := by rw [← hd]; rfl
      rw [e] at this
      rw [← this]
      refine List.filter_congr fun k _ => ?_
      simp
    have hdown : downB steps = joinL [47] (List.replicate (ds.length - ns.length) [46, 46]) := by
      unfold downB
      rw [hg]
      congr 2
      omega
    rw [hfil, hdown, List.map_drop]
    generalize hN : ns.map (stD steps) = names at hnm
    have hlen : names.length = ns.length := by rw [← hN, List.length_map]
    rw [← hlen, List.nil_append, or_nil (a := []) rfl]
    generalize ds.length = d
    have hok : ∀ q ∈ List.replicate d ([46, 46] : List UInt8) ++ names, StepOk q := by
      intro q hq
      rcases List.mem_append.mp hq with hq | hq
      · exact dds_ok d q hq
      · exact (hnm q hq).1
    have hdr : ∀ q ∈ names.drop d, NameOk q := fun q hq => hnm q (List.mem_of_mem_drop hq)
    -- what is left of the names, or of the two dots
    have hend : endB (orB (joinL [47] (List.replicate d [46, 46] ++ names)) [46]) = orB (joinL [47] (names.drop d)) (orB (joinL [47] (List.replicate (d - names.length) [46, 46])) [46]) := by
      by_cases hz : List.replicate d ([46, 46] : List UInt8) ++ names = []
      · have hn : names = [] := (List.append_eq_nil_iff.mp hz).2
        have hd0 : d = 0 := by
          have := (List.append_eq_nil_iff.mp hz).1
          simpa using this
        subst hn hd0
        exact end_dot
      · rw [or_some (fun e => hz ((join_nil hok).mp e))]
        unfold endB
        have hmok : ∀ q ∈ mir (List.replicate d ([46, 46] : List UInt8) ++ names), StepOk q := by
          intro q hq
          have := step_rev (hok _ (mir_mem.mp hq))
          rwa [List.reverse_reverse] at this
        rw [join_rev, norm_steps (by rw [ne_eq, mir_nil]; exact hz) hmok, mir_append, mir_dd, List.foldl_append, fold_names _ _ _ (mir_names hnm), List.nil_append, fold_dds (mir_names hnm), mir_len, mir_take]
        by_cases hm : d < names.length
        · have e1 : d - names.length = 0 := by omega
          have e2 : names.length - (names.length - d) = d := Nat.sub_sub_self (Nat.le_of_lt (by assumption))
          have hne : names.drop d ≠ [] := by
            intro e
            have := congrArg List.length e
            rw [List.length_drop] at this
            simp at this
            omega
          rw [e1, e2, List.replicate_zero, List.append_nil]
          rw [or_some (a := joinL [47] (mir (names.drop d))) (fun e => hne (by
            have := (join_nil (fun q hq => (mir_names hdr q hq).1)).mp e
            exact mir_nil.mp this)), or_some (a := joinL [47] (names.drop d)) (fun e => hne ((join_nil fun q hq => (hdr q hq).1).mp e)), join_rev, mir_mir]
        · have e1 : names.drop (names.length - (names.length - d)) = [] := List.drop_of_length_le (by omega)
          have e2 : names.drop d = [] := List.drop_of_length_le (by omega)
          rw [e1, e2]
          show (orB (joinL [47] (List.replicate (d - names.length) [46, 46])) [46]).reverse = orB (joinL [47] (List.replicate (d - names.length) [46, 46])) [46]
          generalize d - names.length = e
          by_cases he : joinL [47] (List.replicate e ([46, 46] : List UInt8)) = []
          · rw [or_nil he]; rfl
          · rw [or_some he, join_rev, mir_dd]
    refine ⟨hend, ?_⟩
    by_cases hm : names.drop d = []
    · rw [hm, or_nil (a := joinL [47] []) rfl]
      by_cases he : d - names.length = 0
      · rw [he]; exact ⟨norm_dot, end_dot⟩
      · have hj : joinL [47] (List.replicate (d - names.length) ([46, 46] : List UInt8)) ≠ [] := fun e => he (by simpa using (join_nil (dds_ok _)).mp e)
        rw [or_some hj]; exact ⟨norm_dds he, end_dds he⟩
    · rw [or_some (a := joinL [47] (names.drop d)) (fun e => hm ((join_nil fun q hq => (hdr q hq).1).mp e))]
      exact ⟨norm_names hm hdr, end_names hm hdr⟩
  · have hds := S.none hfr
    subst hds
    have hfil : (ns.filter fun k => decide (front ≠ [] ∨ 0 ≤ htF (stD steps) k)) = ns := by
      rw [List.filter_eq_self]
      intro k _
      simp [hfr]
    rw [hfil]
    generalize hN : ns.map (stD steps) = names at hnm
    simp only [List.length_nil, List.replicate_zero, List.nil_append]
    by_cases hn : names = []
    · subst hn
      rw [show joinL [47] ([] : List (List UInt8)) = [] from rfl, List.append_nil, or_some hfr, or_nil (a := []) rfl, or_some hfr]
      rcases hf with hf | hf | hf
      · exact absurd hf hfr
      · subst hf; exact ⟨end_r1, norm_r1, end_r1⟩
      · subst hf; exact ⟨end_r2, norm_r2, end_r2⟩
    · have hj : joinL [47] names ≠ [] := fun e => hn ((join_nil fun q hq => (hnm q hq).1).mp e)
      rw [or_some hj, or_some (a := front ++ joinL [47] names) (by simp [hfr])]
      refine ⟨?_, norm_names hn hnm, end_names hn hnm⟩
      have hmn : mir names ≠ [] := by rw [ne_eq, mir_nil]; exact hn
      have hmk := mir_names hnm
      obtain ⟨p, l, hpl⟩ : ∃ p l, mir names = p :: l := by
        cases h : mir names with
        | nil => exact absurd h hmn
        | cons p l => exact ⟨p, l, rfl⟩
      have key : ∀ z : List (List UInt8), (∀ q ∈ z, q = []) → normB (joinL [47] (mir names ++ z)) = joinL [47] (mir names) := by
        intro z hz
        have hp : p ≠ [] := (hmk p (by rw [hpl]; exact .head _)).1.1
        have hr : lawRoot (mir names ++ z) = [] := root_none (q := p) (by rw [hpl]; rfl) hp
        have hz' : (z.filter fun q => !skips q) = [] := by
          rw [List.filter_eq_nil_iff]
          intro q hq
          rw [hz q hq]; simp [skips]
        rw [norm_join (by simp [hmn]) (fun q hq => by
          rcases List.mem_append.mp hq with hq | hq
          · exact (hmk q hq).1.2.2
          · rw [hz q hq]; simp) (.inl ⟨p, by rw [hpl]; exact .head _, hp⟩), hr, List.filter_append, noskip fun q hq => (hmk q hq).1, hz', List.append_nil, List.nil_append, fold_names _ _ _ hmk, List.nil_append]
        exact or_some (fun e => hmn ((join_nil fun q hq => (hmk q hq).1).mp e))
      unfold endB
      rw [List.reverse_append, join_rev]
      rcases hf with hf | hf | hf
      · exact absurd hf hfr
      · subst hf
        have e : joinL [47] (mir names) ++ [47].reverse = joinL [47] (mir names ++ [[]]) := by rw [join_snoc _ hmn]; rfl
        rw [e, key _ (by simp), join_rev, mir_mir]
      · subst hf
        have e : joinL [47] (mir names) ++ [47, 47].reverse = joinL [47] (mir names ++ [[]] ++ [[]]) := by rw [join_snoc _ (by simp), join_snoc _ hmn, List.append_assoc]; rfl
        rw [e, List.append_assoc, key _ (by simp), join_rev, mir_mir]
end
section
variable {steps : List (List UInt8)} {front back : List UInt8}
theorem take_iff (hs : ∀ q ∈ steps, StepOk q) {f : Int → Bool} {k : Nat} (hk : k ≤ steps.length) : ((hsL steps steps.length).take (k + 1)).all f = true ↔ ∀ j, j ≤ k → f (htF (stD steps) j) = true := by
  have hl := hsL_len steps steps.length
  have hg := hsL_get hs steps.length (Nat.le_refl _)
  rw [all_take (by omega), List.all_eq_true]
  constructor
  · intro h j hj
    have := h j (List.mem_range.mpr (by omega))
    rwa [hg j (by omega)] at this
  · intro h j hj
    have := List.mem_range.mp hj
    rw [hg j (by omega)]
    exact h j (by omega)
theorem drop_iff (hs : ∀ q ∈ steps, StepOk q) {f : Int → Bool} {k : Nat} : ((hsL steps steps.length).drop (k + 1)).all f = true ↔ ∀ j, k < j → j ≤ steps.length → f (htF (stD steps) j) = true := by
  have hl := hsL_len steps steps.length
  have hg := hsL_get hs steps.length (Nat.le_refl _)
  rw [all_drop hl, List.all_eq_true]
  constructor
  · intro h j hj hj'
    obtain ⟨i, rfl⟩ : ∃ i, j = i + 1 := ⟨j - 1, by omega⟩
    have := h i (List.mem_range.mpr (by omega))
    rw [decide_eq_true_eq] at this
    have := this (by omega)
    rwa [hg (i + 1) (by omega)] at this
  · intro h j hj
    have := List.mem_range.mp hj
    rw [decide_eq_true_eq]
    intro hkj
    rw [hg (j + 1) (by omega)]
    exact h (j + 1) (by omega) (by omega)
theorem mir_ok (hs : ∀ q ∈ steps, StepOk q) : ∀ q ∈ mir steps, StepOk q := by
  intro q hq
  have := step_rev (hs _ (mir_mem.mp hq))
  rwa [List.reverse_reverse] at this
theorem stD_mir {j : Nat} (hj : j < steps.length) : stD (mir steps) j = (stD steps (steps.length - 1 - j)).reverse := by
  unfold stD mir
  rw [List.getD_eq_getElem?_getD, List.getElem?_reverse (by simpa using hj), List.length_map, List.getElem?_map, List.getD_eq_getElem?_getD, List.getElem?_eq_getElem (by omega : steps.length - 1 - j < steps.length)]
  rfl
theorem rise_rev (q : List UInt8) : riseF q.reverse = riseF q := by
  unfold riseF
  have e1 : (q.reverse = [46, 46]) = (q = [46, 46]) := propext ⟨fun e => rev_eq e, fun e => by rw [e]; rfl⟩
  have e2 : (q.reverse = [46]) = (q = [46]) := propext ⟨fun e => rev_eq e, fun e => by rw [e]; rfl⟩
  simp only [e1, e2]
theorem ht_mir : ∀ j, j ≤ steps.length → htF (stD (mir steps)) j = htF (stD steps) steps.length - htF (stD steps) (steps.length - j)
  | 0, _ => by rw [Nat.sub_zero]; show (0 : Int) = _; omega
  | j + 1, hj => by
    have ih := ht_mir j (by omega)
    show htF (stD (mir steps)) j + riseF (stD (mir steps) j) = _
    rw [ih, stD_mir (by omega), rise_rev]
    obtain ⟨i, hi⟩ : ∃ i, steps.length - j = i + 1 := ⟨steps.length - j - 1, by omega⟩
    have e1 : steps.length - 1 - j = i := by omega
    have e2 : steps.length - (j + 1) = i := by omega
    rw [hi, e1, e2]
    show _ - (htF (stD steps) i + riseF (stD steps i)) + _ = _
    omega
theorem mirN (steps : List (List UInt8)) : (mir steps).length = steps.length := mir_len steps
theorem ar_a {n j k t : Nat} (h : j + k + 1 = n) (ht : k < t) : n - t ≤ j := by omega
theorem ar_b {n j k t : Nat} (h : j + k + 1 = n) (ht : t ≤ j) : k < n - t := by omega
theorem ar_c {n j k t : Nat} (h : j + k + 1 = n) (ht : t ≤ k) : j < n - t := by omega
theorem ar_d {n j k t : Nat} (h : j + k + 1 = n) (ht : j < t) : n - t ≤ k := by omega
theorem ar_e {n j k : Nat} (h : j + k + 1 = n) : n - j = k + 1 ∧ n - (j + 1) = k ∧ j ≤ n ∧ j + 1 ≤ n ∧ k ≤ n ∧ k + 1 ≤ n ∧ k < n := by omega
theorem ar_f {x a b : Int} (h : x - a < x - b) : b < a := by omega
theorem ar_g {x a b : Int} (h : b < a) : x - a < x - b := by omega
theorem ar_h {x a b c : Int} : (x - a ≤ x - c) = (c ≤ a) := propext ⟨fun h => by omega, fun h => by omega⟩
theorem stay_mir (hs : ∀ q ∈ steps, StepOk q) {j : Nat} (hj : j < steps.length) :
    (stayF (mir steps) back front j).getD 0 false = (stayF steps front back (steps.length - 1 - j)).getD 1 false ∧ (stayF (mir steps) back front j).getD 2 false = (stayF steps front back (steps.length - 1 - j)).getD 3 false := by
  obtain ⟨k, hk⟩ : ∃ k, k = steps.length - 1 - j := ⟨_, rfl⟩
  have hjk : j + k + 1 = steps.length := by omega
  have hst : stD (mir steps) j = (stD steps k).reverse := by rw [stD_mir hj, ← hk]
  rw [← hk]
  clear hk
  have hms := mir_ok hs
  obtain ⟨e1, e2, l1, l2, l3, l4, l5⟩ := ar_e hjk
  have hg := hsL_get hs steps.length (Nat.le_refl _)
  have hgm := hsL_get hms (mir steps).length (Nat.le_refl _)
  have hm : ∀ t, t ≤ steps.length → htF (stD (mir steps)) t = htF (stD steps) steps.length - htF (stD steps) (steps.length - t) := ht_mir
  have hdd : (stD (mir steps) j = [46, 46]) = (stD steps k = [46, 46]) := by
    rw [hst]
    exact propext ⟨fun e => rev_eq e, fun e => by rw [e]; rfl⟩
  unfold stayF
  rw [stD_at (steps := mir steps) (by rw [mirN]; exact hj), stD_at (steps := steps) l5]
  have g1 : (hsL (mir steps) (mir steps).length).getD j 0 = htF (stD steps) steps.length - htF (stD steps) (k + 1) := by rw [hgm j (by rw [mirN]; exact l1), hm j l1, e1]
  have g2 : (hsL (mir steps) (mir steps).length).getD (j + 1) 0 = htF (stD steps) steps.length - htF (stD steps) k := by rw [hgm (j + 1) (by rw [mirN]; exact l2), hm (j + 1) l2, e2]
  have g3 := hg k l3
  have g4 := hg (k + 1) l4
  have g5 := hg steps.length (Nat.le_refl _)
  by_cases h : stD steps k = [46, 46]
  · rw [if_pos (hdd ▸ h), if_pos h]
    refine ⟨?_, rfl⟩
    simp only [List.getD_cons_zero, List.getD_cons_succ]
    congr 1
    rw [Bool.eq_iff_iff, take_iff hms (by rw [mirN]; exact l1), drop_iff hs, g2, g3]
    constructor
    · intro hall t ht ht'
      have := hall (steps.length - t) (ar_a hjk ht)
      rw [hm _ (Nat.sub_le _ _), decide_eq_true_eq, Nat.sub_sub_self ht'] at this
      rw [decide_eq_true_eq]
      exact ar_f this
    · intro hall t ht
      have := hall (steps.length - t) (ar_b hjk ht) (Nat.sub_le _ _)
      rw [decide_eq_true_eq] at this
      rw [hm _ (Nat.le_trans ht l1), decide_eq_true_eq]
      exact ar_g this
  · rw [if_neg (fun q => h (hdd ▸ q)), if_neg h]
    simp only [List.getD_cons_zero, List.getD_cons_succ]
    have hlh : ((hsL (mir steps) (mir steps).length).drop (j + 1)).all (fun a => decide ((hsL (mir steps) (mir steps).length).getD j 0 < a)) = ((hsL steps steps.length).take (k + 1)).all (fun a => decide (a < (hsL steps steps.length).getD (k + 1) 0)) := by
      rw [Bool.eq_iff_iff, drop_iff hms, take_iff hs l3, g1, g4]
      constructor
      · intro hall t ht
        have := hall (steps.length - t) (ar_c hjk ht) (by rw [mirN]; exact Nat.sub_le _ _)
        rw [hm _ (Nat.sub_le _ _), decide_eq_true_eq, Nat.sub_sub_self (Nat.le_trans ht l3)] at this
        rw [decide_eq_true_eq]
        exact ar_f this
      · intro hall t ht ht'
        rw [mirN] at ht'
        have := hall (steps.length - t) (ar_d hjk ht)
        rw [decide_eq_true_eq] at this
        rw [hm _ ht', decide_eq_true_eq]
        exact ar_g this
    refine ⟨hlh, ?_⟩
    rw [hlh, g1, g4, g5]
    congr 2
    rw [decide_eq_decide]
    constructor
    · intro h; omega
    · intro h; omega
theorem range_rev (n : Nat) : (List.range n).map (fun j => n - 1 - j) = (List.range n).reverse := by
  refine List.ext_getElem? fun i => ?_
  by_cases h : i < n
  · rw [List.getElem?_map, List.getElem?_range h, List.getElem?_reverse (by simpa using h), List.length_range, List.getElem?_range (by omega)]; rfl
  · rw [List.getElem?_eq_none (by simpa using h), List.getElem?_eq_none (by simpa using h)]
theorem kept_mir {s1 s2 : Nat} (h : ∀ j, j < steps.length → (stayF (mir steps) back front j).getD s1 false = (stayF steps front back (steps.length - 1 - j)).getD s2 false) :
    keptN steps front back steps.length s2 = mir (keptN (mir steps) back front (mir steps).length s1) := by
  rw [keptN_filter front back s2 _ (Nat.le_refl _), keptN_filter back front s1 _ (Nat.le_refl _), mirN]
  have e1 : (List.range steps.length) = ((List.range steps.length).map fun j => steps.length - 1 - j).reverse := by rw [range_rev, List.reverse_reverse]
  have e2 : ((List.range steps.length).filter fun k => (stayF steps front back k).getD s2 false) = (((List.range steps.length).filter fun j => (stayF (mir steps) back front j).getD s1 false).map fun j => steps.length - 1 - j).reverse := by
    rw [e1, List.filter_reverse, List.filter_map]
    congr 2
    rw [← e1]
    refine List.filter_congr fun j hj => ?_
    exact (h j (List.mem_range.mp hj)).symm
  rw [e2, List.map_reverse, List.map_map]
  unfold mir
  rw [List.map_map]
  congr 1
  refine List.map_congr_left fun j hj => ?_
  have hj := List.mem_range.mp (List.mem_filter.mp hj).1
  show stD steps (steps.length - 1 - j) = (stD (mir steps) j).reverse
  rw [stD_mir hj, List.reverse_reverse]
noncomputable def t1F (steps : List (List UInt8)) (front back : List UInt8) : List UInt8 := orB (joinL [47] (keptN steps front back steps.length 1) ++ back) [46]
noncomputable def t3F (steps : List (List UInt8)) (front back : List UInt8) : List UInt8 := orB (joinL [47] (keptN steps front back steps.length 3)) (orB back (orB (downB steps) [46]))
theorem or_rev {a b : List UInt8} : (orB a b).reverse = orB a.reverse b.reverse := by
  unfold orB
  by_cases h : a = []
  · rw [if_pos h, if_pos (by rw [h]; rfl)]
  · rw [if_neg h, if_neg (by simpa using h)]
theorem root_pal {r : List UInt8} (h : r = [] ∨ r = [47] ∨ r = [47, 47]) : r.reverse = r := by
  rcases h with rfl | rfl | rfl <;> rfl
theorem down_mir (hs : ∀ q ∈ steps, StepOk q) : downB (mir steps) = downB steps := by
  unfold downB
  rw [hsL_get hs _ (Nat.le_refl _) _ (Nat.le_refl _), hsL_get (mir_ok hs) _ (Nat.le_refl _) _ (Nat.le_refl _), mirN, ht_mir _ (Nat.le_refl _), Nat.sub_self]
  show joinL [47] (List.replicate (max 0 (-(_ - (0 : Int)))).toNat _) = _
  rw [Int.sub_zero]
theorem down_pal : (downB steps).reverse = downB steps := by
  unfold downB
  rw [join_rev, mir_dd]
theorem t1_mir (hs : ∀ q ∈ steps, StepOk q) (hb : back = [] ∨ back = [47] ∨ back = [47, 47]) : t1F steps front back = (t0F (mir steps) back front).reverse := by
  unfold t1F t0F
  rw [or_rev, List.reverse_append, root_pal hb, join_rev, ← kept_mir fun j hj => (stay_mir hs hj).1]; rfl
theorem t3_mir (hs : ∀ q ∈ steps, StepOk q) (hb : back = [] ∨ back = [47] ∨ back = [47, 47]) : t3F steps front back = (t2F (mir steps) back front).reverse := by
  unfold t3F t2F
  rw [or_rev, or_rev, or_rev, root_pal hb, join_rev, ← kept_mir fun j hj => (stay_mir hs hj).2, down_mir hs, down_pal]; rfl
end
noncomputable def stepsOf (ps : List (List UInt8)) : List (List UInt8) := ps.filter fun q => !skips q
theorem stepsOf_ok {ps : List (List UInt8)} (h47 : ∀ q ∈ ps, 47 ∉ q) : ∀ q ∈ stepsOf ps, StepOk q := by
  intro q hq
  obtain ⟨h1, h2⟩ := List.mem_filter.mp hq
  have : ¬ (q = [] ∨ q = [46]) := by simpa [skips] using h2
  exact ⟨fun e => this (.inl e), fun e => this (.inr e), h47 q h1⟩
theorem stepsOf_mir (ps : List (List UInt8)) : stepsOf (mir ps) = mir (stepsOf ps) := by
  unfold stepsOf mir
  rw [List.filter_reverse, List.filter_map]
  congr 2
  refine List.filter_congr fun q _ => ?_
  have e1 : (q.reverse = []) = (q = []) := by simp
  have e2 : (q.reverse = [46]) = (q = [46]) := propext ⟨fun e => rev_eq e, fun e => by rw [e]; rfl⟩
  simp only [Function.comp, skips, e1, e2]
theorem lead_map : ∀ ps : List (List UInt8), leadN (ps.map List.reverse) = leadN ps
  | [] => rfl
  | q :: ps => by simp [leadN, lead_map ps]
theorem root_mir (ps : List (List UInt8)) : lawRoot (mir ps) = lawRoot ps.reverse := by
  unfold lawRoot mir
  rw [← List.map_reverse, lead_map]
theorem root_kinds (ps : List (List UInt8)) : lawRoot ps = [] ∨ lawRoot ps = [47] ∨ lawRoot ps = [47, 47] := by
  unfold lawRoot
  split
  · exact .inr (.inr rfl)
  · split
    · exact .inl rfl
    · exact .inr (.inl rfl)
theorem tidy0 {ps : List (List UInt8)} (back : List UInt8) (h47 : ∀ q ∈ ps, 47 ∉ q) (h4 : 4 ≤ ps.length) : normB (joinL [47] ps) = t0F (stepsOf ps) (lawRoot ps) back := by
  have hs := stepsOf_ok h47
  rw [norm_join (by rintro rfl; simp at h4) h47 (.inr h4)]
  obtain ⟨ds, ns, base, S⟩ := stack_inv (st := stD (stepsOf ps)) (lawRoot ps) (stD_ne hs) (stepsOf ps).length
  unfold t0F
  rw [kept0_eq hs S, ← S.acc, stD_map]; rfl
theorem law1_plain {ps : List (List UInt8)} (h47 : ∀ q ∈ ps, 47 ∉ q) (h4 : 4 ≤ ps.length) :
    normB (joinL [47] ps) = t0F (stepsOf ps) (lawRoot ps) (lawRoot ps.reverse) ∧ endB (joinL [47] ps) = t1F (stepsOf ps) (lawRoot ps) (lawRoot ps.reverse) ∧
    endB (t0F (stepsOf ps) (lawRoot ps) (lawRoot ps.reverse)) = t2F (stepsOf ps) (lawRoot ps) (lawRoot ps.reverse) ∧ normB (t1F (stepsOf ps) (lawRoot ps) (lawRoot ps.reverse)) = t3F (stepsOf ps) (lawRoot ps) (lawRoot ps.reverse) ∧
    normB (t2F (stepsOf ps) (lawRoot ps) (lawRoot ps.reverse)) = t2F (stepsOf ps) (lawRoot ps) (lawRoot ps.reverse) ∧ endB (t2F (stepsOf ps) (lawRoot ps) (lawRoot ps.reverse)) = t2F (stepsOf ps) (lawRoot ps) (lawRoot ps.reverse) ∧
    normB (t3F (stepsOf ps) (lawRoot ps) (lawRoot ps.reverse)) = t3F (stepsOf ps) (lawRoot ps) (lawRoot ps.reverse) ∧ endB (t3F (stepsOf ps) (lawRoot ps) (lawRoot ps.reverse)) = t3F (stepsOf ps) (lawRoot ps) (lawRoot ps.reverse) := by
  have hs := stepsOf_ok h47
  have hf := root_kinds ps
  have hb := root_kinds ps.reverse
  have h47' : ∀ q ∈ mir ps, 47 ∉ q := fun q hq => by have := h47 _ (mir_mem.mp hq); simpa using this
  have hc := core (back := lawRoot ps.reverse) hs hf
  have hc' := core (back := lawRoot ps) (mir_ok hs) hb
  have ht' := tidy0 (lawRoot ps) h47' (by rw [mir_len]; exact h4)
  rw [stepsOf_mir, root_mir] at ht'
  have hn : ∀ x, normB x.reverse = (endB x).reverse := fun x => by unfold endB; rw [List.reverse_reverse]
  refine ⟨tidy0 _ h47 h4, ?_, hc.1, ?_, hc.2.1, hc.2.2, ?_, ?_⟩
  · unfold endB
    rw [join_rev, ht', t1_mir hs hb]
  · rw [t1_mir hs hb, t3_mir hs hb, hn, hc'.1]
  · rw [t3_mir hs hb, hn, hc'.2.2]
  · rw [t3_mir hs hb]
    unfold endB
    rw [List.reverse_reverse, hc'.2.1]
theorem letter_ok {k : Int} (h0 : 0 ≤ k) (h1 : k < 12) : (letterB k).length ≤ 1 ∧ 47 ∉ letterB k := by
  obtain ⟨n, rfl⟩ := Int.eq_ofNat_of_zero_le h0
  have h2 : n < 12 := by omega
  have : ∀ n : Nat, n < 12 → (letterB (n : Int)).length ≤ 1 ∧ 47 ∉ letterB (n : Int) := by decide +kernel
  exact this n h2
theorem part_ok {k x : Int} (h0 : 0 ≤ k) (h1 : k < 12) : (partB k x).length ≤ 3 ∧ 47 ∉ partB k x := by
  obtain ⟨h2, h3⟩ := letter_ok h0 h1
  have hd : ∀ o : Option Int, (cutL ([46] : List UInt8) none o).length ≤ 1 ∧ 47 ∉ cutL ([46] : List UInt8) none o := fun o => by
    refine ⟨cutL_le _ _ _, fun q => ?_⟩
    unfold cutL at q
    have := List.mem_of_mem_take q
    simp at this
  unfold partB
  split
  · simp
  · split
    · exact ⟨Nat.le_trans (hd _).1 (by omega), (hd _).2⟩
    · split
      · exact ⟨by omega, h3⟩
      · split
        · exact ⟨by simp; omega, by simp [h3]⟩
        · split
          · exact ⟨by simp; omega, by simp [h3]⟩
          · exact ⟨by simp; omega, by simp [h3]⟩
noncomputable def emptN (x : Int) : List (List UInt8) := (List.replicate (if x - 4 > 0 then x - 4 else 0).toNat [([] : List UInt8)]).flatten
theorem empt_mem {x : Int} {q : List UInt8} (h : q ∈ emptN x) : q = [] := by
  unfold emptN at h
  rw [List.flatten_replicate_singleton] at h
  exact (List.mem_replicate.mp h).2
theorem fm8 {vs : List Value} {ns : List Int} (h : IntsAre vs ns) : ((0 ≤ ns.sum.fmod 8 ∧ ns.sum.fmod 8 ≤ 7) ∧ (0 ≤ (ns.sum.fdiv 8).fmod 8 ∧ (ns.sum.fdiv 8).fmod 8 ≤ 7)) ∧
    (List.replicate (if ns.sum.fmod 8 - 4 > 0 then ns.sum.fmod 8 - 4 else 0).toNat [([] : List UInt8)]).flatten.length ≤ 3 ∧ (List.replicate (if (ns.sum.fdiv 8).fmod 8 - 4 > 0 then (ns.sum.fdiv 8).fmod 8 - 4 else 0).toNat [([] : List UInt8)]).flatten.length ≤ 3 := by
  have a := Int.fmod_nonneg_of_pos ns.sum (b := 8) (by decide)
  have b := Int.fmod_lt_of_pos ns.sum (b := 8) (by decide)
  have c := Int.fmod_nonneg_of_pos (ns.sum.fdiv 8) (b := 8) (by decide)
  have d := Int.fmod_lt_of_pos (ns.sum.fdiv 8) (b := 8) (by decide)
  refine ⟨⟨⟨a, by omega⟩, c, by omega⟩, ?_, ?_⟩ <;> (rw [List.flatten_replicate_singleton, List.length_replicate]; split <;> omega)
theorem parts_ok {ps A B : List (List UInt8)} {ring : List (List UInt8)} (e : A ++ ring ++ B = ps) (hA : ∀ q ∈ A, q = []) (hB : ∀ q ∈ B, q = []) (hAl : A.length ≤ 3) (hBl : B.length ≤ 3) (hl : ring.length = 12) (hR : ∀ (i : Nat) b, ring[i]? = some b → ∃ x : Int, 0 ≤ x ∧ x < 20 ∧ b = partB (i : Int) x) :
    (∀ q ∈ ps, 47 ∉ q) ∧ 4 ≤ ps.length ∧ ps.length ≤ 18 ∧ (∀ q ∈ ps, q.length ≤ 3) ∧ (joinL [47] ps).length ≤ 100 ∧ 11 ≤ (joinL [47] ps).length ∧ (stepsOf ps).length ≤ 12 ∧ ∀ q ∈ stepsOf ps, q.length ≤ 3 := by
  have hr : ∀ q ∈ ring, q.length ≤ 3 ∧ 47 ∉ q := fun q hq => by
    obtain ⟨i, hi⟩ := List.mem_iff_getElem?.mp hq
    have h7 : i < 12 := by rw [← hl]; exact (List.getElem?_eq_some_iff.mp hi).1
    obtain ⟨x, h0, h1, rfl⟩ := hR i q hi
    exact part_ok (by omega) (by omega)
  have hp : ∀ q ∈ ps, q.length ≤ 3 ∧ 47 ∉ q := fun q hq => by
    rw [← e, List.mem_append, List.mem_append] at hq
    rcases hq with (hq | hq) | hq
    · rw [hA q hq]; simp
    · exact hr q hq
    · rw [hB q hq]; simp
  have hlen : ps.length = A.length + 12 + B.length := by rw [← e]; simp [hl]; omega
  have hsum : ∀ l : List (List UInt8), (∀ q ∈ l, q.length ≤ 3) → (l.map List.length).sum ≤ 3 * l.length := by
    intro l
    induction l with
    | nil => simp
    | cons q l ih =>
      intro h
      have := ih fun q hq => h q (.tail _ hq)
      have := h q (.head _)
      simp only [List.map_cons, List.sum_cons, List.length_cons]
      omega
  have hs := hsum ps fun q hq => (hp q hq).1
  have hj := joinL_length [47] ps
  simp only [List.length_cons, List.length_nil] at hj
  refine ⟨fun q hq => (hp q hq).2, by omega, by omega, fun q hq => (hp q hq).1, by omega, by omega, ?_, fun q hq => (hp q ((List.mem_filter.mp hq).1)).1⟩
  unfold stepsOf
  have hz : ∀ l : List (List UInt8), (∀ q ∈ l, q = []) → (l.filter fun q => !skips q) = [] := fun l h => List.filter_eq_nil_iff.mpr fun q hq => by rw [h q hq]; simp [skips]
  rw [← e, List.filter_append, List.filter_append, hz A hA, hz B hB]
  have := List.length_filter_le (fun q => !skips q) ring
  simp only [List.nil_append, List.append_nil]
  omega
theorem parts_get {ws : List Value} {A B ring : List (List UInt8)} (h : BytesAre ws (A ++ ring ++ B)) (hA : ∀ q ∈ A, q = []) (hB : ∀ q ∈ B, q = []) (hAl : A.length ≤ 3) (hBl : B.length ≤ 3) (hl : ring.length = 12) (hR : ∀ (i : Nat) b, ring[i]? = some b → ∃ x : Int, 0 ≤ x ∧ x < 20 ∧ b = partB (i : Int) x) :
    ∃ ps, BytesAre ws ps ∧ (∀ q ∈ ps, 47 ∉ q) ∧ 4 ≤ ps.length ∧ ps.length ≤ 18 ∧ (∀ q ∈ ps, q.length ≤ 3) ∧ (joinL [47] ps).length ≤ 100 ∧ 11 ≤ (joinL [47] ps).length ∧ (stepsOf ps).length ≤ 12 ∧ ∀ q ∈ stepsOf ps, q.length ≤ 3 := ⟨_, h, parts_ok rfl hA hB hAl hBl hl hR⟩
theorem endB_len (p : List UInt8) : (endB p).length ≤ 2 * p.length + 4 := by
  have := normB_len p.reverse
  unfold endB
  rw [List.length_reverse]
  rw [List.length_reverse] at this
  exact this
theorem endB_ne (p : List UInt8) : endB p ≠ [] := by
  intro e
  exact normB_ne p.reverse (by unfold endB at e; simpa using e)
theorem law1_T {ps : List (List UInt8)} {path : List UInt8} (h47 : ∀ q ∈ ps, 47 ∉ q) (h4 : 4 ≤ ps.length) (hpath : joinL [47] ps = path) (hj : path.length ≤ 100) :
    ∃ T0 T1 T2 T3 : List UInt8, normB path = T0 ∧ endB path = T1 ∧ endB T0 = T2 ∧ normB T1 = T3 ∧ normB T2 = T2 ∧ endB T2 = T2 ∧ normB T3 = T3 ∧ endB T3 = T3 ∧
      [t0F (stepsOf ps) (lawRoot ps) (lawRoot ps.reverse), t1F (stepsOf ps) (lawRoot ps) (lawRoot ps.reverse), t2F (stepsOf ps) (lawRoot ps) (lawRoot ps.reverse), t3F (stepsOf ps) (lawRoot ps) (lawRoot ps.reverse)] = [T0, T1, T2, T3] ∧
      (T0.length ≤ 1000 ∧ T1.length ≤ 1000 ∧ T2.length ≤ 1000 ∧ T3.length ≤ 1000) ∧ T0 ≠ [] ∧ T1 ≠ [] ∧ T2 ≠ [] ∧ T3 ≠ [] := by
  obtain ⟨e0, e1, e2, e3, e4, e5, e6, e7⟩ := law1_plain h47 h4
  rw [hpath] at e0 e1
  have l0 := normB_len path
  have l1 := endB_len path
  have l2 := endB_len (normB path)
  have l3 := normB_len (endB path)
  refine ⟨_, _, _, _, e0, e1, e2, e3, e4, e5, e6, e7, rfl, ⟨?_, ?_, ?_, ?_⟩, ?_, ?_, ?_, ?_⟩
  · rw [← e0]; omega
  · rw [← e1]; omega
  · rw [← e2, ← e0]; omega
  · rw [← e3, ← e1]; omega
  · rw [← e0]; exact normB_ne _
  · rw [← e1]; exact endB_ne _
  · rw [← e2]; exact endB_ne _
  · rw [← e3]; exact normB_ne _
theorem getLastD_mem : ∀ {l : List Int}, l ≠ [] → l.getLastD 0 ∈ l
  | [], h => absurd rfl h
  | [a], _ => by simp
  | a :: b :: l, _ => by
    have := getLastD_mem (l := b :: l) (by simp)
    rw [show (a :: b :: l).getLastD 0 = (b :: l).getLastD 0 from by simp]
    exact List.mem_cons_of_mem _ this
theorem hsL_bound (steps : List (List UInt8)) : ∀ i, ∀ h ∈ hsL steps i, -(i : Int) ≤ h ∧ h ≤ (i : Int)
  | 0, h, hh => by
    have : h = 0 := by simpa [hsL] using hh
    omega
  | i + 1, h, hh => by
    rw [hsL, List.mem_append] at hh
    rcases hh with hh | hh
    · have := hsL_bound steps i h hh; omega
    · have h1 := hsL_bound steps i _ (getLastD_mem (hsL_ne steps i))
      rw [List.mem_singleton] at hh
      split at hh <;> omega
theorem hsL_dd {steps : List (List UInt8)} {i : Nat} {c : List UInt8} (h : steps[i]? = some c) (hc : c = [46, 46]) {us : List Value} {t : Tok} (hu : IntsAre us (hsL steps i)) : IntsAre (us.toArray.push (.int ((hsL steps i).getLastD 0 + -1) t)).toList (hsL steps (i + 1)) := by
  have e : steps.getD i [] = c := by rw [List.getD_eq_getElem?_getD, h]; rfl
  rw [hsL, e, if_pos hc, Array.toList_push]
  exact intsAre_append hu (.cons _ _ .nil)
theorem hsL_nm {steps : List (List UInt8)} {i : Nat} {c : List UInt8} (h : steps[i]? = some c) (hc : ¬ c = [46, 46]) {us : List Value} {t : Tok} (hu : IntsAre us (hsL steps i)) : IntsAre (us.toArray.push (.int ((hsL steps i).getLastD 0 + 1) t)).toList (hsL steps (i + 1)) := by
  have e : steps.getD i [] = c := by rw [List.getD_eq_getElem?_getD, h]; rfl
  rw [hsL, e, if_neg hc, Array.toList_push]
  exact intsAre_append hu (.cons _ _ .nil)
theorem getLastD_take {l : List Int} {k : Nat} (h : k < l.length) : (l.take (k + 1)).getLastD 0 = l.getD k 0 := by
  rw [List.getLastD_eq_getLast?, List.getLast?_eq_getElem?, List.length_take, List.getD_eq_getElem?_getD]
  have : min (k + 1) l.length - 1 = k := by omega
  rw [this, List.getElem?_take_of_lt (by omega)]
theorem getD_drop {l : List Int} {k : Nat} : (l.drop k).getD (Int.toNat 0) 0 = l.getD k 0 := by
  rw [List.getD_eq_getElem?_getD, List.getD_eq_getElem?_getD, List.getElem?_drop]; rfl
theorem getD_take {l ah : List Int} {k : Nat} (h : k < l.length) (e : l.take (k + 1) = ah) (hl : ah.length = k + 1) : ah.getD (-1 + (ah.length : Int)).toNat 0 = l.getD k 0 := by
  rw [hl]
  have : (-1 + ((k + 1 : Nat) : Int)).toNat = k := by omega
  rw [this, ← e, List.getD_eq_getElem?_getD, List.getD_eq_getElem?_getD, List.getElem?_take_of_lt (by omega)]
theorem getD_last {l : List Int} {n : Nat} (h : l.length = n + 1) : l.getD (-1 + (l.length : Int)).toNat 0 = l.getD n 0 := by
  rw [h]
  have : (-1 + ((n + 1 : Nat) : Int)).toNat = n := by omega
  rw [this]
theorem gt_min {l : List Int} {M b : Int} (h1 : M ∈ l) (h2 : ∀ a, a ∈ l → M ≤ a) : decide (b < M) = l.all fun a => decide (b < a) := by
  rw [Bool.eq_iff_iff]
  simp only [decide_eq_true_eq, List.all_eq_true]
  exact ⟨fun h a ha => by have := h2 a ha; omega, fun h => h M h1⟩
theorem lt_max {l : List Int} {M b : Int} (h1 : M ∈ l) (h2 : ∀ a, a ∈ l → a ≤ M) : decide (M < b) = l.all fun a => decide (a < b) := by
  rw [Bool.eq_iff_iff]
  simp only [decide_eq_true_eq, List.all_eq_true]
  exact ⟨fun h a ha => by have := h2 a ha; omega, fun h => h M h1⟩
section
variable {l : List Int} {M b b' a a' c c' : Int} {f : List UInt8} {X Y : Bool}
theorem cA1 (h : decide (f = []) = true) (e : b = b') (h1 : M ∈ l) (h2 : ∀ a, a ∈ l → M ≤ a) : decide (b < M) = (decide (f = []) && l.all fun a => decide (b' < a)) := by rw [h, Bool.true_and, ← e]; exact gt_min h1 h2
theorem cA2 (h : decide (f = []) = false) : decide (f = []) = (decide (f = []) && X) := by rw [h]; rfl
theorem cB1 (h : decide (f = []) = true) (e : b = b') (h1 : M ∈ l) (h2 : ∀ a, a ∈ l → a ≤ M) : decide (M < b) = (decide (f = []) && l.all fun a => decide (a < b')) := by rw [h, Bool.true_and, ← e]; exact lt_max h1 h2
theorem cC1 (h : X = true) (h2 : f ≠ []) : decide (f ≠ []) = (X && (decide (f ≠ []) || Y)) := by rw [h, decide_eq_true h2]; rfl
theorem cC2 (h : X = true) (h2 : ¬ f ≠ []) (e : a = a') : decide (0 ≤ a) = (X && (decide (f ≠ []) || decide (0 ≤ a'))) := by rw [h, decide_eq_false h2, e]; rfl
theorem cD2 (h : X = true) (h2 : ¬ f ≠ []) (e : a = a') (e2 : b = b') : decide (a ≤ b) = (X && (decide (f ≠ []) || decide (a' ≤ b'))) := by rw [h, decide_eq_false h2, e, e2]; rfl
theorem cC3 (h : X = false) : X = (X && Y) := by rw [h]; rfl
end
noncomputable def gI (base : Nat → List (List UInt8)) (bs : List Bool) (c : List UInt8) (j side : Nat) : List (List UInt8) := base side ++ (if side < j ∧ bs.getD side false = true then [c] else [])
section
variable {base : Nat → List (List UInt8)} {bs : List Bool} {c : List UInt8} {j side : Nat} {us : List Value}
theorem gI_zero (h : BytesAre us (base side)) : BytesAre us (gI base bs c 0 side) := by simpa [gI] using h
theorem gI_same (hne : side ≠ j) (h : BytesAre us (gI base bs c j side)) : BytesAre us (gI base bs c (j + 1) side) := by
  have e : (side < j + 1 ∧ bs.getD side false = true) = (side < j ∧ bs.getD side false = true) := by
    apply propext; constructor
    · rintro ⟨h1, h2⟩; exact ⟨by omega, h2⟩
    · rintro ⟨h1, h2⟩; exact ⟨by omega, h2⟩
  unfold gI at h ⊢
  simp only [e]; exact h
theorem gI_yes {t : Tok} (hb : bs.getD j false = true) (h : BytesAre us (gI base bs c j j)) : BytesAre (us.toArray.push (.bytes c.toArray t)).toList (gI base bs c (j + 1) j) := by
  have := h.push (c := c) (t := t)
  unfold gI at this ⊢
  rw [if_neg (by omega), List.append_nil] at this
  rw [if_pos ⟨by omega, hb⟩]
  exact this
end
theorem gI_skip {base : Nat → List (List UInt8)} {bs : List Bool} {c : List UInt8} {j : Nat} (hb : bs.getD j false = false) : gI base bs c (j + 1) = gI base bs c j := by
  funext side
  unfold gI
  have e : (side < j + 1 ∧ bs.getD side false = true) = (side < j ∧ bs.getD side false = true) := by
    apply propext; constructor
    · rintro ⟨h1, h2⟩
      refine ⟨?_, h2⟩
      by_cases e : side = j
      · subst e; rw [hb] at h2; cases h2
      · omega
    · rintro ⟨h1, h2⟩; exact ⟨by omega, h2⟩
  simp only [e]
theorem gI_full {steps : List (List UInt8)} {front back : List UInt8} {i side n : Nat} {us : List Value} (hn : ∀ side, n ≤ side → (stayF steps front back i).getD side false = false) (h : BytesAre us (gI (keptN steps front back i) (stayF steps front back i) (steps.getD (0 + (i : Int) * 1).toNat []) n side)) : BytesAre us (keptN steps front back (i + 1) side) := by
  have ei : (0 + (i : Int) * 1).toNat = i := by omega
  rw [ei] at h
  unfold gI at h
  unfold keptN
  have e : (side < n ∧ (stayF steps front back i).getD side false = true) = ((stayF steps front back i).getD side false = true) := by
    apply propext; constructor
    · exact fun h => h.2
    · intro h2
      refine ⟨?_, h2⟩
      by_cases h3 : side < n
      · exact h3
      · rw [hn side (by omega)] at h2; cases h2
  simp only [e] at h
  exact h
theorem keptN_len (steps : List (List UInt8)) (front back : List UInt8) : ∀ i side, (keptN steps front back i side).length ≤ i
  | 0, _ => by simp [keptN]
  | i + 1, side => by
    have := keptN_len steps front back i side
    unfold keptN
    rw [List.length_append]
    split <;> simp <;> omega
theorem gI_len {steps : List (List UInt8)} {front back : List UInt8} {i : Nat} {bs : List Bool} {c : List UInt8} {j side : Nat} {us : List Value} (h : BytesAre us (gI (keptN steps front back i) bs c j side)) : us.length ≤ i + 1 := by
  rw [h.length]
  have := keptN_len steps front back i side
  unfold gI
  rw [List.length_append]
  split <;> simp <;> omega
theorem keptN_sum {steps : List (List UInt8)} (hq : ∀ q ∈ steps, q.length ≤ 3) (front back : List UInt8) (side : Nat) : ∀ i, ((keptN steps front back i side).map List.length).sum ≤ 3 * i
  | 0 => by simp [keptN]
  | i + 1 => by
    have h1 := keptN_sum hq front back side i
    have h2 : (steps.getD i []).length ≤ 3 := by
      rw [List.getD_eq_getElem?_getD]
      cases e : steps[i]? with
      | none => exact Nat.zero_le _
      | some q => exact hq q (List.mem_of_getElem? e)
    unfold keptN
    rw [List.map_append, List.sum_append]
    split
    · simp only [List.map_cons, List.map_nil, List.sum_cons, List.sum_nil]; omega
    · simp only [List.map_nil, List.sum_nil]; omega
theorem keptN_size {steps : List (List UInt8)} (hn : steps.length ≤ 12) (hq : ∀ q ∈ steps, q.length ≤ 3) (front back : List UInt8) (side : Nat) : (joinL [47] (keptN steps front back steps.length side)).length ≤ 100 := by
  have h1 := keptN_sum hq front back side steps.length
  have h2 := keptN_len steps front back steps.length side
  rw [joinL_length]
  simp only [List.length_cons, List.length_nil]
  omega
section
variable {a b c d : List UInt8}
theorem or3a (h : a ≠ []) : orB a (orB b (orB c d)) = a := or_some h
theorem or3b (h : ¬ a ≠ []) (h2 : b ≠ []) : orB a (orB b (orB c d)) = b := by rw [or_nil (Classical.not_not.mp h)]; exact or_some h2
theorem or3c (h : ¬ a ≠ []) (h2 : ¬ b ≠ []) (h3 : c ≠ []) : orB a (orB b (orB c d)) = c := by rw [or_nil (Classical.not_not.mp h), or_nil (Classical.not_not.mp h2)]; exact or_some h3
theorem or3d (h : ¬ a ≠ []) (h2 : ¬ b ≠ []) (h3 : ¬ c ≠ []) : orB a (orB b (orB c d)) = d := by rw [or_nil (Classical.not_not.mp h), or_nil (Classical.not_not.mp h2), or_nil (Classical.not_not.mp h3)]
end
section
variable {M : Model} {A : Around} {E : Value → Shared → Prop} {s : Shared} {env : Env}
theorem wpG_quad {e1 e2 e3 e4 : Expr} {pos : Pos} {Q : Value → Shared → Prop}
    (h : wpG M A (eval e1 env) (fun v s₁ => wpG M A (eval e2 env) (fun v2 s₂ => wpG M A (eval e3 env) (fun v3 s₃ => wpG M A (eval e4 env) (fun v4 s₄ => wpAny M A (newList [v, v2, v3, v4]) Q E s₄) E s₃) E s₂) E s₁) E s)
    (he : starEach [e1, e2, e3, e4] env = [(false, eval e1 env), (false, eval e2 env), (false, eval e3 env), (false, eval e4 env)] := by rfl) : wpG M A (eval (.List [e1, e2, e3, e4] pos) env) Q E s := by
  rw [arm_eval_List]
  refine wpG_bind (wpG_standAt (wpG_bind (wpG_mono ?_ (fun vs s' h' => wpG_of h') fun _ _ e => e)))
  rw [he]
  exact wpG_spliced_cons (wpG_mono h (fun v s₁ h₁ => wpG_spliced_cons (wpG_mono h₁ (fun v2 s₂ h₂ => wpG_spliced_cons (wpG_mono h₂ (fun v3 s₃ h₃ => wpG_spliced_cons (wpG_mono h₃ (fun v4 s₄ h₄ => wpG_spliced_nil h₄) fun _ _ e => e)) fun _ _ e => e)) fun _ _ e => e)) fun _ _ e => e)
end
noncomputable def dueL (steps : List (List UInt8)) (front back : List UInt8) : List (List UInt8) := [t0F steps front back, t1F steps front back, t2F steps front back, t3F steps front back]
theorem stayF_len (steps : List (List UInt8)) (front back : List UInt8) (i : Nat) : (stayF steps front back i).length ≤ 4 := by
  unfold stayF
  split
  · exact (by decide : 2 ≤ 4)
  · exact Nat.le_refl 4
noncomputable abbrev dueRet (s : Shared) (Q : Value → Shared → Prop) (ts : List (List UInt8)) : Prop :=
  ∀ (D : Addr) (ws : List Value) (h' : Heap) (tk' : Nat), BytesAre ws ts → (∀ b o, s.heap.get? b = some o → h'.get? b = some o) → h'.get? D = some (listOf ws.toArray 0) → s.heap.get? D = none → Q (.ref D) { s with heap := h', toks := tk' }
theorem due_end {s : Shared} {Q : Value → Shared → Prop} {g h' : Heap} {ts : List (List UInt8)} {ws : List Value} {D L' : Addr} {m' : Str → Option Value} {news : List (Addr × Obj)} {tk' : Nat} (ret : dueRet s Q ts) (hG : GSub s.heap g (([] : List (Addr × Obj)).map (·.1))) (F : Fr g L' h' m')
    (N : News g L' h' ((D, listOf ws.toArray 0) :: news)) (hb : BytesAre ws ts) : Q (.ref D) { s with heap := h', toks := tk' } := by
  refine ret D ws h' tk' hb (gsub_nil hG F) (N _ (.head _)).1 ?_
  cases q : s.heap.get? D with
  | none => rfl
  | some o =>
    have := (N _ (.head _)).2.2
    rw [hG _ _ q (fun q => by cases q)] at this
    cases this
section
variable {w : World} {mean : ExcName → Option Value} {mg mb : Str → Option Value} {dp un : Nat} {gd : Option (List Code)} {cn : Str} {cs : Scope} {a : Addr} {ccd : Value} {cl : List (Str × Addr)} {outer : List Env} {A₀ : Around} {base h₀ : Heap} {L : Addr} {m : Str → Option Value} {news : List (Addr × Obj)} {s : Shared} {Q E : Value → Shared → Prop}
theorem due_call {l : Addr} {vs : List Value} {steps : List (List UInt8)} {front back : List UInt8} {tf tb : Tok}
    (B : Below A₀ base outer h₀) (F : Fr h₀ L s.heap m) (X : (hd.heap_39 w.params).In h₀) (T : Top hd.view_39 (looseW hd.view_39 []) mean mg mb h₀) (hk : cs.kind = .function)
    (hd1 : dp + 3 < recursionLimit) (hu : un + 60 < cLine) (hl : s.heap.IsList l vs.toArray) (hv : BytesAre vs steps) (hn : steps.length ≤ 12) (hq : ∀ q ∈ steps, q.length ≤ 3) (hf : front.length ≤ 2) (hb : back.length ≤ 2) (ret : dueRet s Q (dueL steps front back)) :
    wpG (model Challenge.rw_nq0013_01.row.prog w) (ktrTop dp un gd cn cs L a ccd cl outer) (call (.ref 148) [.ref l, .bytes front.toArray tf, .bytes back.toArray tb]) Q E s := by
  w_top off
  revert X
  k_fill
  intro X
  refine wpG_call ?_
  k_dflt ((refine' code_defGG ?k1 ?k2 ?k3 ?k5 ?kA ?kF ?kK ?k6 ?k7 ?k8 ?k9 ?kB ?_ ?c2 ?c3 ?c4 ?c5; (case kA => exact rfl); (case kF => exact rfl); (case kK => assumption); (case k1 => k_asm); (case k2 => k_asm); (case k3 => k_asm); (case k5 => k_asm); (case k6 => k_is); (case k7 => k_is); (case k8 => ktr_room); (case k9 => exact BindsTo.of_eq rfl); (case c5 => decide); (case kB => exact locs rfl); (case c2 => exact rfl); (case c3 => exact rfl); (case c4 => exact rfl); k_whole; intro g' L' h' FG' F' N' B' X' T' hG'; (try dsimp only); (try k_lift B')))
  (with_reducible rename GSub _ _ _ => hG)
  have hl' := hl.at fun o e => hG _ o e (fun q => by cases q)
  refine wpG_execs_cons (wpG_of ?_)
  (repeat' (first | (k_unfold; (try dsimp only)) | ((((((((((((((fail_if_success (with_reducible show InvPostN _ _ _ _ _ _ _ _ _)); (fail_if_success (with_reducible show InvEndN _ _ _ _ _ _ _)); (fail_if_success (with_reducible show wpG _ _ _ _ _ _)); (fail_if_success (with_reducible show wpAny _ _ (pyIter (Value.ref _)) _ _ _)))); (fail_if_success (with_reducible show LCg.CompSrc _ _ _ _ _ _ _ _ _ _ _ _ _ _)); (fail_if_success (with_reducible show LCg.CompEnd _ _ _ _ _ _ _ _ _ _ _ _ _ _)))); (fail_if_success (with_reducible show wpAny _ _ (eval (Expr.ListComp _ _ _ _) _) _ _ _)))); (fail_if_success (with_reducible show wpAny _ _ (call (Value.ref _) _) _ _ _)))); (fail_if_success (with_reducible show wpAny _ _ (exec (Stmt.While _ _ _ _) _) _ _ _)); (fail_if_success (with_reducible show WhileStep _ _ _ _ _ _ _)))); (fail_if_success (with_reducible show wpAny _ _ (subscriptTail _ _ (Value.ref _) (Value.ref _)) _ _ _)); (fail_if_success (with_reducible show wpAny _ _ (exec (Stmt.For _ _ _ _ _) _) _ _ _)); (fail_if_success (with_reducible show wpAny _ _ (eval (Expr.BoolOp _ _ _) _) _ _ _)); (fail_if_success (with_reducible show StayCut _ _ _ _ _ _ _ _ _ _ _ _ _ _ _ _ _ _)); (fail_if_success (with_reducible show BoolCut _ _ _ _ _ _ _ _)); (fail_if_success (with_reducible show BytesCut _ _ _ _ _ _ _ _)))); walk1) | ((((((((((((((fail_if_success (with_reducible show InvPostN _ _ _ _ _ _ _ _ _)); (fail_if_success (with_reducible show InvEndN _ _ _ _ _ _ _)); (fail_if_success (with_reducible show wpG _ _ _ _ _ _)); (fail_if_success (with_reducible show wpAny _ _ (pyIter (Value.ref _)) _ _ _)))); (fail_if_success (with_reducible show LCg.CompSrc _ _ _ _ _ _ _ _ _ _ _ _ _ _)); (fail_if_success (with_reducible show LCg.CompEnd _ _ _ _ _ _ _ _ _ _ _ _ _ _)))); (fail_if_success (with_reducible show wpAny _ _ (eval (Expr.ListComp _ _ _ _) _) _ _ _)))); (fail_if_success (with_reducible show wpAny _ _ (call (Value.ref _) _) _ _ _)))); (fail_if_success (with_reducible show wpAny _ _ (exec (Stmt.While _ _ _ _) _) _ _ _)); (fail_if_success (with_reducible show WhileStep _ _ _ _ _ _ _)))); (fail_if_success (with_reducible show wpAny _ _ (subscriptTail _ _ (Value.ref _) (Value.ref _)) _ _ _)); (fail_if_success (with_reducible show wpAny _ _ (exec (Stmt.For _ _ _ _ _) _) _ _ _)); (fail_if_success (with_reducible show wpAny _ _ (eval (Expr.BoolOp _ _ _) _) _ _ _)); (fail_if_success (with_reducible show StayCut _ _ _ _ _ _ _ _ _ _ _ _ _ _ _ _ _ _)); (fail_if_success (with_reducible show BoolCut _ _ _ _ _ _ _ _)); (fail_if_success (with_reducible show BytesCut _ _ _ _ _ _ _ _)))); dsimp only; walk1) | ((((((((((((((fail_if_success (with_reducible show InvPostN _ _ _ _ _ _ _ _ _)); (fail_if_success (with_reducible show InvEndN _ _ _ _ _ _ _)); (fail_if_success (with_reducible show wpG _ _ _ _ _ _)); (fail_if_success (with_reducible show wpAny _ _ (pyIter (Value.ref _)) _ _ _)))); (fail_if_success (with_reducible show LCg.CompSrc _ _ _ _ _ _ _ _ _ _ _ _ _ _)); (fail_if_success (with_reducible show LCg.CompEnd _ _ _ _ _ _ _ _ _ _ _ _ _ _)))); (fail_if_success (with_reducible show wpAny _ _ (eval (Expr.ListComp _ _ _ _) _) _ _ _)))); (fail_if_success (with_reducible show wpAny _ _ (call (Value.ref _) _) _ _ _)))); (fail_if_success (with_reducible show wpAny _ _ (exec (Stmt.While _ _ _ _) _) _ _ _)); (fail_if_success (with_reducible show WhileStep _ _ _ _ _ _ _)))); (fail_if_success (with_reducible show wpAny _ _ (subscriptTail _ _ (Value.ref _) (Value.ref _)) _ _ _)); (fail_if_success (with_reducible show wpAny _ _ (exec (Stmt.For _ _ _ _ _) _) _ _ _)); (fail_if_success (with_reducible show wpAny _ _ (eval (Expr.BoolOp _ _ _) _) _ _ _)); (fail_if_success (with_reducible show StayCut _ _ _ _ _ _ _ _ _ _ _ _ _ _ _ _ _ _)); (fail_if_success (with_reducible show BoolCut _ _ _ _ _ _ _ _)); (fail_if_success (with_reducible show BytesCut _ _ _ _ _ _ _ _)))); leave1; walk_say "STEP leave1"; try dsimp only) | fail "no step"))
  dsimp only
  refine wpG_execs_cons (wpG_of ?_)
  (with_reducible rename Fr _ _ _ _ => kF)
  (with_reducible rename News _ _ _ _ => kN)
  with_unfolding_all refine For_invVF kF (by rfl) (by rfl) ?_
  (repeat' (first | (k_unfold; (try dsimp only)) | ((((((((((((((fail_if_success (with_reducible show InvPostN _ _ _ _ _ _ _ _ _)); (fail_if_success (with_reducible show InvEndN _ _ _ _ _ _ _)); (fail_if_success (with_reducible show wpG _ _ _ _ _ _)); (fail_if_success (with_reducible show wpAny _ _ (pyIter (Value.ref _)) _ _ _)))); (fail_if_success (with_reducible show LCg.CompSrc _ _ _ _ _ _ _ _ _ _ _ _ _ _)); (fail_if_success (with_reducible show LCg.CompEnd _ _ _ _ _ _ _ _ _ _ _ _ _ _)))); (fail_if_success (with_reducible show wpAny _ _ (eval (Expr.ListComp _ _ _ _) _) _ _ _)))); (fail_if_success (with_reducible show wpAny _ _ (call (Value.ref _) _) _ _ _)))); (fail_if_success (with_reducible show wpAny _ _ (exec (Stmt.While _ _ _ _) _) _ _ _)); (fail_if_success (with_reducible show WhileStep _ _ _ _ _ _ _)))); (fail_if_success (with_reducible show wpAny _ _ (subscriptTail _ _ (Value.ref _) (Value.ref _)) _ _ _)); (fail_if_success (with_reducible show wpAny _ _ (exec (Stmt.For _ _ _ _ _) _) _ _ _)); (fail_if_success (with_reducible show wpAny _ _ (eval (Expr.BoolOp _ _ _) _) _ _ _)); (fail_if_success (with_reducible show StayCut _ _ _ _ _ _ _ _ _ _ _ _ _ _ _ _ _ _)); (fail_if_success (with_reducible show BoolCut _ _ _ _ _ _ _ _)); (fail_if_success (with_reducible show BytesCut _ _ _ _ _ _ _ _)))); walk1) | ((((((((((((((fail_if_success (with_reducible show InvPostN _ _ _ _ _ _ _ _ _)); (fail_if_success (with_reducible show InvEndN _ _ _ _ _ _ _)); (fail_if_success (with_reducible show wpG _ _ _ _ _ _)); (fail_if_success (with_reducible show wpAny _ _ (pyIter (Value.ref _)) _ _ _)))); (fail_if_success (with_reducible show LCg.CompSrc _ _ _ _ _ _ _ _ _ _ _ _ _ _)); (fail_if_success (with_reducible show LCg.CompEnd _ _ _ _ _ _ _ _ _ _ _ _ _ _)))); (fail_if_success (with_reducible show wpAny _ _ (eval (Expr.ListComp _ _ _ _) _) _ _ _)))); (fail_if_success (with_reducible show wpAny _ _ (call (Value.ref _) _) _ _ _)))); (fail_if_success (with_reducible show wpAny _ _ (exec (Stmt.While _ _ _ _) _) _ _ _)); (fail_if_success (with_reducible show WhileStep _ _ _ _ _ _ _)))); (fail_if_success (with_reducible show wpAny _ _ (subscriptTail _ _ (Value.ref _) (Value.ref _)) _ _ _)); (fail_if_success (with_reducible show wpAny _ _ (exec (Stmt.For _ _ _ _ _) _) _ _ _)); (fail_if_success (with_reducible show wpAny _ _ (eval (Expr.BoolOp _ _ _) _) _ _ _)); (fail_if_success (with_reducible show StayCut _ _ _ _ _ _ _ _ _ _ _ _ _ _ _ _ _ _)); (fail_if_success (with_reducible show BoolCut _ _ _ _ _ _ _ _)); (fail_if_success (with_reducible show BytesCut _ _ _ _ _ _ _ _)))); dsimp only; walk1) | ((((((((((((((fail_if_success (with_reducible show InvPostN _ _ _ _ _ _ _ _ _)); (fail_if_success (with_reducible show InvEndN _ _ _ _ _ _ _)); (fail_if_success (with_reducible show wpG _ _ _ _ _ _)); (fail_if_success (with_reducible show wpAny _ _ (pyIter (Value.ref _)) _ _ _)))); (fail_if_success (with_reducible show LCg.CompSrc _ _ _ _ _ _ _ _ _ _ _ _ _ _)); (fail_if_success (with_reducible show LCg.CompEnd _ _ _ _ _ _ _ _ _ _ _ _ _ _)))); (fail_if_success (with_reducible show wpAny _ _ (eval (Expr.ListComp _ _ _ _) _) _ _ _)))); (fail_if_success (with_reducible show wpAny _ _ (call (Value.ref _) _) _ _ _)))); (fail_if_success (with_reducible show wpAny _ _ (exec (Stmt.While _ _ _ _) _) _ _ _)); (fail_if_success (with_reducible show WhileStep _ _ _ _ _ _ _)))); (fail_if_success (with_reducible show wpAny _ _ (subscriptTail _ _ (Value.ref _) (Value.ref _)) _ _ _)); (fail_if_success (with_reducible show wpAny _ _ (exec (Stmt.For _ _ _ _ _) _) _ _ _)); (fail_if_success (with_reducible show wpAny _ _ (eval (Expr.BoolOp _ _ _) _) _ _ _)); (fail_if_success (with_reducible show StayCut _ _ _ _ _ _ _ _ _ _ _ _ _ _ _ _ _ _)); (fail_if_success (with_reducible show BoolCut _ _ _ _ _ _ _ _)); (fail_if_success (with_reducible show BytesCut _ _ _ _ _ _ _ _)))); leave1; walk_say "STEP leave1"; try dsimp only) | fail "no step"))
  refine iter_vl (us₀ := [.int 0 _]) (fun i us => IntsAre us (hsL steps i)) rfl (isl_keep kF hl') ?_ kF kN ?_ hv (.cons _ _ .nil) ?_ ?_
  · exact isl_ne_locals kF hl'
  · exact isl_ne_new kN (.head _) hl'
  · intro i c t us n h tk own hic hoff hus F₁ N₁
    clear kF kN
    have hi : i < steps.length := (List.getElem?_eq_some_iff.mp hic).1
    have hne := hsL_ne steps i
    have hbd := hsL_bound steps i _ (getLastD_mem hne)
    have huz : us.length ≤ 13 := by rw [hus.length, hsL_len]; omega
    (repeat' (first | (k_unfold; (try dsimp only)) | ((((((((((((((fail_if_success (with_reducible show InvPostN _ _ _ _ _ _ _ _ _)); (fail_if_success (with_reducible show InvEndN _ _ _ _ _ _ _)); (fail_if_success (with_reducible show wpG _ _ _ _ _ _)); (fail_if_success (with_reducible show wpAny _ _ (pyIter (Value.ref _)) _ _ _)))); (fail_if_success (with_reducible show LCg.CompSrc _ _ _ _ _ _ _ _ _ _ _ _ _ _)); (fail_if_success (with_reducible show LCg.CompEnd _ _ _ _ _ _ _ _ _ _ _ _ _ _)))); (fail_if_success (with_reducible show wpAny _ _ (eval (Expr.ListComp _ _ _ _) _) _ _ _)))); (fail_if_success (with_reducible show wpAny _ _ (call (Value.ref _) _) _ _ _)))); (fail_if_success (with_reducible show wpAny _ _ (exec (Stmt.While _ _ _ _) _) _ _ _)); (fail_if_success (with_reducible show WhileStep _ _ _ _ _ _ _)))); (fail_if_success (with_reducible show wpAny _ _ (subscriptTail _ _ (Value.ref _) (Value.ref _)) _ _ _)); (fail_if_success (with_reducible show wpAny _ _ (exec (Stmt.For _ _ _ _ _) _) _ _ _)); (fail_if_success (with_reducible show wpAny _ _ (eval (Expr.BoolOp _ _ _) _) _ _ _)); (fail_if_success (with_reducible show StayCut _ _ _ _ _ _ _ _ _ _ _ _ _ _ _ _ _ _)); (fail_if_success (with_reducible show BoolCut _ _ _ _ _ _ _ _)); (fail_if_success (with_reducible show BytesCut _ _ _ _ _ _ _ _)))); (first | (with_reducible (k_here; (with_reducible show wpAny _ _ (subscriptTail _ _ (Value.ref _) (Value.int (-1) _)) _ _ _); k_dflt (refine' last_il ?q9l ?q9v ?q9z ?_; (case q9l => walk_at "my:isl"); (case q9v => with_reducible assumption); (case q9z => assumption); k_whole); intro t9)) | (with_reducible (k_here; (with_reducible show wpAny _ _ (compareOp CmpOp.Eq (Value.bytes (List.toArray _) _) (Value.bytes (List.toArray _) _)) _ _ _); (refine eq_bytesL ?_))) | walk1)) | ((((((((((((((fail_if_success (with_reducible show InvPostN _ _ _ _ _ _ _ _ _)); (fail_if_success (with_reducible show InvEndN _ _ _ _ _ _ _)); (fail_if_success (with_reducible show wpG _ _ _ _ _ _)); (fail_if_success (with_reducible show wpAny _ _ (pyIter (Value.ref _)) _ _ _)))); (fail_if_success (with_reducible show LCg.CompSrc _ _ _ _ _ _ _ _ _ _ _ _ _ _)); (fail_if_success (with_reducible show LCg.CompEnd _ _ _ _ _ _ _ _ _ _ _ _ _ _)))); (fail_if_success (with_reducible show wpAny _ _ (eval (Expr.ListComp _ _ _ _) _) _ _ _)))); (fail_if_success (with_reducible show wpAny _ _ (call (Value.ref _) _) _ _ _)))); (fail_if_success (with_reducible show wpAny _ _ (exec (Stmt.While _ _ _ _) _) _ _ _)); (fail_if_success (with_reducible show WhileStep _ _ _ _ _ _ _)))); (fail_if_success (with_reducible show wpAny _ _ (subscriptTail _ _ (Value.ref _) (Value.ref _)) _ _ _)); (fail_if_success (with_reducible show wpAny _ _ (exec (Stmt.For _ _ _ _ _) _) _ _ _)); (fail_if_success (with_reducible show wpAny _ _ (eval (Expr.BoolOp _ _ _) _) _ _ _)); (fail_if_success (with_reducible show StayCut _ _ _ _ _ _ _ _ _ _ _ _ _ _ _ _ _ _)); (fail_if_success (with_reducible show BoolCut _ _ _ _ _ _ _ _)); (fail_if_success (with_reducible show BytesCut _ _ _ _ _ _ _ _)))); dsimp only; (first | (with_reducible (k_here; (with_reducible show wpAny _ _ (subscriptTail _ _ (Value.ref _) (Value.int (-1) _)) _ _ _); k_dflt (refine' last_il ?q9l ?q9v ?q9z ?_; (case q9l => walk_at "my:isl"); (case q9v => with_reducible assumption); (case q9z => assumption); k_whole); intro t9)) | (with_reducible (k_here; (with_reducible show wpAny _ _ (compareOp CmpOp.Eq (Value.bytes (List.toArray _) _) (Value.bytes (List.toArray _) _)) _ _ _); (refine eq_bytesL ?_))) | walk1)) | ((((((((((((((fail_if_success (with_reducible show InvPostN _ _ _ _ _ _ _ _ _)); (fail_if_success (with_reducible show InvEndN _ _ _ _ _ _ _)); (fail_if_success (with_reducible show wpG _ _ _ _ _ _)); (fail_if_success (with_reducible show wpAny _ _ (pyIter (Value.ref _)) _ _ _)))); (fail_if_success (with_reducible show LCg.CompSrc _ _ _ _ _ _ _ _ _ _ _ _ _ _)); (fail_if_success (with_reducible show LCg.CompEnd _ _ _ _ _ _ _ _ _ _ _ _ _ _)))); (fail_if_success (with_reducible show wpAny _ _ (eval (Expr.ListComp _ _ _ _) _) _ _ _)))); (fail_if_success (with_reducible show wpAny _ _ (call (Value.ref _) _) _ _ _)))); (fail_if_success (with_reducible show wpAny _ _ (exec (Stmt.While _ _ _ _) _) _ _ _)); (fail_if_success (with_reducible show WhileStep _ _ _ _ _ _ _)))); (fail_if_success (with_reducible show wpAny _ _ (subscriptTail _ _ (Value.ref _) (Value.ref _)) _ _ _)); (fail_if_success (with_reducible show wpAny _ _ (exec (Stmt.For _ _ _ _ _) _) _ _ _)); (fail_if_success (with_reducible show wpAny _ _ (eval (Expr.BoolOp _ _ _) _) _ _ _)); (fail_if_success (with_reducible show StayCut _ _ _ _ _ _ _ _ _ _ _ _ _ _ _ _ _ _)); (fail_if_success (with_reducible show BoolCut _ _ _ _ _ _ _ _)); (fail_if_success (with_reducible show BytesCut _ _ _ _ _ _ _ _)))); leave1; walk_say "STEP leave1"; try dsimp only) | fail "no step"))
    · (with_reducible rename News _ _ _ _ => Nz)
      (with_reducible rename Fr _ _ _ _ => Fz)
      exact vl_endE (s₁ := ⟨h, s.gens, s.drawn, tk, s.os⟩) Fz Nz (fun z hz => if_neg hz) (hsL_dd hic (by assumption) hus)
    · (with_reducible rename News _ _ _ _ => Nz)
      (with_reducible rename Fr _ _ _ _ => Fz)
      exact vl_endE (s₁ := ⟨h, s.gens, s.drawn, tk, s.os⟩) Fz Nz (fun z hz => if_neg hz) (hsL_nm hic (by assumption) hus)
  · intro u us n h tk hus F₁ N₁
    clear kF kN
    have huz : us.length = steps.length + 1 := by rw [hus.length, hsL_len]
    dsimp only
    refine wpG_execs_cons (wpG_of ?_)
    (repeat' (first | (k_unfold; (try dsimp only)) | ((((((((((((((fail_if_success (with_reducible show InvPostN _ _ _ _ _ _ _ _ _)); (fail_if_success (with_reducible show InvEndN _ _ _ _ _ _ _)); (fail_if_success (with_reducible show wpG _ _ _ _ _ _)); (fail_if_success (with_reducible show wpAny _ _ (pyIter (Value.ref _)) _ _ _)))); (fail_if_success (with_reducible show LCg.CompSrc _ _ _ _ _ _ _ _ _ _ _ _ _ _)); (fail_if_success (with_reducible show LCg.CompEnd _ _ _ _ _ _ _ _ _ _ _ _ _ _)))); (fail_if_success (with_reducible show wpAny _ _ (eval (Expr.ListComp _ _ _ _) _) _ _ _)))); (fail_if_success (with_reducible show wpAny _ _ (call (Value.ref _) _) _ _ _)))); (fail_if_success (with_reducible show wpAny _ _ (exec (Stmt.While _ _ _ _) _) _ _ _)); (fail_if_success (with_reducible show WhileStep _ _ _ _ _ _ _)))); (fail_if_success (with_reducible show wpAny _ _ (subscriptTail _ _ (Value.ref _) (Value.ref _)) _ _ _)); (fail_if_success (with_reducible show wpAny _ _ (exec (Stmt.For _ _ _ _ _) _) _ _ _)); (fail_if_success (with_reducible show wpAny _ _ (eval (Expr.BoolOp _ _ _) _) _ _ _)); (fail_if_success (with_reducible show StayCut _ _ _ _ _ _ _ _ _ _ _ _ _ _ _ _ _ _)); (fail_if_success (with_reducible show BoolCut _ _ _ _ _ _ _ _)); (fail_if_success (with_reducible show BytesCut _ _ _ _ _ _ _ _)))); walk1) | ((((((((((((((fail_if_success (with_reducible show InvPostN _ _ _ _ _ _ _ _ _)); (fail_if_success (with_reducible show InvEndN _ _ _ _ _ _ _)); (fail_if_success (with_reducible show wpG _ _ _ _ _ _)); (fail_if_success (with_reducible show wpAny _ _ (pyIter (Value.ref _)) _ _ _)))); (fail_if_success (with_reducible show LCg.CompSrc _ _ _ _ _ _ _ _ _ _ _ _ _ _)); (fail_if_success (with_reducible show LCg.CompEnd _ _ _ _ _ _ _ _ _ _ _ _ _ _)))); (fail_if_success (with_reducible show wpAny _ _ (eval (Expr.ListComp _ _ _ _) _) _ _ _)))); (fail_if_success (with_reducible show wpAny _ _ (call (Value.ref _) _) _ _ _)))); (fail_if_success (with_reducible show wpAny _ _ (exec (Stmt.While _ _ _ _) _) _ _ _)); (fail_if_success (with_reducible show WhileStep _ _ _ _ _ _ _)))); (fail_if_success (with_reducible show wpAny _ _ (subscriptTail _ _ (Value.ref _) (Value.ref _)) _ _ _)); (fail_if_success (with_reducible show wpAny _ _ (exec (Stmt.For _ _ _ _ _) _) _ _ _)); (fail_if_success (with_reducible show wpAny _ _ (eval (Expr.BoolOp _ _ _) _) _ _ _)); (fail_if_success (with_reducible show StayCut _ _ _ _ _ _ _ _ _ _ _ _ _ _ _ _ _ _)); (fail_if_success (with_reducible show BoolCut _ _ _ _ _ _ _ _)); (fail_if_success (with_reducible show BytesCut _ _ _ _ _ _ _ _)))); dsimp only; walk1) | ((((((((((((((fail_if_success (with_reducible show InvPostN _ _ _ _ _ _ _ _ _)); (fail_if_success (with_reducible show InvEndN _ _ _ _ _ _ _)); (fail_if_success (with_reducible show wpG _ _ _ _ _ _)); (fail_if_success (with_reducible show wpAny _ _ (pyIter (Value.ref _)) _ _ _)))); (fail_if_success (with_reducible show LCg.CompSrc _ _ _ _ _ _ _ _ _ _ _ _ _ _)); (fail_if_success (with_reducible show LCg.CompEnd _ _ _ _ _ _ _ _ _ _ _ _ _ _)))); (fail_if_success (with_reducible show wpAny _ _ (eval (Expr.ListComp _ _ _ _) _) _ _ _)))); (fail_if_success (with_reducible show wpAny _ _ (call (Value.ref _) _) _ _ _)))); (fail_if_success (with_reducible show wpAny _ _ (exec (Stmt.While _ _ _ _) _) _ _ _)); (fail_if_success (with_reducible show WhileStep _ _ _ _ _ _ _)))); (fail_if_success (with_reducible show wpAny _ _ (subscriptTail _ _ (Value.ref _) (Value.ref _)) _ _ _)); (fail_if_success (with_reducible show wpAny _ _ (exec (Stmt.For _ _ _ _ _) _) _ _ _)); (fail_if_success (with_reducible show wpAny _ _ (eval (Expr.BoolOp _ _ _) _) _ _ _)); (fail_if_success (with_reducible show StayCut _ _ _ _ _ _ _ _ _ _ _ _ _ _ _ _ _ _)); (fail_if_success (with_reducible show BoolCut _ _ _ _ _ _ _ _)); (fail_if_success (with_reducible show BytesCut _ _ _ _ _ _ _ _)))); leave1; walk_say "STEP leave1"; try dsimp only) | fail "no step"))
    dsimp only
    refine wpG_execs_cons (wpG_of ?_)
    (with_reducible rename Fr _ _ _ _ => kF)
    (with_reducible rename News _ _ _ _ => kN)
    with_unfolding_all refine For_invVF kF (by rfl) (by rfl) ?_
    (repeat' (first | (k_unfold; (try dsimp only)) | ((((((((((((((fail_if_success (with_reducible show InvPostN _ _ _ _ _ _ _ _ _)); (fail_if_success (with_reducible show InvEndN _ _ _ _ _ _ _)); (fail_if_success (with_reducible show wpG _ _ _ _ _ _)); (fail_if_success (with_reducible show wpAny _ _ (pyIter (Value.ref _)) _ _ _)))); (fail_if_success (with_reducible show LCg.CompSrc _ _ _ _ _ _ _ _ _ _ _ _ _ _)); (fail_if_success (with_reducible show LCg.CompEnd _ _ _ _ _ _ _ _ _ _ _ _ _ _)))); (fail_if_success (with_reducible show wpAny _ _ (eval (Expr.ListComp _ _ _ _) _) _ _ _)))); (fail_if_success (with_reducible show wpAny _ _ (call (Value.ref _) _) _ _ _)))); (fail_if_success (with_reducible show wpAny _ _ (exec (Stmt.While _ _ _ _) _) _ _ _)); (fail_if_success (with_reducible show WhileStep _ _ _ _ _ _ _)))); (fail_if_success (with_reducible show wpAny _ _ (subscriptTail _ _ (Value.ref _) (Value.ref _)) _ _ _)); (fail_if_success (with_reducible show wpAny _ _ (exec (Stmt.For _ _ _ _ _) _) _ _ _)); (fail_if_success (with_reducible show wpAny _ _ (eval (Expr.BoolOp _ _ _) _) _ _ _)); (fail_if_success (with_reducible show StayCut _ _ _ _ _ _ _ _ _ _ _ _ _ _ _ _ _ _)); (fail_if_success (with_reducible show BoolCut _ _ _ _ _ _ _ _)); (fail_if_success (with_reducible show BytesCut _ _ _ _ _ _ _ _)))); walk1) | ((((((((((((((fail_if_success (with_reducible show InvPostN _ _ _ _ _ _ _ _ _)); (fail_if_success (with_reducible show InvEndN _ _ _ _ _ _ _)); (fail_if_success (with_reducible show wpG _ _ _ _ _ _)); (fail_if_success (with_reducible show wpAny _ _ (pyIter (Value.ref _)) _ _ _)))); (fail_if_success (with_reducible show LCg.CompSrc _ _ _ _ _ _ _ _ _ _ _ _ _ _)); (fail_if_success (with_reducible show LCg.CompEnd _ _ _ _ _ _ _ _ _ _ _ _ _ _)))); (fail_if_success (with_reducible show wpAny _ _ (eval (Expr.ListComp _ _ _ _) _) _ _ _)))); (fail_if_success (with_reducible show wpAny _ _ (call (Value.ref _) _) _ _ _)))); (fail_if_success (with_reducible show wpAny _ _ (exec (Stmt.While _ _ _ _) _) _ _ _)); (fail_if_success (with_reducible show WhileStep _ _ _ _ _ _ _)))); (fail_if_success (with_reducible show wpAny _ _ (subscriptTail _ _ (Value.ref _) (Value.ref _)) _ _ _)); (fail_if_success (with_reducible show wpAny _ _ (exec (Stmt.For _ _ _ _ _) _) _ _ _)); (fail_if_success (with_reducible show wpAny _ _ (eval (Expr.BoolOp _ _ _) _) _ _ _)); (fail_if_success (with_reducible show StayCut _ _ _ _ _ _ _ _ _ _ _ _ _ _ _ _ _ _)); (fail_if_success (with_reducible show BoolCut _ _ _ _ _ _ _ _)); (fail_if_success (with_reducible show BytesCut _ _ _ _ _ _ _ _)))); dsimp only; walk1) | ((((((((((((((fail_if_success (with_reducible show InvPostN _ _ _ _ _ _ _ _ _)); (fail_if_success (with_reducible show InvEndN _ _ _ _ _ _ _)); (fail_if_success (with_reducible show wpG _ _ _ _ _ _)); (fail_if_success (with_reducible show wpAny _ _ (pyIter (Value.ref _)) _ _ _)))); (fail_if_success (with_reducible show LCg.CompSrc _ _ _ _ _ _ _ _ _ _ _ _ _ _)); (fail_if_success (with_reducible show LCg.CompEnd _ _ _ _ _ _ _ _ _ _ _ _ _ _)))); (fail_if_success (with_reducible show wpAny _ _ (eval (Expr.ListComp _ _ _ _) _) _ _ _)))); (fail_if_success (with_reducible show wpAny _ _ (call (Value.ref _) _) _ _ _)))); (fail_if_success (with_reducible show wpAny _ _ (exec (Stmt.While _ _ _ _) _) _ _ _)); (fail_if_success (with_reducible show WhileStep _ _ _ _ _ _ _)))); (fail_if_success (with_reducible show wpAny _ _ (subscriptTail _ _ (Value.ref _) (Value.ref _)) _ _ _)); (fail_if_success (with_reducible show wpAny _ _ (exec (Stmt.For _ _ _ _ _) _) _ _ _)); (fail_if_success (with_reducible show wpAny _ _ (eval (Expr.BoolOp _ _ _) _) _ _ _)); (fail_if_success (with_reducible show StayCut _ _ _ _ _ _ _ _ _ _ _ _ _ _ _ _ _ _)); (fail_if_success (with_reducible show BoolCut _ _ _ _ _ _ _ _)); (fail_if_success (with_reducible show BytesCut _ _ _ _ _ _ _ _)))); leave1; walk_say "STEP leave1"; try dsimp only) | fail "no step"))
    refine kun_lenL (k := (steps.length : Int)) (isl_keep kF hl') (by rw [List.size_toArray, hv.length]) (by omega) ?_
    (repeat' (first | (k_unfold; (try dsimp only)) | ((((((((((((((fail_if_success (with_reducible show InvPostN _ _ _ _ _ _ _ _ _)); (fail_if_success (with_reducible show InvEndN _ _ _ _ _ _ _)); (fail_if_success (with_reducible show wpG _ _ _ _ _ _)); (fail_if_success (with_reducible show wpAny _ _ (pyIter (Value.ref _)) _ _ _)))); (fail_if_success (with_reducible show LCg.CompSrc _ _ _ _ _ _ _ _ _ _ _ _ _ _)); (fail_if_success (with_reducible show LCg.CompEnd _ _ _ _ _ _ _ _ _ _ _ _ _ _)))); (fail_if_success (with_reducible show wpAny _ _ (eval (Expr.ListComp _ _ _ _) _) _ _ _)))); (fail_if_success (with_reducible show wpAny _ _ (call (Value.ref _) _) _ _ _)))); (fail_if_success (with_reducible show wpAny _ _ (exec (Stmt.While _ _ _ _) _) _ _ _)); (fail_if_success (with_reducible show WhileStep _ _ _ _ _ _ _)))); (fail_if_success (with_reducible show wpAny _ _ (subscriptTail _ _ (Value.ref _) (Value.ref _)) _ _ _)); (fail_if_success (with_reducible show wpAny _ _ (exec (Stmt.For _ _ _ _ _) _) _ _ _)); (fail_if_success (with_reducible show wpAny _ _ (eval (Expr.BoolOp _ _ _) _) _ _ _)); (fail_if_success (with_reducible show StayCut _ _ _ _ _ _ _ _ _ _ _ _ _ _ _ _ _ _)); (fail_if_success (with_reducible show BoolCut _ _ _ _ _ _ _ _)); (fail_if_success (with_reducible show BytesCut _ _ _ _ _ _ _ _)))); walk1) | ((((((((((((((fail_if_success (with_reducible show InvPostN _ _ _ _ _ _ _ _ _)); (fail_if_success (with_reducible show InvEndN _ _ _ _ _ _ _)); (fail_if_success (with_reducible show wpG _ _ _ _ _ _)); (fail_if_success (with_reducible show wpAny _ _ (pyIter (Value.ref _)) _ _ _)))); (fail_if_success (with_reducible show LCg.CompSrc _ _ _ _ _ _ _ _ _ _ _ _ _ _)); (fail_if_success (with_reducible show LCg.CompEnd _ _ _ _ _ _ _ _ _ _ _ _ _ _)))); (fail_if_success (with_reducible show wpAny _ _ (eval (Expr.ListComp _ _ _ _) _) _ _ _)))); (fail_if_success (with_reducible show wpAny _ _ (call (Value.ref _) _) _ _ _)))); (fail_if_success (with_reducible show wpAny _ _ (exec (Stmt.While _ _ _ _) _) _ _ _)); (fail_if_success (with_reducible show WhileStep _ _ _ _ _ _ _)))); (fail_if_success (with_reducible show wpAny _ _ (subscriptTail _ _ (Value.ref _) (Value.ref _)) _ _ _)); (fail_if_success (with_reducible show wpAny _ _ (exec (Stmt.For _ _ _ _ _) _) _ _ _)); (fail_if_success (with_reducible show wpAny _ _ (eval (Expr.BoolOp _ _ _) _) _ _ _)); (fail_if_success (with_reducible show StayCut _ _ _ _ _ _ _ _ _ _ _ _ _ _ _ _ _ _)); (fail_if_success (with_reducible show BoolCut _ _ _ _ _ _ _ _)); (fail_if_success (with_reducible show BytesCut _ _ _ _ _ _ _ _)))); dsimp only; walk1) | ((((((((((((((fail_if_success (with_reducible show InvPostN _ _ _ _ _ _ _ _ _)); (fail_if_success (with_reducible show InvEndN _ _ _ _ _ _ _)); (fail_if_success (with_reducible show wpG _ _ _ _ _ _)); (fail_if_success (with_reducible show wpAny _ _ (pyIter (Value.ref _)) _ _ _)))); (fail_if_success (with_reducible show LCg.CompSrc _ _ _ _ _ _ _ _ _ _ _ _ _ _)); (fail_if_success (with_reducible show LCg.CompEnd _ _ _ _ _ _ _ _ _ _ _ _ _ _)))); (fail_if_success (with_reducible show wpAny _ _ (eval (Expr.ListComp _ _ _ _) _) _ _ _)))); (fail_if_success (with_reducible show wpAny _ _ (call (Value.ref _) _) _ _ _)))); (fail_if_success (with_reducible show wpAny _ _ (exec (Stmt.While _ _ _ _) _) _ _ _)); (fail_if_success (with_reducible show WhileStep _ _ _ _ _ _ _)))); (fail_if_success (with_reducible show wpAny _ _ (subscriptTail _ _ (Value.ref _) (Value.ref _)) _ _ _)); (fail_if_success (with_reducible show wpAny _ _ (exec (Stmt.For _ _ _ _ _) _) _ _ _)); (fail_if_success (with_reducible show wpAny _ _ (eval (Expr.BoolOp _ _ _) _) _ _ _)); (fail_if_success (with_reducible show StayCut _ _ _ _ _ _ _ _ _ _ _ _ _ _ _ _ _ _)); (fail_if_success (with_reducible show BoolCut _ _ _ _ _ _ _ _)); (fail_if_success (with_reducible show BytesCut _ _ _ _ _ _ _ _)))); leave1; walk_say "STEP leave1"; try dsimp only) | fail "no step"))
    rename IsRange _ _ _ _ _ _ _ _ => hr1
    (with_reducible rename Fr _ _ _ _ => kF1)
    (with_reducible rename News _ _ _ _ => kN1)
    (try clear kF); (try clear kN)
    refine iter_four2 (w0 := []) (w1 := []) (w2 := []) (w3 := []) (n := steps.length) (Str.ofString "ahead") (Str.ofString "behind") (Str.ofString "stays") (Str.ofString "low") (Str.ofString "high") (Str.ofString "side") (keptN steps front back) rfl hr1 (small_of (by omega) (by omega) (by omega) (by omega) (by rw [rangeSize_one]; omega) (by rw [rangeSize_one]; omega)) rangeSize_one kF1 kN1 (.tail _ (.tail _ (.tail _ (.tail _ (.head _))))) (.tail _ (.tail _ (.tail _ (.head _)))) (.tail _ (.tail _ (.head _))) (.tail _ (.head _)) (.head _) (.tail _ (.tail _ (.tail _ (.tail _ (.tail _ (.head _)))))) trivial trivial trivial trivial ?_ ?_
    · intro i t u u0 u1 u2 u3 e0 e1 e2 e3 h tk own hi hoff B0 B1 B2 B3 F₂ N₂
      clear kF1 kN1 hr1
      have hid := HidF.mk F₂
      dsimp only [List.cons_append, List.nil_append, List.map_cons, List.map_nil] at N₂ hoff
      have hidN := HidF.mk N₂
      have hsl := hsL_len steps steps.length
      have hsn := hsL_ne steps steps.length
      have ei : (0 + (i : Int) * 1 + 1) = ((i + 1 : Nat) : Int) := by omega
      (repeat' (first | (k_unfold; (try dsimp only)) | ((((((((((((((fail_if_success (with_reducible show InvPostN _ _ _ _ _ _ _ _ _)); (fail_if_success (with_reducible show InvEndN _ _ _ _ _ _ _)); (fail_if_success (with_reducible show wpG _ _ _ _ _ _)); (fail_if_success (with_reducible show wpAny _ _ (pyIter (Value.ref _)) _ _ _)))); (fail_if_success (with_reducible show LCg.CompSrc _ _ _ _ _ _ _ _ _ _ _ _ _ _)); (fail_if_success (with_reducible show LCg.CompEnd _ _ _ _ _ _ _ _ _ _ _ _ _ _)))); (fail_if_success (with_reducible show wpAny _ _ (eval (Expr.ListComp _ _ _ _) _) _ _ _)))); (fail_if_success (with_reducible show wpAny _ _ (call (Value.ref _) _) _ _ _)))); (fail_if_success (with_reducible show wpAny _ _ (exec (Stmt.While _ _ _ _) _) _ _ _)); (fail_if_success (with_reducible show WhileStep _ _ _ _ _ _ _)))); (fail_if_success (with_reducible show wpAny _ _ (subscriptTail _ _ (Value.ref _) (Value.ref _)) _ _ _)); (fail_if_success (with_reducible show wpAny _ _ (exec (Stmt.For _ _ _ _ _) _) _ _ _)); (fail_if_success (with_reducible show wpAny _ _ (eval (Expr.BoolOp _ _ _) _) _ _ _)); (fail_if_success (with_reducible show StayCut _ _ _ _ _ _ _ _ _ _ _ _ _ _ _ _ _ _)); (fail_if_success (with_reducible show BoolCut _ _ _ _ _ _ _ _)); (fail_if_success (with_reducible show BytesCut _ _ _ _ _ _ _ _)))); walk1) | ((((((((((((((fail_if_success (with_reducible show InvPostN _ _ _ _ _ _ _ _ _)); (fail_if_success (with_reducible show InvEndN _ _ _ _ _ _ _)); (fail_if_success (with_reducible show wpG _ _ _ _ _ _)); (fail_if_success (with_reducible show wpAny _ _ (pyIter (Value.ref _)) _ _ _)))); (fail_if_success (with_reducible show LCg.CompSrc _ _ _ _ _ _ _ _ _ _ _ _ _ _)); (fail_if_success (with_reducible show LCg.CompEnd _ _ _ _ _ _ _ _ _ _ _ _ _ _)))); (fail_if_success (with_reducible show wpAny _ _ (eval (Expr.ListComp _ _ _ _) _) _ _ _)))); (fail_if_success (with_reducible show wpAny _ _ (call (Value.ref _) _) _ _ _)))); (fail_if_success (with_reducible show wpAny _ _ (exec (Stmt.While _ _ _ _) _) _ _ _)); (fail_if_success (with_reducible show WhileStep _ _ _ _ _ _ _)))); (fail_if_success (with_reducible show wpAny _ _ (subscriptTail _ _ (Value.ref _) (Value.ref _)) _ _ _)); (fail_if_success (with_reducible show wpAny _ _ (exec (Stmt.For _ _ _ _ _) _) _ _ _)); (fail_if_success (with_reducible show wpAny _ _ (eval (Expr.BoolOp _ _ _) _) _ _ _)); (fail_if_success (with_reducible show StayCut _ _ _ _ _ _ _ _ _ _ _ _ _ _ _ _ _ _)); (fail_if_success (with_reducible show BoolCut _ _ _ _ _ _ _ _)); (fail_if_success (with_reducible show BytesCut _ _ _ _ _ _ _ _)))); dsimp only; walk1) | ((((((((((((((fail_if_success (with_reducible show InvPostN _ _ _ _ _ _ _ _ _)); (fail_if_success (with_reducible show InvEndN _ _ _ _ _ _ _)); (fail_if_success (with_reducible show wpG _ _ _ _ _ _)); (fail_if_success (with_reducible show wpAny _ _ (pyIter (Value.ref _)) _ _ _)))); (fail_if_success (with_reducible show LCg.CompSrc _ _ _ _ _ _ _ _ _ _ _ _ _ _)); (fail_if_success (with_reducible show LCg.CompEnd _ _ _ _ _ _ _ _ _ _ _ _ _ _)))); (fail_if_success (with_reducible show wpAny _ _ (eval (Expr.ListComp _ _ _ _) _) _ _ _)))); (fail_if_success (with_reducible show wpAny _ _ (call (Value.ref _) _) _ _ _)))); (fail_if_success (with_reducible show wpAny _ _ (exec (Stmt.While _ _ _ _) _) _ _ _)); (fail_if_success (with_reducible show WhileStep _ _ _ _ _ _ _)))); (fail_if_success (with_reducible show wpAny _ _ (subscriptTail _ _ (Value.ref _) (Value.ref _)) _ _ _)); (fail_if_success (with_reducible show wpAny _ _ (exec (Stmt.For _ _ _ _ _) _) _ _ _)); (fail_if_success (with_reducible show wpAny _ _ (eval (Expr.BoolOp _ _ _) _) _ _ _)); (fail_if_success (with_reducible show StayCut _ _ _ _ _ _ _ _ _ _ _ _ _ _ _ _ _ _)); (fail_if_success (with_reducible show BoolCut _ _ _ _ _ _ _ _)); (fail_if_success (with_reducible show BytesCut _ _ _ _ _ _ _ _)))); leave1; walk_say "STEP leave1"; try dsimp only) | fail "no step"))
      refine slice_il (s := ⟨_, _, _, _, _⟩) (by k_asm) (by k_asm) (by walk_at "my:isl") hus (by constructor) (by constructor) (by rw [hsl]; omega) ?_
      intro D9 ws9 h9 iA F9 N9 l9
      k_lt l9
      rw [ei, cut_take _ _ (by omega)] at iA
      (repeat' (first | (k_unfold; (try dsimp only)) | ((((((((((((((fail_if_success (with_reducible show InvPostN _ _ _ _ _ _ _ _ _)); (fail_if_success (with_reducible show InvEndN _ _ _ _ _ _ _)); (fail_if_success (with_reducible show wpG _ _ _ _ _ _)); (fail_if_success (with_reducible show wpAny _ _ (pyIter (Value.ref _)) _ _ _)))); (fail_if_success (with_reducible show LCg.CompSrc _ _ _ _ _ _ _ _ _ _ _ _ _ _)); (fail_if_success (with_reducible show LCg.CompEnd _ _ _ _ _ _ _ _ _ _ _ _ _ _)))); (fail_if_success (with_reducible show wpAny _ _ (eval (Expr.ListComp _ _ _ _) _) _ _ _)))); (fail_if_success (with_reducible show wpAny _ _ (call (Value.ref _) _) _ _ _)))); (fail_if_success (with_reducible show wpAny _ _ (exec (Stmt.While _ _ _ _) _) _ _ _)); (fail_if_success (with_reducible show WhileStep _ _ _ _ _ _ _)))); (fail_if_success (with_reducible show wpAny _ _ (subscriptTail _ _ (Value.ref _) (Value.ref _)) _ _ _)); (fail_if_success (with_reducible show wpAny _ _ (exec (Stmt.For _ _ _ _ _) _) _ _ _)); (fail_if_success (with_reducible show wpAny _ _ (eval (Expr.BoolOp _ _ _) _) _ _ _)); (fail_if_success (with_reducible show StayCut _ _ _ _ _ _ _ _ _ _ _ _ _ _ _ _ _ _)); (fail_if_success (with_reducible show BoolCut _ _ _ _ _ _ _ _)); (fail_if_success (with_reducible show BytesCut _ _ _ _ _ _ _ _)))); walk1) | ((((((((((((((fail_if_success (with_reducible show InvPostN _ _ _ _ _ _ _ _ _)); (fail_if_success (with_reducible show InvEndN _ _ _ _ _ _ _)); (fail_if_success (with_reducible show wpG _ _ _ _ _ _)); (fail_if_success (with_reducible show wpAny _ _ (pyIter (Value.ref _)) _ _ _)))); (fail_if_success (with_reducible show LCg.CompSrc _ _ _ _ _ _ _ _ _ _ _ _ _ _)); (fail_if_success (with_reducible show LCg.CompEnd _ _ _ _ _ _ _ _ _ _ _ _ _ _)))); (fail_if_success (with_reducible show wpAny _ _ (eval (Expr.ListComp _ _ _ _) _) _ _ _)))); (fail_if_success (with_reducible show wpAny _ _ (call (Value.ref _) _) _ _ _)))); (fail_if_success (with_reducible show wpAny _ _ (exec (Stmt.While _ _ _ _) _) _ _ _)); (fail_if_success (with_reducible show WhileStep _ _ _ _ _ _ _)))); (fail_if_success (with_reducible show wpAny _ _ (subscriptTail _ _ (Value.ref _) (Value.ref _)) _ _ _)); (fail_if_success (with_reducible show wpAny _ _ (exec (Stmt.For _ _ _ _ _) _) _ _ _)); (fail_if_success (with_reducible show wpAny _ _ (eval (Expr.BoolOp _ _ _) _) _ _ _)); (fail_if_success (with_reducible show StayCut _ _ _ _ _ _ _ _ _ _ _ _ _ _ _ _ _ _)); (fail_if_success (with_reducible show BoolCut _ _ _ _ _ _ _ _)); (fail_if_success (with_reducible show BytesCut _ _ _ _ _ _ _ _)))); dsimp only; walk1) | ((((((((((((((fail_if_success (with_reducible show InvPostN _ _ _ _ _ _ _ _ _)); (fail_if_success (with_reducible show InvEndN _ _ _ _ _ _ _)); (fail_if_success (with_reducible show wpG _ _ _ _ _ _)); (fail_if_success (with_reducible show wpAny _ _ (pyIter (Value.ref _)) _ _ _)))); (fail_if_success (with_reducible show LCg.CompSrc _ _ _ _ _ _ _ _ _ _ _ _ _ _)); (fail_if_success (with_reducible show LCg.CompEnd _ _ _ _ _ _ _ _ _ _ _ _ _ _)))); (fail_if_success (with_reducible show wpAny _ _ (eval (Expr.ListComp _ _ _ _) _) _ _ _)))); (fail_if_success (with_reducible show wpAny _ _ (call (Value.ref _) _) _ _ _)))); (fail_if_success (with_reducible show wpAny _ _ (exec (Stmt.While _ _ _ _) _) _ _ _)); (fail_if_success (with_reducible show WhileStep _ _ _ _ _ _ _)))); (fail_if_success (with_reducible show wpAny _ _ (subscriptTail _ _ (Value.ref _) (Value.ref _)) _ _ _)); (fail_if_success (with_reducible show wpAny _ _ (exec (Stmt.For _ _ _ _ _) _) _ _ _)); (fail_if_success (with_reducible show wpAny _ _ (eval (Expr.BoolOp _ _ _) _) _ _ _)); (fail_if_success (with_reducible show StayCut _ _ _ _ _ _ _ _ _ _ _ _ _ _ _ _ _ _)); (fail_if_success (with_reducible show BoolCut _ _ _ _ _ _ _ _)); (fail_if_success (with_reducible show BytesCut _ _ _ _ _ _ _ _)))); leave1; walk_say "STEP leave1"; try dsimp only) | fail "no step"))
      refine slice_il (s := ⟨_, _, _, _, _⟩) (by k_asm) (by k_asm) (by walk_at "my:isl") hus (by constructor) (by constructor) (by rw [hsl]; omega) ?_
      intro D8 ws8 h8 iB F8 N8 l8
      k_lt l8
      rw [ei, cut_drop _ _ (by omega)] at iB
      have hA1 : ((hsL steps steps.length).take (i + 1)).length = i + 1 := by rw [List.length_take]; omega
      have hB1 : ((hsL steps steps.length).drop (i + 1)).length = steps.length - i := by rw [List.length_drop, hsl, Nat.add_sub_add_right]
      have hA2 : (hsL steps steps.length).take (i + 1) ≠ [] := by intro e; rw [e] at hA1; simp at hA1
      have hA3 := getLastD_take (l := hsL steps steps.length) (k := i) (by omega)
      have hA4 := getD_take (l := hsL steps steps.length) (k := i) (by omega) rfl hA1
      have hB3 := getD_drop (l := hsL steps steps.length) (k := i + 1)
      have hH4 := getD_last hsl
      generalize hAq : (hsL steps steps.length).take (i + 1) = ahead at iA hA1 hA2 hA3 hA4
      generalize hBq : (hsL steps steps.length).drop (i + 1) = behind at iB hB1 hB3
      (repeat' (first | (k_unfold; (try dsimp only)) | ((((((((((((((((fail_if_success (with_reducible show InvPostN _ _ _ _ _ _ _ _ _)); (fail_if_success (with_reducible show InvEndN _ _ _ _ _ _ _)); (fail_if_success (with_reducible show wpG _ _ _ _ _ _)); (fail_if_success (with_reducible show wpAny _ _ (pyIter (Value.ref _)) _ _ _)))); (fail_if_success (with_reducible show LCg.CompSrc _ _ _ _ _ _ _ _ _ _ _ _ _ _)); (fail_if_success (with_reducible show LCg.CompEnd _ _ _ _ _ _ _ _ _ _ _ _ _ _)))); (fail_if_success (with_reducible show wpAny _ _ (eval (Expr.ListComp _ _ _ _) _) _ _ _)))); (fail_if_success (with_reducible show wpAny _ _ (call (Value.ref _) _) _ _ _)))); (fail_if_success (with_reducible show wpAny _ _ (exec (Stmt.While _ _ _ _) _) _ _ _)); (fail_if_success (with_reducible show WhileStep _ _ _ _ _ _ _)))); (fail_if_success (with_reducible show wpAny _ _ (subscriptTail _ _ (Value.ref _) (Value.ref _)) _ _ _)); (fail_if_success (with_reducible show wpAny _ _ (exec (Stmt.For _ _ _ _ _) _) _ _ _)); (fail_if_success (with_reducible show wpAny _ _ (eval (Expr.BoolOp _ _ _) _) _ _ _)); (fail_if_success (with_reducible show StayCut _ _ _ _ _ _ _ _ _ _ _ _ _ _ _ _ _ _)); (fail_if_success (with_reducible show BoolCut _ _ _ _ _ _ _ _)); (fail_if_success (with_reducible show BytesCut _ _ _ _ _ _ _ _)))); (fail_if_success (with_reducible show wpAny _ _ (execs (Stmt.If _ _ _ _ :: _) _) _ _ _)))); walk1) | ((((((((((((((((fail_if_success (with_reducible show InvPostN _ _ _ _ _ _ _ _ _)); (fail_if_success (with_reducible show InvEndN _ _ _ _ _ _ _)); (fail_if_success (with_reducible show wpG _ _ _ _ _ _)); (fail_if_success (with_reducible show wpAny _ _ (pyIter (Value.ref _)) _ _ _)))); (fail_if_success (with_reducible show LCg.CompSrc _ _ _ _ _ _ _ _ _ _ _ _ _ _)); (fail_if_success (with_reducible show LCg.CompEnd _ _ _ _ _ _ _ _ _ _ _ _ _ _)))); (fail_if_success (with_reducible show wpAny _ _ (eval (Expr.ListComp _ _ _ _) _) _ _ _)))); (fail_if_success (with_reducible show wpAny _ _ (call (Value.ref _) _) _ _ _)))); (fail_if_success (with_reducible show wpAny _ _ (exec (Stmt.While _ _ _ _) _) _ _ _)); (fail_if_success (with_reducible show WhileStep _ _ _ _ _ _ _)))); (fail_if_success (with_reducible show wpAny _ _ (subscriptTail _ _ (Value.ref _) (Value.ref _)) _ _ _)); (fail_if_success (with_reducible show wpAny _ _ (exec (Stmt.For _ _ _ _ _) _) _ _ _)); (fail_if_success (with_reducible show wpAny _ _ (eval (Expr.BoolOp _ _ _) _) _ _ _)); (fail_if_success (with_reducible show StayCut _ _ _ _ _ _ _ _ _ _ _ _ _ _ _ _ _ _)); (fail_if_success (with_reducible show BoolCut _ _ _ _ _ _ _ _)); (fail_if_success (with_reducible show BytesCut _ _ _ _ _ _ _ _)))); (fail_if_success (with_reducible show wpAny _ _ (execs (Stmt.If _ _ _ _ :: _) _) _ _ _)))); dsimp only; walk1) | ((((((((((((((((fail_if_success (with_reducible show InvPostN _ _ _ _ _ _ _ _ _)); (fail_if_success (with_reducible show InvEndN _ _ _ _ _ _ _)); (fail_if_success (with_reducible show wpG _ _ _ _ _ _)); (fail_if_success (with_reducible show wpAny _ _ (pyIter (Value.ref _)) _ _ _)))); (fail_if_success (with_reducible show LCg.CompSrc _ _ _ _ _ _ _ _ _ _ _ _ _ _)); (fail_if_success (with_reducible show LCg.CompEnd _ _ _ _ _ _ _ _ _ _ _ _ _ _)))); (fail_if_success (with_reducible show wpAny _ _ (eval (Expr.ListComp _ _ _ _) _) _ _ _)))); (fail_if_success (with_reducible show wpAny _ _ (call (Value.ref _) _) _ _ _)))); (fail_if_success (with_reducible show wpAny _ _ (exec (Stmt.While _ _ _ _) _) _ _ _)); (fail_if_success (with_reducible show WhileStep _ _ _ _ _ _ _)))); (fail_if_success (with_reducible show wpAny _ _ (subscriptTail _ _ (Value.ref _) (Value.ref _)) _ _ _)); (fail_if_success (with_reducible show wpAny _ _ (exec (Stmt.For _ _ _ _ _) _) _ _ _)); (fail_if_success (with_reducible show wpAny _ _ (eval (Expr.BoolOp _ _ _) _) _ _ _)); (fail_if_success (with_reducible show StayCut _ _ _ _ _ _ _ _ _ _ _ _ _ _ _ _ _ _)); (fail_if_success (with_reducible show BoolCut _ _ _ _ _ _ _ _)); (fail_if_success (with_reducible show BytesCut _ _ _ _ _ _ _ _)))); (fail_if_success (with_reducible show wpAny _ _ (execs (Stmt.If _ _ _ _ :: _) _) _ _ _)))); leave1; walk_say "STEP leave1"; try dsimp only) | fail "no step"))
      refine wpAny_execs_cons ?_
      refine stay_cut hid hidN (Str.ofString "stays") (stayF steps front back i) (by k_asm) ?_ ?_
      · (repeat' (first | (k_unfold; (try dsimp only)) | ((((((((((((((fail_if_success (with_reducible show InvPostN _ _ _ _ _ _ _ _ _)); (fail_if_success (with_reducible show InvEndN _ _ _ _ _ _ _)); (fail_if_success (with_reducible show wpG _ _ _ _ _ _)); (fail_if_success (with_reducible show wpAny _ _ (pyIter (Value.ref _)) _ _ _)))); (fail_if_success (with_reducible show LCg.CompSrc _ _ _ _ _ _ _ _ _ _ _ _ _ _)); (fail_if_success (with_reducible show LCg.CompEnd _ _ _ _ _ _ _ _ _ _ _ _ _ _)))); (fail_if_success (with_reducible show wpAny _ _ (eval (Expr.ListComp _ _ _ _) _) _ _ _)))); (fail_if_success (with_reducible show wpAny _ _ (call (Value.ref _) _) _ _ _)))); (fail_if_success (with_reducible show wpAny _ _ (exec (Stmt.While _ _ _ _) _) _ _ _)); (fail_if_success (with_reducible show WhileStep _ _ _ _ _ _ _)))); (fail_if_success (with_reducible show wpAny _ _ (subscriptTail _ _ (Value.ref _) (Value.ref _)) _ _ _)); (fail_if_success (with_reducible show wpAny _ _ (exec (Stmt.For _ _ _ _ _) _) _ _ _)); (fail_if_success (with_reducible show wpAny _ _ (eval (Expr.BoolOp _ _ _) _) _ _ _)); (fail_if_success (with_reducible show StayCut _ _ _ _ _ _ _ _ _ _ _ _ _ _ _ _ _ _)); (fail_if_success (with_reducible show BoolCut _ _ _ _ _ _ _ _)); (fail_if_success (with_reducible show BytesCut _ _ _ _ _ _ _ _)))); (first | (with_reducible (k_here; (with_reducible show wpAny _ _ (subscriptTail _ _ (Value.ref _) (Value.int _ _)) _ _ _); k_dflt (refine' item_bl ?q9l ?q9v ?q9a ?q9b ?q9z ?_; (case q9l => walk_at "my:isl"); (case q9v => with_reducible assumption); (case q9a => walk_at "my:idx"); (case q9b => walk_at "my:idx"); (case q9z => walk_at "my:idx"); k_whole); intro t9)) | (with_reducible (k_here; (with_reducible show wpAny _ _ (compareOp CmpOp.Eq (Value.bytes (List.toArray _) _) (Value.bytes (List.toArray _) _)) _ _ _); (refine eq_bytesL ?_))) | walk1)) | ((((((((((((((fail_if_success (with_reducible show InvPostN _ _ _ _ _ _ _ _ _)); (fail_if_success (with_reducible show InvEndN _ _ _ _ _ _ _)); (fail_if_success (with_reducible show wpG _ _ _ _ _ _)); (fail_if_success (with_reducible show wpAny _ _ (pyIter (Value.ref _)) _ _ _)))); (fail_if_success (with_reducible show LCg.CompSrc _ _ _ _ _ _ _ _ _ _ _ _ _ _)); (fail_if_success (with_reducible show LCg.CompEnd _ _ _ _ _ _ _ _ _ _ _ _ _ _)))); (fail_if_success (with_reducible show wpAny _ _ (eval (Expr.ListComp _ _ _ _) _) _ _ _)))); (fail_if_success (with_reducible show wpAny _ _ (call (Value.ref _) _) _ _ _)))); (fail_if_success (with_reducible show wpAny _ _ (exec (Stmt.While _ _ _ _) _) _ _ _)); (fail_if_success (with_reducible show WhileStep _ _ _ _ _ _ _)))); (fail_if_success (with_reducible show wpAny _ _ (subscriptTail _ _ (Value.ref _) (Value.ref _)) _ _ _)); (fail_if_success (with_reducible show wpAny _ _ (exec (Stmt.For _ _ _ _ _) _) _ _ _)); (fail_if_success (with_reducible show wpAny _ _ (eval (Expr.BoolOp _ _ _) _) _ _ _)); (fail_if_success (with_reducible show StayCut _ _ _ _ _ _ _ _ _ _ _ _ _ _ _ _ _ _)); (fail_if_success (with_reducible show BoolCut _ _ _ _ _ _ _ _)); (fail_if_success (with_reducible show BytesCut _ _ _ _ _ _ _ _)))); dsimp only; (first | (with_reducible (k_here; (with_reducible show wpAny _ _ (subscriptTail _ _ (Value.ref _) (Value.int _ _)) _ _ _); k_dflt (refine' item_bl ?q9l ?q9v ?q9a ?q9b ?q9z ?_; (case q9l => walk_at "my:isl"); (case q9v => with_reducible assumption); (case q9a => walk_at "my:idx"); (case q9b => walk_at "my:idx"); (case q9z => walk_at "my:idx"); k_whole); intro t9)) | (with_reducible (k_here; (with_reducible show wpAny _ _ (compareOp CmpOp.Eq (Value.bytes (List.toArray _) _) (Value.bytes (List.toArray _) _)) _ _ _); (refine eq_bytesL ?_))) | walk1)) | ((((((((((((((fail_if_success (with_reducible show InvPostN _ _ _ _ _ _ _ _ _)); (fail_if_success (with_reducible show InvEndN _ _ _ _ _ _ _)); (fail_if_success (with_reducible show wpG _ _ _ _ _ _)); (fail_if_success (with_reducible show wpAny _ _ (pyIter (Value.ref _)) _ _ _)))); (fail_if_success (with_reducible show LCg.CompSrc _ _ _ _ _ _ _ _ _ _ _ _ _ _)); (fail_if_success (with_reducible show LCg.CompEnd _ _ _ _ _ _ _ _ _ _ _ _ _ _)))); (fail_if_success (with_reducible show wpAny _ _ (eval (Expr.ListComp _ _ _ _) _) _ _ _)))); (fail_if_success (with_reducible show wpAny _ _ (call (Value.ref _) _) _ _ _)))); (fail_if_success (with_reducible show wpAny _ _ (exec (Stmt.While _ _ _ _) _) _ _ _)); (fail_if_success (with_reducible show WhileStep _ _ _ _ _ _ _)))); (fail_if_success (with_reducible show wpAny _ _ (subscriptTail _ _ (Value.ref _) (Value.ref _)) _ _ _)); (fail_if_success (with_reducible show wpAny _ _ (exec (Stmt.For _ _ _ _ _) _) _ _ _)); (fail_if_success (with_reducible show wpAny _ _ (eval (Expr.BoolOp _ _ _) _) _ _ _)); (fail_if_success (with_reducible show StayCut _ _ _ _ _ _ _ _ _ _ _ _ _ _ _ _ _ _)); (fail_if_success (with_reducible show BoolCut _ _ _ _ _ _ _ _)); (fail_if_success (with_reducible show BytesCut _ _ _ _ _ _ _ _)))); leave1; walk_say "STEP leave1"; try dsimp only) | fail "no step"))
        · refine bool_cut (by k_asm) (by k_asm) (decide (front = []) && ahead.all fun a => decide ((hsL steps steps.length).getD (i + 1) 0 < a)) ?_ ?_
          · (repeat' (first | (k_unfold; (try dsimp only)) | ((((((((((((((fail_if_success (with_reducible show InvPostN _ _ _ _ _ _ _ _ _)); (fail_if_success (with_reducible show InvEndN _ _ _ _ _ _ _)); (fail_if_success (with_reducible show wpG _ _ _ _ _ _)); (fail_if_success (with_reducible show wpAny _ _ (pyIter (Value.ref _)) _ _ _)))); (fail_if_success (with_reducible show LCg.CompSrc _ _ _ _ _ _ _ _ _ _ _ _ _ _)); (fail_if_success (with_reducible show LCg.CompEnd _ _ _ _ _ _ _ _ _ _ _ _ _ _)))); (fail_if_success (with_reducible show wpAny _ _ (eval (Expr.ListComp _ _ _ _) _) _ _ _)))); (fail_if_success (with_reducible show wpAny _ _ (call (Value.ref _) _) _ _ _)))); (fail_if_success (with_reducible show wpAny _ _ (exec (Stmt.While _ _ _ _) _) _ _ _)); (fail_if_success (with_reducible show WhileStep _ _ _ _ _ _ _)))); (fail_if_success (with_reducible show BoolCut _ _ _ _ _ _ _ _)); (fail_if_success (with_reducible show BytesCut _ _ _ _ _ _ _ _)))); (first | (with_reducible (k_here; (with_reducible show wpAny _ _ (compareOp CmpOp.Eq (Value.bytes (List.toArray _) _) (Value.bytes (List.toArray _) _)) _ _ _); (refine eq_bytesL ?_))) | walk1)) | ((((((((((((((fail_if_success (with_reducible show InvPostN _ _ _ _ _ _ _ _ _)); (fail_if_success (with_reducible show InvEndN _ _ _ _ _ _ _)); (fail_if_success (with_reducible show wpG _ _ _ _ _ _)); (fail_if_success (with_reducible show wpAny _ _ (pyIter (Value.ref _)) _ _ _)))); (fail_if_success (with_reducible show LCg.CompSrc _ _ _ _ _ _ _ _ _ _ _ _ _ _)); (fail_if_success (with_reducible show LCg.CompEnd _ _ _ _ _ _ _ _ _ _ _ _ _ _)))); (fail_if_success (with_reducible show wpAny _ _ (eval (Expr.ListComp _ _ _ _) _) _ _ _)))); (fail_if_success (with_reducible show wpAny _ _ (call (Value.ref _) _) _ _ _)))); (fail_if_success (with_reducible show wpAny _ _ (exec (Stmt.While _ _ _ _) _) _ _ _)); (fail_if_success (with_reducible show WhileStep _ _ _ _ _ _ _)))); (fail_if_success (with_reducible show BoolCut _ _ _ _ _ _ _ _)); (fail_if_success (with_reducible show BytesCut _ _ _ _ _ _ _ _)))); dsimp only; (first | (with_reducible (k_here; (with_reducible show wpAny _ _ (compareOp CmpOp.Eq (Value.bytes (List.toArray _) _) (Value.bytes (List.toArray _) _)) _ _ _); (refine eq_bytesL ?_))) | walk1)) | ((((((((((((((fail_if_success (with_reducible show InvPostN _ _ _ _ _ _ _ _ _)); (fail_if_success (with_reducible show InvEndN _ _ _ _ _ _ _)); (fail_if_success (with_reducible show wpG _ _ _ _ _ _)); (fail_if_success (with_reducible show wpAny _ _ (pyIter (Value.ref _)) _ _ _)))); (fail_if_success (with_reducible show LCg.CompSrc _ _ _ _ _ _ _ _ _ _ _ _ _ _)); (fail_if_success (with_reducible show LCg.CompEnd _ _ _ _ _ _ _ _ _ _ _ _ _ _)))); (fail_if_success (with_reducible show wpAny _ _ (eval (Expr.ListComp _ _ _ _) _) _ _ _)))); (fail_if_success (with_reducible show wpAny _ _ (call (Value.ref _) _) _ _ _)))); (fail_if_success (with_reducible show wpAny _ _ (exec (Stmt.While _ _ _ _) _) _ _ _)); (fail_if_success (with_reducible show WhileStep _ _ _ _ _ _ _)))); (fail_if_success (with_reducible show BoolCut _ _ _ _ _ _ _ _)); (fail_if_success (with_reducible show BytesCut _ _ _ _ _ _ _ _)))); leave1; walk_say "STEP leave1"; try dsimp only) | fail "no step"))
            · exact BoolCut.intro (by k_asm) (by k_asm) (cA1 (by assumption) hB3 (by assumption) (by assumption))
            · exact BoolCut.intro (by k_asm) (by k_asm) (cA2 (by assumption))
          intro h7 tk7 F7 N7
          (repeat' (first | (k_unfold; (try dsimp only)) | ((((((((((((((fail_if_success (with_reducible show InvPostN _ _ _ _ _ _ _ _ _)); (fail_if_success (with_reducible show InvEndN _ _ _ _ _ _ _)); (fail_if_success (with_reducible show wpG _ _ _ _ _ _)); (fail_if_success (with_reducible show wpAny _ _ (pyIter (Value.ref _)) _ _ _)))); (fail_if_success (with_reducible show LCg.CompSrc _ _ _ _ _ _ _ _ _ _ _ _ _ _)); (fail_if_success (with_reducible show LCg.CompEnd _ _ _ _ _ _ _ _ _ _ _ _ _ _)))); (fail_if_success (with_reducible show wpAny _ _ (eval (Expr.ListComp _ _ _ _) _) _ _ _)))); (fail_if_success (with_reducible show wpAny _ _ (call (Value.ref _) _) _ _ _)))); (fail_if_success (with_reducible show wpAny _ _ (exec (Stmt.While _ _ _ _) _) _ _ _)); (fail_if_success (with_reducible show WhileStep _ _ _ _ _ _ _)))); (fail_if_success (with_reducible show wpAny _ _ (subscriptTail _ _ (Value.ref _) (Value.ref _)) _ _ _)); (fail_if_success (with_reducible show wpAny _ _ (exec (Stmt.For _ _ _ _ _) _) _ _ _)); (fail_if_success (with_reducible show wpAny _ _ (eval (Expr.BoolOp _ _ _) _) _ _ _)); (fail_if_success (with_reducible show StayCut _ _ _ _ _ _ _ _ _ _ _ _ _ _ _ _ _ _)); (fail_if_success (with_reducible show BoolCut _ _ _ _ _ _ _ _)); (fail_if_success (with_reducible show BytesCut _ _ _ _ _ _ _ _)))); walk1) | ((((((((((((((fail_if_success (with_reducible show InvPostN _ _ _ _ _ _ _ _ _)); (fail_if_success (with_reducible show InvEndN _ _ _ _ _ _ _)); (fail_if_success (with_reducible show wpG _ _ _ _ _ _)); (fail_if_success (with_reducible show wpAny _ _ (pyIter (Value.ref _)) _ _ _)))); (fail_if_success (with_reducible show LCg.CompSrc _ _ _ _ _ _ _ _ _ _ _ _ _ _)); (fail_if_success (with_reducible show LCg.CompEnd _ _ _ _ _ _ _ _ _ _ _ _ _ _)))); (fail_if_success (with_reducible show wpAny _ _ (eval (Expr.ListComp _ _ _ _) _) _ _ _)))); (fail_if_success (with_reducible show wpAny _ _ (call (Value.ref _) _) _ _ _)))); (fail_if_success (with_reducible show wpAny _ _ (exec (Stmt.While _ _ _ _) _) _ _ _)); (fail_if_success (with_reducible show WhileStep _ _ _ _ _ _ _)))); (fail_if_success (with_reducible show wpAny _ _ (subscriptTail _ _ (Value.ref _) (Value.ref _)) _ _ _)); (fail_if_success (with_reducible show wpAny _ _ (exec (Stmt.For _ _ _ _ _) _) _ _ _)); (fail_if_success (with_reducible show wpAny _ _ (eval (Expr.BoolOp _ _ _) _) _ _ _)); (fail_if_success (with_reducible show StayCut _ _ _ _ _ _ _ _ _ _ _ _ _ _ _ _ _ _)); (fail_if_success (with_reducible show BoolCut _ _ _ _ _ _ _ _)); (fail_if_success (with_reducible show BytesCut _ _ _ _ _ _ _ _)))); dsimp only; walk1) | ((((((((((((((fail_if_success (with_reducible show InvPostN _ _ _ _ _ _ _ _ _)); (fail_if_success (with_reducible show InvEndN _ _ _ _ _ _ _)); (fail_if_success (with_reducible show wpG _ _ _ _ _ _)); (fail_if_success (with_reducible show wpAny _ _ (pyIter (Value.ref _)) _ _ _)))); (fail_if_success (with_reducible show LCg.CompSrc _ _ _ _ _ _ _ _ _ _ _ _ _ _)); (fail_if_success (with_reducible show LCg.CompEnd _ _ _ _ _ _ _ _ _ _ _ _ _ _)))); (fail_if_success (with_reducible show wpAny _ _ (eval (Expr.ListComp _ _ _ _) _) _ _ _)))); (fail_if_success (with_reducible show wpAny _ _ (call (Value.ref _) _) _ _ _)))); (fail_if_success (with_reducible show wpAny _ _ (exec (Stmt.While _ _ _ _) _) _ _ _)); (fail_if_success (with_reducible show WhileStep _ _ _ _ _ _ _)))); (fail_if_success (with_reducible show wpAny _ _ (subscriptTail _ _ (Value.ref _) (Value.ref _)) _ _ _)); (fail_if_success (with_reducible show wpAny _ _ (exec (Stmt.For _ _ _ _ _) _) _ _ _)); (fail_if_success (with_reducible show wpAny _ _ (eval (Expr.BoolOp _ _ _) _) _ _ _)); (fail_if_success (with_reducible show StayCut _ _ _ _ _ _ _ _ _ _ _ _ _ _ _ _ _ _)); (fail_if_success (with_reducible show BoolCut _ _ _ _ _ _ _ _)); (fail_if_success (with_reducible show BytesCut _ _ _ _ _ _ _ _)))); leave1; walk_say "STEP leave1"; try dsimp only) | fail "no step"))
          refine bool_cut (by k_asm) (by k_asm) (decide (back = []) && behind.all fun a => decide (a < (hsL steps steps.length).getD i 0)) ?_ ?_
          · (repeat' (first | (k_unfold; (try dsimp only)) | ((((((((((((((fail_if_success (with_reducible show InvPostN _ _ _ _ _ _ _ _ _)); (fail_if_success (with_reducible show InvEndN _ _ _ _ _ _ _)); (fail_if_success (with_reducible show wpG _ _ _ _ _ _)); (fail_if_success (with_reducible show wpAny _ _ (pyIter (Value.ref _)) _ _ _)))); (fail_if_success (with_reducible show LCg.CompSrc _ _ _ _ _ _ _ _ _ _ _ _ _ _)); (fail_if_success (with_reducible show LCg.CompEnd _ _ _ _ _ _ _ _ _ _ _ _ _ _)))); (fail_if_success (with_reducible show wpAny _ _ (eval (Expr.ListComp _ _ _ _) _) _ _ _)))); (fail_if_success (with_reducible show wpAny _ _ (call (Value.ref _) _) _ _ _)))); (fail_if_success (with_reducible show wpAny _ _ (exec (Stmt.While _ _ _ _) _) _ _ _)); (fail_if_success (with_reducible show WhileStep _ _ _ _ _ _ _)))); (fail_if_success (with_reducible show BoolCut _ _ _ _ _ _ _ _)); (fail_if_success (with_reducible show BytesCut _ _ _ _ _ _ _ _)))); (first | (with_reducible (k_here; (with_reducible show wpAny _ _ (compareOp CmpOp.Eq (Value.bytes (List.toArray _) _) (Value.bytes (List.toArray _) _)) _ _ _); (refine eq_bytesL ?_))) | walk1)) | ((((((((((((((fail_if_success (with_reducible show InvPostN _ _ _ _ _ _ _ _ _)); (fail_if_success (with_reducible show InvEndN _ _ _ _ _ _ _)); (fail_if_success (with_reducible show wpG _ _ _ _ _ _)); (fail_if_success (with_reducible show wpAny _ _ (pyIter (Value.ref _)) _ _ _)))); (fail_if_success (with_reducible show LCg.CompSrc _ _ _ _ _ _ _ _ _ _ _ _ _ _)); (fail_if_success (with_reducible show LCg.CompEnd _ _ _ _ _ _ _ _ _ _ _ _ _ _)))); (fail_if_success (with_reducible show wpAny _ _ (eval (Expr.ListComp _ _ _ _) _) _ _ _)))); (fail_if_success (with_reducible show wpAny _ _ (call (Value.ref _) _) _ _ _)))); (fail_if_success (with_reducible show wpAny _ _ (exec (Stmt.While _ _ _ _) _) _ _ _)); (fail_if_success (with_reducible show WhileStep _ _ _ _ _ _ _)))); (fail_if_success (with_reducible show BoolCut _ _ _ _ _ _ _ _)); (fail_if_success (with_reducible show BytesCut _ _ _ _ _ _ _ _)))); dsimp only; (first | (with_reducible (k_here; (with_reducible show wpAny _ _ (compareOp CmpOp.Eq (Value.bytes (List.toArray _) _) (Value.bytes (List.toArray _) _)) _ _ _); (refine eq_bytesL ?_))) | walk1)) | ((((((((((((((fail_if_success (with_reducible show InvPostN _ _ _ _ _ _ _ _ _)); (fail_if_success (with_reducible show InvEndN _ _ _ _ _ _ _)); (fail_if_success (with_reducible show wpG _ _ _ _ _ _)); (fail_if_success (with_reducible show wpAny _ _ (pyIter (Value.ref _)) _ _ _)))); (fail_if_success (with_reducible show LCg.CompSrc _ _ _ _ _ _ _ _ _ _ _ _ _ _)); (fail_if_success (with_reducible show LCg.CompEnd _ _ _ _ _ _ _ _ _ _ _ _ _ _)))); (fail_if_success (with_reducible show wpAny _ _ (eval (Expr.ListComp _ _ _ _) _) _ _ _)))); (fail_if_success (with_reducible show wpAny _ _ (call (Value.ref _) _) _ _ _)))); (fail_if_success (with_reducible show wpAny _ _ (exec (Stmt.While _ _ _ _) _) _ _ _)); (fail_if_success (with_reducible show WhileStep _ _ _ _ _ _ _)))); (fail_if_success (with_reducible show BoolCut _ _ _ _ _ _ _ _)); (fail_if_success (with_reducible show BytesCut _ _ _ _ _ _ _ _)))); leave1; walk_say "STEP leave1"; try dsimp only) | fail "no step"))
            · exact BoolCut.intro (by k_asm) (by k_asm) (cB1 (by assumption) hA4 (by assumption) (by assumption))
            · exact BoolCut.intro (by k_asm) (by k_asm) (cA2 (by assumption))
          intro h6 tk6 F6 N6
          (repeat' (first | (k_unfold; (try dsimp only)) | ((((((((((((((fail_if_success (with_reducible show InvPostN _ _ _ _ _ _ _ _ _)); (fail_if_success (with_reducible show InvEndN _ _ _ _ _ _ _)); (fail_if_success (with_reducible show wpG _ _ _ _ _ _)); (fail_if_success (with_reducible show wpAny _ _ (pyIter (Value.ref _)) _ _ _)))); (fail_if_success (with_reducible show LCg.CompSrc _ _ _ _ _ _ _ _ _ _ _ _ _ _)); (fail_if_success (with_reducible show LCg.CompEnd _ _ _ _ _ _ _ _ _ _ _ _ _ _)))); (fail_if_success (with_reducible show wpAny _ _ (eval (Expr.ListComp _ _ _ _) _) _ _ _)))); (fail_if_success (with_reducible show wpAny _ _ (call (Value.ref _) _) _ _ _)))); (fail_if_success (with_reducible show wpAny _ _ (exec (Stmt.While _ _ _ _) _) _ _ _)); (fail_if_success (with_reducible show WhileStep _ _ _ _ _ _ _)))); (fail_if_success (with_reducible show wpAny _ _ (subscriptTail _ _ (Value.ref _) (Value.ref _)) _ _ _)); (fail_if_success (with_reducible show wpAny _ _ (exec (Stmt.For _ _ _ _ _) _) _ _ _)); (fail_if_success (with_reducible show wpAny _ _ (eval (Expr.BoolOp _ _ _) _) _ _ _)); (fail_if_success (with_reducible show StayCut _ _ _ _ _ _ _ _ _ _ _ _ _ _ _ _ _ _)); (fail_if_success (with_reducible show BoolCut _ _ _ _ _ _ _ _)); (fail_if_success (with_reducible show BytesCut _ _ _ _ _ _ _ _)))); walk1) | ((((((((((((((fail_if_success (with_reducible show InvPostN _ _ _ _ _ _ _ _ _)); (fail_if_success (with_reducible show InvEndN _ _ _ _ _ _ _)); (fail_if_success (with_reducible show wpG _ _ _ _ _ _)); (fail_if_success (with_reducible show wpAny _ _ (pyIter (Value.ref _)) _ _ _)))); (fail_if_success (with_reducible show LCg.CompSrc _ _ _ _ _ _ _ _ _ _ _ _ _ _)); (fail_if_success (with_reducible show LCg.CompEnd _ _ _ _ _ _ _ _ _ _ _ _ _ _)))); (fail_if_success (with_reducible show wpAny _ _ (eval (Expr.ListComp _ _ _ _) _) _ _ _)))); (fail_if_success (with_reducible show wpAny _ _ (call (Value.ref _) _) _ _ _)))); (fail_if_success (with_reducible show wpAny _ _ (exec (Stmt.While _ _ _ _) _) _ _ _)); (fail_if_success (with_reducible show WhileStep _ _ _ _ _ _ _)))); (fail_if_success (with_reducible show wpAny _ _ (subscriptTail _ _ (Value.ref _) (Value.ref _)) _ _ _)); (fail_if_success (with_reducible show wpAny _ _ (exec (Stmt.For _ _ _ _ _) _) _ _ _)); (fail_if_success (with_reducible show wpAny _ _ (eval (Expr.BoolOp _ _ _) _) _ _ _)); (fail_if_success (with_reducible show StayCut _ _ _ _ _ _ _ _ _ _ _ _ _ _ _ _ _ _)); (fail_if_success (with_reducible show BoolCut _ _ _ _ _ _ _ _)); (fail_if_success (with_reducible show BytesCut _ _ _ _ _ _ _ _)))); dsimp only; walk1) | ((((((((((((((fail_if_success (with_reducible show InvPostN _ _ _ _ _ _ _ _ _)); (fail_if_success (with_reducible show InvEndN _ _ _ _ _ _ _)); (fail_if_success (with_reducible show wpG _ _ _ _ _ _)); (fail_if_success (with_reducible show wpAny _ _ (pyIter (Value.ref _)) _ _ _)))); (fail_if_success (with_reducible show LCg.CompSrc _ _ _ _ _ _ _ _ _ _ _ _ _ _)); (fail_if_success (with_reducible show LCg.CompEnd _ _ _ _ _ _ _ _ _ _ _ _ _ _)))); (fail_if_success (with_reducible show wpAny _ _ (eval (Expr.ListComp _ _ _ _) _) _ _ _)))); (fail_if_success (with_reducible show wpAny _ _ (call (Value.ref _) _) _ _ _)))); (fail_if_success (with_reducible show wpAny _ _ (exec (Stmt.While _ _ _ _) _) _ _ _)); (fail_if_success (with_reducible show WhileStep _ _ _ _ _ _ _)))); (fail_if_success (with_reducible show wpAny _ _ (subscriptTail _ _ (Value.ref _) (Value.ref _)) _ _ _)); (fail_if_success (with_reducible show wpAny _ _ (exec (Stmt.For _ _ _ _ _) _) _ _ _)); (fail_if_success (with_reducible show wpAny _ _ (eval (Expr.BoolOp _ _ _) _) _ _ _)); (fail_if_success (with_reducible show StayCut _ _ _ _ _ _ _ _ _ _ _ _ _ _ _ _ _ _)); (fail_if_success (with_reducible show BoolCut _ _ _ _ _ _ _ _)); (fail_if_success (with_reducible show BytesCut _ _ _ _ _ _ _ _)))); leave1; walk_say "STEP leave1"; try dsimp only) | fail "no step"))
          have ei0 : (0 + (i : Int) * 1).toNat = i := by omega
          rename steps.getD (0 + (i : Int) * 1).toNat [] = [46, 46] => hdd
          have hst : stayF steps front back i = [decide (front = []) && ahead.all fun a => decide ((hsL steps steps.length).getD (i + 1) 0 < a), decide (back = []) && behind.all fun a => decide (a < (hsL steps steps.length).getD i 0)] := by
            rw [← hAq, ← hBq]
            unfold stayF
            rw [ei0] at hdd
            exact if_pos hdd
          exact StayCut.intro (bs' := [_, _]) (by k_asm) (by k_asm) (by omega) hst.symm (by rfl) (if_pos rfl) (fun z h h1 h2 h3 h4 h5 h6 => by simp only [mapN, if_neg h, if_neg h1, if_neg h2, if_neg h3, if_neg h4, if_neg h5, if_neg h6])
        · obtain ⟨lowB, hlB⟩ : ∃ b, b = behind.all fun a => decide ((hsL steps steps.length).getD i 0 < a) := ⟨_, rfl⟩
          obtain ⟨highB, hhB⟩ : ∃ b, b = ahead.all fun a => decide (a < (hsL steps steps.length).getD (i + 1) 0) := ⟨_, rfl⟩
          rename _ ∈ behind => hm1
          rename ∀ a, a ∈ behind → _ ≤ a => hm2
          rename _ ∈ ahead => hm3
          rename ∀ a, a ∈ ahead → a ≤ _ => hm4
          have hlow := (gt_min (b := ahead.getD (-1 + (ahead.length : Int)).toNat 0) hm1 hm2)
          rw [hA4, ← hlB, ← hA4] at hlow
          have hhigh := (lt_max (b := behind.getD (Int.toNat 0) 0) hm3 hm4)
          rw [hB3, ← hhB, ← hB3] at hhigh
          (with_reducible rename Fr _ _ _ _ => F5)
          rw [hlow, hhigh] at F5 ⊢
          clear hlow hhigh hm1 hm2 hm3 hm4
          refine bool_cut (by k_asm) (by k_asm) (lowB && (decide (front ≠ []) || decide (0 ≤ (hsL steps steps.length).getD i 0))) ?_ ?_
          · (repeat' (first | (k_unfold; (try dsimp only)) | ((((((((((((((fail_if_success (with_reducible show InvPostN _ _ _ _ _ _ _ _ _)); (fail_if_success (with_reducible show InvEndN _ _ _ _ _ _ _)); (fail_if_success (with_reducible show wpG _ _ _ _ _ _)); (fail_if_success (with_reducible show wpAny _ _ (pyIter (Value.ref _)) _ _ _)))); (fail_if_success (with_reducible show LCg.CompSrc _ _ _ _ _ _ _ _ _ _ _ _ _ _)); (fail_if_success (with_reducible show LCg.CompEnd _ _ _ _ _ _ _ _ _ _ _ _ _ _)))); (fail_if_success (with_reducible show wpAny _ _ (eval (Expr.ListComp _ _ _ _) _) _ _ _)))); (fail_if_success (with_reducible show wpAny _ _ (call (Value.ref _) _) _ _ _)))); (fail_if_success (with_reducible show wpAny _ _ (exec (Stmt.While _ _ _ _) _) _ _ _)); (fail_if_success (with_reducible show WhileStep _ _ _ _ _ _ _)))); (fail_if_success (with_reducible show BoolCut _ _ _ _ _ _ _ _)); (fail_if_success (with_reducible show BytesCut _ _ _ _ _ _ _ _)))); (first | (with_reducible (k_here; (with_reducible show wpAny _ _ (compareOp CmpOp.NotEq (Value.bytes (List.toArray _) _) (Value.bytes (List.toArray _) _)) _ _ _); (refine ne_bytesL ?_))) | walk1)) | ((((((((((((((fail_if_success (with_reducible show InvPostN _ _ _ _ _ _ _ _ _)); (fail_if_success (with_reducible show InvEndN _ _ _ _ _ _ _)); (fail_if_success (with_reducible show wpG _ _ _ _ _ _)); (fail_if_success (with_reducible show wpAny _ _ (pyIter (Value.ref _)) _ _ _)))); (fail_if_success (with_reducible show LCg.CompSrc _ _ _ _ _ _ _ _ _ _ _ _ _ _)); (fail_if_success (with_reducible show LCg.CompEnd _ _ _ _ _ _ _ _ _ _ _ _ _ _)))); (fail_if_success (with_reducible show wpAny _ _ (eval (Expr.ListComp _ _ _ _) _) _ _ _)))); (fail_if_success (with_reducible show wpAny _ _ (call (Value.ref _) _) _ _ _)))); (fail_if_success (with_reducible show wpAny _ _ (exec (Stmt.While _ _ _ _) _) _ _ _)); (fail_if_success (with_reducible show WhileStep _ _ _ _ _ _ _)))); (fail_if_success (with_reducible show BoolCut _ _ _ _ _ _ _ _)); (fail_if_success (with_reducible show BytesCut _ _ _ _ _ _ _ _)))); dsimp only; (first | (with_reducible (k_here; (with_reducible show wpAny _ _ (compareOp CmpOp.NotEq (Value.bytes (List.toArray _) _) (Value.bytes (List.toArray _) _)) _ _ _); (refine ne_bytesL ?_))) | walk1)) | ((((((((((((((fail_if_success (with_reducible show InvPostN _ _ _ _ _ _ _ _ _)); (fail_if_success (with_reducible show InvEndN _ _ _ _ _ _ _)); (fail_if_success (with_reducible show wpG _ _ _ _ _ _)); (fail_if_success (with_reducible show wpAny _ _ (pyIter (Value.ref _)) _ _ _)))); (fail_if_success (with_reducible show LCg.CompSrc _ _ _ _ _ _ _ _ _ _ _ _ _ _)); (fail_if_success (with_reducible show LCg.CompEnd _ _ _ _ _ _ _ _ _ _ _ _ _ _)))); (fail_if_success (with_reducible show wpAny _ _ (eval (Expr.ListComp _ _ _ _) _) _ _ _)))); (fail_if_success (with_reducible show wpAny _ _ (call (Value.ref _) _) _ _ _)))); (fail_if_success (with_reducible show wpAny _ _ (exec (Stmt.While _ _ _ _) _) _ _ _)); (fail_if_success (with_reducible show WhileStep _ _ _ _ _ _ _)))); (fail_if_success (with_reducible show BoolCut _ _ _ _ _ _ _ _)); (fail_if_success (with_reducible show BytesCut _ _ _ _ _ _ _ _)))); leave1; walk_say "STEP leave1"; try dsimp only) | fail "no step"))
            · exact BoolCut.intro (by k_asm) (by k_asm) (cC1 (by assumption) (by assumption))
            · exact BoolCut.intro (by k_asm) (by k_asm) (cC2 (by assumption) (by assumption) hA4)
            · exact BoolCut.intro (by k_asm) (by k_asm) (cC3 (by assumption))
          intro h7 tk7 F7 N7
          (repeat' (first | (k_unfold; (try dsimp only)) | ((((((((((((((fail_if_success (with_reducible show InvPostN _ _ _ _ _ _ _ _ _)); (fail_if_success (with_reducible show InvEndN _ _ _ _ _ _ _)); (fail_if_success (with_reducible show wpG _ _ _ _ _ _)); (fail_if_success (with_reducible show wpAny _ _ (pyIter (Value.ref _)) _ _ _)))); (fail_if_success (with_reducible show LCg.CompSrc _ _ _ _ _ _ _ _ _ _ _ _ _ _)); (fail_if_success (with_reducible show LCg.CompEnd _ _ _ _ _ _ _ _ _ _ _ _ _ _)))); (fail_if_success (with_reducible show wpAny _ _ (eval (Expr.ListComp _ _ _ _) _) _ _ _)))); (fail_if_success (with_reducible show wpAny _ _ (call (Value.ref _) _) _ _ _)))); (fail_if_success (with_reducible show wpAny _ _ (exec (Stmt.While _ _ _ _) _) _ _ _)); (fail_if_success (with_reducible show WhileStep _ _ _ _ _ _ _)))); (fail_if_success (with_reducible show wpAny _ _ (subscriptTail _ _ (Value.ref _) (Value.ref _)) _ _ _)); (fail_if_success (with_reducible show wpAny _ _ (exec (Stmt.For _ _ _ _ _) _) _ _ _)); (fail_if_success (with_reducible show wpAny _ _ (eval (Expr.BoolOp _ _ _) _) _ _ _)); (fail_if_success (with_reducible show StayCut _ _ _ _ _ _ _ _ _ _ _ _ _ _ _ _ _ _)); (fail_if_success (with_reducible show BoolCut _ _ _ _ _ _ _ _)); (fail_if_success (with_reducible show BytesCut _ _ _ _ _ _ _ _)))); walk1) | ((((((((((((((fail_if_success (with_reducible show InvPostN _ _ _ _ _ _ _ _ _)); (fail_if_success (with_reducible show InvEndN _ _ _ _ _ _ _)); (fail_if_success (with_reducible show wpG _ _ _ _ _ _)); (fail_if_success (with_reducible show wpAny _ _ (pyIter (Value.ref _)) _ _ _)))); (fail_if_success (with_reducible show LCg.CompSrc _ _ _ _ _ _ _ _ _ _ _ _ _ _)); (fail_if_success (with_reducible show LCg.CompEnd _ _ _ _ _ _ _ _ _ _ _ _ _ _)))); (fail_if_success (with_reducible show wpAny _ _ (eval (Expr.ListComp _ _ _ _) _) _ _ _)))); (fail_if_success (with_reducible show wpAny _ _ (call (Value.ref _) _) _ _ _)))); (fail_if_success (with_reducible show wpAny _ _ (exec (Stmt.While _ _ _ _) _) _ _ _)); (fail_if_success (with_reducible show WhileStep _ _ _ _ _ _ _)))); (fail_if_success (with_reducible show wpAny _ _ (subscriptTail _ _ (Value.ref _) (Value.ref _)) _ _ _)); (fail_if_success (with_reducible show wpAny _ _ (exec (Stmt.For _ _ _ _ _) _) _ _ _)); (fail_if_success (with_reducible show wpAny _ _ (eval (Expr.BoolOp _ _ _) _) _ _ _)); (fail_if_success (with_reducible show StayCut _ _ _ _ _ _ _ _ _ _ _ _ _ _ _ _ _ _)); (fail_if_success (with_reducible show BoolCut _ _ _ _ _ _ _ _)); (fail_if_success (with_reducible show BytesCut _ _ _ _ _ _ _ _)))); dsimp only; walk1) | ((((((((((((((fail_if_success (with_reducible show InvPostN _ _ _ _ _ _ _ _ _)); (fail_if_success (with_reducible show InvEndN _ _ _ _ _ _ _)); (fail_if_success (with_reducible show wpG _ _ _ _ _ _)); (fail_if_success (with_reducible show wpAny _ _ (pyIter (Value.ref _)) _ _ _)))); (fail_if_success (with_reducible show LCg.CompSrc _ _ _ _ _ _ _ _ _ _ _ _ _ _)); (fail_if_success (with_reducible show LCg.CompEnd _ _ _ _ _ _ _ _ _ _ _ _ _ _)))); (fail_if_success (with_reducible show wpAny _ _ (eval (Expr.ListComp _ _ _ _) _) _ _ _)))); (fail_if_success (with_reducible show wpAny _ _ (call (Value.ref _) _) _ _ _)))); (fail_if_success (with_reducible show wpAny _ _ (exec (Stmt.While _ _ _ _) _) _ _ _)); (fail_if_success (with_reducible show WhileStep _ _ _ _ _ _ _)))); (fail_if_success (with_reducible show wpAny _ _ (subscriptTail _ _ (Value.ref _) (Value.ref _)) _ _ _)); (fail_if_success (with_reducible show wpAny _ _ (exec (Stmt.For _ _ _ _ _) _) _ _ _)); (fail_if_success (with_reducible show wpAny _ _ (eval (Expr.BoolOp _ _ _) _) _ _ _)); (fail_if_success (with_reducible show StayCut _ _ _ _ _ _ _ _ _ _ _ _ _ _ _ _ _ _)); (fail_if_success (with_reducible show BoolCut _ _ _ _ _ _ _ _)); (fail_if_success (with_reducible show BytesCut _ _ _ _ _ _ _ _)))); leave1; walk_say "STEP leave1"; try dsimp only) | fail "no step"))
          refine bool_cut (by k_asm) (by k_asm) (highB && (decide (back ≠ []) || decide ((hsL steps steps.length).getD (i + 1) 0 ≤ (hsL steps steps.length).getD steps.length 0))) ?_ ?_
          · (repeat' (first | (k_unfold; (try dsimp only)) | ((((((((((((((fail_if_success (with_reducible show InvPostN _ _ _ _ _ _ _ _ _)); (fail_if_success (with_reducible show InvEndN _ _ _ _ _ _ _)); (fail_if_success (with_reducible show wpG _ _ _ _ _ _)); (fail_if_success (with_reducible show wpAny _ _ (pyIter (Value.ref _)) _ _ _)))); (fail_if_success (with_reducible show LCg.CompSrc _ _ _ _ _ _ _ _ _ _ _ _ _ _)); (fail_if_success (with_reducible show LCg.CompEnd _ _ _ _ _ _ _ _ _ _ _ _ _ _)))); (fail_if_success (with_reducible show wpAny _ _ (eval (Expr.ListComp _ _ _ _) _) _ _ _)))); (fail_if_success (with_reducible show wpAny _ _ (call (Value.ref _) _) _ _ _)))); (fail_if_success (with_reducible show wpAny _ _ (exec (Stmt.While _ _ _ _) _) _ _ _)); (fail_if_success (with_reducible show WhileStep _ _ _ _ _ _ _)))); (fail_if_success (with_reducible show BoolCut _ _ _ _ _ _ _ _)); (fail_if_success (with_reducible show BytesCut _ _ _ _ _ _ _ _)))); (first | (with_reducible (k_here; (with_reducible show wpAny _ _ (compareOp CmpOp.NotEq (Value.bytes (List.toArray _) _) (Value.bytes (List.toArray _) _)) _ _ _); (refine ne_bytesL ?_))) | walk1)) | ((((((((((((((fail_if_success (with_reducible show InvPostN _ _ _ _ _ _ _ _ _)); (fail_if_success (with_reducible show InvEndN _ _ _ _ _ _ _)); (fail_if_success (with_reducible show wpG _ _ _ _ _ _)); (fail_if_success (with_reducible show wpAny _ _ (pyIter (Value.ref _)) _ _ _)))); (fail_if_success (with_reducible show LCg.CompSrc _ _ _ _ _ _ _ _ _ _ _ _ _ _)); (fail_if_success (with_reducible show LCg.CompEnd _ _ _ _ _ _ _ _ _ _ _ _ _ _)))); (fail_if_success (with_reducible show wpAny _ _ (eval (Expr.ListComp _ _ _ _) _) _ _ _)))); (fail_if_success (with_reducible show wpAny _ _ (call (Value.ref _) _) _ _ _)))); (fail_if_success (with_reducible show wpAny _ _ (exec (Stmt.While _ _ _ _) _) _ _ _)); (fail_if_success (with_reducible show WhileStep _ _ _ _ _ _ _)))); (fail_if_success (with_reducible show BoolCut _ _ _ _ _ _ _ _)); (fail_if_success (with_reducible show BytesCut _ _ _ _ _ _ _ _)))); dsimp only; (first | (with_reducible (k_here; (with_reducible show wpAny _ _ (compareOp CmpOp.NotEq (Value.bytes (List.toArray _) _) (Value.bytes (List.toArray _) _)) _ _ _); (refine ne_bytesL ?_))) | walk1)) | ((((((((((((((fail_if_success (with_reducible show InvPostN _ _ _ _ _ _ _ _ _)); (fail_if_success (with_reducible show InvEndN _ _ _ _ _ _ _)); (fail_if_success (with_reducible show wpG _ _ _ _ _ _)); (fail_if_success (with_reducible show wpAny _ _ (pyIter (Value.ref _)) _ _ _)))); (fail_if_success (with_reducible show LCg.CompSrc _ _ _ _ _ _ _ _ _ _ _ _ _ _)); (fail_if_success (with_reducible show LCg.CompEnd _ _ _ _ _ _ _ _ _ _ _ _ _ _)))); (fail_if_success (with_reducible show wpAny _ _ (eval (Expr.ListComp _ _ _ _) _) _ _ _)))); (fail_if_success (with_reducible show wpAny _ _ (call (Value.ref _) _) _ _ _)))); (fail_if_success (with_reducible show wpAny _ _ (exec (Stmt.While _ _ _ _) _) _ _ _)); (fail_if_success (with_reducible show WhileStep _ _ _ _ _ _ _)))); (fail_if_success (with_reducible show BoolCut _ _ _ _ _ _ _ _)); (fail_if_success (with_reducible show BytesCut _ _ _ _ _ _ _ _)))); leave1; walk_say "STEP leave1"; try dsimp only) | fail "no step"))
            · exact BoolCut.intro (by k_asm) (by k_asm) (cC1 (by assumption) (by assumption))
            · exact BoolCut.intro (by k_asm) (by k_asm) (cD2 (by assumption) (by assumption) hB3 hH4)
            · exact BoolCut.intro (by k_asm) (by k_asm) (cC3 (by assumption))
          intro h6 tk6 F6 N6
          (repeat' (first | (k_unfold; (try dsimp only)) | ((((((((((((((fail_if_success (with_reducible show InvPostN _ _ _ _ _ _ _ _ _)); (fail_if_success (with_reducible show InvEndN _ _ _ _ _ _ _)); (fail_if_success (with_reducible show wpG _ _ _ _ _ _)); (fail_if_success (with_reducible show wpAny _ _ (pyIter (Value.ref _)) _ _ _)))); (fail_if_success (with_reducible show LCg.CompSrc _ _ _ _ _ _ _ _ _ _ _ _ _ _)); (fail_if_success (with_reducible show LCg.CompEnd _ _ _ _ _ _ _ _ _ _ _ _ _ _)))); (fail_if_success (with_reducible show wpAny _ _ (eval (Expr.ListComp _ _ _ _) _) _ _ _)))); (fail_if_success (with_reducible show wpAny _ _ (call (Value.ref _) _) _ _ _)))); (fail_if_success (with_reducible show wpAny _ _ (exec (Stmt.While _ _ _ _) _) _ _ _)); (fail_if_success (with_reducible show WhileStep _ _ _ _ _ _ _)))); (fail_if_success (with_reducible show wpAny _ _ (subscriptTail _ _ (Value.ref _) (Value.ref _)) _ _ _)); (fail_if_success (with_reducible show wpAny _ _ (exec (Stmt.For _ _ _ _ _) _) _ _ _)); (fail_if_success (with_reducible show wpAny _ _ (eval (Expr.BoolOp _ _ _) _) _ _ _)); (fail_if_success (with_reducible show StayCut _ _ _ _ _ _ _ _ _ _ _ _ _ _ _ _ _ _)); (fail_if_success (with_reducible show BoolCut _ _ _ _ _ _ _ _)); (fail_if_success (with_reducible show BytesCut _ _ _ _ _ _ _ _)))); walk1) | ((((((((((((((fail_if_success (with_reducible show InvPostN _ _ _ _ _ _ _ _ _)); (fail_if_success (with_reducible show InvEndN _ _ _ _ _ _ _)); (fail_if_success (with_reducible show wpG _ _ _ _ _ _)); (fail_if_success (with_reducible show wpAny _ _ (pyIter (Value.ref _)) _ _ _)))); (fail_if_success (with_reducible show LCg.CompSrc _ _ _ _ _ _ _ _ _ _ _ _ _ _)); (fail_if_success (with_reducible show LCg.CompEnd _ _ _ _ _ _ _ _ _ _ _ _ _ _)))); (fail_if_success (with_reducible show wpAny _ _ (eval (Expr.ListComp _ _ _ _) _) _ _ _)))); (fail_if_success (with_reducible show wpAny _ _ (call (Value.ref _) _) _ _ _)))); (fail_if_success (with_reducible show wpAny _ _ (exec (Stmt.While _ _ _ _) _) _ _ _)); (fail_if_success (with_reducible show WhileStep _ _ _ _ _ _ _)))); (fail_if_success (with_reducible show wpAny _ _ (subscriptTail _ _ (Value.ref _) (Value.ref _)) _ _ _)); (fail_if_success (with_reducible show wpAny _ _ (exec (Stmt.For _ _ _ _ _) _) _ _ _)); (fail_if_success (with_reducible show wpAny _ _ (eval (Expr.BoolOp _ _ _) _) _ _ _)); (fail_if_success (with_reducible show StayCut _ _ _ _ _ _ _ _ _ _ _ _ _ _ _ _ _ _)); (fail_if_success (with_reducible show BoolCut _ _ _ _ _ _ _ _)); (fail_if_success (with_reducible show BytesCut _ _ _ _ _ _ _ _)))); dsimp only; walk1) | ((((((((((((((fail_if_success (with_reducible show InvPostN _ _ _ _ _ _ _ _ _)); (fail_if_success (with_reducible show InvEndN _ _ _ _ _ _ _)); (fail_if_success (with_reducible show wpG _ _ _ _ _ _)); (fail_if_success (with_reducible show wpAny _ _ (pyIter (Value.ref _)) _ _ _)))); (fail_if_success (with_reducible show LCg.CompSrc _ _ _ _ _ _ _ _ _ _ _ _ _ _)); (fail_if_success (with_reducible show LCg.CompEnd _ _ _ _ _ _ _ _ _ _ _ _ _ _)))); (fail_if_success (with_reducible show wpAny _ _ (eval (Expr.ListComp _ _ _ _) _) _ _ _)))); (fail_if_success (with_reducible show wpAny _ _ (call (Value.ref _) _) _ _ _)))); (fail_if_success (with_reducible show wpAny _ _ (exec (Stmt.While _ _ _ _) _) _ _ _)); (fail_if_success (with_reducible show WhileStep _ _ _ _ _ _ _)))); (fail_if_success (with_reducible show wpAny _ _ (subscriptTail _ _ (Value.ref _) (Value.ref _)) _ _ _)); (fail_if_success (with_reducible show wpAny _ _ (exec (Stmt.For _ _ _ _ _) _) _ _ _)); (fail_if_success (with_reducible show wpAny _ _ (eval (Expr.BoolOp _ _ _) _) _ _ _)); (fail_if_success (with_reducible show StayCut _ _ _ _ _ _ _ _ _ _ _ _ _ _ _ _ _ _)); (fail_if_success (with_reducible show BoolCut _ _ _ _ _ _ _ _)); (fail_if_success (with_reducible show BytesCut _ _ _ _ _ _ _ _)))); leave1; walk_say "STEP leave1"; try dsimp only) | fail "no step"))
          have ei0 : (0 + (i : Int) * 1).toNat = i := by omega
          rename ¬ steps.getD (0 + (i : Int) * 1).toNat [] = [46, 46] => hdd
          have hst : stayF steps front back i = [lowB, highB, lowB && (decide (front ≠ []) || decide (0 ≤ (hsL steps steps.length).getD i 0)), highB && (decide (back ≠ []) || decide ((hsL steps steps.length).getD (i + 1) 0 ≤ (hsL steps steps.length).getD steps.length 0))] := by
            rw [hlB, hhB, ← hAq, ← hBq]
            unfold stayF
            rw [ei0] at hdd
            exact if_neg hdd
          exact StayCut.intro (bs' := [_, _, _, _]) (by k_asm) (by k_asm) (by omega) hst.symm (by rfl) (if_pos rfl) (fun z h h1 h2 h3 h4 h5 h6 => by simp only [mapN, if_neg h, if_neg h1, if_neg h2, if_neg h3, if_neg h4, if_neg h5, if_neg h6])
      intro h7 tk7 S u7 F7 N7 hKS
      clear iA iB hA1 hA2 hA3 hA4 hB1 hB3 hAq hBq hid hidN hsn hH4
      have hbl := HidF.mk (stayF_len steps front back i)
      generalize hst : stayF steps front back i = bs at *
      dsimp only
      (repeat' (first | (k_unfold; (try dsimp only)) | ((((((((((((((fail_if_success (with_reducible show InvPostN _ _ _ _ _ _ _ _ _)); (fail_if_success (with_reducible show InvEndN _ _ _ _ _ _ _)); (fail_if_success (with_reducible show wpG _ _ _ _ _ _)); (fail_if_success (with_reducible show wpAny _ _ (pyIter (Value.ref _)) _ _ _)))); (fail_if_success (with_reducible show LCg.CompSrc _ _ _ _ _ _ _ _ _ _ _ _ _ _)); (fail_if_success (with_reducible show LCg.CompEnd _ _ _ _ _ _ _ _ _ _ _ _ _ _)))); (fail_if_success (with_reducible show wpAny _ _ (eval (Expr.ListComp _ _ _ _) _) _ _ _)))); (fail_if_success (with_reducible show wpAny _ _ (call (Value.ref _) _) _ _ _)))); (fail_if_success (with_reducible show wpAny _ _ (exec (Stmt.While _ _ _ _) _) _ _ _)); (fail_if_success (with_reducible show WhileStep _ _ _ _ _ _ _)))); (fail_if_success (with_reducible show wpAny _ _ (subscriptTail _ _ (Value.ref _) (Value.ref _)) _ _ _)); (fail_if_success (with_reducible show wpAny _ _ (exec (Stmt.For _ _ _ _ _) _) _ _ _)); (fail_if_success (with_reducible show wpAny _ _ (eval (Expr.BoolOp _ _ _) _) _ _ _)); (fail_if_success (with_reducible show StayCut _ _ _ _ _ _ _ _ _ _ _ _ _ _ _ _ _ _)); (fail_if_success (with_reducible show BoolCut _ _ _ _ _ _ _ _)); (fail_if_success (with_reducible show BytesCut _ _ _ _ _ _ _ _)))); walk1) | ((((((((((((((fail_if_success (with_reducible show InvPostN _ _ _ _ _ _ _ _ _)); (fail_if_success (with_reducible show InvEndN _ _ _ _ _ _ _)); (fail_if_success (with_reducible show wpG _ _ _ _ _ _)); (fail_if_success (with_reducible show wpAny _ _ (pyIter (Value.ref _)) _ _ _)))); (fail_if_success (with_reducible show LCg.CompSrc _ _ _ _ _ _ _ _ _ _ _ _ _ _)); (fail_if_success (with_reducible show LCg.CompEnd _ _ _ _ _ _ _ _ _ _ _ _ _ _)))); (fail_if_success (with_reducible show wpAny _ _ (eval (Expr.ListComp _ _ _ _) _) _ _ _)))); (fail_if_success (with_reducible show wpAny _ _ (call (Value.ref _) _) _ _ _)))); (fail_if_success (with_reducible show wpAny _ _ (exec (Stmt.While _ _ _ _) _) _ _ _)); (fail_if_success (with_reducible show WhileStep _ _ _ _ _ _ _)))); (fail_if_success (with_reducible show wpAny _ _ (subscriptTail _ _ (Value.ref _) (Value.ref _)) _ _ _)); (fail_if_success (with_reducible show wpAny _ _ (exec (Stmt.For _ _ _ _ _) _) _ _ _)); (fail_if_success (with_reducible show wpAny _ _ (eval (Expr.BoolOp _ _ _) _) _ _ _)); (fail_if_success (with_reducible show StayCut _ _ _ _ _ _ _ _ _ _ _ _ _ _ _ _ _ _)); (fail_if_success (with_reducible show BoolCut _ _ _ _ _ _ _ _)); (fail_if_success (with_reducible show BytesCut _ _ _ _ _ _ _ _)))); dsimp only; walk1) | ((((((((((((((fail_if_success (with_reducible show InvPostN _ _ _ _ _ _ _ _ _)); (fail_if_success (with_reducible show InvEndN _ _ _ _ _ _ _)); (fail_if_success (with_reducible show wpG _ _ _ _ _ _)); (fail_if_success (with_reducible show wpAny _ _ (pyIter (Value.ref _)) _ _ _)))); (fail_if_success (with_reducible show LCg.CompSrc _ _ _ _ _ _ _ _ _ _ _ _ _ _)); (fail_if_success (with_reducible show LCg.CompEnd _ _ _ _ _ _ _ _ _ _ _ _ _ _)))); (fail_if_success (with_reducible show wpAny _ _ (eval (Expr.ListComp _ _ _ _) _) _ _ _)))); (fail_if_success (with_reducible show wpAny _ _ (call (Value.ref _) _) _ _ _)))); (fail_if_success (with_reducible show wpAny _ _ (exec (Stmt.While _ _ _ _) _) _ _ _)); (fail_if_success (with_reducible show WhileStep _ _ _ _ _ _ _)))); (fail_if_success (with_reducible show wpAny _ _ (subscriptTail _ _ (Value.ref _) (Value.ref _)) _ _ _)); (fail_if_success (with_reducible show wpAny _ _ (exec (Stmt.For _ _ _ _ _) _) _ _ _)); (fail_if_success (with_reducible show wpAny _ _ (eval (Expr.BoolOp _ _ _) _) _ _ _)); (fail_if_success (with_reducible show StayCut _ _ _ _ _ _ _ _ _ _ _ _ _ _ _ _ _ _)); (fail_if_success (with_reducible show BoolCut _ _ _ _ _ _ _ _)); (fail_if_success (with_reducible show BytesCut _ _ _ _ _ _ _ _)))); leave1; walk_say "STEP leave1"; try dsimp only) | fail "no step"))
      with_unfolding_all refine For_invVF F7 (by rfl) (by rfl) ?_
      (repeat' (first | (k_unfold; (try dsimp only)) | ((((((((((((((fail_if_success (with_reducible show InvPostN _ _ _ _ _ _ _ _ _)); (fail_if_success (with_reducible show InvEndN _ _ _ _ _ _ _)); (fail_if_success (with_reducible show wpG _ _ _ _ _ _)); (fail_if_success (with_reducible show wpAny _ _ (pyIter (Value.ref _)) _ _ _)))); (fail_if_success (with_reducible show LCg.CompSrc _ _ _ _ _ _ _ _ _ _ _ _ _ _)); (fail_if_success (with_reducible show LCg.CompEnd _ _ _ _ _ _ _ _ _ _ _ _ _ _)))); (fail_if_success (with_reducible show wpAny _ _ (eval (Expr.ListComp _ _ _ _) _) _ _ _)))); (fail_if_success (with_reducible show wpAny _ _ (call (Value.ref _) _) _ _ _)))); (fail_if_success (with_reducible show wpAny _ _ (exec (Stmt.While _ _ _ _) _) _ _ _)); (fail_if_success (with_reducible show WhileStep _ _ _ _ _ _ _)))); (fail_if_success (with_reducible show wpAny _ _ (subscriptTail _ _ (Value.ref _) (Value.ref _)) _ _ _)); (fail_if_success (with_reducible show wpAny _ _ (exec (Stmt.For _ _ _ _ _) _) _ _ _)); (fail_if_success (with_reducible show wpAny _ _ (eval (Expr.BoolOp _ _ _) _) _ _ _)); (fail_if_success (with_reducible show StayCut _ _ _ _ _ _ _ _ _ _ _ _ _ _ _ _ _ _)); (fail_if_success (with_reducible show BoolCut _ _ _ _ _ _ _ _)); (fail_if_success (with_reducible show BytesCut _ _ _ _ _ _ _ _)))); walk1) | ((((((((((((((fail_if_success (with_reducible show InvPostN _ _ _ _ _ _ _ _ _)); (fail_if_success (with_reducible show InvEndN _ _ _ _ _ _ _)); (fail_if_success (with_reducible show wpG _ _ _ _ _ _)); (fail_if_success (with_reducible show wpAny _ _ (pyIter (Value.ref _)) _ _ _)))); (fail_if_success (with_reducible show LCg.CompSrc _ _ _ _ _ _ _ _ _ _ _ _ _ _)); (fail_if_success (with_reducible show LCg.CompEnd _ _ _ _ _ _ _ _ _ _ _ _ _ _)))); (fail_if_success (with_reducible show wpAny _ _ (eval (Expr.ListComp _ _ _ _) _) _ _ _)))); (fail_if_success (with_reducible show wpAny _ _ (call (Value.ref _) _) _ _ _)))); (fail_if_success (with_reducible show wpAny _ _ (exec (Stmt.While _ _ _ _) _) _ _ _)); (fail_if_success (with_reducible show WhileStep _ _ _ _ _ _ _)))); (fail_if_success (with_reducible show wpAny _ _ (subscriptTail _ _ (Value.ref _) (Value.ref _)) _ _ _)); (fail_if_success (with_reducible show wpAny _ _ (exec (Stmt.For _ _ _ _ _) _) _ _ _)); (fail_if_success (with_reducible show wpAny _ _ (eval (Expr.BoolOp _ _ _) _) _ _ _)); (fail_if_success (with_reducible show StayCut _ _ _ _ _ _ _ _ _ _ _ _ _ _ _ _ _ _)); (fail_if_success (with_reducible show BoolCut _ _ _ _ _ _ _ _)); (fail_if_success (with_reducible show BytesCut _ _ _ _ _ _ _ _)))); dsimp only; walk1) | ((((((((((((((fail_if_success (with_reducible show InvPostN _ _ _ _ _ _ _ _ _)); (fail_if_success (with_reducible show InvEndN _ _ _ _ _ _ _)); (fail_if_success (with_reducible show wpG _ _ _ _ _ _)); (fail_if_success (with_reducible show wpAny _ _ (pyIter (Value.ref _)) _ _ _)))); (fail_if_success (with_reducible show LCg.CompSrc _ _ _ _ _ _ _ _ _ _ _ _ _ _)); (fail_if_success (with_reducible show LCg.CompEnd _ _ _ _ _ _ _ _ _ _ _ _ _ _)))); (fail_if_success (with_reducible show wpAny _ _ (eval (Expr.ListComp _ _ _ _) _) _ _ _)))); (fail_if_success (with_reducible show wpAny _ _ (call (Value.ref _) _) _ _ _)))); (fail_if_success (with_reducible show wpAny _ _ (exec (Stmt.While _ _ _ _) _) _ _ _)); (fail_if_success (with_reducible show WhileStep _ _ _ _ _ _ _)))); (fail_if_success (with_reducible show wpAny _ _ (subscriptTail _ _ (Value.ref _) (Value.ref _)) _ _ _)); (fail_if_success (with_reducible show wpAny _ _ (exec (Stmt.For _ _ _ _ _) _) _ _ _)); (fail_if_success (with_reducible show wpAny _ _ (eval (Expr.BoolOp _ _ _) _) _ _ _)); (fail_if_success (with_reducible show StayCut _ _ _ _ _ _ _ _ _ _ _ _ _ _ _ _ _ _)); (fail_if_success (with_reducible show BoolCut _ _ _ _ _ _ _ _)); (fail_if_success (with_reducible show BytesCut _ _ _ _ _ _ _ _)))); leave1; walk_say "STEP leave1"; try dsimp only) | fail "no step"))
      refine kun_lenL (k := (bs.length : Int)) (News.isList (by k_asm) (by k_mem)) (by rw [List.size_toArray, List.length_map]) (Int.le_trans (Int.ofNat_le.mpr hbl.out) (by decide)) ?_
      (repeat' (first | (k_unfold; (try dsimp only)) | ((((((((((((((fail_if_success (with_reducible show InvPostN _ _ _ _ _ _ _ _ _)); (fail_if_success (with_reducible show InvEndN _ _ _ _ _ _ _)); (fail_if_success (with_reducible show wpG _ _ _ _ _ _)); (fail_if_success (with_reducible show wpAny _ _ (pyIter (Value.ref _)) _ _ _)))); (fail_if_success (with_reducible show LCg.CompSrc _ _ _ _ _ _ _ _ _ _ _ _ _ _)); (fail_if_success (with_reducible show LCg.CompEnd _ _ _ _ _ _ _ _ _ _ _ _ _ _)))); (fail_if_success (with_reducible show wpAny _ _ (eval (Expr.ListComp _ _ _ _) _) _ _ _)))); (fail_if_success (with_reducible show wpAny _ _ (call (Value.ref _) _) _ _ _)))); (fail_if_success (with_reducible show wpAny _ _ (exec (Stmt.While _ _ _ _) _) _ _ _)); (fail_if_success (with_reducible show WhileStep _ _ _ _ _ _ _)))); (fail_if_success (with_reducible show wpAny _ _ (subscriptTail _ _ (Value.ref _) (Value.ref _)) _ _ _)); (fail_if_success (with_reducible show wpAny _ _ (exec (Stmt.For _ _ _ _ _) _) _ _ _)); (fail_if_success (with_reducible show wpAny _ _ (eval (Expr.BoolOp _ _ _) _) _ _ _)); (fail_if_success (with_reducible show StayCut _ _ _ _ _ _ _ _ _ _ _ _ _ _ _ _ _ _)); (fail_if_success (with_reducible show BoolCut _ _ _ _ _ _ _ _)); (fail_if_success (with_reducible show BytesCut _ _ _ _ _ _ _ _)))); walk1) | ((((((((((((((fail_if_success (with_reducible show InvPostN _ _ _ _ _ _ _ _ _)); (fail_if_success (with_reducible show InvEndN _ _ _ _ _ _ _)); (fail_if_success (with_reducible show wpG _ _ _ _ _ _)); (fail_if_success (with_reducible show wpAny _ _ (pyIter (Value.ref _)) _ _ _)))); (fail_if_success (with_reducible show LCg.CompSrc _ _ _ _ _ _ _ _ _ _ _ _ _ _)); (fail_if_success (with_reducible show LCg.CompEnd _ _ _ _ _ _ _ _ _ _ _ _ _ _)))); (fail_if_success (with_reducible show wpAny _ _ (eval (Expr.ListComp _ _ _ _) _) _ _ _)))); (fail_if_success (with_reducible show wpAny _ _ (call (Value.ref _) _) _ _ _)))); (fail_if_success (with_reducible show wpAny _ _ (exec (Stmt.While _ _ _ _) _) _ _ _)); (fail_if_success (with_reducible show WhileStep _ _ _ _ _ _ _)))); (fail_if_success (with_reducible show wpAny _ _ (subscriptTail _ _ (Value.ref _) (Value.ref _)) _ _ _)); (fail_if_success (with_reducible show wpAny _ _ (exec (Stmt.For _ _ _ _ _) _) _ _ _)); (fail_if_success (with_reducible show wpAny _ _ (eval (Expr.BoolOp _ _ _) _) _ _ _)); (fail_if_success (with_reducible show StayCut _ _ _ _ _ _ _ _ _ _ _ _ _ _ _ _ _ _)); (fail_if_success (with_reducible show BoolCut _ _ _ _ _ _ _ _)); (fail_if_success (with_reducible show BytesCut _ _ _ _ _ _ _ _)))); dsimp only; walk1) | ((((((((((((((fail_if_success (with_reducible show InvPostN _ _ _ _ _ _ _ _ _)); (fail_if_success (with_reducible show InvEndN _ _ _ _ _ _ _)); (fail_if_success (with_reducible show wpG _ _ _ _ _ _)); (fail_if_success (with_reducible show wpAny _ _ (pyIter (Value.ref _)) _ _ _)))); (fail_if_success (with_reducible show LCg.CompSrc _ _ _ _ _ _ _ _ _ _ _ _ _ _)); (fail_if_success (with_reducible show LCg.CompEnd _ _ _ _ _ _ _ _ _ _ _ _ _ _)))); (fail_if_success (with_reducible show wpAny _ _ (eval (Expr.ListComp _ _ _ _) _) _ _ _)))); (fail_if_success (with_reducible show wpAny _ _ (call (Value.ref _) _) _ _ _)))); (fail_if_success (with_reducible show wpAny _ _ (exec (Stmt.While _ _ _ _) _) _ _ _)); (fail_if_success (with_reducible show WhileStep _ _ _ _ _ _ _)))); (fail_if_success (with_reducible show wpAny _ _ (subscriptTail _ _ (Value.ref _) (Value.ref _)) _ _ _)); (fail_if_success (with_reducible show wpAny _ _ (exec (Stmt.For _ _ _ _ _) _) _ _ _)); (fail_if_success (with_reducible show wpAny _ _ (eval (Expr.BoolOp _ _ _) _) _ _ _)); (fail_if_success (with_reducible show StayCut _ _ _ _ _ _ _ _ _ _ _ _ _ _ _ _ _ _)); (fail_if_success (with_reducible show BoolCut _ _ _ _ _ _ _ _)); (fail_if_success (with_reducible show BytesCut _ _ _ _ _ _ _ _)))); leave1; walk_say "STEP leave1"; try dsimp only) | fail "no step"))
      have hbl := hbl.out
      rename IsRange _ _ _ _ _ _ _ _ => hr2
      (with_reducible rename Fr _ _ _ _ => F6)
      (with_reducible rename News _ _ _ _ => N6)
      refine iter_four3 (n := bs.length) own (Str.ofString "side") (Str.ofString "side") (Str.ofString "side") (Str.ofString "side") (Str.ofString "side") (Str.ofString "side") (gI (keptN steps front back i) bs (steps.getD (0 + (i : Int) * 1).toNat [])) rfl hr2 (small_of (by omega) (by omega) (by omega) (by omega) (by rw [rangeSize_one]; omega) (by rw [rangeSize_one]; omega)) rangeSize_one F6 N6 (.tail _ (.tail _ (.tail _ (.head _)))) (.tail _ (.tail _ (.tail _ (.tail _ (.head _))))) (.tail _ (.tail _ (.tail _ (.tail _ (.tail _ (.head _)))))) (.tail _ (.tail _ (.tail _ (.tail _ (.tail _ (.tail _ (.head _))))))) (.head _) (.tail _ (.tail _ (.tail _ (.tail _ (.tail _ (.tail _ (.tail _ (.head _)))))))) (.tail _ (.tail _ (.tail _ (.tail _ (.tail _ (.tail _ (.tail _ (.tail _ (.head _))))))))) (fun p hp => by (repeat (first | assumption | refine List.mem_cons_of_mem _ ?_))) hoff (gI_zero B0) (gI_zero B1) (gI_zero B2) (gI_zero B3) ?_ ?_
      · intro j t' u' v0 v1 v2 v3 f0 f1 f2 f3 h5 tk5 own5 hj hoff5 C0 C1 C2 C3 F₃ N₃
        (try clear F6); (try clear N6); clear hr2
        have hz0 := gI_len C0
        have hz1 := gI_len C1
        have hz2 := gI_len C2
        have hz3 := gI_len C3
        dsimp only [List.cons_append, List.nil_append] at N₃
        have hc := chain_of N₃ (by omega) (by omega) (by omega) (by omega) (by omega) (by omega)
        (repeat' (first | (k_unfold; (try dsimp only)) | ((((((((((((((fail_if_success (with_reducible show InvPostN _ _ _ _ _ _ _ _ _)); (fail_if_success (with_reducible show InvEndN _ _ _ _ _ _ _)); (fail_if_success (with_reducible show wpG _ _ _ _ _ _)); (fail_if_success (with_reducible show wpAny _ _ (pyIter (Value.ref _)) _ _ _)))); (fail_if_success (with_reducible show LCg.CompSrc _ _ _ _ _ _ _ _ _ _ _ _ _ _)); (fail_if_success (with_reducible show LCg.CompEnd _ _ _ _ _ _ _ _ _ _ _ _ _ _)))); (fail_if_success (with_reducible show wpAny _ _ (eval (Expr.ListComp _ _ _ _) _) _ _ _)))); (fail_if_success (with_reducible show wpAny _ _ (call (Value.ref _) _) _ _ _)))); (fail_if_success (with_reducible show wpAny _ _ (exec (Stmt.While _ _ _ _) _) _ _ _)); (fail_if_success (with_reducible show WhileStep _ _ _ _ _ _ _)))); (fail_if_success (with_reducible show wpAny _ _ (subscriptTail _ _ (Value.ref _) (Value.int _ _)) _ _ _)); (fail_if_success (with_reducible show wpAny _ _ (call (Value.builtin "list.append") _) _ _ _)))); walk1) | ((((((((((((((fail_if_success (with_reducible show InvPostN _ _ _ _ _ _ _ _ _)); (fail_if_success (with_reducible show InvEndN _ _ _ _ _ _ _)); (fail_if_success (with_reducible show wpG _ _ _ _ _ _)); (fail_if_success (with_reducible show wpAny _ _ (pyIter (Value.ref _)) _ _ _)))); (fail_if_success (with_reducible show LCg.CompSrc _ _ _ _ _ _ _ _ _ _ _ _ _ _)); (fail_if_success (with_reducible show LCg.CompEnd _ _ _ _ _ _ _ _ _ _ _ _ _ _)))); (fail_if_success (with_reducible show wpAny _ _ (eval (Expr.ListComp _ _ _ _) _) _ _ _)))); (fail_if_success (with_reducible show wpAny _ _ (call (Value.ref _) _) _ _ _)))); (fail_if_success (with_reducible show wpAny _ _ (exec (Stmt.While _ _ _ _) _) _ _ _)); (fail_if_success (with_reducible show WhileStep _ _ _ _ _ _ _)))); (fail_if_success (with_reducible show wpAny _ _ (subscriptTail _ _ (Value.ref _) (Value.int _ _)) _ _ _)); (fail_if_success (with_reducible show wpAny _ _ (call (Value.builtin "list.append") _) _ _ _)))); dsimp only; walk1) | ((((((((((((((fail_if_success (with_reducible show InvPostN _ _ _ _ _ _ _ _ _)); (fail_if_success (with_reducible show InvEndN _ _ _ _ _ _ _)); (fail_if_success (with_reducible show wpG _ _ _ _ _ _)); (fail_if_success (with_reducible show wpAny _ _ (pyIter (Value.ref _)) _ _ _)))); (fail_if_success (with_reducible show LCg.CompSrc _ _ _ _ _ _ _ _ _ _ _ _ _ _)); (fail_if_success (with_reducible show LCg.CompEnd _ _ _ _ _ _ _ _ _ _ _ _ _ _)))); (fail_if_success (with_reducible show wpAny _ _ (eval (Expr.ListComp _ _ _ _) _) _ _ _)))); (fail_if_success (with_reducible show wpAny _ _ (call (Value.ref _) _) _ _ _)))); (fail_if_success (with_reducible show wpAny _ _ (exec (Stmt.While _ _ _ _) _) _ _ _)); (fail_if_success (with_reducible show WhileStep _ _ _ _ _ _ _)))); (fail_if_success (with_reducible show wpAny _ _ (subscriptTail _ _ (Value.ref _) (Value.int _ _)) _ _ _)); (fail_if_success (with_reducible show wpAny _ _ (call (Value.builtin "list.append") _) _ _ _)))); leave1; walk_say "STEP leave1"; try dsimp only) | fail "no step"))
        refine item_bool (News.isList N₃ (by k_mem)) (by omega) (by omega) (by omega) ?_
        (repeat' (first | (k_unfold; (try dsimp only)) | ((((((((((((((fail_if_success (with_reducible show InvPostN _ _ _ _ _ _ _ _ _)); (fail_if_success (with_reducible show InvEndN _ _ _ _ _ _ _)); (fail_if_success (with_reducible show wpG _ _ _ _ _ _)); (fail_if_success (with_reducible show wpAny _ _ (pyIter (Value.ref _)) _ _ _)))); (fail_if_success (with_reducible show LCg.CompSrc _ _ _ _ _ _ _ _ _ _ _ _ _ _)); (fail_if_success (with_reducible show LCg.CompEnd _ _ _ _ _ _ _ _ _ _ _ _ _ _)))); (fail_if_success (with_reducible show wpAny _ _ (eval (Expr.ListComp _ _ _ _) _) _ _ _)))); (fail_if_success (with_reducible show wpAny _ _ (call (Value.ref _) _) _ _ _)))); (fail_if_success (with_reducible show wpAny _ _ (exec (Stmt.While _ _ _ _) _) _ _ _)); (fail_if_success (with_reducible show WhileStep _ _ _ _ _ _ _)))); (fail_if_success (with_reducible show wpAny _ _ (subscriptTail _ _ (Value.ref _) (Value.int _ _)) _ _ _)); (fail_if_success (with_reducible show wpAny _ _ (call (Value.builtin "list.append") _) _ _ _)))); walk1) | ((((((((((((((fail_if_success (with_reducible show InvPostN _ _ _ _ _ _ _ _ _)); (fail_if_success (with_reducible show InvEndN _ _ _ _ _ _ _)); (fail_if_success (with_reducible show wpG _ _ _ _ _ _)); (fail_if_success (with_reducible show wpAny _ _ (pyIter (Value.ref _)) _ _ _)))); (fail_if_success (with_reducible show LCg.CompSrc _ _ _ _ _ _ _ _ _ _ _ _ _ _)); (fail_if_success (with_reducible show LCg.CompEnd _ _ _ _ _ _ _ _ _ _ _ _ _ _)))); (fail_if_success (with_reducible show wpAny _ _ (eval (Expr.ListComp _ _ _ _) _) _ _ _)))); (fail_if_success (with_reducible show wpAny _ _ (call (Value.ref _) _) _ _ _)))); (fail_if_success (with_reducible show wpAny _ _ (exec (Stmt.While _ _ _ _) _) _ _ _)); (fail_if_success (with_reducible show WhileStep _ _ _ _ _ _ _)))); (fail_if_success (with_reducible show wpAny _ _ (subscriptTail _ _ (Value.ref _) (Value.int _ _)) _ _ _)); (fail_if_success (with_reducible show wpAny _ _ (call (Value.builtin "list.append") _) _ _ _)))); dsimp only; walk1) | ((((((((((((((fail_if_success (with_reducible show InvPostN _ _ _ _ _ _ _ _ _)); (fail_if_success (with_reducible show InvEndN _ _ _ _ _ _ _)); (fail_if_success (with_reducible show wpG _ _ _ _ _ _)); (fail_if_success (with_reducible show wpAny _ _ (pyIter (Value.ref _)) _ _ _)))); (fail_if_success (with_reducible show LCg.CompSrc _ _ _ _ _ _ _ _ _ _ _ _ _ _)); (fail_if_success (with_reducible show LCg.CompEnd _ _ _ _ _ _ _ _ _ _ _ _ _ _)))); (fail_if_success (with_reducible show wpAny _ _ (eval (Expr.ListComp _ _ _ _) _) _ _ _)))); (fail_if_success (with_reducible show wpAny _ _ (call (Value.ref _) _) _ _ _)))); (fail_if_success (with_reducible show wpAny _ _ (exec (Stmt.While _ _ _ _) _) _ _ _)); (fail_if_success (with_reducible show WhileStep _ _ _ _ _ _ _)))); (fail_if_success (with_reducible show wpAny _ _ (subscriptTail _ _ (Value.ref _) (Value.int _ _)) _ _ _)); (fail_if_success (with_reducible show wpAny _ _ (call (Value.builtin "list.append") _) _ _ _)))); leave1; walk_say "STEP leave1"; try dsimp only) | fail "no step"))
        · have hj0 : (0 + (j : Int) * 1).toNat = j := by omega
          rename bs.getD (0 + (j : Int) * 1).toNat false = true => hbj
          rw [hj0] at hbj
          refine item_four (j := j) (News.isList N₃ (by k_mem)) (by omega) (by omega) ?_ ?_ ?_ ?_
          · rintro rfl
            (repeat' (first | (k_unfold; (try dsimp only)) | ((((((((((((((fail_if_success (with_reducible show InvPostN _ _ _ _ _ _ _ _ _)); (fail_if_success (with_reducible show InvEndN _ _ _ _ _ _ _)); (fail_if_success (with_reducible show wpG _ _ _ _ _ _)); (fail_if_success (with_reducible show wpAny _ _ (pyIter (Value.ref _)) _ _ _)))); (fail_if_success (with_reducible show LCg.CompSrc _ _ _ _ _ _ _ _ _ _ _ _ _ _)); (fail_if_success (with_reducible show LCg.CompEnd _ _ _ _ _ _ _ _ _ _ _ _ _ _)))); (fail_if_success (with_reducible show wpAny _ _ (eval (Expr.ListComp _ _ _ _) _) _ _ _)))); (fail_if_success (with_reducible show wpAny _ _ (call (Value.ref _) _) _ _ _)))); (fail_if_success (with_reducible show wpAny _ _ (exec (Stmt.While _ _ _ _) _) _ _ _)); (fail_if_success (with_reducible show WhileStep _ _ _ _ _ _ _)))); (fail_if_success (with_reducible show wpAny _ _ (subscriptTail _ _ (Value.ref _) (Value.int _ _)) _ _ _)); (fail_if_success (with_reducible show wpAny _ _ (call (Value.builtin "list.append") _) _ _ _)))); walk1) | ((((((((((((((fail_if_success (with_reducible show InvPostN _ _ _ _ _ _ _ _ _)); (fail_if_success (with_reducible show InvEndN _ _ _ _ _ _ _)); (fail_if_success (with_reducible show wpG _ _ _ _ _ _)); (fail_if_success (with_reducible show wpAny _ _ (pyIter (Value.ref _)) _ _ _)))); (fail_if_success (with_reducible show LCg.CompSrc _ _ _ _ _ _ _ _ _ _ _ _ _ _)); (fail_if_success (with_reducible show LCg.CompEnd _ _ _ _ _ _ _ _ _ _ _ _ _ _)))); (fail_if_success (with_reducible show wpAny _ _ (eval (Expr.ListComp _ _ _ _) _) _ _ _)))); (fail_if_success (with_reducible show wpAny _ _ (call (Value.ref _) _) _ _ _)))); (fail_if_success (with_reducible show wpAny _ _ (exec (Stmt.While _ _ _ _) _) _ _ _)); (fail_if_success (with_reducible show WhileStep _ _ _ _ _ _ _)))); (fail_if_success (with_reducible show wpAny _ _ (subscriptTail _ _ (Value.ref _) (Value.int _ _)) _ _ _)); (fail_if_success (with_reducible show wpAny _ _ (call (Value.builtin "list.append") _) _ _ _)))); dsimp only; walk1) | ((((((((((((((fail_if_success (with_reducible show InvPostN _ _ _ _ _ _ _ _ _)); (fail_if_success (with_reducible show InvEndN _ _ _ _ _ _ _)); (fail_if_success (with_reducible show wpG _ _ _ _ _ _)); (fail_if_success (with_reducible show wpAny _ _ (pyIter (Value.ref _)) _ _ _)))); (fail_if_success (with_reducible show LCg.CompSrc _ _ _ _ _ _ _ _ _ _ _ _ _ _)); (fail_if_success (with_reducible show LCg.CompEnd _ _ _ _ _ _ _ _ _ _ _ _ _ _)))); (fail_if_success (with_reducible show wpAny _ _ (eval (Expr.ListComp _ _ _ _) _) _ _ _)))); (fail_if_success (with_reducible show wpAny _ _ (call (Value.ref _) _) _ _ _)))); (fail_if_success (with_reducible show wpAny _ _ (exec (Stmt.While _ _ _ _) _) _ _ _)); (fail_if_success (with_reducible show WhileStep _ _ _ _ _ _ _)))); (fail_if_success (with_reducible show wpAny _ _ (subscriptTail _ _ (Value.ref _) (Value.int _ _)) _ _ _)); (fail_if_success (with_reducible show wpAny _ _ (call (Value.builtin "list.append") _) _ _ _)))); leave1; walk_say "STEP leave1"; try dsimp only) | fail "no step"))
            refine item_bl (by walk_at "my:isl") hv (by omega) (by omega) (by omega) ?_
            intro t9
            (repeat' (first | (k_unfold; (try dsimp only)) | ((((((((((((((fail_if_success (with_reducible show InvPostN _ _ _ _ _ _ _ _ _)); (fail_if_success (with_reducible show InvEndN _ _ _ _ _ _ _)); (fail_if_success (with_reducible show wpG _ _ _ _ _ _)); (fail_if_success (with_reducible show wpAny _ _ (pyIter (Value.ref _)) _ _ _)))); (fail_if_success (with_reducible show LCg.CompSrc _ _ _ _ _ _ _ _ _ _ _ _ _ _)); (fail_if_success (with_reducible show LCg.CompEnd _ _ _ _ _ _ _ _ _ _ _ _ _ _)))); (fail_if_success (with_reducible show wpAny _ _ (eval (Expr.ListComp _ _ _ _) _) _ _ _)))); (fail_if_success (with_reducible show wpAny _ _ (call (Value.ref _) _) _ _ _)))); (fail_if_success (with_reducible show wpAny _ _ (exec (Stmt.While _ _ _ _) _) _ _ _)); (fail_if_success (with_reducible show WhileStep _ _ _ _ _ _ _)))); (fail_if_success (with_reducible show wpAny _ _ (subscriptTail _ _ (Value.ref _) (Value.int _ _)) _ _ _)); (fail_if_success (with_reducible show wpAny _ _ (call (Value.builtin "list.append") _) _ _ _)))); walk1) | ((((((((((((((fail_if_success (with_reducible show InvPostN _ _ _ _ _ _ _ _ _)); (fail_if_success (with_reducible show InvEndN _ _ _ _ _ _ _)); (fail_if_success (with_reducible show wpG _ _ _ _ _ _)); (fail_if_success (with_reducible show wpAny _ _ (pyIter (Value.ref _)) _ _ _)))); (fail_if_success (with_reducible show LCg.CompSrc _ _ _ _ _ _ _ _ _ _ _ _ _ _)); (fail_if_success (with_reducible show LCg.CompEnd _ _ _ _ _ _ _ _ _ _ _ _ _ _)))); (fail_if_success (with_reducible show wpAny _ _ (eval (Expr.ListComp _ _ _ _) _) _ _ _)))); (fail_if_success (with_reducible show wpAny _ _ (call (Value.ref _) _) _ _ _)))); (fail_if_success (with_reducible show wpAny _ _ (exec (Stmt.While _ _ _ _) _) _ _ _)); (fail_if_success (with_reducible show WhileStep _ _ _ _ _ _ _)))); (fail_if_success (with_reducible show wpAny _ _ (subscriptTail _ _ (Value.ref _) (Value.int _ _)) _ _ _)); (fail_if_success (with_reducible show wpAny _ _ (call (Value.builtin "list.append") _) _ _ _)))); dsimp only; walk1) | ((((((((((((((fail_if_success (with_reducible show InvPostN _ _ _ _ _ _ _ _ _)); (fail_if_success (with_reducible show InvEndN _ _ _ _ _ _ _)); (fail_if_success (with_reducible show wpG _ _ _ _ _ _)); (fail_if_success (with_reducible show wpAny _ _ (pyIter (Value.ref _)) _ _ _)))); (fail_if_success (with_reducible show LCg.CompSrc _ _ _ _ _ _ _ _ _ _ _ _ _ _)); (fail_if_success (with_reducible show LCg.CompEnd _ _ _ _ _ _ _ _ _ _ _ _ _ _)))); (fail_if_success (with_reducible show wpAny _ _ (eval (Expr.ListComp _ _ _ _) _) _ _ _)))); (fail_if_success (with_reducible show wpAny _ _ (call (Value.ref _) _) _ _ _)))); (fail_if_success (with_reducible show wpAny _ _ (exec (Stmt.While _ _ _ _) _) _ _ _)); (fail_if_success (with_reducible show WhileStep _ _ _ _ _ _ _)))); (fail_if_success (with_reducible show wpAny _ _ (subscriptTail _ _ (Value.ref _) (Value.int _ _)) _ _ _)); (fail_if_success (with_reducible show wpAny _ _ (call (Value.builtin "list.append") _) _ _ _)))); leave1; walk_say "STEP leave1"; try dsimp only) | fail "no step"))
            refine app_0 hc hoff5 (by k_asm) N₃ (by omega) ?_
            intro h8 F8 N8
            clear F₃ N₃
            (repeat' (first | (k_unfold; (try dsimp only)) | ((((((((((((((fail_if_success (with_reducible show InvPostN _ _ _ _ _ _ _ _ _)); (fail_if_success (with_reducible show InvEndN _ _ _ _ _ _ _)); (fail_if_success (with_reducible show wpG _ _ _ _ _ _)); (fail_if_success (with_reducible show wpAny _ _ (pyIter (Value.ref _)) _ _ _)))); (fail_if_success (with_reducible show LCg.CompSrc _ _ _ _ _ _ _ _ _ _ _ _ _ _)); (fail_if_success (with_reducible show LCg.CompEnd _ _ _ _ _ _ _ _ _ _ _ _ _ _)))); (fail_if_success (with_reducible show wpAny _ _ (eval (Expr.ListComp _ _ _ _) _) _ _ _)))); (fail_if_success (with_reducible show wpAny _ _ (call (Value.ref _) _) _ _ _)))); (fail_if_success (with_reducible show wpAny _ _ (exec (Stmt.While _ _ _ _) _) _ _ _)); (fail_if_success (with_reducible show WhileStep _ _ _ _ _ _ _)))); (fail_if_success (with_reducible show wpAny _ _ (subscriptTail _ _ (Value.ref _) (Value.int _ _)) _ _ _)); (fail_if_success (with_reducible show wpAny _ _ (call (Value.builtin "list.append") _) _ _ _)))); walk1) | ((((((((((((((fail_if_success (with_reducible show InvPostN _ _ _ _ _ _ _ _ _)); (fail_if_success (with_reducible show InvEndN _ _ _ _ _ _ _)); (fail_if_success (with_reducible show wpG _ _ _ _ _ _)); (fail_if_success (with_reducible show wpAny _ _ (pyIter (Value.ref _)) _ _ _)))); (fail_if_success (with_reducible show LCg.CompSrc _ _ _ _ _ _ _ _ _ _ _ _ _ _)); (fail_if_success (with_reducible show LCg.CompEnd _ _ _ _ _ _ _ _ _ _ _ _ _ _)))); (fail_if_success (with_reducible show wpAny _ _ (eval (Expr.ListComp _ _ _ _) _) _ _ _)))); (fail_if_success (with_reducible show wpAny _ _ (call (Value.ref _) _) _ _ _)))); (fail_if_success (with_reducible show wpAny _ _ (exec (Stmt.While _ _ _ _) _) _ _ _)); (fail_if_success (with_reducible show WhileStep _ _ _ _ _ _ _)))); (fail_if_success (with_reducible show wpAny _ _ (subscriptTail _ _ (Value.ref _) (Value.int _ _)) _ _ _)); (fail_if_success (with_reducible show wpAny _ _ (call (Value.builtin "list.append") _) _ _ _)))); dsimp only; walk1) | ((((((((((((((fail_if_success (with_reducible show InvPostN _ _ _ _ _ _ _ _ _)); (fail_if_success (with_reducible show InvEndN _ _ _ _ _ _ _)); (fail_if_success (with_reducible show wpG _ _ _ _ _ _)); (fail_if_success (with_reducible show wpAny _ _ (pyIter (Value.ref _)) _ _ _)))); (fail_if_success (with_reducible show LCg.CompSrc _ _ _ _ _ _ _ _ _ _ _ _ _ _)); (fail_if_success (with_reducible show LCg.CompEnd _ _ _ _ _ _ _ _ _ _ _ _ _ _)))); (fail_if_success (with_reducible show wpAny _ _ (eval (Expr.ListComp _ _ _ _) _) _ _ _)))); (fail_if_success (with_reducible show wpAny _ _ (call (Value.ref _) _) _ _ _)))); (fail_if_success (with_reducible show wpAny _ _ (exec (Stmt.While _ _ _ _) _) _ _ _)); (fail_if_success (with_reducible show WhileStep _ _ _ _ _ _ _)))); (fail_if_success (with_reducible show wpAny _ _ (subscriptTail _ _ (Value.ref _) (Value.int _ _)) _ _ _)); (fail_if_success (with_reducible show wpAny _ _ (call (Value.builtin "list.append") _) _ _ _)))); leave1; walk_say "STEP leave1"; try dsimp only) | fail "no step"))
            refine four_end (s₁ := ⟨h5, s.gens, s.drawn, tk5, s.os⟩) (by k_asm) N8 (by k_mem) (by k_mem) (by k_mem) (by k_mem) (by k_allIn) (fun p hp => by (repeat (first | assumption | refine List.mem_cons_of_mem _ ?_))) mapN_off ?_ ?_ ?_ ?_ (.inl rfl)
            all_goals first | exact gI_yes hbj (by assumption) | exact gI_same (by decide) (by assumption)
          · rintro rfl
            (repeat' (first | (k_unfold; (try dsimp only)) | ((((((((((((((fail_if_success (with_reducible show InvPostN _ _ _ _ _ _ _ _ _)); (fail_if_success (with_reducible show InvEndN _ _ _ _ _ _ _)); (fail_if_success (with_reducible show wpG _ _ _ _ _ _)); (fail_if_success (with_reducible show wpAny _ _ (pyIter (Value.ref _)) _ _ _)))); (fail_if_success (with_reducible show LCg.CompSrc _ _ _ _ _ _ _ _ _ _ _ _ _ _)); (fail_if_success (with_reducible show LCg.CompEnd _ _ _ _ _ _ _ _ _ _ _ _ _ _)))); (fail_if_success (with_reducible show wpAny _ _ (eval (Expr.ListComp _ _ _ _) _) _ _ _)))); (fail_if_success (with_reducible show wpAny _ _ (call (Value.ref _) _) _ _ _)))); (fail_if_success (with_reducible show wpAny _ _ (exec (Stmt.While _ _ _ _) _) _ _ _)); (fail_if_success (with_reducible show WhileStep _ _ _ _ _ _ _)))); (fail_if_success (with_reducible show wpAny _ _ (subscriptTail _ _ (Value.ref _) (Value.int _ _)) _ _ _)); (fail_if_success (with_reducible show wpAny _ _ (call (Value.builtin "list.append") _) _ _ _)))); walk1) | ((((((((((((((fail_if_success (with_reducible show InvPostN _ _ _ _ _ _ _ _ _)); (fail_if_success (with_reducible show InvEndN _ _ _ _ _ _ _)); (fail_if_success (with_reducible show wpG _ _ _ _ _ _)); (fail_if_success (with_reducible show wpAny _ _ (pyIter (Value.ref _)) _ _ _)))); (fail_if_success (with_reducible show LCg.CompSrc _ _ _ _ _ _ _ _ _ _ _ _ _ _)); (fail_if_success (with_reducible show LCg.CompEnd _ _ _ _ _ _ _ _ _ _ _ _ _ _)))); (fail_if_success (with_reducible show wpAny _ _ (eval (Expr.ListComp _ _ _ _) _) _ _ _)))); (fail_if_success (with_reducible show wpAny _ _ (call (Value.ref _) _) _ _ _)))); (fail_if_success (with_reducible show wpAny _ _ (exec (Stmt.While _ _ _ _) _) _ _ _)); (fail_if_success (with_reducible show WhileStep _ _ _ _ _ _ _)))); (fail_if_success (with_reducible show wpAny _ _ (subscriptTail _ _ (Value.ref _) (Value.int _ _)) _ _ _)); (fail_if_success (with_reducible show wpAny _ _ (call (Value.builtin "list.append") _) _ _ _)))); dsimp only; walk1) | ((((((((((((((fail_if_success (with_reducible show InvPostN _ _ _ _ _ _ _ _ _)); (fail_if_success (with_reducible show InvEndN _ _ _ _ _ _ _)); (fail_if_success (with_reducible show wpG _ _ _ _ _ _)); (fail_if_success (with_reducible show wpAny _ _ (pyIter (Value.ref _)) _ _ _)))); (fail_if_success (with_reducible show LCg.CompSrc _ _ _ _ _ _ _ _ _ _ _ _ _ _)); (fail_if_success (with_reducible show LCg.CompEnd _ _ _ _ _ _ _ _ _ _ _ _ _ _)))); (fail_if_success (with_reducible show wpAny _ _ (eval (Expr.ListComp _ _ _ _) _) _ _ _)))); (fail_if_success (with_reducible show wpAny _ _ (call (Value.ref _) _) _ _ _)))); (fail_if_success (with_reducible show wpAny _ _ (exec (Stmt.While _ _ _ _) _) _ _ _)); (fail_if_success (with_reducible show WhileStep _ _ _ _ _ _ _)))); (fail_if_success (with_reducible show wpAny _ _ (subscriptTail _ _ (Value.ref _) (Value.int _ _)) _ _ _)); (fail_if_success (with_reducible show wpAny _ _ (call (Value.builtin "list.append") _) _ _ _)))); leave1; walk_say "STEP leave1"; try dsimp only) | fail "no step"))
            refine item_bl (by walk_at "my:isl") hv (by omega) (by omega) (by omega) ?_
            intro t9
            (repeat' (first | (k_unfold; (try dsimp only)) | ((((((((((((((fail_if_success (with_reducible show InvPostN _ _ _ _ _ _ _ _ _)); (fail_if_success (with_reducible show InvEndN _ _ _ _ _ _ _)); (fail_if_success (with_reducible show wpG _ _ _ _ _ _)); (fail_if_success (with_reducible show wpAny _ _ (pyIter (Value.ref _)) _ _ _)))); (fail_if_success (with_reducible show LCg.CompSrc _ _ _ _ _ _ _ _ _ _ _ _ _ _)); (fail_if_success (with_reducible show LCg.CompEnd _ _ _ _ _ _ _ _ _ _ _ _ _ _)))); (fail_if_success (with_reducible show wpAny _ _ (eval (Expr.ListComp _ _ _ _) _) _ _ _)))); (fail_if_success (with_reducible show wpAny _ _ (call (Value.ref _) _) _ _ _)))); (fail_if_success (with_reducible show wpAny _ _ (exec (Stmt.While _ _ _ _) _) _ _ _)); (fail_if_success (with_reducible show WhileStep _ _ _ _ _ _ _)))); (fail_if_success (with_reducible show wpAny _ _ (subscriptTail _ _ (Value.ref _) (Value.int _ _)) _ _ _)); (fail_if_success (with_reducible show wpAny _ _ (call (Value.builtin "list.append") _) _ _ _)))); walk1) | ((((((((((((((fail_if_success (with_reducible show InvPostN _ _ _ _ _ _ _ _ _)); (fail_if_success (with_reducible show InvEndN _ _ _ _ _ _ _)); (fail_if_success (with_reducible show wpG _ _ _ _ _ _)); (fail_if_success (with_reducible show wpAny _ _ (pyIter (Value.ref _)) _ _ _)))); (fail_if_success (with_reducible show LCg.CompSrc _ _ _ _ _ _ _ _ _ _ _ _ _ _)); (fail_if_success (with_reducible show LCg.CompEnd _ _ _ _ _ _ _ _ _ _ _ _ _ _)))); (fail_if_success (with_reducible show wpAny _ _ (eval (Expr.ListComp _ _ _ _) _) _ _ _)))); (fail_if_success (with_reducible show wpAny _ _ (call (Value.ref _) _) _ _ _)))); (fail_if_success (with_reducible show wpAny _ _ (exec (Stmt.While _ _ _ _) _) _ _ _)); (fail_if_success (with_reducible show WhileStep _ _ _ _ _ _ _)))); (fail_if_success (with_reducible show wpAny _ _ (subscriptTail _ _ (Value.ref _) (Value.int _ _)) _ _ _)); (fail_if_success (with_reducible show wpAny _ _ (call (Value.builtin "list.append") _) _ _ _)))); dsimp only; walk1) | ((((((((((((((fail_if_success (with_reducible show InvPostN _ _ _ _ _ _ _ _ _)); (fail_if_success (with_reducible show InvEndN _ _ _ _ _ _ _)); (fail_if_success (with_reducible show wpG _ _ _ _ _ _)); (fail_if_success (with_reducible show wpAny _ _ (pyIter (Value.ref _)) _ _ _)))); (fail_if_success (with_reducible show LCg.CompSrc _ _ _ _ _ _ _ _ _ _ _ _ _ _)); (fail_if_success (with_reducible show LCg.CompEnd _ _ _ _ _ _ _ _ _ _ _ _ _ _)))); (fail_if_success (with_reducible show wpAny _ _ (eval (Expr.ListComp _ _ _ _) _) _ _ _)))); (fail_if_success (with_reducible show wpAny _ _ (call (Value.ref _) _) _ _ _)))); (fail_if_success (with_reducible show wpAny _ _ (exec (Stmt.While _ _ _ _) _) _ _ _)); (fail_if_success (with_reducible show WhileStep _ _ _ _ _ _ _)))); (fail_if_success (with_reducible show wpAny _ _ (subscriptTail _ _ (Value.ref _) (Value.int _ _)) _ _ _)); (fail_if_success (with_reducible show wpAny _ _ (call (Value.builtin "list.append") _) _ _ _)))); leave1; walk_say "STEP leave1"; try dsimp only) | fail "no step"))
            refine app_1 hc hoff5 (by k_asm) N₃ (by omega) ?_
            intro h8 F8 N8
            clear F₃ N₃
            (repeat' (first | (k_unfold; (try dsimp only)) | ((((((((((((((fail_if_success (with_reducible show InvPostN _ _ _ _ _ _ _ _ _)); (fail_if_success (with_reducible show InvEndN _ _ _ _ _ _ _)); (fail_if_success (with_reducible show wpG _ _ _ _ _ _)); (fail_if_success (with_reducible show wpAny _ _ (pyIter (Value.ref _)) _ _ _)))); (fail_if_success (with_reducible show LCg.CompSrc _ _ _ _ _ _ _ _ _ _ _ _ _ _)); (fail_if_success (with_reducible show LCg.CompEnd _ _ _ _ _ _ _ _ _ _ _ _ _ _)))); (fail_if_success (with_reducible show wpAny _ _ (eval (Expr.ListComp _ _ _ _) _) _ _ _)))); (fail_if_success (with_reducible show wpAny _ _ (call (Value.ref _) _) _ _ _)))); (fail_if_success (with_reducible show wpAny _ _ (exec (Stmt.While _ _ _ _) _) _ _ _)); (fail_if_success (with_reducible show WhileStep _ _ _ _ _ _ _)))); (fail_if_success (with_reducible show wpAny _ _ (subscriptTail _ _ (Value.ref _) (Value.int _ _)) _ _ _)); (fail_if_success (with_reducible show wpAny _ _ (call (Value.builtin "list.append") _) _ _ _)))); walk1) | ((((((((((((((fail_if_success (with_reducible show InvPostN _ _ _ _ _ _ _ _ _)); (fail_if_success (with_reducible show InvEndN _ _ _ _ _ _ _)); (fail_if_success (with_reducible show wpG _ _ _ _ _ _)); (fail_if_success (with_reducible show wpAny _ _ (pyIter (Value.ref _)) _ _ _)))); (fail_if_success (with_reducible show LCg.CompSrc _ _ _ _ _ _ _ _ _ _ _ _ _ _)); (fail_if_success (with_reducible show LCg.CompEnd _ _ _ _ _ _ _ _ _ _ _ _ _ _)))); (fail_if_success (with_reducible show wpAny _ _ (eval (Expr.ListComp _ _ _ _) _) _ _ _)))); (fail_if_success (with_reducible show wpAny _ _ (call (Value.ref _) _) _ _ _)))); (fail_if_success (with_reducible show wpAny _ _ (exec (Stmt.While _ _ _ _) _) _ _ _)); (fail_if_success (with_reducible show WhileStep _ _ _ _ _ _ _)))); (fail_if_success (with_reducible show wpAny _ _ (subscriptTail _ _ (Value.ref _) (Value.int _ _)) _ _ _)); (fail_if_success (with_reducible show wpAny _ _ (call (Value.builtin "list.append") _) _ _ _)))); dsimp only; walk1) | ((((((((((((((fail_if_success (with_reducible show InvPostN _ _ _ _ _ _ _ _ _)); (fail_if_success (with_reducible show InvEndN _ _ _ _ _ _ _)); (fail_if_success (with_reducible show wpG _ _ _ _ _ _)); (fail_if_success (with_reducible show wpAny _ _ (pyIter (Value.ref _)) _ _ _)))); (fail_if_success (with_reducible show LCg.CompSrc _ _ _ _ _ _ _ _ _ _ _ _ _ _)); (fail_if_success (with_reducible show LCg.CompEnd _ _ _ _ _ _ _ _ _ _ _ _ _ _)))); (fail_if_success (with_reducible show wpAny _ _ (eval (Expr.ListComp _ _ _ _) _) _ _ _)))); (fail_if_success (with_reducible show wpAny _ _ (call (Value.ref _) _) _ _ _)))); (fail_if_success (with_reducible show wpAny _ _ (exec (Stmt.While _ _ _ _) _) _ _ _)); (fail_if_success (with_reducible show WhileStep _ _ _ _ _ _ _)))); (fail_if_success (with_reducible show wpAny _ _ (subscriptTail _ _ (Value.ref _) (Value.int _ _)) _ _ _)); (fail_if_success (with_reducible show wpAny _ _ (call (Value.builtin "list.append") _) _ _ _)))); leave1; walk_say "STEP leave1"; try dsimp only) | fail "no step"))
            refine four_end (s₁ := ⟨h5, s.gens, s.drawn, tk5, s.os⟩) (by k_asm) N8 (by k_mem) (by k_mem) (by k_mem) (by k_mem) (by k_allIn) (fun p hp => by (repeat (first | assumption | refine List.mem_cons_of_mem _ ?_))) mapN_off ?_ ?_ ?_ ?_ (.inl rfl)
            all_goals first | exact gI_yes hbj (by assumption) | exact gI_same (by decide) (by assumption)
          · rintro rfl
            (repeat' (first | (k_unfold; (try dsimp only)) | ((((((((((((((fail_if_success (with_reducible show InvPostN _ _ _ _ _ _ _ _ _)); (fail_if_success (with_reducible show InvEndN _ _ _ _ _ _ _)); (fail_if_success (with_reducible show wpG _ _ _ _ _ _)); (fail_if_success (with_reducible show wpAny _ _ (pyIter (Value.ref _)) _ _ _)))); (fail_if_success (with_reducible show LCg.CompSrc _ _ _ _ _ _ _ _ _ _ _ _ _ _)); (fail_if_success (with_reducible show LCg.CompEnd _ _ _ _ _ _ _ _ _ _ _ _ _ _)))); (fail_if_success (with_reducible show wpAny _ _ (eval (Expr.ListComp _ _ _ _) _) _ _ _)))); (fail_if_success (with_reducible show wpAny _ _ (call (Value.ref _) _) _ _ _)))); (fail_if_success (with_reducible show wpAny _ _ (exec (Stmt.While _ _ _ _) _) _ _ _)); (fail_if_success (with_reducible show WhileStep _ _ _ _ _ _ _)))); (fail_if_success (with_reducible show wpAny _ _ (subscriptTail _ _ (Value.ref _) (Value.int _ _)) _ _ _)); (fail_if_success (with_reducible show wpAny _ _ (call (Value.builtin "list.append") _) _ _ _)))); walk1) | ((((((((((((((fail_if_success (with_reducible show InvPostN _ _ _ _ _ _ _ _ _)); (fail_if_success (with_reducible show InvEndN _ _ _ _ _ _ _)); (fail_if_success (with_reducible show wpG _ _ _ _ _ _)); (fail_if_success (with_reducible show wpAny _ _ (pyIter (Value.ref _)) _ _ _)))); (fail_if_success (with_reducible show LCg.CompSrc _ _ _ _ _ _ _ _ _ _ _ _ _ _)); (fail_if_success (with_reducible show LCg.CompEnd _ _ _ _ _ _ _ _ _ _ _ _ _ _)))); (fail_if_success (with_reducible show wpAny _ _ (eval (Expr.ListComp _ _ _ _) _) _ _ _)))); (fail_if_success (with_reducible show wpAny _ _ (call (Value.ref _) _) _ _ _)))); (fail_if_success (with_reducible show wpAny _ _ (exec (Stmt.While _ _ _ _) _) _ _ _)); (fail_if_success (with_reducible show WhileStep _ _ _ _ _ _ _)))); (fail_if_success (with_reducible show wpAny _ _ (subscriptTail _ _ (Value.ref _) (Value.int _ _)) _ _ _)); (fail_if_success (with_reducible show wpAny _ _ (call (Value.builtin "list.append") _) _ _ _)))); dsimp only; walk1) | ((((((((((((((fail_if_success (with_reducible show InvPostN _ _ _ _ _ _ _ _ _)); (fail_if_success (with_reducible show InvEndN _ _ _ _ _ _ _)); (fail_if_success (with_reducible show wpG _ _ _ _ _ _)); (fail_if_success (with_reducible show wpAny _ _ (pyIter (Value.ref _)) _ _ _)))); (fail_if_success (with_reducible show LCg.CompSrc _ _ _ _ _ _ _ _ _ _ _ _ _ _)); (fail_if_success (with_reducible show LCg.CompEnd _ _ _ _ _ _ _ _ _ _ _ _ _ _)))); (fail_if_success (with_reducible show wpAny _ _ (eval (Expr.ListComp _ _ _ _) _) _ _ _)))); (fail_if_success (with_reducible show wpAny _ _ (call (Value.ref _) _) _ _ _)))); (fail_if_success (with_reducible show wpAny _ _ (exec (Stmt.While _ _ _ _) _) _ _ _)); (fail_if_success (with_reducible show WhileStep _ _ _ _ _ _ _)))); (fail_if_success (with_reducible show wpAny _ _ (subscriptTail _ _ (Value.ref _) (Value.int _ _)) _ _ _)); (fail_if_success (with_reducible show wpAny _ _ (call (Value.builtin "list.append") _) _ _ _)))); leave1; walk_say "STEP leave1"; try dsimp only) | fail "no step"))
            refine item_bl (by walk_at "my:isl") hv (by omega) (by omega) (by omega) ?_
            intro t9
            (repeat' (first | (k_unfold; (try dsimp only)) | ((((((((((((((fail_if_success (with_reducible show InvPostN _ _ _ _ _ _ _ _ _)); (fail_if_success (with_reducible show InvEndN _ _ _ _ _ _ _)); (fail_if_success (with_reducible show wpG _ _ _ _ _ _)); (fail_if_success (with_reducible show wpAny _ _ (pyIter (Value.ref _)) _ _ _)))); (fail_if_success (with_reducible show LCg.CompSrc _ _ _ _ _ _ _ _ _ _ _ _ _ _)); (fail_if_success (with_reducible show LCg.CompEnd _ _ _ _ _ _ _ _ _ _ _ _ _ _)))); (fail_if_success (with_reducible show wpAny _ _ (eval (Expr.ListComp _ _ _ _) _) _ _ _)))); (fail_if_success (with_reducible show wpAny _ _ (call (Value.ref _) _) _ _ _)))); (fail_if_success (with_reducible show wpAny _ _ (exec (Stmt.While _ _ _ _) _) _ _ _)); (fail_if_success (with_reducible show WhileStep _ _ _ _ _ _ _)))); (fail_if_success (with_reducible show wpAny _ _ (subscriptTail _ _ (Value.ref _) (Value.int _ _)) _ _ _)); (fail_if_success (with_reducible show wpAny _ _ (call (Value.builtin "list.append") _) _ _ _)))); walk1) | ((((((((((((((fail_if_success (with_reducible show InvPostN _ _ _ _ _ _ _ _ _)); (fail_if_success (with_reducible show InvEndN _ _ _ _ _ _ _)); (fail_if_success (with_reducible show wpG _ _ _ _ _ _)); (fail_if_success (with_reducible show wpAny _ _ (pyIter (Value.ref _)) _ _ _)))); (fail_if_success (with_reducible show LCg.CompSrc _ _ _ _ _ _ _ _ _ _ _ _ _ _)); (fail_if_success (with_reducible show LCg.CompEnd _ _ _ _ _ _ _ _ _ _ _ _ _ _)))); (fail_if_success (with_reducible show wpAny _ _ (eval (Expr.ListComp _ _ _ _) _) _ _ _)))); (fail_if_success (with_reducible show wpAny _ _ (call (Value.ref _) _) _ _ _)))); (fail_if_success (with_reducible show wpAny _ _ (exec (Stmt.While _ _ _ _) _) _ _ _)); (fail_if_success (with_reducible show WhileStep _ _ _ _ _ _ _)))); (fail_if_success (with_reducible show wpAny _ _ (subscriptTail _ _ (Value.ref _) (Value.int _ _)) _ _ _)); (fail_if_success (with_reducible show wpAny _ _ (call (Value.builtin "list.append") _) _ _ _)))); dsimp only; walk1) | ((((((((((((((fail_if_success (with_reducible show InvPostN _ _ _ _ _ _ _ _ _)); (fail_if_success (with_reducible show InvEndN _ _ _ _ _ _ _)); (fail_if_success (with_reducible show wpG _ _ _ _ _ _)); (fail_if_success (with_reducible show wpAny _ _ (pyIter (Value.ref _)) _ _ _)))); (fail_if_success (with_reducible show LCg.CompSrc _ _ _ _ _ _ _ _ _ _ _ _ _ _)); (fail_if_success (with_reducible show LCg.CompEnd _ _ _ _ _ _ _ _ _ _ _ _ _ _)))); (fail_if_success (with_reducible show wpAny _ _ (eval (Expr.ListComp _ _ _ _) _) _ _ _)))); (fail_if_success (with_reducible show wpAny _ _ (call (Value.ref _) _) _ _ _)))); (fail_if_success (with_reducible show wpAny _ _ (exec (Stmt.While _ _ _ _) _) _ _ _)); (fail_if_success (with_reducible show WhileStep _ _ _ _ _ _ _)))); (fail_if_success (with_reducible show wpAny _ _ (subscriptTail _ _ (Value.ref _) (Value.int _ _)) _ _ _)); (fail_if_success (with_reducible show wpAny _ _ (call (Value.builtin "list.append") _) _ _ _)))); leave1; walk_say "STEP leave1"; try dsimp only) | fail "no step"))
            refine app_2 hc hoff5 (by k_asm) N₃ (by omega) ?_
            intro h8 F8 N8
            clear F₃ N₃
            (repeat' (first | (k_unfold; (try dsimp only)) | ((((((((((((((fail_if_success (with_reducible show InvPostN _ _ _ _ _ _ _ _ _)); (fail_if_success (with_reducible show InvEndN _ _ _ _ _ _ _)); (fail_if_success (with_reducible show wpG _ _ _ _ _ _)); (fail_if_success (with_reducible show wpAny _ _ (pyIter (Value.ref _)) _ _ _)))); (fail_if_success (with_reducible show LCg.CompSrc _ _ _ _ _ _ _ _ _ _ _ _ _ _)); (fail_if_success (with_reducible show LCg.CompEnd _ _ _ _ _ _ _ _ _ _ _ _ _ _)))); (fail_if_success (with_reducible show wpAny _ _ (eval (Expr.ListComp _ _ _ _) _) _ _ _)))); (fail_if_success (with_reducible show wpAny _ _ (call (Value.ref _) _) _ _ _)))); (fail_if_success (with_reducible show wpAny _ _ (exec (Stmt.While _ _ _ _) _) _ _ _)); (fail_if_success (with_reducible show WhileStep _ _ _ _ _ _ _)))); (fail_if_success (with_reducible show wpAny _ _ (subscriptTail _ _ (Value.ref _) (Value.int _ _)) _ _ _)); (fail_if_success (with_reducible show wpAny _ _ (call (Value.builtin "list.append") _) _ _ _)))); walk1) | ((((((((((((((fail_if_success (with_reducible show InvPostN _ _ _ _ _ _ _ _ _)); (fail_if_success (with_reducible show InvEndN _ _ _ _ _ _ _)); (fail_if_success (with_reducible show wpG _ _ _ _ _ _)); (fail_if_success (with_reducible show wpAny _ _ (pyIter (Value.ref _)) _ _ _)))); (fail_if_success (with_reducible show LCg.CompSrc _ _ _ _ _ _ _ _ _ _ _ _ _ _)); (fail_if_success (with_reducible show LCg.CompEnd _ _ _ _ _ _ _ _ _ _ _ _ _ _)))); (fail_if_success (with_reducible show wpAny _ _ (eval (Expr.ListComp _ _ _ _) _) _ _ _)))); (fail_if_success (with_reducible show wpAny _ _ (call (Value.ref _) _) _ _ _)))); (fail_if_success (with_reducible show wpAny _ _ (exec (Stmt.While _ _ _ _) _) _ _ _)); (fail_if_success (with_reducible show WhileStep _ _ _ _ _ _ _)))); (fail_if_success (with_reducible show wpAny _ _ (subscriptTail _ _ (Value.ref _) (Value.int _ _)) _ _ _)); (fail_if_success (with_reducible show wpAny _ _ (call (Value.builtin "list.append") _) _ _ _)))); dsimp only; walk1) | ((((((((((((((fail_if_success (with_reducible show InvPostN _ _ _ _ _ _ _ _ _)); (fail_if_success (with_reducible show InvEndN _ _ _ _ _ _ _)); (fail_if_success (with_reducible show wpG _ _ _ _ _ _)); (fail_if_success (with_reducible show wpAny _ _ (pyIter (Value.ref _)) _ _ _)))); (fail_if_success (with_reducible show LCg.CompSrc _ _ _ _ _ _ _ _ _ _ _ _ _ _)); (fail_if_success (with_reducible show LCg.CompEnd _ _ _ _ _ _ _ _ _ _ _ _ _ _)))); (fail_if_success (with_reducible show wpAny _ _ (eval (Expr.ListComp _ _ _ _) _) _ _ _)))); (fail_if_success (with_reducible show wpAny _ _ (call (Value.ref _) _) _ _ _)))); (fail_if_success (with_reducible show wpAny _ _ (exec (Stmt.While _ _ _ _) _) _ _ _)); (fail_if_success (with_reducible show WhileStep _ _ _ _ _ _ _)))); (fail_if_success (with_reducible show wpAny _ _ (subscriptTail _ _ (Value.ref _) (Value.int _ _)) _ _ _)); (fail_if_success (with_reducible show wpAny _ _ (call (Value.builtin "list.append") _) _ _ _)))); leave1; walk_say "STEP leave1"; try dsimp only) | fail "no step"))
            refine four_end (s₁ := ⟨h5, s.gens, s.drawn, tk5, s.os⟩) (by k_asm) N8 (by k_mem) (by k_mem) (by k_mem) (by k_mem) (by k_allIn) (fun p hp => by (repeat (first | assumption | refine List.mem_cons_of_mem _ ?_))) mapN_off ?_ ?_ ?_ ?_ (.inl rfl)
            all_goals first | exact gI_yes hbj (by assumption) | exact gI_same (by decide) (by assumption)
          · rintro rfl
            (repeat' (first | (k_unfold; (try dsimp only)) | ((((((((((((((fail_if_success (with_reducible show InvPostN _ _ _ _ _ _ _ _ _)); (fail_if_success (with_reducible show InvEndN _ _ _ _ _ _ _)); (fail_if_success (with_reducible show wpG _ _ _ _ _ _)); (fail_if_success (with_reducible show wpAny _ _ (pyIter (Value.ref _)) _ _ _)))); (fail_if_success (with_reducible show LCg.CompSrc _ _ _ _ _ _ _ _ _ _ _ _ _ _)); (fail_if_success (with_reducible show LCg.CompEnd _ _ _ _ _ _ _ _ _ _ _ _ _ _)))); (fail_if_success (with_reducible show wpAny _ _ (eval (Expr.ListComp _ _ _ _) _) _ _ _)))); (fail_if_success (with_reducible show wpAny _ _ (call (Value.ref _) _) _ _ _)))); (fail_if_success (with_reducible show wpAny _ _ (exec (Stmt.While _ _ _ _) _) _ _ _)); (fail_if_success (with_reducible show WhileStep _ _ _ _ _ _ _)))); (fail_if_success (with_reducible show wpAny _ _ (subscriptTail _ _ (Value.ref _) (Value.int _ _)) _ _ _)); (fail_if_success (with_reducible show wpAny _ _ (call (Value.builtin "list.append") _) _ _ _)))); walk1) | ((((((((((((((fail_if_success (with_reducible show InvPostN _ _ _ _ _ _ _ _ _)); (fail_if_success (with_reducible show InvEndN _ _ _ _ _ _ _)); (fail_if_success (with_reducible show wpG _ _ _ _ _ _)); (fail_if_success (with_reducible show wpAny _ _ (pyIter (Value.ref _)) _ _ _)))); (fail_if_success (with_reducible show LCg.CompSrc _ _ _ _ _ _ _ _ _ _ _ _ _ _)); (fail_if_success (with_reducible show LCg.CompEnd _ _ _ _ _ _ _ _ _ _ _ _ _ _)))); (fail_if_success (with_reducible show wpAny _ _ (eval (Expr.ListComp _ _ _ _) _) _ _ _)))); (fail_if_success (with_reducible show wpAny _ _ (call (Value.ref _) _) _ _ _)))); (fail_if_success (with_reducible show wpAny _ _ (exec (Stmt.While _ _ _ _) _) _ _ _)); (fail_if_success (with_reducible show WhileStep _ _ _ _ _ _ _)))); (fail_if_success (with_reducible show wpAny _ _ (subscriptTail _ _ (Value.ref _) (Value.int _ _)) _ _ _)); (fail_if_success (with_reducible show wpAny _ _ (call (Value.builtin "list.append") _) _ _ _)))); dsimp only; walk1) | ((((((((((((((fail_if_success (with_reducible show InvPostN _ _ _ _ _ _ _ _ _)); (fail_if_success (with_reducible show InvEndN _ _ _ _ _ _ _)); (fail_if_success (with_reducible show wpG _ _ _ _ _ _)); (fail_if_success (with_reducible show wpAny _ _ (pyIter (Value.ref _)) _ _ _)))); (fail_if_success (with_reducible show LCg.CompSrc _ _ _ _ _ _ _ _ _ _ _ _ _ _)); (fail_if_success (with_reducible show LCg.CompEnd _ _ _ _ _ _ _ _ _ _ _ _ _ _)))); (fail_if_success (with_reducible show wpAny _ _ (eval (Expr.ListComp _ _ _ _) _) _ _ _)))); (fail_if_success (with_reducible show wpAny _ _ (call (Value.ref _) _) _ _ _)))); (fail_if_success (with_reducible show wpAny _ _ (exec (Stmt.While _ _ _ _) _) _ _ _)); (fail_if_success (with_reducible show WhileStep _ _ _ _ _ _ _)))); (fail_if_success (with_reducible show wpAny _ _ (subscriptTail _ _ (Value.ref _) (Value.int _ _)) _ _ _)); (fail_if_success (with_reducible show wpAny _ _ (call (Value.builtin "list.append") _) _ _ _)))); leave1; walk_say "STEP leave1"; try dsimp only) | fail "no step"))
            refine item_bl (by walk_at "my:isl") hv (by omega) (by omega) (by omega) ?_
            intro t9
            (repeat' (first | (k_unfold; (try dsimp only)) | ((((((((((((((fail_if_success (with_reducible show InvPostN _ _ _ _ _ _ _ _ _)); (fail_if_success (with_reducible show InvEndN _ _ _ _ _ _ _)); (fail_if_success (with_reducible show wpG _ _ _ _ _ _)); (fail_if_success (with_reducible show wpAny _ _ (pyIter (Value.ref _)) _ _ _)))); (fail_if_success (with_reducible show LCg.CompSrc _ _ _ _ _ _ _ _ _ _ _ _ _ _)); (fail_if_success (with_reducible show LCg.CompEnd _ _ _ _ _ _ _ _ _ _ _ _ _ _)))); (fail_if_success (with_reducible show wpAny _ _ (eval (Expr.ListComp _ _ _ _) _) _ _ _)))); (fail_if_success (with_reducible show wpAny _ _ (call (Value.ref _) _) _ _ _)))); (fail_if_success (with_reducible show wpAny _ _ (exec (Stmt.While _ _ _ _) _) _ _ _)); (fail_if_success (with_reducible show WhileStep _ _ _ _ _ _ _)))); (fail_if_success (with_reducible show wpAny _ _ (subscriptTail _ _ (Value.ref _) (Value.int _ _)) _ _ _)); (fail_if_success (with_reducible show wpAny _ _ (call (Value.builtin "list.append") _) _ _ _)))); walk1) | ((((((((((((((fail_if_success (with_reducible show InvPostN _ _ _ _ _ _ _ _ _)); (fail_if_success (with_reducible show InvEndN _ _ _ _ _ _ _)); (fail_if_success (with_reducible show wpG _ _ _ _ _ _)); (fail_if_success (with_reducible show wpAny _ _ (pyIter (Value.ref _)) _ _ _)))); (fail_if_success (with_reducible show LCg.CompSrc _ _ _ _ _ _ _ _ _ _ _ _ _ _)); (fail_if_success (with_reducible show LCg.CompEnd _ _ _ _ _ _ _ _ _ _ _ _ _ _)))); (fail_if_success (with_reducible show wpAny _ _ (eval (Expr.ListComp _ _ _ _) _) _ _ _)))); (fail_if_success (with_reducible show wpAny _ _ (call (Value.ref _) _) _ _ _)))); (fail_if_success (with_reducible show wpAny _ _ (exec (Stmt.While _ _ _ _) _) _ _ _)); (fail_if_success (with_reducible show WhileStep _ _ _ _ _ _ _)))); (fail_if_success (with_reducible show wpAny _ _ (subscriptTail _ _ (Value.ref _) (Value.int _ _)) _ _ _)); (fail_if_success (with_reducible show wpAny _ _ (call (Value.builtin "list.append") _) _ _ _)))); dsimp only; walk1) | ((((((((((((((fail_if_success (with_reducible show InvPostN _ _ _ _ _ _ _ _ _)); (fail_if_success (with_reducible show InvEndN _ _ _ _ _ _ _)); (fail_if_success (with_reducible show wpG _ _ _ _ _ _)); (fail_if_success (with_reducible show wpAny _ _ (pyIter (Value.ref _)) _ _ _)))); (fail_if_success (with_reducible show LCg.CompSrc _ _ _ _ _ _ _ _ _ _ _ _ _ _)); (fail_if_success (with_reducible show LCg.CompEnd _ _ _ _ _ _ _ _ _ _ _ _ _ _)))); (fail_if_success (with_reducible show wpAny _ _ (eval (Expr.ListComp _ _ _ _) _) _ _ _)))); (fail_if_success (with_reducible show wpAny _ _ (call (Value.ref _) _) _ _ _)))); (fail_if_success (with_reducible show wpAny _ _ (exec (Stmt.While _ _ _ _) _) _ _ _)); (fail_if_success (with_reducible show WhileStep _ _ _ _ _ _ _)))); (fail_if_success (with_reducible show wpAny _ _ (subscriptTail _ _ (Value.ref _) (Value.int _ _)) _ _ _)); (fail_if_success (with_reducible show wpAny _ _ (call (Value.builtin "list.append") _) _ _ _)))); leave1; walk_say "STEP leave1"; try dsimp only) | fail "no step"))
            refine app_3 hc hoff5 (by k_asm) N₃ (by omega) ?_
            intro h8 F8 N8
            clear F₃ N₃
            (repeat' (first | (k_unfold; (try dsimp only)) | ((((((((((((((fail_if_success (with_reducible show InvPostN _ _ _ _ _ _ _ _ _)); (fail_if_success (with_reducible show InvEndN _ _ _ _ _ _ _)); (fail_if_success (with_reducible show wpG _ _ _ _ _ _)); (fail_if_success (with_reducible show wpAny _ _ (pyIter (Value.ref _)) _ _ _)))); (fail_if_success (with_reducible show LCg.CompSrc _ _ _ _ _ _ _ _ _ _ _ _ _ _)); (fail_if_success (with_reducible show LCg.CompEnd _ _ _ _ _ _ _ _ _ _ _ _ _ _)))); (fail_if_success (with_reducible show wpAny _ _ (eval (Expr.ListComp _ _ _ _) _) _ _ _)))); (fail_if_success (with_reducible show wpAny _ _ (call (Value.ref _) _) _ _ _)))); (fail_if_success (with_reducible show wpAny _ _ (exec (Stmt.While _ _ _ _) _) _ _ _)); (fail_if_success (with_reducible show WhileStep _ _ _ _ _ _ _)))); (fail_if_success (with_reducible show wpAny _ _ (subscriptTail _ _ (Value.ref _) (Value.int _ _)) _ _ _)); (fail_if_success (with_reducible show wpAny _ _ (call (Value.builtin "list.append") _) _ _ _)))); walk1) | ((((((((((((((fail_if_success (with_reducible show InvPostN _ _ _ _ _ _ _ _ _)); (fail_if_success (with_reducible show InvEndN _ _ _ _ _ _ _)); (fail_if_success (with_reducible show wpG _ _ _ _ _ _)); (fail_if_success (with_reducible show wpAny _ _ (pyIter (Value.ref _)) _ _ _)))); (fail_if_success (with_reducible show LCg.CompSrc _ _ _ _ _ _ _ _ _ _ _ _ _ _)); (fail_if_success (with_reducible show LCg.CompEnd _ _ _ _ _ _ _ _ _ _ _ _ _ _)))); (fail_if_success (with_reducible show wpAny _ _ (eval (Expr.ListComp _ _ _ _) _) _ _ _)))); (fail_if_success (with_reducible show wpAny _ _ (call (Value.ref _) _) _ _ _)))); (fail_if_success (with_reducible show wpAny _ _ (exec (Stmt.While _ _ _ _) _) _ _ _)); (fail_if_success (with_reducible show WhileStep _ _ _ _ _ _ _)))); (fail_if_success (with_reducible show wpAny _ _ (subscriptTail _ _ (Value.ref _) (Value.int _ _)) _ _ _)); (fail_if_success (with_reducible show wpAny _ _ (call (Value.builtin "list.append") _) _ _ _)))); dsimp only; walk1) | ((((((((((((((fail_if_success (with_reducible show InvPostN _ _ _ _ _ _ _ _ _)); (fail_if_success (with_reducible show InvEndN _ _ _ _ _ _ _)); (fail_if_success (with_reducible show wpG _ _ _ _ _ _)); (fail_if_success (with_reducible show wpAny _ _ (pyIter (Value.ref _)) _ _ _)))); (fail_if_success (with_reducible show LCg.CompSrc _ _ _ _ _ _ _ _ _ _ _ _ _ _)); (fail_if_success (with_reducible show LCg.CompEnd _ _ _ _ _ _ _ _ _ _ _ _ _ _)))); (fail_if_success (with_reducible show wpAny _ _ (eval (Expr.ListComp _ _ _ _) _) _ _ _)))); (fail_if_success (with_reducible show wpAny _ _ (call (Value.ref _) _) _ _ _)))); (fail_if_success (with_reducible show wpAny _ _ (exec (Stmt.While _ _ _ _) _) _ _ _)); (fail_if_success (with_reducible show WhileStep _ _ _ _ _ _ _)))); (fail_if_success (with_reducible show wpAny _ _ (subscriptTail _ _ (Value.ref _) (Value.int _ _)) _ _ _)); (fail_if_success (with_reducible show wpAny _ _ (call (Value.builtin "list.append") _) _ _ _)))); leave1; walk_say "STEP leave1"; try dsimp only) | fail "no step"))
            refine four_end (s₁ := ⟨h5, s.gens, s.drawn, tk5, s.os⟩) (by k_asm) N8 (by k_mem) (by k_mem) (by k_mem) (by k_mem) (by k_allIn) (fun p hp => by (repeat (first | assumption | refine List.mem_cons_of_mem _ ?_))) mapN_off ?_ ?_ ?_ ?_ (.inl rfl)
            all_goals first | exact gI_yes hbj (by assumption) | exact gI_same (by decide) (by assumption)
        · rename bs.getD (0 + (j : Int) * 1).toNat false = false => hbj
          rw [show (0 + (j : Int) * 1).toNat = j from by omega] at hbj
          refine four_end (s₁ := ⟨h5, s.gens, s.drawn, tk5, s.os⟩) (by k_asm) N₃ (by k_mem) (by k_mem) (by k_mem) (by k_mem) (by k_allIn) (fun p hp => by (repeat (first | assumption | refine List.mem_cons_of_mem _ ?_))) mapN_off ?_ ?_ ?_ ?_ (.inl rfl)
          all_goals (rw [gI_skip hbj]; assumption)
      · intro v' u' v0 v1 v2 v3 f0 f1 f2 f3 h5 tk5 C0 C1 C2 C3 F₃ N₃
        (try clear F6); (try clear N6); clear hr2
        rw [← hst] at C0 C1 C2 C3
        have hnn : ∀ side, (stayF steps front back i).length ≤ side → (stayF steps front back i).getD side false = false := fun side hs => by
          rw [List.getD_eq_getElem?_getD, List.getElem?_eq_none hs]; rfl
        (repeat' (first | (k_unfold; (try dsimp only)) | ((((((((((((((fail_if_success (with_reducible show InvPostN _ _ _ _ _ _ _ _ _)); (fail_if_success (with_reducible show InvEndN _ _ _ _ _ _ _)); (fail_if_success (with_reducible show wpG _ _ _ _ _ _)); (fail_if_success (with_reducible show wpAny _ _ (pyIter (Value.ref _)) _ _ _)))); (fail_if_success (with_reducible show LCg.CompSrc _ _ _ _ _ _ _ _ _ _ _ _ _ _)); (fail_if_success (with_reducible show LCg.CompEnd _ _ _ _ _ _ _ _ _ _ _ _ _ _)))); (fail_if_success (with_reducible show wpAny _ _ (eval (Expr.ListComp _ _ _ _) _) _ _ _)))); (fail_if_success (with_reducible show wpAny _ _ (call (Value.ref _) _) _ _ _)))); (fail_if_success (with_reducible show wpAny _ _ (exec (Stmt.While _ _ _ _) _) _ _ _)); (fail_if_success (with_reducible show WhileStep _ _ _ _ _ _ _)))); (fail_if_success (with_reducible show wpAny _ _ (subscriptTail _ _ (Value.ref _) (Value.ref _)) _ _ _)); (fail_if_success (with_reducible show wpAny _ _ (exec (Stmt.For _ _ _ _ _) _) _ _ _)); (fail_if_success (with_reducible show wpAny _ _ (eval (Expr.BoolOp _ _ _) _) _ _ _)); (fail_if_success (with_reducible show StayCut _ _ _ _ _ _ _ _ _ _ _ _ _ _ _ _ _ _)); (fail_if_success (with_reducible show BoolCut _ _ _ _ _ _ _ _)); (fail_if_success (with_reducible show BytesCut _ _ _ _ _ _ _ _)))); walk1) | ((((((((((((((fail_if_success (with_reducible show InvPostN _ _ _ _ _ _ _ _ _)); (fail_if_success (with_reducible show InvEndN _ _ _ _ _ _ _)); (fail_if_success (with_reducible show wpG _ _ _ _ _ _)); (fail_if_success (with_reducible show wpAny _ _ (pyIter (Value.ref _)) _ _ _)))); (fail_if_success (with_reducible show LCg.CompSrc _ _ _ _ _ _ _ _ _ _ _ _ _ _)); (fail_if_success (with_reducible show LCg.CompEnd _ _ _ _ _ _ _ _ _ _ _ _ _ _)))); (fail_if_success (with_reducible show wpAny _ _ (eval (Expr.ListComp _ _ _ _) _) _ _ _)))); (fail_if_success (with_reducible show wpAny _ _ (call (Value.ref _) _) _ _ _)))); (fail_if_success (with_reducible show wpAny _ _ (exec (Stmt.While _ _ _ _) _) _ _ _)); (fail_if_success (with_reducible show WhileStep _ _ _ _ _ _ _)))); (fail_if_success (with_reducible show wpAny _ _ (subscriptTail _ _ (Value.ref _) (Value.ref _)) _ _ _)); (fail_if_success (with_reducible show wpAny _ _ (exec (Stmt.For _ _ _ _ _) _) _ _ _)); (fail_if_success (with_reducible show wpAny _ _ (eval (Expr.BoolOp _ _ _) _) _ _ _)); (fail_if_success (with_reducible show StayCut _ _ _ _ _ _ _ _ _ _ _ _ _ _ _ _ _ _)); (fail_if_success (with_reducible show BoolCut _ _ _ _ _ _ _ _)); (fail_if_success (with_reducible show BytesCut _ _ _ _ _ _ _ _)))); dsimp only; walk1) | ((((((((((((((fail_if_success (with_reducible show InvPostN _ _ _ _ _ _ _ _ _)); (fail_if_success (with_reducible show InvEndN _ _ _ _ _ _ _)); (fail_if_success (with_reducible show wpG _ _ _ _ _ _)); (fail_if_success (with_reducible show wpAny _ _ (pyIter (Value.ref _)) _ _ _)))); (fail_if_success (with_reducible show LCg.CompSrc _ _ _ _ _ _ _ _ _ _ _ _ _ _)); (fail_if_success (with_reducible show LCg.CompEnd _ _ _ _ _ _ _ _ _ _ _ _ _ _)))); (fail_if_success (with_reducible show wpAny _ _ (eval (Expr.ListComp _ _ _ _) _) _ _ _)))); (fail_if_success (with_reducible show wpAny _ _ (call (Value.ref _) _) _ _ _)))); (fail_if_success (with_reducible show wpAny _ _ (exec (Stmt.While _ _ _ _) _) _ _ _)); (fail_if_success (with_reducible show WhileStep _ _ _ _ _ _ _)))); (fail_if_success (with_reducible show wpAny _ _ (subscriptTail _ _ (Value.ref _) (Value.ref _)) _ _ _)); (fail_if_success (with_reducible show wpAny _ _ (exec (Stmt.For _ _ _ _ _) _) _ _ _)); (fail_if_success (with_reducible show wpAny _ _ (eval (Expr.BoolOp _ _ _) _) _ _ _)); (fail_if_success (with_reducible show StayCut _ _ _ _ _ _ _ _ _ _ _ _ _ _ _ _ _ _)); (fail_if_success (with_reducible show BoolCut _ _ _ _ _ _ _ _)); (fail_if_success (with_reducible show BytesCut _ _ _ _ _ _ _ _)))); leave1; walk_say "STEP leave1"; try dsimp only) | fail "no step"))
        exact four_endE (s₁ := ⟨h, s.gens, s.drawn, tk, s.os⟩) (by k_asm) (by k_asm) (by k_mem) (by k_mem) (by k_mem) (by k_mem) (by k_allIn) (fun p hp => by (repeat (first | assumption | refine List.mem_cons_of_mem _ ?_))) (fun z h h1 h2 h3 h4 h5 h6 => by simp only [mapN, if_neg h, if_neg h1, if_neg h2, if_neg h3, if_neg h4, if_neg h5, if_neg h6]) (gI_full hnn C0) (gI_full hnn C1) (gI_full hnn C2) (gI_full hnn C3)
    · intro v u u0 u1 u2 u3 e0 e1 e2 e3 h tk B0 B1 B2 B3 F₂ N₂
      clear kF1 kN1 hr1
      dsimp only
      refine wpG_execs_cons (wpG_of ?_)
      refine LCg.Assign_ListComp_U (F₀ := by k_asm) (by rfl) (by with_unfolding_all rfl) (by with_unfolding_all rfl) (by decide) (by rfl) (by decide) (by rfl) (by rfl) (by rfl) ?_
      (repeat' (first | (k_unfold; (try dsimp only)) | ((((((fail_if_success (with_reducible show InvPostN _ _ _ _ _ _ _ _ _)); (fail_if_success (with_reducible show InvEndN _ _ _ _ _ _ _)); (fail_if_success (with_reducible show wpG _ _ _ _ _ _)); (fail_if_success (with_reducible show wpAny _ _ (pyIter (Value.ref _)) _ _ _)))); (fail_if_success (with_reducible show LCg.CompSrc _ _ _ _ _ _ _ _ _ _ _ _ _ _)); (fail_if_success (with_reducible show LCg.CompEnd _ _ _ _ _ _ _ _ _ _ _ _ _ _)))); walk1) | ((((((fail_if_success (with_reducible show InvPostN _ _ _ _ _ _ _ _ _)); (fail_if_success (with_reducible show InvEndN _ _ _ _ _ _ _)); (fail_if_success (with_reducible show wpG _ _ _ _ _ _)); (fail_if_success (with_reducible show wpAny _ _ (pyIter (Value.ref _)) _ _ _)))); (fail_if_success (with_reducible show LCg.CompSrc _ _ _ _ _ _ _ _ _ _ _ _ _ _)); (fail_if_success (with_reducible show LCg.CompEnd _ _ _ _ _ _ _ _ _ _ _ _ _ _)))); dsimp only; walk1) | ((((((fail_if_success (with_reducible show InvPostN _ _ _ _ _ _ _ _ _)); (fail_if_success (with_reducible show InvEndN _ _ _ _ _ _ _)); (fail_if_success (with_reducible show wpG _ _ _ _ _ _)); (fail_if_success (with_reducible show wpAny _ _ (pyIter (Value.ref _)) _ _ _)))); (fail_if_success (with_reducible show LCg.CompSrc _ _ _ _ _ _ _ _ _ _ _ _ _ _)); (fail_if_success (with_reducible show LCg.CompEnd _ _ _ _ _ _ _ _ _ _ _ _ _ _)))); leave1; walk_say "STEP leave1"; try dsimp only) | fail "no step"))
      rename Fr _ _ _ _ => F1
      rename News _ _ _ _ => N1
      refine LCg.CompSrc.ledger rfl F1 N1 (by k_mem) (by rw [sizeLine_eq]; exact Nat.le_of_ble_eq_true rfl) fun g => ?_
      refine cr_rest (fun j y => ∃ b t, b = joinL [47] (keptN steps front back steps.length j) ∧ y = .bytes b.toArray t) ?_ ?_
      · intro j v I oI C oC D m₂ ys h tk E' hj hv hC hx Fc Nc off ne
        clear F1 N1
        have hz0 := keptN_size hn hq front back 0
        have hz1 := keptN_size hn hq front back 1
        have hz2 := keptN_size hn hq front back 2
        have hz3 := keptN_size hn hq front back 3
        have hj : j < 4 := hj
        obtain rfl | rfl | rfl | rfl := four_of_lt hj
        all_goals (cases hv; (repeat' (first | (k_unfold; (try dsimp only)) | ((((((fail_if_success (with_reducible show InvPostN _ _ _ _ _ _ _ _ _)); (fail_if_success (with_reducible show InvEndN _ _ _ _ _ _ _)); (fail_if_success (with_reducible show wpG _ _ _ _ _ _)); (fail_if_success (with_reducible show wpAny _ _ (pyIter (Value.ref _)) _ _ _)))); (fail_if_success (with_reducible show LCg.CompSrc _ _ _ _ _ _ _ _ _ _ _ _ _ _)); (fail_if_success (with_reducible show LCg.CompEnd _ _ _ _ _ _ _ _ _ _ _ _ _ _)))); (first | (with_reducible ((with_reducible show wpAny _ _ (getMethod (Value.bytes _ _) _ _) _ _ _); (k_here; (with_reducible refine method_join ?_)))) | (with_reducible ((with_reducible show wpAny _ _ (call (Value.builtin "bytes.join") _) _ _ _); (k_here; k_dflt (refine' join_K (by exact News.isList (by k_asm) (by k_mem)) (by assumption) (by first | assumption | walk_at "my:b_size") ?_; k_whole); intro t9 tk9))) | walk1)) | ((((((fail_if_success (with_reducible show InvPostN _ _ _ _ _ _ _ _ _)); (fail_if_success (with_reducible show InvEndN _ _ _ _ _ _ _)); (fail_if_success (with_reducible show wpG _ _ _ _ _ _)); (fail_if_success (with_reducible show wpAny _ _ (pyIter (Value.ref _)) _ _ _)))); (fail_if_success (with_reducible show LCg.CompSrc _ _ _ _ _ _ _ _ _ _ _ _ _ _)); (fail_if_success (with_reducible show LCg.CompEnd _ _ _ _ _ _ _ _ _ _ _ _ _ _)))); dsimp only; (first | (with_reducible ((with_reducible show wpAny _ _ (getMethod (Value.bytes _ _) _ _) _ _ _); (k_here; (with_reducible refine method_join ?_)))) | (with_reducible ((with_reducible show wpAny _ _ (call (Value.builtin "bytes.join") _) _ _ _); (k_here; k_dflt (refine' join_K (by exact News.isList (by k_asm) (by k_mem)) (by assumption) (by first | assumption | walk_at "my:b_size") ?_; k_whole); intro t9 tk9))) | walk1)) | ((((((fail_if_success (with_reducible show InvPostN _ _ _ _ _ _ _ _ _)); (fail_if_success (with_reducible show InvEndN _ _ _ _ _ _ _)); (fail_if_success (with_reducible show wpG _ _ _ _ _ _)); (fail_if_success (with_reducible show wpAny _ _ (pyIter (Value.ref _)) _ _ _)))); (fail_if_success (with_reducible show LCg.CompSrc _ _ _ _ _ _ _ _ _ _ _ _ _ _)); (fail_if_success (with_reducible show LCg.CompEnd _ _ _ _ _ _ _ _ _ _ _ _ _ _)))); leave1; walk_say "STEP leave1"; try dsimp only) | fail "no step")); rename Fr _ _ _ _ => F2; rename News _ _ _ _ => N2; exact LCg.CompEnd.intro F2 N2 _ (fun p hp => hp) off (.inr ⟨_, by k_mem, rfl, _, rfl⟩) ⟨rfl, _, _, rfl, rfl⟩)
      intro ysN hlN hyN DN hN tkN FN NN oN
      obtain ⟨tx, htx, hRN⟩ := bytes_of _ hyN
      have etx := table_of (n := 4) (by rw [← htx.length]; exact hlN) hRN
      have etx : tx = [joinL [47] (keptN steps front back steps.length 0), joinL [47] (keptN steps front back steps.length 1), joinL [47] (keptN steps front back steps.length 2), joinL [47] (keptN steps front back steps.length 3)] := etx
      clear hyN hRN F1 N1
      subst etx
      simp only [LCg.Off1, and_true] at oN
      have hsl := hsL_len steps steps.length
      have hH4 := getD_last hsl
      have hHb := hsL_bound steps steps.length _ (getLastD_mem (hsL_ne steps steps.length))
      have hHe : (hsL steps steps.length).getLastD 0 = (hsL steps steps.length).getD steps.length 0 := by
        rw [List.getLastD_eq_getLast?, List.getLast?_eq_getElem?, hsl, List.getD_eq_getElem?_getD]; rfl
      rw [hHe] at hHb
      have hmx : (if -(hsL steps steps.length).getD (-1 + ((hsL steps steps.length).length : Int)).toNat 0 > 0 then -(hsL steps steps.length).getD (-1 + ((hsL steps steps.length).length : Int)).toNat 0 else 0) = max 0 (-(hsL steps steps.length).getD steps.length 0) := by
        rw [hH4]; split <;> omega
      have hdb : joinL [47] (List.replicate (if -(hsL steps steps.length).getD (-1 + ((hsL steps steps.length).length : Int)).toNat 0 > 0 then -(hsL steps steps.length).getD (-1 + ((hsL steps steps.length).length : Int)).toNat 0 else 0).toNat [[46, 46]]).flatten = downB steps := by
        rw [hmx, List.flatten_replicate_singleton]; rfl
      have hdz1 : (downB steps).length ≤ 100 := by
        have hdn : (max 0 (-(hsL steps steps.length).getD steps.length 0)).toNat ≤ 12 := by omega
        unfold downB
        rw [joinL_length, List.map_replicate, List.sum_replicate_nat, List.length_replicate]
        simp only [List.length_cons, List.length_nil]
        omega
      have hdz : (joinL [47] (List.replicate (if -(hsL steps steps.length).getD (-1 + ((hsL steps steps.length).length : Int)).toNat 0 > 0 then -(hsL steps steps.length).getD (-1 + ((hsL steps steps.length).length : Int)).toNat 0 else 0).toNat [[46, 46]]).flatten).length ≤ 16777216 := by rw [hdb]; omega
      dsimp only
      refine wpG_execs_cons (wpG_of ?_)
      (repeat' (first | (k_unfold; (try dsimp only)) | ((((((((((((((fail_if_success (with_reducible show InvPostN _ _ _ _ _ _ _ _ _)); (fail_if_success (with_reducible show InvEndN _ _ _ _ _ _ _)); (fail_if_success (with_reducible show wpG _ _ _ _ _ _)); (fail_if_success (with_reducible show wpAny _ _ (pyIter (Value.ref _)) _ _ _)))); (fail_if_success (with_reducible show LCg.CompSrc _ _ _ _ _ _ _ _ _ _ _ _ _ _)); (fail_if_success (with_reducible show LCg.CompEnd _ _ _ _ _ _ _ _ _ _ _ _ _ _)))); (fail_if_success (with_reducible show wpAny _ _ (eval (Expr.ListComp _ _ _ _) _) _ _ _)))); (fail_if_success (with_reducible show wpAny _ _ (call (Value.ref _) _) _ _ _)))); (fail_if_success (with_reducible show wpAny _ _ (exec (Stmt.While _ _ _ _) _) _ _ _)); (fail_if_success (with_reducible show WhileStep _ _ _ _ _ _ _)))); (fail_if_success (with_reducible show BoolCut _ _ _ _ _ _ _ _)); (fail_if_success (with_reducible show BytesCut _ _ _ _ _ _ _ _)))); (first | (with_reducible ((with_reducible show wpAny _ _ (getMethod (Value.bytes _ _) _ _) _ _ _); (k_here; (with_reducible refine method_join ?_)))) | (with_reducible (k_here; (with_reducible show wpAny _ _ (binaryOp Operator.Mult (Value.ref _) (Value.int _ _)) _ _ _); k_dflt (refine' mul_bl ?q9F ?q9N ?q9l ?q9v ?q9a ?q9b ?q9z ?_; (case q9F => k_asm); (case q9N => k_asm); (case q9l => walk_at "my:isl"); (case q9v => walk_at "my:bytes"); (case q9a => walk_at "my:idx"); (case q9b => walk_at "my:idx"); (case q9z => (simp only [List.length_cons, List.length_nil]; walk_at "my:idx")); k_whole); intro D9 ws9 h9 ba9 F9 N9 l9; (try k_lt l9))) | (with_reducible ((with_reducible show wpAny _ _ (call (Value.builtin "bytes.join") _) _ _ _); (k_here; k_dflt (refine' join_K (by exact News.isList (by k_asm) (by k_mem)) (by assumption) (by first | assumption | walk_at "my:b_size") ?_; k_whole); intro t9 tk9))) | walk1)) | ((((((((((((((fail_if_success (with_reducible show InvPostN _ _ _ _ _ _ _ _ _)); (fail_if_success (with_reducible show InvEndN _ _ _ _ _ _ _)); (fail_if_success (with_reducible show wpG _ _ _ _ _ _)); (fail_if_success (with_reducible show wpAny _ _ (pyIter (Value.ref _)) _ _ _)))); (fail_if_success (with_reducible show LCg.CompSrc _ _ _ _ _ _ _ _ _ _ _ _ _ _)); (fail_if_success (with_reducible show LCg.CompEnd _ _ _ _ _ _ _ _ _ _ _ _ _ _)))); (fail_if_success (with_reducible show wpAny _ _ (eval (Expr.ListComp _ _ _ _) _) _ _ _)))); (fail_if_success (with_reducible show wpAny _ _ (call (Value.ref _) _) _ _ _)))); (fail_if_success (with_reducible show wpAny _ _ (exec (Stmt.While _ _ _ _) _) _ _ _)); (fail_if_success (with_reducible show WhileStep _ _ _ _ _ _ _)))); (fail_if_success (with_reducible show BoolCut _ _ _ _ _ _ _ _)); (fail_if_success (with_reducible show BytesCut _ _ _ _ _ _ _ _)))); dsimp only; (first | (with_reducible ((with_reducible show wpAny _ _ (getMethod (Value.bytes _ _) _ _) _ _ _); (k_here; (with_reducible refine method_join ?_)))) | (with_reducible (k_here; (with_reducible show wpAny _ _ (binaryOp Operator.Mult (Value.ref _) (Value.int _ _)) _ _ _); k_dflt (refine' mul_bl ?q9F ?q9N ?q9l ?q9v ?q9a ?q9b ?q9z ?_; (case q9F => k_asm); (case q9N => k_asm); (case q9l => walk_at "my:isl"); (case q9v => walk_at "my:bytes"); (case q9a => walk_at "my:idx"); (case q9b => walk_at "my:idx"); (case q9z => (simp only [List.length_cons, List.length_nil]; walk_at "my:idx")); k_whole); intro D9 ws9 h9 ba9 F9 N9 l9; (try k_lt l9))) | (with_reducible ((with_reducible show wpAny _ _ (call (Value.builtin "bytes.join") _) _ _ _); (k_here; k_dflt (refine' join_K (by exact News.isList (by k_asm) (by k_mem)) (by assumption) (by first | assumption | walk_at "my:b_size") ?_; k_whole); intro t9 tk9))) | walk1)) | ((((((((((((((fail_if_success (with_reducible show InvPostN _ _ _ _ _ _ _ _ _)); (fail_if_success (with_reducible show InvEndN _ _ _ _ _ _ _)); (fail_if_success (with_reducible show wpG _ _ _ _ _ _)); (fail_if_success (with_reducible show wpAny _ _ (pyIter (Value.ref _)) _ _ _)))); (fail_if_success (with_reducible show LCg.CompSrc _ _ _ _ _ _ _ _ _ _ _ _ _ _)); (fail_if_success (with_reducible show LCg.CompEnd _ _ _ _ _ _ _ _ _ _ _ _ _ _)))); (fail_if_success (with_reducible show wpAny _ _ (eval (Expr.ListComp _ _ _ _) _) _ _ _)))); (fail_if_success (with_reducible show wpAny _ _ (call (Value.ref _) _) _ _ _)))); (fail_if_success (with_reducible show wpAny _ _ (exec (Stmt.While _ _ _ _) _) _ _ _)); (fail_if_success (with_reducible show WhileStep _ _ _ _ _ _ _)))); (fail_if_success (with_reducible show BoolCut _ _ _ _ _ _ _ _)); (fail_if_success (with_reducible show BytesCut _ _ _ _ _ _ _ _)))); leave1; walk_say "STEP leave1"; try dsimp only) | fail "no step"))
      rename Fr _ _ _ _ => FR
      rename News _ _ _ _ => NR
      rw [hdb] at FR
      clear hdb hdz hmx
      replace NR := news_one NR (D := DN) (o := LCg.lst ysN) (by k_mem)
      dsimp only
      have hz0 := keptN_size hn hq front back 0
      have hz1 := keptN_size hn hq front back 1
      have hz2 := keptN_size hn hq front back 2
      have hz3 := keptN_size hn hq front back 3
      generalize hxe0 : joinL [47] (keptN steps front back steps.length 0) = x0 at htx hz0
      generalize hxe1 : joinL [47] (keptN steps front back steps.length 1) = x1 at htx hz1
      generalize hxe2 : joinL [47] (keptN steps front back steps.length 2) = x2 at htx hz2
      generalize hxe3 : joinL [47] (keptN steps front back steps.length 3) = x3 at htx hz3
      generalize hxd : downB steps = down at FR hdz1
      have hy0 : ([x0, x1, x2, x3].getD (Int.toNat 0) []).length ≤ 100 := hz0
      have hy1 : ([x0, x1, x2, x3].getD (Int.toNat 1) []).length ≤ 100 := hz1
      have hy2 : ([x0, x1, x2, x3].getD (Int.toNat 2) []).length ≤ 100 := hz2
      have hy3 : ([x0, x1, x2, x3].getD (Int.toNat 3) []).length ≤ 100 := hz3
      refine wpG_execs_cons (wpG_Return ?_)
      refine wpG_quad ?_
      refine wpG_of (bytes_cut FR NR (orB (front ++ x0) [46]) ?_ ?_)
      · (repeat' (first | (k_unfold; (try dsimp only)) | ((((((((((((((fail_if_success (with_reducible show InvPostN _ _ _ _ _ _ _ _ _)); (fail_if_success (with_reducible show InvEndN _ _ _ _ _ _ _)); (fail_if_success (with_reducible show wpG _ _ _ _ _ _)); (fail_if_success (with_reducible show wpAny _ _ (pyIter (Value.ref _)) _ _ _)))); (fail_if_success (with_reducible show LCg.CompSrc _ _ _ _ _ _ _ _ _ _ _ _ _ _)); (fail_if_success (with_reducible show LCg.CompEnd _ _ _ _ _ _ _ _ _ _ _ _ _ _)))); (fail_if_success (with_reducible show wpAny _ _ (eval (Expr.ListComp _ _ _ _) _) _ _ _)))); (fail_if_success (with_reducible show wpAny _ _ (call (Value.ref _) _) _ _ _)))); (fail_if_success (with_reducible show wpAny _ _ (exec (Stmt.While _ _ _ _) _) _ _ _)); (fail_if_success (with_reducible show WhileStep _ _ _ _ _ _ _)))); (fail_if_success (with_reducible show wpAny _ _ (subscriptTail _ _ (Value.ref _) (Value.int _ _)) _ _ _)); (fail_if_success (with_reducible show wpAny _ _ (call (Value.builtin "list.append") _) _ _ _)))); walk1) | ((((((((((((((fail_if_success (with_reducible show InvPostN _ _ _ _ _ _ _ _ _)); (fail_if_success (with_reducible show InvEndN _ _ _ _ _ _ _)); (fail_if_success (with_reducible show wpG _ _ _ _ _ _)); (fail_if_success (with_reducible show wpAny _ _ (pyIter (Value.ref _)) _ _ _)))); (fail_if_success (with_reducible show LCg.CompSrc _ _ _ _ _ _ _ _ _ _ _ _ _ _)); (fail_if_success (with_reducible show LCg.CompEnd _ _ _ _ _ _ _ _ _ _ _ _ _ _)))); (fail_if_success (with_reducible show wpAny _ _ (eval (Expr.ListComp _ _ _ _) _) _ _ _)))); (fail_if_success (with_reducible show wpAny _ _ (call (Value.ref _) _) _ _ _)))); (fail_if_success (with_reducible show wpAny _ _ (exec (Stmt.While _ _ _ _) _) _ _ _)); (fail_if_success (with_reducible show WhileStep _ _ _ _ _ _ _)))); (fail_if_success (with_reducible show wpAny _ _ (subscriptTail _ _ (Value.ref _) (Value.int _ _)) _ _ _)); (fail_if_success (with_reducible show wpAny _ _ (call (Value.builtin "list.append") _) _ _ _)))); dsimp only; walk1) | ((((((((((((((fail_if_success (with_reducible show InvPostN _ _ _ _ _ _ _ _ _)); (fail_if_success (with_reducible show InvEndN _ _ _ _ _ _ _)); (fail_if_success (with_reducible show wpG _ _ _ _ _ _)); (fail_if_success (with_reducible show wpAny _ _ (pyIter (Value.ref _)) _ _ _)))); (fail_if_success (with_reducible show LCg.CompSrc _ _ _ _ _ _ _ _ _ _ _ _ _ _)); (fail_if_success (with_reducible show LCg.CompEnd _ _ _ _ _ _ _ _ _ _ _ _ _ _)))); (fail_if_success (with_reducible show wpAny _ _ (eval (Expr.ListComp _ _ _ _) _) _ _ _)))); (fail_if_success (with_reducible show wpAny _ _ (call (Value.ref _) _) _ _ _)))); (fail_if_success (with_reducible show wpAny _ _ (exec (Stmt.While _ _ _ _) _) _ _ _)); (fail_if_success (with_reducible show WhileStep _ _ _ _ _ _ _)))); (fail_if_success (with_reducible show wpAny _ _ (subscriptTail _ _ (Value.ref _) (Value.int _ _)) _ _ _)); (fail_if_success (with_reducible show wpAny _ _ (call (Value.builtin "list.append") _) _ _ _)))); leave1; walk_say "STEP leave1"; try dsimp only) | fail "no step"))
        refine item_bl (by walk_at "my:isl") htx (by decide) (by show (0 : Int) < 4; decide) (by show 4 ≤ 1000000; decide) ?_
        intro t9
        (repeat' (first | (k_unfold; (try dsimp only)) | ((((((((((((((fail_if_success (with_reducible show InvPostN _ _ _ _ _ _ _ _ _)); (fail_if_success (with_reducible show InvEndN _ _ _ _ _ _ _)); (fail_if_success (with_reducible show wpG _ _ _ _ _ _)); (fail_if_success (with_reducible show wpAny _ _ (pyIter (Value.ref _)) _ _ _)))); (fail_if_success (with_reducible show LCg.CompSrc _ _ _ _ _ _ _ _ _ _ _ _ _ _)); (fail_if_success (with_reducible show LCg.CompEnd _ _ _ _ _ _ _ _ _ _ _ _ _ _)))); (fail_if_success (with_reducible show wpAny _ _ (eval (Expr.ListComp _ _ _ _) _) _ _ _)))); (fail_if_success (with_reducible show wpAny _ _ (call (Value.ref _) _) _ _ _)))); (fail_if_success (with_reducible show wpAny _ _ (exec (Stmt.While _ _ _ _) _) _ _ _)); (fail_if_success (with_reducible show WhileStep _ _ _ _ _ _ _)))); (fail_if_success (with_reducible show BoolCut _ _ _ _ _ _ _ _)); (fail_if_success (with_reducible show BytesCut _ _ _ _ _ _ _ _)))); (first | (with_reducible (k_here; (with_reducible show wpAny _ _ (binaryOp Operator.Add (Value.bytes (List.toArray _) _) (Value.bytes (List.toArray _) _)) _ _ _); k_dflt (refine' bytes_add_K ?z rfl ?_; (case z => (simp only [List.size_toArray, List.length_cons, List.length_nil]; first | omega | walk_at "my:b_size")); k_whole); intro t9 k9)) | (with_reducible (k_here; (with_reducible show wpAny _ _ (truthy (Value.bytes (List.toArray _) _)) _ _ _); (refine truthy_bytesL (by walk_at "my:b_size") ?_); intro _)) | walk1)) | ((((((((((((((fail_if_success (with_reducible show InvPostN _ _ _ _ _ _ _ _ _)); (fail_if_success (with_reducible show InvEndN _ _ _ _ _ _ _)); (fail_if_success (with_reducible show wpG _ _ _ _ _ _)); (fail_if_success (with_reducible show wpAny _ _ (pyIter (Value.ref _)) _ _ _)))); (fail_if_success (with_reducible show LCg.CompSrc _ _ _ _ _ _ _ _ _ _ _ _ _ _)); (fail_if_success (with_reducible show LCg.CompEnd _ _ _ _ _ _ _ _ _ _ _ _ _ _)))); (fail_if_success (with_reducible show wpAny _ _ (eval (Expr.ListComp _ _ _ _) _) _ _ _)))); (fail_if_success (with_reducible show wpAny _ _ (call (Value.ref _) _) _ _ _)))); (fail_if_success (with_reducible show wpAny _ _ (exec (Stmt.While _ _ _ _) _) _ _ _)); (fail_if_success (with_reducible show WhileStep _ _ _ _ _ _ _)))); (fail_if_success (with_reducible show BoolCut _ _ _ _ _ _ _ _)); (fail_if_success (with_reducible show BytesCut _ _ _ _ _ _ _ _)))); dsimp only; (first | (with_reducible (k_here; (with_reducible show wpAny _ _ (binaryOp Operator.Add (Value.bytes (List.toArray _) _) (Value.bytes (List.toArray _) _)) _ _ _); k_dflt (refine' bytes_add_K ?z rfl ?_; (case z => (simp only [List.size_toArray, List.length_cons, List.length_nil]; first | omega | walk_at "my:b_size")); k_whole); intro t9 k9)) | (with_reducible (k_here; (with_reducible show wpAny _ _ (truthy (Value.bytes (List.toArray _) _)) _ _ _); (refine truthy_bytesL (by walk_at "my:b_size") ?_); intro _)) | walk1)) | ((((((((((((((fail_if_success (with_reducible show InvPostN _ _ _ _ _ _ _ _ _)); (fail_if_success (with_reducible show InvEndN _ _ _ _ _ _ _)); (fail_if_success (with_reducible show wpG _ _ _ _ _ _)); (fail_if_success (with_reducible show wpAny _ _ (pyIter (Value.ref _)) _ _ _)))); (fail_if_success (with_reducible show LCg.CompSrc _ _ _ _ _ _ _ _ _ _ _ _ _ _)); (fail_if_success (with_reducible show LCg.CompEnd _ _ _ _ _ _ _ _ _ _ _ _ _ _)))); (fail_if_success (with_reducible show wpAny _ _ (eval (Expr.ListComp _ _ _ _) _) _ _ _)))); (fail_if_success (with_reducible show wpAny _ _ (call (Value.ref _) _) _ _ _)))); (fail_if_success (with_reducible show wpAny _ _ (exec (Stmt.While _ _ _ _) _) _ _ _)); (fail_if_success (with_reducible show WhileStep _ _ _ _ _ _ _)))); (fail_if_success (with_reducible show BoolCut _ _ _ _ _ _ _ _)); (fail_if_success (with_reducible show BytesCut _ _ _ _ _ _ _ _)))); leave1; walk_say "STEP leave1"; try dsimp only) | fail "no step"))
        · exact BytesCut.intro (by k_asm) (by k_asm) (or_some (by assumption))
        · exact BytesCut.intro (by k_asm) (by k_asm) (or_nil (Classical.not_not.mp (by assumption)))
      intro t1 h1 tk1 F1 N1
      refine wpG_of (bytes_cut F1 N1 (orB (x1 ++ back) [46]) ?_ ?_)
      · (repeat' (first | (k_unfold; (try dsimp only)) | ((((((((((((((fail_if_success (with_reducible show InvPostN _ _ _ _ _ _ _ _ _)); (fail_if_success (with_reducible show InvEndN _ _ _ _ _ _ _)); (fail_if_success (with_reducible show wpG _ _ _ _ _ _)); (fail_if_success (with_reducible show wpAny _ _ (pyIter (Value.ref _)) _ _ _)))); (fail_if_success (with_reducible show LCg.CompSrc _ _ _ _ _ _ _ _ _ _ _ _ _ _)); (fail_if_success (with_reducible show LCg.CompEnd _ _ _ _ _ _ _ _ _ _ _ _ _ _)))); (fail_if_success (with_reducible show wpAny _ _ (eval (Expr.ListComp _ _ _ _) _) _ _ _)))); (fail_if_success (with_reducible show wpAny _ _ (call (Value.ref _) _) _ _ _)))); (fail_if_success (with_reducible show wpAny _ _ (exec (Stmt.While _ _ _ _) _) _ _ _)); (fail_if_success (with_reducible show WhileStep _ _ _ _ _ _ _)))); (fail_if_success (with_reducible show wpAny _ _ (subscriptTail _ _ (Value.ref _) (Value.int _ _)) _ _ _)); (fail_if_success (with_reducible show wpAny _ _ (call (Value.builtin "list.append") _) _ _ _)))); walk1) | ((((((((((((((fail_if_success (with_reducible show InvPostN _ _ _ _ _ _ _ _ _)); (fail_if_success (with_reducible show InvEndN _ _ _ _ _ _ _)); (fail_if_success (with_reducible show wpG _ _ _ _ _ _)); (fail_if_success (with_reducible show wpAny _ _ (pyIter (Value.ref _)) _ _ _)))); (fail_if_success (with_reducible show LCg.CompSrc _ _ _ _ _ _ _ _ _ _ _ _ _ _)); (fail_if_success (with_reducible show LCg.CompEnd _ _ _ _ _ _ _ _ _ _ _ _ _ _)))); (fail_if_success (with_reducible show wpAny _ _ (eval (Expr.ListComp _ _ _ _) _) _ _ _)))); (fail_if_success (with_reducible show wpAny _ _ (call (Value.ref _) _) _ _ _)))); (fail_if_success (with_reducible show wpAny _ _ (exec (Stmt.While _ _ _ _) _) _ _ _)); (fail_if_success (with_reducible show WhileStep _ _ _ _ _ _ _)))); (fail_if_success (with_reducible show wpAny _ _ (subscriptTail _ _ (Value.ref _) (Value.int _ _)) _ _ _)); (fail_if_success (with_reducible show wpAny _ _ (call (Value.builtin "list.append") _) _ _ _)))); dsimp only; walk1) | ((((((((((((((fail_if_success (with_reducible show InvPostN _ _ _ _ _ _ _ _ _)); (fail_if_success (with_reducible show InvEndN _ _ _ _ _ _ _)); (fail_if_success (with_reducible show wpG _ _ _ _ _ _)); (fail_if_success (with_reducible show wpAny _ _ (pyIter (Value.ref _)) _ _ _)))); (fail_if_success (with_reducible show LCg.CompSrc _ _ _ _ _ _ _ _ _ _ _ _ _ _)); (fail_if_success (with_reducible show LCg.CompEnd _ _ _ _ _ _ _ _ _ _ _ _ _ _)))); (fail_if_success (with_reducible show wpAny _ _ (eval (Expr.ListComp _ _ _ _) _) _ _ _)))); (fail_if_success (with_reducible show wpAny _ _ (call (Value.ref _) _) _ _ _)))); (fail_if_success (with_reducible show wpAny _ _ (exec (Stmt.While _ _ _ _) _) _ _ _)); (fail_if_success (with_reducible show WhileStep _ _ _ _ _ _ _)))); (fail_if_success (with_reducible show wpAny _ _ (subscriptTail _ _ (Value.ref _) (Value.int _ _)) _ _ _)); (fail_if_success (with_reducible show wpAny _ _ (call (Value.builtin "list.append") _) _ _ _)))); leave1; walk_say "STEP leave1"; try dsimp only) | fail "no step"))
        refine item_bl (by walk_at "my:isl") htx (by decide) (by show (1 : Int) < 4; decide) (by show 4 ≤ 1000000; decide) ?_
        intro t9
        (repeat' (first | (k_unfold; (try dsimp only)) | ((((((((((((((fail_if_success (with_reducible show InvPostN _ _ _ _ _ _ _ _ _)); (fail_if_success (with_reducible show InvEndN _ _ _ _ _ _ _)); (fail_if_success (with_reducible show wpG _ _ _ _ _ _)); (fail_if_success (with_reducible show wpAny _ _ (pyIter (Value.ref _)) _ _ _)))); (fail_if_success (with_reducible show LCg.CompSrc _ _ _ _ _ _ _ _ _ _ _ _ _ _)); (fail_if_success (with_reducible show LCg.CompEnd _ _ _ _ _ _ _ _ _ _ _ _ _ _)))); (fail_if_success (with_reducible show wpAny _ _ (eval (Expr.ListComp _ _ _ _) _) _ _ _)))); (fail_if_success (with_reducible show wpAny _ _ (call (Value.ref _) _) _ _ _)))); (fail_if_success (with_reducible show wpAny _ _ (exec (Stmt.While _ _ _ _) _) _ _ _)); (fail_if_success (with_reducible show WhileStep _ _ _ _ _ _ _)))); (fail_if_success (with_reducible show BoolCut _ _ _ _ _ _ _ _)); (fail_if_success (with_reducible show BytesCut _ _ _ _ _ _ _ _)))); (first | (with_reducible (k_here; (with_reducible show wpAny _ _ (binaryOp Operator.Add (Value.bytes (List.toArray _) _) (Value.bytes (List.toArray _) _)) _ _ _); k_dflt (refine' bytes_add_K ?z rfl ?_; (case z => (simp only [List.size_toArray, List.length_cons, List.length_nil]; first | omega | walk_at "my:b_size")); k_whole); intro t9 k9)) | (with_reducible (k_here; (with_reducible show wpAny _ _ (truthy (Value.bytes (List.toArray _) _)) _ _ _); (refine truthy_bytesL (by walk_at "my:b_size") ?_); intro _)) | walk1)) | ((((((((((((((fail_if_success (with_reducible show InvPostN _ _ _ _ _ _ _ _ _)); (fail_if_success (with_reducible show InvEndN _ _ _ _ _ _ _)); (fail_if_success (with_reducible show wpG _ _ _ _ _ _)); (fail_if_success (with_reducible show wpAny _ _ (pyIter (Value.ref _)) _ _ _)))); (fail_if_success (with_reducible show LCg.CompSrc _ _ _ _ _ _ _ _ _ _ _ _ _ _)); (fail_if_success (with_reducible show LCg.CompEnd _ _ _ _ _ _ _ _ _ _ _ _ _ _)))); (fail_if_success (with_reducible show wpAny _ _ (eval (Expr.ListComp _ _ _ _) _) _ _ _)))); (fail_if_success (with_reducible show wpAny _ _ (call (Value.ref _) _) _ _ _)))); (fail_if_success (with_reducible show wpAny _ _ (exec (Stmt.While _ _ _ _) _) _ _ _)); (fail_if_success (with_reducible show WhileStep _ _ _ _ _ _ _)))); (fail_if_success (with_reducible show BoolCut _ _ _ _ _ _ _ _)); (fail_if_success (with_reducible show BytesCut _ _ _ _ _ _ _ _)))); dsimp only; (first | (with_reducible (k_here; (with_reducible show wpAny _ _ (binaryOp Operator.Add (Value.bytes (List.toArray _) _) (Value.bytes (List.toArray _) _)) _ _ _); k_dflt (refine' bytes_add_K ?z rfl ?_; (case z => (simp only [List.size_toArray, List.length_cons, List.length_nil]; first | omega | walk_at "my:b_size")); k_whole); intro t9 k9)) | (with_reducible (k_here; (with_reducible show wpAny _ _ (truthy (Value.bytes (List.toArray _) _)) _ _ _); (refine truthy_bytesL (by walk_at "my:b_size") ?_); intro _)) | walk1)) | ((((((((((((((fail_if_success (with_reducible show InvPostN _ _ _ _ _ _ _ _ _)); (fail_if_success (with_reducible show InvEndN _ _ _ _ _ _ _)); (fail_if_success (with_reducible show wpG _ _ _ _ _ _)); (fail_if_success (with_reducible show wpAny _ _ (pyIter (Value.ref _)) _ _ _)))); (fail_if_success (with_reducible show LCg.CompSrc _ _ _ _ _ _ _ _ _ _ _ _ _ _)); (fail_if_success (with_reducible show LCg.CompEnd _ _ _ _ _ _ _ _ _ _ _ _ _ _)))); (fail_if_success (with_reducible show wpAny _ _ (eval (Expr.ListComp _ _ _ _) _) _ _ _)))); (fail_if_success (with_reducible show wpAny _ _ (call (Value.ref _) _) _ _ _)))); (fail_if_success (with_reducible show wpAny _ _ (exec (Stmt.While _ _ _ _) _) _ _ _)); (fail_if_success (with_reducible show WhileStep _ _ _ _ _ _ _)))); (fail_if_success (with_reducible show BoolCut _ _ _ _ _ _ _ _)); (fail_if_success (with_reducible show BytesCut _ _ _ _ _ _ _ _)))); leave1; walk_say "STEP leave1"; try dsimp only) | fail "no step"))
        · exact BytesCut.intro (by k_asm) (by k_asm) (or_some (by assumption))
        · exact BytesCut.intro (by k_asm) (by k_asm) (or_nil (Classical.not_not.mp (by assumption)))
      intro t2 h2 tk2 F2 N2
      clear F1 N1
      refine wpG_of (bytes_cut F2 N2 (orB x2 (orB front (orB down [46]))) ?_ ?_)
      · (repeat' (first | (k_unfold; (try dsimp only)) | ((((((((((((((fail_if_success (with_reducible show InvPostN _ _ _ _ _ _ _ _ _)); (fail_if_success (with_reducible show InvEndN _ _ _ _ _ _ _)); (fail_if_success (with_reducible show wpG _ _ _ _ _ _)); (fail_if_success (with_reducible show wpAny _ _ (pyIter (Value.ref _)) _ _ _)))); (fail_if_success (with_reducible show LCg.CompSrc _ _ _ _ _ _ _ _ _ _ _ _ _ _)); (fail_if_success (with_reducible show LCg.CompEnd _ _ _ _ _ _ _ _ _ _ _ _ _ _)))); (fail_if_success (with_reducible show wpAny _ _ (eval (Expr.ListComp _ _ _ _) _) _ _ _)))); (fail_if_success (with_reducible show wpAny _ _ (call (Value.ref _) _) _ _ _)))); (fail_if_success (with_reducible show wpAny _ _ (exec (Stmt.While _ _ _ _) _) _ _ _)); (fail_if_success (with_reducible show WhileStep _ _ _ _ _ _ _)))); (fail_if_success (with_reducible show wpAny _ _ (subscriptTail _ _ (Value.ref _) (Value.int _ _)) _ _ _)); (fail_if_success (with_reducible show wpAny _ _ (call (Value.builtin "list.append") _) _ _ _)))); walk1) | ((((((((((((((fail_if_success (with_reducible show InvPostN _ _ _ _ _ _ _ _ _)); (fail_if_success (with_reducible show InvEndN _ _ _ _ _ _ _)); (fail_if_success (with_reducible show wpG _ _ _ _ _ _)); (fail_if_success (with_reducible show wpAny _ _ (pyIter (Value.ref _)) _ _ _)))); (fail_if_success (with_reducible show LCg.CompSrc _ _ _ _ _ _ _ _ _ _ _ _ _ _)); (fail_if_success (with_reducible show LCg.CompEnd _ _ _ _ _ _ _ _ _ _ _ _ _ _)))); (fail_if_success (with_reducible show wpAny _ _ (eval (Expr.ListComp _ _ _ _) _) _ _ _)))); (fail_if_success (with_reducible show wpAny _ _ (call (Value.ref _) _) _ _ _)))); (fail_if_success (with_reducible show wpAny _ _ (exec (Stmt.While _ _ _ _) _) _ _ _)); (fail_if_success (with_reducible show WhileStep _ _ _ _ _ _ _)))); (fail_if_success (with_reducible show wpAny _ _ (subscriptTail _ _ (Value.ref _) (Value.int _ _)) _ _ _)); (fail_if_success (with_reducible show wpAny _ _ (call (Value.builtin "list.append") _) _ _ _)))); dsimp only; walk1) | ((((((((((((((fail_if_success (with_reducible show InvPostN _ _ _ _ _ _ _ _ _)); (fail_if_success (with_reducible show InvEndN _ _ _ _ _ _ _)); (fail_if_success (with_reducible show wpG _ _ _ _ _ _)); (fail_if_success (with_reducible show wpAny _ _ (pyIter (Value.ref _)) _ _ _)))); (fail_if_success (with_reducible show LCg.CompSrc _ _ _ _ _ _ _ _ _ _ _ _ _ _)); (fail_if_success (with_reducible show LCg.CompEnd _ _ _ _ _ _ _ _ _ _ _ _ _ _)))); (fail_if_success (with_reducible show wpAny _ _ (eval (Expr.ListComp _ _ _ _) _) _ _ _)))); (fail_if_success (with_reducible show wpAny _ _ (call (Value.ref _) _) _ _ _)))); (fail_if_success (with_reducible show wpAny _ _ (exec (Stmt.While _ _ _ _) _) _ _ _)); (fail_if_success (with_reducible show WhileStep _ _ _ _ _ _ _)))); (fail_if_success (with_reducible show wpAny _ _ (subscriptTail _ _ (Value.ref _) (Value.int _ _)) _ _ _)); (fail_if_success (with_reducible show wpAny _ _ (call (Value.builtin "list.append") _) _ _ _)))); leave1; walk_say "STEP leave1"; try dsimp only) | fail "no step"))
        refine item_bl (by walk_at "my:isl") htx (by decide) (by show (2 : Int) < 4; decide) (by show 4 ≤ 1000000; decide) ?_
        intro t9
        (repeat' (first | (k_unfold; (try dsimp only)) | ((((((((((((((fail_if_success (with_reducible show InvPostN _ _ _ _ _ _ _ _ _)); (fail_if_success (with_reducible show InvEndN _ _ _ _ _ _ _)); (fail_if_success (with_reducible show wpG _ _ _ _ _ _)); (fail_if_success (with_reducible show wpAny _ _ (pyIter (Value.ref _)) _ _ _)))); (fail_if_success (with_reducible show LCg.CompSrc _ _ _ _ _ _ _ _ _ _ _ _ _ _)); (fail_if_success (with_reducible show LCg.CompEnd _ _ _ _ _ _ _ _ _ _ _ _ _ _)))); (fail_if_success (with_reducible show wpAny _ _ (eval (Expr.ListComp _ _ _ _) _) _ _ _)))); (fail_if_success (with_reducible show wpAny _ _ (call (Value.ref _) _) _ _ _)))); (fail_if_success (with_reducible show wpAny _ _ (exec (Stmt.While _ _ _ _) _) _ _ _)); (fail_if_success (with_reducible show WhileStep _ _ _ _ _ _ _)))); (fail_if_success (with_reducible show BoolCut _ _ _ _ _ _ _ _)); (fail_if_success (with_reducible show BytesCut _ _ _ _ _ _ _ _)))); (first | (with_reducible (k_here; (with_reducible show wpAny _ _ (truthy (Value.bytes (List.toArray _) _)) _ _ _); (refine truthy_bytesL (by walk_at "my:b_size") ?_); intro _)) | walk1)) | ((((((((((((((fail_if_success (with_reducible show InvPostN _ _ _ _ _ _ _ _ _)); (fail_if_success (with_reducible show InvEndN _ _ _ _ _ _ _)); (fail_if_success (with_reducible show wpG _ _ _ _ _ _)); (fail_if_success (with_reducible show wpAny _ _ (pyIter (Value.ref _)) _ _ _)))); (fail_if_success (with_reducible show LCg.CompSrc _ _ _ _ _ _ _ _ _ _ _ _ _ _)); (fail_if_success (with_reducible show LCg.CompEnd _ _ _ _ _ _ _ _ _ _ _ _ _ _)))); (fail_if_success (with_reducible show wpAny _ _ (eval (Expr.ListComp _ _ _ _) _) _ _ _)))); (fail_if_success (with_reducible show wpAny _ _ (call (Value.ref _) _) _ _ _)))); (fail_if_success (with_reducible show wpAny _ _ (exec (Stmt.While _ _ _ _) _) _ _ _)); (fail_if_success (with_reducible show WhileStep _ _ _ _ _ _ _)))); (fail_if_success (with_reducible show BoolCut _ _ _ _ _ _ _ _)); (fail_if_success (with_reducible show BytesCut _ _ _ _ _ _ _ _)))); dsimp only; (first | (with_reducible (k_here; (with_reducible show wpAny _ _ (truthy (Value.bytes (List.toArray _) _)) _ _ _); (refine truthy_bytesL (by walk_at "my:b_size") ?_); intro _)) | walk1)) | ((((((((((((((fail_if_success (with_reducible show InvPostN _ _ _ _ _ _ _ _ _)); (fail_if_success (with_reducible show InvEndN _ _ _ _ _ _ _)); (fail_if_success (with_reducible show wpG _ _ _ _ _ _)); (fail_if_success (with_reducible show wpAny _ _ (pyIter (Value.ref _)) _ _ _)))); (fail_if_success (with_reducible show LCg.CompSrc _ _ _ _ _ _ _ _ _ _ _ _ _ _)); (fail_if_success (with_reducible show LCg.CompEnd _ _ _ _ _ _ _ _ _ _ _ _ _ _)))); (fail_if_success (with_reducible show wpAny _ _ (eval (Expr.ListComp _ _ _ _) _) _ _ _)))); (fail_if_success (with_reducible show wpAny _ _ (call (Value.ref _) _) _ _ _)))); (fail_if_success (with_reducible show wpAny _ _ (exec (Stmt.While _ _ _ _) _) _ _ _)); (fail_if_success (with_reducible show WhileStep _ _ _ _ _ _ _)))); (fail_if_success (with_reducible show BoolCut _ _ _ _ _ _ _ _)); (fail_if_success (with_reducible show BytesCut _ _ _ _ _ _ _ _)))); leave1; walk_say "STEP leave1"; try dsimp only) | fail "no step"))
        · exact BytesCut.intro (by k_asm) (by k_asm) (or3a (by assumption))
        · exact BytesCut.intro (by k_asm) (by k_asm) (or3b (by assumption) (by assumption))
        · exact BytesCut.intro (by k_asm) (by k_asm) (or3c (by assumption) (by assumption) (by assumption))
        · exact BytesCut.intro (by k_asm) (by k_asm) (or3d (by assumption) (by assumption) (by assumption))
      intro t3 h3 tk3 F3 N3
      clear F2 N2
      refine wpG_of (bytes_cut F3 N3 (orB x3 (orB back (orB down [46]))) ?_ ?_)
      · (repeat' (first | (k_unfold; (try dsimp only)) | ((((((((((((((fail_if_success (with_reducible show InvPostN _ _ _ _ _ _ _ _ _)); (fail_if_success (with_reducible show InvEndN _ _ _ _ _ _ _)); (fail_if_success (with_reducible show wpG _ _ _ _ _ _)); (fail_if_success (with_reducible show wpAny _ _ (pyIter (Value.ref _)) _ _ _)))); (fail_if_success (with_reducible show LCg.CompSrc _ _ _ _ _ _ _ _ _ _ _ _ _ _)); (fail_if_success (with_reducible show LCg.CompEnd _ _ _ _ _ _ _ _ _ _ _ _ _ _)))); (fail_if_success (with_reducible show wpAny _ _ (eval (Expr.ListComp _ _ _ _) _) _ _ _)))); (fail_if_success (with_reducible show wpAny _ _ (call (Value.ref _) _) _ _ _)))); (fail_if_success (with_reducible show wpAny _ _ (exec (Stmt.While _ _ _ _) _) _ _ _)); (fail_if_success (with_reducible show WhileStep _ _ _ _ _ _ _)))); (fail_if_success (with_reducible show wpAny _ _ (subscriptTail _ _ (Value.ref _) (Value.int _ _)) _ _ _)); (fail_if_success (with_reducible show wpAny _ _ (call (Value.builtin "list.append") _) _ _ _)))); walk1) | ((((((((((((((fail_if_success (with_reducible show InvPostN _ _ _ _ _ _ _ _ _)); (fail_if_success (with_reducible show InvEndN _ _ _ _ _ _ _)); (fail_if_success (with_reducible show wpG _ _ _ _ _ _)); (fail_if_success (with_reducible show wpAny _ _ (pyIter (Value.ref _)) _ _ _)))); (fail_if_success (with_reducible show LCg.CompSrc _ _ _ _ _ _ _ _ _ _ _ _ _ _)); (fail_if_success (with_reducible show LCg.CompEnd _ _ _ _ _ _ _ _ _ _ _ _ _ _)))); (fail_if_success (with_reducible show wpAny _ _ (eval (Expr.ListComp _ _ _ _) _) _ _ _)))); (fail_if_success (with_reducible show wpAny _ _ (call (Value.ref _) _) _ _ _)))); (fail_if_success (with_reducible show wpAny _ _ (exec (Stmt.While _ _ _ _) _) _ _ _)); (fail_if_success (with_reducible show WhileStep _ _ _ _ _ _ _)))); (fail_if_success (with_reducible show wpAny _ _ (subscriptTail _ _ (Value.ref _) (Value.int _ _)) _ _ _)); (fail_if_success (with_reducible show wpAny _ _ (call (Value.builtin "list.append") _) _ _ _)))); dsimp only; walk1) | ((((((((((((((fail_if_success (with_reducible show InvPostN _ _ _ _ _ _ _ _ _)); (fail_if_success (with_reducible show InvEndN _ _ _ _ _ _ _)); (fail_if_success (with_reducible show wpG _ _ _ _ _ _)); (fail_if_success (with_reducible show wpAny _ _ (pyIter (Value.ref _)) _ _ _)))); (fail_if_success (with_reducible show LCg.CompSrc _ _ _ _ _ _ _ _ _ _ _ _ _ _)); (fail_if_success (with_reducible show LCg.CompEnd _ _ _ _ _ _ _ _ _ _ _ _ _ _)))); (fail_if_success (with_reducible show wpAny _ _ (eval (Expr.ListComp _ _ _ _) _) _ _ _)))); (fail_if_success (with_reducible show wpAny _ _ (call (Value.ref _) _) _ _ _)))); (fail_if_success (with_reducible show wpAny _ _ (exec (Stmt.While _ _ _ _) _) _ _ _)); (fail_if_success (with_reducible show WhileStep _ _ _ _ _ _ _)))); (fail_if_success (with_reducible show wpAny _ _ (subscriptTail _ _ (Value.ref _) (Value.int _ _)) _ _ _)); (fail_if_success (with_reducible show wpAny _ _ (call (Value.builtin "list.append") _) _ _ _)))); leave1; walk_say "STEP leave1"; try dsimp only) | fail "no step"))
        refine item_bl (by walk_at "my:isl") htx (by decide) (by show (3 : Int) < 4; decide) (by show 4 ≤ 1000000; decide) ?_
        intro t9
        (repeat' (first | (k_unfold; (try dsimp only)) | ((((((((((((((fail_if_success (with_reducible show InvPostN _ _ _ _ _ _ _ _ _)); (fail_if_success (with_reducible show InvEndN _ _ _ _ _ _ _)); (fail_if_success (with_reducible show wpG _ _ _ _ _ _)); (fail_if_success (with_reducible show wpAny _ _ (pyIter (Value.ref _)) _ _ _)))); (fail_if_success (with_reducible show LCg.CompSrc _ _ _ _ _ _ _ _ _ _ _ _ _ _)); (fail_if_success (with_reducible show LCg.CompEnd _ _ _ _ _ _ _ _ _ _ _ _ _ _)))); (fail_if_success (with_reducible show wpAny _ _ (eval (Expr.ListComp _ _ _ _) _) _ _ _)))); (fail_if_success (with_reducible show wpAny _ _ (call (Value.ref _) _) _ _ _)))); (fail_if_success (with_reducible show wpAny _ _ (exec (Stmt.While _ _ _ _) _) _ _ _)); (fail_if_success (with_reducible show WhileStep _ _ _ _ _ _ _)))); (fail_if_success (with_reducible show BoolCut _ _ _ _ _ _ _ _)); (fail_if_success (with_reducible show BytesCut _ _ _ _ _ _ _ _)))); (first | (with_reducible (k_here; (with_reducible show wpAny _ _ (truthy (Value.bytes (List.toArray _) _)) _ _ _); (refine truthy_bytesL (by walk_at "my:b_size") ?_); intro _)) | walk1)) | ((((((((((((((fail_if_success (with_reducible show InvPostN _ _ _ _ _ _ _ _ _)); (fail_if_success (with_reducible show InvEndN _ _ _ _ _ _ _)); (fail_if_success (with_reducible show wpG _ _ _ _ _ _)); (fail_if_success (with_reducible show wpAny _ _ (pyIter (Value.ref _)) _ _ _)))); (fail_if_success (with_reducible show LCg.CompSrc _ _ _ _ _ _ _ _ _ _ _ _ _ _)); (fail_if_success (with_reducible show LCg.CompEnd _ _ _ _ _ _ _ _ _ _ _ _ _ _)))); (fail_if_success (with_reducible show wpAny _ _ (eval (Expr.ListComp _ _ _ _) _) _ _ _)))); (fail_if_success (with_reducible show wpAny _ _ (call (Value.ref _) _) _ _ _)))); (fail_if_success (with_reducible show wpAny _ _ (exec (Stmt.While _ _ _ _) _) _ _ _)); (fail_if_success (with_reducible show WhileStep _ _ _ _ _ _ _)))); (fail_if_success (with_reducible show BoolCut _ _ _ _ _ _ _ _)); (fail_if_success (with_reducible show BytesCut _ _ _ _ _ _ _ _)))); dsimp only; (first | (with_reducible (k_here; (with_reducible show wpAny _ _ (truthy (Value.bytes (List.toArray _) _)) _ _ _); (refine truthy_bytesL (by walk_at "my:b_size") ?_); intro _)) | walk1)) | ((((((((((((((fail_if_success (with_reducible show InvPostN _ _ _ _ _ _ _ _ _)); (fail_if_success (with_reducible show InvEndN _ _ _ _ _ _ _)); (fail_if_success (with_reducible show wpG _ _ _ _ _ _)); (fail_if_success (with_reducible show wpAny _ _ (pyIter (Value.ref _)) _ _ _)))); (fail_if_success (with_reducible show LCg.CompSrc _ _ _ _ _ _ _ _ _ _ _ _ _ _)); (fail_if_success (with_reducible show LCg.CompEnd _ _ _ _ _ _ _ _ _ _ _ _ _ _)))); (fail_if_success (with_reducible show wpAny _ _ (eval (Expr.ListComp _ _ _ _) _) _ _ _)))); (fail_if_success (with_reducible show wpAny _ _ (call (Value.ref _) _) _ _ _)))); (fail_if_success (with_reducible show wpAny _ _ (exec (Stmt.While _ _ _ _) _) _ _ _)); (fail_if_success (with_reducible show WhileStep _ _ _ _ _ _ _)))); (fail_if_success (with_reducible show BoolCut _ _ _ _ _ _ _ _)); (fail_if_success (with_reducible show BytesCut _ _ _ _ _ _ _ _)))); leave1; walk_say "STEP leave1"; try dsimp only) | fail "no step"))
        · exact BytesCut.intro (by k_asm) (by k_asm) (or3a (by assumption))
        · exact BytesCut.intro (by k_asm) (by k_asm) (or3b (by assumption) (by assumption))
        · exact BytesCut.intro (by k_asm) (by k_asm) (or3c (by assumption) (by assumption) (by assumption))
        · exact BytesCut.intro (by k_asm) (by k_asm) (or3d (by assumption) (by assumption) (by assumption))
      intro t4 h4 tk4 F4 N4
      clear F3 N3
      (repeat' (first | (k_unfold; (try dsimp only)) | ((((((((((((((fail_if_success (with_reducible show InvPostN _ _ _ _ _ _ _ _ _)); (fail_if_success (with_reducible show InvEndN _ _ _ _ _ _ _)); (fail_if_success (with_reducible show wpG _ _ _ _ _ _)); (fail_if_success (with_reducible show wpAny _ _ (pyIter (Value.ref _)) _ _ _)))); (fail_if_success (with_reducible show LCg.CompSrc _ _ _ _ _ _ _ _ _ _ _ _ _ _)); (fail_if_success (with_reducible show LCg.CompEnd _ _ _ _ _ _ _ _ _ _ _ _ _ _)))); (fail_if_success (with_reducible show wpAny _ _ (eval (Expr.ListComp _ _ _ _) _) _ _ _)))); (fail_if_success (with_reducible show wpAny _ _ (call (Value.ref _) _) _ _ _)))); (fail_if_success (with_reducible show wpAny _ _ (exec (Stmt.While _ _ _ _) _) _ _ _)); (fail_if_success (with_reducible show WhileStep _ _ _ _ _ _ _)))); (fail_if_success (with_reducible show BoolCut _ _ _ _ _ _ _ _)); (fail_if_success (with_reducible show BytesCut _ _ _ _ _ _ _ _)))); walk1) | ((((((((((((((fail_if_success (with_reducible show InvPostN _ _ _ _ _ _ _ _ _)); (fail_if_success (with_reducible show InvEndN _ _ _ _ _ _ _)); (fail_if_success (with_reducible show wpG _ _ _ _ _ _)); (fail_if_success (with_reducible show wpAny _ _ (pyIter (Value.ref _)) _ _ _)))); (fail_if_success (with_reducible show LCg.CompSrc _ _ _ _ _ _ _ _ _ _ _ _ _ _)); (fail_if_success (with_reducible show LCg.CompEnd _ _ _ _ _ _ _ _ _ _ _ _ _ _)))); (fail_if_success (with_reducible show wpAny _ _ (eval (Expr.ListComp _ _ _ _) _) _ _ _)))); (fail_if_success (with_reducible show wpAny _ _ (call (Value.ref _) _) _ _ _)))); (fail_if_success (with_reducible show wpAny _ _ (exec (Stmt.While _ _ _ _) _) _ _ _)); (fail_if_success (with_reducible show WhileStep _ _ _ _ _ _ _)))); (fail_if_success (with_reducible show BoolCut _ _ _ _ _ _ _ _)); (fail_if_success (with_reducible show BytesCut _ _ _ _ _ _ _ _)))); dsimp only; walk1) | ((((((((((((((fail_if_success (with_reducible show InvPostN _ _ _ _ _ _ _ _ _)); (fail_if_success (with_reducible show InvEndN _ _ _ _ _ _ _)); (fail_if_success (with_reducible show wpG _ _ _ _ _ _)); (fail_if_success (with_reducible show wpAny _ _ (pyIter (Value.ref _)) _ _ _)))); (fail_if_success (with_reducible show LCg.CompSrc _ _ _ _ _ _ _ _ _ _ _ _ _ _)); (fail_if_success (with_reducible show LCg.CompEnd _ _ _ _ _ _ _ _ _ _ _ _ _ _)))); (fail_if_success (with_reducible show wpAny _ _ (eval (Expr.ListComp _ _ _ _) _) _ _ _)))); (fail_if_success (with_reducible show wpAny _ _ (call (Value.ref _) _) _ _ _)))); (fail_if_success (with_reducible show wpAny _ _ (exec (Stmt.While _ _ _ _) _) _ _ _)); (fail_if_success (with_reducible show WhileStep _ _ _ _ _ _ _)))); (fail_if_success (with_reducible show BoolCut _ _ _ _ _ _ _ _)); (fail_if_success (with_reducible show BytesCut _ _ _ _ _ _ _ _)))); leave1; walk_say "STEP leave1"; try dsimp only) | fail "no step"))
      have hts : dueL steps front back = [orB (front ++ x0) [46], orB (x1 ++ back) [46], orB x2 (orB front (orB down [46])), orB x3 (orB back (orB down [46]))] := by
        rw [← hxe0, ← hxe1, ← hxe2, ← hxe3, ← hxd]; rfl
      dsimp only
      exact due_end ret hG (by assumption) (by assumption) (by rw [hts]; exact ⟨⟨_, rfl⟩, ⟨_, rfl⟩, ⟨_, rfl⟩, ⟨_, rfl⟩, trivial⟩)
end
section
variable {prog : Program} {w : World} {A : Around} {s : Shared} {env : Env}
theorem iter_blG {h₀ : Heap} {x : Str} {px : Pos} {body : List Stmt} {Q : Flow → Shared → Prop} {m₀ : Str → Option Value} {l : Addr} {vs : List Value} {n₀ : Nat} {bs : List (List UInt8)} {rest : List (Addr × Obj)}
    (hh : A.handled = none) (hx : env.kindOf x = some .local) (hp : (env.scope.kind == .class || (env.scope.kind == .module && env.locals != env.globals)) = false)
    (hl : (l, listOf vs.toArray n₀) ∈ rest) (hv : BytesAre vs bs) (F : Fr h₀ env.locals s.heap m₀) (N : News h₀ env.locals s.heap rest)
    (turn : ∀ (i : Nat) (c : List UInt8) t I oI h tk, bs[i]? = some c → Fr h₀ env.locals h (fun y => if y = x then some (.bytes c.toArray t) else m₀ y) → News h₀ env.locals h ((I, oI) :: rest) →
      wpG (model prog w) A (execs body env) (fun f s₃ => match f with
          | .next | .cont => ∃ h' tk' m', s₃ = { s with heap := h', toks := tk' } ∧ (∀ y, y ≠ x → m' y = m₀ y) ∧ Fr h₀ env.locals h' m' ∧ News h₀ env.locals h' ((I, oI) :: rest)
          | .brk => Q .next s₃
          | .ret v => Q (.ret v) s₃) noE { s with heap := h, toks := tk })
    (done : ∀ (u : Str → Option Value) h tk, Fr h₀ env.locals h (fun y => if y = x then u y else m₀ y) → News h₀ env.locals h rest → Q .next { s with heap := h, toks := tk }) :
    wpAny (model prog w) A (pyIter (.ref l)) (fun it s₂ => codeG (model prog w) A (.forLoop (.Name x px) it body [] env) (fun r s' => match r with | .ok f => Q f s' | .error _ => False) s₂) noE s := by
  have hL : ∀ {g : Heap}, News h₀ env.locals g rest → g.IsList l vs.toArray := fun N' => News.isList N' hl
  refine wpAny_pyIter_list (hL N) ?_
  generalize hI : s.heap.objs.size = I
  have hlt : ∀ q ∈ rest, q.1 < I := fun q hq => hI ▸ Heap.lt_size (N q hq).1
  have hne : l ≠ I := Nat.ne_of_lt (hlt _ hl)
  have W := Walks.list (prog := prog) (w := w) hh I l hne vs.toArray
  rw [List.size_toArray] at W
  have hIL : env.locals ≠ I := fun q => absurd F.ns.lt (by rw [q, hI]; exact Nat.lt_irrefl _)
  have hI0 : h₀.get? I = none := hI ▸ next_is_new F
  refine codeG_forLoop (fun k s' => ∃ i h tk m₁, k = vs.length - i ∧ i ≤ vs.length ∧ s' = { s with heap := h, toks := tk } ∧ (∀ y, y ≠ x → m₁ y = m₀ y) ∧ Fr h₀ env.locals h m₁ ∧ News h₀ env.locals h rest ∧ h.IsListIter I l i) ?_ vs.length ?_
  · rintro k s' ⟨i, h, tk, m₁, rfl, hi, rfl, hJ, F₁, N₁, st⟩
    by_cases hin : i < vs.length
    · refine W.item i _ _ _ hin ⟨st, hL N₁⟩ fun v h' tk' hv' st' kp => ?_
      rw [List.getElem?_toArray] at hv'
      obtain ⟨c, t, hc, rfl⟩ := hv.get hv'
      have F₂ : Fr h₀ env.locals h' m₁ := LCg.fr_but F₁ kp hIL hI0
      have N₂ : News h₀ env.locals h' rest := LCg.news_but N₁ kp fun p hp => Nat.ne_of_lt (hlt p hp)
      refine wpAny_assign_Name (wpAny_storeName_local hx F₂.ns (fun h₂ hn₂ hs₂ => ?_) hp)
      have F₃ : Fr h₀ env.locals h₂ _ := F₂.set hn₂ hs₂
      have N₃ : News h₀ env.locals h₂ rest := fun p hp => ⟨hs₂.extBut _ _ (N₂ p hp).2.1 (N₂ p hp).1, (N₂ p hp).2⟩
      obtain ⟨oI, eI, bk⟩ : ∃ o, h'.get? I = some o ∧ ∀ g : Heap, g.get? I = some o → g.IsListIter I l (i + 1) := by
        obtain ⟨o, e, q⟩ := id st'.1
        exact ⟨o, e, fun g e' => st'.1.at fun o' e'' => by rw [e] at e''; cases e''; exact e'⟩
      have e₃ : h₂.get? I = some oI := hs₂.extBut _ _ (Ne.symm hIL) eI
      have em : (fun y => if y = x then some (Value.bytes c.toArray t) else m₁ y) = (fun y => if y = x then some (Value.bytes c.toArray t) else m₀ y) := by
        funext y
        by_cases h1 : y = x
        · simp [h1]
        · simp only [if_neg h1]; exact hJ y h1
      rw [em] at F₃
      refine wpG_mono (turn i c t I oI h₂ _ hc F₃ (fun p hp => ?_)) (fun f s₃ p => ?_) fun _ _ e => e
      · rcases List.mem_cons.mp hp with rfl | hp
        · exact ⟨e₃, Ne.symm hIL, hI0⟩
        · exact N₃ p hp
      · have go : (∃ h' tk' m', s₃ = { s with heap := h', toks := tk' } ∧ (∀ y, y ≠ x → m' y = m₀ y) ∧ Fr h₀ env.locals h' m' ∧ News h₀ env.locals h' ((I, oI) :: rest)) → ∃ m, m < vs.length - i ∧ ∃ i h tk m₁, m = vs.length - i ∧ i ≤ vs.length ∧ s₃ = { s with heap := h, toks := tk } ∧ (∀ y, y ≠ x → m₁ y = m₀ y) ∧ Fr h₀ env.locals h m₁ ∧ News h₀ env.locals h rest ∧ h.IsListIter I l i := by
          rintro ⟨h', tk', m', e, hJ', F', N'⟩
          exact ⟨vs.length - (i + 1), by omega, i + 1, h', tk', m', rfl, hin, e, hJ', F', fun p hp => N' p (List.mem_cons_of_mem _ hp), bk _ (N' _ List.mem_cons_self).1⟩
        cases f with
        | next => exact go p
        | cont => exact go p
        | brk => exact p
        | ret v => exact p
    · have e : i = vs.length := by omega
      subst e
      refine W.done _ _ _ ⟨st, hL N₁⟩ fun h' tk' kp => ?_
      refine done m₁ h' tk' ?_ (LCg.news_but N₁ kp fun p hp => Nat.ne_of_lt (hlt p hp))
      have em : (fun y => if y = x then m₁ y else m₀ y) = m₁ := by
        funext y
        by_cases h1 : y = x
        · simp [h1]
        · simp only [if_neg h1]; exact (hJ y h1).symm
      rw [em]
      exact LCg.fr_but F₁ kp hIL hI0
  · refine ⟨0, _, _, m₀, by omega, Nat.zero_le _, rfl, fun _ _ => rfl, F.push _, fun p hp => ⟨Heap.get?_push_of_some _ (N p hp).1, (N p hp).2⟩, ?_⟩
    rw [← hI]
    exact ⟨_, Heap.get?_push_size _ rfl, rfl, rfl⟩
end
section
variable {M : Model} {A : Around} {E : Value → Shared → Prop} {s : Shared} {env : Env}
theorem wpG_If {test body orelse pos} {Q : Flow → Shared → Prop}
    (h : wpG M A (isTrue test env (eval test env)) (fun b s₂ => if b then wpG M A (execs body env) Q E s₂ else wpG M A (execs orelse env) Q E s₂) E s) :
    wpG M A (exec (.If test body orelse pos) env) Q E s := by
  rw [exec_If]
  refine wpG_bind (wpG_standAt (wpG_bind (wpG_mono h (fun b s₂ h₂ => ?_) fun _ _ e => e)))
  cases b <;> exact h₂
theorem wpG_isTrue_or {x rest pos whole} {Q : Bool → Shared → Prop}
    (h : wpG M A (isTrue x env (eval x env)) (fun c s' => if c then Q true s' else wpG M A (isTrue (.BoolOp .Or rest pos) env whole) Q E s') E s) :
    wpG M A (isTrue (.BoolOp .Or (x :: rest) pos) env whole) Q E s := by
  show wpG M A (do
    match BoolOp.Or, ← isTrue x env (eval x env) with
    | .And, false => pure false
    | .Or, true => pure true
    | _, _ => allTrue .Or rest env) Q E s
  refine wpG_bind (wpG_mono h (fun c s' h' => ?_) fun _ _ x => x)
  cases c with
  | false => exact h'
  | true => exact wpG_pure h'
theorem wpG_isTrue_Compare1 {l op r pos whole} {Q : Bool → Shared → Prop}
    (h : wpG M A (eval l env) (fun a s₁ => wpAny M A (eval r env) (fun b s₂ => wpAny M A (compareOp op a b) (fun c s₃ => wpAny M A (truthy c) Q E s₃) E s₂) E s₁) E s)
    (hm : behindInMarks op r = false := by with_unfolding_all rfl) : wpG M A (isTrue (.Compare l [op] [r] pos) env whole) Q E s := by
  rw [isTrue_Compare1, markedBehindIn_of_false hm]
  exact wpG_bind (wpG_mono h (fun a s₁ h₁ => wpG_bind (wpG_holding (wpG_of (wpAny_mono h₁ (fun b s₂ h₂ => wpG_bind (wpG_standAt (wpG_bind (wpG_operate (wpG_of (wpAny_mono h₂ (fun c s₃ h₃ => wpG_holding (wpG_of h₃)) fun _ _ e => e)))))) fun _ _ e => e)))) fun _ _ e => e)
theorem wpG_Compare1 {l op r pos} {Q : Value → Shared → Prop}
    (h : wpAny M A (eval l env) (fun a s₁ => wpG M A (eval r env) (fun b s₂ => wpAny M A (compareOp op a b) Q E s₂) E s₁) E s)
    (hm : behindInMarks op r = false := by with_unfolding_all rfl) : wpG M A (eval (.Compare l [op] [r] pos) env) Q E s := by
  rw [eval_Compare1, markedBehindIn_of_false hm]
  exact wpG_bindA (wpAny_mono h (fun a s₁ h₁ => wpG_bind (wpG_holding (wpG_mono h₁ (fun b s₂ h₂ => wpG_bind (wpG_standAt (wpG_operate (wpG_of h₂)))) fun _ _ e => e))) fun _ _ e => e)
theorem wpG_call3 {P : Heap → Prop} {pos : Pos} {f : Value} {e1 e2 e3 : Expr} {Q : Value → Shared → Prop}
    (hk : ∀ h, P h → ∃ k, (k = Keeper.frame ∨ k = Keeper.machine ∨ k = Keeper.boundFrame) ∧ Looks M h (keeperOf f) k)
    (h : wpG M A (eval e1 env) (fun v s₁ => wpG M A (eval e2 env) (fun v2 s₂ => wpG M A (eval e3 env) (fun v3 s₃ => P s₃.heap ∧ wpG M A (call f [v, v2, v3]) Q E s₃) E s₂) E s₁) E s)
    (he : starEach [e1, e2, e3] env = [(false, eval e1 env), (false, eval e2 env), (false, eval e3 env)] := by rfl) : wpG M A (callWith pos f [] (backTo pos (starEach [e1, e2, e3] env)) []) Q E s := by
  rw [he]
  refine wpG_callWith rfl hk (wpG_evalArgs (wpG_spliced_cons (wpG_mono h (fun v s₁ h₁ => wpG_spliced_cons (wpG_mono h₁ (fun v2 s₂ h₂ => wpG_spliced_cons (wpG_mono h₂ (fun v3 s₃ h₃ => wpG_spliced_nil h₃) fun _ _ e => e)) fun _ _ e => e)) fun _ _ e => e)))
end
section
variable {prog : Program} {w : World} {A : Around} {h₀ : Heap} {L : Addr} {m : Str → Option Value} {env : Env} {ct elt : Expr} {x : Str} {scope : Scope} {cl : List (Str × Addr)} {s : Shared} {S : List (Addr × Obj) → Prop} {Fin : List Value → List (Addr × Obj) → Prop} {news : List (Addr × Obj)}
theorem crT_rest {vs : List Value} {bs : List (List UInt8)} (keep : List UInt8 → Bool) (hv : BytesAre vs bs)
    (turn : ∀ c t I oI C oC D m₂ ys h tk (E' : Value → Shared → Prop), c ∈ bs → LCg.NsObj oC m₂ → m₂ x = some (.bytes c.toArray t) → Fr h₀ L h m → News h₀ L h ((I, oI) :: (C, oC) :: (D, LCg.lst ys) :: news) → LCg.Off3 I C D news → ((@Ne Nat I C) ∧ (@Ne Nat I D) ∧ (@Ne Nat C D)) →
      wpAny (model prog w) A (isTrue ct (compEnvC scope cl C env) (eval ct (compEnvC scope cl C env))) (fun ok s' => if ok = true then
        wpAny (model prog w) A (eval elt (compEnvC scope cl C env)) (LCg.CompEnd h₀ L m { s with heap := h, toks := tk } I oI C oC D (LCg.lst ys) S (fun y news' => news' = news ∧ keep c = true ∧ ∃ t', y = .bytes c.toArray t')) E' s'
        else LCg.CompEnd h₀ L m { s with heap := h, toks := tk } I oI C oC D (LCg.lst ys) S (fun _ news' => news' = news ∧ keep c = false) Value.none s') E' { s with heap := h, toks := tk })
    (fin : ∀ ys, BytesAre ys (bs.filter keep) → Fin ys news) : LCt.CompRestT prog w A h₀ L m env ct elt x scope cl s S (fun i v => vs.toArray[i]? = some v) Fin vs.toArray.size 0 [] news := by
  have key : ∀ (j i : Nat) (ys : List Value), i + j = bs.length → BytesAre ys ((bs.take i).filter keep) → LCt.CompRestT prog w A h₀ L m env ct elt x scope cl s S (fun i v => vs.toArray[i]? = some v) Fin j i ys news := by
    intro j
    induction j with
    | zero =>
      intro i ys hi hy
      rw [List.take_of_length_le (by omega)] at hy
      exact LCt.CompRestT.zero (fin ys hy)
    | succ j ih =>
      intro i ys hi hy
      refine LCt.CompRestT.succ ?_
      intro v I oI C oC D m₂ h tk E' hvi hC hx F N off ne
      rw [List.getElem?_toArray] at hvi
      obtain ⟨c, t, hc, rfl⟩ := hv.get hvi
      have hstep : bs.take (i + 1) = bs.take i ++ [c] := by rw [List.take_add_one, hc]; rfl
      refine wpAny_mono (turn c t I oI C oC D m₂ ys h tk E' (List.mem_of_getElem? hc) hC hx F N off ne) (fun ok s' hq => ?_) fun _ _ e => e
      cases ok with
      | true =>
        rw [if_pos rfl] at hq ⊢
        refine wpAny_mono hq (fun y s₂ hq => ?_) fun _ _ e => e
        obtain ⟨h', tk', nw, e, F', N', off', hS, hn, hk, t', hy'⟩ := hq
        rw [hn] at N' off' hS
        refine ⟨h', tk', news, e, F', N', off', hS, ih (i + 1) _ (by omega) ?_⟩
        rw [hstep, List.filter_append, List.filter_cons, if_pos hk, List.filter_nil, hy']
        exact hy.append ⟨⟨t', rfl⟩, trivial⟩
      | false =>
        rw [if_neg (by simp)] at hq ⊢
        obtain ⟨h', tk', nw, e, F', N', off', hS, hn, hk⟩ := hq
        rw [hn] at N' off' hS
        refine ⟨h', tk', news, e, F', N', off', hS, ih (i + 1) _ (by omega) ?_⟩
        rw [hstep, List.filter_append, List.filter_cons, if_neg (by simp [hk]), List.filter_nil, List.append_nil]
        exact hy
  have e : vs.toArray.size = bs.length := by rw [List.size_toArray, hv.length]
  rw [e]
  exact key _ 0 [] (by omega) trivial
end
theorem news_14 {h₀ h : Heap} {L : Addr} {p q r u : Addr × Obj} (N : News h₀ L h [p, q, r, u]) : News h₀ L h [p, u] := fun x hx => by
  rcases List.mem_cons.mp hx with rfl | hx
  · exact N _ (.head _)
  · exact N x (.tail _ (.tail _ (.tail _ hx)))
section
variable {M : Model} {A : Around} {E : Value → Shared → Prop} {s : Shared} {env : Env}
theorem wpG_isTrue_or_nil {pos whole} {Q : Bool → Shared → Prop} (h : Q false s) : wpG M A (isTrue (.BoolOp .Or [] pos) env whole) Q E s := by
  show wpG M A (pure false) Q E s
  exact wpG_pure h
end
theorem keep_yes {c : List UInt8} (h : c ∉ [([] : List UInt8), [46]]) : (!skips c) = true := by
  simpa [skips] using h
theorem keep_no {c : List UInt8} (h : ¬ c ∉ [([] : List UInt8), [46]]) : (!skips c) = false := by
  simpa [skips] using h
theorem lawRoot_len (bs : List (List UInt8)) : (lawRoot bs).length ≤ 2 := by
  unfold lawRoot
  split
  · simp
  · split <;> simp
theorem law1 : PySem.Challenge.rw_nq0013_01.Holds := by
  w_top off
  refine hd ?_
  k_fill
  intro w s₀ s₁ mg mb G Y fa o pm cd doc dV kV ho hdd hcd hD hmg hg args vals as hpre hlay hrd hwl hlo
  have KX := kIn_of Y
  refine Ground.open G ?_
  intro T B D TE TW
  wrow_args hpre hlay hrd hwl hlo
  rename List Int => scr
  have post : ∀ (L : Addr) (m : Str → Option Value) (h : Heap) (tk : Nat), Fr s₁.heap L h m → GoodWG Challenge.rw_nq0013_01.row.claim (classAt s₀.heap) (ExcName.means s₀.heap) [ofPy (PySem.PyData.list (scr.map PySem.PyData.int))] s₁ (Except.ok (Flow.ret (Value.bool true))) { heap := h, gens := s₁.gens, drawn := s₁.drawn, toks := tk, os := s₁.os } := by
    intro L m h tk Fc
    refine GoodW.toG (goodW_bool Fc hg (raisesW_false ?_) ?_)
    · wrow_none_raised
    · wrow_post
  refine wpG_call ?_
  have K0 := below_caller (Top.heap T)
  have he := Dflts.none hD rfl
  subst he
  have he := Dflts.noKw hD
  subst he
  refine call_cellsG (by decide) ho (fd_plain hdd) (Top.nolimit T) hcd rfl (kinds_of (by kinds_ok)) (by decide) fun h₁ tk₁ cells F N0 X0 => ?_
  cells_open X0
  (with_reducible rename IntsAre _ _ => hIn)
  have ⟨⟨⟨hm1, hm2⟩, hm3, hm4⟩, hm5, hm6⟩ := fm8 hIn
  refine wpG_execs_cons (wpG_of ?_)
  (repeat' (first | (k_unfold; (try dsimp only)) | ((((fail_if_success (with_reducible show InvPostN _ _ _ _ _ _ _ _ _)); (fail_if_success (with_reducible show InvEndN _ _ _ _ _ _ _)); (fail_if_success (with_reducible show wpG _ _ _ _ _ _)); (fail_if_success (with_reducible show wpAny _ _ (pyIter (Value.ref _)) _ _ _)))); walk1) | ((((fail_if_success (with_reducible show InvPostN _ _ _ _ _ _ _ _ _)); (fail_if_success (with_reducible show InvEndN _ _ _ _ _ _ _)); (fail_if_success (with_reducible show wpG _ _ _ _ _ _)); (fail_if_success (with_reducible show wpAny _ _ (pyIter (Value.ref _)) _ _ _)))); dsimp only; walk1) | (leave1; walk_say "STEP leave1"; try dsimp only) | fail "no step"))
  (try dsimp only)
  with_reducible refine wpG_execs_cons ?_
  with_reducible refine wpG_of ?_
  (repeat' (first | (k_unfold; (try dsimp only)) | ((((fail_if_success (with_reducible show InvPostN _ _ _ _ _ _ _ _ _)); (fail_if_success (with_reducible show InvEndN _ _ _ _ _ _ _)); (fail_if_success (with_reducible show wpG _ _ _ _ _ _)); (fail_if_success (with_reducible show wpAny _ _ (pyIter (Value.ref _)) _ _ _)))); walk1) | ((((fail_if_success (with_reducible show InvPostN _ _ _ _ _ _ _ _ _)); (fail_if_success (with_reducible show InvEndN _ _ _ _ _ _ _)); (fail_if_success (with_reducible show wpG _ _ _ _ _ _)); (fail_if_success (with_reducible show wpAny _ _ (pyIter (Value.ref _)) _ _ _)))); dsimp only; walk1) | (leave1; walk_say "STEP leave1"; try dsimp only) | fail "no step"))
  (try dsimp only)
  with_reducible refine wpG_execs_cons ?_
  with_reducible refine wpG_of ?_
  refine LCg.Assign_ListComp_U (F₀ := by k_asm) (by rfl) (by with_unfolding_all rfl) (by with_unfolding_all rfl) (by decide) (by rfl) (by decide) (by rfl) (by rfl) (by rfl) ?_
  (repeat' (first | (k_unfold; (try dsimp only)) | ((((((fail_if_success (with_reducible show InvPostN _ _ _ _ _ _ _ _ _)); (fail_if_success (with_reducible show InvEndN _ _ _ _ _ _ _)); (fail_if_success (with_reducible show wpG _ _ _ _ _ _)); (fail_if_success (with_reducible show wpAny _ _ (pyIter (Value.ref _)) _ _ _)))); (fail_if_success (with_reducible show LCg.CompSrc _ _ _ _ _ _ _ _ _ _ _ _ _ _)); (fail_if_success (with_reducible show LCg.CompEnd _ _ _ _ _ _ _ _ _ _ _ _ _ _)))); walk1) | ((((((fail_if_success (with_reducible show InvPostN _ _ _ _ _ _ _ _ _)); (fail_if_success (with_reducible show InvEndN _ _ _ _ _ _ _)); (fail_if_success (with_reducible show wpG _ _ _ _ _ _)); (fail_if_success (with_reducible show wpAny _ _ (pyIter (Value.ref _)) _ _ _)))); (fail_if_success (with_reducible show LCg.CompSrc _ _ _ _ _ _ _ _ _ _ _ _ _ _)); (fail_if_success (with_reducible show LCg.CompEnd _ _ _ _ _ _ _ _ _ _ _ _ _ _)))); dsimp only; walk1) | ((((((fail_if_success (with_reducible show InvPostN _ _ _ _ _ _ _ _ _)); (fail_if_success (with_reducible show InvEndN _ _ _ _ _ _ _)); (fail_if_success (with_reducible show wpG _ _ _ _ _ _)); (fail_if_success (with_reducible show wpAny _ _ (pyIter (Value.ref _)) _ _ _)))); (fail_if_success (with_reducible show LCg.CompSrc _ _ _ _ _ _ _ _ _ _ _ _ _ _)); (fail_if_success (with_reducible show LCg.CompEnd _ _ _ _ _ _ _ _ _ _ _ _ _ _)))); leave1; walk_say "STEP leave1"; try dsimp only) | fail "no step"))
  rename IsRange _ _ _ _ _ _ _ _ => hr1
  rename Fr _ _ _ _ => F1
  rename News _ _ _ _ => N1
  refine LCg.CompSrc.range rfl F1 N1 hr1 (by decide) (n := 12) (by rfl) (by rw [sizeLine_eq]; decide) fun g => cr_rest (fun i y => ∃ b t, (∃ x : Int, 0 ≤ x ∧ x < 20 ∧ b = partB (i : Int) x) ∧ y = .bytes b.toArray t) ?_ ?_
  · intro i v I oI C oC D m₂ ys h tk E' hi hv hC hx Fc Nc off ne
    obtain ⟨t, rfl⟩ := hv
    clear F1 N1 hr1
    (try dsimp only)
    (repeat' (first | (k_unfold; (try dsimp only)) | ((((((((((fail_if_success (with_reducible show InvPostN _ _ _ _ _ _ _ _ _)); (fail_if_success (with_reducible show InvEndN _ _ _ _ _ _ _)); (fail_if_success (with_reducible show wpG _ _ _ _ _ _)); (fail_if_success (with_reducible show wpAny _ _ (pyIter (Value.ref _)) _ _ _)))); (fail_if_success (with_reducible show LCg.CompSrc _ _ _ _ _ _ _ _ _ _ _ _ _ _)); (fail_if_success (with_reducible show LCg.CompEnd _ _ _ _ _ _ _ _ _ _ _ _ _ _)))); (fail_if_success (with_reducible show wpAny _ _ (eval (Expr.ListComp _ _ _ _) _) _ _ _)))); (fail_if_success (with_reducible show wpAny _ _ (call (Value.ref _) _) _ _ _)))); (first | (with_reducible (k_here; (with_reducible show wpAny _ _ (subscriptTail _ (Expr.Slice (some _) none (some _) _) (Value.ref _) (Value.ref _)) _ _ _); k_dflt (refine' slice_ints (s := ⟨_, _, _, _, _⟩) ?q9F ?q9N ?q9l ?q9v ?q9a ?q9b ?q9c ?q9d ?q9z ?_; (case q9F => k_asm); (case q9N => k_asm); (case q9l => walk_at "my:isl"); (case q9v => assumption); (case q9a => constructor); (case q9b => constructor); (case q9c => constructor); (case q9d => decide); (case q9z => omega); k_whole); intro D9 ws9 ms9 h9 ia9 F9 N9 l9; (try k_lt l9))) | walk1)) | ((((((((((fail_if_success (with_reducible show InvPostN _ _ _ _ _ _ _ _ _)); (fail_if_success (with_reducible show InvEndN _ _ _ _ _ _ _)); (fail_if_success (with_reducible show wpG _ _ _ _ _ _)); (fail_if_success (with_reducible show wpAny _ _ (pyIter (Value.ref _)) _ _ _)))); (fail_if_success (with_reducible show LCg.CompSrc _ _ _ _ _ _ _ _ _ _ _ _ _ _)); (fail_if_success (with_reducible show LCg.CompEnd _ _ _ _ _ _ _ _ _ _ _ _ _ _)))); (fail_if_success (with_reducible show wpAny _ _ (eval (Expr.ListComp _ _ _ _) _) _ _ _)))); (fail_if_success (with_reducible show wpAny _ _ (call (Value.ref _) _) _ _ _)))); dsimp only; (first | (with_reducible (k_here; (with_reducible show wpAny _ _ (subscriptTail _ (Expr.Slice (some _) none (some _) _) (Value.ref _) (Value.ref _)) _ _ _); k_dflt (refine' slice_ints (s := ⟨_, _, _, _, _⟩) ?q9F ?q9N ?q9l ?q9v ?q9a ?q9b ?q9c ?q9d ?q9z ?_; (case q9F => k_asm); (case q9N => k_asm); (case q9l => walk_at "my:isl"); (case q9v => assumption); (case q9a => constructor); (case q9b => constructor); (case q9c => constructor); (case q9d => decide); (case q9z => omega); k_whole); intro D9 ws9 ms9 h9 ia9 F9 N9 l9; (try k_lt l9))) | walk1)) | ((((((((((fail_if_success (with_reducible show InvPostN _ _ _ _ _ _ _ _ _)); (fail_if_success (with_reducible show InvEndN _ _ _ _ _ _ _)); (fail_if_success (with_reducible show wpG _ _ _ _ _ _)); (fail_if_success (with_reducible show wpAny _ _ (pyIter (Value.ref _)) _ _ _)))); (fail_if_success (with_reducible show LCg.CompSrc _ _ _ _ _ _ _ _ _ _ _ _ _ _)); (fail_if_success (with_reducible show LCg.CompEnd _ _ _ _ _ _ _ _ _ _ _ _ _ _)))); (fail_if_success (with_reducible show wpAny _ _ (eval (Expr.ListComp _ _ _ _) _) _ _ _)))); (fail_if_success (with_reducible show wpAny _ _ (call (Value.ref _) _) _ _ _)))); leave1; walk_say "STEP leave1"; try dsimp only) | fail "no step"))
    rename Fr _ _ _ _ => kF9
    rename News _ _ _ _ => kN9
    refine part_call (by k_asm) (by k_asm) (by k_asm) (by k_asm) rfl (by ktr_room) (by ktr_units) (by omega) (by omega) (fmod_lo _ (by decide)) (fmod_hi _ (by decide)) ?_
    intro t9 h9 tk9 keep9
    have F2 := Fr.keeps kF9 keep9
    have N2 := News.grown kN9 keep9
    clear keep9 kF9 kN9
    (try dsimp only)
    (repeat' (first | (k_unfold; (try dsimp only)) | ((((((((((fail_if_success (with_reducible show InvPostN _ _ _ _ _ _ _ _ _)); (fail_if_success (with_reducible show InvEndN _ _ _ _ _ _ _)); (fail_if_success (with_reducible show wpG _ _ _ _ _ _)); (fail_if_success (with_reducible show wpAny _ _ (pyIter (Value.ref _)) _ _ _)))); (fail_if_success (with_reducible show LCg.CompSrc _ _ _ _ _ _ _ _ _ _ _ _ _ _)); (fail_if_success (with_reducible show LCg.CompEnd _ _ _ _ _ _ _ _ _ _ _ _ _ _)))); (fail_if_success (with_reducible show wpAny _ _ (eval (Expr.ListComp _ _ _ _) _) _ _ _)))); (fail_if_success (with_reducible show wpAny _ _ (call (Value.ref _) _) _ _ _)))); walk1) | ((((((((((fail_if_success (with_reducible show InvPostN _ _ _ _ _ _ _ _ _)); (fail_if_success (with_reducible show InvEndN _ _ _ _ _ _ _)); (fail_if_success (with_reducible show wpG _ _ _ _ _ _)); (fail_if_success (with_reducible show wpAny _ _ (pyIter (Value.ref _)) _ _ _)))); (fail_if_success (with_reducible show LCg.CompSrc _ _ _ _ _ _ _ _ _ _ _ _ _ _)); (fail_if_success (with_reducible show LCg.CompEnd _ _ _ _ _ _ _ _ _ _ _ _ _ _)))); (fail_if_success (with_reducible show wpAny _ _ (eval (Expr.ListComp _ _ _ _) _) _ _ _)))); (fail_if_success (with_reducible show wpAny _ _ (call (Value.ref _) _) _ _ _)))); dsimp only; walk1) | ((((((((((fail_if_success (with_reducible show InvPostN _ _ _ _ _ _ _ _ _)); (fail_if_success (with_reducible show InvEndN _ _ _ _ _ _ _)); (fail_if_success (with_reducible show wpG _ _ _ _ _ _)); (fail_if_success (with_reducible show wpAny _ _ (pyIter (Value.ref _)) _ _ _)))); (fail_if_success (with_reducible show LCg.CompSrc _ _ _ _ _ _ _ _ _ _ _ _ _ _)); (fail_if_success (with_reducible show LCg.CompEnd _ _ _ _ _ _ _ _ _ _ _ _ _ _)))); (fail_if_success (with_reducible show wpAny _ _ (eval (Expr.ListComp _ _ _ _) _) _ _ _)))); (fail_if_success (with_reducible show wpAny _ _ (call (Value.ref _) _) _ _ _)))); leave1; walk_say "STEP leave1"; try dsimp only) | fail "no step"))
    exact LCg.CompEnd.intro F2 N2 _ (fun p hp => List.mem_cons_of_mem _ hp) off trivial ⟨rfl, _, _, ⟨_, fmod_lo _ (by decide), fmod_hi _ (by decide), by rw [Int.zero_add]⟩, rfl⟩
  clear F1 N1 hr1
  intro ys7 hlen7 hy7 D3 h3 tk3 F3 N3 o3
  obtain ⟨ring, hring, hR⟩ := bytes_of _ hy7
  clear hy7
  have hrl : ring.length = 12 := by rw [← hring.length]; exact hlen7
  simp only [LCg.Off1, and_true] at o3
  (try dsimp only)
  with_reducible refine wpG_execs_cons ?_
  with_reducible refine wpG_of ?_
  (repeat' (first | (k_unfold; (try dsimp only)) | ((((((fail_if_success (with_reducible show InvPostN _ _ _ _ _ _ _ _ _)); (fail_if_success (with_reducible show InvEndN _ _ _ _ _ _ _)); (fail_if_success (with_reducible show wpG _ _ _ _ _ _)); (fail_if_success (with_reducible show wpAny _ _ (pyIter (Value.ref _)) _ _ _)))); (fail_if_success (with_reducible show LCg.CompSrc _ _ _ _ _ _ _ _ _ _ _ _ _ _)); (fail_if_success (with_reducible show LCg.CompEnd _ _ _ _ _ _ _ _ _ _ _ _ _ _)))); (first | (with_reducible (k_here; (with_reducible show wpAny _ _ (binaryOp Operator.Mult (Value.ref _) (Value.int _ _)) _ _ _); k_dflt (refine' mul_bl ?q9F ?q9N ?q9l ?q9v ?q9a ?q9b ?q9z ?_; (case q9F => k_asm); (case q9N => k_asm); (case q9l => walk_at "my:isl"); (case q9v => walk_at "my:bytes"); (case q9a => walk_at "my:idx"); (case q9b => walk_at "my:idx"); (case q9z => (simp only [List.length_cons, List.length_nil]; walk_at "my:idx")); k_whole); intro D9 ws9 h9 ba9 F9 N9 l9; (try k_lt l9))) | (with_reducible (k_here; (with_reducible show wpAny _ _ (binaryOp Operator.Add (Value.ref _) (Value.ref _)) _ _ _); k_dflt (refine' add_bl ?q9F ?q9N ?q9l ?q9l2 ?q9v ?q9v2 ?q9z ?_; (case q9F => k_asm); (case q9N => k_asm); (case q9l => walk_at "my:isl"); (case q9l2 => walk_at "my:isl"); (case q9v => walk_at "my:bytes"); (case q9v2 => walk_at "my:bytes"); (case q9z => walk_at "my:len"); k_whole); intro D9 ws9 h9 ba9 F9 N9 l9; (try k_lt l9))) | walk1)) | ((((((fail_if_success (with_reducible show InvPostN _ _ _ _ _ _ _ _ _)); (fail_if_success (with_reducible show InvEndN _ _ _ _ _ _ _)); (fail_if_success (with_reducible show wpG _ _ _ _ _ _)); (fail_if_success (with_reducible show wpAny _ _ (pyIter (Value.ref _)) _ _ _)))); (fail_if_success (with_reducible show LCg.CompSrc _ _ _ _ _ _ _ _ _ _ _ _ _ _)); (fail_if_success (with_reducible show LCg.CompEnd _ _ _ _ _ _ _ _ _ _ _ _ _ _)))); dsimp only; (first | (with_reducible (k_here; (with_reducible show wpAny _ _ (binaryOp Operator.Mult (Value.ref _) (Value.int _ _)) _ _ _); k_dflt (refine' mul_bl ?q9F ?q9N ?q9l ?q9v ?q9a ?q9b ?q9z ?_; (case q9F => k_asm); (case q9N => k_asm); (case q9l => walk_at "my:isl"); (case q9v => walk_at "my:bytes"); (case q9a => walk_at "my:idx"); (case q9b => walk_at "my:idx"); (case q9z => (simp only [List.length_cons, List.length_nil]; walk_at "my:idx")); k_whole); intro D9 ws9 h9 ba9 F9 N9 l9; (try k_lt l9))) | (with_reducible (k_here; (with_reducible show wpAny _ _ (binaryOp Operator.Add (Value.ref _) (Value.ref _)) _ _ _); k_dflt (refine' add_bl ?q9F ?q9N ?q9l ?q9l2 ?q9v ?q9v2 ?q9z ?_; (case q9F => k_asm); (case q9N => k_asm); (case q9l => walk_at "my:isl"); (case q9l2 => walk_at "my:isl"); (case q9v => walk_at "my:bytes"); (case q9v2 => walk_at "my:bytes"); (case q9z => walk_at "my:len"); k_whole); intro D9 ws9 h9 ba9 F9 N9 l9; (try k_lt l9))) | walk1)) | ((((((fail_if_success (with_reducible show InvPostN _ _ _ _ _ _ _ _ _)); (fail_if_success (with_reducible show InvEndN _ _ _ _ _ _ _)); (fail_if_success (with_reducible show wpG _ _ _ _ _ _)); (fail_if_success (with_reducible show wpAny _ _ (pyIter (Value.ref _)) _ _ _)))); (fail_if_success (with_reducible show LCg.CompSrc _ _ _ _ _ _ _ _ _ _ _ _ _ _)); (fail_if_success (with_reducible show LCg.CompEnd _ _ _ _ _ _ _ _ _ _ _ _ _ _)))); leave1; walk_say "STEP leave1"; try dsimp only) | fail "no step"))
  (with_reducible rename BytesAre _ (_ ++ _ ++ _) => hpsX)
  obtain ⟨ps, hps, h47, h4, h18, hq3, hj, hj11, hsl, hsq⟩ := parts_get hpsX (fun q hq => empt_mem hq) (fun q hq => empt_mem hq) hm5 hm6 hrl hR
  clear hpsX hm1 hm2 hm3 hm4 hm5 hm6 hR hrl hring
  (with_reducible rename News _ _ _ _ => Nall)
  have Nps := news_one Nall (.head _)
  clear Nall
  have hj' : (joinL [47] ps).length ≤ 16777216 := by omega
  (try dsimp only)
  with_reducible refine wpG_execs_cons ?_
  with_reducible refine wpG_of ?_
  (repeat' (first | (k_unfold; (try dsimp only)) | ((((((fail_if_success (with_reducible show InvPostN _ _ _ _ _ _ _ _ _)); (fail_if_success (with_reducible show InvEndN _ _ _ _ _ _ _)); (fail_if_success (with_reducible show wpG _ _ _ _ _ _)); (fail_if_success (with_reducible show wpAny _ _ (pyIter (Value.ref _)) _ _ _)))); (fail_if_success (with_reducible show LCg.CompSrc _ _ _ _ _ _ _ _ _ _ _ _ _ _)); (fail_if_success (with_reducible show LCg.CompEnd _ _ _ _ _ _ _ _ _ _ _ _ _ _)))); (first | (with_reducible ((with_reducible show wpAny _ _ (getMethod (Value.bytes _ _) _ _) _ _ _); (k_here; (with_reducible refine method_join ?_)))) | (with_reducible ((with_reducible show wpAny _ _ (call (Value.builtin "bytes.join") _) _ _ _); (k_here; k_dflt (refine' join_K (by exact News.isList (by k_asm) (by k_mem)) (by assumption) (by first | assumption | walk_at "my:b_size") ?_; k_whole); intro t9 tk9))) | walk1)) | ((((((fail_if_success (with_reducible show InvPostN _ _ _ _ _ _ _ _ _)); (fail_if_success (with_reducible show InvEndN _ _ _ _ _ _ _)); (fail_if_success (with_reducible show wpG _ _ _ _ _ _)); (fail_if_success (with_reducible show wpAny _ _ (pyIter (Value.ref _)) _ _ _)))); (fail_if_success (with_reducible show LCg.CompSrc _ _ _ _ _ _ _ _ _ _ _ _ _ _)); (fail_if_success (with_reducible show LCg.CompEnd _ _ _ _ _ _ _ _ _ _ _ _ _ _)))); dsimp only; (first | (with_reducible ((with_reducible show wpAny _ _ (getMethod (Value.bytes _ _) _ _) _ _ _); (k_here; (with_reducible refine method_join ?_)))) | (with_reducible ((with_reducible show wpAny _ _ (call (Value.builtin "bytes.join") _) _ _ _); (k_here; k_dflt (refine' join_K (by exact News.isList (by k_asm) (by k_mem)) (by assumption) (by first | assumption | walk_at "my:b_size") ?_; k_whole); intro t9 tk9))) | walk1)) | ((((((fail_if_success (with_reducible show InvPostN _ _ _ _ _ _ _ _ _)); (fail_if_success (with_reducible show InvEndN _ _ _ _ _ _ _)); (fail_if_success (with_reducible show wpG _ _ _ _ _ _)); (fail_if_success (with_reducible show wpAny _ _ (pyIter (Value.ref _)) _ _ _)))); (fail_if_success (with_reducible show LCg.CompSrc _ _ _ _ _ _ _ _ _ _ _ _ _ _)); (fail_if_success (with_reducible show LCg.CompEnd _ _ _ _ _ _ _ _ _ _ _ _ _ _)))); leave1; walk_say "STEP leave1"; try dsimp only) | fail "no step"))
  have hne : joinL [47] ps ≠ [] := by intro e; rw [e] at hj11; simp at hj11
  generalize hpath : joinL [47] ps = path at *
  (try dsimp only)
  with_reducible refine wpG_execs_cons ?_
  refine wpG_Assign_Name ?_
  refine wpG_pair ?_
  obtain ⟨T0, T1, T2, T3, e0, e1, e2, e3, e4, e5, e6, e7, hT, ⟨z0, z1, z2, z3⟩, n0, n1, n2, n3⟩ := law1_T h47 h4 hpath hj
  with_reducible refine wpG_of ?_
  (repeat' (first | (k_unfold; (try dsimp only)) | ((((((((((fail_if_success (with_reducible show InvPostN _ _ _ _ _ _ _ _ _)); (fail_if_success (with_reducible show InvEndN _ _ _ _ _ _ _)); (fail_if_success (with_reducible show wpG _ _ _ _ _ _)); (fail_if_success (with_reducible show wpAny _ _ (pyIter (Value.ref _)) _ _ _)))); (fail_if_success (with_reducible show LCg.CompSrc _ _ _ _ _ _ _ _ _ _ _ _ _ _)); (fail_if_success (with_reducible show LCg.CompEnd _ _ _ _ _ _ _ _ _ _ _ _ _ _)))); (fail_if_success (with_reducible show wpAny _ _ (eval (Expr.ListComp _ _ _ _) _) _ _ _)))); (fail_if_success (with_reducible show wpAny _ _ (call (Value.ref _) _) _ _ _)))); walk1) | ((((((((((fail_if_success (with_reducible show InvPostN _ _ _ _ _ _ _ _ _)); (fail_if_success (with_reducible show InvEndN _ _ _ _ _ _ _)); (fail_if_success (with_reducible show wpG _ _ _ _ _ _)); (fail_if_success (with_reducible show wpAny _ _ (pyIter (Value.ref _)) _ _ _)))); (fail_if_success (with_reducible show LCg.CompSrc _ _ _ _ _ _ _ _ _ _ _ _ _ _)); (fail_if_success (with_reducible show LCg.CompEnd _ _ _ _ _ _ _ _ _ _ _ _ _ _)))); (fail_if_success (with_reducible show wpAny _ _ (eval (Expr.ListComp _ _ _ _) _) _ _ _)))); (fail_if_success (with_reducible show wpAny _ _ (call (Value.ref _) _) _ _ _)))); dsimp only; walk1) | ((((((((((fail_if_success (with_reducible show InvPostN _ _ _ _ _ _ _ _ _)); (fail_if_success (with_reducible show InvEndN _ _ _ _ _ _ _)); (fail_if_success (with_reducible show wpG _ _ _ _ _ _)); (fail_if_success (with_reducible show wpAny _ _ (pyIter (Value.ref _)) _ _ _)))); (fail_if_success (with_reducible show LCg.CompSrc _ _ _ _ _ _ _ _ _ _ _ _ _ _)); (fail_if_success (with_reducible show LCg.CompEnd _ _ _ _ _ _ _ _ _ _ _ _ _ _)))); (fail_if_success (with_reducible show wpAny _ _ (eval (Expr.ListComp _ _ _ _) _) _ _ _)))); (fail_if_success (with_reducible show wpAny _ _ (call (Value.ref _) _) _ _ _)))); leave1; walk_say "STEP leave1"; try dsimp only) | fail "no step"))
  rename Fr _ _ _ _ => Fa
  rename News _ _ _ _ => Na
  refine normpath_call (by k_asm) (by k_asm) (by k_asm) (by k_asm) rfl (by ktr_room) (by ktr_units) (by omega) ?_
  intro ta ha tka keepa
  have Fb := Fr.keeps Fa keepa
  have Nb := News.grown Na keepa
  clear keepa Fa Na
  (try dsimp only)
  rw [e0]
  refine wpG_Call_Name ?_
  (repeat' (first | (k_unfold; (try dsimp only)) | ((((((fail_if_success (with_reducible show InvPostN _ _ _ _ _ _ _ _ _)); (fail_if_success (with_reducible show InvEndN _ _ _ _ _ _ _)); (fail_if_success (with_reducible show wpG _ _ _ _ _ _)); (fail_if_success (with_reducible show wpAny _ _ (pyIter (Value.ref _)) _ _ _)))); (fail_if_success (with_reducible show LCg.CompSrc _ _ _ _ _ _ _ _ _ _ _ _ _ _)); (fail_if_success (with_reducible show LCg.CompEnd _ _ _ _ _ _ _ _ _ _ _ _ _ _)))); walk1) | ((((((fail_if_success (with_reducible show InvPostN _ _ _ _ _ _ _ _ _)); (fail_if_success (with_reducible show InvEndN _ _ _ _ _ _ _)); (fail_if_success (with_reducible show wpG _ _ _ _ _ _)); (fail_if_success (with_reducible show wpAny _ _ (pyIter (Value.ref _)) _ _ _)))); (fail_if_success (with_reducible show LCg.CompSrc _ _ _ _ _ _ _ _ _ _ _ _ _ _)); (fail_if_success (with_reducible show LCg.CompEnd _ _ _ _ _ _ _ _ _ _ _ _ _ _)))); dsimp only; walk1) | ((((((fail_if_success (with_reducible show InvPostN _ _ _ _ _ _ _ _ _)); (fail_if_success (with_reducible show InvEndN _ _ _ _ _ _ _)); (fail_if_success (with_reducible show wpG _ _ _ _ _ _)); (fail_if_success (with_reducible show wpAny _ _ (pyIter (Value.ref _)) _ _ _)))); (fail_if_success (with_reducible show LCg.CompSrc _ _ _ _ _ _ _ _ _ _ _ _ _ _)); (fail_if_success (with_reducible show LCg.CompEnd _ _ _ _ _ _ _ _ _ _ _ _ _ _)))); leave1; walk_say "STEP leave1"; try dsimp only) | fail "no step"))
  refine wpG_call1 (P := fun h => (hd.heap_39 w.params).In h) (fun h X => keeps_K (by k_is) h X) (wpG_of ?_)
  (repeat' (first | (k_unfold; (try dsimp only)) | ((((((fail_if_success (with_reducible show InvPostN _ _ _ _ _ _ _ _ _)); (fail_if_success (with_reducible show InvEndN _ _ _ _ _ _ _)); (fail_if_success (with_reducible show wpG _ _ _ _ _ _)); (fail_if_success (with_reducible show wpAny _ _ (pyIter (Value.ref _)) _ _ _)))); (fail_if_success (with_reducible show LCg.CompSrc _ _ _ _ _ _ _ _ _ _ _ _ _ _)); (fail_if_success (with_reducible show LCg.CompEnd _ _ _ _ _ _ _ _ _ _ _ _ _ _)))); walk1) | ((((((fail_if_success (with_reducible show InvPostN _ _ _ _ _ _ _ _ _)); (fail_if_success (with_reducible show InvEndN _ _ _ _ _ _ _)); (fail_if_success (with_reducible show wpG _ _ _ _ _ _)); (fail_if_success (with_reducible show wpAny _ _ (pyIter (Value.ref _)) _ _ _)))); (fail_if_success (with_reducible show LCg.CompSrc _ _ _ _ _ _ _ _ _ _ _ _ _ _)); (fail_if_success (with_reducible show LCg.CompEnd _ _ _ _ _ _ _ _ _ _ _ _ _ _)))); dsimp only; walk1) | ((((((fail_if_success (with_reducible show InvPostN _ _ _ _ _ _ _ _ _)); (fail_if_success (with_reducible show InvEndN _ _ _ _ _ _ _)); (fail_if_success (with_reducible show wpG _ _ _ _ _ _)); (fail_if_success (with_reducible show wpAny _ _ (pyIter (Value.ref _)) _ _ _)))); (fail_if_success (with_reducible show LCg.CompSrc _ _ _ _ _ _ _ _ _ _ _ _ _ _)); (fail_if_success (with_reducible show LCg.CompEnd _ _ _ _ _ _ _ _ _ _ _ _ _ _)))); leave1; walk_say "STEP leave1"; try dsimp only) | fail "no step"))
  rename Fr _ _ _ _ => Fa
  rename News _ _ _ _ => Na
  refine fromend_call (by k_asm) (by k_asm) (by k_asm) (by k_asm) rfl (by ktr_room) (by ktr_units) (by omega) (by assumption) ?_
  intro ta ha tka keepa
  have Fb := Fr.keeps Fa keepa
  have Nb := News.grown Na keepa
  clear keepa Fa Na
  (try dsimp only)
  rw [e1]
  (repeat' (first | (k_unfold; (try dsimp only)) | ((((((fail_if_success (with_reducible show InvPostN _ _ _ _ _ _ _ _ _)); (fail_if_success (with_reducible show InvEndN _ _ _ _ _ _ _)); (fail_if_success (with_reducible show wpG _ _ _ _ _ _)); (fail_if_success (with_reducible show wpAny _ _ (pyIter (Value.ref _)) _ _ _)))); (fail_if_success (with_reducible show LCg.CompSrc _ _ _ _ _ _ _ _ _ _ _ _ _ _)); (fail_if_success (with_reducible show LCg.CompEnd _ _ _ _ _ _ _ _ _ _ _ _ _ _)))); walk1) | ((((((fail_if_success (with_reducible show InvPostN _ _ _ _ _ _ _ _ _)); (fail_if_success (with_reducible show InvEndN _ _ _ _ _ _ _)); (fail_if_success (with_reducible show wpG _ _ _ _ _ _)); (fail_if_success (with_reducible show wpAny _ _ (pyIter (Value.ref _)) _ _ _)))); (fail_if_success (with_reducible show LCg.CompSrc _ _ _ _ _ _ _ _ _ _ _ _ _ _)); (fail_if_success (with_reducible show LCg.CompEnd _ _ _ _ _ _ _ _ _ _ _ _ _ _)))); dsimp only; walk1) | ((((((fail_if_success (with_reducible show InvPostN _ _ _ _ _ _ _ _ _)); (fail_if_success (with_reducible show InvEndN _ _ _ _ _ _ _)); (fail_if_success (with_reducible show wpG _ _ _ _ _ _)); (fail_if_success (with_reducible show wpAny _ _ (pyIter (Value.ref _)) _ _ _)))); (fail_if_success (with_reducible show LCg.CompSrc _ _ _ _ _ _ _ _ _ _ _ _ _ _)); (fail_if_success (with_reducible show LCg.CompEnd _ _ _ _ _ _ _ _ _ _ _ _ _ _)))); leave1; walk_say "STEP leave1"; try dsimp only) | fail "no step"))
  (try dsimp only)
  with_reducible refine wpG_execs_cons ?_
  refine wpG_Assign_Name ?_
  refine wpG_BinOp ?_
  with_reducible refine wpG_of ?_
  (repeat' (first | (k_unfold; (try dsimp only)) | ((((((fail_if_success (with_reducible show InvPostN _ _ _ _ _ _ _ _ _)); (fail_if_success (with_reducible show InvEndN _ _ _ _ _ _ _)); (fail_if_success (with_reducible show wpG _ _ _ _ _ _)); (fail_if_success (with_reducible show wpAny _ _ (pyIter (Value.ref _)) _ _ _)))); (fail_if_success (with_reducible show LCg.CompSrc _ _ _ _ _ _ _ _ _ _ _ _ _ _)); (fail_if_success (with_reducible show LCg.CompEnd _ _ _ _ _ _ _ _ _ _ _ _ _ _)))); walk1) | ((((((fail_if_success (with_reducible show InvPostN _ _ _ _ _ _ _ _ _)); (fail_if_success (with_reducible show InvEndN _ _ _ _ _ _ _)); (fail_if_success (with_reducible show wpG _ _ _ _ _ _)); (fail_if_success (with_reducible show wpAny _ _ (pyIter (Value.ref _)) _ _ _)))); (fail_if_success (with_reducible show LCg.CompSrc _ _ _ _ _ _ _ _ _ _ _ _ _ _)); (fail_if_success (with_reducible show LCg.CompEnd _ _ _ _ _ _ _ _ _ _ _ _ _ _)))); dsimp only; walk1) | ((((((fail_if_success (with_reducible show InvPostN _ _ _ _ _ _ _ _ _)); (fail_if_success (with_reducible show InvEndN _ _ _ _ _ _ _)); (fail_if_success (with_reducible show wpG _ _ _ _ _ _)); (fail_if_success (with_reducible show wpAny _ _ (pyIter (Value.ref _)) _ _ _)))); (fail_if_success (with_reducible show LCg.CompSrc _ _ _ _ _ _ _ _ _ _ _ _ _ _)); (fail_if_success (with_reducible show LCg.CompEnd _ _ _ _ _ _ _ _ _ _ _ _ _ _)))); leave1; walk_say "STEP leave1"; try dsimp only) | fail "no step"))
  refine wpG_pair ?_
  refine wpG_Call_Name ?_
  (repeat' (first | (k_unfold; (try dsimp only)) | ((((((fail_if_success (with_reducible show InvPostN _ _ _ _ _ _ _ _ _)); (fail_if_success (with_reducible show InvEndN _ _ _ _ _ _ _)); (fail_if_success (with_reducible show wpG _ _ _ _ _ _)); (fail_if_success (with_reducible show wpAny _ _ (pyIter (Value.ref _)) _ _ _)))); (fail_if_success (with_reducible show LCg.CompSrc _ _ _ _ _ _ _ _ _ _ _ _ _ _)); (fail_if_success (with_reducible show LCg.CompEnd _ _ _ _ _ _ _ _ _ _ _ _ _ _)))); walk1) | ((((((fail_if_success (with_reducible show InvPostN _ _ _ _ _ _ _ _ _)); (fail_if_success (with_reducible show InvEndN _ _ _ _ _ _ _)); (fail_if_success (with_reducible show wpG _ _ _ _ _ _)); (fail_if_success (with_reducible show wpAny _ _ (pyIter (Value.ref _)) _ _ _)))); (fail_if_success (with_reducible show LCg.CompSrc _ _ _ _ _ _ _ _ _ _ _ _ _ _)); (fail_if_success (with_reducible show LCg.CompEnd _ _ _ _ _ _ _ _ _ _ _ _ _ _)))); dsimp only; walk1) | ((((((fail_if_success (with_reducible show InvPostN _ _ _ _ _ _ _ _ _)); (fail_if_success (with_reducible show InvEndN _ _ _ _ _ _ _)); (fail_if_success (with_reducible show wpG _ _ _ _ _ _)); (fail_if_success (with_reducible show wpAny _ _ (pyIter (Value.ref _)) _ _ _)))); (fail_if_success (with_reducible show LCg.CompSrc _ _ _ _ _ _ _ _ _ _ _ _ _ _)); (fail_if_success (with_reducible show LCg.CompEnd _ _ _ _ _ _ _ _ _ _ _ _ _ _)))); leave1; walk_say "STEP leave1"; try dsimp only) | fail "no step"))
  refine wpG_call1 (P := fun h => (hd.heap_39 w.params).In h) (fun h X => keeps_K (by k_is) h X) (wpG_of ?_)
  (repeat' (first | (k_unfold; (try dsimp only)) | ((((((fail_if_success (with_reducible show InvPostN _ _ _ _ _ _ _ _ _)); (fail_if_success (with_reducible show InvEndN _ _ _ _ _ _ _)); (fail_if_success (with_reducible show wpG _ _ _ _ _ _)); (fail_if_success (with_reducible show wpAny _ _ (pyIter (Value.ref _)) _ _ _)))); (fail_if_success (with_reducible show LCg.CompSrc _ _ _ _ _ _ _ _ _ _ _ _ _ _)); (fail_if_success (with_reducible show LCg.CompEnd _ _ _ _ _ _ _ _ _ _ _ _ _ _)))); walk1) | ((((((fail_if_success (with_reducible show InvPostN _ _ _ _ _ _ _ _ _)); (fail_if_success (with_reducible show InvEndN _ _ _ _ _ _ _)); (fail_if_success (with_reducible show wpG _ _ _ _ _ _)); (fail_if_success (with_reducible show wpAny _ _ (pyIter (Value.ref _)) _ _ _)))); (fail_if_success (with_reducible show LCg.CompSrc _ _ _ _ _ _ _ _ _ _ _ _ _ _)); (fail_if_success (with_reducible show LCg.CompEnd _ _ _ _ _ _ _ _ _ _ _ _ _ _)))); dsimp only; walk1) | ((((((fail_if_success (with_reducible show InvPostN _ _ _ _ _ _ _ _ _)); (fail_if_success (with_reducible show InvEndN _ _ _ _ _ _ _)); (fail_if_success (with_reducible show wpG _ _ _ _ _ _)); (fail_if_success (with_reducible show wpAny _ _ (pyIter (Value.ref _)) _ _ _)))); (fail_if_success (with_reducible show LCg.CompSrc _ _ _ _ _ _ _ _ _ _ _ _ _ _)); (fail_if_success (with_reducible show LCg.CompEnd _ _ _ _ _ _ _ _ _ _ _ _ _ _)))); leave1; walk_say "STEP leave1"; try dsimp only) | fail "no step"))
  rename Fr _ _ _ _ => Fa
  rename News _ _ _ _ => Na
  refine fromend_call (by k_asm) (by k_asm) (by k_asm) (by k_asm) rfl (by ktr_room) (by ktr_units) (by omega) (by assumption) ?_
  intro ta ha tka keepa
  have Fb := Fr.keeps Fa keepa
  have Nb := News.grown Na keepa
  clear keepa Fa Na
  (try dsimp only)
  rw [e2]
  with_reducible refine wpG_of ?_
  (repeat' (first | (k_unfold; (try dsimp only)) | ((((((((((fail_if_success (with_reducible show InvPostN _ _ _ _ _ _ _ _ _)); (fail_if_success (with_reducible show InvEndN _ _ _ _ _ _ _)); (fail_if_success (with_reducible show wpG _ _ _ _ _ _)); (fail_if_success (with_reducible show wpAny _ _ (pyIter (Value.ref _)) _ _ _)))); (fail_if_success (with_reducible show LCg.CompSrc _ _ _ _ _ _ _ _ _ _ _ _ _ _)); (fail_if_success (with_reducible show LCg.CompEnd _ _ _ _ _ _ _ _ _ _ _ _ _ _)))); (fail_if_success (with_reducible show wpAny _ _ (eval (Expr.ListComp _ _ _ _) _) _ _ _)))); (fail_if_success (with_reducible show wpAny _ _ (call (Value.ref _) _) _ _ _)))); walk1) | ((((((((((fail_if_success (with_reducible show InvPostN _ _ _ _ _ _ _ _ _)); (fail_if_success (with_reducible show InvEndN _ _ _ _ _ _ _)); (fail_if_success (with_reducible show wpG _ _ _ _ _ _)); (fail_if_success (with_reducible show wpAny _ _ (pyIter (Value.ref _)) _ _ _)))); (fail_if_success (with_reducible show LCg.CompSrc _ _ _ _ _ _ _ _ _ _ _ _ _ _)); (fail_if_success (with_reducible show LCg.CompEnd _ _ _ _ _ _ _ _ _ _ _ _ _ _)))); (fail_if_success (with_reducible show wpAny _ _ (eval (Expr.ListComp _ _ _ _) _) _ _ _)))); (fail_if_success (with_reducible show wpAny _ _ (call (Value.ref _) _) _ _ _)))); dsimp only; walk1) | ((((((((((fail_if_success (with_reducible show InvPostN _ _ _ _ _ _ _ _ _)); (fail_if_success (with_reducible show InvEndN _ _ _ _ _ _ _)); (fail_if_success (with_reducible show wpG _ _ _ _ _ _)); (fail_if_success (with_reducible show wpAny _ _ (pyIter (Value.ref _)) _ _ _)))); (fail_if_success (with_reducible show LCg.CompSrc _ _ _ _ _ _ _ _ _ _ _ _ _ _)); (fail_if_success (with_reducible show LCg.CompEnd _ _ _ _ _ _ _ _ _ _ _ _ _ _)))); (fail_if_success (with_reducible show wpAny _ _ (eval (Expr.ListComp _ _ _ _) _) _ _ _)))); (fail_if_success (with_reducible show wpAny _ _ (call (Value.ref _) _) _ _ _)))); leave1; walk_say "STEP leave1"; try dsimp only) | fail "no step"))
  rename Fr _ _ _ _ => Fa
  rename News _ _ _ _ => Na
  refine normpath_call (by k_asm) (by k_asm) (by k_asm) (by k_asm) rfl (by ktr_room) (by ktr_units) (by omega) ?_
  intro ta ha tka keepa
  have Fb := Fr.keeps Fa keepa
  have Nb := News.grown Na keepa
  clear keepa Fa Na
  (try dsimp only)
  rw [e3]
  have hlen2 : [T0, T1].length + [T2, T3].length ≤ 16777216 := by show 4 ≤ 16777216; decide
  (repeat' (first | (k_unfold; (try dsimp only)) | ((((((fail_if_success (with_reducible show InvPostN _ _ _ _ _ _ _ _ _)); (fail_if_success (with_reducible show InvEndN _ _ _ _ _ _ _)); (fail_if_success (with_reducible show wpG _ _ _ _ _ _)); (fail_if_success (with_reducible show wpAny _ _ (pyIter (Value.ref _)) _ _ _)))); (fail_if_success (with_reducible show LCg.CompSrc _ _ _ _ _ _ _ _ _ _ _ _ _ _)); (fail_if_success (with_reducible show LCg.CompEnd _ _ _ _ _ _ _ _ _ _ _ _ _ _)))); (first | (with_reducible (k_here; (with_reducible show wpAny _ _ (binaryOp Operator.Add (Value.ref _) (Value.ref _)) _ _ _); k_dflt (refine' add_bl ?q9F ?q9N ?q9l ?q9l2 ?q9v ?q9v2 ?q9z ?_; (case q9F => k_asm); (case q9N => k_asm); (case q9l => walk_at "my:isl"); (case q9l2 => walk_at "my:isl"); (case q9v => walk_at "my:bytes"); (case q9v2 => walk_at "my:bytes"); (case q9z => walk_at "my:len"); k_whole); intro D9 ws9 h9 ba9 F9 N9 l9; (try k_lt l9))) | walk1)) | ((((((fail_if_success (with_reducible show InvPostN _ _ _ _ _ _ _ _ _)); (fail_if_success (with_reducible show InvEndN _ _ _ _ _ _ _)); (fail_if_success (with_reducible show wpG _ _ _ _ _ _)); (fail_if_success (with_reducible show wpAny _ _ (pyIter (Value.ref _)) _ _ _)))); (fail_if_success (with_reducible show LCg.CompSrc _ _ _ _ _ _ _ _ _ _ _ _ _ _)); (fail_if_success (with_reducible show LCg.CompEnd _ _ _ _ _ _ _ _ _ _ _ _ _ _)))); dsimp only; (first | (with_reducible (k_here; (with_reducible show wpAny _ _ (binaryOp Operator.Add (Value.ref _) (Value.ref _)) _ _ _); k_dflt (refine' add_bl ?q9F ?q9N ?q9l ?q9l2 ?q9v ?q9v2 ?q9z ?_; (case q9F => k_asm); (case q9N => k_asm); (case q9l => walk_at "my:isl"); (case q9l2 => walk_at "my:isl"); (case q9v => walk_at "my:bytes"); (case q9v2 => walk_at "my:bytes"); (case q9z => walk_at "my:len"); k_whole); intro D9 ws9 h9 ba9 F9 N9 l9; (try k_lt l9))) | walk1)) | ((((((fail_if_success (with_reducible show InvPostN _ _ _ _ _ _ _ _ _)); (fail_if_success (with_reducible show InvEndN _ _ _ _ _ _ _)); (fail_if_success (with_reducible show wpG _ _ _ _ _ _)); (fail_if_success (with_reducible show wpAny _ _ (pyIter (Value.ref _)) _ _ _)))); (fail_if_success (with_reducible show LCg.CompSrc _ _ _ _ _ _ _ _ _ _ _ _ _ _)); (fail_if_success (with_reducible show LCg.CompEnd _ _ _ _ _ _ _ _ _ _ _ _ _ _)))); leave1; walk_say "STEP leave1"; try dsimp only) | fail "no step"))
  (try dsimp only)
  (with_reducible rename BytesAre _ ([T0, T1] ++ [T2, T3]) => hbT)
  (with_reducible rename News _ _ _ _ => Nall)
  have Ntd := news_14 Nall
  clear Nall
  have hlen4 : ([T0, T1] ++ [T2, T3]).length ≤ 16777216 := hlen2
  with_reducible refine wpG_execs_cons ?_
  refine wpG_For ?_
  (repeat' (first | (k_unfold; (try dsimp only)) | ((((((fail_if_success (with_reducible show InvPostN _ _ _ _ _ _ _ _ _)); (fail_if_success (with_reducible show InvEndN _ _ _ _ _ _ _)); (fail_if_success (with_reducible show wpG _ _ _ _ _ _)); (fail_if_success (with_reducible show wpAny _ _ (pyIter (Value.ref _)) _ _ _)))); (fail_if_success (with_reducible show LCg.CompSrc _ _ _ _ _ _ _ _ _ _ _ _ _ _)); (fail_if_success (with_reducible show LCg.CompEnd _ _ _ _ _ _ _ _ _ _ _ _ _ _)))); (first | (with_reducible (k_here; (with_reducible show wpAny _ _ (subscriptTail _ (Expr.Slice _ _ none _) (Value.ref _) (Value.ref _)) _ _ _); k_dflt (refine' slice_bl (s := ⟨_, _, _, _, _⟩) ?q9F ?q9N ?q9l ?q9v ?q9a ?q9b ?q9z ?_; (case q9F => k_asm); (case q9N => k_asm); (case q9l => walk_at "my:isl"); (case q9v => walk_at "my:bytes"); (case q9a => constructor); (case q9b => constructor); (case q9z => walk_at "my:len"); k_whole); intro D9 ws9 h9 ba9 F9 N9 l9; (try k_lt l9))) | walk1)) | ((((((fail_if_success (with_reducible show InvPostN _ _ _ _ _ _ _ _ _)); (fail_if_success (with_reducible show InvEndN _ _ _ _ _ _ _)); (fail_if_success (with_reducible show wpG _ _ _ _ _ _)); (fail_if_success (with_reducible show wpAny _ _ (pyIter (Value.ref _)) _ _ _)))); (fail_if_success (with_reducible show LCg.CompSrc _ _ _ _ _ _ _ _ _ _ _ _ _ _)); (fail_if_success (with_reducible show LCg.CompEnd _ _ _ _ _ _ _ _ _ _ _ _ _ _)))); dsimp only; (first | (with_reducible (k_here; (with_reducible show wpAny _ _ (subscriptTail _ (Expr.Slice _ _ none _) (Value.ref _) (Value.ref _)) _ _ _); k_dflt (refine' slice_bl (s := ⟨_, _, _, _, _⟩) ?q9F ?q9N ?q9l ?q9v ?q9a ?q9b ?q9z ?_; (case q9F => k_asm); (case q9N => k_asm); (case q9l => walk_at "my:isl"); (case q9v => walk_at "my:bytes"); (case q9a => constructor); (case q9b => constructor); (case q9z => walk_at "my:len"); k_whole); intro D9 ws9 h9 ba9 F9 N9 l9; (try k_lt l9))) | walk1)) | ((((((fail_if_success (with_reducible show InvPostN _ _ _ _ _ _ _ _ _)); (fail_if_success (with_reducible show InvEndN _ _ _ _ _ _ _)); (fail_if_success (with_reducible show wpG _ _ _ _ _ _)); (fail_if_success (with_reducible show wpAny _ _ (pyIter (Value.ref _)) _ _ _)))); (fail_if_success (with_reducible show LCg.CompSrc _ _ _ _ _ _ _ _ _ _ _ _ _ _)); (fail_if_success (with_reducible show LCg.CompEnd _ _ _ _ _ _ _ _ _ _ _ _ _ _)))); leave1; walk_say "STEP leave1"; try dsimp only) | fail "no step"))
  (with_reducible rename BytesAre _ (cutL ([T0, T1] ++ [T2, T3]) _ _) => hbU)
  (with_reducible rename Fr _ _ _ _ => F1)
  (with_reducible rename News _ _ _ _ => N1)
  have hbU : BytesAre _ [T2, T3] := hbU
  refine iter_blG rfl (by rfl) (by rfl) (by k_mem) hbU F1 N1 ?_ ?_
  · intro i c t I oI h tk hc Fc Nc
    clear F1 N1
    have hc : c = T2 ∨ c = T3 := by simpa using List.mem_of_getElem? hc
    have hcc : normB c = c ∧ endB c = c ∧ c.length ≤ 1000 ∧ c ≠ [] := by
      rcases hc with rfl | rfl
      · exact ⟨e4, e5, z2, n2⟩
      · exact ⟨e6, e7, z3, n3⟩
    obtain ⟨c1, c2, c3, c4⟩ := hcc
    clear hc
    with_reducible refine wpG_execs_cons ?_
    refine wpG_If ?_
    refine wpG_isTrue_or ?_
    refine wpG_isTrue_Compare1 ?_
    with_reducible refine wpG_of ?_
    (repeat' (first | (k_unfold; (try dsimp only)) | ((((((((((fail_if_success (with_reducible show InvPostN _ _ _ _ _ _ _ _ _)); (fail_if_success (with_reducible show InvEndN _ _ _ _ _ _ _)); (fail_if_success (with_reducible show wpG _ _ _ _ _ _)); (fail_if_success (with_reducible show wpAny _ _ (pyIter (Value.ref _)) _ _ _)))); (fail_if_success (with_reducible show LCg.CompSrc _ _ _ _ _ _ _ _ _ _ _ _ _ _)); (fail_if_success (with_reducible show LCg.CompEnd _ _ _ _ _ _ _ _ _ _ _ _ _ _)))); (fail_if_success (with_reducible show wpAny _ _ (eval (Expr.ListComp _ _ _ _) _) _ _ _)))); (fail_if_success (with_reducible show wpAny _ _ (call (Value.ref _) _) _ _ _)))); walk1) | ((((((((((fail_if_success (with_reducible show InvPostN _ _ _ _ _ _ _ _ _)); (fail_if_success (with_reducible show InvEndN _ _ _ _ _ _ _)); (fail_if_success (with_reducible show wpG _ _ _ _ _ _)); (fail_if_success (with_reducible show wpAny _ _ (pyIter (Value.ref _)) _ _ _)))); (fail_if_success (with_reducible show LCg.CompSrc _ _ _ _ _ _ _ _ _ _ _ _ _ _)); (fail_if_success (with_reducible show LCg.CompEnd _ _ _ _ _ _ _ _ _ _ _ _ _ _)))); (fail_if_success (with_reducible show wpAny _ _ (eval (Expr.ListComp _ _ _ _) _) _ _ _)))); (fail_if_success (with_reducible show wpAny _ _ (call (Value.ref _) _) _ _ _)))); dsimp only; walk1) | ((((((((((fail_if_success (with_reducible show InvPostN _ _ _ _ _ _ _ _ _)); (fail_if_success (with_reducible show InvEndN _ _ _ _ _ _ _)); (fail_if_success (with_reducible show wpG _ _ _ _ _ _)); (fail_if_success (with_reducible show wpAny _ _ (pyIter (Value.ref _)) _ _ _)))); (fail_if_success (with_reducible show LCg.CompSrc _ _ _ _ _ _ _ _ _ _ _ _ _ _)); (fail_if_success (with_reducible show LCg.CompEnd _ _ _ _ _ _ _ _ _ _ _ _ _ _)))); (fail_if_success (with_reducible show wpAny _ _ (eval (Expr.ListComp _ _ _ _) _) _ _ _)))); (fail_if_success (with_reducible show wpAny _ _ (call (Value.ref _) _) _ _ _)))); leave1; walk_say "STEP leave1"; try dsimp only) | fail "no step"))
    rename Fr _ _ _ _ => Fa
    rename News _ _ _ _ => Na
    refine normpath_call (by k_asm) (by k_asm) (by k_asm) (by k_asm) rfl (by ktr_room) (by ktr_units) (by omega) ?_
    intro ta ha tka keepa
    have Fb := Fr.keeps Fa keepa
    have Nb := News.grown Na keepa
    clear keepa Fa Na
    (try dsimp only)
    rw [c1]
    (repeat' (first | (k_unfold; (try dsimp only)) | ((((((((((fail_if_success (with_reducible show InvPostN _ _ _ _ _ _ _ _ _)); (fail_if_success (with_reducible show InvEndN _ _ _ _ _ _ _)); (fail_if_success (with_reducible show wpG _ _ _ _ _ _)); (fail_if_success (with_reducible show wpAny _ _ (pyIter (Value.ref _)) _ _ _)))); (fail_if_success (with_reducible show LCg.CompSrc _ _ _ _ _ _ _ _ _ _ _ _ _ _)); (fail_if_success (with_reducible show LCg.CompEnd _ _ _ _ _ _ _ _ _ _ _ _ _ _)))); (fail_if_success (with_reducible show wpAny _ _ (eval (Expr.ListComp _ _ _ _) _) _ _ _)))); (fail_if_success (with_reducible show wpAny _ _ (call (Value.ref _) _) _ _ _)))); (first | (with_reducible (k_here; (with_reducible show wpAny _ _ (compareOp CmpOp.NotEq (Value.bytes (List.toArray _) _) (Value.bytes (List.toArray _) _)) _ _ _); (refine ne_bytesL ?_))) | walk1)) | ((((((((((fail_if_success (with_reducible show InvPostN _ _ _ _ _ _ _ _ _)); (fail_if_success (with_reducible show InvEndN _ _ _ _ _ _ _)); (fail_if_success (with_reducible show wpG _ _ _ _ _ _)); (fail_if_success (with_reducible show wpAny _ _ (pyIter (Value.ref _)) _ _ _)))); (fail_if_success (with_reducible show LCg.CompSrc _ _ _ _ _ _ _ _ _ _ _ _ _ _)); (fail_if_success (with_reducible show LCg.CompEnd _ _ _ _ _ _ _ _ _ _ _ _ _ _)))); (fail_if_success (with_reducible show wpAny _ _ (eval (Expr.ListComp _ _ _ _) _) _ _ _)))); (fail_if_success (with_reducible show wpAny _ _ (call (Value.ref _) _) _ _ _)))); dsimp only; (first | (with_reducible (k_here; (with_reducible show wpAny _ _ (compareOp CmpOp.NotEq (Value.bytes (List.toArray _) _) (Value.bytes (List.toArray _) _)) _ _ _); (refine ne_bytesL ?_))) | walk1)) | ((((((((((fail_if_success (with_reducible show InvPostN _ _ _ _ _ _ _ _ _)); (fail_if_success (with_reducible show InvEndN _ _ _ _ _ _ _)); (fail_if_success (with_reducible show wpG _ _ _ _ _ _)); (fail_if_success (with_reducible show wpAny _ _ (pyIter (Value.ref _)) _ _ _)))); (fail_if_success (with_reducible show LCg.CompSrc _ _ _ _ _ _ _ _ _ _ _ _ _ _)); (fail_if_success (with_reducible show LCg.CompEnd _ _ _ _ _ _ _ _ _ _ _ _ _ _)))); (fail_if_success (with_reducible show wpAny _ _ (eval (Expr.ListComp _ _ _ _) _) _ _ _)))); (fail_if_success (with_reducible show wpAny _ _ (call (Value.ref _) _) _ _ _)))); leave1; walk_say "STEP leave1"; try dsimp only) | fail "no step"))
    · exact absurd rfl (by assumption)
    refine wpG_isTrue_or ?_
    refine wpG_isTrue_Compare1 ?_
    refine wpG_Call_Name ?_
    (repeat' (first | (k_unfold; (try dsimp only)) | ((((((fail_if_success (with_reducible show InvPostN _ _ _ _ _ _ _ _ _)); (fail_if_success (with_reducible show InvEndN _ _ _ _ _ _ _)); (fail_if_success (with_reducible show wpG _ _ _ _ _ _)); (fail_if_success (with_reducible show wpAny _ _ (pyIter (Value.ref _)) _ _ _)))); (fail_if_success (with_reducible show LCg.CompSrc _ _ _ _ _ _ _ _ _ _ _ _ _ _)); (fail_if_success (with_reducible show LCg.CompEnd _ _ _ _ _ _ _ _ _ _ _ _ _ _)))); walk1) | ((((((fail_if_success (with_reducible show InvPostN _ _ _ _ _ _ _ _ _)); (fail_if_success (with_reducible show InvEndN _ _ _ _ _ _ _)); (fail_if_success (with_reducible show wpG _ _ _ _ _ _)); (fail_if_success (with_reducible show wpAny _ _ (pyIter (Value.ref _)) _ _ _)))); (fail_if_success (with_reducible show LCg.CompSrc _ _ _ _ _ _ _ _ _ _ _ _ _ _)); (fail_if_success (with_reducible show LCg.CompEnd _ _ _ _ _ _ _ _ _ _ _ _ _ _)))); dsimp only; walk1) | ((((((fail_if_success (with_reducible show InvPostN _ _ _ _ _ _ _ _ _)); (fail_if_success (with_reducible show InvEndN _ _ _ _ _ _ _)); (fail_if_success (with_reducible show wpG _ _ _ _ _ _)); (fail_if_success (with_reducible show wpAny _ _ (pyIter (Value.ref _)) _ _ _)))); (fail_if_success (with_reducible show LCg.CompSrc _ _ _ _ _ _ _ _ _ _ _ _ _ _)); (fail_if_success (with_reducible show LCg.CompEnd _ _ _ _ _ _ _ _ _ _ _ _ _ _)))); leave1; walk_say "STEP leave1"; try dsimp only) | fail "no step"))
    refine wpG_call1 (P := fun h => (hd.heap_39 w.params).In h) (fun h X => keeps_K (by k_is) h X) (wpG_of ?_)
    (repeat' (first | (k_unfold; (try dsimp only)) | ((((((fail_if_success (with_reducible show InvPostN _ _ _ _ _ _ _ _ _)); (fail_if_success (with_reducible show InvEndN _ _ _ _ _ _ _)); (fail_if_success (with_reducible show wpG _ _ _ _ _ _)); (fail_if_success (with_reducible show wpAny _ _ (pyIter (Value.ref _)) _ _ _)))); (fail_if_success (with_reducible show LCg.CompSrc _ _ _ _ _ _ _ _ _ _ _ _ _ _)); (fail_if_success (with_reducible show LCg.CompEnd _ _ _ _ _ _ _ _ _ _ _ _ _ _)))); walk1) | ((((((fail_if_success (with_reducible show InvPostN _ _ _ _ _ _ _ _ _)); (fail_if_success (with_reducible show InvEndN _ _ _ _ _ _ _)); (fail_if_success (with_reducible show wpG _ _ _ _ _ _)); (fail_if_success (with_reducible show wpAny _ _ (pyIter (Value.ref _)) _ _ _)))); (fail_if_success (with_reducible show LCg.CompSrc _ _ _ _ _ _ _ _ _ _ _ _ _ _)); (fail_if_success (with_reducible show LCg.CompEnd _ _ _ _ _ _ _ _ _ _ _ _ _ _)))); dsimp only; walk1) | ((((((fail_if_success (with_reducible show InvPostN _ _ _ _ _ _ _ _ _)); (fail_if_success (with_reducible show InvEndN _ _ _ _ _ _ _)); (fail_if_success (with_reducible show wpG _ _ _ _ _ _)); (fail_if_success (with_reducible show wpAny _ _ (pyIter (Value.ref _)) _ _ _)))); (fail_if_success (with_reducible show LCg.CompSrc _ _ _ _ _ _ _ _ _ _ _ _ _ _)); (fail_if_success (with_reducible show LCg.CompEnd _ _ _ _ _ _ _ _ _ _ _ _ _ _)))); leave1; walk_say "STEP leave1"; try dsimp only) | fail "no step"))
    rename Fr _ _ _ _ => Fa
    rename News _ _ _ _ => Na
    refine fromend_call (by k_asm) (by k_asm) (by k_asm) (by k_asm) rfl (by ktr_room) (by ktr_units) (by omega) (by assumption) ?_
    intro ta ha tka keepa
    have Fb := Fr.keeps Fa keepa
    have Nb := News.grown Na keepa
    clear keepa Fa Na
    (try dsimp only)
    rw [c2]
    (repeat' (first | (k_unfold; (try dsimp only)) | ((((((((((fail_if_success (with_reducible show InvPostN _ _ _ _ _ _ _ _ _)); (fail_if_success (with_reducible show InvEndN _ _ _ _ _ _ _)); (fail_if_success (with_reducible show wpG _ _ _ _ _ _)); (fail_if_success (with_reducible show wpAny _ _ (pyIter (Value.ref _)) _ _ _)))); (fail_if_success (with_reducible show LCg.CompSrc _ _ _ _ _ _ _ _ _ _ _ _ _ _)); (fail_if_success (with_reducible show LCg.CompEnd _ _ _ _ _ _ _ _ _ _ _ _ _ _)))); (fail_if_success (with_reducible show wpAny _ _ (eval (Expr.ListComp _ _ _ _) _) _ _ _)))); (fail_if_success (with_reducible show wpAny _ _ (call (Value.ref _) _) _ _ _)))); (first | (with_reducible (k_here; (with_reducible show wpAny _ _ (compareOp CmpOp.NotEq (Value.bytes (List.toArray _) _) (Value.bytes (List.toArray _) _)) _ _ _); (refine ne_bytesL ?_))) | walk1)) | ((((((((((fail_if_success (with_reducible show InvPostN _ _ _ _ _ _ _ _ _)); (fail_if_success (with_reducible show InvEndN _ _ _ _ _ _ _)); (fail_if_success (with_reducible show wpG _ _ _ _ _ _)); (fail_if_success (with_reducible show wpAny _ _ (pyIter (Value.ref _)) _ _ _)))); (fail_if_success (with_reducible show LCg.CompSrc _ _ _ _ _ _ _ _ _ _ _ _ _ _)); (fail_if_success (with_reducible show LCg.CompEnd _ _ _ _ _ _ _ _ _ _ _ _ _ _)))); (fail_if_success (with_reducible show wpAny _ _ (eval (Expr.ListComp _ _ _ _) _) _ _ _)))); (fail_if_success (with_reducible show wpAny _ _ (call (Value.ref _) _) _ _ _)))); dsimp only; (first | (with_reducible (k_here; (with_reducible show wpAny _ _ (compareOp CmpOp.NotEq (Value.bytes (List.toArray _) _) (Value.bytes (List.toArray _) _)) _ _ _); (refine ne_bytesL ?_))) | walk1)) | ((((((((((fail_if_success (with_reducible show InvPostN _ _ _ _ _ _ _ _ _)); (fail_if_success (with_reducible show InvEndN _ _ _ _ _ _ _)); (fail_if_success (with_reducible show wpG _ _ _ _ _ _)); (fail_if_success (with_reducible show wpAny _ _ (pyIter (Value.ref _)) _ _ _)))); (fail_if_success (with_reducible show LCg.CompSrc _ _ _ _ _ _ _ _ _ _ _ _ _ _)); (fail_if_success (with_reducible show LCg.CompEnd _ _ _ _ _ _ _ _ _ _ _ _ _ _)))); (fail_if_success (with_reducible show wpAny _ _ (eval (Expr.ListComp _ _ _ _) _) _ _ _)))); (fail_if_success (with_reducible show wpAny _ _ (call (Value.ref _) _) _ _ _)))); leave1; walk_say "STEP leave1"; try dsimp only) | fail "no step"))
    refine wpG_isTrue_or_nil ?_
    rw [if_neg (by decide)]
    with_reducible refine wpG_of ?_
    refine wpAny_execs_nil ?_
    (try dsimp only)
    with_reducible refine wpG_of ?_
    refine wpAny_execs_nil ?_
    (try dsimp only)
    exact ⟨_, _, _, rfl, fun y hy => if_neg hy, Fb, Nb⟩
  · intro u h tk Fc Nc
    clear F1 N1
    (try dsimp only)
    with_reducible refine wpG_execs_cons ?_
    with_reducible refine wpG_of ?_
    refine LCt.Assign_ListComp_T (F₀ := by k_asm) (by rfl) (by with_unfolding_all rfl) (by with_unfolding_all rfl) (by decide) (by rfl) (by decide) (by rfl) (by rfl) (by rfl) ?_
    (repeat' (first | (k_unfold; (try dsimp only)) | ((((((fail_if_success (with_reducible show InvPostN _ _ _ _ _ _ _ _ _)); (fail_if_success (with_reducible show InvEndN _ _ _ _ _ _ _)); (fail_if_success (with_reducible show wpG _ _ _ _ _ _)); (fail_if_success (with_reducible show wpAny _ _ (pyIter (Value.ref _)) _ _ _)))); (fail_if_success (with_reducible show LCg.CompSrc _ _ _ _ _ _ _ _ _ _ _ _ _ _)); (fail_if_success (with_reducible show LCg.CompEnd _ _ _ _ _ _ _ _ _ _ _ _ _ _)))); walk1) | ((((((fail_if_success (with_reducible show InvPostN _ _ _ _ _ _ _ _ _)); (fail_if_success (with_reducible show InvEndN _ _ _ _ _ _ _)); (fail_if_success (with_reducible show wpG _ _ _ _ _ _)); (fail_if_success (with_reducible show wpAny _ _ (pyIter (Value.ref _)) _ _ _)))); (fail_if_success (with_reducible show LCg.CompSrc _ _ _ _ _ _ _ _ _ _ _ _ _ _)); (fail_if_success (with_reducible show LCg.CompEnd _ _ _ _ _ _ _ _ _ _ _ _ _ _)))); dsimp only; walk1) | ((((((fail_if_success (with_reducible show InvPostN _ _ _ _ _ _ _ _ _)); (fail_if_success (with_reducible show InvEndN _ _ _ _ _ _ _)); (fail_if_success (with_reducible show wpG _ _ _ _ _ _)); (fail_if_success (with_reducible show wpAny _ _ (pyIter (Value.ref _)) _ _ _)))); (fail_if_success (with_reducible show LCg.CompSrc _ _ _ _ _ _ _ _ _ _ _ _ _ _)); (fail_if_success (with_reducible show LCg.CompEnd _ _ _ _ _ _ _ _ _ _ _ _ _ _)))); leave1; walk_say "STEP leave1"; try dsimp only) | fail "no step"))
    rename Fr _ _ _ _ => F1
    rename News _ _ _ _ => N1
    refine LCt.CompSrcT.ledger rfl F1 N1 (by k_mem) (by rw [sizeLine_eq, List.size_toArray, hps.length]; omega) fun g => crT_rest (fun q => !skips q) hps ?_ ?_
    · intro c t I oI C oC D m₂ ys h tk E' hcm hC hx Fc Nc off ne
      clear F1 N1
      repeat' (first | (k_unfold; (try dsimp only)) | ((((((fail_if_success (with_reducible show InvPostN _ _ _ _ _ _ _ _ _)); (fail_if_success (with_reducible show InvEndN _ _ _ _ _ _ _)); (fail_if_success (with_reducible show wpG _ _ _ _ _ _)); (fail_if_success (with_reducible show wpAny _ _ (pyIter (Value.ref _)) _ _ _)))); (fail_if_success (with_reducible show LCg.CompSrc _ _ _ _ _ _ _ _ _ _ _ _ _ _)); (fail_if_success (with_reducible show LCg.CompEnd _ _ _ _ _ _ _ _ _ _ _ _ _ _)))); (fail_if_success (with_reducible show wpAny _ _ (compareOp CmpOp.NotIn _ _) _ _ _)); walk1) | ((((((fail_if_success (with_reducible show InvPostN _ _ _ _ _ _ _ _ _)); (fail_if_success (with_reducible show InvEndN _ _ _ _ _ _ _)); (fail_if_success (with_reducible show wpG _ _ _ _ _ _)); (fail_if_success (with_reducible show wpAny _ _ (pyIter (Value.ref _)) _ _ _)))); (fail_if_success (with_reducible show LCg.CompSrc _ _ _ _ _ _ _ _ _ _ _ _ _ _)); (fail_if_success (with_reducible show LCg.CompEnd _ _ _ _ _ _ _ _ _ _ _ _ _ _)))); (fail_if_success (with_reducible show wpAny _ _ (compareOp CmpOp.NotIn _ _) _ _ _)); dsimp only; walk1) | fail "no step")
      refine notIn_bl (bs := [[], [46]]) (by walk_at "my:isl") BytesAre.two ?_
      (repeat' (first | (k_unfold; (try dsimp only)) | ((((((fail_if_success (with_reducible show InvPostN _ _ _ _ _ _ _ _ _)); (fail_if_success (with_reducible show InvEndN _ _ _ _ _ _ _)); (fail_if_success (with_reducible show wpG _ _ _ _ _ _)); (fail_if_success (with_reducible show wpAny _ _ (pyIter (Value.ref _)) _ _ _)))); (fail_if_success (with_reducible show LCg.CompSrc _ _ _ _ _ _ _ _ _ _ _ _ _ _)); (fail_if_success (with_reducible show LCg.CompEnd _ _ _ _ _ _ _ _ _ _ _ _ _ _)))); walk1) | ((((((fail_if_success (with_reducible show InvPostN _ _ _ _ _ _ _ _ _)); (fail_if_success (with_reducible show InvEndN _ _ _ _ _ _ _)); (fail_if_success (with_reducible show wpG _ _ _ _ _ _)); (fail_if_success (with_reducible show wpAny _ _ (pyIter (Value.ref _)) _ _ _)))); (fail_if_success (with_reducible show LCg.CompSrc _ _ _ _ _ _ _ _ _ _ _ _ _ _)); (fail_if_success (with_reducible show LCg.CompEnd _ _ _ _ _ _ _ _ _ _ _ _ _ _)))); dsimp only; walk1) | ((((((fail_if_success (with_reducible show InvPostN _ _ _ _ _ _ _ _ _)); (fail_if_success (with_reducible show InvEndN _ _ _ _ _ _ _)); (fail_if_success (with_reducible show wpG _ _ _ _ _ _)); (fail_if_success (with_reducible show wpAny _ _ (pyIter (Value.ref _)) _ _ _)))); (fail_if_success (with_reducible show LCg.CompSrc _ _ _ _ _ _ _ _ _ _ _ _ _ _)); (fail_if_success (with_reducible show LCg.CompEnd _ _ _ _ _ _ _ _ _ _ _ _ _ _)))); leave1; walk_say "STEP leave1"; try dsimp only) | fail "no step"))
      · rename Fr _ _ _ _ => F2
        rename News _ _ _ _ => N2
        exact LCg.CompEnd.intro F2 N2 _ (fun p hp => List.mem_cons_of_mem _ hp) off (.inr ⟨_, by k_mem, rfl, _, rfl⟩) ⟨rfl, keep_yes (by assumption), _, rfl⟩
      · rename Fr _ _ _ _ => F2
        rename News _ _ _ _ => N2
        exact LCg.CompEnd.intro F2 N2 _ (fun p hp => List.mem_cons_of_mem _ hp) off (.inr ⟨_, by k_mem, rfl, _, rfl⟩) ⟨rfl, keep_no (by assumption)⟩
    intro ysS hyS DS hS tkS FS NS oS
    clear F1 N1
    simp only [LCg.Off1, and_true] at oS
    (try dsimp only)
    with_reducible refine wpG_execs_cons ?_
    refine wpG_Return ?_
    refine wpG_Compare1 ?_
    (repeat' (first | (k_unfold; (try dsimp only)) | ((((((fail_if_success (with_reducible show InvPostN _ _ _ _ _ _ _ _ _)); (fail_if_success (with_reducible show InvEndN _ _ _ _ _ _ _)); (fail_if_success (with_reducible show wpG _ _ _ _ _ _)); (fail_if_success (with_reducible show wpAny _ _ (pyIter (Value.ref _)) _ _ _)))); (fail_if_success (with_reducible show LCg.CompSrc _ _ _ _ _ _ _ _ _ _ _ _ _ _)); (fail_if_success (with_reducible show LCg.CompEnd _ _ _ _ _ _ _ _ _ _ _ _ _ _)))); walk1) | ((((((fail_if_success (with_reducible show InvPostN _ _ _ _ _ _ _ _ _)); (fail_if_success (with_reducible show InvEndN _ _ _ _ _ _ _)); (fail_if_success (with_reducible show wpG _ _ _ _ _ _)); (fail_if_success (with_reducible show wpAny _ _ (pyIter (Value.ref _)) _ _ _)))); (fail_if_success (with_reducible show LCg.CompSrc _ _ _ _ _ _ _ _ _ _ _ _ _ _)); (fail_if_success (with_reducible show LCg.CompEnd _ _ _ _ _ _ _ _ _ _ _ _ _ _)))); dsimp only; walk1) | ((((((fail_if_success (with_reducible show InvPostN _ _ _ _ _ _ _ _ _)); (fail_if_success (with_reducible show InvEndN _ _ _ _ _ _ _)); (fail_if_success (with_reducible show wpG _ _ _ _ _ _)); (fail_if_success (with_reducible show wpAny _ _ (pyIter (Value.ref _)) _ _ _)))); (fail_if_success (with_reducible show LCg.CompSrc _ _ _ _ _ _ _ _ _ _ _ _ _ _)); (fail_if_success (with_reducible show LCg.CompEnd _ _ _ _ _ _ _ _ _ _ _ _ _ _)))); leave1; walk_say "STEP leave1"; try dsimp only) | fail "no step"))
    refine wpG_Call_Name ?_
    (repeat' (first | (k_unfold; (try dsimp only)) | ((((((fail_if_success (with_reducible show InvPostN _ _ _ _ _ _ _ _ _)); (fail_if_success (with_reducible show InvEndN _ _ _ _ _ _ _)); (fail_if_success (with_reducible show wpG _ _ _ _ _ _)); (fail_if_success (with_reducible show wpAny _ _ (pyIter (Value.ref _)) _ _ _)))); (fail_if_success (with_reducible show LCg.CompSrc _ _ _ _ _ _ _ _ _ _ _ _ _ _)); (fail_if_success (with_reducible show LCg.CompEnd _ _ _ _ _ _ _ _ _ _ _ _ _ _)))); walk1) | ((((((fail_if_success (with_reducible show InvPostN _ _ _ _ _ _ _ _ _)); (fail_if_success (with_reducible show InvEndN _ _ _ _ _ _ _)); (fail_if_success (with_reducible show wpG _ _ _ _ _ _)); (fail_if_success (with_reducible show wpAny _ _ (pyIter (Value.ref _)) _ _ _)))); (fail_if_success (with_reducible show LCg.CompSrc _ _ _ _ _ _ _ _ _ _ _ _ _ _)); (fail_if_success (with_reducible show LCg.CompEnd _ _ _ _ _ _ _ _ _ _ _ _ _ _)))); dsimp only; walk1) | ((((((fail_if_success (with_reducible show InvPostN _ _ _ _ _ _ _ _ _)); (fail_if_success (with_reducible show InvEndN _ _ _ _ _ _ _)); (fail_if_success (with_reducible show wpG _ _ _ _ _ _)); (fail_if_success (with_reducible show wpAny _ _ (pyIter (Value.ref _)) _ _ _)))); (fail_if_success (with_reducible show LCg.CompSrc _ _ _ _ _ _ _ _ _ _ _ _ _ _)); (fail_if_success (with_reducible show LCg.CompEnd _ _ _ _ _ _ _ _ _ _ _ _ _ _)))); leave1; walk_say "STEP leave1"; try dsimp only) | fail "no step"))
    refine wpG_call3 (P := fun h => (hd.heap_39 w.params).In h) (fun h X => keeps_K (by k_is) h X) (wpG_of ?_)
    (repeat' (first | (k_unfold; (try dsimp only)) | ((((((fail_if_success (with_reducible show InvPostN _ _ _ _ _ _ _ _ _)); (fail_if_success (with_reducible show InvEndN _ _ _ _ _ _ _)); (fail_if_success (with_reducible show wpG _ _ _ _ _ _)); (fail_if_success (with_reducible show wpAny _ _ (pyIter (Value.ref _)) _ _ _)))); (fail_if_success (with_reducible show LCg.CompSrc _ _ _ _ _ _ _ _ _ _ _ _ _ _)); (fail_if_success (with_reducible show LCg.CompEnd _ _ _ _ _ _ _ _ _ _ _ _ _ _)))); walk1) | ((((((fail_if_success (with_reducible show InvPostN _ _ _ _ _ _ _ _ _)); (fail_if_success (with_reducible show InvEndN _ _ _ _ _ _ _)); (fail_if_success (with_reducible show wpG _ _ _ _ _ _)); (fail_if_success (with_reducible show wpAny _ _ (pyIter (Value.ref _)) _ _ _)))); (fail_if_success (with_reducible show LCg.CompSrc _ _ _ _ _ _ _ _ _ _ _ _ _ _)); (fail_if_success (with_reducible show LCg.CompEnd _ _ _ _ _ _ _ _ _ _ _ _ _ _)))); dsimp only; walk1) | ((((((fail_if_success (with_reducible show InvPostN _ _ _ _ _ _ _ _ _)); (fail_if_success (with_reducible show InvEndN _ _ _ _ _ _ _)); (fail_if_success (with_reducible show wpG _ _ _ _ _ _)); (fail_if_success (with_reducible show wpAny _ _ (pyIter (Value.ref _)) _ _ _)))); (fail_if_success (with_reducible show LCg.CompSrc _ _ _ _ _ _ _ _ _ _ _ _ _ _)); (fail_if_success (with_reducible show LCg.CompEnd _ _ _ _ _ _ _ _ _ _ _ _ _ _)))); leave1; walk_say "STEP leave1"; try dsimp only) | fail "no step"))
    with_reducible refine wpG_of ?_
    (repeat' (first | (k_unfold; (try dsimp only)) | ((((((((((fail_if_success (with_reducible show InvPostN _ _ _ _ _ _ _ _ _)); (fail_if_success (with_reducible show InvEndN _ _ _ _ _ _ _)); (fail_if_success (with_reducible show wpG _ _ _ _ _ _)); (fail_if_success (with_reducible show wpAny _ _ (pyIter (Value.ref _)) _ _ _)))); (fail_if_success (with_reducible show LCg.CompSrc _ _ _ _ _ _ _ _ _ _ _ _ _ _)); (fail_if_success (with_reducible show LCg.CompEnd _ _ _ _ _ _ _ _ _ _ _ _ _ _)))); (fail_if_success (with_reducible show wpAny _ _ (eval (Expr.ListComp _ _ _ _) _) _ _ _)))); (fail_if_success (with_reducible show wpAny _ _ (call (Value.ref _) _) _ _ _)))); walk1) | ((((((((((fail_if_success (with_reducible show InvPostN _ _ _ _ _ _ _ _ _)); (fail_if_success (with_reducible show InvEndN _ _ _ _ _ _ _)); (fail_if_success (with_reducible show wpG _ _ _ _ _ _)); (fail_if_success (with_reducible show wpAny _ _ (pyIter (Value.ref _)) _ _ _)))); (fail_if_success (with_reducible show LCg.CompSrc _ _ _ _ _ _ _ _ _ _ _ _ _ _)); (fail_if_success (with_reducible show LCg.CompEnd _ _ _ _ _ _ _ _ _ _ _ _ _ _)))); (fail_if_success (with_reducible show wpAny _ _ (eval (Expr.ListComp _ _ _ _) _) _ _ _)))); (fail_if_success (with_reducible show wpAny _ _ (call (Value.ref _) _) _ _ _)))); dsimp only; walk1) | ((((((((((fail_if_success (with_reducible show InvPostN _ _ _ _ _ _ _ _ _)); (fail_if_success (with_reducible show InvEndN _ _ _ _ _ _ _)); (fail_if_success (with_reducible show wpG _ _ _ _ _ _)); (fail_if_success (with_reducible show wpAny _ _ (pyIter (Value.ref _)) _ _ _)))); (fail_if_success (with_reducible show LCg.CompSrc _ _ _ _ _ _ _ _ _ _ _ _ _ _)); (fail_if_success (with_reducible show LCg.CompEnd _ _ _ _ _ _ _ _ _ _ _ _ _ _)))); (fail_if_success (with_reducible show wpAny _ _ (eval (Expr.ListComp _ _ _ _) _) _ _ _)))); (fail_if_success (with_reducible show wpAny _ _ (call (Value.ref _) _) _ _ _)))); leave1; walk_say "STEP leave1"; try dsimp only) | fail "no step"))
    rename Fr _ _ _ _ => Fa
    rename News _ _ _ _ => Na
    refine root_call (by k_asm) (by k_asm) (by k_asm) (by k_asm) rfl (by ktr_room) (by ktr_units) (by walk_at "my:isl") hps (by omega) ?_
    intro ta ha tka keepa
    have Fb := Fr.keeps Fa keepa
    have Nb := News.grown Na keepa
    clear keepa Fa Na
    (try dsimp only)
    with_reducible refine wpG_of ?_
    (repeat' (first | (k_unfold; (try dsimp only)) | ((((((((((fail_if_success (with_reducible show InvPostN _ _ _ _ _ _ _ _ _)); (fail_if_success (with_reducible show InvEndN _ _ _ _ _ _ _)); (fail_if_success (with_reducible show wpG _ _ _ _ _ _)); (fail_if_success (with_reducible show wpAny _ _ (pyIter (Value.ref _)) _ _ _)))); (fail_if_success (with_reducible show LCg.CompSrc _ _ _ _ _ _ _ _ _ _ _ _ _ _)); (fail_if_success (with_reducible show LCg.CompEnd _ _ _ _ _ _ _ _ _ _ _ _ _ _)))); (fail_if_success (with_reducible show wpAny _ _ (eval (Expr.ListComp _ _ _ _) _) _ _ _)))); (fail_if_success (with_reducible show wpAny _ _ (call (Value.ref _) _) _ _ _)))); (first | (with_reducible (k_here; (with_reducible show wpAny _ _ (subscriptTail _ (Expr.Slice none none (some _) _) (Value.ref _) (Value.ref _)) _ _ _); k_dflt (refine' slice_blr (s := ⟨_, _, _, _, _⟩) ?q9F ?q9N ?q9l ?q9v ?q9z ?_; (case q9F => k_asm); (case q9N => k_asm); (case q9l => walk_at "my:isl"); (case q9v => walk_at "my:bytes"); (case q9z => walk_at "my:len"); k_whole); intro D9 ws9 h9 ba9 F9 N9 l9; (try k_lt l9))) | walk1)) | ((((((((((fail_if_success (with_reducible show InvPostN _ _ _ _ _ _ _ _ _)); (fail_if_success (with_reducible show InvEndN _ _ _ _ _ _ _)); (fail_if_success (with_reducible show wpG _ _ _ _ _ _)); (fail_if_success (with_reducible show wpAny _ _ (pyIter (Value.ref _)) _ _ _)))); (fail_if_success (with_reducible show LCg.CompSrc _ _ _ _ _ _ _ _ _ _ _ _ _ _)); (fail_if_success (with_reducible show LCg.CompEnd _ _ _ _ _ _ _ _ _ _ _ _ _ _)))); (fail_if_success (with_reducible show wpAny _ _ (eval (Expr.ListComp _ _ _ _) _) _ _ _)))); (fail_if_success (with_reducible show wpAny _ _ (call (Value.ref _) _) _ _ _)))); dsimp only; (first | (with_reducible (k_here; (with_reducible show wpAny _ _ (subscriptTail _ (Expr.Slice none none (some _) _) (Value.ref _) (Value.ref _)) _ _ _); k_dflt (refine' slice_blr (s := ⟨_, _, _, _, _⟩) ?q9F ?q9N ?q9l ?q9v ?q9z ?_; (case q9F => k_asm); (case q9N => k_asm); (case q9l => walk_at "my:isl"); (case q9v => walk_at "my:bytes"); (case q9z => walk_at "my:len"); k_whole); intro D9 ws9 h9 ba9 F9 N9 l9; (try k_lt l9))) | walk1)) | ((((((((((fail_if_success (with_reducible show InvPostN _ _ _ _ _ _ _ _ _)); (fail_if_success (with_reducible show InvEndN _ _ _ _ _ _ _)); (fail_if_success (with_reducible show wpG _ _ _ _ _ _)); (fail_if_success (with_reducible show wpAny _ _ (pyIter (Value.ref _)) _ _ _)))); (fail_if_success (with_reducible show LCg.CompSrc _ _ _ _ _ _ _ _ _ _ _ _ _ _)); (fail_if_success (with_reducible show LCg.CompEnd _ _ _ _ _ _ _ _ _ _ _ _ _ _)))); (fail_if_success (with_reducible show wpAny _ _ (eval (Expr.ListComp _ _ _ _) _) _ _ _)))); (fail_if_success (with_reducible show wpAny _ _ (call (Value.ref _) _) _ _ _)))); leave1; walk_say "STEP leave1"; try dsimp only) | fail "no step"))
    rename Fr _ _ _ _ => Fa
    rename News _ _ _ _ => Na
    (with_reducible rename BytesAre _ ps.reverse => hpr)
    refine root_call (by k_asm) (by k_asm) (by k_asm) (by k_asm) rfl (by ktr_room) (by ktr_units) (by walk_at "my:isl") hpr (by rw [List.length_reverse]; omega) ?_
    intro ta ha tka keepa
    have Fb := Fr.keeps Fa keepa
    have Nb := News.grown Na keepa
    clear keepa Fa Na
    (try dsimp only)
    (repeat' (first | (k_unfold; (try dsimp only)) | ((((((((((fail_if_success (with_reducible show InvPostN _ _ _ _ _ _ _ _ _)); (fail_if_success (with_reducible show InvEndN _ _ _ _ _ _ _)); (fail_if_success (with_reducible show wpG _ _ _ _ _ _)); (fail_if_success (with_reducible show wpAny _ _ (pyIter (Value.ref _)) _ _ _)))); (fail_if_success (with_reducible show LCg.CompSrc _ _ _ _ _ _ _ _ _ _ _ _ _ _)); (fail_if_success (with_reducible show LCg.CompEnd _ _ _ _ _ _ _ _ _ _ _ _ _ _)))); (fail_if_success (with_reducible show wpAny _ _ (eval (Expr.ListComp _ _ _ _) _) _ _ _)))); (fail_if_success (with_reducible show wpAny _ _ (call (Value.ref _) _) _ _ _)))); walk1) | ((((((((((fail_if_success (with_reducible show InvPostN _ _ _ _ _ _ _ _ _)); (fail_if_success (with_reducible show InvEndN _ _ _ _ _ _ _)); (fail_if_success (with_reducible show wpG _ _ _ _ _ _)); (fail_if_success (with_reducible show wpAny _ _ (pyIter (Value.ref _)) _ _ _)))); (fail_if_success (with_reducible show LCg.CompSrc _ _ _ _ _ _ _ _ _ _ _ _ _ _)); (fail_if_success (with_reducible show LCg.CompEnd _ _ _ _ _ _ _ _ _ _ _ _ _ _)))); (fail_if_success (with_reducible show wpAny _ _ (eval (Expr.ListComp _ _ _ _) _) _ _ _)))); (fail_if_success (with_reducible show wpAny _ _ (call (Value.ref _) _) _ _ _)))); dsimp only; walk1) | ((((((((((fail_if_success (with_reducible show InvPostN _ _ _ _ _ _ _ _ _)); (fail_if_success (with_reducible show InvEndN _ _ _ _ _ _ _)); (fail_if_success (with_reducible show wpG _ _ _ _ _ _)); (fail_if_success (with_reducible show wpAny _ _ (pyIter (Value.ref _)) _ _ _)))); (fail_if_success (with_reducible show LCg.CompSrc _ _ _ _ _ _ _ _ _ _ _ _ _ _)); (fail_if_success (with_reducible show LCg.CompEnd _ _ _ _ _ _ _ _ _ _ _ _ _ _)))); (fail_if_success (with_reducible show wpAny _ _ (eval (Expr.ListComp _ _ _ _) _) _ _ _)))); (fail_if_success (with_reducible show wpAny _ _ (call (Value.ref _) _) _ _ _)))); leave1; walk_say "STEP leave1"; try dsimp only) | fail "no step"))
    refine due_call (by k_asm) (by k_asm) (by k_asm) (by k_asm) rfl (by ktr_room) (by ktr_units) (by walk_at "my:isl") hyS hsl hsq (lawRoot_len _) (lawRoot_len _) ?_
    intro DD ws hZ tkZ hws keepa hDD hnew
    rename Fr _ _ _ _ => Fa
    rename News _ _ _ _ => Na
    have FZ := Fr.keeps Fa keepa
    have NZ := News.grown Na keepa
    clear keepa Fa Na
    (try dsimp only)
    have hdu : dueL (List.filter (fun q => !skips q) ps) (lawRoot ps) (lawRoot ps.reverse) = [T0, T1] ++ [T2, T3] := hT
    rw [hdu] at hws
    refine eq_bl (by walk_at "my:isl") ⟨_, hDD, rfl, _, rfl⟩ (by assumption) hws (by ktr_units) ?_
    rw [decide_eq_true rfl]
    exact post _ _ _ _ FZ
end Mine
theorem PySem.Challenge.cw_nq0013_01_holds : PySem.Challenge.rw_nq0013_01.Holds := by
  exact Mine.law1
