import PyProof.Rows.All
import Wide.All
import OpenK.AllK
import Wide.FinOn
import PySem.Challenge.RW_lc0007_01
set_option Elab.async false
section
open PySem PySem.W PyProof.Rows PySem.Calls
open Sem (wp)
set_option maxRecDepth 100000
set_option maxHeartbeats 8000000
namespace Mine
/-! A finer logic: as wpAny, but over those stacks alone in which no codec's builtin lies that holds a bytearray. -/
noncomputable def heldBy : Code → Bool
  | .builtin id _ => Builtin.Bytes.decodersThatHold.contains id
  | _ => false
noncomputable def Clean (l : List (Code × Pos)) : Prop := ∀ x ∈ l, heldBy x.1 = false
noncomputable def wpC {α : Type} (M : Model) (A : Around) (t : Sem α) (Q : α → Shared → Prop) (E : Value → Shared → Prop) (s : Shared) : Prop :=
  ∀ Γ p, Γ.In A → heldBy Γ.code = false → Clean Γ.below → wp M Γ t (fun a _ s' => Q a s') (fun e _ s' => E e s') p s
noncomputable def codeC (M : Model) (A : Around) (c : Code) (R : Result → Shared → Prop) (s : Shared) : Prop :=
  ∀ Γ p, Γ.code = c → Γ.Below A → Clean Γ.below → wpCode M Γ R p s
section
variable {α β : Type} {M : Model} {A : Around} {E : Value → Shared → Prop} {s : Shared}
theorem wpC_of {t : Sem α} {Q : α → Shared → Prop} (h : wpAny M A t Q E s) : wpC M A t Q E s := fun Γ p hΓ _ _ => h Γ p hΓ
theorem wpC_mono {t : Sem α} {Q Q' : α → Shared → Prop} {E' : Value → Shared → Prop} (h : wpC M A t Q E s) (hQ : ∀ a s, Q a s → Q' a s) (hE : ∀ e s, E e s → E' e s) : wpC M A t Q' E' s :=
  fun Γ p hΓ h1 h2 => Sem.wp_mono M Γ t (fun a _ s => hQ a s) (fun e _ s => hE e s) p s (h Γ p hΓ h1 h2)
theorem wpC_bind {m : Sem α} {f : α → Sem β} {Q : β → Shared → Prop} (h : wpC M A m (fun a s' => wpC M A (f a) Q E s') E s) : wpC M A (m >>= f) Q E s := fun Γ p hΓ h1 h2 => by
  rw [Sem.wp_bind']
  exact Sem.wp_mono M Γ m (fun a p' s' h' => h' Γ p' hΓ h1 h2) (fun _ _ _ h' => h') p s (h Γ p hΓ h1 h2)
theorem wpC_bindA {m : Sem α} {f : α → Sem β} {Q : β → Shared → Prop} (h : wpAny M A m (fun a s' => wpC M A (f a) Q E s') E s) : wpC M A (m >>= f) Q E s := wpC_bind (wpC_of h)
theorem wpC_pure {a : α} {Q : α → Shared → Prop} (h : Q a s) : wpC M A (pure a) Q E s := wpC_of (wpAny_pure h)
theorem wpC_holding {vs : List Value} {m : Sem α} {Q : α → Shared → Prop} (h : wpC M A m Q E s) : wpC M A (holding vs m) Q E s :=
  fun Γ p hΓ h1 h2 => by rw [Sem.wp_holding]; exact h Γ p hΓ h1 h2
theorem wpC_keep {vs : List Value} {m : Sem α} {Q : α → Shared → Prop} (h : wpC M A m Q E s) : wpC M A (m.keep vs) Q E s :=
  fun Γ p hΓ h1 h2 => by rw [Sem.wp_keep]; exact h Γ p hΓ h1 h2
theorem clean_enter {Γ : Ctx} {p : Pos} (h1 : heldBy Γ.code = false) (h2 : Clean Γ.below) : Clean ((Γ.code, p) :: Γ.below) := fun x hx => by
  rcases List.mem_cons.mp hx with rfl | hx
  · exact h1
  · exact h2 x hx
theorem wpC_runValue {c : Code} {Q : Value → Shared → Prop}
    (hc : codeC M A c (fun r s' => match r with | .ok (.ret v) => Q v s' | .ok _ => False | .error e => E e s') s) :
    wpC M A (runValue c) Q E s := fun Γ p hΓ h1 h2 => by rw [Sem.wp_runValue]; exact hc _ p rfl (hΓ.enter c none p (by intro x; cases x)) (clean_enter h1 h2)
theorem wpC_call {f : Value} {pos : List Value} {kw : List (Str × Value)} {Q : Value → Shared → Prop}
    (hc : codeC M A (.call f ⟨pos, kw⟩) (fun r s' => match r with | .ok (.ret v) => Q v s' | .ok _ => False | .error e => E e s') s) :
    wpC M A (call f pos kw) Q E s := wpC_runValue hc
theorem codeC_of_tree {c : Code} {R : Result → Shared → Prop} (hn : heldBy c = false)
    (h : wpC M (A.under c) (M.den c) (fun fin s' => match fin with | .done f => R (.ok f) s' | .again c' => c'.quiet = true ∧ codeC M A c' R s')
      (fun e s' => R (.error e) s') s) : codeC M A c R s := fun Γ p hc hΓ hb => by
  rw [wpCode_iff_wp, hc]
  refine Sem.wp_mono M Γ _ (fun fin p' s' h' => ?_) (fun _ _ _ h' => h') p s (h Γ p (hc ▸ hΓ.in) (hc ▸ hn) hb)
  cases fin with
  | done f => exact h'
  | again c' => exact ⟨h'.1, h'.2 (Γ.goto c') p' rfl (hΓ.goto c') hb⟩
theorem codeC_mono {c : Code} {R R' : Result → Shared → Prop} (h : codeC M A c R s) (hR : ∀ r s, R r s → R' r s) : codeC M A c R' s :=
  fun Γ p hc hΓ hb => wpCode_mono hR (h Γ p hc hΓ hb)

noncomputable def exportedLook (self : Value) : Code × Pos → Bool := fun
    | (.builtin "bytearray.__contains__" ⟨v :: _, _⟩, _) | (.builtin "bytearray.__mod__" ⟨v :: _, _⟩, _)
    | (.builtin "bytearray.__rmod__" ⟨_ :: v :: _, _⟩, _) | (.builtin "_struct.pack_into.held" ⟨v :: _, _⟩, _) => Builtin.Bytes.sameRef v self
    | (.builtin "bytearray.find.held" ⟨_ :: _ :: held, _⟩, _) => held.any (Builtin.Bytes.sameRef self)
    | (.builtin id ⟨v :: _, _⟩, _) => Builtin.Bytes.sameRef v self && Builtin.Bytes.decodersThatHold.contains id
    | _ => false
theorem exported_eq (self : Value) : Builtin.Bytes.exported self = (do return (← stack).any (exportedLook self)) := rfl
theorem exportedLook_false (self : Value) (c : Code) (p : Pos) (hg : c.isGuard = false) (hn : heldBy c = false) : exportedLook self (c, p) = false := by
  cases c with
  | builtin id args =>
    obtain ⟨pos, kw⟩ := args
    have h' : guardIds.contains id = false := hg
    have hn' : Builtin.Bytes.decodersThatHold.contains id = false := hn
    have n1 : ¬ id = "bytearray.__contains__" := by rintro rfl; revert h'; decide
    have n2 : ¬ id = "bytearray.__mod__" := by rintro rfl; revert h'; decide
    have n3 : ¬ id = "bytearray.__rmod__" := by rintro rfl; revert h'; decide
    have n4 : ¬ id = "_struct.pack_into.held" := by rintro rfl; revert h'; decide
    have n5 : ¬ id = "bytearray.find.held" := by rintro rfl; revert h'; decide
    delta exportedLook exportedLook.match_1
    with_unfolding_all refine (dif_neg n1).trans ?_
    with_unfolding_all refine (dif_neg n2).trans ?_
    with_unfolding_all refine (dif_neg n3).trans ?_
    with_unfolding_all refine (dif_neg n4).trans ?_
    with_unfolding_all refine (dif_neg n5).trans ?_
    cases pos with
    | nil => rfl
    | cons v l => show (Builtin.Bytes.sameRef v self && Builtin.Bytes.decodersThatHold.contains id) = false; rw [hn']; exact Bool.and_false _
  | _ => rfl
theorem wpC_exported {self : Value} {Q : Bool → Shared → Prop} (hg : A.guards = some []) (h : Q false s) : wpC M A (Builtin.Bytes.exported self) Q E s := fun Γ p hΓ h1 h2 => by
  rw [exported_eq]
  show Q (((Γ.code, p) :: Γ.below).any (exportedLook self)) s
  have e : ((Γ.code, p) :: Γ.below).any (exportedLook self) = false := by
    have hgs := hΓ.2.2.2.1 [] hg
    rw [← guardsOf_cons Γ.code p] at hgs
    have key : ∀ l : List (Code × Pos), guardsOf l = [] → Clean l → l.any (exportedLook self) = false := by
      intro l
      induction l with
      | nil => intros; rfl
      | cons x l ih =>
        obtain ⟨c, q⟩ := x
        intro hl hc
        rw [guardsOf_cons] at hl
        have hcg : c.isGuard = false := by
          cases e : c.isGuard with
          | false => rfl
          | true => simp [Code.guards, e] at hl
        have hl' : guardsOf l = [] := (List.append_eq_nil_iff.mp hl).2
        rw [List.any_cons, exportedLook_false self c q hcg (hc _ (.head _)), ih hl' fun y hy => hc y (.tail _ hy)]
        rfl
    exact key _ hgs (clean_enter h1 h2)
  rw [e]; exact h
end
theorem b_pos {b : Bool} {p q : Prop} (h : b = true) (hq : p) : if b = true then p else q := by rw [h]; exact hq
theorem b_neg {b : Bool} {p q : Prop} (h : b = false) (hq : q) : if b = true then p else q := by rw [h]; exact hq
end Mine
end
section
open PySem PySem.W PyProof.Rows PySem.Calls
open Sem (wp)
set_option maxRecDepth 100000
set_option maxHeartbeats 8000000
namespace Mine
/-! The head over clean stacks: as the library's own, but what the call owes is owed over clean stacks alone. -/
theorem caller_clean : heldBy (.builtin "claim.caller" {}) = false := by decide +kernel
theorem wp_of_wpC_done {M : Model} {t : Sem Fin} {R : Result → Shared → Prop} {s : Shared}
    (h : wpC M callerA t (fun fin s' => ∃ f, fin = .done f ∧ R (.ok f) s') (fun e s' => R (.error e) s') s) (p : Pos) :
    wp M ⟨.builtin "claim.caller" {}, none, none, [], none⟩ t (Sem.finPost M ⟨.builtin "claim.caller" {}, none, none, [], none⟩ R) (fun e _ s' => R (.error e) s') p s := by
  refine Sem.wp_mono M _ t (fun fin p' s' h' => ?_) (fun _ _ _ h' => h') p s (h _ p caller_in caller_clean fun x hx => nomatch hx)
  obtain ⟨f, rfl, hf⟩ := h'
  exact hf

theorem callFrom_clean {c : ClaimW} {tree : List Value → Sem Fin} {w : World} {s : Shared} {free : Addr → Prop} {gens : Prop} {kept : Heap → Prop} (hz : s.asleep) (hgens : s.gens = #[])
    (hspec : ∀ args, c.pre args = true → WData.layableAll args = true →
      ∀ ord : List DictEntry → List DictEntry, (∀ l, (ord l).Perm l) →
      ∃ vs s₁, layAllW c.records (classAt s.heap) w.params ord args s = some (vs, s₁) ∧
        wpC (model c.prog w) callerA (tree vs) (fun fin s' => ∃ f, fin = .done f ∧ (c.Ends s args vs s₁ (.ok f) s' ∧ s'.os = s.os ∧ AllBare s'.gens ∧ kept s'.heap))
          (fun e s' => c.Ends s args vs s₁ (.error e) s' ∧ s'.os = s.os ∧ AllBare s'.gens ∧ kept s'.heap) s₁) :
    c.CallFrom (fun vs => ⟨tree vs, .builtin "claim.caller" {}, default, []⟩) w free gens kept s := by
  intro args hpre hlay ord hord
  obtain ⟨vs, s₁, hlaid, hcode⟩ := hspec args hpre hlay ord hord
  have hal := layAllW_rest _ _ _ hlaid
  have hw := wp_of_wpC_done (R := fun r s' => (c.Ends s args vs s₁ r s' ∧ s'.os = s.os ∧ kept s'.heap) ∧ leftWithCleanup s'.gens = false)
    (wpC_mono hcode (fun fin s' ⟨f, e, h1, h2, h3, h4⟩ => ⟨f, e, ⟨h1, h2, h4⟩, leftWithCleanup_false_of_bare h3⟩) fun e s' ⟨h1, h2, h3, h4⟩ => ⟨⟨h1, h2, h4⟩, leftWithCleanup_false_of_bare h3⟩) default
  obtain ⟨k, r, s'', s', hsched, hrun, hfo, hcase, hos, hkp⟩ := wp_halts_full (M := model c.prog w) (R := fun r s' => c.Ends s args vs s₁ r s' ∧ s'.os = s.os ∧ kept s'.heap) (Shared.asleep_of_life hal.2.2.2 hz) hw
  obtain ⟨eh, _, _, eo, _⟩ := Shared.forget_eq hfo
  have hcase := hcase.congr eh
  have hkp : kept s'.heap := by rw [eh]; exact hkp
  rw [← eo] at hos
  have hlife : s'.heap.life = s.heap.life := (runN_life _ _ _ hrun).trans hal.2.2.2
  refine ⟨vs, s₁, hlaid, k, _, s', hsched, ?_, (fun _ i x hx => by rw [hgens] at hx; simp at hx), hkp, by rw [hlife], Shared.rest_eq hos⟩
  rcases hcase with ⟨v, rfl, d1, d2, d3, d4, d5⟩ | ⟨e, ob, cls, rfl, d1, d2, d3, d4, d5⟩
  · exact .inl ⟨v, rfl, d1, d2, d3, fun b o y _ => d4 b o y, d5⟩
  · exact .inr ⟨e, ob, cls, rfl, d1, d2, d3, d4, fun b o y _ => d5 b o y⟩

/-- what the walk owes: as the library's WalkO, over clean stacks -/
noncomputable abbrev WalkC (q : Program) (loose : List Str) (XP : (Str → Option Value) → Heap → Prop) (YP : World → Heap → Prop) (r : RowW) (d : DefRec) (kwd : List (Str × Expr)) : Prop :=
  ∀ (w : World) (s₀ s₁ : Shared) (mg mb : Str → Option Value), Ground q loose r.records XP w s₀ mg mb s₁.heap → YP w s₁.heap → ∀ (a : Addr) (o : Obj) (pm cd doc dV kV : Value), s₁.heap.get? a = some o →
    o.data = .func { docDef d.name d.params d.body d.scope pm cd doc with defaults := dV, kwdefaults := kV } → s₁.heap.CodeRec cd d.name → Dflts mg s₁.heap d.params kwd dV kV → mg d.name = some (.ref a) → s₁.gens = #[] →
    ∀ (args : List WData) (vals : List Value) (as : List Addr), r.claim.pre args = true → WData.layableAll args = true → ReadsAllW r.records (classAt s₀.heap) s₁.heap vals args as → WellAll w.params s₁.heap vals args → (∀ a ∈ as, (a == sysModules) = false) →
      wpC (model r.prog w) callerA (PySem.call (.ref a) vals) (fun v s' => GoodWG r.claim (classAt s₀.heap) (ExcName.means s₀.heap) args s₁ (.ok (.ret v)) s')
        (fun e s' => GoodWG r.claim (classAt s₀.heap) (ExcName.means s₀.heap) args s₁ (.error e) s') s₁

end Mine
open Mine in
theorem Mine.PySem.W.holds_open {r : OpenRow} {q : Program} {loose : List Str} {Xt : Shared → Bool} {XP : (Str → Option Value) → Heap → Prop} {α : Type} {Yf : Shared → α} {Ya : World → α} {YP : World → Heap → Prop} {d : DefRec} {kwd : List (Str × Expr)} {N : Nat}
    (left : LeftO r.prog q loose Xt Yf Ya N) (hY : ∀ w s, Yf s = Ya w → YP w s.heap) (hYk : ∀ w h h', YP w h → (∀ b o, h.get? b = some o → h'.get? b = some o) → YP w h')
    (hX : ∀ s, Xt s = true → XP (s.heap.nsMap mainGlobals) s.heap) (hXk : ∀ mg h h', XP mg h → (∀ b o, h.get? b = some o → h'.get? b = some o) → XP mg h')
    (hdef : defOf q r.name = some (d, kwd)) (hp : r.prog.theDef r.name = some (d.params, d.body, d.scope)) (hk : kwWritten? d.params.kwonlyargs d.params.kw_defaults = some kwd) (hRf : ∀ s, Xt s = true → RecFacts r.records s.heap) (hwr : (!r.writes || r.records.isEmpty) = true)
    (k1 : r.wellSaid = true) (ok : (chainsOk q && opensWell r.prog && (frees r.toRowW && r.within.isEmpty)) = true) (hb : r.prog.bare) (hw : r.toRowW.promised)
    (call : WalkC q loose XP YP r.toRowW d kwd) : r.Holds := by
  obtain ⟨ok, k5⟩ := Bool.and_eq_true_iff.mp ok
  obtain ⟨hch, o1⟩ := Bool.and_eq_true_iff.mp ok
  obtain ⟨k5, k6⟩ := Bool.and_eq_true_iff.mp k5
  obtain ⟨hsame, hu, ha, hap, hm⟩ := frees_parts k5
  refine ⟨k1, hw, ⟨hb, o1, by show r.toRowW.makers.map _ = []; rw [hm]; rfl⟩, hw.witness, fun w => ⟨(left.behind hX hch w).1, fun s' hs' => ?_⟩⟩
  obtain ⟨s₀, hf, hg0, s, hT, hz, hgens, hg, G00, y⟩ := (left.behind (XP := fun mg h => XP mg h ∧ RecFacts r.records h) (fun s hs => ⟨hX s hs, hRf s hs⟩) hch w).2 s' hs'
  have G0 : Ground q loose [] XP w s (s.heap.nsMap mainGlobals) (s.heap.nsMap builtinsNs) s.heap := ⟨G00.T, G00.B, G00.D, G00.TE, G00.TD, G00.W, G00.X.1, G00.cls, G00.has, G00.apart, G00.once, G00.K⟩
  have RF := G00.X.2
  have hgens : s.gens = #[] := Array.eq_empty_of_size_eq_zero (beq_iff_eq.mp hgens)
  have G : Ground q loose r.records XP w s _ _ s.heap := RF.ground G0
  refine ⟨s₀, hf, hg0, s, hT, fun n hn => ?_, RF.1, RF.2.1, ?_⟩
  · obtain rfl : n = r.name := by split at hn <;> simp_all
    exact pinned_of_view hg G0 hdef hp hk
  refine callFrom_clean (c := r.toRowW.claim) (tree := fun vs => do match ← nsGet mainNs r.name with
      | some f => do ret (← PySem.call f vs)
      | none => unsupported "claim.caller:no-such-global") hz hgens fun args hpre hlay ord hord => ?_
  obtain ⟨⟨vs, s₁⟩, hlaid⟩ := Option.isSome_iff_exists.mp (layAllW_isSome (P := w.params) (ord := ord) G.has args r.args s (pre_splitW hpre).1)
  have keeps := layAllW_keeps _ _ _ hlaid
  have hal := layAllW_rest _ _ _ hlaid
  obtain ⟨as, hrd, hin, hold⟩ := reads_layAllW hord _ _ _ hlaid hlay s₁.heap (fun _ _ e => e)
  have L : Laid r.records w s s₁ args vs as := ⟨⟨ord, hord, hlaid⟩, hrd, hin, hold, keeps, hal.1.trans hgens, hal.2.2.1⟩
  have G₁ := G.keeps hXk keeps
  obtain ⟨a, o, pm, cd, doc, dV, kV, h1, h2, h3, h4, h5⟩ := G₁.fn hdef
  have h := call w s s₁ _ _ G₁ (hYk _ _ _ (hY w s y) keeps) a o pm cd doc dV kV h2 h3 h4 h5 (defOf_name hdef ▸ h1) L.gens args vs as hpre hlay L.reads L.well (L.low G.low)
  have hi := ident_freeW hu ha hap
  have hwi : r.toRowW.claim.within = [] := List.isEmpty_iff.mp k6
  refine ⟨vs, s₁, hlaid, wpC_bindA (wpAny_nsGet G₁.T.g ?_)⟩
  rw [h1]
  refine wpC_bind (wpC_mono h (fun v s' g => wpC_pure ⟨_, rfl, ?_⟩) fun e s' g => ?_)
  · have z := g.laid (c := r.toRowW.claim) hsame hwi hi L
    exact ⟨z.1, z.2.1, z.2.2, fun q => ⟨namesKept_of hT hg r.keeps keeps g.2.1.old, noTable hwr q⟩⟩
  · have z := g.laid (c := r.toRowW.claim) hsame hwi hi L
    exact ⟨z.1, z.2.1, z.2.2, fun q => ⟨namesKept_of hT hg r.keeps keeps g.2.1.old, noTable hwr q⟩⟩
end
section
open PySem PySem.W PyProof.Rows PySem.Calls
set_option maxRecDepth 100000
set_option maxHeartbeats 8000000
set_option linter.unusedVariables false
namespace Mine
noncomputable def stAt : List Stmt → Nat → Stmt
  | [], _ => .Pass ⟨0, 0, 0, 0⟩
  | s :: _, 0 => s
  | _ :: r, n + 1 => stAt r n
noncomputable def topSt (i : Nat) : Stmt := stAt PySem.Challenge.pw_lc0007_01.main.body i
noncomputable def clsSts : Stmt → List Stmt
  | .ClassDef _ _ _ b _ _ _ _ _ _ _ => b
  | _ => []
noncomputable def inCls (i j : Nat) : Stmt := stAt (clsSts (topSt i)) j
noncomputable def noArgs : Arguments := { posonlyargs := [], args := [], vararg := none, kwonlyargs := [], kw_defaults := [], kwarg := none, defaults := [] }
noncomputable def noScope : Scope := { kind := .function, names := [], isGenerator := false, isCoroutine := false }
noncomputable def fParams : Stmt → Arguments
  | .FunctionDef _ a _ _ _ _ _ _ _ _ => a
  | _ => noArgs
noncomputable def fBody : Stmt → List Stmt
  | .FunctionDef _ _ b _ _ _ _ _ _ _ => b
  | _ => []
noncomputable def fScope : Stmt → Scope
  | .FunctionDef _ _ _ _ _ _ s _ _ _ => s
  | _ => noScope

noncomputable def K (P : Params) : Frag :=
Prod.mk (nat_lit 2) ({ cls := Value.none, data := Data.dict #[{ hash := PyData.keyHash P (Str.ofString "type.__subclasses__.Exception.0"), key := Value.str (Str.ofString "type.__subclasses__.Exception.0") 212, val := Value.int 31 0 }, { hash := PyData.keyHash P (Str.ofString "type.__subclasses__.Exception.n"), key := Value.str (Str.ofString "type.__subclasses__.Exception.n") 213, val := Value.int 1 0 }, { hash := PyData.keyHash P (Str.ofString "type.__subclasses__.EOFError.0"), key := Value.str (Str.ofString "type.__subclasses__.EOFError.0") 248, val := Value.int 56 0 }, { hash := PyData.keyHash P (Str.ofString "type.__subclasses__.EOFError.n"), key := Value.str (Str.ofString "type.__subclasses__.EOFError.n") 249, val := Value.int 1 0 }, { hash := PyData.keyHash P (Str.ofString "type.__subclasses__.OSError.0"), key := Value.str (Str.ofString "type.__subclasses__.OSError.0") 376, val := Value.int 141 0 }, { hash := PyData.keyHash P (Str.ofString "type.__subclasses__.OSError.n"), key := Value.str (Str.ofString "type.__subclasses__.OSError.n") 377, val := Value.int 1 0 }] 6 } : Obj) ::
Prod.mk (nat_lit 3) ({ cls := Value.type "dict", data := Data.dict #[{ hash := PyData.keyHash P (Str.ofString "__name__"), key := Value.str (Str.ofString "__name__") 165, val := Value.str (Str.ofString "law_lc0007_01") 1008 }, { hash := PyData.keyHash P (Str.ofString "__doc__"), key := Value.str (Str.ofString "__doc__") 166, val := Value.none }, { hash := PyData.keyHash P (Str.ofString "__package__"), key := Value.str (Str.ofString "__package__") 167, val := Value.none }, { hash := PyData.keyHash P (Str.ofString "__loader__"), key := Value.str (Str.ofString "__loader__") 168, val := Value.builtin "__main__.__loader__#opaque" }, { hash := PyData.keyHash P (Str.ofString "__spec__"), key := Value.str (Str.ofString "__spec__") 169, val := Value.none }, { hash := PyData.keyHash P (Str.ofString "__annotations__"), key := Value.str (Str.ofString "__annotations__") 170, val := Value.ref 6 }, { hash := PyData.keyHash P (Str.ofString "__builtins__"), key := Value.str (Str.ofString "__builtins__") 171, val := Value.ref 4 }, { hash := PyData.keyHash P (Str.ofString "__file__"), key := Value.str (Str.ofString "__file__") 173, val := Value.str (Str.ofString "/claim/cut.py") 172 }, { hash := PyData.keyHash P (Str.ofString "__cached__"), key := Value.str (Str.ofString "__cached__") 174, val := Value.none }, { hash := PyData.keyHash P (Str.ofString "_wall"), key := Value.str (Str.ofString "_wall") 193, val := Value.ref 21 }, { hash := PyData.keyHash P (Str.ofString "PSException"), key := Value.str (Str.ofString "PSException") 215, val := Value.ref 31 }, { hash := PyData.keyHash P (Str.ofString "PDFException"), key := Value.str (Str.ofString "PDFException") 233, val := Value.ref 44 }, { hash := PyData.keyHash P (Str.ofString "PDFEOFError"), key := Value.str (Str.ofString "PDFEOFError") 251, val := Value.ref 56 }, { hash := PyData.keyHash P (Str.ofString "cast"), key := Value.str (Str.ofString "cast") 261, val := Value.ref 65 }, { hash := PyData.keyHash P (Str.ofString "CorruptDataError"), key := Value.str (Str.ofString "CorruptDataError") 279, val := Value.ref 75 }, { hash := PyData.keyHash P (Str.ofString "LZWDecoder"), key := Value.str (Str.ofString "LZWDecoder") 339, val := Value.ref 113 }, { hash := PyData.keyHash P (Str.ofString "_whence"), key := Value.str (Str.ofString "_whence") 349, val := Value.ref 124 }, { hash := PyData.keyHash P (Str.ofString "_index"), key := Value.str (Str.ofString "_index") 357, val := Value.ref 131 }, { hash := PyData.keyHash P (Str.ofString "UnsupportedOperation"), key := Value.str (Str.ofString "UnsupportedOperation") 379, val := Value.ref 141 }, { hash := PyData.keyHash P (Str.ofString "IOBase"), key := Value.str (Str.ofString "IOBase") 411, val := Value.ref 161 }, { hash := PyData.keyHash P (Str.ofString "BufferedIOBase"), key := Value.str (Str.ofString "BufferedIOBase") 429, val := Value.ref 176 }, { hash := PyData.keyHash P (Str.ofString "TextIOBase"), key := Value.str (Str.ofString "TextIOBase") 447, val := Value.ref 188 }, { hash := PyData.keyHash P (Str.ofString "BytesIO"), key := Value.str (Str.ofString "BytesIO") 709, val := Value.ref 418 }, { hash := PyData.keyHash P (Str.ofString "StringIO"), key := Value.str (Str.ofString "StringIO") 996, val := Value.ref 665 }, { hash := PyData.keyHash P (Str.ofString "lzwdecode"), key := Value.str (Str.ofString "lzwdecode") 1007, val := Value.ref 674 }, { hash := PyData.keyHash P (Str.ofString "_law_wishes"), key := Value.str (Str.ofString "_law_wishes") 1021, val := Value.ref 681 }, { hash := PyData.keyHash P (Str.ofString "law"), key := Value.str (Str.ofString "law") 1049, val := Value.ref 688 }] 27 } : Obj) ::
Prod.mk (nat_lit 15) ({ cls := Value.type "tuple", data := Data.seq #[] } : Obj) ::
Prod.mk (nat_lit 17) ({ cls := Value.type "tuple", data := Data.seq #[Value.str (Str.ofString "k") 190] } : Obj) ::
Prod.mk (nat_lit 18) ({ cls := Value.type "tuple", data := Data.seq #[] } : Obj) ::
Prod.mk (nat_lit 20) ({ cls := Value.type "code", data := Data.fields #[Value.str (Str.ofString "_wall") 187, Value.str (Str.ofString "_wall") 188, Value.str (Str.ofString "/claim/cut.py") 189, Value.int 1 0, Value.int 1 0, Value.int 0 0, Value.int 0 0, Value.int 3 0, Value.ref 15, Value.bool true, Value.int 181 0, Value.ref 16, Value.none, Value.ref 17, Value.ref 18, Value.ref 19, Value.int 191 0, Value.int 1 0, Value.str (Str.ofString "/claim/cut.py") 192] } : Obj) ::
Prod.mk (nat_lit 21) ({ cls := Value.type "function", data := Data.func { name := Str.ofString "_wall", qualname := Str.ofString "_wall", params := (fParams (topSt 0)), body := (.stmts (fBody (topSt 0))), scope := (fScope (topSt 0)), globals := 3, closure := [], defaults := Value.none, kwdefaults := Value.none, pyModule := Value.str (Str.ofString "__main__") 164, code := Value.ref 20 } } : Obj) ::
Prod.mk (nat_lit 22) ({ cls := Value.type "tuple", data := Data.seq #[Value.type "Exception"] } : Obj) ::
Prod.mk (nat_lit 29) ({ cls := Value.type "tuple", data := Data.seq #[] } : Obj) ::
Prod.mk (nat_lit 30) ({ cls := Value.type "dict", data := Data.dict #[{ hash := PyData.keyHash P (Str.ofString "__module__"), key := Value.str (Str.ofString "__module__") 203, val := Value.str (Str.ofString "pdfminer.psexceptions") 194 }, { hash := PyData.keyHash P (Str.ofString "__firstlineno__"), key := Value.str (Str.ofString "__firstlineno__") 207, val := Value.int 5 206 }, { hash := PyData.keyHash P (Str.ofString "__static_attributes__"), key := Value.str (Str.ofString "__static_attributes__") 208, val := Value.ref 29 }, { hash := PyData.keyHash P (Str.ofString "__weakref__"), key := Value.str (Str.ofString "__weakref__") 210, val := Value.ref 32 }, { hash := PyData.keyHash P (Str.ofString "__doc__"), key := Value.str (Str.ofString "__doc__") 211, val := Value.none }] 3 } : Obj) ::
Prod.mk (nat_lit 31) ({ cls := Value.type "type", data := Data.cls { name := Str.ofString "PSException", bases := [Value.type "Exception"], mro := [Value.ref 31, Value.type "Exception", Value.type "BaseException", Value.type "object"], ns := 30, qualname := Str.ofString "PSException", subclasses := [Value.ref 44] }, slots := #[some (Value.ref 22), none, some (Value.str (Str.ofString "PSException") 196), some (Value.str (Str.ofString "PSException") 204), some (Value.builtin "Exception.__new__"), some (Value.bool true)] } : Obj) ::
Prod.mk (nat_lit 32) ({ cls := Value.type "getset_descriptor", data := Data.fields #[Value.str (Str.ofString "__weakref__") 209, Value.ref 31, Value.builtin "ExceptionGroup.__weakref__", Value.none] } : Obj) ::
Prod.mk (nat_lit 35) ({ cls := Value.type "tuple", data := Data.seq #[Value.ref 31] } : Obj) ::
Prod.mk (nat_lit 42) ({ cls := Value.type "tuple", data := Data.seq #[] } : Obj) ::
Prod.mk (nat_lit 43) ({ cls := Value.type "dict", data := Data.dict #[{ hash := PyData.keyHash P (Str.ofString "__module__"), key := Value.str (Str.ofString "__module__") 225, val := Value.str (Str.ofString "pdfminer.pdfexceptions") 216 }, { hash := PyData.keyHash P (Str.ofString "__firstlineno__"), key := Value.str (Str.ofString "__firstlineno__") 229, val := Value.int 8 228 }, { hash := PyData.keyHash P (Str.ofString "__static_attributes__"), key := Value.str (Str.ofString "__static_attributes__") 230, val := Value.ref 42 }, { hash := PyData.keyHash P (Str.ofString "__doc__"), key := Value.str (Str.ofString "__doc__") 231, val := Value.none }] 2 } : Obj) ::
Prod.mk (nat_lit 44) ({ cls := Value.type "type", data := Data.cls { name := Str.ofString "PDFException", bases := [Value.ref 31], mro := [Value.ref 44, Value.ref 31, Value.type "Exception", Value.type "BaseException", Value.type "object"], ns := 43, qualname := Str.ofString "PDFException", subclasses := [Value.ref 56, Value.ref 75] }, slots := #[some (Value.ref 35), none, some (Value.str (Str.ofString "PDFException") 218), some (Value.str (Str.ofString "PDFException") 226), some (Value.builtin "Exception.__new__"), some (Value.bool true)] } : Obj) ::
Prod.mk (nat_lit 47) ({ cls := Value.type "tuple", data := Data.seq #[Value.ref 44, Value.type "EOFError"] } : Obj) ::
Prod.mk (nat_lit 54) ({ cls := Value.type "tuple", data := Data.seq #[] } : Obj) ::
Prod.mk (nat_lit 55) ({ cls := Value.type "dict", data := Data.dict #[{ hash := PyData.keyHash P (Str.ofString "__module__"), key := Value.str (Str.ofString "__module__") 241, val := Value.str (Str.ofString "pdfminer.pdfexceptions") 216 }, { hash := PyData.keyHash P (Str.ofString "__firstlineno__"), key := Value.str (Str.ofString "__firstlineno__") 245, val := Value.int 10 244 }, { hash := PyData.keyHash P (Str.ofString "__static_attributes__"), key := Value.str (Str.ofString "__static_attributes__") 246, val := Value.ref 54 }, { hash := PyData.keyHash P (Str.ofString "__doc__"), key := Value.str (Str.ofString "__doc__") 247, val := Value.none }] 2 } : Obj) ::
Prod.mk (nat_lit 56) ({ cls := Value.type "type", data := Data.cls { name := Str.ofString "PDFEOFError", bases := [Value.ref 44, Value.type "EOFError"], mro := [Value.ref 56, Value.ref 44, Value.ref 31, Value.type "EOFError", Value.type "Exception", Value.type "BaseException", Value.type "object"], ns := 55, qualname := Str.ofString "PDFEOFError" }, slots := #[some (Value.ref 47), none, some (Value.str (Str.ofString "PDFEOFError") 234), some (Value.str (Str.ofString "PDFEOFError") 242), some (Value.builtin "Exception.__new__"), some (Value.bool true)] } : Obj) ::
Prod.mk (nat_lit 59) ({ cls := Value.type "tuple", data := Data.seq #[] } : Obj) ::
Prod.mk (nat_lit 61) ({ cls := Value.type "tuple", data := Data.seq #[Value.str (Str.ofString "kind") 257, Value.str (Str.ofString "value") 258] } : Obj) ::
Prod.mk (nat_lit 62) ({ cls := Value.type "tuple", data := Data.seq #[] } : Obj) ::
Prod.mk (nat_lit 64) ({ cls := Value.type "code", data := Data.fields #[Value.str (Str.ofString "cast") 254, Value.str (Str.ofString "cast") 255, Value.str (Str.ofString "/claim/cut.py") 256, Value.int 13 0, Value.int 2 0, Value.int 0 0, Value.int 0 0, Value.int 3 0, Value.ref 59, Value.bool true, Value.int 181 0, Value.ref 60, Value.none, Value.ref 61, Value.ref 62, Value.ref 63, Value.int 259 0, Value.int 13 0, Value.str (Str.ofString "/claim/cut.py") 260] } : Obj) ::
Prod.mk (nat_lit 65) ({ cls := Value.type "function", data := Data.func { name := Str.ofString "cast", qualname := Str.ofString "cast", params := (fParams (topSt 7)), body := (.stmts (fBody (topSt 7))), scope := (fScope (topSt 7)), globals := 3, closure := [], defaults := Value.none, kwdefaults := Value.none, pyModule := Value.str (Str.ofString "pdfminer.stand_ins") 252, code := Value.ref 64 } } : Obj) ::
Prod.mk (nat_lit 66) ({ cls := Value.type "tuple", data := Data.seq #[Value.ref 44] } : Obj) ::
Prod.mk (nat_lit 73) ({ cls := Value.type "tuple", data := Data.seq #[] } : Obj) ::
Prod.mk (nat_lit 74) ({ cls := Value.type "dict", data := Data.dict #[{ hash := PyData.keyHash P (Str.ofString "__module__"), key := Value.str (Str.ofString "__module__") 271, val := Value.str (Str.ofString "pdfminer.lzw") 262 }, { hash := PyData.keyHash P (Str.ofString "__firstlineno__"), key := Value.str (Str.ofString "__firstlineno__") 275, val := Value.int 16 274 }, { hash := PyData.keyHash P (Str.ofString "__static_attributes__"), key := Value.str (Str.ofString "__static_attributes__") 276, val := Value.ref 73 }, { hash := PyData.keyHash P (Str.ofString "__doc__"), key := Value.str (Str.ofString "__doc__") 277, val := Value.none }] 2 } : Obj) ::
Prod.mk (nat_lit 75) ({ cls := Value.type "type", data := Data.cls { name := Str.ofString "CorruptDataError", bases := [Value.ref 44], mro := [Value.ref 75, Value.ref 44, Value.ref 31, Value.type "Exception", Value.type "BaseException", Value.type "object"], ns := 74, qualname := Str.ofString "CorruptDataError" }, slots := #[some (Value.ref 66), none, some (Value.str (Str.ofString "CorruptDataError") 264), some (Value.str (Str.ofString "CorruptDataError") 272), some (Value.builtin "Exception.__new__"), some (Value.bool true)] } : Obj) ::
Prod.mk (nat_lit 85) ({ cls := Value.type "tuple", data := Data.seq #[] } : Obj) ::
Prod.mk (nat_lit 87) ({ cls := Value.type "tuple", data := Data.seq #[Value.str (Str.ofString "self") 295, Value.str (Str.ofString "fp") 296] } : Obj) ::
Prod.mk (nat_lit 88) ({ cls := Value.type "tuple", data := Data.seq #[] } : Obj) ::
Prod.mk (nat_lit 90) ({ cls := Value.type "code", data := Data.fields #[Value.str (Str.ofString "__init__") 292, Value.str (Str.ofString "LZWDecoder.__init__") 293, Value.str (Str.ofString "/claim/cut.py") 294, Value.int 20 0, Value.int 2 0, Value.int 0 0, Value.int 0 0, Value.int 3 0, Value.ref 85, Value.bool true, Value.int 181 0, Value.ref 86, Value.none, Value.ref 87, Value.ref 88, Value.ref 89, Value.int 297 0, Value.int 20 0, Value.str (Str.ofString "/claim/cut.py") 298] } : Obj) ::
Prod.mk (nat_lit 91) ({ cls := Value.type "function", data := Data.func { name := Str.ofString "__init__", qualname := Str.ofString "LZWDecoder.__init__", params := (fParams (inCls 10 0)), body := (.stmts (fBody (inCls 10 0))), scope := (fScope (inCls 10 0)), globals := 3, closure := [], defaults := Value.none, kwdefaults := Value.none, pyModule := Value.str (Str.ofString "pdfminer.lzw") 262, code := Value.ref 90 } } : Obj) ::
Prod.mk (nat_lit 92) ({ cls := Value.type "tuple", data := Data.seq #[] } : Obj) ::
Prod.mk (nat_lit 94) ({ cls := Value.type "tuple", data := Data.seq #[Value.str (Str.ofString "self") 303, Value.str (Str.ofString "bits") 304, Value.str (Str.ofString "v") 305, Value.str (Str.ofString "r") 306, Value.str (Str.ofString "x") 307] } : Obj) ::
Prod.mk (nat_lit 95) ({ cls := Value.type "tuple", data := Data.seq #[] } : Obj) ::
Prod.mk (nat_lit 97) ({ cls := Value.type "code", data := Data.fields #[Value.str (Str.ofString "readbits") 300, Value.str (Str.ofString "LZWDecoder.readbits") 301, Value.str (Str.ofString "/claim/cut.py") 302, Value.int 28 0, Value.int 2 0, Value.int 0 0, Value.int 0 0, Value.int 3 0, Value.ref 92, Value.bool true, Value.int 181 0, Value.ref 93, Value.none, Value.ref 94, Value.ref 95, Value.ref 96, Value.int 308 0, Value.int 28 0, Value.str (Str.ofString "/claim/cut.py") 309] } : Obj) ::
Prod.mk (nat_lit 98) ({ cls := Value.type "function", data := Data.func { name := Str.ofString "readbits", qualname := Str.ofString "LZWDecoder.readbits", params := (fParams (inCls 10 1)), body := (.stmts (fBody (inCls 10 1))), scope := (fScope (inCls 10 1)), globals := 3, closure := [], defaults := Value.none, kwdefaults := Value.none, pyModule := Value.str (Str.ofString "pdfminer.lzw") 262, code := Value.ref 97 } } : Obj) ::
Prod.mk (nat_lit 99) ({ cls := Value.type "tuple", data := Data.seq #[] } : Obj) ::
Prod.mk (nat_lit 102) ({ cls := Value.type "code", data := Data.fields #[Value.str (Str.ofString "feed") 311, Value.str (Str.ofString "LZWDecoder.feed") 312, Value.str (Str.ofString "/claim/cut.py") 313, Value.int 46 0, Value.int 2 0, Value.int 0 0, Value.int 0 0, Value.int 3 0, Value.ref 99, Value.bool true, Value.int 181 0, Value.ref 100, Value.none, Value.none, Value.none, Value.ref 101, Value.int 314 0, Value.int 46 0, Value.str (Str.ofString "/claim/cut.py") 315] } : Obj) ::
Prod.mk (nat_lit 103) ({ cls := Value.type "function", data := Data.func { name := Str.ofString "feed", qualname := Str.ofString "LZWDecoder.feed", params := (fParams (inCls 10 2)), body := (.stmts (fBody (inCls 10 2))), scope := (fScope (inCls 10 2)), globals := 3, closure := [], defaults := Value.none, kwdefaults := Value.none, pyModule := Value.str (Str.ofString "pdfminer.lzw") 262, code := Value.ref 102 } } : Obj) ::
Prod.mk (nat_lit 104) ({ cls := Value.type "tuple", data := Data.seq #[] } : Obj) ::
Prod.mk (nat_lit 106) ({ cls := Value.type "tuple", data := Data.seq #[Value.str (Str.ofString "self") 320, Value.str (Str.ofString "code") 321, Value.str (Str.ofString "x") 322] } : Obj) ::
Prod.mk (nat_lit 107) ({ cls := Value.type "tuple", data := Data.seq #[] } : Obj) ::
Prod.mk (nat_lit 109) ({ cls := Value.type "code", data := Data.fields #[Value.str (Str.ofString "run") 317, Value.str (Str.ofString "LZWDecoder.run") 318, Value.str (Str.ofString "/claim/cut.py") 319, Value.int 77 0, Value.int 1 0, Value.int 0 0, Value.int 0 0, Value.int 35 0, Value.ref 104, Value.bool true, Value.int 181 0, Value.ref 105, Value.none, Value.ref 106, Value.ref 107, Value.ref 108, Value.int 323 0, Value.int 77 0, Value.str (Str.ofString "/claim/cut.py") 324] } : Obj) ::
Prod.mk (nat_lit 110) ({ cls := Value.type "function", data := Data.func { name := Str.ofString "run", qualname := Str.ofString "LZWDecoder.run", params := (fParams (inCls 10 3)), body := (.stmts (fBody (inCls 10 3))), scope := (fScope (inCls 10 3)), globals := 3, closure := [], defaults := Value.none, kwdefaults := Value.none, pyModule := Value.str (Str.ofString "pdfminer.lzw") 262, code := Value.ref 109 } } : Obj) ::
Prod.mk (nat_lit 111) ({ cls := Value.type "tuple", data := Data.seq #[Value.str (Str.ofString "bpos") 326, Value.str (Str.ofString "buff") 327, Value.str (Str.ofString "fp") 328, Value.str (Str.ofString "nbits") 329, Value.str (Str.ofString "prevbuf") 330, Value.str (Str.ofString "table") 331] } : Obj) ::
Prod.mk (nat_lit 112) ({ cls := Value.type "dict", data := Data.dict #[{ hash := PyData.keyHash P (Str.ofString "__module__"), key := Value.str (Str.ofString "__module__") 287, val := Value.str (Str.ofString "pdfminer.lzw") 262 }, { hash := PyData.keyHash P (Str.ofString "__firstlineno__"), key := Value.str (Str.ofString "__firstlineno__") 291, val := Value.int 18 290 }, { hash := PyData.keyHash P (Str.ofString "__init__"), key := Value.str (Str.ofString "__init__") 299, val := Value.ref 91 }, { hash := PyData.keyHash P (Str.ofString "readbits"), key := Value.str (Str.ofString "readbits") 310, val := Value.ref 98 }, { hash := PyData.keyHash P (Str.ofString "feed"), key := Value.str (Str.ofString "feed") 316, val := Value.ref 103 }, { hash := PyData.keyHash P (Str.ofString "run"), key := Value.str (Str.ofString "run") 325, val := Value.ref 110 }, { hash := PyData.keyHash P (Str.ofString "__static_attributes__"), key := Value.str (Str.ofString "__static_attributes__") 332, val := Value.ref 111 }, { hash := PyData.keyHash P (Str.ofString "__dict__"), key := Value.str (Str.ofString "__dict__") 334, val := Value.ref 114 }, { hash := PyData.keyHash P (Str.ofString "__weakref__"), key := Value.str (Str.ofString "__weakref__") 336, val := Value.ref 115 }, { hash := PyData.keyHash P (Str.ofString "__doc__"), key := Value.str (Str.ofString "__doc__") 337, val := Value.none }] 4 } : Obj) ::
Prod.mk (nat_lit 113) ({ cls := Value.type "type", data := Data.cls { name := Str.ofString "LZWDecoder", bases := [Value.type "object"], mro := [Value.ref 113, Value.type "object"], ns := 112, qualname := Str.ofString "LZWDecoder" }, slots := #[none, none, some (Value.str (Str.ofString "LZWDecoder") 280), some (Value.str (Str.ofString "LZWDecoder") 288), some (Value.builtin "object.__new__"), some (Value.bool true)] } : Obj) ::
Prod.mk (nat_lit 114) ({ cls := Value.type "getset_descriptor", data := Data.fields #[Value.str (Str.ofString "__dict__") 333, Value.ref 113, Value.builtin "function.__dict__", Value.builtin "function.__dict__#set"] } : Obj) ::
Prod.mk (nat_lit 115) ({ cls := Value.type "getset_descriptor", data := Data.fields #[Value.str (Str.ofString "__weakref__") 335, Value.ref 113, Value.builtin "ExceptionGroup.__weakref__", Value.none] } : Obj) ::
Prod.mk (nat_lit 118) ({ cls := Value.type "tuple", data := Data.seq #[] } : Obj) ::
Prod.mk (nat_lit 120) ({ cls := Value.type "tuple", data := Data.seq #[Value.str (Str.ofString "n") 345, Value.str (Str.ofString "what") 346] } : Obj) ::
Prod.mk (nat_lit 121) ({ cls := Value.type "tuple", data := Data.seq #[] } : Obj) ::
Prod.mk (nat_lit 123) ({ cls := Value.type "code", data := Data.fields #[Value.str (Str.ofString "_whence") 342, Value.str (Str.ofString "_whence") 343, Value.str (Str.ofString "/claim/cut.py") 344, Value.int 89 0, Value.int 2 0, Value.int 0 0, Value.int 0 0, Value.int 3 0, Value.ref 118, Value.bool true, Value.int 181 0, Value.ref 119, Value.none, Value.ref 120, Value.ref 121, Value.ref 122, Value.int 347 0, Value.int 89 0, Value.str (Str.ofString "/claim/cut.py") 348] } : Obj) ::
Prod.mk (nat_lit 124) ({ cls := Value.type "function", data := Data.func { name := Str.ofString "_whence", qualname := Str.ofString "_whence", params := (fParams (topSt 12)), body := (.stmts (fBody (topSt 12))), scope := (fScope (topSt 12)), globals := 3, closure := [], defaults := Value.none, kwdefaults := Value.none, pyModule := Value.str (Str.ofString "io") 340, code := Value.ref 123 } } : Obj) ::
Prod.mk (nat_lit 125) ({ cls := Value.type "tuple", data := Data.seq #[] } : Obj) ::
Prod.mk (nat_lit 127) ({ cls := Value.type "tuple", data := Data.seq #[Value.str (Str.ofString "n") 353, Value.str (Str.ofString "what") 354] } : Obj) ::
Prod.mk (nat_lit 128) ({ cls := Value.type "tuple", data := Data.seq #[] } : Obj) ::
Prod.mk (nat_lit 130) ({ cls := Value.type "code", data := Data.fields #[Value.str (Str.ofString "_index") 350, Value.str (Str.ofString "_index") 351, Value.str (Str.ofString "/claim/cut.py") 352, Value.int 94 0, Value.int 2 0, Value.int 0 0, Value.int 0 0, Value.int 3 0, Value.ref 125, Value.bool true, Value.int 181 0, Value.ref 126, Value.none, Value.ref 127, Value.ref 128, Value.ref 129, Value.int 355 0, Value.int 94 0, Value.str (Str.ofString "/claim/cut.py") 356] } : Obj) ::
Prod.mk (nat_lit 131) ({ cls := Value.type "function", data := Data.func { name := Str.ofString "_index", qualname := Str.ofString "_index", params := (fParams (topSt 13)), body := (.stmts (fBody (topSt 13))), scope := (fScope (topSt 13)), globals := 3, closure := [], defaults := Value.none, kwdefaults := Value.none, pyModule := Value.str (Str.ofString "io") 340, code := Value.ref 130 } } : Obj) ::
Prod.mk (nat_lit 132) ({ cls := Value.type "tuple", data := Data.seq #[Value.type "OSError", Value.type "ValueError"] } : Obj) ::
Prod.mk (nat_lit 139) ({ cls := Value.type "tuple", data := Data.seq #[] } : Obj) ::
Prod.mk (nat_lit 140) ({ cls := Value.type "dict", data := Data.dict #[{ hash := PyData.keyHash P (Str.ofString "__module__"), key := Value.str (Str.ofString "__module__") 365, val := Value.str (Str.ofString "io") 370 }, { hash := PyData.keyHash P (Str.ofString "__firstlineno__"), key := Value.str (Str.ofString "__firstlineno__") 369, val := Value.int 101 368 }, { hash := PyData.keyHash P (Str.ofString "__static_attributes__"), key := Value.str (Str.ofString "__static_attributes__") 372, val := Value.ref 139 }, { hash := PyData.keyHash P (Str.ofString "__weakref__"), key := Value.str (Str.ofString "__weakref__") 374, val := Value.ref 142 }, { hash := PyData.keyHash P (Str.ofString "__doc__"), key := Value.str (Str.ofString "__doc__") 375, val := Value.none }] 3 } : Obj) ::
Prod.mk (nat_lit 141) ({ cls := Value.type "type", data := Data.cls { name := Str.ofString "UnsupportedOperation", bases := [Value.type "OSError", Value.type "ValueError"], mro := [Value.ref 141, Value.type "OSError", Value.type "ValueError", Value.type "Exception", Value.type "BaseException", Value.type "object"], ns := 140, qualname := Str.ofString "UnsupportedOperation" }, slots := #[some (Value.ref 132), none, some (Value.str (Str.ofString "UnsupportedOperation") 358), some (Value.str (Str.ofString "UnsupportedOperation") 366), some (Value.builtin "OSError.__new__"), some (Value.bool true)] } : Obj) ::
Prod.mk (nat_lit 142) ({ cls := Value.type "getset_descriptor", data := Data.fields #[Value.str (Str.ofString "__weakref__") 373, Value.ref 141, Value.builtin "ExceptionGroup.__weakref__", Value.none] } : Obj) ::
Prod.mk (nat_lit 152) ({ cls := Value.type "tuple", data := Data.seq #[] } : Obj) ::
Prod.mk (nat_lit 154) ({ cls := Value.type "tuple", data := Data.seq #[Value.str (Str.ofString "cls") 397, Value.str (Str.ofString "args") 398, Value.str (Str.ofString "kwargs") 399] } : Obj) ::
Prod.mk (nat_lit 155) ({ cls := Value.type "tuple", data := Data.seq #[] } : Obj) ::
Prod.mk (nat_lit 157) ({ cls := Value.type "code", data := Data.fields #[Value.str (Str.ofString "__new__") 394, Value.str (Str.ofString "IOBase.__new__") 395, Value.str (Str.ofString "/claim/cut.py") 396, Value.int 106 0, Value.int 1 0, Value.int 1 0, Value.int 0 0, Value.int 15 0, Value.ref 152, Value.bool true, Value.int 181 0, Value.ref 153, Value.none, Value.ref 154, Value.ref 155, Value.ref 156, Value.int 400 0, Value.int 106 0, Value.str (Str.ofString "/claim/cut.py") 401] } : Obj) ::
Prod.mk (nat_lit 158) ({ cls := Value.type "function", data := Data.func { name := Str.ofString "__new__", qualname := Str.ofString "IOBase.__new__", params := (fParams (inCls 15 1)), body := (.stmts (fBody (inCls 15 1))), scope := (fScope (inCls 15 1)), globals := 3, closure := [], defaults := Value.none, kwdefaults := Value.none, pyModule := Value.str (Str.ofString "io") 340, code := Value.ref 157 } } : Obj) ::
Prod.mk (nat_lit 159) ({ cls := Value.type "tuple", data := Data.seq #[] } : Obj) ::
Prod.mk (nat_lit 160) ({ cls := Value.type "dict", data := Data.dict #[{ hash := PyData.keyHash P (Str.ofString "__module__"), key := Value.str (Str.ofString "__module__") 387, val := Value.str (Str.ofString "io") 392 }, { hash := PyData.keyHash P (Str.ofString "__firstlineno__"), key := Value.str (Str.ofString "__firstlineno__") 391, val := Value.int 103 390 }, { hash := PyData.keyHash P (Str.ofString "__new__"), key := Value.str (Str.ofString "__new__") 402, val := Value.ref 162 }, { hash := PyData.keyHash P (Str.ofString "__static_attributes__"), key := Value.str (Str.ofString "__static_attributes__") 403, val := Value.ref 159 }, { hash := PyData.keyHash P (Str.ofString "__dict__"), key := Value.str (Str.ofString "__dict__") 406, val := Value.ref 163 }, { hash := PyData.keyHash P (Str.ofString "__weakref__"), key := Value.str (Str.ofString "__weakref__") 408, val := Value.ref 164 }, { hash := PyData.keyHash P (Str.ofString "__doc__"), key := Value.str (Str.ofString "__doc__") 409, val := Value.none }] 4 } : Obj) ::
Prod.mk (nat_lit 161) ({ cls := Value.type "type", data := Data.cls { name := Str.ofString "IOBase", bases := [Value.type "object"], mro := [Value.ref 161, Value.type "object"], ns := 160, qualname := Str.ofString "IOBase", subclasses := [Value.ref 176, Value.ref 188] }, slots := #[none, none, some (Value.str (Str.ofString "IOBase") 380), some (Value.str (Str.ofString "IOBase") 388), some Value.none, some (Value.bool true)] } : Obj) ::
Prod.mk (nat_lit 162) ({ cls := Value.type "staticmethod", data := Data.fields #[Value.ref 158] } : Obj) ::
Prod.mk (nat_lit 163) ({ cls := Value.type "getset_descriptor", data := Data.fields #[Value.str (Str.ofString "__dict__") 405, Value.ref 161, Value.builtin "function.__dict__", Value.builtin "function.__dict__#set"] } : Obj) ::
Prod.mk (nat_lit 164) ({ cls := Value.type "getset_descriptor", data := Data.fields #[Value.str (Str.ofString "__weakref__") 407, Value.ref 161, Value.builtin "ExceptionGroup.__weakref__", Value.none] } : Obj) ::
Prod.mk (nat_lit 167) ({ cls := Value.type "tuple", data := Data.seq #[Value.ref 161] } : Obj) ::
Prod.mk (nat_lit 174) ({ cls := Value.type "tuple", data := Data.seq #[] } : Obj) ::
Prod.mk (nat_lit 175) ({ cls := Value.type "dict", data := Data.dict #[{ hash := PyData.keyHash P (Str.ofString "__module__"), key := Value.str (Str.ofString "__module__") 419, val := Value.str (Str.ofString "io") 424 }, { hash := PyData.keyHash P (Str.ofString "__firstlineno__"), key := Value.str (Str.ofString "__firstlineno__") 423, val := Value.int 110 422 }, { hash := PyData.keyHash P (Str.ofString "__static_attributes__"), key := Value.str (Str.ofString "__static_attributes__") 426, val := Value.ref 174 }, { hash := PyData.keyHash P (Str.ofString "__doc__"), key := Value.str (Str.ofString "__doc__") 427, val := Value.none }] 2 } : Obj) ::
Prod.mk (nat_lit 176) ({ cls := Value.type "type", data := Data.cls { name := Str.ofString "BufferedIOBase", bases := [Value.ref 161], mro := [Value.ref 176, Value.ref 161, Value.type "object"], ns := 175, qualname := Str.ofString "BufferedIOBase", subclasses := [Value.ref 418] }, slots := #[some (Value.ref 167), none, some (Value.str (Str.ofString "BufferedIOBase") 412), some (Value.str (Str.ofString "BufferedIOBase") 420), some Value.none, some (Value.bool true)] } : Obj) ::
Prod.mk (nat_lit 179) ({ cls := Value.type "tuple", data := Data.seq #[Value.ref 161] } : Obj) ::
Prod.mk (nat_lit 186) ({ cls := Value.type "tuple", data := Data.seq #[] } : Obj) ::
Prod.mk (nat_lit 187) ({ cls := Value.type "dict", data := Data.dict #[{ hash := PyData.keyHash P (Str.ofString "__module__"), key := Value.str (Str.ofString "__module__") 437, val := Value.str (Str.ofString "io") 442 }, { hash := PyData.keyHash P (Str.ofString "__firstlineno__"), key := Value.str (Str.ofString "__firstlineno__") 441, val := Value.int 112 440 }, { hash := PyData.keyHash P (Str.ofString "__static_attributes__"), key := Value.str (Str.ofString "__static_attributes__") 444, val := Value.ref 186 }, { hash := PyData.keyHash P (Str.ofString "__doc__"), key := Value.str (Str.ofString "__doc__") 445, val := Value.none }] 2 } : Obj) ::
Prod.mk (nat_lit 188) ({ cls := Value.type "type", data := Data.cls { name := Str.ofString "TextIOBase", bases := [Value.ref 161], mro := [Value.ref 188, Value.ref 161, Value.type "object"], ns := 187, qualname := Str.ofString "TextIOBase", subclasses := [Value.ref 665] }, slots := #[some (Value.ref 179), none, some (Value.str (Str.ofString "TextIOBase") 430), some (Value.str (Str.ofString "TextIOBase") 438), some Value.none, some (Value.bool true)] } : Obj) ::
Prod.mk (nat_lit 191) ({ cls := Value.type "tuple", data := Data.seq #[Value.ref 176] } : Obj) ::
Prod.mk (nat_lit 198) ({ cls := Value.type "tuple", data := Data.seq #[Value.none] } : Obj) ::
Prod.mk (nat_lit 199) ({ cls := Value.type "tuple", data := Data.seq #[] } : Obj) ::
Prod.mk (nat_lit 201) ({ cls := Value.type "tuple", data := Data.seq #[Value.str (Str.ofString "self") 465, Value.str (Str.ofString "initial_bytes") 466] } : Obj) ::
Prod.mk (nat_lit 202) ({ cls := Value.type "tuple", data := Data.seq #[] } : Obj) ::
Prod.mk (nat_lit 204) ({ cls := Value.type "code", data := Data.fields #[Value.str (Str.ofString "__init__") 462, Value.str (Str.ofString "BytesIO.__init__") 463, Value.str (Str.ofString "/claim/cut.py") 464, Value.int 117 0, Value.int 2 0, Value.int 0 0, Value.int 0 0, Value.int 3 0, Value.ref 199, Value.bool true, Value.int 181 0, Value.ref 200, Value.none, Value.ref 201, Value.ref 202, Value.ref 203, Value.int 467 0, Value.int 117 0, Value.str (Str.ofString "/claim/cut.py") 468] } : Obj) ::
Prod.mk (nat_lit 205) ({ cls := Value.type "function", data := Data.func { name := Str.ofString "__init__", qualname := Str.ofString "BytesIO.__init__", params := (fParams (inCls 18 1)), body := (.stmts (fBody (inCls 18 1))), scope := (fScope (inCls 18 1)), globals := 3, closure := [], defaults := Value.ref 198, kwdefaults := Value.none, pyModule := Value.str (Str.ofString "io") 340, code := Value.ref 204 } } : Obj) ::
Prod.mk (nat_lit 206) ({ cls := Value.type "tuple", data := Data.seq #[] } : Obj) ::
Prod.mk (nat_lit 208) ({ cls := Value.type "tuple", data := Data.seq #[Value.str (Str.ofString "self") 473] } : Obj) ::
Prod.mk (nat_lit 209) ({ cls := Value.type "tuple", data := Data.seq #[] } : Obj) ::
Prod.mk (nat_lit 211) ({ cls := Value.type "code", data := Data.fields #[Value.str (Str.ofString "__check") 470, Value.str (Str.ofString "BytesIO.__check") 471, Value.str (Str.ofString "/claim/cut.py") 472, Value.int 123 0, Value.int 1 0, Value.int 0 0, Value.int 0 0, Value.int 3 0, Value.ref 206, Value.bool true, Value.int 181 0, Value.ref 207, Value.none, Value.ref 208, Value.ref 209, Value.ref 210, Value.int 474 0, Value.int 123 0, Value.str (Str.ofString "/claim/cut.py") 475] } : Obj) ::
Prod.mk (nat_lit 212) ({ cls := Value.type "function", data := Data.func { name := Str.ofString "__check", qualname := Str.ofString "BytesIO.__check", params := (fParams (inCls 18 2)), body := (.stmts (fBody (inCls 18 2))), scope := (fScope (inCls 18 2)), globals := 3, closure := [], defaults := Value.none, kwdefaults := Value.none, pyModule := Value.str (Str.ofString "io") 340, code := Value.ref 211 } } : Obj) ::
Prod.mk (nat_lit 213) ({ cls := Value.type "tuple", data := Data.seq #[] } : Obj) ::
Prod.mk (nat_lit 215) ({ cls := Value.type "tuple", data := Data.seq #[Value.str (Str.ofString "self") 480, Value.str (Str.ofString "limit") 481, Value.str (Str.ofString "start") 482, Value.str (Str.ofString "stop") 483, Value.str (Str.ofString "i") 484] } : Obj) ::
Prod.mk (nat_lit 216) ({ cls := Value.type "tuple", data := Data.seq #[] } : Obj) ::
Prod.mk (nat_lit 218) ({ cls := Value.type "code", data := Data.fields #[Value.str (Str.ofString "__line") 477, Value.str (Str.ofString "BytesIO.__line") 478, Value.str (Str.ofString "/claim/cut.py") 479, Value.int 127 0, Value.int 2 0, Value.int 0 0, Value.int 0 0, Value.int 3 0, Value.ref 213, Value.bool true, Value.int 181 0, Value.ref 214, Value.none, Value.ref 215, Value.ref 216, Value.ref 217, Value.int 485 0, Value.int 127 0, Value.str (Str.ofString "/claim/cut.py") 486] } : Obj) ::
Prod.mk (nat_lit 219) ({ cls := Value.type "function", data := Data.func { name := Str.ofString "__line", qualname := Str.ofString "BytesIO.__line", params := (fParams (inCls 18 3)), body := (.stmts (fBody (inCls 18 3))), scope := (fScope (inCls 18 3)), globals := 3, closure := [], defaults := Value.none, kwdefaults := Value.none, pyModule := Value.str (Str.ofString "io") 340, code := Value.ref 218 } } : Obj) ::
Prod.mk (nat_lit 220) ({ cls := Value.type "tuple", data := Data.seq #[] } : Obj) ::
Prod.mk (nat_lit 222) ({ cls := Value.type "tuple", data := Data.seq #[Value.str (Str.ofString "self") 491] } : Obj) ::
Prod.mk (nat_lit 223) ({ cls := Value.type "tuple", data := Data.seq #[] } : Obj) ::
Prod.mk (nat_lit 225) ({ cls := Value.type "code", data := Data.fields #[Value.str (Str.ofString "closed") 488, Value.str (Str.ofString "BytesIO.closed") 489, Value.str (Str.ofString "/claim/cut.py") 490, Value.int 140 0, Value.int 1 0, Value.int 0 0, Value.int 0 0, Value.int 3 0, Value.ref 220, Value.bool true, Value.int 181 0, Value.ref 221, Value.none, Value.ref 222, Value.ref 223, Value.ref 224, Value.int 492 0, Value.int 140 0, Value.str (Str.ofString "/claim/cut.py") 493] } : Obj) ::
Prod.mk (nat_lit 226) ({ cls := Value.type "function", data := Data.func { name := Str.ofString "closed", qualname := Str.ofString "BytesIO.closed", params := (fParams (inCls 18 4)), body := (.stmts (fBody (inCls 18 4))), scope := (fScope (inCls 18 4)), globals := 3, closure := [], defaults := Value.none, kwdefaults := Value.none, pyModule := Value.str (Str.ofString "io") 340, code := Value.ref 225 } } : Obj) ::
Prod.mk (nat_lit 227) ({ cls := Value.type "property", data := Data.fields #[Value.ref 226, Value.none, Value.none, Value.none, Value.str (Str.ofString "closed") 495, Value.bool false] } : Obj) ::
Prod.mk (nat_lit 228) ({ cls := Value.type "tuple", data := Data.seq #[] } : Obj) ::
Prod.mk (nat_lit 230) ({ cls := Value.type "tuple", data := Data.seq #[Value.str (Str.ofString "self") 499] } : Obj) ::
Prod.mk (nat_lit 231) ({ cls := Value.type "tuple", data := Data.seq #[] } : Obj) ::
Prod.mk (nat_lit 233) ({ cls := Value.type "code", data := Data.fields #[Value.str (Str.ofString "close") 496, Value.str (Str.ofString "BytesIO.close") 497, Value.str (Str.ofString "/claim/cut.py") 498, Value.int 144 0, Value.int 1 0, Value.int 0 0, Value.int 0 0, Value.int 3 0, Value.ref 228, Value.bool true, Value.int 181 0, Value.ref 229, Value.none, Value.ref 230, Value.ref 231, Value.ref 232, Value.int 500 0, Value.int 144 0, Value.str (Str.ofString "/claim/cut.py") 501] } : Obj) ::
Prod.mk (nat_lit 234) ({ cls := Value.type "function", data := Data.func { name := Str.ofString "close", qualname := Str.ofString "BytesIO.close", params := (fParams (inCls 18 5)), body := (.stmts (fBody (inCls 18 5))), scope := (fScope (inCls 18 5)), globals := 3, closure := [], defaults := Value.none, kwdefaults := Value.none, pyModule := Value.str (Str.ofString "io") 340, code := Value.ref 233 } } : Obj) ::
Prod.mk (nat_lit 235) ({ cls := Value.type "tuple", data := Data.seq #[] } : Obj) ::
Prod.mk (nat_lit 237) ({ cls := Value.type "tuple", data := Data.seq #[Value.str (Str.ofString "self") 506] } : Obj) ::
Prod.mk (nat_lit 238) ({ cls := Value.type "tuple", data := Data.seq #[] } : Obj) ::
Prod.mk (nat_lit 240) ({ cls := Value.type "code", data := Data.fields #[Value.str (Str.ofString "__enter__") 503, Value.str (Str.ofString "BytesIO.__enter__") 504, Value.str (Str.ofString "/claim/cut.py") 505, Value.int 147 0, Value.int 1 0, Value.int 0 0, Value.int 0 0, Value.int 3 0, Value.ref 235, Value.bool true, Value.int 181 0, Value.ref 236, Value.none, Value.ref 237, Value.ref 238, Value.ref 239, Value.int 507 0, Value.int 147 0, Value.str (Str.ofString "/claim/cut.py") 508] } : Obj) ::
Prod.mk (nat_lit 241) ({ cls := Value.type "function", data := Data.func { name := Str.ofString "__enter__", qualname := Str.ofString "BytesIO.__enter__", params := (fParams (inCls 18 6)), body := (.stmts (fBody (inCls 18 6))), scope := (fScope (inCls 18 6)), globals := 3, closure := [], defaults := Value.none, kwdefaults := Value.none, pyModule := Value.str (Str.ofString "io") 340, code := Value.ref 240 } } : Obj) ::
Prod.mk (nat_lit 242) ({ cls := Value.type "tuple", data := Data.seq #[] } : Obj) ::
Prod.mk (nat_lit 244) ({ cls := Value.type "tuple", data := Data.seq #[Value.str (Str.ofString "self") 513, Value.str (Str.ofString "args") 514] } : Obj) ::
Prod.mk (nat_lit 245) ({ cls := Value.type "tuple", data := Data.seq #[] } : Obj) ::
Prod.mk (nat_lit 247) ({ cls := Value.type "code", data := Data.fields #[Value.str (Str.ofString "__exit__") 510, Value.str (Str.ofString "BytesIO.__exit__") 511, Value.str (Str.ofString "/claim/cut.py") 512, Value.int 151 0, Value.int 1 0, Value.int 0 0, Value.int 0 0, Value.int 7 0, Value.ref 242, Value.bool true, Value.int 181 0, Value.ref 243, Value.none, Value.ref 244, Value.ref 245, Value.ref 246, Value.int 515 0, Value.int 151 0, Value.str (Str.ofString "/claim/cut.py") 516] } : Obj) ::
Prod.mk (nat_lit 248) ({ cls := Value.type "function", data := Data.func { name := Str.ofString "__exit__", qualname := Str.ofString "BytesIO.__exit__", params := (fParams (inCls 18 7)), body := (.stmts (fBody (inCls 18 7))), scope := (fScope (inCls 18 7)), globals := 3, closure := [], defaults := Value.none, kwdefaults := Value.none, pyModule := Value.str (Str.ofString "io") 340, code := Value.ref 247 } } : Obj) ::
Prod.mk (nat_lit 249) ({ cls := Value.type "tuple", data := Data.seq #[] } : Obj) ::
Prod.mk (nat_lit 251) ({ cls := Value.type "tuple", data := Data.seq #[Value.str (Str.ofString "self") 521] } : Obj) ::
Prod.mk (nat_lit 252) ({ cls := Value.type "tuple", data := Data.seq #[] } : Obj) ::
Prod.mk (nat_lit 254) ({ cls := Value.type "code", data := Data.fields #[Value.str (Str.ofString "readable") 518, Value.str (Str.ofString "BytesIO.readable") 519, Value.str (Str.ofString "/claim/cut.py") 520, Value.int 154 0, Value.int 1 0, Value.int 0 0, Value.int 0 0, Value.int 3 0, Value.ref 249, Value.bool true, Value.int 181 0, Value.ref 250, Value.none, Value.ref 251, Value.ref 252, Value.ref 253, Value.int 522 0, Value.int 154 0, Value.str (Str.ofString "/claim/cut.py") 523] } : Obj) ::
Prod.mk (nat_lit 255) ({ cls := Value.type "function", data := Data.func { name := Str.ofString "readable", qualname := Str.ofString "BytesIO.readable", params := (fParams (inCls 18 8)), body := (.stmts (fBody (inCls 18 8))), scope := (fScope (inCls 18 8)), globals := 3, closure := [], defaults := Value.none, kwdefaults := Value.none, pyModule := Value.str (Str.ofString "io") 340, code := Value.ref 254 } } : Obj) ::
Prod.mk (nat_lit 256) ({ cls := Value.type "tuple", data := Data.seq #[] } : Obj) ::
Prod.mk (nat_lit 258) ({ cls := Value.type "tuple", data := Data.seq #[Value.str (Str.ofString "self") 528] } : Obj) ::
Prod.mk (nat_lit 259) ({ cls := Value.type "tuple", data := Data.seq #[] } : Obj) ::
Prod.mk (nat_lit 261) ({ cls := Value.type "code", data := Data.fields #[Value.str (Str.ofString "writable") 525, Value.str (Str.ofString "BytesIO.writable") 526, Value.str (Str.ofString "/claim/cut.py") 527, Value.int 158 0, Value.int 1 0, Value.int 0 0, Value.int 0 0, Value.int 3 0, Value.ref 256, Value.bool true, Value.int 181 0, Value.ref 257, Value.none, Value.ref 258, Value.ref 259, Value.ref 260, Value.int 529 0, Value.int 158 0, Value.str (Str.ofString "/claim/cut.py") 530] } : Obj) ::
Prod.mk (nat_lit 262) ({ cls := Value.type "function", data := Data.func { name := Str.ofString "writable", qualname := Str.ofString "BytesIO.writable", params := (fParams (inCls 18 9)), body := (.stmts (fBody (inCls 18 9))), scope := (fScope (inCls 18 9)), globals := 3, closure := [], defaults := Value.none, kwdefaults := Value.none, pyModule := Value.str (Str.ofString "io") 340, code := Value.ref 261 } } : Obj) ::
Prod.mk (nat_lit 263) ({ cls := Value.type "tuple", data := Data.seq #[] } : Obj) ::
Prod.mk (nat_lit 265) ({ cls := Value.type "tuple", data := Data.seq #[Value.str (Str.ofString "self") 535] } : Obj) ::
Prod.mk (nat_lit 266) ({ cls := Value.type "tuple", data := Data.seq #[] } : Obj) ::
Prod.mk (nat_lit 268) ({ cls := Value.type "code", data := Data.fields #[Value.str (Str.ofString "seekable") 532, Value.str (Str.ofString "BytesIO.seekable") 533, Value.str (Str.ofString "/claim/cut.py") 534, Value.int 162 0, Value.int 1 0, Value.int 0 0, Value.int 0 0, Value.int 3 0, Value.ref 263, Value.bool true, Value.int 181 0, Value.ref 264, Value.none, Value.ref 265, Value.ref 266, Value.ref 267, Value.int 536 0, Value.int 162 0, Value.str (Str.ofString "/claim/cut.py") 537] } : Obj) ::
Prod.mk (nat_lit 269) ({ cls := Value.type "function", data := Data.func { name := Str.ofString "seekable", qualname := Str.ofString "BytesIO.seekable", params := (fParams (inCls 18 10)), body := (.stmts (fBody (inCls 18 10))), scope := (fScope (inCls 18 10)), globals := 3, closure := [], defaults := Value.none, kwdefaults := Value.none, pyModule := Value.str (Str.ofString "io") 340, code := Value.ref 268 } } : Obj) ::
Prod.mk (nat_lit 270) ({ cls := Value.type "tuple", data := Data.seq #[] } : Obj) ::
Prod.mk (nat_lit 272) ({ cls := Value.type "tuple", data := Data.seq #[Value.str (Str.ofString "self") 542] } : Obj) ::
Prod.mk (nat_lit 273) ({ cls := Value.type "tuple", data := Data.seq #[] } : Obj) ::
Prod.mk (nat_lit 275) ({ cls := Value.type "code", data := Data.fields #[Value.str (Str.ofString "isatty") 539, Value.str (Str.ofString "BytesIO.isatty") 540, Value.str (Str.ofString "/claim/cut.py") 541, Value.int 166 0, Value.int 1 0, Value.int 0 0, Value.int 0 0, Value.int 3 0, Value.ref 270, Value.bool true, Value.int 181 0, Value.ref 271, Value.none, Value.ref 272, Value.ref 273, Value.ref 274, Value.int 543 0, Value.int 166 0, Value.str (Str.ofString "/claim/cut.py") 544] } : Obj) ::
Prod.mk (nat_lit 276) ({ cls := Value.type "function", data := Data.func { name := Str.ofString "isatty", qualname := Str.ofString "BytesIO.isatty", params := (fParams (inCls 18 11)), body := (.stmts (fBody (inCls 18 11))), scope := (fScope (inCls 18 11)), globals := 3, closure := [], defaults := Value.none, kwdefaults := Value.none, pyModule := Value.str (Str.ofString "io") 340, code := Value.ref 275 } } : Obj) ::
Prod.mk (nat_lit 277) ({ cls := Value.type "tuple", data := Data.seq #[] } : Obj) ::
Prod.mk (nat_lit 279) ({ cls := Value.type "tuple", data := Data.seq #[Value.str (Str.ofString "self") 549] } : Obj) ::
Prod.mk (nat_lit 280) ({ cls := Value.type "tuple", data := Data.seq #[] } : Obj) ::
Prod.mk (nat_lit 282) ({ cls := Value.type "code", data := Data.fields #[Value.str (Str.ofString "flush") 546, Value.str (Str.ofString "BytesIO.flush") 547, Value.str (Str.ofString "/claim/cut.py") 548, Value.int 170 0, Value.int 1 0, Value.int 0 0, Value.int 0 0, Value.int 3 0, Value.ref 277, Value.bool true, Value.int 181 0, Value.ref 278, Value.none, Value.ref 279, Value.ref 280, Value.ref 281, Value.int 550 0, Value.int 170 0, Value.str (Str.ofString "/claim/cut.py") 551] } : Obj) ::
Prod.mk (nat_lit 283) ({ cls := Value.type "function", data := Data.func { name := Str.ofString "flush", qualname := Str.ofString "BytesIO.flush", params := (fParams (inCls 18 12)), body := (.stmts (fBody (inCls 18 12))), scope := (fScope (inCls 18 12)), globals := 3, closure := [], defaults := Value.none, kwdefaults := Value.none, pyModule := Value.str (Str.ofString "io") 340, code := Value.ref 282 } } : Obj) ::
Prod.mk (nat_lit 284) ({ cls := Value.type "tuple", data := Data.seq #[] } : Obj) ::
Prod.mk (nat_lit 286) ({ cls := Value.type "tuple", data := Data.seq #[Value.str (Str.ofString "self") 556] } : Obj) ::
Prod.mk (nat_lit 287) ({ cls := Value.type "tuple", data := Data.seq #[] } : Obj) ::
Prod.mk (nat_lit 289) ({ cls := Value.type "code", data := Data.fields #[Value.str (Str.ofString "fileno") 553, Value.str (Str.ofString "BytesIO.fileno") 554, Value.str (Str.ofString "/claim/cut.py") 555, Value.int 173 0, Value.int 1 0, Value.int 0 0, Value.int 0 0, Value.int 3 0, Value.ref 284, Value.bool true, Value.int 181 0, Value.ref 285, Value.none, Value.ref 286, Value.ref 287, Value.ref 288, Value.int 557 0, Value.int 173 0, Value.str (Str.ofString "/claim/cut.py") 558] } : Obj) ::
Prod.mk (nat_lit 290) ({ cls := Value.type "function", data := Data.func { name := Str.ofString "fileno", qualname := Str.ofString "BytesIO.fileno", params := (fParams (inCls 18 13)), body := (.stmts (fBody (inCls 18 13))), scope := (fScope (inCls 18 13)), globals := 3, closure := [], defaults := Value.none, kwdefaults := Value.none, pyModule := Value.str (Str.ofString "io") 340, code := Value.ref 289 } } : Obj) ::
Prod.mk (nat_lit 291) ({ cls := Value.type "tuple", data := Data.seq #[] } : Obj) ::
Prod.mk (nat_lit 293) ({ cls := Value.type "tuple", data := Data.seq #[Value.str (Str.ofString "self") 563] } : Obj) ::
Prod.mk (nat_lit 294) ({ cls := Value.type "tuple", data := Data.seq #[] } : Obj) ::
Prod.mk (nat_lit 296) ({ cls := Value.type "code", data := Data.fields #[Value.str (Str.ofString "detach") 560, Value.str (Str.ofString "BytesIO.detach") 561, Value.str (Str.ofString "/claim/cut.py") 562, Value.int 176 0, Value.int 1 0, Value.int 0 0, Value.int 0 0, Value.int 3 0, Value.ref 291, Value.bool true, Value.int 181 0, Value.ref 292, Value.none, Value.ref 293, Value.ref 294, Value.ref 295, Value.int 564 0, Value.int 176 0, Value.str (Str.ofString "/claim/cut.py") 565] } : Obj) ::
Prod.mk (nat_lit 297) ({ cls := Value.type "function", data := Data.func { name := Str.ofString "detach", qualname := Str.ofString "BytesIO.detach", params := (fParams (inCls 18 14)), body := (.stmts (fBody (inCls 18 14))), scope := (fScope (inCls 18 14)), globals := 3, closure := [], defaults := Value.none, kwdefaults := Value.none, pyModule := Value.str (Str.ofString "io") 340, code := Value.ref 296 } } : Obj) ::
Prod.mk (nat_lit 298) ({ cls := Value.type "tuple", data := Data.seq #[] } : Obj) ::
Prod.mk (nat_lit 300) ({ cls := Value.type "tuple", data := Data.seq #[Value.str (Str.ofString "self") 570] } : Obj) ::
Prod.mk (nat_lit 301) ({ cls := Value.type "tuple", data := Data.seq #[] } : Obj) ::
Prod.mk (nat_lit 303) ({ cls := Value.type "code", data := Data.fields #[Value.str (Str.ofString "getvalue") 567, Value.str (Str.ofString "BytesIO.getvalue") 568, Value.str (Str.ofString "/claim/cut.py") 569, Value.int 179 0, Value.int 1 0, Value.int 0 0, Value.int 0 0, Value.int 3 0, Value.ref 298, Value.bool true, Value.int 181 0, Value.ref 299, Value.none, Value.ref 300, Value.ref 301, Value.ref 302, Value.int 571 0, Value.int 179 0, Value.str (Str.ofString "/claim/cut.py") 572] } : Obj) ::
Prod.mk (nat_lit 304) ({ cls := Value.type "function", data := Data.func { name := Str.ofString "getvalue", qualname := Str.ofString "BytesIO.getvalue", params := (fParams (inCls 18 15)), body := (.stmts (fBody (inCls 18 15))), scope := (fScope (inCls 18 15)), globals := 3, closure := [], defaults := Value.none, kwdefaults := Value.none, pyModule := Value.str (Str.ofString "io") 340, code := Value.ref 303 } } : Obj) ::
Prod.mk (nat_lit 305) ({ cls := Value.type "tuple", data := Data.seq #[] } : Obj) ::
Prod.mk (nat_lit 307) ({ cls := Value.type "tuple", data := Data.seq #[Value.str (Str.ofString "self") 577] } : Obj) ::
Prod.mk (nat_lit 308) ({ cls := Value.type "tuple", data := Data.seq #[] } : Obj) ::
Prod.mk (nat_lit 310) ({ cls := Value.type "code", data := Data.fields #[Value.str (Str.ofString "getbuffer") 574, Value.str (Str.ofString "BytesIO.getbuffer") 575, Value.str (Str.ofString "/claim/cut.py") 576, Value.int 182 0, Value.int 1 0, Value.int 0 0, Value.int 0 0, Value.int 3 0, Value.ref 305, Value.bool true, Value.int 181 0, Value.ref 306, Value.none, Value.ref 307, Value.ref 308, Value.ref 309, Value.int 578 0, Value.int 182 0, Value.str (Str.ofString "/claim/cut.py") 579] } : Obj) ::
Prod.mk (nat_lit 311) ({ cls := Value.type "function", data := Data.func { name := Str.ofString "getbuffer", qualname := Str.ofString "BytesIO.getbuffer", params := (fParams (inCls 18 16)), body := (.stmts (fBody (inCls 18 16))), scope := (fScope (inCls 18 16)), globals := 3, closure := [], defaults := Value.none, kwdefaults := Value.none, pyModule := Value.str (Str.ofString "io") 340, code := Value.ref 310 } } : Obj) ::
Prod.mk (nat_lit 312) ({ cls := Value.type "tuple", data := Data.seq #[] } : Obj) ::
Prod.mk (nat_lit 314) ({ cls := Value.type "tuple", data := Data.seq #[Value.str (Str.ofString "self") 584] } : Obj) ::
Prod.mk (nat_lit 315) ({ cls := Value.type "tuple", data := Data.seq #[] } : Obj) ::
Prod.mk (nat_lit 317) ({ cls := Value.type "code", data := Data.fields #[Value.str (Str.ofString "tell") 581, Value.str (Str.ofString "BytesIO.tell") 582, Value.str (Str.ofString "/claim/cut.py") 583, Value.int 185 0, Value.int 1 0, Value.int 0 0, Value.int 0 0, Value.int 3 0, Value.ref 312, Value.bool true, Value.int 181 0, Value.ref 313, Value.none, Value.ref 314, Value.ref 315, Value.ref 316, Value.int 585 0, Value.int 185 0, Value.str (Str.ofString "/claim/cut.py") 586] } : Obj) ::
Prod.mk (nat_lit 318) ({ cls := Value.type "function", data := Data.func { name := Str.ofString "tell", qualname := Str.ofString "BytesIO.tell", params := (fParams (inCls 18 17)), body := (.stmts (fBody (inCls 18 17))), scope := (fScope (inCls 18 17)), globals := 3, closure := [], defaults := Value.none, kwdefaults := Value.none, pyModule := Value.str (Str.ofString "io") 340, code := Value.ref 317 } } : Obj) ::
Prod.mk (nat_lit 319) ({ cls := Value.type "tuple", data := Data.seq #[Value.int 0 588] } : Obj) ::
Prod.mk (nat_lit 320) ({ cls := Value.type "tuple", data := Data.seq #[] } : Obj) ::
Prod.mk (nat_lit 322) ({ cls := Value.type "tuple", data := Data.seq #[Value.str (Str.ofString "self") 592, Value.str (Str.ofString "pos") 593, Value.str (Str.ofString "whence") 594] } : Obj) ::
Prod.mk (nat_lit 323) ({ cls := Value.type "tuple", data := Data.seq #[] } : Obj) ::
Prod.mk (nat_lit 325) ({ cls := Value.type "code", data := Data.fields #[Value.str (Str.ofString "seek") 589, Value.str (Str.ofString "BytesIO.seek") 590, Value.str (Str.ofString "/claim/cut.py") 591, Value.int 189 0, Value.int 3 0, Value.int 3 0, Value.int 0 0, Value.int 3 0, Value.ref 320, Value.bool true, Value.int 181 0, Value.ref 321, Value.none, Value.ref 322, Value.ref 323, Value.ref 324, Value.int 595 0, Value.int 189 0, Value.str (Str.ofString "/claim/cut.py") 596] } : Obj) ::
Prod.mk (nat_lit 326) ({ cls := Value.type "function", data := Data.func { name := Str.ofString "seek", qualname := Str.ofString "BytesIO.seek", params := (fParams (inCls 18 18)), body := (.stmts (fBody (inCls 18 18))), scope := (fScope (inCls 18 18)), globals := 3, closure := [], defaults := Value.ref 319, kwdefaults := Value.none, pyModule := Value.str (Str.ofString "io") 340, code := Value.ref 325 } } : Obj) ::
Prod.mk (nat_lit 327) ({ cls := Value.type "tuple", data := Data.seq #[Value.none] } : Obj) ::
Prod.mk (nat_lit 328) ({ cls := Value.type "tuple", data := Data.seq #[] } : Obj) ::
Prod.mk (nat_lit 330) ({ cls := Value.type "tuple", data := Data.seq #[Value.str (Str.ofString "self") 601, Value.str (Str.ofString "size") 602] } : Obj) ::
Prod.mk (nat_lit 331) ({ cls := Value.type "tuple", data := Data.seq #[] } : Obj) ::
Prod.mk (nat_lit 333) ({ cls := Value.type "code", data := Data.fields #[Value.str (Str.ofString "truncate") 598, Value.str (Str.ofString "BytesIO.truncate") 599, Value.str (Str.ofString "/claim/cut.py") 600, Value.int 206 0, Value.int 2 0, Value.int 2 0, Value.int 0 0, Value.int 3 0, Value.ref 328, Value.bool true, Value.int 181 0, Value.ref 329, Value.none, Value.ref 330, Value.ref 331, Value.ref 332, Value.int 603 0, Value.int 206 0, Value.str (Str.ofString "/claim/cut.py") 604] } : Obj) ::
Prod.mk (nat_lit 334) ({ cls := Value.type "function", data := Data.func { name := Str.ofString "truncate", qualname := Str.ofString "BytesIO.truncate", params := (fParams (inCls 18 19)), body := (.stmts (fBody (inCls 18 19))), scope := (fScope (inCls 18 19)), globals := 3, closure := [], defaults := Value.ref 327, kwdefaults := Value.none, pyModule := Value.str (Str.ofString "io") 340, code := Value.ref 333 } } : Obj) ::
Prod.mk (nat_lit 335) ({ cls := Value.type "tuple", data := Data.seq #[Value.int (-1) 607] } : Obj) ::
Prod.mk (nat_lit 336) ({ cls := Value.type "tuple", data := Data.seq #[] } : Obj) ::
Prod.mk (nat_lit 338) ({ cls := Value.type "tuple", data := Data.seq #[Value.str (Str.ofString "self") 611, Value.str (Str.ofString "size") 612, Value.str (Str.ofString "start") 613, Value.str (Str.ofString "stop") 614] } : Obj) ::
Prod.mk (nat_lit 339) ({ cls := Value.type "tuple", data := Data.seq #[] } : Obj) ::
Prod.mk (nat_lit 341) ({ cls := Value.type "code", data := Data.fields #[Value.str (Str.ofString "read") 608, Value.str (Str.ofString "BytesIO.read") 609, Value.str (Str.ofString "/claim/cut.py") 610, Value.int 209 0, Value.int 2 0, Value.int 2 0, Value.int 0 0, Value.int 3 0, Value.ref 336, Value.bool true, Value.int 181 0, Value.ref 337, Value.none, Value.ref 338, Value.ref 339, Value.ref 340, Value.int 615 0, Value.int 209 0, Value.str (Str.ofString "/claim/cut.py") 616] } : Obj) ::
Prod.mk (nat_lit 342) ({ cls := Value.type "function", data := Data.func { name := Str.ofString "read", qualname := Str.ofString "BytesIO.read", params := (fParams (inCls 18 20)), body := (.stmts (fBody (inCls 18 20))), scope := (fScope (inCls 18 20)), globals := 3, closure := [], defaults := Value.ref 335, kwdefaults := Value.none, pyModule := Value.str (Str.ofString "io") 340, code := Value.ref 341 } } : Obj) ::
Prod.mk (nat_lit 343) ({ cls := Value.type "tuple", data := Data.seq #[Value.int (-1) 619] } : Obj) ::
Prod.mk (nat_lit 344) ({ cls := Value.type "tuple", data := Data.seq #[] } : Obj) ::
Prod.mk (nat_lit 346) ({ cls := Value.type "tuple", data := Data.seq #[Value.str (Str.ofString "self") 623, Value.str (Str.ofString "size") 624] } : Obj) ::
Prod.mk (nat_lit 347) ({ cls := Value.type "tuple", data := Data.seq #[] } : Obj) ::
Prod.mk (nat_lit 349) ({ cls := Value.type "code", data := Data.fields #[Value.str (Str.ofString "read1") 620, Value.str (Str.ofString "BytesIO.read1") 621, Value.str (Str.ofString "/claim/cut.py") 622, Value.int 223 0, Value.int 2 0, Value.int 2 0, Value.int 0 0, Value.int 3 0, Value.ref 344, Value.bool true, Value.int 181 0, Value.ref 345, Value.none, Value.ref 346, Value.ref 347, Value.ref 348, Value.int 625 0, Value.int 223 0, Value.str (Str.ofString "/claim/cut.py") 626] } : Obj) ::
Prod.mk (nat_lit 350) ({ cls := Value.type "function", data := Data.func { name := Str.ofString "read1", qualname := Str.ofString "BytesIO.read1", params := (fParams (inCls 18 21)), body := (.stmts (fBody (inCls 18 21))), scope := (fScope (inCls 18 21)), globals := 3, closure := [], defaults := Value.ref 343, kwdefaults := Value.none, pyModule := Value.str (Str.ofString "io") 340, code := Value.ref 349 } } : Obj) ::
Prod.mk (nat_lit 351) ({ cls := Value.type "tuple", data := Data.seq #[] } : Obj) ::
Prod.mk (nat_lit 353) ({ cls := Value.type "tuple", data := Data.seq #[Value.str (Str.ofString "self") 631, Value.str (Str.ofString "buffer") 632, Value.str (Str.ofString "start") 633, Value.str (Str.ofString "n") 634] } : Obj) ::
Prod.mk (nat_lit 354) ({ cls := Value.type "tuple", data := Data.seq #[] } : Obj) ::
Prod.mk (nat_lit 356) ({ cls := Value.type "code", data := Data.fields #[Value.str (Str.ofString "readinto") 628, Value.str (Str.ofString "BytesIO.readinto") 629, Value.str (Str.ofString "/claim/cut.py") 630, Value.int 226 0, Value.int 2 0, Value.int 2 0, Value.int 0 0, Value.int 3 0, Value.ref 351, Value.bool true, Value.int 181 0, Value.ref 352, Value.none, Value.ref 353, Value.ref 354, Value.ref 355, Value.int 635 0, Value.int 226 0, Value.str (Str.ofString "/claim/cut.py") 636] } : Obj) ::
Prod.mk (nat_lit 357) ({ cls := Value.type "function", data := Data.func { name := Str.ofString "readinto", qualname := Str.ofString "BytesIO.readinto", params := (fParams (inCls 18 22)), body := (.stmts (fBody (inCls 18 22))), scope := (fScope (inCls 18 22)), globals := 3, closure := [], defaults := Value.none, kwdefaults := Value.none, pyModule := Value.str (Str.ofString "io") 340, code := Value.ref 356 } } : Obj) ::
Prod.mk (nat_lit 358) ({ cls := Value.type "tuple", data := Data.seq #[] } : Obj) ::
Prod.mk (nat_lit 360) ({ cls := Value.type "tuple", data := Data.seq #[Value.str (Str.ofString "self") 641, Value.str (Str.ofString "buffer") 642] } : Obj) ::
Prod.mk (nat_lit 361) ({ cls := Value.type "tuple", data := Data.seq #[] } : Obj) ::
Prod.mk (nat_lit 363) ({ cls := Value.type "code", data := Data.fields #[Value.str (Str.ofString "readinto1") 638, Value.str (Str.ofString "BytesIO.readinto1") 639, Value.str (Str.ofString "/claim/cut.py") 640, Value.int 240 0, Value.int 2 0, Value.int 2 0, Value.int 0 0, Value.int 3 0, Value.ref 358, Value.bool true, Value.int 181 0, Value.ref 359, Value.none, Value.ref 360, Value.ref 361, Value.ref 362, Value.int 643 0, Value.int 240 0, Value.str (Str.ofString "/claim/cut.py") 644] } : Obj) ::
Prod.mk (nat_lit 364) ({ cls := Value.type "function", data := Data.func { name := Str.ofString "readinto1", qualname := Str.ofString "BytesIO.readinto1", params := (fParams (inCls 18 23)), body := (.stmts (fBody (inCls 18 23))), scope := (fScope (inCls 18 23)), globals := 3, closure := [], defaults := Value.none, kwdefaults := Value.none, pyModule := Value.str (Str.ofString "io") 340, code := Value.ref 363 } } : Obj) ::
Prod.mk (nat_lit 365) ({ cls := Value.type "tuple", data := Data.seq #[Value.int (-1) 647] } : Obj) ::
Prod.mk (nat_lit 366) ({ cls := Value.type "tuple", data := Data.seq #[] } : Obj) ::
Prod.mk (nat_lit 368) ({ cls := Value.type "tuple", data := Data.seq #[Value.str (Str.ofString "self") 651, Value.str (Str.ofString "size") 652] } : Obj) ::
Prod.mk (nat_lit 369) ({ cls := Value.type "tuple", data := Data.seq #[] } : Obj) ::
Prod.mk (nat_lit 371) ({ cls := Value.type "code", data := Data.fields #[Value.str (Str.ofString "readline") 648, Value.str (Str.ofString "BytesIO.readline") 649, Value.str (Str.ofString "/claim/cut.py") 650, Value.int 243 0, Value.int 2 0, Value.int 2 0, Value.int 0 0, Value.int 3 0, Value.ref 366, Value.bool true, Value.int 181 0, Value.ref 367, Value.none, Value.ref 368, Value.ref 369, Value.ref 370, Value.int 653 0, Value.int 243 0, Value.str (Str.ofString "/claim/cut.py") 654] } : Obj) ::
Prod.mk (nat_lit 372) ({ cls := Value.type "function", data := Data.func { name := Str.ofString "readline", qualname := Str.ofString "BytesIO.readline", params := (fParams (inCls 18 24)), body := (.stmts (fBody (inCls 18 24))), scope := (fScope (inCls 18 24)), globals := 3, closure := [], defaults := Value.ref 365, kwdefaults := Value.none, pyModule := Value.str (Str.ofString "io") 340, code := Value.ref 371 } } : Obj) ::
Prod.mk (nat_lit 373) ({ cls := Value.type "tuple", data := Data.seq #[Value.none] } : Obj) ::
Prod.mk (nat_lit 374) ({ cls := Value.type "tuple", data := Data.seq #[] } : Obj) ::
Prod.mk (nat_lit 376) ({ cls := Value.type "tuple", data := Data.seq #[Value.str (Str.ofString "self") 659, Value.str (Str.ofString "size") 660] } : Obj) ::
Prod.mk (nat_lit 377) ({ cls := Value.type "tuple", data := Data.seq #[] } : Obj) ::
Prod.mk (nat_lit 379) ({ cls := Value.type "code", data := Data.fields #[Value.str (Str.ofString "readlines") 656, Value.str (Str.ofString "BytesIO.readlines") 657, Value.str (Str.ofString "/claim/cut.py") 658, Value.int 250 0, Value.int 2 0, Value.int 2 0, Value.int 0 0, Value.int 3 0, Value.ref 374, Value.bool true, Value.int 181 0, Value.ref 375, Value.none, Value.ref 376, Value.ref 377, Value.ref 378, Value.int 661 0, Value.int 250 0, Value.str (Str.ofString "/claim/cut.py") 662] } : Obj) ::
Prod.mk (nat_lit 380) ({ cls := Value.type "function", data := Data.func { name := Str.ofString "readlines", qualname := Str.ofString "BytesIO.readlines", params := (fParams (inCls 18 25)), body := (.stmts (fBody (inCls 18 25))), scope := (fScope (inCls 18 25)), globals := 3, closure := [], defaults := Value.ref 373, kwdefaults := Value.none, pyModule := Value.str (Str.ofString "io") 340, code := Value.ref 379 } } : Obj) ::
Prod.mk (nat_lit 381) ({ cls := Value.type "tuple", data := Data.seq #[] } : Obj) ::
Prod.mk (nat_lit 383) ({ cls := Value.type "tuple", data := Data.seq #[Value.str (Str.ofString "self") 667] } : Obj) ::
Prod.mk (nat_lit 384) ({ cls := Value.type "tuple", data := Data.seq #[] } : Obj) ::
Prod.mk (nat_lit 386) ({ cls := Value.type "code", data := Data.fields #[Value.str (Str.ofString "__iter__") 664, Value.str (Str.ofString "BytesIO.__iter__") 665, Value.str (Str.ofString "/claim/cut.py") 666, Value.int 253 0, Value.int 1 0, Value.int 0 0, Value.int 0 0, Value.int 3 0, Value.ref 381, Value.bool true, Value.int 181 0, Value.ref 382, Value.none, Value.ref 383, Value.ref 384, Value.ref 385, Value.int 668 0, Value.int 253 0, Value.str (Str.ofString "/claim/cut.py") 669] } : Obj) ::
Prod.mk (nat_lit 387) ({ cls := Value.type "function", data := Data.func { name := Str.ofString "__iter__", qualname := Str.ofString "BytesIO.__iter__", params := (fParams (inCls 18 26)), body := (.stmts (fBody (inCls 18 26))), scope := (fScope (inCls 18 26)), globals := 3, closure := [], defaults := Value.none, kwdefaults := Value.none, pyModule := Value.str (Str.ofString "io") 340, code := Value.ref 386 } } : Obj) ::
Prod.mk (nat_lit 388) ({ cls := Value.type "tuple", data := Data.seq #[] } : Obj) ::
Prod.mk (nat_lit 390) ({ cls := Value.type "tuple", data := Data.seq #[Value.str (Str.ofString "self") 674, Value.str (Str.ofString "line") 675] } : Obj) ::
Prod.mk (nat_lit 391) ({ cls := Value.type "tuple", data := Data.seq #[] } : Obj) ::
Prod.mk (nat_lit 393) ({ cls := Value.type "code", data := Data.fields #[Value.str (Str.ofString "__next__") 671, Value.str (Str.ofString "BytesIO.__next__") 672, Value.str (Str.ofString "/claim/cut.py") 673, Value.int 256 0, Value.int 1 0, Value.int 0 0, Value.int 0 0, Value.int 3 0, Value.ref 388, Value.bool true, Value.int 181 0, Value.ref 389, Value.none, Value.ref 390, Value.ref 391, Value.ref 392, Value.int 676 0, Value.int 256 0, Value.str (Str.ofString "/claim/cut.py") 677] } : Obj) ::
Prod.mk (nat_lit 394) ({ cls := Value.type "function", data := Data.func { name := Str.ofString "__next__", qualname := Str.ofString "BytesIO.__next__", params := (fParams (inCls 18 27)), body := (.stmts (fBody (inCls 18 27))), scope := (fScope (inCls 18 27)), globals := 3, closure := [], defaults := Value.none, kwdefaults := Value.none, pyModule := Value.str (Str.ofString "io") 340, code := Value.ref 393 } } : Obj) ::
Prod.mk (nat_lit 395) ({ cls := Value.type "tuple", data := Data.seq #[] } : Obj) ::
Prod.mk (nat_lit 397) ({ cls := Value.type "tuple", data := Data.seq #[Value.str (Str.ofString "self") 682, Value.str (Str.ofString "b") 683, Value.str (Str.ofString "n") 684, Value.str (Str.ofString "start") 685] } : Obj) ::
Prod.mk (nat_lit 398) ({ cls := Value.type "tuple", data := Data.seq #[] } : Obj) ::
Prod.mk (nat_lit 400) ({ cls := Value.type "code", data := Data.fields #[Value.str (Str.ofString "write") 679, Value.str (Str.ofString "BytesIO.write") 680, Value.str (Str.ofString "/claim/cut.py") 681, Value.int 263 0, Value.int 2 0, Value.int 2 0, Value.int 0 0, Value.int 3 0, Value.ref 395, Value.bool true, Value.int 181 0, Value.ref 396, Value.none, Value.ref 397, Value.ref 398, Value.ref 399, Value.int 686 0, Value.int 263 0, Value.str (Str.ofString "/claim/cut.py") 687] } : Obj) ::
Prod.mk (nat_lit 401) ({ cls := Value.type "function", data := Data.func { name := Str.ofString "write", qualname := Str.ofString "BytesIO.write", params := (fParams (inCls 18 28)), body := (.stmts (fBody (inCls 18 28))), scope := (fScope (inCls 18 28)), globals := 3, closure := [], defaults := Value.none, kwdefaults := Value.none, pyModule := Value.str (Str.ofString "io") 340, code := Value.ref 400 } } : Obj) ::
Prod.mk (nat_lit 402) ({ cls := Value.type "tuple", data := Data.seq #[] } : Obj) ::
Prod.mk (nat_lit 404) ({ cls := Value.type "tuple", data := Data.seq #[Value.str (Str.ofString "self") 692, Value.str (Str.ofString "lines") 693] } : Obj) ::
Prod.mk (nat_lit 405) ({ cls := Value.type "tuple", data := Data.seq #[] } : Obj) ::
Prod.mk (nat_lit 407) ({ cls := Value.type "code", data := Data.fields #[Value.str (Str.ofString "writelines") 689, Value.str (Str.ofString "BytesIO.writelines") 690, Value.str (Str.ofString "/claim/cut.py") 691, Value.int 279 0, Value.int 2 0, Value.int 2 0, Value.int 0 0, Value.int 3 0, Value.ref 402, Value.bool true, Value.int 181 0, Value.ref 403, Value.none, Value.ref 404, Value.ref 405, Value.ref 406, Value.int 694 0, Value.int 279 0, Value.str (Str.ofString "/claim/cut.py") 695] } : Obj) ::
Prod.mk (nat_lit 408) ({ cls := Value.type "function", data := Data.func { name := Str.ofString "writelines", qualname := Str.ofString "BytesIO.writelines", params := (fParams (inCls 18 29)), body := (.stmts (fBody (inCls 18 29))), scope := (fScope (inCls 18 29)), globals := 3, closure := [], defaults := Value.none, kwdefaults := Value.none, pyModule := Value.str (Str.ofString "io") 340, code := Value.ref 407 } } : Obj) ::
Prod.mk (nat_lit 409) ({ cls := Value.type "tuple", data := Data.seq #[] } : Obj) ::
Prod.mk (nat_lit 411) ({ cls := Value.type "tuple", data := Data.seq #[Value.str (Str.ofString "self") 700] } : Obj) ::
Prod.mk (nat_lit 412) ({ cls := Value.type "tuple", data := Data.seq #[] } : Obj) ::
Prod.mk (nat_lit 414) ({ cls := Value.type "code", data := Data.fields #[Value.str (Str.ofString "__repr__") 697, Value.str (Str.ofString "BytesIO.__repr__") 698, Value.str (Str.ofString "/claim/cut.py") 699, Value.int 282 0, Value.int 1 0, Value.int 0 0, Value.int 0 0, Value.int 3 0, Value.ref 409, Value.bool true, Value.int 181 0, Value.ref 410, Value.none, Value.ref 411, Value.ref 412, Value.ref 413, Value.int 701 0, Value.int 282 0, Value.str (Str.ofString "/claim/cut.py") 702] } : Obj) ::
Prod.mk (nat_lit 415) ({ cls := Value.type "function", data := Data.func { name := Str.ofString "__repr__", qualname := Str.ofString "BytesIO.__repr__", params := (fParams (inCls 18 30)), body := (.stmts (fBody (inCls 18 30))), scope := (fScope (inCls 18 30)), globals := 3, closure := [], defaults := Value.none, kwdefaults := Value.none, pyModule := Value.str (Str.ofString "io") 340, code := Value.ref 414 } } : Obj) ::
Prod.mk (nat_lit 416) ({ cls := Value.type "tuple", data := Data.seq #[Value.str (Str.ofString "__buf") 704, Value.str (Str.ofString "__pos") 705] } : Obj) ::
Prod.mk (nat_lit 417) ({ cls := Value.type "dict", data := Data.dict #[{ hash := PyData.keyHash P (Str.ofString "__module__"), key := Value.str (Str.ofString "__module__") 455, val := Value.str (Str.ofString "_io") 460 }, { hash := PyData.keyHash P (Str.ofString "__firstlineno__"), key := Value.str (Str.ofString "__firstlineno__") 459, val := Value.int 114 458 }, { hash := PyData.keyHash P (Str.ofString "__init__"), key := Value.str (Str.ofString "__init__") 469, val := Value.ref 205 }, { hash := PyData.keyHash P (Str.ofString "_BytesIO__check"), key := Value.str (Str.ofString "_BytesIO__check") 476, val := Value.ref 212 }, { hash := PyData.keyHash P (Str.ofString "_BytesIO__line"), key := Value.str (Str.ofString "_BytesIO__line") 487, val := Value.ref 219 }, { hash := PyData.keyHash P (Str.ofString "closed"), key := Value.str (Str.ofString "closed") 495, val := Value.ref 227 }, { hash := PyData.keyHash P (Str.ofString "close"), key := Value.str (Str.ofString "close") 502, val := Value.ref 234 }, { hash := PyData.keyHash P (Str.ofString "__enter__"), key := Value.str (Str.ofString "__enter__") 509, val := Value.ref 241 }, { hash := PyData.keyHash P (Str.ofString "__exit__"), key := Value.str (Str.ofString "__exit__") 517, val := Value.ref 248 }, { hash := PyData.keyHash P (Str.ofString "readable"), key := Value.str (Str.ofString "readable") 524, val := Value.ref 255 }, { hash := PyData.keyHash P (Str.ofString "writable"), key := Value.str (Str.ofString "writable") 531, val := Value.ref 262 }, { hash := PyData.keyHash P (Str.ofString "seekable"), key := Value.str (Str.ofString "seekable") 538, val := Value.ref 269 }, { hash := PyData.keyHash P (Str.ofString "isatty"), key := Value.str (Str.ofString "isatty") 545, val := Value.ref 276 }, { hash := PyData.keyHash P (Str.ofString "flush"), key := Value.str (Str.ofString "flush") 552, val := Value.ref 283 }, { hash := PyData.keyHash P (Str.ofString "fileno"), key := Value.str (Str.ofString "fileno") 559, val := Value.ref 290 }, { hash := PyData.keyHash P (Str.ofString "detach"), key := Value.str (Str.ofString "detach") 566, val := Value.ref 297 }, { hash := PyData.keyHash P (Str.ofString "getvalue"), key := Value.str (Str.ofString "getvalue") 573, val := Value.ref 304 }, { hash := PyData.keyHash P (Str.ofString "getbuffer"), key := Value.str (Str.ofString "getbuffer") 580, val := Value.ref 311 }, { hash := PyData.keyHash P (Str.ofString "tell"), key := Value.str (Str.ofString "tell") 587, val := Value.ref 318 }, { hash := PyData.keyHash P (Str.ofString "seek"), key := Value.str (Str.ofString "seek") 597, val := Value.ref 326 }, { hash := PyData.keyHash P (Str.ofString "truncate"), key := Value.str (Str.ofString "truncate") 605, val := Value.ref 334 }, { hash := PyData.keyHash P (Str.ofString "read"), key := Value.str (Str.ofString "read") 617, val := Value.ref 342 }, { hash := PyData.keyHash P (Str.ofString "read1"), key := Value.str (Str.ofString "read1") 627, val := Value.ref 350 }, { hash := PyData.keyHash P (Str.ofString "readinto"), key := Value.str (Str.ofString "readinto") 637, val := Value.ref 357 }, { hash := PyData.keyHash P (Str.ofString "readinto1"), key := Value.str (Str.ofString "readinto1") 645, val := Value.ref 364 }, { hash := PyData.keyHash P (Str.ofString "readline"), key := Value.str (Str.ofString "readline") 655, val := Value.ref 372 }, { hash := PyData.keyHash P (Str.ofString "readlines"), key := Value.str (Str.ofString "readlines") 663, val := Value.ref 380 }, { hash := PyData.keyHash P (Str.ofString "__iter__"), key := Value.str (Str.ofString "__iter__") 670, val := Value.ref 387 }, { hash := PyData.keyHash P (Str.ofString "__next__"), key := Value.str (Str.ofString "__next__") 678, val := Value.ref 394 }, { hash := PyData.keyHash P (Str.ofString "write"), key := Value.str (Str.ofString "write") 688, val := Value.ref 401 }, { hash := PyData.keyHash P (Str.ofString "writelines"), key := Value.str (Str.ofString "writelines") 696, val := Value.ref 408 }, { hash := PyData.keyHash P (Str.ofString "__repr__"), key := Value.str (Str.ofString "__repr__") 703, val := Value.ref 415 }, { hash := PyData.keyHash P (Str.ofString "__static_attributes__"), key := Value.str (Str.ofString "__static_attributes__") 706, val := Value.ref 416 }, { hash := PyData.keyHash P (Str.ofString "__doc__"), key := Value.str (Str.ofString "__doc__") 707, val := Value.none }] 2 } : Obj) ::
Prod.mk (nat_lit 418) ({ cls := Value.type "type", data := Data.cls { name := Str.ofString "BytesIO", bases := [Value.ref 176], mro := [Value.ref 418, Value.ref 176, Value.ref 161, Value.type "object"], ns := 417, qualname := Str.ofString "BytesIO" }, slots := #[some (Value.ref 191), none, some (Value.str (Str.ofString "BytesIO") 448), some (Value.str (Str.ofString "BytesIO") 456), some Value.none, some (Value.bool true)] } : Obj) ::
Prod.mk (nat_lit 421) ({ cls := Value.type "tuple", data := Data.seq #[Value.ref 188] } : Obj) ::
Prod.mk (nat_lit 428) ({ cls := Value.type "tuple", data := Data.seq #[Value.str (Str.ofString "") 724, Value.str (Str.ofString "\n") 725] } : Obj) ::
Prod.mk (nat_lit 429) ({ cls := Value.type "tuple", data := Data.seq #[] } : Obj) ::
Prod.mk (nat_lit 431) ({ cls := Value.type "tuple", data := Data.seq #[Value.str (Str.ofString "self") 729, Value.str (Str.ofString "initial_value") 730, Value.str (Str.ofString "newline") 731] } : Obj) ::
Prod.mk (nat_lit 432) ({ cls := Value.type "tuple", data := Data.seq #[] } : Obj) ::
Prod.mk (nat_lit 434) ({ cls := Value.type "code", data := Data.fields #[Value.str (Str.ofString "__init__") 726, Value.str (Str.ofString "StringIO.__init__") 727, Value.str (Str.ofString "/claim/cut.py") 728, Value.int 287 0, Value.int 3 0, Value.int 0 0, Value.int 0 0, Value.int 3 0, Value.ref 429, Value.bool true, Value.int 181 0, Value.ref 430, Value.none, Value.ref 431, Value.ref 432, Value.ref 433, Value.int 732 0, Value.int 287 0, Value.str (Str.ofString "/claim/cut.py") 733] } : Obj) ::
Prod.mk (nat_lit 435) ({ cls := Value.type "function", data := Data.func { name := Str.ofString "__init__", qualname := Str.ofString "StringIO.__init__", params := (fParams (inCls 19 1)), body := (.stmts (fBody (inCls 19 1))), scope := (fScope (inCls 19 1)), globals := 3, closure := [], defaults := Value.ref 428, kwdefaults := Value.none, pyModule := Value.str (Str.ofString "io") 340, code := Value.ref 434 } } : Obj) ::
Prod.mk (nat_lit 436) ({ cls := Value.type "tuple", data := Data.seq #[] } : Obj) ::
Prod.mk (nat_lit 438) ({ cls := Value.type "tuple", data := Data.seq #[Value.str (Str.ofString "self") 738, Value.str (Str.ofString "s") 739, Value.str (Str.ofString "newline") 740] } : Obj) ::
Prod.mk (nat_lit 439) ({ cls := Value.type "tuple", data := Data.seq #[] } : Obj) ::
Prod.mk (nat_lit 441) ({ cls := Value.type "code", data := Data.fields #[Value.str (Str.ofString "__translated") 735, Value.str (Str.ofString "StringIO.__translated") 736, Value.str (Str.ofString "/claim/cut.py") 737, Value.int 300 0, Value.int 2 0, Value.int 0 0, Value.int 0 0, Value.int 3 0, Value.ref 436, Value.bool true, Value.int 181 0, Value.ref 437, Value.none, Value.ref 438, Value.ref 439, Value.ref 440, Value.int 741 0, Value.int 300 0, Value.str (Str.ofString "/claim/cut.py") 742] } : Obj) ::
Prod.mk (nat_lit 442) ({ cls := Value.type "function", data := Data.func { name := Str.ofString "__translated", qualname := Str.ofString "StringIO.__translated", params := (fParams (inCls 19 2)), body := (.stmts (fBody (inCls 19 2))), scope := (fScope (inCls 19 2)), globals := 3, closure := [], defaults := Value.none, kwdefaults := Value.none, pyModule := Value.str (Str.ofString "io") 340, code := Value.ref 441 } } : Obj) ::
Prod.mk (nat_lit 443) ({ cls := Value.type "tuple", data := Data.seq #[] } : Obj) ::
Prod.mk (nat_lit 445) ({ cls := Value.type "tuple", data := Data.seq #[Value.str (Str.ofString "self") 747] } : Obj) ::
Prod.mk (nat_lit 446) ({ cls := Value.type "tuple", data := Data.seq #[] } : Obj) ::
Prod.mk (nat_lit 448) ({ cls := Value.type "code", data := Data.fields #[Value.str (Str.ofString "__check") 744, Value.str (Str.ofString "StringIO.__check") 745, Value.str (Str.ofString "/claim/cut.py") 746, Value.int 308 0, Value.int 1 0, Value.int 0 0, Value.int 0 0, Value.int 3 0, Value.ref 443, Value.bool true, Value.int 181 0, Value.ref 444, Value.none, Value.ref 445, Value.ref 446, Value.ref 447, Value.int 748 0, Value.int 308 0, Value.str (Str.ofString "/claim/cut.py") 749] } : Obj) ::
Prod.mk (nat_lit 449) ({ cls := Value.type "function", data := Data.func { name := Str.ofString "__check", qualname := Str.ofString "StringIO.__check", params := (fParams (inCls 19 3)), body := (.stmts (fBody (inCls 19 3))), scope := (fScope (inCls 19 3)), globals := 3, closure := [], defaults := Value.none, kwdefaults := Value.none, pyModule := Value.str (Str.ofString "io") 340, code := Value.ref 448 } } : Obj) ::
Prod.mk (nat_lit 450) ({ cls := Value.type "tuple", data := Data.seq #[] } : Obj) ::
Prod.mk (nat_lit 452) ({ cls := Value.type "tuple", data := Data.seq #[Value.str (Str.ofString "self") 754] } : Obj) ::
Prod.mk (nat_lit 453) ({ cls := Value.type "tuple", data := Data.seq #[] } : Obj) ::
Prod.mk (nat_lit 455) ({ cls := Value.type "code", data := Data.fields #[Value.str (Str.ofString "__check_dot") 751, Value.str (Str.ofString "StringIO.__check_dot") 752, Value.str (Str.ofString "/claim/cut.py") 753, Value.int 312 0, Value.int 1 0, Value.int 0 0, Value.int 0 0, Value.int 3 0, Value.ref 450, Value.bool true, Value.int 181 0, Value.ref 451, Value.none, Value.ref 452, Value.ref 453, Value.ref 454, Value.int 755 0, Value.int 312 0, Value.str (Str.ofString "/claim/cut.py") 756] } : Obj) ::
Prod.mk (nat_lit 456) ({ cls := Value.type "function", data := Data.func { name := Str.ofString "__check_dot", qualname := Str.ofString "StringIO.__check_dot", params := (fParams (inCls 19 4)), body := (.stmts (fBody (inCls 19 4))), scope := (fScope (inCls 19 4)), globals := 3, closure := [], defaults := Value.none, kwdefaults := Value.none, pyModule := Value.str (Str.ofString "io") 340, code := Value.ref 455 } } : Obj) ::
Prod.mk (nat_lit 457) ({ cls := Value.type "tuple", data := Data.seq #[] } : Obj) ::
Prod.mk (nat_lit 459) ({ cls := Value.type "tuple", data := Data.seq #[Value.str (Str.ofString "self") 761, Value.str (Str.ofString "limit") 762, Value.str (Str.ofString "start") 763, Value.str (Str.ofString "stop") 764, Value.str (Str.ofString "cut") 765, Value.str (Str.ofString "newline") 766, Value.str (Str.ofString "i") 767, Value.str (Str.ofString "j") 768, Value.str (Str.ofString "end") 769] } : Obj) ::
Prod.mk (nat_lit 460) ({ cls := Value.type "tuple", data := Data.seq #[] } : Obj) ::
Prod.mk (nat_lit 462) ({ cls := Value.type "code", data := Data.fields #[Value.str (Str.ofString "__line") 758, Value.str (Str.ofString "StringIO.__line") 759, Value.str (Str.ofString "/claim/cut.py") 760, Value.int 316 0, Value.int 2 0, Value.int 0 0, Value.int 0 0, Value.int 3 0, Value.ref 457, Value.bool true, Value.int 181 0, Value.ref 458, Value.none, Value.ref 459, Value.ref 460, Value.ref 461, Value.int 770 0, Value.int 316 0, Value.str (Str.ofString "/claim/cut.py") 771] } : Obj) ::
Prod.mk (nat_lit 463) ({ cls := Value.type "function", data := Data.func { name := Str.ofString "__line", qualname := Str.ofString "StringIO.__line", params := (fParams (inCls 19 5)), body := (.stmts (fBody (inCls 19 5))), scope := (fScope (inCls 19 5)), globals := 3, closure := [], defaults := Value.none, kwdefaults := Value.none, pyModule := Value.str (Str.ofString "io") 340, code := Value.ref 462 } } : Obj) ::
Prod.mk (nat_lit 464) ({ cls := Value.type "tuple", data := Data.seq #[] } : Obj) ::
Prod.mk (nat_lit 466) ({ cls := Value.type "tuple", data := Data.seq #[Value.str (Str.ofString "self") 776] } : Obj) ::
Prod.mk (nat_lit 467) ({ cls := Value.type "tuple", data := Data.seq #[] } : Obj) ::
Prod.mk (nat_lit 469) ({ cls := Value.type "code", data := Data.fields #[Value.str (Str.ofString "closed") 773, Value.str (Str.ofString "StringIO.closed") 774, Value.str (Str.ofString "/claim/cut.py") 775, Value.int 348 0, Value.int 1 0, Value.int 0 0, Value.int 0 0, Value.int 3 0, Value.ref 464, Value.bool true, Value.int 181 0, Value.ref 465, Value.none, Value.ref 466, Value.ref 467, Value.ref 468, Value.int 777 0, Value.int 348 0, Value.str (Str.ofString "/claim/cut.py") 778] } : Obj) ::
Prod.mk (nat_lit 470) ({ cls := Value.type "function", data := Data.func { name := Str.ofString "closed", qualname := Str.ofString "StringIO.closed", params := (fParams (inCls 19 6)), body := (.stmts (fBody (inCls 19 6))), scope := (fScope (inCls 19 6)), globals := 3, closure := [], defaults := Value.none, kwdefaults := Value.none, pyModule := Value.str (Str.ofString "io") 340, code := Value.ref 469 } } : Obj) ::
Prod.mk (nat_lit 471) ({ cls := Value.type "property", data := Data.fields #[Value.ref 470, Value.none, Value.none, Value.none, Value.str (Str.ofString "closed") 780, Value.bool false] } : Obj) ::
Prod.mk (nat_lit 472) ({ cls := Value.type "tuple", data := Data.seq #[] } : Obj) ::
Prod.mk (nat_lit 474) ({ cls := Value.type "tuple", data := Data.seq #[Value.str (Str.ofString "self") 784] } : Obj) ::
Prod.mk (nat_lit 475) ({ cls := Value.type "tuple", data := Data.seq #[] } : Obj) ::
Prod.mk (nat_lit 477) ({ cls := Value.type "code", data := Data.fields #[Value.str (Str.ofString "line_buffering") 781, Value.str (Str.ofString "StringIO.line_buffering") 782, Value.str (Str.ofString "/claim/cut.py") 783, Value.int 352 0, Value.int 1 0, Value.int 0 0, Value.int 0 0, Value.int 3 0, Value.ref 472, Value.bool true, Value.int 181 0, Value.ref 473, Value.none, Value.ref 474, Value.ref 475, Value.ref 476, Value.int 785 0, Value.int 352 0, Value.str (Str.ofString "/claim/cut.py") 786] } : Obj) ::
Prod.mk (nat_lit 478) ({ cls := Value.type "function", data := Data.func { name := Str.ofString "line_buffering", qualname := Str.ofString "StringIO.line_buffering", params := (fParams (inCls 19 7)), body := (.stmts (fBody (inCls 19 7))), scope := (fScope (inCls 19 7)), globals := 3, closure := [], defaults := Value.none, kwdefaults := Value.none, pyModule := Value.str (Str.ofString "io") 340, code := Value.ref 477 } } : Obj) ::
Prod.mk (nat_lit 479) ({ cls := Value.type "property", data := Data.fields #[Value.ref 478, Value.none, Value.none, Value.none, Value.str (Str.ofString "line_buffering") 788, Value.bool false] } : Obj) ::
Prod.mk (nat_lit 480) ({ cls := Value.type "tuple", data := Data.seq #[] } : Obj) ::
Prod.mk (nat_lit 482) ({ cls := Value.type "tuple", data := Data.seq #[Value.str (Str.ofString "self") 792] } : Obj) ::
Prod.mk (nat_lit 483) ({ cls := Value.type "tuple", data := Data.seq #[] } : Obj) ::
Prod.mk (nat_lit 485) ({ cls := Value.type "code", data := Data.fields #[Value.str (Str.ofString "newlines") 789, Value.str (Str.ofString "StringIO.newlines") 790, Value.str (Str.ofString "/claim/cut.py") 791, Value.int 356 0, Value.int 1 0, Value.int 0 0, Value.int 0 0, Value.int 3 0, Value.ref 480, Value.bool true, Value.int 181 0, Value.ref 481, Value.none, Value.ref 482, Value.ref 483, Value.ref 484, Value.int 793 0, Value.int 356 0, Value.str (Str.ofString "/claim/cut.py") 794] } : Obj) ::
Prod.mk (nat_lit 486) ({ cls := Value.type "function", data := Data.func { name := Str.ofString "newlines", qualname := Str.ofString "StringIO.newlines", params := (fParams (inCls 19 8)), body := (.stmts (fBody (inCls 19 8))), scope := (fScope (inCls 19 8)), globals := 3, closure := [], defaults := Value.none, kwdefaults := Value.none, pyModule := Value.str (Str.ofString "io") 340, code := Value.ref 485 } } : Obj) ::
Prod.mk (nat_lit 487) ({ cls := Value.type "property", data := Data.fields #[Value.ref 486, Value.none, Value.none, Value.none, Value.str (Str.ofString "newlines") 796, Value.bool false] } : Obj) ::
Prod.mk (nat_lit 488) ({ cls := Value.type "tuple", data := Data.seq #[] } : Obj) ::
Prod.mk (nat_lit 490) ({ cls := Value.type "tuple", data := Data.seq #[Value.str (Str.ofString "self") 800] } : Obj) ::
Prod.mk (nat_lit 491) ({ cls := Value.type "tuple", data := Data.seq #[] } : Obj) ::
Prod.mk (nat_lit 493) ({ cls := Value.type "code", data := Data.fields #[Value.str (Str.ofString "encoding") 797, Value.str (Str.ofString "StringIO.encoding") 798, Value.str (Str.ofString "/claim/cut.py") 799, Value.int 360 0, Value.int 1 0, Value.int 0 0, Value.int 0 0, Value.int 3 0, Value.ref 488, Value.bool true, Value.int 181 0, Value.ref 489, Value.none, Value.ref 490, Value.ref 491, Value.ref 492, Value.int 801 0, Value.int 360 0, Value.str (Str.ofString "/claim/cut.py") 802] } : Obj) ::
Prod.mk (nat_lit 494) ({ cls := Value.type "function", data := Data.func { name := Str.ofString "encoding", qualname := Str.ofString "StringIO.encoding", params := (fParams (inCls 19 9)), body := (.stmts (fBody (inCls 19 9))), scope := (fScope (inCls 19 9)), globals := 3, closure := [], defaults := Value.none, kwdefaults := Value.none, pyModule := Value.str (Str.ofString "io") 340, code := Value.ref 493 } } : Obj) ::
Prod.mk (nat_lit 495) ({ cls := Value.type "property", data := Data.fields #[Value.ref 494, Value.none, Value.none, Value.none, Value.str (Str.ofString "encoding") 804, Value.bool false] } : Obj) ::
Prod.mk (nat_lit 496) ({ cls := Value.type "tuple", data := Data.seq #[] } : Obj) ::
Prod.mk (nat_lit 498) ({ cls := Value.type "tuple", data := Data.seq #[Value.str (Str.ofString "self") 808] } : Obj) ::
Prod.mk (nat_lit 499) ({ cls := Value.type "tuple", data := Data.seq #[] } : Obj) ::
Prod.mk (nat_lit 501) ({ cls := Value.type "code", data := Data.fields #[Value.str (Str.ofString "errors") 805, Value.str (Str.ofString "StringIO.errors") 806, Value.str (Str.ofString "/claim/cut.py") 807, Value.int 364 0, Value.int 1 0, Value.int 0 0, Value.int 0 0, Value.int 3 0, Value.ref 496, Value.bool true, Value.int 181 0, Value.ref 497, Value.none, Value.ref 498, Value.ref 499, Value.ref 500, Value.int 809 0, Value.int 364 0, Value.str (Str.ofString "/claim/cut.py") 810] } : Obj) ::
Prod.mk (nat_lit 502) ({ cls := Value.type "function", data := Data.func { name := Str.ofString "errors", qualname := Str.ofString "StringIO.errors", params := (fParams (inCls 19 10)), body := (.stmts (fBody (inCls 19 10))), scope := (fScope (inCls 19 10)), globals := 3, closure := [], defaults := Value.none, kwdefaults := Value.none, pyModule := Value.str (Str.ofString "io") 340, code := Value.ref 501 } } : Obj) ::
Prod.mk (nat_lit 503) ({ cls := Value.type "property", data := Data.fields #[Value.ref 502, Value.none, Value.none, Value.none, Value.str (Str.ofString "errors") 812, Value.bool false] } : Obj) ::
Prod.mk (nat_lit 504) ({ cls := Value.type "tuple", data := Data.seq #[] } : Obj) ::
Prod.mk (nat_lit 506) ({ cls := Value.type "tuple", data := Data.seq #[Value.str (Str.ofString "self") 816] } : Obj) ::
Prod.mk (nat_lit 507) ({ cls := Value.type "tuple", data := Data.seq #[] } : Obj) ::
Prod.mk (nat_lit 509) ({ cls := Value.type "code", data := Data.fields #[Value.str (Str.ofString "close") 813, Value.str (Str.ofString "StringIO.close") 814, Value.str (Str.ofString "/claim/cut.py") 815, Value.int 368 0, Value.int 1 0, Value.int 0 0, Value.int 0 0, Value.int 3 0, Value.ref 504, Value.bool true, Value.int 181 0, Value.ref 505, Value.none, Value.ref 506, Value.ref 507, Value.ref 508, Value.int 817 0, Value.int 368 0, Value.str (Str.ofString "/claim/cut.py") 818] } : Obj) ::
Prod.mk (nat_lit 510) ({ cls := Value.type "function", data := Data.func { name := Str.ofString "close", qualname := Str.ofString "StringIO.close", params := (fParams (inCls 19 11)), body := (.stmts (fBody (inCls 19 11))), scope := (fScope (inCls 19 11)), globals := 3, closure := [], defaults := Value.none, kwdefaults := Value.none, pyModule := Value.str (Str.ofString "io") 340, code := Value.ref 509 } } : Obj) ::
Prod.mk (nat_lit 511) ({ cls := Value.type "tuple", data := Data.seq #[] } : Obj) ::
Prod.mk (nat_lit 513) ({ cls := Value.type "tuple", data := Data.seq #[Value.str (Str.ofString "self") 823] } : Obj) ::
Prod.mk (nat_lit 514) ({ cls := Value.type "tuple", data := Data.seq #[] } : Obj) ::
Prod.mk (nat_lit 516) ({ cls := Value.type "code", data := Data.fields #[Value.str (Str.ofString "__enter__") 820, Value.str (Str.ofString "StringIO.__enter__") 821, Value.str (Str.ofString "/claim/cut.py") 822, Value.int 371 0, Value.int 1 0, Value.int 0 0, Value.int 0 0, Value.int 3 0, Value.ref 511, Value.bool true, Value.int 181 0, Value.ref 512, Value.none, Value.ref 513, Value.ref 514, Value.ref 515, Value.int 824 0, Value.int 371 0, Value.str (Str.ofString "/claim/cut.py") 825] } : Obj) ::
Prod.mk (nat_lit 517) ({ cls := Value.type "function", data := Data.func { name := Str.ofString "__enter__", qualname := Str.ofString "StringIO.__enter__", params := (fParams (inCls 19 12)), body := (.stmts (fBody (inCls 19 12))), scope := (fScope (inCls 19 12)), globals := 3, closure := [], defaults := Value.none, kwdefaults := Value.none, pyModule := Value.str (Str.ofString "io") 340, code := Value.ref 516 } } : Obj) ::
Prod.mk (nat_lit 518) ({ cls := Value.type "tuple", data := Data.seq #[] } : Obj) ::
Prod.mk (nat_lit 520) ({ cls := Value.type "tuple", data := Data.seq #[Value.str (Str.ofString "self") 830, Value.str (Str.ofString "args") 831] } : Obj) ::
Prod.mk (nat_lit 521) ({ cls := Value.type "tuple", data := Data.seq #[] } : Obj) ::
Prod.mk (nat_lit 523) ({ cls := Value.type "code", data := Data.fields #[Value.str (Str.ofString "__exit__") 827, Value.str (Str.ofString "StringIO.__exit__") 828, Value.str (Str.ofString "/claim/cut.py") 829, Value.int 375 0, Value.int 1 0, Value.int 0 0, Value.int 0 0, Value.int 7 0, Value.ref 518, Value.bool true, Value.int 181 0, Value.ref 519, Value.none, Value.ref 520, Value.ref 521, Value.ref 522, Value.int 832 0, Value.int 375 0, Value.str (Str.ofString "/claim/cut.py") 833] } : Obj) ::
Prod.mk (nat_lit 524) ({ cls := Value.type "function", data := Data.func { name := Str.ofString "__exit__", qualname := Str.ofString "StringIO.__exit__", params := (fParams (inCls 19 13)), body := (.stmts (fBody (inCls 19 13))), scope := (fScope (inCls 19 13)), globals := 3, closure := [], defaults := Value.none, kwdefaults := Value.none, pyModule := Value.str (Str.ofString "io") 340, code := Value.ref 523 } } : Obj) ::
Prod.mk (nat_lit 525) ({ cls := Value.type "tuple", data := Data.seq #[] } : Obj) ::
Prod.mk (nat_lit 527) ({ cls := Value.type "tuple", data := Data.seq #[Value.str (Str.ofString "self") 838] } : Obj) ::
Prod.mk (nat_lit 528) ({ cls := Value.type "tuple", data := Data.seq #[] } : Obj) ::
Prod.mk (nat_lit 530) ({ cls := Value.type "code", data := Data.fields #[Value.str (Str.ofString "readable") 835, Value.str (Str.ofString "StringIO.readable") 836, Value.str (Str.ofString "/claim/cut.py") 837, Value.int 378 0, Value.int 1 0, Value.int 0 0, Value.int 0 0, Value.int 3 0, Value.ref 525, Value.bool true, Value.int 181 0, Value.ref 526, Value.none, Value.ref 527, Value.ref 528, Value.ref 529, Value.int 839 0, Value.int 378 0, Value.str (Str.ofString "/claim/cut.py") 840] } : Obj) ::
Prod.mk (nat_lit 531) ({ cls := Value.type "function", data := Data.func { name := Str.ofString "readable", qualname := Str.ofString "StringIO.readable", params := (fParams (inCls 19 14)), body := (.stmts (fBody (inCls 19 14))), scope := (fScope (inCls 19 14)), globals := 3, closure := [], defaults := Value.none, kwdefaults := Value.none, pyModule := Value.str (Str.ofString "io") 340, code := Value.ref 530 } } : Obj) ::
Prod.mk (nat_lit 532) ({ cls := Value.type "tuple", data := Data.seq #[] } : Obj) ::
Prod.mk (nat_lit 534) ({ cls := Value.type "tuple", data := Data.seq #[Value.str (Str.ofString "self") 845] } : Obj) ::
Prod.mk (nat_lit 535) ({ cls := Value.type "tuple", data := Data.seq #[] } : Obj) ::
Prod.mk (nat_lit 537) ({ cls := Value.type "code", data := Data.fields #[Value.str (Str.ofString "writable") 842, Value.str (Str.ofString "StringIO.writable") 843, Value.str (Str.ofString "/claim/cut.py") 844, Value.int 382 0, Value.int 1 0, Value.int 0 0, Value.int 0 0, Value.int 3 0, Value.ref 532, Value.bool true, Value.int 181 0, Value.ref 533, Value.none, Value.ref 534, Value.ref 535, Value.ref 536, Value.int 846 0, Value.int 382 0, Value.str (Str.ofString "/claim/cut.py") 847] } : Obj) ::
Prod.mk (nat_lit 538) ({ cls := Value.type "function", data := Data.func { name := Str.ofString "writable", qualname := Str.ofString "StringIO.writable", params := (fParams (inCls 19 15)), body := (.stmts (fBody (inCls 19 15))), scope := (fScope (inCls 19 15)), globals := 3, closure := [], defaults := Value.none, kwdefaults := Value.none, pyModule := Value.str (Str.ofString "io") 340, code := Value.ref 537 } } : Obj) ::
Prod.mk (nat_lit 539) ({ cls := Value.type "tuple", data := Data.seq #[] } : Obj) ::
Prod.mk (nat_lit 541) ({ cls := Value.type "tuple", data := Data.seq #[Value.str (Str.ofString "self") 852] } : Obj) ::
Prod.mk (nat_lit 542) ({ cls := Value.type "tuple", data := Data.seq #[] } : Obj) ::
Prod.mk (nat_lit 544) ({ cls := Value.type "code", data := Data.fields #[Value.str (Str.ofString "seekable") 849, Value.str (Str.ofString "StringIO.seekable") 850, Value.str (Str.ofString "/claim/cut.py") 851, Value.int 386 0, Value.int 1 0, Value.int 0 0, Value.int 0 0, Value.int 3 0, Value.ref 539, Value.bool true, Value.int 181 0, Value.ref 540, Value.none, Value.ref 541, Value.ref 542, Value.ref 543, Value.int 853 0, Value.int 386 0, Value.str (Str.ofString "/claim/cut.py") 854] } : Obj) ::
Prod.mk (nat_lit 545) ({ cls := Value.type "function", data := Data.func { name := Str.ofString "seekable", qualname := Str.ofString "StringIO.seekable", params := (fParams (inCls 19 16)), body := (.stmts (fBody (inCls 19 16))), scope := (fScope (inCls 19 16)), globals := 3, closure := [], defaults := Value.none, kwdefaults := Value.none, pyModule := Value.str (Str.ofString "io") 340, code := Value.ref 544 } } : Obj) ::
Prod.mk (nat_lit 546) ({ cls := Value.type "tuple", data := Data.seq #[] } : Obj) ::
Prod.mk (nat_lit 548) ({ cls := Value.type "tuple", data := Data.seq #[Value.str (Str.ofString "self") 859] } : Obj) ::
Prod.mk (nat_lit 549) ({ cls := Value.type "tuple", data := Data.seq #[] } : Obj) ::
Prod.mk (nat_lit 551) ({ cls := Value.type "code", data := Data.fields #[Value.str (Str.ofString "isatty") 856, Value.str (Str.ofString "StringIO.isatty") 857, Value.str (Str.ofString "/claim/cut.py") 858, Value.int 390 0, Value.int 1 0, Value.int 0 0, Value.int 0 0, Value.int 3 0, Value.ref 546, Value.bool true, Value.int 181 0, Value.ref 547, Value.none, Value.ref 548, Value.ref 549, Value.ref 550, Value.int 860 0, Value.int 390 0, Value.str (Str.ofString "/claim/cut.py") 861] } : Obj) ::
Prod.mk (nat_lit 552) ({ cls := Value.type "function", data := Data.func { name := Str.ofString "isatty", qualname := Str.ofString "StringIO.isatty", params := (fParams (inCls 19 17)), body := (.stmts (fBody (inCls 19 17))), scope := (fScope (inCls 19 17)), globals := 3, closure := [], defaults := Value.none, kwdefaults := Value.none, pyModule := Value.str (Str.ofString "io") 340, code := Value.ref 551 } } : Obj) ::
Prod.mk (nat_lit 553) ({ cls := Value.type "tuple", data := Data.seq #[] } : Obj) ::
Prod.mk (nat_lit 555) ({ cls := Value.type "tuple", data := Data.seq #[Value.str (Str.ofString "self") 866] } : Obj) ::
Prod.mk (nat_lit 556) ({ cls := Value.type "tuple", data := Data.seq #[] } : Obj) ::
Prod.mk (nat_lit 558) ({ cls := Value.type "code", data := Data.fields #[Value.str (Str.ofString "flush") 863, Value.str (Str.ofString "StringIO.flush") 864, Value.str (Str.ofString "/claim/cut.py") 865, Value.int 394 0, Value.int 1 0, Value.int 0 0, Value.int 0 0, Value.int 3 0, Value.ref 553, Value.bool true, Value.int 181 0, Value.ref 554, Value.none, Value.ref 555, Value.ref 556, Value.ref 557, Value.int 867 0, Value.int 394 0, Value.str (Str.ofString "/claim/cut.py") 868] } : Obj) ::
Prod.mk (nat_lit 559) ({ cls := Value.type "function", data := Data.func { name := Str.ofString "flush", qualname := Str.ofString "StringIO.flush", params := (fParams (inCls 19 18)), body := (.stmts (fBody (inCls 19 18))), scope := (fScope (inCls 19 18)), globals := 3, closure := [], defaults := Value.none, kwdefaults := Value.none, pyModule := Value.str (Str.ofString "io") 340, code := Value.ref 558 } } : Obj) ::
Prod.mk (nat_lit 560) ({ cls := Value.type "tuple", data := Data.seq #[] } : Obj) ::
Prod.mk (nat_lit 562) ({ cls := Value.type "tuple", data := Data.seq #[Value.str (Str.ofString "self") 873] } : Obj) ::
Prod.mk (nat_lit 563) ({ cls := Value.type "tuple", data := Data.seq #[] } : Obj) ::
Prod.mk (nat_lit 565) ({ cls := Value.type "code", data := Data.fields #[Value.str (Str.ofString "fileno") 870, Value.str (Str.ofString "StringIO.fileno") 871, Value.str (Str.ofString "/claim/cut.py") 872, Value.int 397 0, Value.int 1 0, Value.int 0 0, Value.int 0 0, Value.int 3 0, Value.ref 560, Value.bool true, Value.int 181 0, Value.ref 561, Value.none, Value.ref 562, Value.ref 563, Value.ref 564, Value.int 874 0, Value.int 397 0, Value.str (Str.ofString "/claim/cut.py") 875] } : Obj) ::
Prod.mk (nat_lit 566) ({ cls := Value.type "function", data := Data.func { name := Str.ofString "fileno", qualname := Str.ofString "StringIO.fileno", params := (fParams (inCls 19 19)), body := (.stmts (fBody (inCls 19 19))), scope := (fScope (inCls 19 19)), globals := 3, closure := [], defaults := Value.none, kwdefaults := Value.none, pyModule := Value.str (Str.ofString "io") 340, code := Value.ref 565 } } : Obj) ::
Prod.mk (nat_lit 567) ({ cls := Value.type "tuple", data := Data.seq #[] } : Obj) ::
Prod.mk (nat_lit 569) ({ cls := Value.type "tuple", data := Data.seq #[Value.str (Str.ofString "self") 880] } : Obj) ::
Prod.mk (nat_lit 570) ({ cls := Value.type "tuple", data := Data.seq #[] } : Obj) ::
Prod.mk (nat_lit 572) ({ cls := Value.type "code", data := Data.fields #[Value.str (Str.ofString "detach") 877, Value.str (Str.ofString "StringIO.detach") 878, Value.str (Str.ofString "/claim/cut.py") 879, Value.int 400 0, Value.int 1 0, Value.int 0 0, Value.int 0 0, Value.int 3 0, Value.ref 567, Value.bool true, Value.int 181 0, Value.ref 568, Value.none, Value.ref 569, Value.ref 570, Value.ref 571, Value.int 881 0, Value.int 400 0, Value.str (Str.ofString "/claim/cut.py") 882] } : Obj) ::
Prod.mk (nat_lit 573) ({ cls := Value.type "function", data := Data.func { name := Str.ofString "detach", qualname := Str.ofString "StringIO.detach", params := (fParams (inCls 19 20)), body := (.stmts (fBody (inCls 19 20))), scope := (fScope (inCls 19 20)), globals := 3, closure := [], defaults := Value.none, kwdefaults := Value.none, pyModule := Value.str (Str.ofString "io") 340, code := Value.ref 572 } } : Obj) ::
Prod.mk (nat_lit 574) ({ cls := Value.type "tuple", data := Data.seq #[] } : Obj) ::
Prod.mk (nat_lit 576) ({ cls := Value.type "tuple", data := Data.seq #[Value.str (Str.ofString "self") 887] } : Obj) ::
Prod.mk (nat_lit 577) ({ cls := Value.type "tuple", data := Data.seq #[] } : Obj) ::
Prod.mk (nat_lit 579) ({ cls := Value.type "code", data := Data.fields #[Value.str (Str.ofString "getvalue") 884, Value.str (Str.ofString "StringIO.getvalue") 885, Value.str (Str.ofString "/claim/cut.py") 886, Value.int 403 0, Value.int 1 0, Value.int 0 0, Value.int 0 0, Value.int 3 0, Value.ref 574, Value.bool true, Value.int 181 0, Value.ref 575, Value.none, Value.ref 576, Value.ref 577, Value.ref 578, Value.int 888 0, Value.int 403 0, Value.str (Str.ofString "/claim/cut.py") 889] } : Obj) ::
Prod.mk (nat_lit 580) ({ cls := Value.type "function", data := Data.func { name := Str.ofString "getvalue", qualname := Str.ofString "StringIO.getvalue", params := (fParams (inCls 19 21)), body := (.stmts (fBody (inCls 19 21))), scope := (fScope (inCls 19 21)), globals := 3, closure := [], defaults := Value.none, kwdefaults := Value.none, pyModule := Value.str (Str.ofString "io") 340, code := Value.ref 579 } } : Obj) ::
Prod.mk (nat_lit 581) ({ cls := Value.type "tuple", data := Data.seq #[] } : Obj) ::
Prod.mk (nat_lit 583) ({ cls := Value.type "tuple", data := Data.seq #[Value.str (Str.ofString "self") 894] } : Obj) ::
Prod.mk (nat_lit 584) ({ cls := Value.type "tuple", data := Data.seq #[] } : Obj) ::
Prod.mk (nat_lit 586) ({ cls := Value.type "code", data := Data.fields #[Value.str (Str.ofString "tell") 891, Value.str (Str.ofString "StringIO.tell") 892, Value.str (Str.ofString "/claim/cut.py") 893, Value.int 406 0, Value.int 1 0, Value.int 0 0, Value.int 0 0, Value.int 3 0, Value.ref 581, Value.bool true, Value.int 181 0, Value.ref 582, Value.none, Value.ref 583, Value.ref 584, Value.ref 585, Value.int 895 0, Value.int 406 0, Value.str (Str.ofString "/claim/cut.py") 896] } : Obj) ::
Prod.mk (nat_lit 587) ({ cls := Value.type "function", data := Data.func { name := Str.ofString "tell", qualname := Str.ofString "StringIO.tell", params := (fParams (inCls 19 22)), body := (.stmts (fBody (inCls 19 22))), scope := (fScope (inCls 19 22)), globals := 3, closure := [], defaults := Value.none, kwdefaults := Value.none, pyModule := Value.str (Str.ofString "io") 340, code := Value.ref 586 } } : Obj) ::
Prod.mk (nat_lit 588) ({ cls := Value.type "tuple", data := Data.seq #[Value.int 0 898] } : Obj) ::
Prod.mk (nat_lit 589) ({ cls := Value.type "tuple", data := Data.seq #[] } : Obj) ::
Prod.mk (nat_lit 591) ({ cls := Value.type "tuple", data := Data.seq #[Value.str (Str.ofString "self") 902, Value.str (Str.ofString "pos") 903, Value.str (Str.ofString "whence") 904] } : Obj) ::
Prod.mk (nat_lit 592) ({ cls := Value.type "tuple", data := Data.seq #[] } : Obj) ::
Prod.mk (nat_lit 594) ({ cls := Value.type "code", data := Data.fields #[Value.str (Str.ofString "seek") 899, Value.str (Str.ofString "StringIO.seek") 900, Value.str (Str.ofString "/claim/cut.py") 901, Value.int 410 0, Value.int 3 0, Value.int 3 0, Value.int 0 0, Value.int 3 0, Value.ref 589, Value.bool true, Value.int 181 0, Value.ref 590, Value.none, Value.ref 591, Value.ref 592, Value.ref 593, Value.int 905 0, Value.int 410 0, Value.str (Str.ofString "/claim/cut.py") 906] } : Obj) ::
Prod.mk (nat_lit 595) ({ cls := Value.type "function", data := Data.func { name := Str.ofString "seek", qualname := Str.ofString "StringIO.seek", params := (fParams (inCls 19 23)), body := (.stmts (fBody (inCls 19 23))), scope := (fScope (inCls 19 23)), globals := 3, closure := [], defaults := Value.ref 588, kwdefaults := Value.none, pyModule := Value.str (Str.ofString "io") 340, code := Value.ref 594 } } : Obj) ::
Prod.mk (nat_lit 596) ({ cls := Value.type "tuple", data := Data.seq #[Value.none] } : Obj) ::
Prod.mk (nat_lit 597) ({ cls := Value.type "tuple", data := Data.seq #[] } : Obj) ::
Prod.mk (nat_lit 599) ({ cls := Value.type "tuple", data := Data.seq #[Value.str (Str.ofString "self") 911, Value.str (Str.ofString "pos") 912] } : Obj) ::
Prod.mk (nat_lit 600) ({ cls := Value.type "tuple", data := Data.seq #[] } : Obj) ::
Prod.mk (nat_lit 602) ({ cls := Value.type "code", data := Data.fields #[Value.str (Str.ofString "truncate") 908, Value.str (Str.ofString "StringIO.truncate") 909, Value.str (Str.ofString "/claim/cut.py") 910, Value.int 427 0, Value.int 2 0, Value.int 2 0, Value.int 0 0, Value.int 3 0, Value.ref 597, Value.bool true, Value.int 181 0, Value.ref 598, Value.none, Value.ref 599, Value.ref 600, Value.ref 601, Value.int 913 0, Value.int 427 0, Value.str (Str.ofString "/claim/cut.py") 914] } : Obj) ::
Prod.mk (nat_lit 603) ({ cls := Value.type "function", data := Data.func { name := Str.ofString "truncate", qualname := Str.ofString "StringIO.truncate", params := (fParams (inCls 19 24)), body := (.stmts (fBody (inCls 19 24))), scope := (fScope (inCls 19 24)), globals := 3, closure := [], defaults := Value.ref 596, kwdefaults := Value.none, pyModule := Value.str (Str.ofString "io") 340, code := Value.ref 602 } } : Obj) ::
Prod.mk (nat_lit 604) ({ cls := Value.type "tuple", data := Data.seq #[Value.int (-1) 917] } : Obj) ::
Prod.mk (nat_lit 605) ({ cls := Value.type "tuple", data := Data.seq #[] } : Obj) ::
Prod.mk (nat_lit 607) ({ cls := Value.type "tuple", data := Data.seq #[Value.str (Str.ofString "self") 921, Value.str (Str.ofString "size") 922, Value.str (Str.ofString "start") 923, Value.str (Str.ofString "stop") 924] } : Obj) ::
Prod.mk (nat_lit 608) ({ cls := Value.type "tuple", data := Data.seq #[] } : Obj) ::
Prod.mk (nat_lit 610) ({ cls := Value.type "code", data := Data.fields #[Value.str (Str.ofString "read") 918, Value.str (Str.ofString "StringIO.read") 919, Value.str (Str.ofString "/claim/cut.py") 920, Value.int 430 0, Value.int 2 0, Value.int 2 0, Value.int 0 0, Value.int 3 0, Value.ref 605, Value.bool true, Value.int 181 0, Value.ref 606, Value.none, Value.ref 607, Value.ref 608, Value.ref 609, Value.int 925 0, Value.int 430 0, Value.str (Str.ofString "/claim/cut.py") 926] } : Obj) ::
Prod.mk (nat_lit 611) ({ cls := Value.type "function", data := Data.func { name := Str.ofString "read", qualname := Str.ofString "StringIO.read", params := (fParams (inCls 19 25)), body := (.stmts (fBody (inCls 19 25))), scope := (fScope (inCls 19 25)), globals := 3, closure := [], defaults := Value.ref 604, kwdefaults := Value.none, pyModule := Value.str (Str.ofString "io") 340, code := Value.ref 610 } } : Obj) ::
Prod.mk (nat_lit 612) ({ cls := Value.type "tuple", data := Data.seq #[Value.int (-1) 929] } : Obj) ::
Prod.mk (nat_lit 613) ({ cls := Value.type "tuple", data := Data.seq #[] } : Obj) ::
Prod.mk (nat_lit 615) ({ cls := Value.type "tuple", data := Data.seq #[Value.str (Str.ofString "self") 933, Value.str (Str.ofString "size") 934] } : Obj) ::
Prod.mk (nat_lit 616) ({ cls := Value.type "tuple", data := Data.seq #[] } : Obj) ::
Prod.mk (nat_lit 618) ({ cls := Value.type "code", data := Data.fields #[Value.str (Str.ofString "readline") 930, Value.str (Str.ofString "StringIO.readline") 931, Value.str (Str.ofString "/claim/cut.py") 932, Value.int 444 0, Value.int 2 0, Value.int 2 0, Value.int 0 0, Value.int 3 0, Value.ref 613, Value.bool true, Value.int 181 0, Value.ref 614, Value.none, Value.ref 615, Value.ref 616, Value.ref 617, Value.int 935 0, Value.int 444 0, Value.str (Str.ofString "/claim/cut.py") 936] } : Obj) ::
Prod.mk (nat_lit 619) ({ cls := Value.type "function", data := Data.func { name := Str.ofString "readline", qualname := Str.ofString "StringIO.readline", params := (fParams (inCls 19 26)), body := (.stmts (fBody (inCls 19 26))), scope := (fScope (inCls 19 26)), globals := 3, closure := [], defaults := Value.ref 612, kwdefaults := Value.none, pyModule := Value.str (Str.ofString "io") 340, code := Value.ref 618 } } : Obj) ::
Prod.mk (nat_lit 620) ({ cls := Value.type "tuple", data := Data.seq #[Value.int (-1) 939] } : Obj) ::
Prod.mk (nat_lit 621) ({ cls := Value.type "tuple", data := Data.seq #[] } : Obj) ::
Prod.mk (nat_lit 623) ({ cls := Value.type "tuple", data := Data.seq #[Value.str (Str.ofString "self") 943, Value.str (Str.ofString "hint") 944] } : Obj) ::
Prod.mk (nat_lit 624) ({ cls := Value.type "tuple", data := Data.seq #[] } : Obj) ::
Prod.mk (nat_lit 626) ({ cls := Value.type "code", data := Data.fields #[Value.str (Str.ofString "readlines") 940, Value.str (Str.ofString "StringIO.readlines") 941, Value.str (Str.ofString "/claim/cut.py") 942, Value.int 451 0, Value.int 2 0, Value.int 2 0, Value.int 0 0, Value.int 3 0, Value.ref 621, Value.bool true, Value.int 181 0, Value.ref 622, Value.none, Value.ref 623, Value.ref 624, Value.ref 625, Value.int 945 0, Value.int 451 0, Value.str (Str.ofString "/claim/cut.py") 946] } : Obj) ::
Prod.mk (nat_lit 627) ({ cls := Value.type "function", data := Data.func { name := Str.ofString "readlines", qualname := Str.ofString "StringIO.readlines", params := (fParams (inCls 19 27)), body := (.stmts (fBody (inCls 19 27))), scope := (fScope (inCls 19 27)), globals := 3, closure := [], defaults := Value.ref 620, kwdefaults := Value.none, pyModule := Value.str (Str.ofString "io") 340, code := Value.ref 626 } } : Obj) ::
Prod.mk (nat_lit 628) ({ cls := Value.type "tuple", data := Data.seq #[] } : Obj) ::
Prod.mk (nat_lit 630) ({ cls := Value.type "tuple", data := Data.seq #[Value.str (Str.ofString "self") 951] } : Obj) ::
Prod.mk (nat_lit 631) ({ cls := Value.type "tuple", data := Data.seq #[] } : Obj) ::
Prod.mk (nat_lit 633) ({ cls := Value.type "code", data := Data.fields #[Value.str (Str.ofString "__iter__") 948, Value.str (Str.ofString "StringIO.__iter__") 949, Value.str (Str.ofString "/claim/cut.py") 950, Value.int 454 0, Value.int 1 0, Value.int 0 0, Value.int 0 0, Value.int 3 0, Value.ref 628, Value.bool true, Value.int 181 0, Value.ref 629, Value.none, Value.ref 630, Value.ref 631, Value.ref 632, Value.int 952 0, Value.int 454 0, Value.str (Str.ofString "/claim/cut.py") 953] } : Obj) ::
Prod.mk (nat_lit 634) ({ cls := Value.type "function", data := Data.func { name := Str.ofString "__iter__", qualname := Str.ofString "StringIO.__iter__", params := (fParams (inCls 19 28)), body := (.stmts (fBody (inCls 19 28))), scope := (fScope (inCls 19 28)), globals := 3, closure := [], defaults := Value.none, kwdefaults := Value.none, pyModule := Value.str (Str.ofString "io") 340, code := Value.ref 633 } } : Obj) ::
Prod.mk (nat_lit 635) ({ cls := Value.type "tuple", data := Data.seq #[] } : Obj) ::
Prod.mk (nat_lit 637) ({ cls := Value.type "tuple", data := Data.seq #[Value.str (Str.ofString "self") 958, Value.str (Str.ofString "line") 959] } : Obj) ::
Prod.mk (nat_lit 638) ({ cls := Value.type "tuple", data := Data.seq #[] } : Obj) ::
Prod.mk (nat_lit 640) ({ cls := Value.type "code", data := Data.fields #[Value.str (Str.ofString "__next__") 955, Value.str (Str.ofString "StringIO.__next__") 956, Value.str (Str.ofString "/claim/cut.py") 957, Value.int 458 0, Value.int 1 0, Value.int 0 0, Value.int 0 0, Value.int 3 0, Value.ref 635, Value.bool true, Value.int 181 0, Value.ref 636, Value.none, Value.ref 637, Value.ref 638, Value.ref 639, Value.int 960 0, Value.int 458 0, Value.str (Str.ofString "/claim/cut.py") 961] } : Obj) ::
Prod.mk (nat_lit 641) ({ cls := Value.type "function", data := Data.func { name := Str.ofString "__next__", qualname := Str.ofString "StringIO.__next__", params := (fParams (inCls 19 29)), body := (.stmts (fBody (inCls 19 29))), scope := (fScope (inCls 19 29)), globals := 3, closure := [], defaults := Value.none, kwdefaults := Value.none, pyModule := Value.str (Str.ofString "io") 340, code := Value.ref 640 } } : Obj) ::
Prod.mk (nat_lit 642) ({ cls := Value.type "tuple", data := Data.seq #[] } : Obj) ::
Prod.mk (nat_lit 644) ({ cls := Value.type "tuple", data := Data.seq #[Value.str (Str.ofString "self") 966, Value.str (Str.ofString "s") 967, Value.str (Str.ofString "n") 968, Value.str (Str.ofString "m") 969, Value.str (Str.ofString "start") 970, Value.str (Str.ofString "buf") 971] } : Obj) ::
Prod.mk (nat_lit 645) ({ cls := Value.type "tuple", data := Data.seq #[] } : Obj) ::
Prod.mk (nat_lit 647) ({ cls := Value.type "code", data := Data.fields #[Value.str (Str.ofString "write") 963, Value.str (Str.ofString "StringIO.write") 964, Value.str (Str.ofString "/claim/cut.py") 965, Value.int 465 0, Value.int 2 0, Value.int 2 0, Value.int 0 0, Value.int 3 0, Value.ref 642, Value.bool true, Value.int 181 0, Value.ref 643, Value.none, Value.ref 644, Value.ref 645, Value.ref 646, Value.int 972 0, Value.int 465 0, Value.str (Str.ofString "/claim/cut.py") 973] } : Obj) ::
Prod.mk (nat_lit 648) ({ cls := Value.type "function", data := Data.func { name := Str.ofString "write", qualname := Str.ofString "StringIO.write", params := (fParams (inCls 19 30)), body := (.stmts (fBody (inCls 19 30))), scope := (fScope (inCls 19 30)), globals := 3, closure := [], defaults := Value.none, kwdefaults := Value.none, pyModule := Value.str (Str.ofString "io") 340, code := Value.ref 647 } } : Obj) ::
Prod.mk (nat_lit 649) ({ cls := Value.type "tuple", data := Data.seq #[] } : Obj) ::
Prod.mk (nat_lit 651) ({ cls := Value.type "tuple", data := Data.seq #[Value.str (Str.ofString "self") 978, Value.str (Str.ofString "lines") 979] } : Obj) ::
Prod.mk (nat_lit 652) ({ cls := Value.type "tuple", data := Data.seq #[] } : Obj) ::
Prod.mk (nat_lit 654) ({ cls := Value.type "code", data := Data.fields #[Value.str (Str.ofString "writelines") 975, Value.str (Str.ofString "StringIO.writelines") 976, Value.str (Str.ofString "/claim/cut.py") 977, Value.int 484 0, Value.int 2 0, Value.int 2 0, Value.int 0 0, Value.int 3 0, Value.ref 649, Value.bool true, Value.int 181 0, Value.ref 650, Value.none, Value.ref 651, Value.ref 652, Value.ref 653, Value.int 980 0, Value.int 484 0, Value.str (Str.ofString "/claim/cut.py") 981] } : Obj) ::
Prod.mk (nat_lit 655) ({ cls := Value.type "function", data := Data.func { name := Str.ofString "writelines", qualname := Str.ofString "StringIO.writelines", params := (fParams (inCls 19 31)), body := (.stmts (fBody (inCls 19 31))), scope := (fScope (inCls 19 31)), globals := 3, closure := [], defaults := Value.none, kwdefaults := Value.none, pyModule := Value.str (Str.ofString "io") 340, code := Value.ref 654 } } : Obj) ::
Prod.mk (nat_lit 656) ({ cls := Value.type "tuple", data := Data.seq #[] } : Obj) ::
Prod.mk (nat_lit 658) ({ cls := Value.type "tuple", data := Data.seq #[Value.str (Str.ofString "self") 986] } : Obj) ::
Prod.mk (nat_lit 659) ({ cls := Value.type "tuple", data := Data.seq #[] } : Obj) ::
Prod.mk (nat_lit 661) ({ cls := Value.type "code", data := Data.fields #[Value.str (Str.ofString "__repr__") 983, Value.str (Str.ofString "StringIO.__repr__") 984, Value.str (Str.ofString "/claim/cut.py") 985, Value.int 487 0, Value.int 1 0, Value.int 0 0, Value.int 0 0, Value.int 3 0, Value.ref 656, Value.bool true, Value.int 181 0, Value.ref 657, Value.none, Value.ref 658, Value.ref 659, Value.ref 660, Value.int 987 0, Value.int 487 0, Value.str (Str.ofString "/claim/cut.py") 988] } : Obj) ::
Prod.mk (nat_lit 662) ({ cls := Value.type "function", data := Data.func { name := Str.ofString "__repr__", qualname := Str.ofString "StringIO.__repr__", params := (fParams (inCls 19 32)), body := (.stmts (fBody (inCls 19 32))), scope := (fScope (inCls 19 32)), globals := 3, closure := [], defaults := Value.none, kwdefaults := Value.none, pyModule := Value.str (Str.ofString "io") 340, code := Value.ref 661 } } : Obj) ::
Prod.mk (nat_lit 663) ({ cls := Value.type "tuple", data := Data.seq #[Value.str (Str.ofString "__buf") 990, Value.str (Str.ofString "__newline") 991, Value.str (Str.ofString "__pos") 992] } : Obj) ::
Prod.mk (nat_lit 664) ({ cls := Value.type "dict", data := Data.dict #[{ hash := PyData.keyHash P (Str.ofString "__module__"), key := Value.str (Str.ofString "__module__") 717, val := Value.str (Str.ofString "_io") 722 }, { hash := PyData.keyHash P (Str.ofString "__firstlineno__"), key := Value.str (Str.ofString "__firstlineno__") 721, val := Value.int 284 720 }, { hash := PyData.keyHash P (Str.ofString "__init__"), key := Value.str (Str.ofString "__init__") 734, val := Value.ref 435 }, { hash := PyData.keyHash P (Str.ofString "_StringIO__translated"), key := Value.str (Str.ofString "_StringIO__translated") 743, val := Value.ref 442 }, { hash := PyData.keyHash P (Str.ofString "_StringIO__check"), key := Value.str (Str.ofString "_StringIO__check") 750, val := Value.ref 449 }, { hash := PyData.keyHash P (Str.ofString "_StringIO__check_dot"), key := Value.str (Str.ofString "_StringIO__check_dot") 757, val := Value.ref 456 }, { hash := PyData.keyHash P (Str.ofString "_StringIO__line"), key := Value.str (Str.ofString "_StringIO__line") 772, val := Value.ref 463 }, { hash := PyData.keyHash P (Str.ofString "closed"), key := Value.str (Str.ofString "closed") 780, val := Value.ref 471 }, { hash := PyData.keyHash P (Str.ofString "line_buffering"), key := Value.str (Str.ofString "line_buffering") 788, val := Value.ref 479 }, { hash := PyData.keyHash P (Str.ofString "newlines"), key := Value.str (Str.ofString "newlines") 796, val := Value.ref 487 }, { hash := PyData.keyHash P (Str.ofString "encoding"), key := Value.str (Str.ofString "encoding") 804, val := Value.ref 495 }, { hash := PyData.keyHash P (Str.ofString "errors"), key := Value.str (Str.ofString "errors") 812, val := Value.ref 503 }, { hash := PyData.keyHash P (Str.ofString "close"), key := Value.str (Str.ofString "close") 819, val := Value.ref 510 }, { hash := PyData.keyHash P (Str.ofString "__enter__"), key := Value.str (Str.ofString "__enter__") 826, val := Value.ref 517 }, { hash := PyData.keyHash P (Str.ofString "__exit__"), key := Value.str (Str.ofString "__exit__") 834, val := Value.ref 524 }, { hash := PyData.keyHash P (Str.ofString "readable"), key := Value.str (Str.ofString "readable") 841, val := Value.ref 531 }, { hash := PyData.keyHash P (Str.ofString "writable"), key := Value.str (Str.ofString "writable") 848, val := Value.ref 538 }, { hash := PyData.keyHash P (Str.ofString "seekable"), key := Value.str (Str.ofString "seekable") 855, val := Value.ref 545 }, { hash := PyData.keyHash P (Str.ofString "isatty"), key := Value.str (Str.ofString "isatty") 862, val := Value.ref 552 }, { hash := PyData.keyHash P (Str.ofString "flush"), key := Value.str (Str.ofString "flush") 869, val := Value.ref 559 }, { hash := PyData.keyHash P (Str.ofString "fileno"), key := Value.str (Str.ofString "fileno") 876, val := Value.ref 566 }, { hash := PyData.keyHash P (Str.ofString "detach"), key := Value.str (Str.ofString "detach") 883, val := Value.ref 573 }, { hash := PyData.keyHash P (Str.ofString "getvalue"), key := Value.str (Str.ofString "getvalue") 890, val := Value.ref 580 }, { hash := PyData.keyHash P (Str.ofString "tell"), key := Value.str (Str.ofString "tell") 897, val := Value.ref 587 }, { hash := PyData.keyHash P (Str.ofString "seek"), key := Value.str (Str.ofString "seek") 907, val := Value.ref 595 }, { hash := PyData.keyHash P (Str.ofString "truncate"), key := Value.str (Str.ofString "truncate") 915, val := Value.ref 603 }, { hash := PyData.keyHash P (Str.ofString "read"), key := Value.str (Str.ofString "read") 927, val := Value.ref 611 }, { hash := PyData.keyHash P (Str.ofString "readline"), key := Value.str (Str.ofString "readline") 937, val := Value.ref 619 }, { hash := PyData.keyHash P (Str.ofString "readlines"), key := Value.str (Str.ofString "readlines") 947, val := Value.ref 627 }, { hash := PyData.keyHash P (Str.ofString "__iter__"), key := Value.str (Str.ofString "__iter__") 954, val := Value.ref 634 }, { hash := PyData.keyHash P (Str.ofString "__next__"), key := Value.str (Str.ofString "__next__") 962, val := Value.ref 641 }, { hash := PyData.keyHash P (Str.ofString "write"), key := Value.str (Str.ofString "write") 974, val := Value.ref 648 }, { hash := PyData.keyHash P (Str.ofString "writelines"), key := Value.str (Str.ofString "writelines") 982, val := Value.ref 655 }, { hash := PyData.keyHash P (Str.ofString "__repr__"), key := Value.str (Str.ofString "__repr__") 989, val := Value.ref 662 }, { hash := PyData.keyHash P (Str.ofString "__static_attributes__"), key := Value.str (Str.ofString "__static_attributes__") 993, val := Value.ref 663 }, { hash := PyData.keyHash P (Str.ofString "__doc__"), key := Value.str (Str.ofString "__doc__") 994, val := Value.none }] 2 } : Obj) ::
Prod.mk (nat_lit 665) ({ cls := Value.type "type", data := Data.cls { name := Str.ofString "StringIO", bases := [Value.ref 188], mro := [Value.ref 665, Value.ref 188, Value.ref 161, Value.type "object"], ns := 664, qualname := Str.ofString "StringIO" }, slots := #[some (Value.ref 421), none, some (Value.str (Str.ofString "StringIO") 710), some (Value.str (Str.ofString "StringIO") 718), some Value.none, some (Value.bool true)] } : Obj) ::
Prod.mk (nat_lit 668) ({ cls := Value.type "tuple", data := Data.seq #[] } : Obj) ::
Prod.mk (nat_lit 670) ({ cls := Value.type "tuple", data := Data.seq #[Value.str (Str.ofString "data") 1002, Value.str (Str.ofString "fp") 1003, Value.str (Str.ofString "s") 1004] } : Obj) ::
Prod.mk (nat_lit 671) ({ cls := Value.type "tuple", data := Data.seq #[] } : Obj) ::
Prod.mk (nat_lit 673) ({ cls := Value.type "code", data := Data.fields #[Value.str (Str.ofString "lzwdecode") 999, Value.str (Str.ofString "lzwdecode") 1000, Value.str (Str.ofString "/claim/cut.py") 1001, Value.int 490 0, Value.int 1 0, Value.int 0 0, Value.int 0 0, Value.int 3 0, Value.ref 668, Value.bool true, Value.int 181 0, Value.ref 669, Value.none, Value.ref 670, Value.ref 671, Value.ref 672, Value.int 1005 0, Value.int 490 0, Value.str (Str.ofString "/claim/cut.py") 1006] } : Obj) ::
Prod.mk (nat_lit 674) ({ cls := Value.type "function", data := Data.func { name := Str.ofString "lzwdecode", qualname := Str.ofString "lzwdecode", params := (fParams (topSt 21)), body := (.stmts (fBody (topSt 21))), scope := (fScope (topSt 21)), globals := 3, closure := [], defaults := Value.none, kwdefaults := Value.none, pyModule := Value.str (Str.ofString "pdfminer.lzw") 997, code := Value.ref 673 } } : Obj) ::
Prod.mk (nat_lit 675) ({ cls := Value.type "tuple", data := Data.seq #[] } : Obj) ::
Prod.mk (nat_lit 677) ({ cls := Value.type "tuple", data := Data.seq #[Value.str (Str.ofString "script") 1013, Value.str (Str.ofString "wishes") 1014, Value.str (Str.ofString "number") 1015, Value.str (Str.ofString "kind") 1016, Value.str (Str.ofString "rest") 1017, Value.str (Str.ofString "k") 1018] } : Obj) ::
Prod.mk (nat_lit 678) ({ cls := Value.type "tuple", data := Data.seq #[] } : Obj) ::
Prod.mk (nat_lit 680) ({ cls := Value.type "code", data := Data.fields #[Value.str (Str.ofString "_law_wishes") 1010, Value.str (Str.ofString "_law_wishes") 1011, Value.str (Str.ofString "/claim/cut.py") 1012, Value.int 495 0, Value.int 1 0, Value.int 0 0, Value.int 0 0, Value.int 3 0, Value.ref 675, Value.bool true, Value.int 181 0, Value.ref 676, Value.none, Value.ref 677, Value.ref 678, Value.ref 679, Value.int 1019 0, Value.int 495 0, Value.str (Str.ofString "/claim/cut.py") 1020] } : Obj) ::
Prod.mk (nat_lit 681) ({ cls := Value.type "function", data := Data.func { name := Str.ofString "_law_wishes", qualname := Str.ofString "_law_wishes", params := (fParams (topSt 23)), body := (.stmts (fBody (topSt 23))), scope := (fScope (topSt 23)), globals := 3, closure := [], defaults := Value.none, kwdefaults := Value.none, pyModule := Value.str (Str.ofString "law_lc0007_01") 1008, code := Value.ref 680 } } : Obj) ::
Prod.mk (nat_lit 682) ({ cls := Value.type "tuple", data := Data.seq #[] } : Obj) ::
Prod.mk (nat_lit 684) ({ cls := Value.type "tuple", data := Data.seq #[Value.str (Str.ofString "script") 1025, Value.str (Str.ofString "way") 1026, Value.str (Str.ofString "data") 1027, Value.str (Str.ofString "pieces") 1028, Value.str (Str.ofString "bits") 1029, Value.str (Str.ofString "size") 1030, Value.str (Str.ofString "ends") 1031, Value.str (Str.ofString "wish") 1032, Value.str (Str.ofString "width") 1033, Value.str (Str.ofString "code") 1034, Value.str (Str.ofString "j") 1035, Value.str (Str.ofString "start") 1036, Value.str (Str.ofString "length") 1037, Value.str (Str.ofString "k") 1038, Value.str (Str.ofString "beyond") 1039, Value.str (Str.ofString "bad") 1040, Value.str (Str.ofString "octets") 1041, Value.str (Str.ofString "due") 1042, Value.str (Str.ofString "keep") 1043, Value.str (Str.ofString "end") 1044, Value.str (Str.ofString "told") 1045, Value.str (Str.ofString "got") 1046] } : Obj) ::
Prod.mk (nat_lit 685) ({ cls := Value.type "tuple", data := Data.seq #[] } : Obj) ::
Prod.mk (nat_lit 687) ({ cls := Value.type "code", data := Data.fields #[Value.str (Str.ofString "law") 1022, Value.str (Str.ofString "law") 1023, Value.str (Str.ofString "/claim/cut.py") 1024, Value.int 512 0, Value.int 1 0, Value.int 0 0, Value.int 0 0, Value.int 3 0, Value.ref 682, Value.bool true, Value.int 181 0, Value.ref 683, Value.none, Value.ref 684, Value.ref 685, Value.ref 686, Value.int 1047 0, Value.int 512 0, Value.str (Str.ofString "/claim/cut.py") 1048] } : Obj) ::
Prod.mk (nat_lit 688) ({ cls := Value.type "function", data := Data.func { name := Str.ofString "law", qualname := Str.ofString "law", params := (fParams (topSt 24)), body := (.stmts (fBody (topSt 24))), scope := (fScope (topSt 24)), globals := 3, closure := [], defaults := Value.none, kwdefaults := Value.none, pyModule := Value.str (Str.ofString "law_lc0007_01") 1008, code := Value.ref 687 } } : Obj) :: []
noncomputable def view : Program := { PySem.Challenge.pw_lc0007_01 with main := { PySem.Challenge.pw_lc0007_01.main with body := [topSt 0, topSt 2, topSt 4, topSt 5, topSt 7, topSt 9, topSt 10, topSt 12, topSt 13, topSt 14, topSt 15, topSt 16, topSt 17, topSt 18, topSt 19, topSt 21, topSt 23, topSt 24] } }
end Mine
end
section
open PySem PySem.W PyProof.Rows PySem.Calls
open Sem (wp)
set_option maxRecDepth 100000
set_option maxHeartbeats 8000000
namespace Mine
/-! bytearray(bytes) -/
namespace BA
theorem mro : mroOf (.type "bytearray") = pure [.type "bytearray", .type "object"] := by rw [mroOf_type]; kernel_rfl
theorem lookup_new : typeLookup (.type "bytearray") "__new__" = pure (some (.builtin "bytearray.__new__")) := by rw [typeLookup_type, builtinLookup_eq_fast]; kernel_rfl
theorem made : Bind.madeBy (.type "bytearray") = pure (some "bytearray.__new__") := madeBy_type mro lookup_new (by decide +kernel)
theorem sub : isSubtype (.type "bytearray") (.type "bytearray") = pure true := by rw [isSubtype_type]; kernel_rfl
theorem slot_init : Slot "bytearray" "__init__" "bytearray.__init__" :=
  .of (owner := "bytearray") (n := "__init__") (by rw [typeLookup_type, builtinLookup_eq_fast]; kernel_rfl) (by decide +kernel) (by decide +kernel) (by decide +kernel)
    (by first | exact .inl (by decide +kernel) | exact .inr (by decide +kernel)) (by rw [isSubtype_type]; kernel_rfl)
theorem typeCall (a : Value) : checkTypeCall "bytearray" ⟨[a], []⟩ = pure () := by kernel_rfl
theorem newCall (a : Value) : checkBuiltinCall "bytearray.__new__" ⟨[.type "bytearray", a], []⟩ = pure () := by kernel_rfl
theorem entry_new : entryFor table "bytearray.__new__" = some Builtin.«list.__new__» := entryFor_alias (id' := "list.__new__") (by rw [fastTable_eq_tree]; kernel_rfl) (by kernel_rfl) (by kernel_rfl) (by rw [fastTable_eq_tree]; kernel_rfl)
theorem entry_init : entryFor table "bytearray.__init__" = some Builtin.«bytearray.__init__» := by first | exact entryFor_of_tree (by kernel_rfl) | exact entryFor_of_fast (by kernel_rfl)
theorem plain_new : plainId "bytearray.__new__" = true := by decide +kernel
theorem args_init (a b : Value) : argsOk "bytearray.__init__" ⟨[a, b], []⟩ := by unfold argsOk; kernel_rfl
theorem bind_init (v : Value) : Builtin.Bytes.bindOptional "bytearray.__init__" "bytearray" ["source", "encoding", "errors"] [v] [] = pure [some v, none, none] := by kernel_rfl
theorem lookup_rel : typeLookup (.type "bytearray") "__release_buffer__" = pure (some (.builtin "bytearray.__release_buffer__")) := by rw [typeLookup_type, builtinLookup_eq_fast]; kernel_rfl
theorem noIndex : typeLookup (.type "bytes") "__index__" = pure none := by rw [typeLookup_type, builtinLookup_eq_fast]; kernel_rfl
theorem ends_rel : ("bytearray.__release_buffer__".endsWith ("." ++ "__release_buffer__")) = true := by decide +kernel
theorem drop_rel : ("bytearray.__release_buffer__".dropRight ("__release_buffer__".length + 1)) = "bytearray" := by decide +kernel
theorem buf_bytes (b : Array UInt8) (t : Tok) : Builtin.Bytes.buffer? "bytearray.__init__" (.bytes b t) true = pure (some b) := by kernel_rfl
theorem canCreate : ((Manifest.find? "bytearray").bind (·.mro.findSome? fun t => (Manifest.find? t).bind fun b => if b.noNew then some true else if b.attrs.any (·.1 == "__new__") then some false else none)).getD false = false := by decide +kernel
theorem held_init : Builtin.Bytes.decodersThatHold.contains "bytearray.__init__" = false := by decide +kernel
end BA
set_option maxRecDepth 1000000 in
set_option maxHeartbeats 4000000 in
theorem BA.owner_new : ("bytearray.__new__".splitOn ".__new__").headD "" = "bytearray" := by simp +decide [String.splitOn, String.splitOnAux]
noncomputable abbrev baObj (b : Array UInt8) : Obj := { cls := .type "bytearray", data := .bytearray b }
section
variable {prog : Program} {w : World} {A : Around} {E : Value → Shared → Prop} {s : Shared} {R : Result → Shared → Prop}
theorem wpC_ite_false {α : Type} {M : Model} {c : Bool} {a b : Sem α} {Q : α → Shared → Prop} (hc : c = false) (h : wpC M A b Q E s) : wpC M A (if c = true then a else b) Q E s := by subst hc; exact h
theorem codeC_builtin {id : String} {args : Args} {b : Builtin} (hn : Builtin.Bytes.decodersThatHold.contains id = false) (hb : entryFor table id = some b)
    (h : wpC (model prog w) (A.under (.builtin id args)) (b args)
      (fun fin s' => match fin with | .done f => R (.ok f) s' | .again c' => c'.quiet = true ∧ codeC (model prog w) A c' R s') (fun e s' => R (.error e) s') s) :
    codeC (model prog w) A (.builtin id args) R s := by
  refine codeC_of_tree hn ?_
  show wpC _ _ (match entryFor table id with | some b => b args | none => unsupported ((withoutEnding? id "#data").getD id)) _ _ s
  rw [hb]; exact h
theorem sameBut_news {h₀ h h' : Heap} {L d : Addr} {m : Str → Option Value} {news : List (Addr × Obj)} {o o' : Obj} (F : Fr h₀ L h m) (N : News h₀ L h ((d, o) :: news)) (hne : ∀ p ∈ news, p.1 ≠ d)
    (hs : Heap.SameBut d h h') (e : h'.get? d = some o') : Fr h₀ L h' m ∧ News h₀ L h' ((d, o') :: news) := by
  have D := N _ (List.Mem.head _)
  have up : ∀ b x, b ≠ d → h.get? b = some x → h'.get? b = some x := fun b x hb q => (hs.2 b hb).trans q
  have hd : ∀ b x, h₀.get? b = some x → b ≠ d := fun b x q z => by subst z; rw [D.2.2] at q; cases q
  obtain ⟨oL, es, ep, hL, r⟩ := F.ns
  refine ⟨⟨⟨oL, es, ep, up _ _ (Ne.symm D.2.1) hL, r⟩, fun b x q => up b x (hd b x q) (F.keep b x q), F.above⟩, fun p hp => ?_⟩
  rcases List.mem_cons.mp hp with rfl | hp
  · exact ⟨e, D.2⟩
  · have P := N p (.tail _ hp)
    exact ⟨up _ _ (hne p hp) P.1, P.2⟩
theorem code_ba_new (a : Value) {Q₁ : Value → Shared → Prop}
    (h : Q₁ (.ref s.heap.objs.size) { s with heap := s.heap.push (baObj #[]) }) :
    codeAny (model prog w) A (.call (.builtin "bytearray.__new__") ⟨[.type "bytearray", a], []⟩) (wants Q₁ E) s := by
  refine codeAny_of_tree ?_
  show wpAny _ A.in1 (do checkBuiltinCall "bytearray.__new__" ⟨[.type "bytearray", a], []⟩; again (.builtin "bytearray.__new__" ⟨[.type "bytearray", a], []⟩)) _ _ s
  refine wpAny_bind (wpAny_of_eq (BA.newCall a) (wpAny_pure ⟨plainId_quiet BA.plain_new _, codeAny_builtin_stack BA.entry_new rfl fun p st => ?_⟩))
  rw [Around.under_plainId BA.plain_new _]
  have hsub := BA.sub
  have hown := BA.owner_new
  obtain ⟨hp, g, d, tk, os⟩ := s
  simp only [hown]
  wp_walk
  exact h

theorem ownRelease_ba {M : Model} {ba : Addr} {Q : Bool → Shared → Prop} (hT : s.TypeIs (.ref ba) "bytearray") (h : Q false s) : wpAny M A (Builtin.Bytes.ownRelease (.ref ba)) Q E s := by
  unfold Builtin.Bytes.ownRelease Builtin.Bytes.slotIsOwn
  refine wpAny_bind (wpAny_bind (wpAny_specialOf hT BA.lookup_rel ?_))
  dsimp only
  rw [BA.ends_rel, BA.drop_rel]
  refine wpAny_isInstance hT BA.sub ?_
  exact wpAny_pure h
theorem write_ba {M : Model} {ba : Addr} {c b : Array UInt8} {f : Array UInt8 → Array UInt8} {Q : Unit → Shared → Prop} (hb : s.heap.get? ba = some (baObj c)) (e : f c = b) (hz : b.size ≤ sizeLine)
    (h : (s.heap.update ba (Obj.mapBytearray f)).get? ba = some (baObj b) → Q () { s with heap := s.heap.update ba (Obj.mapBytearray f) }) : wpAny M A (Builtin.Bytes.write (.ref ba) f) Q E s := by
  show wpAny _ _ (updateBytearray ba f) _ _ _
  unfold updateBytearray
  refine wpAny_bind (wpAny_load hb ?_)
  show wpAny _ _ (update ba (Obj.mapBytearray f) >>= fun _ => lookBehind ba) _ _ _
  refine wpAny_bind (wpAny_update hb ?_)
  have hS : (s.heap.update ba (Obj.mapBytearray f)).get? ba = some (baObj b) := by
    subst e
    exact Heap.get?_update_self (Obj.mapBytearray f) hb rfl
  refine wpAny_lookBehind hS ?_ (h hS)
  show (if b.size > sizeLine then some "bytearray:memory" else none) = none
  rw [if_neg (Nat.not_lt.mpr hz)]

theorem code_ba_init {ba : Addr} {b : Array UInt8} {t : Tok} (hg : A.guards = some []) (hb : s.heap.get? ba = some (baObj #[])) (hz : b.size ≤ sizeLine)
    (h : ∀ h', h'.get? ba = some (baObj b) → Heap.SameBut ba s.heap h' → R (.ok (.ret .none)) { s with heap := h' }) :
    codeC (model prog w) A (.call (.builtin "bytearray.__init__") ⟨[.ref ba, .bytes b t], []⟩) R s := by
  have hT : s.TypeIs (.ref ba) "bytearray" := ⟨_, hb, rfl⟩
  refine codeC_of_tree rfl ?_
  show wpC _ A.in1 (do checkBuiltinCall "bytearray.__init__" ⟨[.ref ba, .bytes b t], []⟩; again (.builtin "bytearray.__init__" ⟨[.ref ba, .bytes b t], []⟩)) _ _ s
  refine wpC_bindA (BA.slot_init.check _ _ _ _ _ _ _ _ hT (BA.args_init _ _) (wpC_pure ⟨plainId_quiet BA.slot_init.plain _, codeC_builtin BA.held_init BA.entry_init ?_⟩))
  rw [Around.under_plainId BA.slot_init.plain _]
  unfold Builtin.«bytearray.__init__»
  refine wpC_bindA (ownRelease_ba hT ?_)
  refine wpC_bindA (wpAny_of_eq (BA.bind_init _) ?_)
  refine wpC_bindA (wpAny_of_eq (a := ()) rfl ?_)
  refine wpC_bindA (wpAny_of_eq (a := ()) rfl ?_)
  refine wpC_bind (wpC_bind (wpC_exported hg ?_))
  refine wpC_of (wpAny_bind ?_)
  unfold Builtin.Bytes.exportsOf
  refine wpAny_bind (wpAny_load hb (wpAny_pure (wpAny_pure ?_)))
  refine wpC_of ?_
  refine wpAny_bind (write_ba hb rfl (by decide) fun hb1 => ?_)
  refine wpAny_bind (wpAny_of_eq (a := none) rfl ?_)
  refine wpAny_bind (wpAny_of_eq (a := ()) rfl ?_)
  refine wpAny_bind (wpAny_specialOf (T := "bytes") (typeIs_bytes _ _ _) BA.noIndex ?_)
  refine wpAny_bind (wpAny_of_eq (BA.buf_bytes _ _) ?_)
  refine wpAny_bind (wpAny_rule ?_)
  refine wpAny_bind (write_ba hb1 rfl hz fun hb2 => ?_)
  have s1 : Heap.SameBut ba s.heap (s.heap.update ba (Obj.mapBytearray fun _ => #[])) := Heap.SameBut.update ..
  have s2 : Heap.SameBut ba (s.heap.update ba (Obj.mapBytearray fun _ => #[])) ((s.heap.update ba (Obj.mapBytearray fun _ => #[])).update ba (Obj.mapBytearray fun _ => b)) := Heap.SameBut.update ..
  exact wpAny_pure (h _ hb2 ⟨s2.1.trans s1.1, fun c hc => (s2.2 c hc).trans (s1.2 c hc)⟩)

theorem call_bytearray {b : Array UInt8} {t : Tok} {h₀ : Heap} {L : Addr} {m : Str → Option Value} {news : List (Addr × Obj)} {Q : Value → Shared → Prop} (F : Fr h₀ L s.heap m) (N : News h₀ L s.heap news) (hg : A.guards = some []) (hz : b.size ≤ sizeLine)
    (h : ∀ ba h', Fr h₀ L h' m → News h₀ L h' ((ba, baObj b) :: news) → (∀ p ∈ news, p.1 < ba) → Q (.ref ba) { s with heap := h' }) :
    wpC (model prog w) A (call (.type "bytearray") [.bytes b t]) Q E s := by
  refine wpC_call (codeC_of_tree rfl ?_)
  show wpC _ _ (callAny (.type "bytearray") _) _ _ _
  refine wpC_pure ⟨Code.quiet_builtin _ (by decide +kernel), codeC_builtin (by decide +kernel) PySem.F.entry_type_call ?_⟩
  rw [Around.under_plain (weight_type_call_type "bytearray" [.bytes b t] []) rfl]
  unfold Builtin.«type.__call__»
  refine wpC_ite_false (by decide) ?_
  refine wpC_ite_false BA.canCreate ?_
  refine wpC_bindA (wpAny_of_eq (BA.typeCall _) ?_)
  refine wpC_bindA (wpAny_of_eq BA.mro ?_)
  refine wpC_ite_false rfl ?_
  refine wpC_bindA (wpAny_of_eq BA.made ?_)
  refine wpC_bindA (wpAny_pure ?_)
  refine wpC_bind (wpC_holding (wpC_of (wpAny_call (codeAny_mono (code_ba_new (E := E) (Q₁ := fun v s' => v = .ref s.heap.objs.size ∧ s' = { s with heap := s.heap.push (baObj #[]) }) _ ⟨rfl, rfl⟩) fun r s' z => ?_))))
  rcases r with e | (v | _ | _ | v) <;> first | exact z | exact z.elim | skip
  obtain ⟨rfl, rfl⟩ := z
  dsimp only
  have N1 := N.push F (baObj #[])
  have F1 := F.push (baObj #[])
  have hb := (N1 _ (List.Mem.head _)).1
  have hT : (⟨s.heap.push (baObj #[]), s.gens, s.drawn, s.toks, s.os⟩ : Shared).TypeIs (.ref s.heap.objs.size) "bytearray" := ⟨_, hb, rfl⟩
  refine wpC_bindA (wpAny_isInstance hT BA.sub ?_)
  refine wpC_ite_false rfl ?_
  refine wpC_bind (wpC_holding ?_)
  unfold callSpecial?
  refine wpC_bindA (wpAny_specialOf hT BA.slot_init.lookup ?_)
  dsimp only
  rw [BA.slot_init.bind]
  refine wpC_holding (wpC_bindA (wpAny_pure (wpC_bind (wpC_call (code_ba_init hg hb hz fun h' e1 e2 => wpC_pure ?_)))))
  have hne : ∀ p ∈ news, p.1 ≠ s.heap.objs.size := fun p hp => Nat.ne_of_lt (Heap.lt_size (N p hp).1)
  obtain ⟨F2, N2⟩ := sameBut_news F1 N1 hne e2 e1
  exact wpC_pure (h _ h' F2 N2 fun p hp => Heap.lt_size (N p hp).1)
end
end Mine
end
section
open PySem PySem.W PyProof.Rows PySem.Calls
set_option maxRecDepth 100000
set_option maxHeartbeats 8000000
namespace Mine

section
variable {prog : Program} {w : World} {A : Around} {K : Frag} {C : Addr} {R : Result → Shared → Prop} {s : Shared} {h₀ : Heap} {L : Addr} {m : Str → Option Value} {news : List (Addr × Obj)}

noncomputable def bornIn (K : Frag) (C : Addr) : Bool := match K.lookup C with
  | some ⟨_, _, .cls cd, sl⟩ => (sl.toList[4]?).join == some .none && !cd.mro.isEmpty &&
      specialIn K (.ref C) "__call__" == some (some (.builtin "type.__call__")) && instIn K (.ref C) (.type "type") == some true && cd.mro.contains (.ref C)
  | _ => false


end
end Mine
end
section
open PySem PySem.W PyProof.Rows PySem.Calls
open Sem (wp)
set_option maxRecDepth 100000
set_option maxHeartbeats 8000000
namespace Mine
/-! Statements and calls over clean stacks. -/
section
variable {M : Model} {A : Around} {E : Value → Shared → Prop} {s : Shared} {env : Env}
theorem c_execs_cons {st : Stmt} {rest : List Stmt} {Q : Flow → Shared → Prop}
    (h : wpC M A (exec st env) (fun f s' => match f with | .next => wpC M A (execs rest env) Q E s' | f => Q f s') E s) :
    wpC M A (execs (st :: rest) env) Q E s := fun Γ p hΓ h1 h2 => by
  rw [execs_cons, Sem.wp_bind']
  refine Sem.wp_mono M Γ _ (fun f p' s' h' => ?_) (fun _ _ _ h' => h') _ _ (h Γ p hΓ h1 h2)
  cases f <;> first | exact h' Γ p' hΓ h1 h2 | exact h'
theorem c_Assign_Name {x pos' value pos} {Q : Flow → Shared → Prop}
    (h : wpC M A (eval value env) (fun v s₁ => wpC M A (storeName env x v) (fun _ => Q .next) E s₁) E s)
    (hs : swapsWith value (some (.Name x pos')) pos.line env = pure false) :
    wpC M A (exec (.Assign [.Name x pos'] value pos) env) Q E s := fun Γ p hΓ h1 h2 => by
  simp only [exec_Assign_Name env x pos' value pos hs, Sem.wp_bind', Sem.wp_cmd_standAt, Sem.wp_bindName, Sem.wp_pure']
  exact Sem.wp_mono M Γ _ (fun v _ s₁ h' => h' Γ _ hΓ h1 h2) (fun _ _ _ h' => h') _ _ (h Γ _ hΓ h1 h2)
theorem c_Assign_Attribute {o attr pos' value pos} {Q : Flow → Shared → Prop}
    (h : wpC M A (eval value env) (fun v s₁ => wpC M A (eval o env) (fun ov s₂ => wpC M A (setAttr ov attr v) (fun _ => Q .next) E s₂) E s₁) E s)
    (hs : swapsWith value (some (.Attribute o attr pos')) pos.line env = pure false) :
    wpC M A (exec (.Assign [.Attribute o attr pos'] value pos) env) Q E s := fun Γ p hΓ h1 h2 => by
  simp only [plainObj_exec_Assign_Attribute o attr pos' value pos hs, assign_Attribute, Sem.wp_bind', Sem.wp_holding, Sem.wp_cmd_standAt, Sem.wp_release, Sem.wp_pure']
  exact Sem.wp_mono M Γ _ (fun v p₁ s₁ h' => Sem.wp_mono M Γ _ (fun ov _ s₂ h'' => h'' Γ _ hΓ h1 h2) (fun _ _ _ h' => h') _ _ (h' Γ p₁ hΓ h1 h2)) (fun _ _ _ h' => h') _ _ (h Γ _ hΓ h1 h2)
theorem c_If {test body orelse pos} {Q : Flow → Shared → Prop}
    (h : wpC M A (isTrue test env (eval test env))
      (fun b s₂ => if b then wpC M A (execs body env) Q E s₂ else wpC M A (execs orelse env) Q E s₂) E s) :
    wpC M A (exec (.If test body orelse pos) env) Q E s := fun Γ p hΓ h1 h2 => by
  simp only [exec_If, Sem.wp_bind', Sem.wp_cmd_standAt]
  refine Sem.wp_mono M Γ _ (fun b p₂ s₂ h' => ?_) (fun _ _ _ h' => h') _ _ (h Γ _ hΓ h1 h2)
  cases b <;> exact h' Γ p₂ hΓ h1 h2
theorem c_Compare1 {l op r pos whole} {Q : Bool → Shared → Prop}
    (h : wpC M A (eval l env) (fun a s₁ => wpC M A (eval r env) (fun b s₂ => wpC M A (compareOp op a b)
      (fun c s₃ => wpC M A (truthy c) Q E s₃) E s₂) E s₁) E s)
    (hm : behindInMarks op r = false) : wpC M A (isTrue (.Compare l [op] [r] pos) env whole) Q E s := fun Γ p hΓ h1 h2 => by
  simp only [isTrue_Compare1, markedBehindIn_of_false hm, Sem.wp_bind', Sem.wp_holding, Sem.wp_cmd_standAt, Sem.wp_operate]
  exact Sem.wp_mono M Γ _ (fun a p₁ s₁ h' => Sem.wp_mono M Γ _ (fun b _ s₂ h'' => Sem.wp_mono M Γ _ (fun c p₃ s₃ h₃ => h₃ Γ p₃ hΓ h1 h2)
    (fun _ _ _ h' => h') _ _ (h'' Γ _ hΓ h1 h2)) (fun _ _ _ h' => h') _ _ (h' Γ p₁ hΓ h1 h2)) (fun _ _ _ h' => h') _ _ (h Γ p hΓ h1 h2)
theorem c_IfExp {test body orelse : Expr} {pos : Pos} {Q : Value → Shared → Prop}
    (h : wpC M A (isTrue test env (eval test env)) (fun b s₁ => if b then wpC M A (eval body env) Q E s₁ else wpC M A (eval orelse env) Q E s₁) E s) :
    wpC M A (eval (.IfExp test body orelse pos) env) Q E s := by
  rw [arm_eval_IfExp]
  refine wpC_bind (wpC_mono h (fun b s₁ h' => ?_) fun _ _ x => x)
  cases b <;> exact h'
theorem c_callWith {f : Value} {first : List Value} {pos : Pos} {P : Heap → Prop} {args : List (Bool × Sem Value)} {keywords : List (Option Str × Sem Value)} {Q : Value → Shared → Prop} (hplain : (args.any (·.1) || keywords.any (·.1.isNone)) = false)
    (hk : ∀ h, P h → ∃ k, (k = Keeper.frame ∨ k = Keeper.machine ∨ k = Keeper.boundFrame) ∧ Looks M h (keeperOf f) k)
    (h : wpAny M A (evalArgs f true args keywords) (fun a s₁ => P s₁.heap ∧ wpC M A (call f (first ++ a.pos) a.kw) Q E s₁) E s) : wpC M A (callWith pos f first args keywords) Q E s := by
  unfold callWith
  refine wpC_bindA (wpAny_holding (wpAny_mono h (fun a s₁ hs => wpC_bindA (wpAny_standAt ?_)) fun _ _ x => x))
  obtain ⟨k, hk', L⟩ := hk _ hs.1
  simp only [hplain]
  refine wpC_bindA (L.here ?_)
  have tail : ∀ {t : Sem Value}, wpC M A t Q E s₁ → wpC M A (t >>= fun r => holding [r] point >>= fun _ => pure r) Q E s₁ :=
    fun ht => wpC_bind (wpC_mono ht (fun r s₂ hr => wpC_bindA (wpAny_holding (wpAny_point (wpC_pure hr)))) fun _ _ x => x)
  have marked (mk : Value) : wpC M A (callMarked mk f (first ++ a.pos) a.kw) Q E s₁ := by unfold callMarked; exact wpC_keep hs.2
  rcases hk' with rfl | rfl | rfl <;> dsimp only <;> first | exact tail hs.2 | (split <;> first | exact tail hs.2 | exact tail (marked _))
noncomputable def keepC (K : Frag) (f : Value) : Bool := match f with
  | .ref a => keepIn K (.ref a)
  | _ => true
theorem keeps_C {K : Frag} {f : Value} (hk : keepC K f = true) (h : Heap) (X : K.In h) : ∃ k, (k = Keeper.frame ∨ k = Keeper.machine ∨ k = Keeper.boundFrame) ∧ Looks M h (keeperOf f) k := by
  cases f with
  | ref a => exact keeps_K (K := K) (f := .ref a) (show keepIn K (.ref a) = true from hk) h X
  | _ => exact ⟨.machine, .inr (.inl rfl), .now⟩
theorem c_Call_Name1 {K : Frag} {h₀ : Heap} {x : Str} {p pos : Pos} {e : Expr} {Q : Value → Shared → Prop} (_X : K.In h₀)
    (h : wpAny M A (eval (.Name x p) env) (fun f s₁ => keepC K f = true ∧ wpAny M A (spliced (backTo pos (starEach [e] env))) (fun vs s₁ => K.In s₁.heap ∧ wpC M A (call f vs) Q E s₁) E s₁) E s)
    (hs : starEach [e] env = [(false, eval e env)]) : wpC M A (eval (.Call (.Name x p) [e] [] pos) env) Q E s := by
  have key : wpC M A (eval (.Name x p) env >>= fun f => callWith pos f [] (backTo pos (starEach [e] env)) []) Q E s := by
    refine wpC_bindA (wpAny_mono h (fun f s₁ h1 => ?_) fun _ _ x => x)
    obtain ⟨hk, h1⟩ := h1
    rw [hs] at h1 ⊢
    exact c_callWith rfl (keeps_C hk) (evalArgs_plain h1)
  exact key
/-- a call whose name and argument are read already -/
theorem c_func {prog : Program} {w : World} {R : Result → Shared → Prop} {body : List Stmt}
    (h : wpC (model prog w) (A.deeper env) (execs body env) (fun f s' => R (.ok (.ret (match f with | .ret v => v | _ => .none))) s')
      (fun e s' => wpAny (model prog w) (A.deeper env) (leaving env e) (fun _ s'' => R (.error e) s'') (fun e' s'' => R (.error e') s'') s') s) :
    codeC (model prog w) A (.func body env) R s := by
  refine codeC_of_tree rfl ?_
  show wpC _ (A.deeper env) (do point; match ← (execs body env).onRaise (leaving env) with | .ret v => ret v | _ => ret .none) _ _ s
  refine wpC_bindA (wpAny_point (wpC_bind ?_))
  intro Γ p hΓ h1 h2
  rw [Sem.wp_onRaise]
  refine Sem.wp_mono _ Γ _ (fun f p' s' h' => ?_) (fun e p' s' h' => ?_) p s (h Γ p hΓ h1 h2)
  · cases f <;> exact wpC_pure h'
  · exact h' Γ p' hΓ
end
section
variable {prog : Program} {w : World} {A A₀ : Around} {s : Shared} {base h₀ : Heap} {outer : List Env} {L : Addr} {m : Str → Option Value} {env : Env} {news : List (Addr × Obj)} {K : Frag} {p : Program} {loose : List Str} {mean : ExcName → Option Value} {mg mb : Str → Option Value}
  {R : Result → Shared → Prop} {name qual : Str} {params : Arguments} {body : List Stmt} {scope : Scope} {dV kV doc pm cdv ct oc : Value} {an od : Option Addr} {osl : Array (Option Value)} {f : Addr} {args : Args} {binds : List (Str × Value)}

theorem code_defClean
    (B : Below A₀ base outer h₀) (F : Fr h₀ L s.heap m) (X₀ : K.In h₀) (N : News h₀ L s.heap news) (T : Top p loose mean mg mb h₀) (hA : A.frames = some (env :: outer)) (hf : env.frame = some L) (hke : env.scope.kind = .function)
    (ho : K.lookup f = some ⟨oc, od, .func (fnOf name qual params body scope dV kV doc pm an cdv ct), osl⟩) (hcd : codeIn K cdv qual = true) (hroom : A.depth < recursionLimit)
    (hbind : BindsTo s (fnOf name qual params body scope dV kV doc pm an cdv ct) args binds) (hloc : ∀ y ∈ binds, scope.names.lookup y.1 = some .local)
    (h : ∀ g L' h₁, Fr h₀ L g m → Fr g L' h₁ (fun y => binds.reverse.lookup y) → News g L' h₁ news → Below A base (env :: outer) g → K.In g → Top p loose mean mg mb g → h₀.StaysIn g → (∀ p ∈ news, p.1 < L') →
      wpC (model prog w) (A.deeper (envOf qual scope L' f cdv)) (execs body (envOf qual scope L' f cdv))
        (fun fl s' => LeaveK h₀ L m g R (match fl with | .ret v => v | _ => .none) s')
        (fun e s' => wpAny (model prog w) (A.deeper (envOf qual scope L' f cdv)) (leaving (envOf qual scope L' f cdv) e) (fun _ s'' => R (.error e) s'') (fun e' s'' => R (.error e') s'') s')
        { s with heap := h₁, toks := s.toks + binds.length })
    (hco : scope.isCoroutine = false) (hgen : scope.isGenerator = false) (hk : scope.kind = .function)
    (hcell : ∀ x ∈ scope.names, x.2 ≠ .cell) : codeC (model prog w) A (.call (.ref f) args) R s := by
  obtain ⟨FG, BG, st, lv⟩ := groundX (R := R) B F N hA hf hke
  have hcr := codeRec_of (X₀.keeps F.keep) hcd
  refine codeC_of_tree rfl (wpC_of ?_)
  show wpAny _ A.in1 (callAny (.ref f) args) _ _ s
  simp only [callAny]
  refine wpAny_bind (wpAny_load ((X₀.keeps F.keep) _ _ ho) ?_)
  obtain ⟨c, oc', vs, tq, hc, hoc, hdc, hq⟩ := hcr
  simp only [callFunction, hco, hgen, hc]
  refine wpAny_bind (m := field (.ref c) 1) (wpAny_field hoc hdc hq (wpAny_bind (wpAny_pure ?_)))
  rw [← hc]
  refine wpAny_bind (hbind _ _ _ _ ?_)
  refine wpAny_bind (wpAny_newFunctionEnv hcell hloc (fun h₁ hns hsb => ?_) hk)
  have hk₁ : ∀ b o, s.heap.get? b = some o → h₁.get? b = some o := fun b o e => hsb.extBut b o (Nat.ne_of_lt (Heap.lt_size e)) (Heap.get?_push_of_some _ e)
  refine wpAny_bind (wpAny_enterFrame ((T.nolimit.keeps F.keep).keeps hk₁) hroom (wpAny_pure ⟨rfl, c_func ?_⟩))
  exact wpC_mono (h _ s.heap.objs.size h₁ FG ⟨hns, fun b o e => hk₁ b o (of_hideAll _ e), Nat.le_of_eq (hideAll_size _ _)⟩
    (fun p hp => ⟨hk₁ _ _ (N p hp).1, Nat.ne_of_lt (Heap.lt_size (N p hp).1), hideAll_none _ (List.mem_map_of_mem hp)⟩) BG (X₀.keeps st) (T.keeps st) st (fun p hp => Heap.lt_size (N p hp).1)) (fun fl s' hl => lv _ _ hl) fun _ _ y => y
end
end Mine
end
section
open PySem PySem.W PyProof.Rows PySem.Calls
open Sem (wp)
set_option maxRecDepth 100000
set_option maxHeartbeats 8000000
namespace Mine
section
variable {prog : Program} {w : World} {A : Around} {s : Shared} {p : Program} {loose : List Str} {mean : ExcName → Option Value} {mg mb : Str → Option Value}
  {name : Str} {params : Arguments} {body : List Stmt} {scope : Scope} {dV kV doc pm cd : Value} {fa : Addr} {o : Obj} {vals : List Value} {binds : List (Str × Value)} {Q E : Value → Shared → Prop}
/-- the law's own call, over clean stacks -/
theorem c_top (T : Top p loose mean mg mb s.heap) (ho : s.heap.get? fa = some o) (hd : o.data = .func { docDef name params body scope pm cd doc with defaults := dV, kwdefaults := kV }) (hcd : s.heap.CodeRec cd name)
    (hroom : A.depth < recursionLimit) (hbind : BindsTo s { docDef name params body scope pm cd doc with defaults := dV, kwdefaults := kV } ⟨vals, []⟩ binds) (hloc : ∀ y ∈ binds, scope.names.lookup y.1 = some .local)
    (h : ∀ L h₁, Fr s.heap L h₁ (fun y => binds.reverse.lookup y) →
      wpC (model prog w) (A.deeper (envOf name scope L fa cd)) (execs body (envOf name scope L fa cd))
        (fun fl s' => Q (match fl with | .ret v => v | _ => .none) s')
        (fun e s' => wpAny (model prog w) (A.deeper (envOf name scope L fa cd)) (leaving (envOf name scope L fa cd) e) (fun _ s'' => E e s'') (fun e' s'' => E e' s'') s')
        { s with heap := h₁, toks := s.toks + binds.length })
    (hco : scope.isCoroutine = false) (hgen : scope.isGenerator = false) (hk : scope.kind = .function)
    (hcell : ∀ x ∈ scope.names, x.2 ≠ .cell) : wpC (model prog w) A (call (.ref fa) vals) Q E s := by
  refine wpC_call (codeC_of_tree rfl (wpC_of ?_))
  show wpAny _ A.in1 (callAny (.ref fa) ⟨vals, []⟩) _ _ s
  simp only [callAny]
  refine wpAny_bind (wpAny_load ho ?_)
  obtain ⟨c, oc', vs, tq, hc, hoc, hdc, hq⟩ := hcd
  subst hc
  rw [hd]
  simp only [callFunction, docDef, hco, hgen]
  refine wpAny_bind (m := field (.ref c) 1) (wpAny_field hoc hdc hq (wpAny_bind (wpAny_pure ?_)))
  refine wpAny_bind (hbind _ _ _ _ ?_)
  refine wpAny_bind (wpAny_newFunctionEnv hcell hloc (fun h₁ hns hsb => ?_) hk)
  have hk₁ : ∀ b o, s.heap.get? b = some o → h₁.get? b = some o := fun b o e => hsb.extBut b o (Nat.ne_of_lt (Heap.lt_size e)) (Heap.get?_push_of_some _ e)
  refine wpAny_bind (wpAny_enterFrame (T.nolimit.keeps hk₁) hroom (wpAny_pure ⟨rfl, c_func ?_⟩))
  exact h s.heap.objs.size h₁ ⟨hns, hk₁, Nat.le_refl _⟩
end
end Mine
end
section
open PySem PySem.W PyProof.Rows PySem.Calls PyProof.V PySem.Spec
set_option maxRecDepth 100000
set_option maxHeartbeats 8000000
set_option linter.unusedVariables false
namespace Mine
/-! Loops whose ledger may grow. -/
noncomputable def TurnEnd (h₀ : Heap) (L I : Addr) (oI : Obj) (J : (Str → Option Value) → List (Addr × Obj) → Prop) (s₁ s₂ : Shared) : Prop :=
  ∃ h' tk m' nx, s₂ = { s₁ with heap := h', toks := tk } ∧ Fr h₀ L h' m' ∧ News h₀ L h' ((I, oI) :: nx) ∧ (∀ p ∈ nx, p.1 ≠ I) ∧ J m' nx
noncomputable def TurnPost (h₀ : Heap) (L I : Addr) (oI : Obj) (J : (Str → Option Value) → List (Addr × Obj) → Prop) (s₁ : Shared) (Q : Flow → Shared → Prop) (f : Flow) (s₂ : Shared) : Prop :=
  match f with
  | .ret v => Q (.ret v) s₂
  | .brk => Q .next s₂
  | _ => TurnEnd h₀ L I oI J s₁ s₂
section
variable {prog : Program} {w : World} {A : Around} {E : Value → Shared → Prop} {s : Shared} {env : Env} {h₀ : Heap} {x : Str} {body : List Stmt} {Q : Flow → Shared → Prop}
theorem own_fix {L I : Addr} {fp : List Addr} {own fix : List (Addr × Obj)} {h : Heap} {oI : Obj} (hI : h.get? I = some oI) (hown : ∀ p ∈ own, p.1 ∈ fp) (hget : ∀ p ∈ own, h.get? p.1 = some p.2) (hno : ∀ p ∈ own, h₀.get? p.1 = none)
    (hfix : ∀ b ∈ fp, h₀.get? b = none → b = I ∨ ∃ o, (b, o) ∈ fix) (hf : ∀ p ∈ fix, h.get? p.1 = some p.2) : ∀ p ∈ own, p = (I, oI) ∨ p ∈ fix := fun p hp => by
  obtain ⟨a, o⟩ := p
  have hg := hget _ hp
  rcases hfix a (hown _ hp) (hno _ hp) with rfl | ⟨o', ho'⟩
  · left
    have : some oI = some o := hI.symm.trans hg
    rw [Option.some.inj this]
  · right
    have : some o' = some o := (hf _ ho').symm.trans hg
    rw [← Option.some.inj this]
    exact ho'
theorem loop_own {I : Addr} {fp : List Addr} {n : Nat} {P : Nat → Value → Prop} {St : Nat → Heap → Prop} {m₀ : Str → Option Value} {news fix : List (Addr × Obj)} (J : Nat → (Str → Option Value) → List (Addr × Obj) → Prop)
    (W : Walks prog w A I fp [I] n P St) (hLf : env.locals ∉ fp) (hI : h₀.get? I = none) (hx : ∀ i h, St i h → ∃ o, h.get? I = some o)
    (hfix : ∀ b ∈ fp, h₀.get? b = none → b = I ∨ ∃ o, (b, o) ∈ fix) (hJ : ∀ i m nx, J i m nx → ∀ p ∈ fix, p ∈ nx)
    (hnI : ∀ p ∈ news, p.1 ≠ I) (hst : St 0 s.heap) (F : Fr h₀ env.locals s.heap m₀) (N : News h₀ env.locals s.heap news) (hj : J 0 m₀ news)
    (turn : ∀ i v m₁ nx h tk oI, i < n → P i v → J i m₁ nx → (∀ p ∈ nx, p.1 ≠ I) → Fr h₀ env.locals h (fun y => if y = x then some v else m₁ y) → News h₀ env.locals h ((I, oI) :: nx) →
      wpAny (model prog w) A (execs body env) (TurnPost h₀ env.locals I oI (J (i + 1)) { s with heap := h, toks := tk } Q) E { s with heap := h, toks := tk })
    (done : ∀ m₁ nx h tk, J n m₁ nx → Fr h₀ env.locals h m₁ → News h₀ env.locals h nx → Q .next { s with heap := h, toks := tk }) :
    LoopAtV prog w A h₀ env x body Q E (.ref I) s := by
  refine ⟨I, fp, [I], n, P, St, m₀, news, J, rfl, W, hLf, ?_, ?_, hst, F, N, hj, ?_, ?_⟩
  · intro b hb; rw [List.mem_singleton.mp hb]; exact hI
  · intro p hp hq; exact hnI p hp (List.mem_singleton.mp hq)
  · rintro i v m₁ nx s₁ own ⟨hh', tk', rfl⟩ hin hP hJ' hoff hown hget hall st F₁ N₁
    obtain ⟨oI, hoI⟩ := hx _ _ st
    have hIo : (I, oI) ∈ own := hall I (W.sub I (.head _)) hI oI hoI
    have hIn : ∀ p ∈ nx, p.1 ≠ I := fun p hp e => hoff p hp (by rw [e]; exact .head _)
    have N₂ : News h₀ env.locals hh' ((I, oI) :: nx) := fun p hp => by
      rcases List.mem_cons.mp hp with rfl | hp
      · exact N₁ _ (List.mem_append_left _ hIo)
      · exact N₁ _ (List.mem_append_right _ hp)
    have hsub : ∀ p ∈ own, p = (I, oI) ∨ p ∈ fix := own_fix (L := I) hoI hown hget (fun p hp => (N₁ p (List.mem_append_left _ hp)).2.2) hfix fun p hp => (N₁ p (List.mem_append_right _ (hJ _ _ _ hJ' p hp))).1
    refine wpAny_mono (turn i v m₁ nx hh' tk' oI hin hP hJ' hIn F₁ N₂) (fun f s₂ p => ?_) fun _ _ e => e
    have fin : TurnEnd h₀ env.locals I oI (J (i + 1)) { s with heap := hh', toks := tk' } s₂ → LoopStepU h₀ env.locals [I] own (J (i + 1)) { s with heap := hh', toks := tk' } .next s₂ := by
      rintro ⟨h', tk, m', nx', e, F', N', hI', hm⟩
      refine ⟨rfl, h', tk, m', nx', e, F', fun p hp => ?_, fun p hp hq => hI' p hp (List.mem_singleton.mp hq), hm⟩
      rcases List.mem_append.mp hp with hp | hp
      · rcases hsub p hp with rfl | hp
        · exact N' _ (.head _)
        · exact N' _ (.tail _ (hJ _ _ _ hm p hp))
      · exact N' _ (.tail _ hp)
    cases f with
    | ret v => exact .ret p
    | brk => exact .brk p
    | next => exact .next (fin p)
    | cont => exact .cont (fin p)
  · rintro h' tk m' news' F' N' _ hJ
    exact done m' news' h' tk hJ F' N'
/-- a loop over a list of the ledger -/
theorem iter_own {l : Addr} {vs : List Value} {nn : Nat} {m₀ : Str → Option Value} {news : List (Addr × Obj)} (J : Nat → (Str → Option Value) → List (Addr × Obj) → Prop)
    (hh : A.handled = none) (hl : (l, listOf vs.toArray nn) ∈ news) (hJ : ∀ i m nx, J i m nx → (l, listOf vs.toArray nn) ∈ nx)
    (F : Fr h₀ env.locals s.heap m₀) (N : News h₀ env.locals s.heap news) (hj : J 0 m₀ news)
    (turn : ∀ I, (∀ p ∈ news, p.1 < I) → ∀ i v m₁ nx h tk oI, vs[i]? = some v → J i m₁ nx → (∀ p ∈ nx, p.1 ≠ I) → Fr h₀ env.locals h (fun y => if y = x then some v else m₁ y) → News h₀ env.locals h ((I, oI) :: nx) →
      wpAny (model prog w) A (execs body env) (TurnPost h₀ env.locals I oI (J (i + 1)) { s with heap := h, toks := tk } Q) E { s with heap := h, toks := tk })
    (done : ∀ m₁ nx h tk, J vs.length m₁ nx → Fr h₀ env.locals h m₁ → News h₀ env.locals h nx → Q .next { s with heap := h, toks := tk }) :
    wpAny (model prog w) A (pyIter (.ref l)) (fun it s₂ => LoopAtV prog w A h₀ env x body Q E it s₂) E s := by
  have hg := (N _ hl).1
  have hls : s.heap.IsList l vs.toArray := ⟨_, hg, rfl, nn, rfl⟩
  have hlt : l < s.heap.objs.size := Heap.lt_size hg
  have hne : l ≠ s.heap.objs.size := Nat.ne_of_lt hlt
  refine wpAny_pyIter_list hls ?_
  have W := Walks.list (prog := prog) (w := w) hh s.heap.objs.size l hne vs.toArray
  have hlen : vs.toArray.size = vs.length := by simp
  rw [hlen] at W
  refine loop_own (fix := [(l, listOf vs.toArray nn)]) J W ?_ (next_is_new F) ?_ ?_ ?_ ?_ ⟨⟨_, Heap.get?_push_size _ rfl, rfl, rfl⟩, hls.at fun o e => Heap.get?_push_of_some _ e⟩ (F.push _) (fun p hp => ⟨Heap.get?_push_of_some _ (N p hp).1, (N p hp).2⟩) hj ?_ done
  · intro hm
    rcases List.mem_cons.mp hm with e | hm
    · exact absurd F.ns.lt (e ▸ Nat.lt_irrefl _)
    · exact (N _ hl).2.1 (List.mem_singleton.mp hm).symm
  · rintro i h ⟨⟨o, ho, _⟩, _⟩
    exact ⟨o, ho⟩
  · intro b hb _
    rcases List.mem_cons.mp hb with rfl | hb
    · exact .inl rfl
    · rw [List.mem_singleton.mp hb]
      exact .inr ⟨_, .head _⟩
  · intro i m nx h p hp
    rw [List.mem_singleton.mp hp]
    exact hJ _ _ _ h
  · intro p hp e
    exact absurd (Heap.lt_size (N p hp).1) (e ▸ Nat.lt_irrefl _)
  · intro i v m₁ nx h tk oI hi hP hJ' hI F₁ N₁
    exact turn _ (fun p hp => Heap.lt_size (N p hp).1) i v m₁ nx h tk oI (by simpa using hP) hJ' hI F₁ N₁
end
end Mine
end
section
open PySem PySem.W PyProof.Rows PySem.Calls
open Sem (wp)
set_option maxRecDepth 100000
set_option maxHeartbeats 8000000
namespace Mine
/-! An object of a class whose __new__ is a def of its own, its __init__ walked over clean stacks. -/
section
variable {prog : Program} {w : World} {A : Around} {K : Frag} {C : Addr} {R : Result → Shared → Prop} {s : Shared} {h₀ : Heap} {L : Addr} {m : Str → Option Value} {news : List (Addr × Obj)}

noncomputable def BornC (prog : Program) (w : World) (K : Frag) (A : Around) (C fI : Addr) (rest : List Value) (R : Result → Shared → Prop) (r : Result) (s' : Shared) : Prop := match r with
  | .ok (.ret v) => ∃ x ox, v = .ref x ∧ s'.heap.get? x = some ox ∧ ox.cls = .ref C ∧ K.In s'.heap ∧
      codeC (model prog w) (A.under (.builtin "type.__call__" ⟨.ref C :: rest, []⟩)) (.call (.ref fI) ⟨.ref x :: rest, []⟩) (InitBack x R) s'
  | .ok _ => False
  | .error er => R (.error er) s'

theorem makeC_own {rest : List Value} {p fN fI : Addr} {tl : List Value} {mc : Value} (F : Fr h₀ L s.heap m) (X₀ : K.In h₀)
    (hb : bornIn K C = true) (hm : typeIn K (.ref C) = some mc) (hr : readsIn K C mc = true)
    (e : findCls K (.ref C) mc "__new__" = some (.get (.builtin "staticmethod.__get__") (.ref p) .none (.ref C))) (hp : recIn K p "staticmethod" = some (.ref fN :: tl)) (hv : handedIn (.ref fN) = true)
    (hi : findIn K (.ref C) "__init__" = some (some (.ref fI))) (hf : typeIn K (.ref fI) = some (.type "function"))
    (h : codeAny (model prog w) (A.under (.builtin "type.__call__" ⟨.ref C :: rest, []⟩)) (.call (.ref fN) ⟨.ref C :: rest, []⟩)
      (BornC prog w K A C fI rest R) { s with toks := s.toks + 1 }) :
    codeC (model prog w) A (.call (.ref C) ⟨rest, []⟩) R s := by
  have X := X₀.keeps F.keep
  unfold bornIn at hb
  split at hb
  · rename_i oc od cd sl ho
    simp only [Bool.and_eq_true, Bool.not_eq_true', beq_iff_eq] at hb
    obtain ⟨⟨⟨⟨e3, e4⟩, e7⟩, e8⟩, e5⟩ := hb
    have hC := X _ _ ho
    have call : Looks (model prog w) s.heap (specialOf (.ref C) "__call__") (some (.builtin "type.__call__")) := looks_specialIn X e7
    have typ : Looks (model prog w) s.heap (isInstance (.ref C) (.type "type")) true := looks_instIn X e8
    have hcl : clsIn K C = some cd := by unfold clsIn; rw [ho]
    have hmro : Looks (model prog w) s.heap (mroOf (.ref C)) cd.mro := (looks_clsIn X hcl).andThen .now
    have made : Looks (model prog w) s.heap (Bind.madeBy (.ref C)) none := by
      intro A Q E s k q
      unfold Bind.madeBy
      refine wpAny_bind (hmro A _ E s k ?_)
      obtain ⟨c, l, hl⟩ : ∃ c l, cd.mro = c :: l := by cases q : cd.mro with | nil => rw [q] at e4; cases e4 | cons c l => exact ⟨c, l, rfl⟩
      rw [hl, List.forIn_cons]
      refine wpAny_bind (wpAny_bind (wpAny_bind (wpAny_bind (wpAny_loadPart (k _ _ (X _ _ ho)) (wpAny_pure ?_)))))
      dsimp only
      rw [← Array.getElem?_toList, e3]
      exact wpAny_pure (wpAny_pure (wpAny_pure q))
    refine codeC_of_tree rfl (wpC_of ?_)
    show wpAny _ _ (callAny (.ref C) _) _ _ _
    refine nd_load hC ?_
    show wpAny _ _ (callAny.viaDunder (.ref C) _) _ _ _
    unfold callAny.viaDunder
    refine wpAny_bind (call.here ?_)
    dsimp only
    rw [tc_bind]
    refine wpAny_bind (wpAny_pure (wpAny_bind (wpAny_pure ?_)))
    refine wpAny_pure (a := Fin.again (.call (.builtin "type.__call__") ⟨.ref C :: rest, []⟩)) (And.intro rfl (codeC_of_tree rfl (wpC_of ?_)))
    show wpAny _ _ (do checkBuiltinCall "type.__call__" ⟨.ref C :: rest, []⟩; again (.builtin "type.__call__" ⟨.ref C :: rest, []⟩)) _ _ _
    refine wpAny_bind (check_slot tc_kind tc_split typ (tc_args _ _ _) (wpAny_pure ⟨Code.quiet_builtin _ (by decide +kernel), codeC_builtin (by decide +kernel) entry_typeCall ?_⟩))
    unfold Builtin.«type.__call__»
    refine wpC_ite_false rfl ?_
    refine wpC_bindA (hmro.here ?_)
    refine wpC_ite_false e4 ?_
    refine wpC_bindA (made.here ?_)
    refine wpC_bindA (cls_sm F X₀ hm hr e hp hv ?_)
    refine wpC_bind (wpC_holding (wpC_of (wpAny_call (codeAny_mono h fun r s' z => ?_))))
    rcases r with er | (v | _ | _ | v)
    · exact z
    · exact z.elim
    · exact z.elim
    · exact z.elim
    · obtain ⟨x, ox, rfl, hx, hcx, X', hI⟩ := z
      have t1 : Looks (model prog w) s'.heap (typeOf (.ref x)) (.ref C) := hcx ▸ (Looks.ld (part := none) hx).andThen .now
      have sub : Looks (model prog w) s'.heap (isSubtype (.ref C) (.ref C)) true := looks_mroIn X' (by unfold mroIn; rw [hcl, Option.bind_some, if_neg (by rw [e4]; decide), e5])
      have i1 : Looks (model prog w) s'.heap (isInstance (.ref x) (.ref C)) true := t1.andThen sub
      have f1 := looks_findIn (M := model prog w) X' hi
      have b1 := bind_fn (M := model prog w) X' (.ref x) hf
      refine wpC_bindA (i1.here ?_)
      refine wpC_ite_false rfl ?_
      refine wpC_bind (wpC_holding ?_)
      unfold callSpecial? specialOf
      refine wpC_bindA (wpAny_bind (t1.here (f1.here ?_)))
      dsimp only
      refine wpC_holding (wpC_bindA (b1.here ?_))
      refine wpC_bind (wpC_call (codeC_mono hI fun r s' z => ?_))
      rcases r with e | (v | _ | _ | _) <;> first | exact z | exact z.elim | skip
      obtain ⟨rfl, z⟩ := z
      exact wpC_pure (wpC_pure z)
  · cases hb
end
end Mine
end
section
open PySem PySem.W PyProof.Rows PySem.Calls
set_option maxRecDepth 100000
set_option maxHeartbeats 8000000
namespace Mine
section
variable {prog : Program} {w : World} {A : Around} {E : Value → Shared → Prop} {s : Shared} {h₀ : Heap} {L : Addr} {m : Str → Option Value} {news : List (Addr × Obj)}

theorem chk_418 (w : World) : peek (Mine.K w.params) ⟨PySem.Challenge.rw_lc0007_01.row.prog, w.params⟩ (checkBuiltinCall "object.__new__" ⟨[.ref 418], []⟩) = some () := by kernel_rfl
noncomputable def k1_418 (w : World) : Addr → Sem PySem.Fin := ((peekA (Mine.K w.params) ⟨PySem.Challenge.rw_lc0007_01.row.prog, w.params⟩ (Builtin.«object.__new__» ⟨[.ref 418], []⟩)).getD (default, fun _ => .raise .none)).2
theorem new1_418 (w : World) : peekA (Mine.K w.params) ⟨PySem.Challenge.rw_lc0007_01.row.prog, w.params⟩ (Builtin.«object.__new__» ⟨[.ref 418], []⟩) = some (emptyDict, k1_418 w) := by kernel_rfl
noncomputable def k2_418 (w : World) (dx : Addr) : Addr → Sem PySem.Fin := ((peekA (Mine.K w.params) ⟨PySem.Challenge.rw_lc0007_01.row.prog, w.params⟩ (k1_418 w dx)).getD (default, fun _ => .raise .none)).2
theorem new2_418 (w : World) (dx : Addr) : peekA (Mine.K w.params) ⟨PySem.Challenge.rw_lc0007_01.row.prog, w.params⟩ (k1_418 w dx) = some (instObj 418 dx, k2_418 w dx) := by kernel_rfl
theorem new3_418 (w : World) (dx x : Addr) : peek (Mine.K w.params) ⟨PySem.Challenge.rw_lc0007_01.row.prog, w.params⟩ (k2_418 w dx x) = some (.done (.ret (.ref x))) := by kernel_rfl

theorem new_418 {Q : Value → Shared → Prop} (F : Fr h₀ L s.heap m) (X₀ : (Mine.K w.params).In h₀) (N : News h₀ L s.heap news)
    (h : ∀ x dx h', Fr h₀ L h' m → News h₀ L h' ((x, instObj 418 dx) :: (dx, emptyDict) :: news) → (∀ p ∈ news, p.1 < dx) → dx < x → Q (.ref x) { s with heap := h' }) :
    wpAny (model PySem.Challenge.rw_lc0007_01.row.prog w) A (call (.builtin "object.__new__") [.ref 418]) Q E s := by
  have X := X₀.keeps F.keep
  refine wpAny_call (codeAny_call_builtin_code (Code.quiet_builtin _ PySem.F.objNew.quiet) ((Looks.of_peek (M := model PySem.Challenge.rw_lc0007_01.row.prog w) X (chk_418 w)).here (codeAny_builtin PySem.F.objNew.entry ?_)))
  refine wp_of_peekA F N X rfl _ _ (new1_418 w) fun h1 F1 N1 l1 => ?_
  refine wp_of_peekA (s := { s with heap := h1 }) F1 N1 (X₀.keeps F1.keep) rfl _ _ (new2_418 w _) fun h2 F2 N2 l2 => ?_
  refine (Looks.of_peek (M := model PySem.Challenge.rw_lc0007_01.row.prog w) (h := h2) (X₀.keeps F2.keep) (new3_418 w _ _)).here (s := { s with heap := h2 }) ?_
  exact h _ _ _ F2 N2 l1 (l2 _ (.head _))
end
end Mine
end
section
open PySem PySem.W PyProof.Rows PySem.Calls PyProof.V PySem.Spec
open Sem (wp)
set_option maxRecDepth 100000
set_option maxHeartbeats 8000000
namespace Mine
namespace BB
theorem slot_len : Slot "bytearray" "__len__" "bytearray.__len__" :=
  .of (owner := "bytearray") (n := "__len__") (by rw [typeLookup_type, builtinLookup_eq_fast]; kernel_rfl) (by decide +kernel) (by decide +kernel) (by decide +kernel)
    (by first | exact .inl (by decide +kernel) | exact .inr (by decide +kernel)) (by rw [isSubtype_type]; kernel_rfl)
theorem entry_len : entryFor table "bytearray.__len__" = some Builtin.«bytearray.__len__» := by first | exact entryFor_of_tree (by kernel_rfl) | exact entryFor_of_fast (by kernel_rfl)
theorem args_len (a : Value) : argsOk "bytearray.__len__" ⟨[a], []⟩ := by unfold argsOk; kernel_rfl
theorem slot_getitem : Slot "bytearray" "__getitem__" "bytearray.__getitem__" :=
  .of (owner := "bytearray") (n := "__getitem__") (by rw [typeLookup_type, builtinLookup_eq_fast]; kernel_rfl) (by decide +kernel) (by decide +kernel) (by decide +kernel)
    (by first | exact .inl (by decide +kernel) | exact .inr (by decide +kernel)) (by rw [isSubtype_type]; kernel_rfl)
theorem entry_getitem : entryFor table "bytearray.__getitem__" = some Builtin.«bytearray.__getitem__» := by first | exact entryFor_of_tree (by kernel_rfl) | exact entryFor_of_fast (by kernel_rfl)
theorem args_getitem (a b : Value) : argsOk "bytearray.__getitem__" ⟨[a, b], []⟩ := by unfold argsOk; kernel_rfl
theorem noBytes : typeLookup (.type "bytearray") "__bytes__" = pure none := by rw [typeLookup_type, builtinLookup_eq_fast]; kernel_rfl
theorem noIndex : typeLookup (.type "bytearray") "__index__" = pure none := by rw [typeLookup_type, builtinLookup_eq_fast]; kernel_rfl
theorem look_buffer : typeLookup (.type "bytearray") "__buffer__" = pure (some (.builtin "bytearray.__buffer__")) := by rw [typeLookup_type, builtinLookup_eq_fast]; kernel_rfl
theorem mem_list : seqItemTypes.contains "bytearray" = false := by decide
end BB
section
variable {prog : Program} {w : World} {A : Around} {E : Value → Shared → Prop} {s : Shared}
theorem payload_ba {M : Model} {ba : Addr} {b : Array UInt8} {Q : Array UInt8 → Shared → Prop} (hb : s.heap.get? ba = some (baObj b)) (h : Q b s) :
    wpAny M A (Builtin.Bytes.payload (.ref ba)) Q E s := by
  unfold Builtin.Bytes.payload Builtin.Bytes.payload?
  exact wpAny_bind (wpAny_bind (wpAny_load hb (wpAny_pure (wpAny_pure h))))
theorem typeIs_ba {ba : Addr} {b : Array UInt8} (hb : s.heap.get? ba = some (baObj b)) : s.TypeIs (.ref ba) "bytearray" := ⟨_, hb, rfl⟩
theorem call_len_ba {ba : Addr} {b : Array UInt8} {Q : Value → Shared → Prop} (hb : s.heap.get? ba = some (baObj b)) (hfit : b.size ≤ 16777216)
    (h : Q (.int b.size (s.toks + 1)) { s with toks := s.toks + 1 + 1 }) : wpAny (model prog w) A (call (.builtin "len") [.ref ba]) Q E s := by
  refine call_function_entry kind_len plain_len entry_len (args_len1 _) ?_
  unfold Builtin.«len»
  refine wpAny_bind (m := oneArg "len" _) (wpAny_pure ?_)
  refine wpAny_bind (m := callSpecial? (.ref ba) (Str.ofString "__len__")) (wpAny_callSpecial?_slot (name := Str.ofString "__len__") (typeIs_ba hb) BB.slot_len
    (wpAny_call_entry BB.slot_len (typeIs_ba hb) BB.entry_len ?_ (BB.args_len _)))
  · show wpAny _ _ (Builtin.Bytes.payload (.ref ba) >>= fun b => retInt b.size) _ _ s
    refine wpAny_bind (payload_ba hb (wpAny_bind (wpAny_mkInt (wpAny_pure ⟨_, rfl, ?_⟩))))
    refine wpAny_bind (wpAny_holding (wpAny_pure ?_))
    refine wpAny_bind (wpAny_letGo ?_)
    show wpAny _ _ (if ((b.size : Nat) : Int) < 0 then _ else _) _ _ _
    rw [if_neg (by omega)]
    show wpAny _ _ (if ((b.size : Nat) : Int) ≥ 2 ^ 63 then _ else _) _ _ _
    rw [if_neg (by omega)]
    exact wpAny_bind (wpAny_mkInt (wpAny_pure ⟨_, rfl, h⟩))
theorem meets_ba_slice (ba a : Addr) (b : Array UInt8) {l u : Value} {lo hi : Option Int} (hl : IsPart l lo) (hu : IsPart u hi) :
    Meets (Builtin.«bytearray.__getitem__» ⟨[.ref ba, .ref a], []⟩) (fun _ R s => s.heap.get? ba = some (baObj b) ∧ s.heap.IsSliceOf a l u .none ∧ (KBy.picked b lo hi).size ≤ sizeLine ∧
      R (.ok (.ret (.ref s.heap.objs.size))) { s with heap := s.heap.push (baObj (KBy.picked b lo hi)) }) := by
  refine .of_wp fun prog w A R s hS => ?_
  obtain ⟨hb, ⟨o, ho, hc, hd⟩, hsz, h⟩ := hS
  have hT : s.TypeIs (.ref a) "slice" := ⟨o, ho, hc⟩
  show wpAny _ _ (Builtin.Bytes.subscript? (.ref a) >>= fun r => _) _ _ s
  refine wpAny_bind ?_
  unfold Builtin.Bytes.subscript?
  refine wpAny_bind (wpAny_specialOf hT slice_no_index (wpAny_pure ?_))
  refine wpAny_bind (wpAny_typeOf hT ?_)
  show wpAny _ _ (Builtin.Bytes.sliceParts (.ref a) >>= fun r => _) _ _ s
  refine wpAny_bind ?_
  unfold Builtin.Bytes.sliceParts
  refine wpAny_bind (wpAny_field (x := .none) ho hd rfl ?_)
  kby_none
  refine wpAny_ite (KBy.ite_no (show ¬ ((Value.none == rawInt 0) = true) from Bool.false_ne_true) ?_)
  refine wpAny_bind (wpAny_field (x := l) ho hd rfl ?_)
  have go : wpAny (model prog w) A.in1 (sliceIndices (rawPart lo) (rawPart hi) (rawPart none) b.size) (fun r s' => r = sliceBounds lo hi none b.size ∧ s' = s) (fun _ _ => False) s :=
    wpAny_of_eq (sliceIndices_raw lo hi none b.size (fun e => nomatch e)) ⟨rfl, rfl⟩
  cases hl <;> cases hu <;> (first
    | (kby_none; (refine wpAny_bind (wpAny_field (x := .none) ho hd rfl ?_)); kby_none)
    | (kby_none; (refine wpAny_bind (wpAny_field (x := .int _ _) ho hd rfl ?_)); kby_int)
    | (kby_int; (refine wpAny_bind (wpAny_field (x := .none) ho hd rfl ?_)); kby_none)
    | (kby_int; (refine wpAny_bind (wpAny_field (x := .int _ _) ho hd rfl ?_)); kby_int)) <;> refine wpAny_pure ?_
  all_goals
    refine wpAny_bind (payload_ba hb ?_)
    refine wpAny_bind (wpAny_mono go (fun r s' hr => ?_) fun _ _ e => e.elim)
    obtain ⟨hr1, hr2⟩ := hr
    subst hr1 hr2
    refine wpAny_bind ?_
    unfold Builtin.Bytes.newBytearray
    refine wpAny_newObj_type ?_ hsz
    exact wpAny_pure ⟨_, rfl, h⟩
theorem BB.ends_buf : ("bytearray.__buffer__".endsWith ("." ++ "__buffer__")) = true := by decide +kernel
theorem BB.drop_buf : ("bytearray.__buffer__".dropRight ("__buffer__".length + 1)) = "bytearray" := by decide +kernel
theorem slotOwn_ba {M : Model} {ba : Addr} {Q : Bool → Shared → Prop} (hT : s.TypeIs (.ref ba) "bytearray") (h : Q true s) : wpAny M A (Builtin.Bytes.slotIsOwn (.ref ba) "__buffer__") Q E s := by
  unfold Builtin.Bytes.slotIsOwn
  refine wpAny_bind (wpAny_specialOf hT BB.look_buffer ?_)
  dsimp only
  rw [BB.ends_buf, BB.drop_buf]
  exact wpAny_isInstance hT BA.sub h
theorem new_bytes_ba {ba : Addr} {b : Array UInt8} {Q : Value → Shared → Prop} (hb : s.heap.get? ba = some (baObj b)) (hz : b.size ≤ sizeLine)
    (hQ : ∀ t k, Q (.bytes b t) { s with toks := k }) :
    codeAny (model prog w) A (.call (.builtin "bytes.__new__") ⟨[.type "bytes", .ref ba], []⟩) (wants Q E) s := by
  refine codeAny_of_tree ?_
  show wpAny _ A.in1 (do checkBuiltinCall "bytes.__new__" ⟨[.type "bytes", .ref ba], []⟩; again (.builtin "bytes.__new__" ⟨[.type "bytes", .ref ba], []⟩)) _ _ s
  refine wpAny_bind (wpAny_of_eq (F.bm_newCall _) (wpAny_pure ⟨plainId_quiet F.bm_plain _, codeAny_builtin F.bm_entry ?_⟩))
  rw [Around.under_plainId F.bm_plain _]
  have hT : s.TypeIs (.ref ba) "bytearray" := typeIs_ba hb
  unfold Builtin.«bytes.__new__»
  refine wpAny_bind (wpAny_of_eq (a := true) rfl ?_)
  refine bm_if_false rfl ?_
  refine wpAny_bind (wpAny_of_eq F.bm_sub ?_)
  refine bm_if_false rfl ?_
  refine wpAny_bind (wpAny_of_eq (F.bm_bind _) ?_)
  refine wpAny_bind (wpAny_of_eq (a := ()) rfl ?_)
  refine wpAny_bind (wpAny_of_eq (a := ()) rfl ?_)
  refine bm_if_false rfl ?_
  refine wpAny_bind (wpAny_specialOf hT BB.noBytes ?_)
  refine wpAny_bind (wpAny_bind ?_)
  show wpAny _ _ (load ba >>= _) _ _ _
  refine wpAny_bind (wpAny_load hb ?_)
  refine wpAny_pure (wpAny_pure ?_)
  refine bm_if_false rfl ?_
  refine wpAny_bind (wpAny_specialOf hT BB.noIndex ?_)
  refine bm_if_true rfl ?_
  refine wpAny_bind ?_
  unfold Builtin.Bytes.buffer?
  refine wpAny_bind (wpAny_specialOf hT BB.look_buffer ?_)
  dsimp only
  refine wpAny_bind (slotOwn_ba hT ?_)
  refine bm_if_false rfl ?_
  refine wpAny_bind (wpAny_specialOf hT BB.look_buffer ?_)
  refine wpAny_bind (ownRelease_ba hT ?_)
  refine bm_if_false rfl ?_
  refine wpAny_bind (payload_ba hb (wpAny_pure ?_))
  refine wpAny_bind (wpAny_rule ?_)
  refine wpAny_bind (wpAny_mkBytes ?_ hz)
  show wpAny _ _ (if (Value.type "bytes" == Value.type "bytes") = true then _ else _) _ _ _
  refine bm_if_true (by decide) ?_
  first
    | exact wpAny_pure (hQ _ _)
    | exact wpAny_bind (wpAny_pure (wpAny_pure (hQ _ _)))
theorem call_bytes_ba {ba : Addr} {b : Array UInt8} {Q : Value → Shared → Prop} (hb : s.heap.get? ba = some (baObj b)) (hz : b.size ≤ sizeLine)
    (h : ∀ t k, Q (.bytes b t) { s with toks := k }) : wpAny (model prog w) A (call (.type "bytes") [.ref ba]) Q E s := by
  refine callType_codes (Q₁ := fun obj s₁ => s₁.TypeIs obj "bytes" ∧ Q obj s₁) F.bm_called (F.bm_typeCall _) F.entry_object_init
    (new_bytes_ba hb hz fun t k => ⟨PySem.W.typeIs_bytes _ _ _, h t k⟩) fun obj s₁ h₁ => ?_
  exact ⟨h₁.1, F.args_object_init_2 obj _, object_init_meets F.bm_called.init.lookup F.bm_called.made (by decide) prog w A.in1 _ s₁ ⟨h₁.1, rfl, h₁.2⟩⟩
theorem slice_ba {ba : Addr} {b : Array UInt8} {h₀ : Heap} {L : Addr} {m : Str → Option Value} {news : List (Addr × Obj)} {value slice : Expr} {l u : Value} {lo hi : Option Int} {Q : Value → Shared → Prop}
    (hF : Fr h₀ L s.heap m) (hN : News h₀ L s.heap news) (hb : s.heap.get? ba = some (baObj b)) (hl : IsPart l lo) (hu : IsPart u hi) (hz : b.size ≤ 16777216)
    (h : ∀ nb h', Fr h₀ L h' m → News h₀ L h' ((nb, baObj (KBy.picked b lo hi)) :: news) → (∀ p ∈ news, p.1 < nb) → Q (.ref nb) { s with heap := h' })
    (hs : subscripted slice false (.ref ba) (.ref s.heap.objs.size) = operate [.ref s.heap.objs.size, .ref ba] (getItem (.ref ba) (.ref s.heap.objs.size)))
    (ht : ∀ r, letTemporaryGo value (.ref ba) r = pure ()) :
    wpAny (model prog w) A (subscriptTail value slice (.ref ba) (.ref s.heap.objs.size)) Q E { s with heap := s.heap.push { cls := .type "slice", data := .fields #[l, u, .none] } } := by
  have hb' : (s.heap.push { cls := .type "slice", data := .fields #[l, u, .none] }).get? ba = some (baObj b) := Heap.get?_push_of_some _ hb
  have F1 := hF.push { cls := .type "slice", data := .fields #[l, u, .none] }
  have N1 := News.pushKeep hN { cls := .type "slice", data := .fields #[l, u, .none] }
  refine tail_of_ItemOn ⟨"bytearray", _, BB.slot_getitem.lookup, typeIs_ba (s := { s with heap := s.heap.push { cls := .type "slice", data := .fields #[l, u, .none] } }) hb', getItem_meets (typeIs_ba (s := { s with heap := s.heap.push { cls := .type "slice", data := .fields #[l, u, .none] } }) hb') BB.mem_list BB.slot_getitem BB.entry_getitem (BB.args_getitem _ _) (meets_ba_slice ba _ b hl hu)
    ⟨hb', Heap.IsSliceOf.new _ _ _ _, Nat.le_trans (KBc.size_picked_le b lo hi) (by rw [sizeLine_eq]; exact hz), ?_⟩⟩ hs ht
  refine h _ _ (F1.push _) (News.push F1 N1 _) (fun p hp => Heap.lt_size (N1 p hp).1)
theorem picked_one {b : Array UInt8} {q : Nat} (h : q < b.size) : KBy.picked b (some (q : Int)) (some ((q : Int) + 1)) = #[b[q]] := by
  rw [KBc.picked_eq]
  have e1 : ((some (q : Int)).elim 0 (clipAt b.size)) = q := by simp only [Option.elim, clipAt_nat]; omega
  have e2 : ((some ((q : Int) + 1)).elim b.size (clipAt b.size)) = q + 1 := by
    have : ((q : Int) + 1) = ((q + 1 : Nat) : Int) := by push_cast; rfl
    rw [this]; simp only [Option.elim, clipAt_nat]; omega
  rw [e1, e2]
  have : q + 1 - q = 1 := by omega
  rw [this, List.drop_eq_getElem_cons (by simpa using h)]
  simp
theorem gives_ord1 (c : UInt8) (t : Tok) : Gives (Builtin.«ord» ⟨[.bytes #[c] t], []⟩) (.int ((c.toNat : Nat) : Int)) := .of_eq rfl
theorem truthy_b0 {t : Tok} {Q : Bool → Shared → Prop} (h : Q false { s with toks := s.toks + 1 + 1 }) : wpAny (model prog w) A (truthy (.bytes #[] t)) Q E s :=
  truthy_bytes (by decide) h
theorem truthy_b1 {c : UInt8} {t : Tok} {Q : Bool → Shared → Prop} (h : Q true { s with toks := s.toks + 1 + 1 }) : wpAny (model prog w) A (truthy (.bytes #[c] t)) Q E s :=
  truthy_bytes (by show 1 ≤ _; decide) h
theorem ord_b1 {c : UInt8} {t : Tok} {Q : Value → Shared → Prop} (h : Q (.int ((c.toNat : Nat) : Int) s.toks) { s with toks := s.toks + 1 }) : wpAny (model prog w) A (call (.builtin "ord") [.bytes #[c] t]) Q E s :=
  call_function_meets F.kind_ord F.plain_ord F.entry_ord (F.args_ord1 _) (gives_ord1 c t).meets h
end
end Mine
end
section
open PySem PySem.W PyProof.Rows PySem.Calls PyProof.V PySem.Spec
set_option maxRecDepth 100000
set_option maxHeartbeats 8000000
namespace Mine

namespace Ex
theorem call_EOF : ExcCallFacts "EOFError" "EOFError.__new__" "EOFError.__init__" := {
  ends := by decide +kernel, owner := by decide +kernel
  entry := entryFor_alias (id' := "BaseException.__new__") (by rw [fastTable_eq_tree]; kernel_rfl) (by first | rfl | decide +kernel) (by decide +kernel) (by rw [fastTable_eq_tree]; kernel_rfl)
  sub := by rw [isSubtype_type]; kernel_rfl
  notAttr := by rw [isSubtype_type]; kernel_rfl
  notName := by rw [isSubtype_type]; kernel_rfl
  made := by kernel_rfl
  notType := by decide +kernel
  canMake := by kernel_rfl
  noVector := fun _ => by kernel_rfl
  mro := ⟨[.type "EOFError", .type "Exception", .type "BaseException", .type "object"], by rw [mroOf_type]; kernel_rfl, rfl⟩
  madeBy := by kernel_rfl
  quiet := by decide +kernel
  newOk := fun _ => by kernel_rfl
  init := .of (owner := "EOFError") (n := "__init__") (by rw [typeLookup_type, builtinLookup_eq_fast]; kernel_rfl) (by decide +kernel) (by decide +kernel) (by decide +kernel)
    (by first | exact .inl (by decide +kernel) | exact .inr (by decide +kernel)) (by rw [isSubtype_type]; kernel_rfl)
  initEntry := entryFor_alias (id' := "BaseException.__init__") (by rw [fastTable_eq_tree]; kernel_rfl) (by first | rfl | decide +kernel) (by decide +kernel) (by rw [fastTable_eq_tree]; kernel_rfl)
  initSplit := by kernel_rfl
  initKind := by kernel_rfl
  initRow := by kernel_rfl
  noStar := by decide +kernel }
theorem base_EOF : ExcBaseFacts "EOFError" "EOFError.__new__" "EOFError.__init__" [.type "EOFError", .type "Exception", .type "BaseException", .type "object"] := {
  toExcCallFacts := call_EOF
  newSplit := by kernel_rfl
  newKind := by kernel_rfl
  newRow := by kernel_rfl
  mroIs := by rw [mroOf_type]; kernel_rfl
  hasB := by decide +kernel
  hasBase := by decide +kernel
  noAttr := by decide +kernel
  noName := by decide +kernel
  canon := by decide +kernel }
end Ex
section
variable {w : World} {A : Around} {E : Value → Shared → Prop} {s : Shared} {h₀ : Heap} {L : Addr} {m : Str → Option Value} {env : Env}
noncomputable abbrev theK (w : World) : Frag := Mine.K w.params
noncomputable abbrev theS (w : World) : Setting := ⟨PySem.Challenge.rw_lc0007_01.row.prog, w.params⟩
noncomputable abbrev theM (w : World) : Model := model PySem.Challenge.rw_lc0007_01.row.prog w
theorem p1_56 (w : World) : peek (theK w) (theS w) (isExcClass (.ref 56)) = some true := by kernel_rfl
theorem p2_56 (w : World) : peek (theK w) (theS w) (isSubtype (.ref 56) (.type "BaseException")) = some true := by kernel_rfl
theorem p3_56 (w : World) : peek (theK w) (theS w) (isType (.ref 56)) = some true := by kernel_rfl
theorem p4_56 (w : World) : peek (theK w) (theS w) (Builtin.«issubclass.nested» ⟨[.ref 56, .ref 56, rawInt 0], []⟩) = some (.done (.ret (.bool true))) := by kernel_rfl
theorem p5_56 (w : World) : peek (theK w) (theS w) (checkBuiltinCall "issubclass" ⟨[.ref 56, .ref 56], []⟩) = some () := by kernel_rfl
theorem p5_75 (w : World) : peek (theK w) (theS w) (checkBuiltinCall "issubclass" ⟨[.ref 75, .ref 75], []⟩) = some () := by kernel_rfl
theorem p1_75 (w : World) : peek (theK w) (theS w) (isExcClass (.ref 75)) = some true := by kernel_rfl
theorem p2_75 (w : World) : peek (theK w) (theS w) (isSubtype (.ref 75) (.type "BaseException")) = some true := by kernel_rfl
theorem p3_75 (w : World) : peek (theK w) (theS w) (isType (.ref 75)) = some true := by kernel_rfl
theorem p4_75 (w : World) : peek (theK w) (theS w) (Builtin.«issubclass.nested» ⟨[.ref 75, .ref 75, rawInt 0], []⟩) = some (.done (.ret (.bool true))) := by kernel_rfl

theorem raise_own {C : Addr} {bmB : List Value} {B newId initId : String} {mg : Str → Option Value} {x x' : Str} {np pos : Pos} {Q : Flow → Shared → Prop} (F : Fr h₀ L s.heap m) (X₀ : (theK w).In h₀)
    (O : OwnCls x' C bmB newId mg h₀) {Bn inN nid : String} {bmN : List Value} (Fn : ExcBaseFacts Bn newId inN bmN) (hBn : bmB.contains (.type Bn) = true) (FB : ExcBaseFacts B nid initId bmB) (hh : A.handled = none)
    (p1 : peek (theK w) (theS w) (isExcClass (.ref C)) = some true) (p2 : peek (theK w) (theS w) (isSubtype (.ref C) (.type "BaseException")) = some true) (p3 : peek (theK w) (theS w) (isType (.ref C)) = some true)
    (p4 : peek (theK w) (theS w) (Builtin.«issubclass.nested» ⟨[.ref C, .ref C, rawInt 0], []⟩) = some (.done (.ret (.bool true))))
    (p5 : peek (theK w) (theS w) (checkBuiltinCall "issubclass" ⟨[.ref C, .ref C], []⟩) = some ())
    (hx : wpAny (theM w) A (eval (.Name x np) env) (fun v s₁ => v = .ref C ∧ s₁ = s) E s)
    (h : ∀ h' e, Heap.MadeExcOf s.heap h' e (.ref C) [] → E (.ref e) { s with heap := h' }) :
    wpAny (theM w) A (exec (.Raise (some (.Name x np)) none pos) env) Q E s := by
  have X := X₀.keeps F.keep
  obtain ⟨tl, N, nm, q, bs, hdct, sn, sub, ab, col, dd, k0, k1, k2, k3, k5, mN, hC, hN, hni, T⟩ := O.obj
  show wpAny (theM w) A (do standAt pos; raiseStmt env (some (do let v ← eval (.Name x np) env; standAt pos; pure v)) none) Q E s
  refine wpAny_bind (wpAny_standAt ?_)
  unfold raiseStmt
  dsimp only
  refine wpAny_bind (wpAny_bind (wpAny_mono hx (fun v s₁ h₁ => wpAny_bind (wpAny_standAt (wpAny_pure ?_))) fun _ _ e => e))
  obtain ⟨rfl, hs₁⟩ := h₁
  subst s₁
  refine wpAny_bind (wpAny_pure ?_)
  dsimp only
  refine wpAny_bind (wpAny_holding ?_)
  unfold excFromValue
  refine wpAny_bind ((Looks.of_peek (M := theM w) X p1).here ?_)
  simp only [if_true]
  obtain ⟨hp, g, d, tk, os⟩ := s
  refine wpAny_bind (wpAny_call_exc_subU (hrest := Nat.zero_le _) Fn hBn FB (T.keeps F.keep) (F.keep _ _ hC) (hN.keeps F.keep) hni fun h' e hm => ?_)
  obtain ⟨te, he, _, _⟩ := hm.there
  have X' : (theK w).In h' := X.keeps hm.keeps
  have hld : Looks (theM w) h' (typeOf (.ref e)) (.ref C) := (Looks.ld (part := none) he).andThen .now
  have hisb : Looks (theM w) h' (isInstance (.ref e) (.type "BaseException")) true := hld.andThen (Looks.of_peek X' p2)
  refine wpAny_bind (hisb.here (s := ⟨h', g, d, tk, os⟩) ?_)
  simp only [Bool.not_true, Bool.false_eq_true, if_false]
  refine wpAny_pure ?_
  refine wpAny_bind (m := isType (.ref C)) ((Looks.of_peek (M := theM w) (h := h') X' p3).here (s := ⟨h', g, d, tk, os⟩) ?_)
  simp only [if_true]
  refine wpAny_bind (wpAny_holding ?_)
  unfold raisedFor
  simp only [Bool.false_eq_true, if_false]
  refine wpAny_bind (m := typeOf (.ref e)) (hld.here (s := ⟨h', g, d, tk, os⟩) ?_)
  refine wpAny_bind (wpAny_call (codeAny_call_builtin PySem.F.plain_issubclass PySem.F.entry_issubclass ((Looks.of_peek (M := theM w) (h := h') X' p5).here (s := ⟨h', g, d, tk, os⟩) ?_)))
  refine issubclass_outer ((Looks.of_peek (M := theM w) (h := h') X' p4).here (s := ⟨h', g, d, tk, os⟩) ?_)
  first | refine wpAny_bind (wpAny_truthy_bool ?_) | refine wpAny_truthy_bool ?_
  simp only [if_true]
  refine wpAny_pure ?_
  unfold setFlight
  refine wpAny_bind (wpAny_bind (wpAny_field (i := 1) (x := Value.none) he rfl rfl ?_))
  rw [if_neg (by decide)]
  refine wpAny_pure ?_
  exact wpAny_raiseNew_none hh (h h' e hm)
theorem own_56 {mg mb : Str → Option Value} {p : Program} {loose : List Str} (X₀ : (Mine.K w.params).In h₀) (T : TopRead p loose mg mb h₀) :
    OwnCls (Str.ofString "PDFEOFError") 56 [.type "EOFError", .type "Exception", .type "BaseException", .type "object"] "Exception.__new__" mg h₀ := by
  have X₁ := X₀; have Z : PySem.Challenge.rw_lc0007_01 = PySem.Challenge.rw_lc0007_01 := rfl; revert Z X₁; k_fill; intro _ X₁; clear X₁
  exact own_of_in X₀ T (by k_is) (by k_exc)
theorem own_75 {mg mb : Str → Option Value} {p : Program} {loose : List Str} (X₀ : (Mine.K w.params).In h₀) (T : TopRead p loose mg mb h₀) :
    OwnCls (Str.ofString "CorruptDataError") 75 [.type "Exception", .type "BaseException", .type "object"] "Exception.__new__" mg h₀ := by
  have X₁ := X₀; have Z : PySem.Challenge.rw_lc0007_01 = PySem.Challenge.rw_lc0007_01 := rfl; revert Z X₁; k_fill; intro _ X₁; clear X₁
  exact own_of_in X₀ T (by k_is) (by k_exc)
end
end Mine
end
section
open PySem PySem.W PyProof.Rows PySem.Calls PyProof.V PySem.Spec
namespace Mine
/-! Bits of a number, most significant first: `bitsAt X T p n` is the n bits behind the first p of the T bits of X. -/
noncomputable def bitsAt (X T p n : Nat) : Nat := X / 2 ^ (T - (p + n)) % 2 ^ n
theorem bitsAt_lt (X T p n : Nat) : bitsAt X T p n < 2 ^ n := Nat.mod_lt _ (Nat.two_pow_pos n)
theorem bitsAt_add {X T p n k : Nat} (h : p + (n + k) ≤ T) : bitsAt X T p (n + k) = bitsAt X T p n * 2 ^ k + bitsAt X T (p + n) k := by
  unfold bitsAt
  have e : T - (p + n) = (T - (p + (n + k))) + k := by omega
  have e2 : T - (p + n + k) = T - (p + (n + k)) := by omega
  rw [e, e2, Nat.pow_add 2 (T - (p + (n + k))) k, ← Nat.div_div_eq_div_mul]
  generalize X / 2 ^ (T - (p + (n + k))) = Y
  rw [Nat.pow_add, Nat.mul_comm (2 ^ n), Nat.mod_mul]
  rw [Nat.mul_comm (2 ^ k)]
  omega
theorem bitsAt_zero (X T p : Nat) : bitsAt X T p 0 = 0 := by unfold bitsAt; simp [Nat.mod_one]
/-- the number that a row of octets tells, big end first -/
noncomputable def bigOf (l : List UInt8) : Nat := l.foldl (fun a c => a * 256 + c.toNat) 0
theorem bigOf_fold (l : List UInt8) : ∀ a, l.foldl (fun a c => a * 256 + c.toNat) a = a * 256 ^ l.length + bigOf l := by
  unfold bigOf
  induction l with
  | nil => intro a; simp
  | cons c l ih =>
    intro a
    rw [List.foldl_cons, List.foldl_cons, ih, ih (0 * 256 + c.toNat), List.length_cons, Nat.pow_succ]
    generalize 256 ^ l.length = z
    generalize List.foldl (fun a c => a * 256 + c.toNat) 0 l = y
    have : (a * 256 + c.toNat) * z = a * (z * 256) + c.toNat * z := by
      rw [Nat.add_mul]; congr 1; rw [Nat.mul_assoc, Nat.mul_comm 256]
    have h2 : (0 * 256 + c.toNat) * z = c.toNat * z := by rw [Nat.zero_mul, Nat.zero_add]
    omega
theorem bigOf_cons (c : UInt8) (l : List UInt8) : bigOf (c :: l) = c.toNat * 256 ^ l.length + bigOf l := by
  show List.foldl _ 0 (c :: l) = _
  rw [List.foldl_cons, bigOf_fold]; simp
theorem bigOf_lt : ∀ l : List UInt8, bigOf l < 256 ^ l.length
  | [] => by decide
  | c :: l => by
    rw [bigOf_cons, List.length_cons, Nat.pow_succ]
    have h1 := bigOf_lt l
    have h2 : c.toNat ≤ 255 := Nat.le_of_lt_succ c.toNat_lt
    have h3 : c.toNat * 256 ^ l.length ≤ 255 * 256 ^ l.length := Nat.mul_le_mul_right _ h2
    omega
theorem bigOf_byte : ∀ (l : List UInt8) (i : Nat), i < l.length → bigOf l / 256 ^ (l.length - 1 - i) % 256 = (l.getD i 0).toNat
  | [], i, h => absurd h (by simp)
  | c :: l, 0, _ => by
    rw [bigOf_cons]
    have e : (c :: l).length - 1 - 0 = l.length := by simp
    rw [e]
    have hp : 0 < 256 ^ l.length := Nat.pow_pos (by decide)
    rw [Nat.add_comm, Nat.add_mul_div_right _ _ hp, Nat.div_eq_of_lt (bigOf_lt l), Nat.zero_add]
    show c.toNat % 256 = c.toNat
    exact Nat.mod_eq_of_lt c.toNat_lt
  | c :: l, i + 1, h => by
    have hl : i < l.length := by simpa using h
    rw [bigOf_cons]
    have e : (c :: l).length - 1 - (i + 1) = l.length - 1 - i := by simp; omega
    rw [e]
    have ih := bigOf_byte l i hl
    show _ = (l.getD i 0).toNat
    rw [← ih]
    have e2 : 256 ^ l.length = 256 * 256 ^ i * 256 ^ (l.length - 1 - i) := by
      rw [← Nat.pow_succ', ← Nat.pow_add]; congr 1; omega
    rw [e2, ← Nat.mul_assoc, Nat.add_comm, Nat.add_mul_div_right _ _ (Nat.pow_pos (by decide))]
    rw [show c.toNat * (256 * 256 ^ i) = 256 * (c.toNat * 256 ^ i) by rw [Nat.mul_left_comm], Nat.add_mul_mod_self_left]
theorem p256_8 (k : Nat) : 256 ^ k = 2 ^ (8 * k) := by rw [Nat.pow_mul]
/-- the low r bits of the octet i -/
theorem bitsAt_low (l : List UInt8) {i r : Nat} (hi : i < l.length) (hr : r ≤ 8) : bitsAt (bigOf l) (8 * l.length) (8 * (i + 1) - r) r = (l.getD i 0).toNat % 2 ^ r := by
  unfold bitsAt
  have e : 8 * l.length - (8 * (i + 1) - r + r) = 8 * (l.length - 1 - i) := by omega
  rw [e, ← bigOf_byte l i hi, ← p256_8]
  have : (256 : Nat) = 2 ^ r * 2 ^ (8 - r) := by rw [← Nat.pow_add, show r + (8 - r) = 8 by omega]
  conv => rhs; rw [this]
  rw [← this, show bigOf l / 256 ^ (l.length - 1 - i) % 256 % 2 ^ r = bigOf l / 256 ^ (l.length - 1 - i) % 2 ^ r from Nat.mod_mod_of_dvd _ ⟨2 ^ (8 - r), this⟩]
/-- the high r bits of the octet i -/
theorem bitsAt_high (l : List UInt8) {i r : Nat} (hi : i < l.length) (hr : r ≤ 8) : bitsAt (bigOf l) (8 * l.length) (8 * i) r = (l.getD i 0).toNat / 2 ^ (8 - r) := by
  unfold bitsAt
  have e : 8 * l.length - (8 * i + r) = 8 * (l.length - 1 - i) + (8 - r) := by omega
  rw [e, ← bigOf_byte l i hi, Nat.pow_add, ← p256_8, ← Nat.div_div_eq_div_mul]
  generalize bigOf l / 256 ^ (l.length - 1 - i) = Y
  have : (256 : Nat) = 2 ^ (8 - r) * 2 ^ r := by rw [← Nat.pow_add, show 8 - r + r = 8 by omega]
  rw [this, Nat.mod_mul_right_div_self]
end Mine
end
section
open PySem PySem.W PyProof.Rows PySem.Calls PyProof.V PySem.Spec
namespace Mine
theorem and_shift (V x k : Nat) (h : x < 2 ^ k) : (V * 2 ^ k) &&& x = 0 := by
  have e : x = (2 ^ k - 1) &&& x := by rw [Nat.and_comm, Nat.and_two_pow_sub_one_eq_mod, Nat.mod_eq_of_lt h]
  rw [e, ← Nat.and_assoc, Nat.and_two_pow_sub_one_eq_mod, Nat.mul_mod_left, Nat.zero_and]
theorem or_low {V x : Int} {k : Nat} (hV : 0 ≤ V) (hx : 0 ≤ x) (hlt : x < 2 ^ k) : Builtin.bitOr (V * 2 ^ k) x = V * 2 ^ k + x := by
  obtain ⟨W, rfl⟩ := Int.eq_ofNat_of_zero_le hV
  obtain ⟨Y, rfl⟩ := Int.eq_ofNat_of_zero_le hx
  have hl : Y < 2 ^ k := by rw [← kbt_cast] at hlt; exact_mod_cast hlt
  have e : ((W : Int) * 2 ^ k) = ((W * 2 ^ k : Nat) : Int) := by push_cast; rfl
  rw [bitOr_and, e, bitAnd_pp (by omega) (by omega)]
  simp only [Int.toNat_natCast, and_shift W Y k hl]
  omega
/-- one octet's high bits behind the bits that are read already -/
theorem rb_high {l : List UInt8} {i p n : Nat} {V : Int} {k : Int} (hi : i < l.length) (h0 : 0 ≤ k) (h8 : k ≤ 8) (hp : p + n = 8 * i) (hV : V = (bitsAt (bigOf l) (8 * l.length) p n : Nat)) :
    Builtin.bitOr (V * 2 ^ k.toNat) (Builtin.bitAnd (((l.getD i 0).toNat : Int).fdiv (2 ^ (8 - 0 - k).toNat)) (1 * 2 ^ k.toNat - 1)) = (bitsAt (bigOf l) (8 * l.length) p (n + k.toNat) : Nat) := by
  obtain ⟨K, rfl⟩ := Int.eq_ofNat_of_zero_le h0
  have hK : K ≤ 8 := by omega
  have e1 : (8 - 0 - (K : Int)).toNat = 8 - K := by omega
  rw [Int.toNat_natCast, e1]
  have hc := (l.getD i 0).toNat_lt
  have e2 : (((l.getD i 0).toNat : Nat) : Int).fdiv (2 ^ (8 - K)) = (((l.getD i 0).toNat / 2 ^ (8 - K) : Nat) : Int) := by
    rw [Int.fdiv_eq_ediv_of_nonneg _ (Int.le_of_lt (kbt_pos _)), ← kbt_cast, Int.natCast_ediv]
  have hb := bitsAt_high l hi hK
  have hlt : (l.getD i 0).toNat / 2 ^ (8 - K) < 2 ^ K := by rw [← hb]; exact bitsAt_lt _ _ _ _
  rw [e2, Int.one_mul, kbt_mask, ← kbt_cast, ← Int.natCast_emod, Nat.mod_eq_of_lt hlt]
  rw [show ((2 ^ K : Nat) : Int) = (2 : Int) ^ K from kbt_cast K]
  rw [or_low (by rw [hV]; omega) (by omega) (by rw [← kbt_cast]; exact_mod_cast hlt), hV, bitsAt_add (by omega), hp, hb]
  push_cast
  rfl
/-- one octet's low bits behind the bits that are read already -/
theorem rb_low {l : List UInt8} {i p n : Nat} {V buff : Int} {r : Int} (hi : i < l.length) (h0 : 0 ≤ r) (h8 : r ≤ 8) (hp : ((p + n : Nat) : Int) + r = 8 * (i + 1 : Nat)) (hV : V = (bitsAt (bigOf l) (8 * l.length) p n : Nat)) (hb : buff = ((l.getD i 0).toNat : Nat)) :
    Builtin.bitOr (V * 2 ^ r.toNat) (Builtin.bitAnd buff (1 * 2 ^ r.toNat - 1)) = (bitsAt (bigOf l) (8 * l.length) p (n + r.toNat) : Nat) := by
  obtain ⟨K, rfl⟩ := Int.eq_ofNat_of_zero_le h0
  have hK : K ≤ 8 := by omega
  rw [Int.toNat_natCast]
  have e := bitsAt_low l hi hK
  have e3 : 8 * (i + 1) - K = p + n := by omega
  rw [e3] at e
  have hlt : (l.getD i 0).toNat % 2 ^ K < 2 ^ K := Nat.mod_lt _ (Nat.two_pow_pos K)
  rw [hb, Int.one_mul, kbt_mask, ← kbt_cast, ← Int.natCast_emod]
  rw [show ((2 ^ K : Nat) : Int) = (2 : Int) ^ K from kbt_cast K]
  rw [or_low (by rw [hV]; omega) (by omega) (by rw [← kbt_cast]; exact_mod_cast hlt), hV, bitsAt_add (by omega), e]
  push_cast
  rfl
/-- where the reader stands: behind p bits -/
noncomputable def RdInv (l : List UInt8) (q : Nat) (buff bpos : Int) (p : Nat) : Prop :=
  (p : Int) + 8 = 8 * q + bpos ∧ q ≤ l.length ∧ 0 ≤ bpos ∧ bpos ≤ 8 ∧ 0 ≤ buff ∧ buff ≤ 255 ∧ (q = 0 → bpos = 8) ∧ (0 < q → buff = ((l.getD (q - 1) 0).toNat : Nat))
theorem byte_le (c : UInt8) : (c.toNat : Int) ≤ 255 := by have := c.toNat_lt; omega
theorem sh1_eq {l : List UInt8} {q p : Nat} {buff bpos : Int} (I : RdInv l q buff bpos p) :
    Builtin.bitOr (0 * 2 ^ (8 - bpos).toNat) (Builtin.bitAnd buff (1 * 2 ^ (8 - bpos).toNat - 1)) = (bitsAt (bigOf l) (8 * l.length) p (8 - bpos).toNat : Nat) := by
  obtain ⟨hp, hq, b0, b8, u0, u8, z0, z1⟩ := I
  by_cases h : q = 0
  · have := z0 h
    subst this
    have e : (8 - 8 : Int).toNat = 0 := rfl
    rw [e, bitsAt_zero, Int.one_mul, kbt_mask]
    simp [bitOr_and, Int.emod_one]
    decide
  · have hq' : 0 < q := Nat.pos_of_ne_zero h
    have h2 := rb_low (l := l) (i := q - 1) (p := p) (n := 0) (V := 0) (buff := buff) (r := 8 - bpos) (by omega) (by omega) (by omega) (by omega) (by rw [bitsAt_zero]; rfl) (z1 hq')
    rw [Nat.zero_add] at h2
    exact h2
theorem rb_two {l : List UInt8} {q p : Nat} {buff bpos n : Int} (I : RdInv l q buff bpos p) (hq : q < l.length) (h1 : 8 - bpos < n) (h2 : n - (8 - bpos) ≤ 8) :
    Builtin.bitOr (Builtin.bitOr (0 * 2 ^ (8 - bpos).toNat) (Builtin.bitAnd buff (1 * 2 ^ (8 - bpos).toNat - 1)) * 2 ^ (n - (8 - bpos)).toNat)
      (Builtin.bitAnd (((l.getD q 0).toNat : Int).fdiv (2 ^ (8 - 0 - (n - (8 - bpos))).toNat)) (1 * 2 ^ (n - (8 - bpos)).toNat - 1)) = (bitsAt (bigOf l) (8 * l.length) p n.toNat : Nat)
    ∧ RdInv l (q + 1) ((l.getD q 0).toNat : Int) (0 + (n - (8 - bpos))) (p + n.toNat) := by
  have e := sh1_eq I
  obtain ⟨hp, hq', b0, b8, u0, u8, z0, z1⟩ := I
  refine ⟨?_, by omega, by omega, by omega, by omega, by omega, byte_le _, by omega, fun _ => by simp⟩
  have h := rb_high (l := l) (i := q) (p := p) (n := (8 - bpos).toNat) (k := n - (8 - bpos)) hq (by omega) h2 (by omega) e
  rw [h]
  congr 2
  omega
theorem rb_three {l : List UInt8} {q p : Nat} {buff bpos n : Int} (I : RdInv l q buff bpos p) (hq : q + 1 < l.length) (h1 : 8 < n - (8 - bpos)) (h2 : n ≤ 10) :
    Builtin.bitOr (Builtin.bitOr (Builtin.bitOr (0 * 2 ^ (8 - bpos).toNat) (Builtin.bitAnd buff (1 * 2 ^ (8 - bpos).toNat - 1)) * 2 ^ (8 - 0 : Int).toNat)
        (Builtin.bitAnd ((l.getD q 0).toNat : Int) (1 * 2 ^ (8 - 0 : Int).toNat - 1)) * 2 ^ (n - (8 - bpos) - (8 - 0)).toNat)
      (Builtin.bitAnd (((l.getD (q + 1) 0).toNat : Int).fdiv (2 ^ (8 - 0 - (n - (8 - bpos) - (8 - 0))).toNat)) (1 * 2 ^ (n - (8 - bpos) - (8 - 0)).toNat - 1)) = (bitsAt (bigOf l) (8 * l.length) p n.toNat : Nat)
    ∧ RdInv l (q + 1 + 1) ((l.getD (q + 1) 0).toNat : Int) (0 + (n - (8 - bpos) - (8 - 0))) (p + n.toNat) := by
  have e := sh1_eq I
  obtain ⟨hp, hq', b0, b8, u0, u8, z0, z1⟩ := I
  refine ⟨?_, by omega, by omega, by omega, by omega, by omega, byte_le _, by omega, fun _ => by simp⟩
  have e2 := rb_low (l := l) (i := q) (p := p) (n := (8 - bpos).toNat) (r := 8 - 0) (buff := ((l.getD q 0).toNat : Int)) (by omega) (by omega) (by omega) (by omega) e rfl
  have h := rb_high (l := l) (i := q + 1) (p := p) (n := (8 - bpos).toNat + (8 - 0 : Int).toNat) (k := n - (8 - bpos) - (8 - 0)) hq (by omega) (by omega) (by omega) e2
  rw [h]
  congr 2
  omega
end Mine
end
section
open PySem PySem.W PyProof.Rows PySem.Calls PyProof.V PySem.Spec
open Sem (wp)
set_option maxRecDepth 100000
set_option maxHeartbeats 8000000
namespace Mine
namespace BT
theorem no_b : typeLookup (.type "tuple") "__bytes__" = pure none := by rw [typeLookup_type, builtinLookup_eq_fast]; kernel_rfl
theorem no_i : typeLookup (.type "tuple") "__index__" = pure none := by rw [typeLookup_type, builtinLookup_eq_fast]; kernel_rfl
theorem no_u : typeLookup (.type "tuple") "__buffer__" = pure none := by rw [typeLookup_type, builtinLookup_eq_fast]; kernel_rfl
theorem split : splitId "tuple.__len__" = some ("tuple", "__len__") := by decide +kernel
theorem sub : isSubtype (.type "tuple") (.type "tuple") = pure true := by rw [isSubtype_type]; kernel_rfl
end BT
section
variable {prog : Program} {w : World} {A : Around} {E : Value → Shared → Prop} {s : Shared}
/-- one turn of the making of bytes: an item -/
theorem bt_loop1 {R : Result → Shared → Prop} {l I S : Addr} {n : Int} {tn : Tok} (hh : A.handled = none) (h0 : 0 ≤ n) (h1 : n < 256) (hIS : I ≠ S) (hlI : l ≠ I) (hlS : l ≠ S)
    (hl : s.heap.IsTuple l #[.int n tn]) (hit : s.heap.IsTupleIter I l 0) (hS : s.heap.get? S = some (baObj #[]))
    (hR : ∀ h' t k', (∀ b o, b ≠ I → b ≠ S → s.heap.get? b = some o → h'.get? b = some o) → R (.ok (.ret (.bytes #[n.toNat.toUInt8] t))) { s with heap := h', toks := k' }) :
    codeAny (model prog w) A (.builtin "bytes.__new__.loop" ⟨[.type "bytes", .ref I, .ref S], []⟩) R s := by
  refine codeAny_builtin F.bm_entry_loop ?_
  rw [Around.under_plainId F.bm_plain_loop _]
  show wpAny _ A.in1 (pyNext (.ref I) >>= _) _ _ s
  refine wpAny_bind (wpAny_pyNext_tuple_item (x := .int n tn) hit hl rfl fun h' hit' hs => ?_)
  have hS' : h'.get? S = some (baObj #[]) := (hs.2 S (Ne.symm hIS)).trans hS
  refine wpAny_bind (wpAny_holding (wpAny_of_eq (rfl : asIndex (.int n tn) = pure n) ?_))
  refine wpAny_bind (wpAny_letGo ?_)
  refine bm_if_false (by simp only [Bool.or_eq_false_iff, decide_eq_false_iff_not]; omega) ?_
  refine wpAny_bind (write_ba (s := { s with heap := h' }) hS' (b := #[n.toNat.toUInt8]) rfl (by show 1 ≤ _; decide) fun hS₂ => ?_)
  refine wpAny_pure ⟨plainId_quiet F.bm_plain_loop _, ?_⟩
  have hl₂ : (h'.update S (Obj.mapBytearray (·.push n.toNat.toUInt8))).IsTuple l #[.int n tn] := (hl.extBut hs.extBut hlI).extBut (Heap.SameBut.update ..).extBut hlS
  have hit₂ : (h'.update S (Obj.mapBytearray (·.push n.toNat.toUInt8))).IsTupleIter I l 1 := hit'.extBut (Heap.SameBut.update ..).extBut hIS
  refine codeAny_builtin F.bm_entry_loop ?_
  rw [Around.under_plainId F.bm_plain_loop _]
  show wpAny _ A.in1 (pyNext (.ref I) >>= _) _ _ _
  refine wpAny_bind (wpAny_pyNext_tuple_end hh hit₂ hl₂ rfl fun h'' he => ?_)
  have hS'' : h''.get? S = some (baObj #[n.toNat.toUInt8]) := he S _ (Ne.symm hIS) hS₂
  refine wpAny_bind (payload_ba hS'' ?_)
  refine wpAny_bind (wpAny_mkBytes ?_ (by show 1 ≤ _; decide))
  show wpAny _ _ (if (Value.type "bytes" == Value.type "bytes") = true then _ else _) _ _ _
  refine bm_if_true (by decide) ?_
  have fin : ∀ t k', R (.ok (.ret (.bytes #[n.toNat.toUInt8] t))) { s with heap := h'', toks := k' } := fun t k' =>
    hR h'' t k' fun b o hI hS e => he b o hI ((Heap.get?_update_other _ _ (Ne.symm hS)).trans (hs.extBut b o hI e))
  first
    | exact wpAny_pure (fin _ _)
    | exact wpAny_bind (wpAny_pure (wpAny_pure (fin _ _)))
theorem bt_new {l : Addr} {n : Int} {tn : Tok} {Q : Value → Shared → Prop} (hh : A.handled = none) (hl : s.heap.IsTuple l #[.int n tn]) (h0 : 0 ≤ n) (h1 : n < 256)
    (hQ : ∀ h' t k, (∀ b o, s.heap.get? b = some o → h'.get? b = some o) → Q (.bytes #[n.toNat.toUInt8] t) { s with heap := h', toks := k }) :
    codeAny (model prog w) A (.call (.builtin "bytes.__new__") ⟨[.type "bytes", .ref l], []⟩) (wants Q E) s := by
  refine codeAny_of_tree ?_
  show wpAny _ A.in1 (do checkBuiltinCall "bytes.__new__" ⟨[.type "bytes", .ref l], []⟩; again (.builtin "bytes.__new__" ⟨[.type "bytes", .ref l], []⟩)) _ _ s
  refine wpAny_bind (wpAny_of_eq (F.bm_newCall _) (wpAny_pure ⟨plainId_quiet F.bm_plain _, codeAny_builtin F.bm_entry ?_⟩))
  rw [Around.under_plainId F.bm_plain _]
  have hT : s.TypeIs (.ref l) "tuple" := hl.typeIs
  obtain ⟨ol, hol, hoc, nl, hod⟩ := id hl
  unfold Builtin.«bytes.__new__»
  refine wpAny_bind (wpAny_of_eq (a := true) rfl ?_)
  refine bm_if_false rfl ?_
  refine wpAny_bind (wpAny_of_eq F.bm_sub ?_)
  refine bm_if_false rfl ?_
  refine wpAny_bind (wpAny_of_eq (F.bm_bind _) ?_)
  refine wpAny_bind (wpAny_of_eq (a := ()) rfl ?_)
  refine wpAny_bind (wpAny_of_eq (a := ()) rfl ?_)
  refine bm_if_false rfl ?_
  refine wpAny_bind (wpAny_specialOf hT BT.no_b ?_)
  refine wpAny_bind (wpAny_bind ?_)
  show wpAny _ _ (load l >>= _) _ _ _
  refine wpAny_bind (wpAny_load hol ?_)
  rw [hod]
  refine wpAny_pure (wpAny_pure ?_)
  refine bm_if_false rfl ?_
  refine wpAny_bind (wpAny_specialOf hT BT.no_i ?_)
  refine bm_if_true rfl ?_
  refine wpAny_bind ?_
  unfold Builtin.Bytes.buffer?
  refine wpAny_bind (wpAny_specialOf hT BT.no_u ?_)
  refine wpAny_bind (wpAny_specialOf hT BT.no_u ?_)
  refine wpAny_pure ?_
  refine wpAny_bind (wpAny_tryCatch (wpAny_pyIter_tuple hl ?_))
  have up1 : ∀ b o, s.heap.get? b = some o → (s.heap.push { cls := .type "tuple_iterator", data := .fields #[.ref l, .int 0 0] }).get? b = some o := fun b o e => Heap.get?_push_of_some _ e
  have hl₁ : (s.heap.push { cls := .type "tuple_iterator", data := .fields #[.ref l, .int 0 0] }).IsTuple l #[.int n tn] := ⟨ol, up1 _ _ hol, hoc, nl, hod⟩
  have hT₁ : ({ s with heap := s.heap.push { cls := .type "tuple_iterator", data := .fields #[.ref l, .int 0 0] } } : Shared).TypeIs (.ref l) "tuple" := ⟨ol, up1 _ _ hol, hoc⟩
  refine wpAny_bind (wpAny_holding ?_)
  unfold Builtin.Bytes.lengthHint
  refine wpAny_bind (wpAny_specialOf hT₁ slot_tuple_len.lookup ?_)
  dsimp only
  rw [BT.split]
  dsimp only
  refine wpAny_bind (wpAny_isInstance hT₁ BT.sub ?_)
  refine bm_if_false rfl ?_
  refine bm_if_true (by decide +kernel) ?_
  refine wpAny_pure ?_
  refine wpAny_bind ?_
  unfold Builtin.Bytes.newBytearray
  refine wpAny_newObj_type ?_ (Nat.zero_le _)
  have hI : ((s.heap.push { cls := .type "tuple_iterator", data := .fields #[.ref l, .int 0 0] }).push (baObj #[])).IsTupleIter s.heap.objs.size l 0 :=
    ⟨_, Heap.get?_push_of_some _ (Heap.get?_push_size _ rfl), rfl, rfl⟩
  have hlt : l < s.heap.objs.size := Heap.lt_size hol
  have hsz : (s.heap.push { cls := .type "tuple_iterator", data := .fields #[.ref l, .int 0 0] }).objs.size = s.heap.objs.size + 1 := Heap.size_push _ _
  have hl₂ : ((s.heap.push { cls := .type "tuple_iterator", data := .fields #[.ref l, .int 0 0] }).push (baObj #[])).IsTuple l #[.int n tn] := ⟨ol, Heap.get?_push_of_some _ (up1 _ _ hol), hoc, nl, hod⟩
  have main := bt_loop1 (prog := prog) (w := w) (A := A) (R := wants Q E) (l := l) (I := s.heap.objs.size) (S := (s.heap.push { cls := .type "tuple_iterator", data := .fields #[.ref l, .int 0 0] }).objs.size)
    (s := { s with heap := (s.heap.push { cls := .type "tuple_iterator", data := .fields #[.ref l, .int 0 0] }).push (baObj #[]) }) hh h0 h1
    (by rw [hsz]; exact Nat.ne_of_lt (Nat.lt_succ_self _)) (Nat.ne_of_lt hlt) (by rw [hsz]; exact Nat.ne_of_lt (Nat.lt_succ_of_lt hlt)) hl₂ hI (Heap.get?_push_size _ rfl)
    fun h' t k hk => hQ h' t k fun b o e => hk b o (Nat.ne_of_lt (Heap.lt_size e)) (by rw [hsz]; exact Nat.ne_of_lt (Nat.lt_succ_of_lt (Heap.lt_size e))) (Heap.get?_push_of_some _ (up1 _ _ e))
  first
    | exact wpAny_pure ⟨plainId_quiet F.bm_plain_loop _, main⟩
    | exact wpAny_pure (wpAny_pure ⟨plainId_quiet F.bm_plain_loop _, main⟩)
theorem call_bytes_tup {l : Addr} {n : Int} {tn : Tok} {Q : Value → Shared → Prop} (hh : A.handled = none) (hl : s.heap.IsTuple l #[.int n tn]) (h0 : 0 ≤ n) (h1 : n < 256)
    (hQ : ∀ h' t k, (∀ b o, s.heap.get? b = some o → h'.get? b = some o) → Q (.bytes #[n.toNat.toUInt8] t) { s with heap := h', toks := k }) : wpAny (model prog w) A (call (.type "bytes") [.ref l]) Q E s := by
  refine callType_codes (Q₁ := fun obj s₁ => s₁.TypeIs obj "bytes" ∧ Q obj s₁) F.bm_called (F.bm_typeCall _) F.entry_object_init
    (bt_new hh hl h0 h1 fun h' t k hk => ⟨PySem.W.typeIs_bytes _ _ _, hQ h' t k hk⟩) fun obj s₁ h₁ => ?_
  exact ⟨h₁.1, F.args_object_init_2 obj _, object_init_meets F.bm_called.init.lookup F.bm_called.made (by decide) prog w A.in1 _ s₁ ⟨h₁.1, rfl, h₁.2⟩⟩
end
end Mine
end
section
open PySem PySem.W PyProof.Rows.LCg PyProof.Rows PySem.Calls PyProof.V PySem.Spec
set_option maxRecDepth 100000
set_option maxHeartbeats 8000000
namespace Mine

section
variable {prog : Program} {w : World} {A : Around} {s : Shared} {h₀ : Heap} {L : Addr} {m : Str → Option Value} {env : Env}
/-- what one turn of the block gives: the octet, as bytes -/
noncomputable def BEnd (h₀ : Heap) (L : Addr) (m : Str → Option Value) (s₁ : Shared) (l : List (Addr × Obj)) (i : Nat) (y : Value) (s₂ : Shared) : Prop :=
  (∃ t, y = .bytes #[i.toUInt8] t) ∧ ∃ h' tk, s₂ = { s₁ with heap := h', toks := tk } ∧ Fr h₀ L h' m ∧ News h₀ L h' l
noncomputable def Octets (ys : List Value) : Prop := ∀ i, i < ys.length → ∃ t, ys[i]? = some (.bytes #[i.toUInt8] t)
theorem comp_all {elt : Expr} {x : Str} {scope : Scope} {cl : List (Str × Addr)} {Fin : List Value → List (Addr × Obj) → Prop} {news : List (Addr × Obj)}
    (turn : ∀ (i : Nat) t I oI C oC D m₂ h tk (E' : Value → Shared → Prop) ys, i < 256 → NsObj oC m₂ → m₂ x = some (.int (0 + (i : Int)) t) → Fr h₀ L h m → News h₀ L h ((I, oI) :: (C, oC) :: (D, lst ys) :: news) → Off3 I C D news → ((@Ne Nat I C) ∧ (@Ne Nat I D) ∧ (@Ne Nat C D)) →
      wpAny (model prog w) A (eval elt (compEnvC scope cl C env)) (BEnd h₀ L m { s with heap := h, toks := tk } ((I, oI) :: (C, oC) :: (D, lst ys) :: news) i) E' { s with heap := h, toks := tk })
    (fin : ∀ ys, ys.length = 256 → Octets ys → Fin ys news) :
    CompRest prog w A h₀ L m env elt x scope cl s (fun _ => True) (fun i v => ∃ t, v = .int (0 + (i : Int)) t) Fin 256 0 [] news := by
  have key : ∀ k i ys, k + i = 256 → ys.length = i → Octets ys → CompRest prog w A h₀ L m env elt x scope cl s (fun _ => True) (fun i v => ∃ t, v = .int (0 + (i : Int)) t) Fin k i ys news := by
    intro k
    induction k with
    | zero =>
      intro i ys hk hl ho
      exact CompRest.zero (fin ys (by omega) ho)
    | succ k ih =>
      intro i ys hk hl ho
      refine CompRest.succ fun v I oI C oC D m₂ h tk E' hv hC hx F N off ne => ?_
      obtain ⟨t, rfl⟩ := hv
      refine wpAny_mono (turn i t I oI C oC D m₂ h tk E' ys (by omega) hC hx F N off ne) (fun y s₂ hy => ?_) fun _ _ e => e
      obtain ⟨⟨t', rfl⟩, h', tk', rfl, F', N'⟩ := hy
      refine ⟨h', tk', news, rfl, F', N', off, trivial, ih (i + 1) _ (by omega) (by simp [hl]) ?_⟩
      intro j hj
      rw [List.length_append, List.length_singleton] at hj
      by_cases hji : j < ys.length
      · obtain ⟨t2, e⟩ := ho j hji
        exact ⟨t2, by rw [List.getElem?_append_left hji]; exact e⟩
      · have : j = i := by omega
        subst this
        refine ⟨t', ?_⟩
        rw [List.getElem?_append_right (by omega), hl]
        simp
  exact key 256 0 [] rfl rfl (fun i hi => absurd hi (by simp))
end
end Mine
end
section
open PySem PySem.W PyProof.Rows PySem.Calls PyProof.V PySem.Spec
open Sem (wp)
set_option maxRecDepth 100000
set_option maxHeartbeats 8000000
namespace Mine
/-! list(a generator), the generator's own objects known by its state alone. -/
structure GenIt (prog : Program) (w : World) (A : Around) (I S : Addr) (n : Nat) (P : Nat → Value → Prop) (St : Nat → Shared → Prop) (Fi : Shared → Prop) : Prop where
  isGen : ∀ i s, St i s → ∃ g, s.heap.IsGen I g
  ne : S ≠ I
  frame : ∀ i (s : Shared) h', St i s → (∀ b o, b ≠ S → s.heap.get? b = some o → h'.get? b = some o) → (∃ o, h'.get? S = some o) → St i { s with heap := h' }
  item : ∀ i (s : Shared) Q E, i < n → St i s → (∀ v (s' : Shared), P i v → St (i + 1) s' → (∀ o, s.heap.get? S = some o → s'.heap.get? S = some o) → Q (some v) s') → wpAny (model prog w) A (pyNext (.ref I)) Q E s
  done : ∀ (s : Shared) Q E, St n s → (∀ s' : Shared, Fi s' → (∀ o, s.heap.get? S = some o → s'.heap.get? S = some o) → Q none s') → wpAny (model prog w) A (pyNext (.ref I)) Q E s

section
variable {prog : Program} {w : World} {A : Around} {R : Result → Shared → Prop} {I S : Addr} {n : Nat} {P : Nat → Value → Prop} {St : Nat → Shared → Prop} {Fi : Shared → Prop}
theorem gi_loop (W : GenIt prog w A.in1 I S n P St Fi) (hn : n ≤ sizeLine) (res : Value) :
    ∀ (k i : Nat) (s : Shared) (acc : Array Value) (c : Nat), n - i = k → i ≤ n → St i s → s.heap.get? S = some { cls := .type "list", dict := none, data := .seq acc c, slots := #[] } → ItemsOf P acc i →
    (∀ s' acc' c', Fi s' → s'.heap.get? S = some { cls := .type "list", dict := none, data := .seq acc' c', slots := #[] } → ItemsOf P acc' n → R (.ok (.ret res)) s') →
    codeAny (model prog w) A (.builtin "list.extend.loop" ⟨[.ref S, .ref I, res], []⟩) R s := by
  intro k
  induction k with
  | zero =>
    intro i s acc c hk hi hst hS hacc hR
    have hin : i = n := by omega
    subst hin
    refine codeAny_builtin F.entry_extend_loop ?_
    rw [Around.under_plainId F.plain_extend_loop _]
    show wpAny _ A.in1 (pyNext (.ref I) >>= _) _ _ s
    refine wpAny_bind (W.done s _ _ hst fun s' hf hk => ?_)
    exact wpAny_pure (hR s' acc c hf (hk _ hS) hacc)
  | succ k ih =>
    intro i s acc c hk hi hst hS hacc hR
    have hlt : i < n := by omega
    refine codeAny_builtin F.entry_extend_loop ?_
    rw [Around.under_plainId F.plain_extend_loop _]
    show wpAny _ A.in1 (pyNext (.ref I) >>= _) _ _ s
    refine wpAny_bind (W.item i s _ _ hlt hst fun v s' hP hst' hk' => ?_)
    have hS' := hk' _ hS
    show wpAny _ A.in1 (updateSeq S (·.push v) >>= _) _ _ _
    refine wpAny_bind ?_
    refine wpAny_updateSeq hS' rfl (wpAny_pure ⟨plainId_quiet F.plain_extend_loop _, ih (i + 1) _ (acc.push v) _ (by omega) hlt
      (W.frame _ s' _ hst' (fun b o hb e => (Heap.get?_update_other _ _ (Ne.symm hb)).trans e) ⟨_, Heap.get?_update_self _ hS' rfl⟩) (Heap.get?_update_self _ hS' rfl) (hacc.push hP) hR⟩)
      (by rw [hacc.1]; omega) (by show (acc.push v).size ≤ sizeLine + 1; rw [Array.size_push, hacc.1]; omega)

theorem gi_extend (W : GenIt prog w A.in1 I S n P St Fi) {s : Shared} (res : Value) (c₀ : Nat) (hst : St 0 s)
    (hS : s.heap.get? S = some { cls := .type "list", data := .seq #[] c₀ })
    (hR : ∀ s' acc' c', Fi s' → s'.heap.get? S = some { cls := .type "list", dict := none, data := .seq acc' c', slots := #[] } → ItemsOf P acc' n → R (.ok (.ret res)) s') (hn : n ≤ sizeLine) :
    wpAny (model prog w) A.in1 (Builtin.List.listExtendWith (.ref S) (.ref I) res)
      (fun fin s' => match fin with | .done f => R (.ok f) s' | .again c' => c'.quiet = true ∧ codeAny (model prog w) A c' R s') (fun e s' => R (.error e) s') s := by
  have hT : ∀ i (s : Shared), St i s → s.TypeIs (.ref I) "generator" := fun i s h => let ⟨g, hg⟩ := W.isGen i s h; hg.typeIs
  unfold Builtin.List.listExtendWith
  refine wpAny_bind (wpAny_typeOf (hT 0 _ hst) ?_)
  have h1 : Builtin.List.listSameRef (.ref S) (.ref I) = false := by simp [Builtin.List.listSameRef, W.ne]
  have h2 : (Value.type "generator" == Value.type "list") = false := by decide
  have h3 : (Value.type "generator" == Value.type "tuple") = false := by decide
  simp only [h1, h2, h3, Bool.or_false, Bool.false_eq_true, if_false]
  obtain ⟨g, hg⟩ := W.isGen 0 s hst
  refine wpAny_bind (wpAny_pyIter_gen hg ?_)
  refine wpAny_bind (wpAny_holding ?_)
  unfold Builtin.List.listLengthHint
  refine wpAny_bind (wpAny_specialOf (hT 0 _ hst) F.gen_no_len ?_)
  show wpAny _ A.in1 (specialOf (Value.ref I) (Str.ofString "__length_hint__") >>= _) _ _ _
  refine wpAny_bind (wpAny_specialOf (hT 0 _ hst) F.gen_no_hint ?_)
  refine wpAny_pure ?_
  show wpAny _ A.in1 (rule "list.extend.makes-room" >>= fun _ => Builtin.List.listTouch (.ref S) >>= fun _ =>
    again (.builtin "list.extend.loop" ⟨[.ref S, .ref I, res], []⟩)) _ _ _
  refine wpAny_bind (wpAny_rule ?_)
  refine wpAny_bind ?_
  show wpAny _ A.in1 (updateSeq S (·.push .none) >>= fun _ => updateSeq S (·.pop)) _ _ _
  refine wpAny_bind (wpAny_updateSeq hS rfl ?_)
  have hS₂ := Heap.get?_update_self (Obj.mapSeq (·.push Value.none)) hS rfl
  refine wpAny_updateSeq (hz := by seq_fits) hS₂ rfl ?_
  have hS₃ := Heap.get?_update_self (Obj.mapSeq (·.pop)) hS₂ rfl
  have oth : ∀ b o, b ≠ S → s.heap.get? b = some o → ((s.heap.update S (Obj.mapSeq (·.push Value.none))).update S (Obj.mapSeq (·.pop))).get? b = some o :=
    fun b o hb e => (Heap.get?_update_other _ _ (Ne.symm hb)).trans ((Heap.get?_update_other _ _ (Ne.symm hb)).trans e)
  exact wpAny_pure ⟨plainId_quiet F.plain_extend_loop _, gi_loop W hn _ n 0 _ _ _ rfl (Nat.zero_le _) (W.frame 0 s _ hst oth ⟨_, hS₃⟩) hS₃ (ItemsOf.nil P) hR⟩

theorem gi_init (W : GenIt prog w A.in1 I S n P St Fi) {s : Shared} (hst : St 0 s)
    (hS : s.heap.get? S = some { cls := .type "list", data := .seq #[] })
    (hR : ∀ s' acc' c', Fi s' → s'.heap.get? S = some { cls := .type "list", dict := none, data := .seq acc' c', slots := #[] } → ItemsOf P acc' n → R (.ok (.ret .none)) s') (hn : n ≤ sizeLine) :
    wpAny (model prog w) A.in1 (Builtin.«list.__init__» ⟨[.ref S, .ref I], []⟩)
      (fun fin s' => match fin with | .done f => R (.ok f) s' | .again c' => c'.quiet = true ∧ codeAny (model prog w) A c' R s') (fun e s' => R (.error e) s') s := by
  show wpAny _ A.in1 (do let old ← Builtin.List.listItems (.ref S); Builtin.List.listUpdate (.ref S) (fun _ => #[]); letGo old.toList.reverse; Builtin.List.listExtendWith (.ref S) (.ref I) .none) _ _ s
  refine wpAny_bind ?_
  unfold Builtin.List.listItems
  refine wpAny_bind (wpAny_seqItems hS rfl (wpAny_pure ?_))
  show wpAny _ A.in1 (updateSeq S (fun _ => #[]) >>= fun _ => letGo (#[] : Array Value).toList.reverse >>= fun _ => Builtin.List.listExtendWith (.ref S) (.ref I) .none) _ _ s
  refine wpAny_bind (wpAny_updateSeq hS rfl ?_)
  have hS₂ := Heap.get?_update_self (Obj.mapSeq (fun _ => (#[] : Array Value))) hS rfl
  have oth : ∀ b o, b ≠ S → s.heap.get? b = some o → (s.heap.update S (Obj.mapSeq (fun _ => (#[] : Array Value)))).get? b = some o :=
    fun b o hb e => (Heap.get?_update_other _ _ (Ne.symm hb)).trans e
  refine wpAny_bind (wpAny_letGo ?_)
  exact gi_extend W .none _ (W.frame 0 s _ hst oth ⟨_, hS₂⟩) hS₂ hR hn
end
section
variable {prog : Program} {w : World} {A : Around} {E : Value → Shared → Prop} {s : Shared} {I : Addr} {n : Nat} {P : Nat → Value → Prop} {St : Nat → Shared → Prop} {Fi : Shared → Prop}
theorem gi_list {Q : Value → Shared → Prop} (W : GenIt prog w A.in1.in1 I s.heap.objs.size n P St Fi) (hst : St 0 { s with heap := s.heap.push { cls := .type "list", data := .seq #[] } })
    (hQ : ∀ s' acc' c', Fi s' → s'.heap.get? s.heap.objs.size = some { cls := .type "list", dict := none, data := .seq acc' c', slots := #[] } → ItemsOf P acc' n → Q (.ref s.heap.objs.size) s') (hn : n ≤ sizeLine) :
    wpAny (model prog w) A (call (.type "list") [.ref I]) Q E s := by
  refine callType_codes (Q₁ := fun obj s₁ => obj = .ref s.heap.objs.size ∧ s₁ = { s with heap := s.heap.push { cls := .type "list", data := .seq #[] } }) F.called_list (F.typeCall_list_1 _) F.entry_list_init
    (code_list_new _ ⟨rfl, rfl⟩) fun obj s₁ h₁ => ?_
  obtain ⟨rfl, rfl⟩ := h₁
  have hS : (s.heap.push { cls := .type "list", data := .seq #[] }).get? s.heap.objs.size = some { cls := .type "list", data := .seq #[] } := Heap.get?_push_size _ rfl
  exact ⟨⟨_, hS, rfl⟩, F.args_list_init_2 _ _, gi_init W hst hS (fun s' acc' c' hf hS' hacc => ⟨rfl, hQ s' acc' c' hf hS' hacc⟩) hn⟩
end
end Mine
end
section
open PySem PySem.W PyProof.Rows PySem.Calls PyProof.V PySem.Spec
open Sem (wp)
set_option maxRecDepth 100000
set_option maxHeartbeats 8000000
namespace Mine
namespace BJ
theorem slot : Slot "bytes" "join" "bytes.join" :=
  .of (owner := "bytes") (n := "join") (by rw [typeLookup_type, builtinLookup_eq_fast]; kernel_rfl) (by decide +kernel) (by decide +kernel) (by decide +kernel)
    (by first | exact .inl (by decide +kernel) | exact .inr (by decide +kernel)) (by rw [isSubtype_type]; kernel_rfl)
theorem entry : entryFor table "bytes.join" = some Builtin.«bytes.join» := by first | exact entryFor_of_tree (by kernel_rfl) | exact entryFor_of_fast (by kernel_rfl)
theorem args (a b : Value) : argsOk "bytes.join" ⟨[a, b], []⟩ := by unfold argsOk; kernel_rfl
theorem selfOne (a b : Value) : PySem.selfAndOne "bytes.join" ⟨[a, b], []⟩ = pure (a, b) := by kernel_rfl
theorem take (b : Array UInt8) (t : Tok) : Builtin.Bytes.takeBufferQuiet? "bytes.join" (.bytes b t) 0 = pure (some (b, none)) := by kernel_rfl
theorem type_eq : typeOf (.builtin "bytes.join") = pure (.type "method_descriptor") := by show builtinType _ = _; rw [builtinType_eq_fast]; kernel_rfl
end BJ
section
variable {prog : Program} {w : World} {A : Around} {E : Value → Shared → Prop} {s : Shared} {I : Addr} {n : Nat} {P : Nat → Value → Prop} {St : Nat → Shared → Prop} {Fi : Shared → Prop}
theorem gi_items {Q : Value → Shared → Prop} {g : Nat} (W : GenIt prog w A.in1.in1 I s.heap.objs.size n P St Fi) (hg : s.heap.IsGen I g) (hst : St 0 { s with heap := s.heap.push { cls := .type "list", data := .seq #[] } })
    (hQ : ∀ s' acc' c', Fi s' → s'.heap.get? s.heap.objs.size = some { cls := .type "list", dict := none, data := .seq acc' c', slots := #[] } → ItemsOf P acc' n → Q (.ref s.heap.objs.size) s') (hn : n ≤ sizeLine) :
    wpAny (model prog w) A (Builtin.Bytes.joinItems (.ref I)) Q E s := by
  unfold Builtin.Bytes.joinItems
  refine wpAny_bind (wpAny_typeOf hg.typeIs ?_)
  refine bm_if_false (by decide) ?_
  refine wpAny_bind (wpAny_tryCatch (wpAny_pyIter_gen hg ?_))
  exact gi_list W hst hQ hn
noncomputable def OkP (p : Value × Option Value) : Prop := p.2 = none ∧ p.1.onHeap = false
theorem okP_any {taken : List (Value × Option Value)} (h : ∀ p ∈ taken, OkP p) : (taken.any fun x => x.1.onHeap) = false := by
  rw [List.any_eq_false]
  intro p hp
  rw [(h p hp).2]
  decide
theorem j_letgo {M : Model} {keep : List Value} {Q : Unit → Shared → Prop} : ∀ (taken : List (Value × Option Value)), (∀ p ∈ taken, OkP p) → Q () s → wpAny M A (Builtin.Bytes.joinLetGo taken keep) Q E s
  | [], _, h => by unfold Builtin.Bytes.joinLetGo; exact wpAny_pure h
  | (x, w) :: rest, ht, h => by
    have hw : w = none := (ht _ List.mem_cons_self).1
    subst hw
    unfold Builtin.Bytes.joinLetGo
    refine wpAny_bind (wpAny_letGo ?_)
    exact j_letgo rest (fun p hp => ht p (List.mem_cons_of_mem _ hp)) h
theorem j_loop {M : Model} {f : Nat → Array (Array UInt8) × List (Value × Option Value) → Sem (ForInStep (Array (Array UInt8) × List (Value × Option Value)))} {outs : List (Array UInt8)} {Q : Array (Array UInt8) × List (Value × Option Value) → Shared → Prop}
    (hf : ∀ i x parts taken (Q' : ForInStep (Array (Array UInt8) × List (Value × Option Value)) → Shared → Prop), outs[i]? = some x → (∀ p ∈ taken, OkP p) → (∀ v, OkP (v, none) → Q' (.yield ⟨parts.push x, taken ++ [(v, none)]⟩) s) → wpAny M A (f i ⟨parts, taken⟩) Q' E s)
    (hQ : ∀ taken, (∀ p ∈ taken, OkP p) → Q ⟨outs.toArray, taken⟩ s) :
    ∀ m i taken, i + m = outs.length → (∀ p ∈ taken, OkP p) → wpAny M A (forIn (List.range' i m) ((outs.take i).toArray, taken) f) Q E s := by
  intro m
  induction m with
  | zero =>
    intro i taken hi ht
    rw [List.range'_zero, List.forIn_nil, List.take_of_length_le (by omega)]
    exact wpAny_pure (hQ taken ht)
  | succ m ih =>
    intro i taken hi ht
    have hlt : i < outs.length := by omega
    rw [List.range'_succ, List.forIn_cons]
    refine wpAny_bind (hf i outs[i] _ taken _ (List.getElem?_eq_getElem hlt) ht fun v hv => ?_)
    have e : (outs.take i).toArray.push outs[i] = (outs.take (i + 1)).toArray := by
      rw [List.push_toArray, List.take_add_one, List.getElem?_eq_getElem hlt]; rfl
    dsimp only
    rw [e]
    refine ih (i + 1) _ (by omega) fun p hp => ?_
    rcases List.mem_append.mp hp with hp | hp
    · exact ht p hp
    · rw [List.mem_singleton.mp hp]; exact hv
theorem joined_nil (l : List (Array UInt8)) : Builtin.Bytes.joined #[] l = l.foldl (· ++ ·) #[] := by
  unfold Builtin.Bytes.joined
  have key : ∀ (l : List (Array UInt8)) (k : Nat) (a : Array UInt8), (l.zipIdx k).foldl (fun out (x : Array UInt8 × Nat) => (if x.2 > 0 then out ++ #[] else out) ++ x.1) a = l.foldl (· ++ ·) a := by
    intro l
    induction l with
    | nil => intro k a; rfl
    | cons x l ih =>
      intro k a
      rw [List.zipIdx_cons, List.foldl_cons, List.foldl_cons, ih]
      congr 1
      split <;> simp
  exact key l 0 #[]
theorem sizes_nil (l : List (Array UInt8)) (k : Nat) : (l.toArray.foldl (fun a x => a + x.size) (0 * k)) = (l.foldl (· ++ ·) #[]).size := by
  rw [Nat.zero_mul]
  have key : ∀ (l : List (Array UInt8)) (a : Array UInt8), l.foldl (fun a x => a + x.size) a.size = (l.foldl (· ++ ·) a).size := by
    intro l
    induction l with
    | nil => intro a; rfl
    | cons x l ih =>
      intro a
      rw [List.foldl_cons, List.foldl_cons, ← ih, Array.size_append]
  rw [List.foldl_toArray']
  exact key l #[]
  rfl
theorem join_gen {Q : Value → Shared → Prop} {g : Nat} {t : Tok} {outs : List (Array UInt8)} (W : GenIt prog w A.in1.in1.in1 I s.heap.objs.size outs.length (fun i v => ∃ x t, outs[i]? = some x ∧ v = .bytes x t) St Fi) (hg : s.heap.IsGen I g)
    (hst : St 0 { s with heap := s.heap.push { cls := .type "list", data := .seq #[] } })
    (hQ : ∀ (s' : Shared) t k, Fi s' → Q (.bytes (outs.foldl (· ++ ·) #[]) t) { s' with toks := k }) (hn : outs.length ≤ sizeLine) (hz : (outs.foldl (· ++ ·) #[]).size ≤ 16777216) :
    wpAny (model prog w) A (call (.builtin "bytes.join") [.bytes #[] t, .ref I]) Q E s := by
  refine wpAny_call (codeAny_call_builtin BJ.slot.plain BJ.entry (BJ.slot.check _ _ _ _ _ _ _ _ (PySem.W.typeIs_bytes _ _ _) (BJ.args _ _) ?_))
  show wpAny _ _ (Builtin.Bytes.joinM .bytes _) _ _ _
  unfold Builtin.Bytes.joinM
  show wpAny _ _ (PySem.selfAndOne "bytes.join" _ >>= _) _ _ _
  refine wpAny_bind (wpAny_of_eq (BJ.selfOne _ _) ?_)
  dsimp only
  refine bm_if_true (by decide) ?_
  refine wpAny_bind (gi_items W hg hst (fun s' acc c hf hS hI => ?_) hn)
  refine wpAny_bind (wpAny_seqItems hS rfl ?_)
  dsimp only
  refine bm_if_true (by decide) ?_
  obtain ⟨l⟩ := acc
  have hl : l.length = outs.length := hI.1
  have hat : ∀ i x, outs[i]? = some x → ∃ t, l[i]? = some (Value.bytes x t) := fun i x hx => by
    have hi : i < l.length := by rw [hl]; exact (List.getElem?_eq_some_iff.mp hx).1
    obtain ⟨x', t', h1, h2⟩ := hI.2 i l[i] (by simp [hi])
    rw [hx] at h1
    cases h1
    exact ⟨t', by rw [List.getElem?_eq_getElem hi, h2]⟩
  match l, hl, hat, hS with
  | [v], hl, hat, hS =>
    obtain ⟨x, hx⟩ : ∃ x, outs = [x] := List.length_eq_one_iff.mp hl.symm
    obtain ⟨t', e⟩ := hat 0 x (by rw [hx]; rfl)
    have ev : v = .bytes x t' := by simpa using e
    subst ev
    refine wpAny_bind (wpAny_typeOf (PySem.W.typeIs_bytes _ _ _) ?_)
    refine bm_if_true (by decide) ?_
    refine wpAny_bind (wpAny_rule ?_)
    have h9 := hQ s' t' s'.toks hf
    rw [hx] at h9
    have ex : List.foldl (fun x1 x2 => x1 ++ x2) #[] [x] = x := by simp
    rw [ex] at h9
    exact wpAny_pure h9
  | [], hl, hat, hS =>
    refine wpAny_bind ?_
    rw [Std.Legacy.Range.forIn_eq_forIn_range']
    refine j_loop (s := s') (outs := outs) (fun i x parts taken Q' hx ht hq => ?_) (fun taken ht => ?_) _ 0 [] ?_ (fun p hp => nomatch hp)
    · obtain ⟨t', e⟩ := hat i x hx
      have ed : (List.toArray ([] : List Value)).getD i Value.none = .bytes x t' := by
        rw [Array.getD_eq_getD_getElem?]; simp only [List.getElem?_toArray, e, Option.getD_some]
      refine wpAny_bind (wpAny_seqItems hS rfl ?_)
      dsimp only
      rw [ed]
      refine bm_if_false (by rw [okP_any ht]; rfl) ?_
      refine wpAny_bind (wpAny_holding (wpAny_of_eq (BJ.take x t') ?_))
      dsimp only
      refine wpAny_bind (wpAny_seqItems hS rfl ?_)
      dsimp only
      refine bm_if_false (by simp) ?_
      exact wpAny_pure (hq _ ⟨rfl, rfl⟩)
    · refine wpAny_bind (wpAny_of_eq (a := #[]) rfl ?_)
      dsimp only
      refine bm_if_false (by
        have e1 := sizes_nil outs (outs.toArray.size - 1)
        show Builtin.Bytes.tooLong (Array.foldl (fun x1 x2 => x1 + x2.size) (0 * (outs.toArray.size - 1)) outs.toArray) = false
        rw [e1]; exact KBy.tooLong_not hz) ?_
      refine wpAny_bind (wpAny_mkBytes ?_ (by rw [joined_nil, sizeLine_eq]; exact hz))
      refine wpAny_bind (wpAny_holding (wpAny_point ?_))
      refine wpAny_bind (j_letgo taken ht ?_)
      rw [joined_nil]
      exact wpAny_pure (hQ s' _ _ hf)
    · rw [← hl]
      simp [Std.Legacy.Range.size]
  | a :: b :: r, hl, hat, hS =>
    refine wpAny_bind ?_
    rw [Std.Legacy.Range.forIn_eq_forIn_range']
    refine j_loop (s := s') (outs := outs) (fun i x parts taken Q' hx ht hq => ?_) (fun taken ht => ?_) _ 0 [] ?_ (fun p hp => nomatch hp)
    · obtain ⟨t', e⟩ := hat i x hx
      have ed : (List.toArray (a :: b :: r)).getD i Value.none = .bytes x t' := by
        rw [Array.getD_eq_getD_getElem?]; simp only [List.getElem?_toArray, e, Option.getD_some]
      refine wpAny_bind (wpAny_seqItems hS rfl ?_)
      dsimp only
      rw [ed]
      refine bm_if_false (by rw [okP_any ht]; rfl) ?_
      refine wpAny_bind (wpAny_holding (wpAny_of_eq (BJ.take x t') ?_))
      dsimp only
      refine wpAny_bind (wpAny_seqItems hS rfl ?_)
      dsimp only
      refine bm_if_false (by simp) ?_
      exact wpAny_pure (hq _ ⟨rfl, rfl⟩)
    · refine wpAny_bind (wpAny_of_eq (a := #[]) rfl ?_)
      dsimp only
      refine bm_if_false (by
        have e1 := sizes_nil outs (outs.toArray.size - 1)
        show Builtin.Bytes.tooLong (Array.foldl (fun x1 x2 => x1 + x2.size) (0 * (outs.toArray.size - 1)) outs.toArray) = false
        rw [e1]; exact KBy.tooLong_not hz) ?_
      refine wpAny_bind (wpAny_mkBytes ?_ (by rw [joined_nil, sizeLine_eq]; exact hz))
      refine wpAny_bind (wpAny_holding (wpAny_point ?_))
      refine wpAny_bind (j_letgo taken ht ?_)
      rw [joined_nil]
      exact wpAny_pure (hQ s' _ _ hf)
    · rw [← hl]
      simp [Std.Legacy.Range.size]
theorem join_method {M : Model} {b : Array UInt8} {t : Tok} {pl : Sem Bool} {Q : Value × List Value → Shared → Prop} (h : Q (.builtin "bytes.join", [.bytes b t]) s) : wpAny M A (getMethod (.bytes b t) "join" pl) Q E s := by
  with_reducible exact KBd.method_of (.bytes b t) (PySem.W.typeIs_bytes _ _ _) BJ.slot BJ.type_eq KBd.noRef h
end
end Mine
end
section
open PySem PySem.W PyProof.Rows PySem.Calls
open Sem (wp)
set_option maxRecDepth 100000
set_option maxHeartbeats 8000000
namespace Mine
/-- a heap's part below an address -/
noncomputable def cutAt (h : Heap) (k : Nat) : Heap := ⟨h.objs.extract 0 k, h.life⟩
theorem cutAt_size (h : Heap) (k : Nat) : (cutAt h k).objs.size ≤ k := by
  show (h.objs.extract 0 k).size ≤ k
  simp only [Array.size_extract]
  omega
theorem cutAt_get {h : Heap} {k b : Nat} (hb : b < k) : (cutAt h k).get? b = h.get? b := by
  unfold Heap.get? cutAt
  rw [Array.getElem?_extract]
  by_cases h1 : b < min k h.objs.size - 0
  · rw [if_pos h1, Nat.zero_add]
  · rw [if_neg h1]
    have : h.objs.size ≤ b := by omega
    rw [Array.getElem?_eq_none this]
theorem cutAt_none {h : Heap} {k b : Nat} (hb : k ≤ b) : (cutAt h k).get? b = none := by
  cases e : (cutAt h k).get? b with
  | none => rfl
  | some o => exact absurd (Nat.lt_of_lt_of_le (Heap.lt_size e) (cutAt_size h k)) (Nat.not_lt.mpr hb)
theorem of_cutAt {h : Heap} {k b : Nat} {o : Obj} (e : (cutAt h k).get? b = some o) : h.get? b = some o := by
  by_cases hb : b < k
  · rwa [cutAt_get hb] at e
  · rw [cutAt_none (Nat.not_lt.mp hb)] at e; cases e
section
variable {prog : Program} {w : World} {A : Around} {s : Shared} {h₀ : Heap} {L : Addr} {m : Str → Option Value} {news : List (Addr × Obj)} {K : Frag} {p : Program} {loose : List Str} {mean : ExcName → Option Value} {mg mb : Str → Option Value}
  {name qual : Str} {params : Arguments} {body : List Stmt} {scope : Scope} {dV kV doc pm cdv ct oc : Value} {an od : Option Addr} {osl : Array (Option Value)} {f : Addr} {args : List Value} {binds : List (Str × Value)} {Q E : Value → Shared → Prop}
/-- the call of a generator function: nothing of it runs; its frame and the generator's object are new -/
theorem call_gen (F : Fr h₀ L s.heap m) (X₀ : K.In h₀) (N : News h₀ L s.heap news) (T : Top p loose mean mg mb h₀)
    (ho : K.lookup f = some ⟨oc, od, .func (fnOf name qual params body scope dV kV doc pm an cdv ct), osl⟩) (hcd : codeIn K cdv qual = true) (hroom : A.depth < recursionLimit)
    (hbind : BindsTo s (fnOf name qual params body scope dV kV doc pm an cdv ct) ⟨args, []⟩ binds) (hloc : ∀ y ∈ binds, scope.names.lookup y.1 = some .local)
    (h : ∀ Lg I oL oI h' tk, LCg.NsObj oL (fun y => binds.reverse.lookup y) → (∀ u : Heap, u.get? I = some oI → u.IsGen I s.gens.size) → Fr h₀ L h' m → News h₀ L h' ((I, oI) :: (Lg, oL) :: news) → (∀ q ∈ news, q.1 < Lg) → L < Lg → Lg < I →
      Q (.ref I) { s with heap := h', gens := s.gens.push (.fresh (.func body (envOf qual scope Lg f cdv))), toks := tk })
    (hco : scope.isCoroutine = false) (hgen : scope.isGenerator = true) (hk : scope.kind = .function)
    (hcell : ∀ x ∈ scope.names, x.2 ≠ .cell) : wpAny (model prog w) A (call (.ref f) args) Q E s := by
  have hcr := codeRec_of (X₀.keeps F.keep) hcd
  refine wpAny_call (codeAny_call_generator hroom ((X₀.keeps F.keep) _ _ ho) rfl hco hgen rfl hcr ?_)
  refine hbind _ _ _ _ ?_
  refine wpAny_newFunctionEnv hcell hloc (fun h₁ hns hsb => ?_) hk
  have hk₁ : ∀ b o, s.heap.get? b = some o → h₁.get? b = some o := fun b o e => hsb.extBut b o (Nat.ne_of_lt (Heap.lt_size e)) (Heap.get?_push_of_some _ e)
  refine ⟨(T.nolimit.keeps F.keep).keeps hk₁, ?_⟩
  obtain ⟨oL, hoL, hNL⟩ := LCg.ns_obj hns
  have hlt : s.heap.objs.size < h₁.objs.size := Heap.lt_size hoL
  have hLs : L < s.heap.objs.size := F.ns.lt
  have hnone : ∀ k, s.heap.objs.size ≤ k → h₀.get? k = none := fun k hk => by
    cases e : h₀.get? k with
    | none => rfl
    | some o => exact absurd (Nat.lt_of_lt_of_le (Heap.lt_size e) (Nat.le_trans F.above (Nat.le_trans (Nat.le_of_lt hLs) hk))) (Nat.lt_irrefl _)
  refine h s.heap.objs.size h₁.objs.size oL { cls := .type "generator", data := .fields #[.int s.gens.size 0, .str name (s.toks + binds.length), .str qual (s.toks + binds.length + 1)] } _ _ hNL (fun u hu => ⟨_, _, _, hu, rfl, rfl, rfl⟩) (F.keeps fun b o e => Heap.get?_push_of_some _ (hk₁ b o e)) ?_ (fun q hq => Heap.lt_size (N q hq).1) hLs hlt
  intro q hq
  rcases List.mem_cons.mp hq with rfl | hq
  · exact ⟨Heap.get?_push_size _ rfl, Nat.ne_of_gt (Nat.lt_trans hLs hlt), hnone _ (Nat.le_of_lt hlt)⟩
  rcases List.mem_cons.mp hq with rfl | hq
  · exact ⟨Heap.get?_push_of_some _ hoL, Nat.ne_of_gt hLs, hnone _ (Nat.le_refl _)⟩
  · exact ⟨Heap.get?_push_of_some _ (hk₁ _ _ (N q hq).1), (N q hq).2⟩
end
end Mine
end
section
open PySem PySem.W PyProof.Rows PySem.Calls
open Sem (wp)
set_option maxRecDepth 100000
set_option maxHeartbeats 8000000
set_option linter.unusedVariables false
namespace Mine
/-! A generator `while 1: st1; st2; yield ey`, its own things known by an abstract state. -/
inductive Outs {σT : Type} (next : σT → Option (Array UInt8 × σT)) : σT → List (Array UInt8) → Prop
  | stop {σ} : next σ = none → Outs next σ []
  | step {σ x σ' l} : next σ = some (x, σ') → Outs next σ' l → Outs next σ (x :: l)

noncomputable def KeptSI (gt : Heap) (S I : Addr) (oI oS : Obj) (s s' : Shared) : Prop :=
  ∃ h tk, s' = { s with heap := h, toks := tk } ∧ h.get? S = some oS ∧ h.get? I = some oI ∧ ∀ b o, gt.get? b = some o → h.get? b = some o

/-- the same behind a caught exception: frames below may bear other slots -/
noncomputable def KeptE (fsl : List Addr) (gt : Heap) (S I : Addr) (oI oS : Obj) (s s' : Shared) : Prop :=
  ∃ h tk g', s' = { s with heap := h, toks := tk } ∧ KtsTurn fsl gt g' ∧ h.get? S = some oS ∧ h.get? I = some oI ∧ ∀ b o, g'.get? b = some o → h.get? b = some o

section
variable {prog : Program} {w : World} {gt : Heap} {S I : Addr} {oI : Obj} {fsl : List Addr} {σT : Type} {next : σT → Option (Array UInt8 × σT)} {D : σT → Obj → Heap → Prop} {outs : List (Array UInt8)}

noncomputable def protoG (gt : Heap) (S I : Addr) (oI : Obj) (outs : List (Array UInt8)) : Protocol := fun m s₀ v s kap =>
  (∃ x t, outs[outs.length - 1 - m]? = some x ∧ v = .bytes x t) ∧ (∀ oS, s₀.heap.get? S = some oS → KeptSI gt S I oI oS s₀ s) ∧
    ∀ s'' : Shared, (∀ b o, b ≠ S → s.heap.get? b = some o → s''.heap.get? b = some o) → (∃ oS, s''.heap.get? S = some oS) → kap (.send .none) s''
noncomputable def endG (fsl : List Addr) (gt : Heap) (S I : Addr) (oI : Obj) : GenEnd := fun n s₀ r s₁ => r = .ok (.ret .none) ∧ (n = 0 ∧ ∀ oS, s₀.heap.get? S = some oS → KeptE fsl gt S I oI oS s₀ s₁)

/-- what the two statements and the yielded expression do, by the abstract state -/
noncomputable def TurnG (prog : Program) (w : World) (A1 : Around) (env : Env) (fsl : List Addr) (gt : Heap) (S I : Addr) (oI : Obj) {σT : Type} (next : σT → Option (Array UInt8 × σT)) (D : σT → Obj → Heap → Prop) (st1 st2 : Stmt) (ey : Expr) : Prop :=
  ∀ σ oS s, D σ oS s.heap → wpAny (model prog w) A1 (exec st1 env) (fun f s1 => match f with
    | .brk => next σ = none ∧ KeptE fsl gt S I oI oS s s1
    | .next => wpAny (model prog w) A1 (exec st2 env) (fun f s2 => match f with
      | .brk => next σ = none ∧ KeptE fsl gt S I oI oS s s2
      | .next => (next σ).isSome = true ∧ wpAny (model prog w) A1 (eval ey env) (fun v s3 => ∃ x σ' t, next σ = some (x, σ') ∧ v = .bytes x t ∧ KeptSI gt S I oI oS s s3 ∧ D σ' oS s3.heap) (fun _ _ => False) s2
      | _ => False) (fun _ _ => False) s1
    | _ => False) (fun _ _ => False) s

theorem kept_trans {oS : Obj} {s s1 s2 : Shared} (a : KeptSI gt S I oI oS s s1) (b : KeptSI gt S I oI oS s1 s2) : KeptSI gt S I oI oS s s2 := by
  obtain ⟨h1, t1, rfl, _⟩ := a
  obtain ⟨h2, t2, rfl, r⟩ := b
  exact ⟨h2, t2, rfl, r⟩

theorem kept_transE {oS : Obj} {s s1 s2 : Shared} (a : KeptSI gt S I oI oS s s1) (b : KeptE fsl gt S I oI oS s1 s2) : KeptE fsl gt S I oI oS s s2 := by
  obtain ⟨h1, t1, rfl, _⟩ := a
  obtain ⟨h2, t2, g2, rfl, r⟩ := b
  exact ⟨h2, t2, g2, rfl, r⟩

theorem seg_turns {A A1 : Around} {env : Env} {test : Expr} {st1 st2 : Stmt} {ey : Expr} {yp ep : Pos} {fs : List Frame}
    (hover : A.over (.whileLoop test [st1, st2, .Expr (.Yield (some ey) yp) ep] [] env) fs = A1)
    (Ht : ∀ s E, wpAny (model prog w) A1 (isTrue test env (eval test env)) (fun b s' => b = true ∧ ∃ tk, s' = { s with toks := tk }) E s)
    (H : TurnG prog w A1 env fsl gt S I oI next D st1 st2 ey) (hco : env.scope.isCoroutine = false) (hi : interactive env = false)
    (hfs : splitAtGen fs = none) (hfg : fs.any Frame.guarded = false)
    (Hmove : ∀ σ oS h oS' h', D σ oS h → (∀ b o, b ≠ S → h.get? b = some o → h'.get? b = some o) → h'.get? S = some oS' → D σ oS' h')
    (hIS : I ≠ S) (hgS : gt.get? S = none)
    (Hend : ∀ s₀ s1, (∀ oS, s₀.heap.get? S = some oS → KeptE fsl gt S I oI oS s₀ s1) → Seg (model prog w) A (endG fsl gt S I oI) (protoG gt S I oI outs) 0 s₀ (.whileLoop test [st1, st2, .Expr (.Yield (some ey) yp) ep] [] env) (.pure (.done .next)) fs s1) :
    ∀ l σ, Outs next σ l → ∀ pre, outs = pre ++ l → ∀ s₀ s oS, s₀.heap.get? S = some oS → KeptSI gt S I oI oS s₀ s → D σ oS s.heap →
      Seg (model prog w) A (endG fsl gt S I oI) (protoG gt S I oI outs) l.length s₀ (.whileLoop test [st1, st2, .Expr (.Yield (some ey) yp) ep] [] env)
        ((model prog w).den (.whileLoop test [st1, st2, .Expr (.Yield (some ey) yp) ep] [] env)) fs s := by
  intro l
  induction l with
  | nil =>
    intro σ ho pre hpre s₀ s oS hS hk hD
    have hn : next σ = none := by cases ho; assumption
    refine seg_whileLoop ?_
    rw [hover]
    refine wpAny_mono (Ht s _) (fun b s' hb => ?_) (fun _ _ e => e)
    obtain ⟨rfl, tk, rfl⟩ := hb
    rw [if_pos rfl]
    have hk' : KeptSI gt S I oI oS s₀ { s with toks := tk } := by
      obtain ⟨h1, t1, rfl, r⟩ := hk
      exact ⟨h1, tk, rfl, r⟩
    refine seg_execs_cons (seg_wrap ?_)
    rw [hover]
    refine wpAny_mono (H σ oS { s with toks := tk } hD) (fun f s1 h1 => ?_) (fun _ _ e => e.elim)
    cases f with
    | brk => exact Hend s₀ s1 fun oS' e => by rw [hS] at e; cases e; exact kept_transE hk' h1.2
    | next =>
      refine seg_execs_cons (seg_wrap ?_)
      rw [hover]
      refine wpAny_mono h1 (fun f s2 h2 => ?_) (fun _ _ e => e.elim)
      cases f with
      | brk => exact Hend s₀ s2 fun oS' e => by rw [hS] at e; cases e; exact kept_transE hk' h2.2
      | next =>
        have := h2.1
        rw [hn] at this
        cases this
      | _ => exact h2.elim
    | _ => exact h1.elim
  | cons x l ih =>
    intro σ ho pre hpre s₀ s oS hS hk hD
    obtain ⟨σ', hn, ho'⟩ : ∃ σ', next σ = some (x, σ') ∧ Outs next σ' l := by cases ho with | step a b => exact ⟨_, a, b⟩
    refine seg_whileLoop ?_
    rw [hover]
    refine wpAny_mono (Ht s _) (fun b s' hb => ?_) (fun _ _ e => e)
    obtain ⟨rfl, tk, rfl⟩ := hb
    rw [if_pos rfl]
    have hk' : KeptSI gt S I oI oS s₀ { s with toks := tk } := by
      obtain ⟨h1, t1, rfl, r⟩ := hk
      exact ⟨h1, tk, rfl, r⟩
    refine seg_execs_cons (seg_wrap ?_)
    rw [hover]
    refine wpAny_mono (H σ oS { s with toks := tk } hD) (fun f s1 h1 => ?_) (fun _ _ e => e.elim)
    cases f with
    | brk => have := h1.1; rw [hn] at this; cases this
    | next =>
      refine seg_execs_cons (seg_wrap ?_)
      rw [hover]
      refine wpAny_mono h1 (fun f s2 h2 => ?_) (fun _ _ e => e.elim)
      cases f with
      | brk => have := h2.1; rw [hn] at this; cases this
      | next =>
        refine seg_execs_cons (seg_Expr_Yield hfs rfl hfg ?_ hco hi)
        rw [hover]
        refine wpAny_mono h2.2 (fun v s3 h3 => ?_) (fun _ _ e => e.elim)
        intro kap hkap
        obtain ⟨x', σ'', t, hn', rfl, hk3, hD3⟩ := h3
        rw [hn] at hn'
        cases hn'
        have hK3 : KeptSI gt S I oI oS s₀ s3 := kept_trans hk' hk3
        refine ⟨⟨x, t, ?_, rfl⟩, fun oS' e => by rw [hS] at e; cases e; exact hK3, fun s'' hmv hS'' => ?_⟩
        · rw [hpre]
          have : (pre ++ x :: l).length - 1 - l.length = pre.length := by simp
          rw [this, List.getElem?_append_right (Nat.le_refl _), Nat.sub_self]
          rfl
        · obtain ⟨oS', hS'⟩ := hS''
          refine hkap _ _ ?_
          show Seg (model prog w) A (endG fsl gt S I oI) (protoG gt S I oI outs) l.length s'' _ _ fs s''
          refine seg_execs_nil ?_
          refine seg_again rfl ?_
          refine ih σ' ho' (pre ++ [x]) (by rw [hpre]; simp) s'' s'' oS' hS' ⟨s''.heap, s''.toks, rfl, hS', ?_, ?_⟩ (Hmove _ _ _ _ _ hD3 hmv hS')
          · obtain ⟨h9, t9, rfl, r1, r2, r3⟩ := hK3
            exact hmv _ _ hIS r2
          · obtain ⟨h9, t9, rfl, r1, r2, r3⟩ := hK3
            exact fun b o e => hmv b o (fun q => by rw [q, hgS] at e; cases e) (r3 b o e)
      | _ => exact h2.elim
    | _ => exact h1.elim
theorem goes_fresh {A A1 : Around} {env : Env} {test : Expr} {st1 st2 : Stmt} {ey : Expr} {yp ep wp : Pos} {s : Shared} {σ : σT} {oS : Obj}
    (hover : ∀ k p, A.over (.whileLoop test [st1, st2, .Expr (.Yield (some ey) yp) ep] [] env) [.ret k none false [] (.func [.While test [st1, st2, .Expr (.Yield (some ey) yp) ep] [] wp] env) p []] = A1)
    (Ht : ∀ s E, wpAny (model prog w) A1 (isTrue test env (eval test env)) (fun b s' => b = true ∧ ∃ tk, s' = { s with toks := tk }) E s)
    (H : TurnG prog w A1 env fsl gt S I oI next D st1 st2 ey) (hco : env.scope.isCoroutine = false) (hi : interactive env = false)
    (Hmove : ∀ σ oS h oS' h', D σ oS h → (∀ b o, b ≠ S → h.get? b = some o → h'.get? b = some o) → h'.get? S = some oS' → D σ oS' h')
    (hIS : I ≠ S) (hgS : gt.get? S = none) (ho : Outs next σ outs) (hS : s.heap.get? S = some oS) (hk : KeptSI gt S I oI oS s s) (hD : D σ oS s.heap) :
    (GenState.fresh (.func [.While test [st1, st2, .Expr (.Yield (some ey) yp) ep] [] wp] env)).Goes (model prog w) A (endG fsl gt S I oI) (protoG gt S I oI outs) outs.length (.send .none) s := by
  refine ⟨rfl, seg_func (seg_execs_cons (seg_While fun p => ?_))⟩
  refine seg_turns (hover _ p) Ht H hco hi rfl rfl Hmove hIS hgS (fun s₀ s1 hk => ?_) outs σ ho [] rfl s s oS hS hk hD
  refine seg_leaf (.ok .next) ?_
  exact seg_end (.ok (.ret .none)) ⟨rfl, rfl, hk⟩
/-- the state of the list's maker before the i-th item -/
noncomputable def StG (prog : Program) (w : World) (A : Around) (fsl : List Addr) (gt : Heap) (S I : Addr) (oI : Obj) (outs : List (Array UInt8)) (gn : Nat) (sj : Shared) (i : Nat) (s : Shared) : Prop :=
  ∃ gs oS, s = { sj with heap := s.heap, toks := s.toks, gens := s.gens } ∧ s.gens.setIfInBounds gn .finished = sj.gens.setIfInBounds gn .finished ∧ s.gens[gn]? = some gs ∧ s.heap.get? S = some oS ∧ s.heap.get? I = some oI ∧ (∀ b o, gt.get? b = some o → s.heap.get? b = some o) ∧
    ∀ h', (∀ b o, b ≠ S → s.heap.get? b = some o → h'.get? b = some o) → (∃ oS', h'.get? S = some oS') →
      gs.Goes (model prog w) A.in1 (endG fsl gt S I oI) (protoG gt S I oI outs) (outs.length - i) (.send .none) ({ s with heap := h' }.setGen gn .running)
noncomputable def FiG (fsl : List Addr) (gt : Heap) (S I : Addr) (oI : Obj) (gn : Nat) (sj : Shared) (s : Shared) : Prop :=
  s = { sj with heap := s.heap, toks := s.toks, gens := sj.gens.setIfInBounds gn .finished } ∧ ∃ g', KtsTurn fsl gt g' ∧ ∀ b o, g'.get? b = some o → s.heap.get? b = some o

theorem genIt {A : Around} {gn : Nat} {sj : Shared} (hh : A.handled = none) (hroom : A.depth < recursionLimit) (hl : gt.NoLimit) (hG : ∀ u : Heap, u.get? I = some oI → u.IsGen I gn) (hIS : I ≠ S) (hgS : gt.get? S = none) :
    GenIt prog w A I S outs.length (fun i v => ∃ x t, outs[i]? = some x ∧ v = .bytes x t) (StG prog w A fsl gt S I oI outs gn sj) (FiG fsl gt S I oI gn sj) where
  isGen := fun i s ⟨gs, oS, _, _, _, _, hI, _⟩ => ⟨gn, hG _ hI⟩
  ne := Ne.symm hIS
  frame := by
    rintro i s h' ⟨gs, oS, e1, e2, e3, e4, e5, e6, e7⟩ hk ⟨o, ho⟩
    refine ⟨gs, o, ?_, e2, e3, ho, hk _ _ hIS e5, fun b o e => hk b o (fun q => by rw [q, hgS] at e; cases e) (e6 b o e), fun h'' hk' hS' => ?_⟩
    · rw [e1]
    · exact e7 h'' (fun b o hb e => hk' b o hb (hk b o hb e)) hS'
  item := by
    rintro i s Q E hi ⟨gs, oS, e1, e2, e3, e4, e5, e6, e7⟩ hQ
    have hgo := e7 s.heap (fun _ _ _ e => e) ⟨oS, e4⟩
    have hn : outs.length - i = (outs.length - (i + 1)) + 1 := by omega
    rw [hn] at hgo
    have hlt : gn < s.gens.size := by
      rcases Nat.lt_or_ge gn s.gens.size with h | h
      · exact h
      · rw [Array.getElem?_eq_none h] at e3; cases e3
    refine wpAny_pyNext_gen (P := fun n s₀ s₁ => n = 0 ∧ ∀ oS, s₀.heap.get? S = some oS → KeptE fsl gt S I oI oS s₀ s₁) hh (hl.keeps e6) hroom (hG _ e5) e3 hgo (fun v s₁ gs' hv => ?_) (fun s₁ hp => absurd hp.1 (by omega))
    obtain ⟨⟨x, t, hx, rfl⟩, hk, hnext⟩ := hv
    obtain ⟨h₁, tk₁, rfl, k1, k2, k3⟩ := hk oS e4
    refine hQ _ _ ⟨x, t, ?_, rfl⟩ ⟨gs', oS, ?_, ?_, ?_, k1, k2, k3, fun h' hmv hS' => ?_⟩ (fun o e => by rw [e4] at e; cases e; exact k1)
    · rw [← hx]
      congr 1
      omega
    · show ({ s with heap := h₁, toks := tk₁, gens := _ } : Shared) = _
      rw [e1]
      rfl
    · show ((s.gens.setIfInBounds gn .running).setIfInBounds gn gs').setIfInBounds gn .finished = _
      rw [Array.setIfInBounds_setIfInBounds, Array.setIfInBounds_setIfInBounds]
      exact e2
    · show ((s.gens.setIfInBounds gn .running).setIfInBounds gn gs')[gn]? = some gs'
      rw [Array.setIfInBounds_setIfInBounds, Array.getElem?_setIfInBounds_self_of_lt hlt]
    · exact hnext _ hmv hS'
  done := by
    rintro s Q E ⟨gs, oS, e1, e2, e3, e4, e5, e6, e7⟩ hQ
    have hgo := e7 s.heap (fun _ _ _ e => e) ⟨oS, e4⟩
    rw [Nat.sub_self] at hgo
    refine wpAny_pyNext_gen (P := fun n s₀ s₁ => n = 0 ∧ ∀ oS, s₀.heap.get? S = some oS → KeptE fsl gt S I oI oS s₀ s₁) hh (hl.keeps e6) hroom (hG _ e5) e3 hgo (fun v s₁ gs' hv => ?_) (fun s₁ hp h' hk' => ?_)
    · obtain ⟨_, hk, hnext⟩ := hv
      obtain ⟨h₁, tk₁, rfl, k1, k2, k3⟩ := hk oS e4
      exact (hnext _ (fun _ _ _ e => e) ⟨_, k1⟩).elim
    · obtain ⟨h₁, tk₁, g₁, rfl, kt, k1, k2, k3⟩ := hp.2 oS e4
      refine hQ _ ⟨?_, g₁, kt, fun b o e => hk' _ _ (k3 b o e)⟩ (fun o e => by rw [e4] at e; cases e; exact hk' _ _ k1)
      show ({ s with heap := h', toks := tk₁, gens := (s.gens.setIfInBounds gn .running).setIfInBounds gn .finished } : Shared) = _
      rw [Array.setIfInBounds_setIfInBounds, e2, e1]
      rfl
end
noncomputable def nextL : List (Array UInt8) → Option (Array UInt8 × List (Array UInt8))
  | [] => none
  | x :: l => some (x, l)
theorem outs_self : ∀ l, Outs nextL l l
  | [] => .stop rfl
  | x :: l => .step rfl (outs_self l)
end Mine
end
section
open PySem PySem.W PyProof.Rows PySem.Calls
open Sem (wp)
set_option maxRecDepth 100000
set_option maxHeartbeats 8000000
namespace Mine
/-! The ground a generator's turns stand on: the heap at the join, below the generator's frame, its own objects hidden. -/
noncomputable def ground (h : Heap) (gone : List Addr) (Lg : Addr) : Heap := cutAt (hideAll h gone) Lg
section
variable {g h : Heap} {L Lg : Addr} {m : Str → Option Value} {gone : List Addr}
theorem ground_of {b : Addr} {o : Obj} (e : (ground h gone Lg).get? b = some o) : h.get? b = some o := of_hideAll _ (of_cutAt e)
theorem ground_size : (ground h gone Lg).objs.size ≤ Lg := cutAt_size _ _
theorem ground_get {b : Addr} {o : Obj} (e : h.get? b = some o) (hb : b < Lg) (hn : b ∉ gone) : (ground h gone Lg).get? b = some o := by
  unfold ground
  rw [cutAt_get hb]
  exact hideAll_get _ e hn
theorem ground_gone {b : Addr} (hb : b ∈ gone) : (ground h gone Lg).get? b = none := by
  cases e : (ground h gone Lg).get? b with
  | none => rfl
  | some o => have := of_cutAt e; rw [hideAll_none _ hb] at this; cases this
theorem ground_high {b : Addr} (hb : Lg ≤ b) : (ground h gone Lg).get? b = none := cutAt_none hb
theorem ground_fr (F : Fr g L h m) (hL : L < Lg) (hn : L ∉ gone) (hg : ∀ a ∈ gone, g.get? a = none) : Fr g L (ground h gone Lg) m :=
  ⟨F.ns.at' fun o e => ground_get e hL hn, fun b o e => ground_get (F.keep b o e) (Nat.lt_of_lt_of_le (Heap.lt_size e) (Nat.le_trans F.above (Nat.le_of_lt hL))) (fun hm => by rw [hg b hm] at e; cases e), F.above⟩
theorem ground_run {u : Heap} {oL : Obj} {mr : Str → Option Value} (hk : ∀ b o, (ground h gone Lg).get? b = some o → u.get? b = some o) (hL : u.get? Lg = some oL) (hNo : LCg.NsObj oL mr) : Fr (ground h gone Lg) Lg u mr :=
  ⟨hNo.ns hL, hk, ground_size⟩
theorem ground_news {u : Heap} {l : List (Addr × Obj)} (hu : ∀ p ∈ l, u.get? p.1 = some p.2) (hl : ∀ p ∈ l, p.1 ∈ gone ∨ Lg < p.1) (hne : Lg ∉ gone) : News (ground h gone Lg) Lg u l := fun p hp => by
  refine ⟨hu p hp, fun e => ?_, ?_⟩
  · rcases hl p hp with h1 | h1
    · exact hne (e ▸ h1)
    · exact Nat.lt_irrefl _ (e ▸ h1)
  · rcases hl p hp with h1 | h1
    · exact ground_gone h1
    · exact ground_high (Nat.le_of_lt h1)
theorem gf_of {i1 i2 : Addr × Obj} {a1 a2 a3 a4 a5 a6 : Addr} {p1 p2 p3 p4 p5 p6 : Obj} {news : List (Addr × Obj)} (F : Fr g L h m) (N : News g L h (i1 :: i2 :: (a1, p1) :: (a2, p2) :: (a3, p3) :: (a4, p4) :: (a5, p5) :: (a6, p6) :: news)) (hL : L < Lg) :
    Fr g L (ground h [a1, a2, a3, a4, a5, a6] Lg) m := by
  have key : ∀ a ∈ [a1, a2, a3, a4, a5, a6], ∃ o, (a, o) ∈ (i1 :: i2 :: (a1, p1) :: (a2, p2) :: (a3, p3) :: (a4, p4) :: (a5, p5) :: (a6, p6) :: news) := fun a ha => by
    simp only [List.mem_cons, List.not_mem_nil, or_false] at ha
    rcases ha with rfl | rfl | rfl | rfl | rfl | rfl
    · exact ⟨p1, by simp⟩
    · exact ⟨p2, by simp⟩
    · exact ⟨p3, by simp⟩
    · exact ⟨p4, by simp⟩
    · exact ⟨p5, by simp⟩
    · exact ⟨p6, by simp⟩
  exact ground_fr F hL (fun hm => let ⟨o, ho⟩ := key _ hm; (N _ ho).2.1 rfl) (fun a ha => let ⟨o, ho⟩ := key a ha; (N _ ho).2.2)
theorem after_join {hE g'' : Heap} {Lc : Addr} {news : List (Addr × Obj)} (GF : Fr g L (ground h gone Lg) m) (hc : ∃ o, g.get? Lc = some o) (KT : KtsTurn [L, Lc] (ground h gone Lg) g'') (hk : ∀ b o, g''.get? b = some o → hE.get? b = some o)
    (N : ∀ p ∈ news, h.get? p.1 = some p.2 ∧ p.1 ≠ L ∧ g.get? p.1 = none ∧ p.1 < Lg ∧ p.1 ∉ gone) :
    ∃ g₂, KtsTurn [Lc] g g₂ ∧ Fr g₂ L hE m ∧ News g₂ L hE news := by
  have nL : g.get? L = none := kts_self GF
  obtain ⟨oc, hoc⟩ := hc
  obtain ⟨T₁, S₁⟩ := kts_turn_at (fs := [Lc]) (g := g) (h := hE) (fun b hb => by rw [List.mem_singleton.mp hb]; exact ⟨oc, hoc⟩)
    (fun b o e hb => hk _ _ (KT.other b o (GF.keep b o e) (fun hm => by
      rcases List.mem_cons.mp hm with rfl | hm
      · rw [nL] at e; cases e
      · exact hb hm)))
    (fun b o e hb => by
      obtain ⟨sl, hs⟩ := KT.up (GF.keep b o e)
      exact ⟨sl, hk _ _ hs⟩)
  refine ⟨_, T₁, ⟨?_, S₁, by rw [T₁.size]; exact GF.above⟩, fun p hp => ?_⟩
  · obtain ⟨o, es, ep, e, hd, r⟩ := GF.ns
    obtain ⟨sl, hs⟩ := KT.up e
    exact ⟨_, es, ep, hk _ _ hs, hd, r⟩
  · obtain ⟨e1, e2, e3, e4, e5⟩ := N p hp
    refine ⟨hk _ _ (KT.other _ _ (ground_get e1 e4 e5) (fun hm => ?_)), e2, T₁.none_ _ e3⟩
    rcases List.mem_cons.mp hm with h1 | hm
    · exact e2 h1
    · rw [List.mem_singleton.mp hm, hoc] at e3; cases e3
end
end Mine
end
section
open PySem PySem.W PyProof.Rows PySem.Calls
open Sem (wp)
set_option maxRecDepth 100000
set_option maxHeartbeats 8000000
namespace Mine
section
variable {prog : Program} {w : World} {A A₀ : Around} {s : Shared} {base h₀ : Heap} {L a : Addr} {m : Str → Option Value} {cn : Str} {cs : Scope} {ccd : Value} {news : List (Addr × Obj)} {K : Frag} {p : Program} {loose : List Str} {mean : ExcName → Option Value} {mg mb : Str → Option Value}
  {R : Result → Shared → Prop} {name qual : Str} {params : Arguments} {body : List Stmt} {scope : Scope} {dV kV doc pm cdv ct oc : Value} {an od : Option Addr} {osl : Array (Option Value)} {f : Addr} {args : Args} {binds : List (Str × Value)}
/-- a def called from the law's own frame over clean stacks; within it exceptions may be caught -/
theorem code_defCleanS (B : Below A₀ base [] h₀) (F : Fr h₀ L s.heap m) (X₀ : K.In h₀) (N : News h₀ L s.heap news) (T : Top p loose mean mg mb h₀) (hA : A.frames = some [envOf cn cs L a ccd])
    (ho : K.lookup f = some ⟨oc, od, .func (fnOf name qual params body scope dV kV doc pm an cdv ct), osl⟩) (hcd : codeIn K cdv qual = true) (hroom : A.depth < recursionLimit)
    (hbind : BindsTo s (fnOf name qual params body scope dV kV doc pm an cdv ct) args binds) (hloc : ∀ y ∈ binds, scope.names.lookup y.1 = some .local)
    (h : ∀ g L' h₁, Fr h₀ L g m → Fr g L' h₁ (fun y => binds.reverse.lookup y) → News g L' h₁ news → Below A base [envOf cn cs L a ccd] g → K.In g → Top p loose mean mg mb g → KtsDicts ([envOf cn cs L a ccd].filterMap (·.frame)) g → (∀ p ∈ news, p.1 < L') →
      wpC (model prog w) (A.deeper (envOf qual scope L' f cdv)) (execs body (envOf qual scope L' f cdv))
        (fun fl s' => LeaveS0 ([envOf cn cs L a ccd].filterMap (·.frame)) h₀ L m g R (match fl with | .ret v => v | _ => .none) s')
        (fun e s' => wpAny (model prog w) (A.deeper (envOf qual scope L' f cdv)) (leaving (envOf qual scope L' f cdv) e) (fun _ s'' => R (.error e) s'') (fun e' s'' => R (.error e') s'') s')
        { s with heap := h₁, toks := s.toks + binds.length })
    (hck : cs.kind = .function) (hco : scope.isCoroutine = false) (hgen : scope.isGenerator = false) (hk : scope.kind = .function)
    (hcell : ∀ x ∈ scope.names, x.2 ≠ .cell) : codeC (model prog w) A (.call (.ref f) args) R s := by
  obtain ⟨oL, es, ep, hLg, hLd, hN, hNs, st, B₂⟩ := kts_enter B F N hA hck
  have hcr := codeRec_of (X₀.keeps F.keep) hcd
  refine codeC_of_tree rfl (wpC_of ?_)
  show wpAny _ A.in1 (callAny (.ref f) args) _ _ s
  simp only [callAny]
  refine wpAny_bind (wpAny_load ((X₀.keeps F.keep) _ _ ho) ?_)
  obtain ⟨c, oc', vs, tq, hc, hoc, hdc, hq⟩ := hcr
  simp only [callFunction, hco, hgen, hc]
  refine wpAny_bind (m := field (.ref c) 1) (wpAny_field hoc hdc hq (wpAny_bind (wpAny_pure ?_)))
  rw [← hc]
  refine wpAny_bind (hbind _ _ _ _ ?_)
  refine wpAny_bind (wpAny_newFunctionEnv hcell hloc (fun h₁ hns hsb => ?_) hk)
  have hk₁ : ∀ b o, s.heap.get? b = some o → h₁.get? b = some o := fun b o e => hsb.extBut b o (Nat.ne_of_lt (Heap.lt_size e)) (Heap.get?_push_of_some _ e)
  refine wpAny_bind (wpAny_enterFrame ((T.nolimit.keeps F.keep).keeps hk₁) hroom (wpAny_pure ⟨rfl, c_func ?_⟩))
  refine wpC_mono (h _ s.heap.objs.size h₁ ⟨hN _ hLg, st, F.above⟩ ⟨hns, fun b o e => hk₁ b o (of_hideAll _ e), Nat.le_of_eq (hideAll_size _ _)⟩
    (fun p hp => ⟨hk₁ _ _ (N p hp).1, Nat.ne_of_lt (Heap.lt_size (N p hp).1), hideAll_none _ (List.mem_map_of_mem hp)⟩) B₂ (X₀.keeps st) (T.keeps st) (fun b hb => by
      rcases kts_mem hb with rfl | z
      · exact ⟨oL, es, ep, hLg, hLd⟩
      · simp at z) (fun p hp => Heap.lt_size (N p hp).1)) (fun fl s' hl => ?_) fun _ _ y => y
  obtain ⟨g', L', m', news', T', F', N', k⟩ := hl
  have nL₀ : h₀.get? L = none := kts_self F
  obtain ⟨sl, hs⟩ := T'.up hLg
  have FR : Fr h₀ L s'.heap m := ⟨hNs sl _ (F'.keep _ _ hs), fun b o e => F'.keep b o (T'.other b o (st b o e) (fun q => by
    rcases kts_mem q with z | z
    · rw [z, nL₀] at e
      cases e
    · simp at z)), F.above⟩
  have NR : News h₀ L s'.heap news' := fun p hp => by
    refine ⟨(N' p hp).1, fun q => ?_, ?_⟩
    · have := (N' p hp).2.2
      rw [q, hs] at this
      cases this
    · cases q : h₀.get? p.1 with
      | none => rfl
      | some o =>
        obtain ⟨sl', hs'⟩ := T'.up (st _ _ q)
        have := (N' p hp).2.2
        rw [hs'] at this
        cases this
  have res := k FR NR
  cases fl <;> exact res
end
end Mine
end
section
open PySem PySem.W PyProof.Rows PySem.Calls PyProof.V PySem.Spec
set_option maxRecDepth 100000
set_option maxHeartbeats 8000000
set_option linter.unusedVariables false
namespace Mine
local macro_rules | `(tactic| k_all) => `(tactic| assumption)
local macro_rules | `(tactic| walk_at "ite") => `(tactic| first
  | (refine b_neg (by simp only [beq_eq_false_iff_ne, bne_eq_false_iff_eq, decide_eq_false_iff_not, Bool.not_eq_false', decide_eq_true_eq, Array.size_push]; first | assumption | omega) ?_)
  | (refine b_pos (by simp only [beq_iff_eq, bne_iff_ne, decide_eq_true_eq, Bool.not_eq_true', decide_eq_false_iff_not, Array.size_push]; first | assumption | omega) ?_))
section
local macro_rules | `(tactic| k_room) => `(tactic| ((try simp only [depth_under_make, depth_under_kw, depth_in1, depth_deeper, depth_caller]); (try dsimp only); (try rw [show recursionLimit = 1000 from rfl]); omega))
section
variable {w : World} {A : Around} {A₀ : Around} {env : Env} {outer : List Env} {s : Shared} {base h₀ : Heap} {L : Addr} {m mg mb : Str → Option Value} {loose : List Str} {mean : ExcName → Option Value} {R : Result → Shared → Prop} {bm : Addr} {ob : Obj} {news : List (Addr × Obj)}
theorem first_news {h₀ h : Heap} {L : Addr} {a b : Addr × Obj} {l l' : List (Addr × Obj)} (N : News h₀ L h (a :: b :: l')) (hs : ∀ p ∈ l, p ∈ l') : News h₀ L h (b :: l) := fun p hp => N p (by
  rcases List.mem_cons.mp hp with rfl | hp
  · exact .tail _ (.head _)
  · exact .tail _ (.tail _ (hs p hp)))
theorem fm_lo (a : Int) : -1 ≤ a.fmod 256 := by have := Int.fmod_nonneg_of_pos a (b := 256) (by decide); omega
theorem fm_lo2 (a : Int) : -1 ≤ 256 + a.fmod 4096 := by have := Int.fmod_nonneg_of_pos a (b := 4096) (by decide); omega
theorem st_nil : ([] : List Int).length ≤ 263 ∧ ∀ x ∈ ([] : List Int), -1 ≤ x := ⟨by decide, fun _ h => nomatch h⟩
theorem st_out {l : List Int} {x : Int} (h1 : l.length ≤ 263) (h2 : ∀ y ∈ l, -1 ≤ y) (hn : ¬ 262 < (l.length : Int)) (hx : -1 ≤ x) : (l ++ [x]).length ≤ 263 ∧ ∀ y ∈ l ++ [x], -1 ≤ y :=
  ⟨by rw [List.length_append, List.length_singleton]; omega, fun y hy => (List.mem_append.mp hy).elim (h2 y) fun h => by rw [List.mem_singleton.mp h]; exact hx⟩
theorem st_in {l pre : List Int} {x k : Int} {n : Nat} (h1 : l.length = n + pre.length) (h2 : ∀ y ∈ l, -1 ≤ y) (hx : -1 ≤ x) : (l ++ [x]).length = n + (pre ++ [k]).length ∧ ∀ y ∈ l ++ [x], -1 ≤ y :=
  ⟨by rw [List.length_append, List.length_singleton, List.length_append, List.length_singleton]; omega, fun y hy => (List.mem_append.mp hy).elim (h2 y) fun h => by rw [List.mem_singleton.mp h]; exact hx⟩
theorem wishes_c {la : Addr} {vs : List Value} {ns : List Int} {d u : Nat}
  (B : Below A₀ base outer h₀) (F : Fr h₀ L s.heap m) (X₀ : (Mine.K w.params).In h₀) (T : Top Mine.view loose mean mg mb h₀) (N : News h₀ L s.heap news)
  (hLi : base.IsList la vs.toArray) (hI : IntsAre vs ns) (h63 : ns.length ≤ 63)
  (hf : env.frame = some L) (hke : env.scope.kind = .function) (hd : d < 600)
  (h : ∀ h' tk (wa : Addr) (ws : List Int) (us : List Value) nn, Fr h₀ L h' m → News h₀ L h' ((wa, listOf us.toArray nn) :: news) → (∀ p ∈ news, p.1 < wa) → IntsAre us ws → ws.length ≤ 263 → (∀ x ∈ ws, -1 ≤ x) → R (.ok (.ret (.ref wa))) {s with heap := h', toks := tk}) :
  codeAny (model PySem.Challenge.rw_lc0007_01.row.prog w) ⟨none, d, some (env :: outer), some [], u⟩ (.call (.ref 681) ⟨[.ref la], []⟩) R s := by
  w_top off
  k_with_none
  have X₁ := X₀; revert X₁; k_fill; intro X₁; clear X₁
  (k_with "state" => first | exact st_nil | exact st_out (by assumption) (by assumption) (by assumption) (by first | decide | exact fm_lo _ | exact fm_lo2 _) | exact st_in (by assumption) (by assumption) (fm_lo _))
  (k_with "pyIter ref" => (k_of "number" => k_state (fun (pre : List Int) (wishes : List Int) => wishes.length ≤ 263 ∧ ∀ x ∈ wishes, -1 ≤ x) "wishes"))
  (k_with "pyIter ref" => (k_of "k" => k_state_given ["wishes!"] (fun (w0 : List Int) (pre : List Int) (wishes : List Int) => wishes.length = w0.length + pre.length ∧ ∀ x ∈ wishes, -1 ≤ x) "wishes"))
  refine' code_def B F X₀ N T rfl hf hke ?k6 ?k7 ?k8 ?k9 ?kB ?_ ?c2 ?c3 ?c4 ?c5
  case k6 => k_is
  case k7 => k_is
  case k8 => k_room
  case k9 => exact BindsTo.of_eq rfl
  case c5 => decide
  case kB => exact locs rfl
  case c2 => exact rfl
  case c3 => exact rfl
  case c4 => exact rfl
  intro g' L' h' FG' F' N' B' X' T'
  (try dsimp only); (try k_lift B'); (try k_fold)
  k_steps
  all_goals (rename News h₀ L _ _ => NZ; rename Fr h₀ L _ m => FZ; rename IntsAre _ _ => IZ; exact h _ _ _ _ _ _ FZ (first_news NZ (by first | exact fun p hp => hp | exact fun p hp => List.mem_append_left _ hp)) (by assumption) IZ (by assumption) (by assumption))
  k_with_none
end
local macro_rules | `(tactic| k_room) => `(tactic| (show @LT.lt Nat _ _ _; (try simp only [depth_under_make, depth_under_kw, depth_in1, depth_deeper, depth_caller]); (try dsimp only); omega))
section
variable {w : World} {A : Around} {A₀ : Around} {env : Env} {outer : List Env} {s : Shared} {base h₀ : Heap} {L : Addr} {m mg mb : Str → Option Value} {loose : List Str} {mean : ExcName → Option Value} {R : Result → Shared → Prop} {bm : Addr} {ob : Obj} {news : List (Addr × Obj)}

theorem news_drop2 {h₀ h : Heap} {L : Addr} {a b c x y : Addr × Obj} {news : List (Addr × Obj)} (N : News h₀ L h (a :: b :: c :: x :: y :: news)) : News h₀ L h (a :: b :: c :: news) := fun p hp => N p (by
  rcases List.mem_cons.mp hp with rfl | hp
  · exact List.mem_cons_self
  rcases List.mem_cons.mp hp with rfl | hp
  · exact .tail _ List.mem_cons_self
  rcases List.mem_cons.mp hp with rfl | hp
  · exact .tail _ (.tail _ List.mem_cons_self)
  · exact .tail _ (.tail _ (.tail _ (.tail _ (.tail _ hp)))))
theorem allLt_to {d : Nat} : ∀ {l : List (Addr × Obj)}, AllLt d l → ∀ p ∈ l, p.1 < d
  | [], _, p, hp => nomatch hp
  | x :: l, h, p, hp => by
    rcases List.mem_cons.mp hp with rfl | hp
    · exact h.1
    · exact allLt_to h.2 p hp
noncomputable abbrev ioDict (P : Params) (ba : Addr) (q : Int) (k1 k2 kt : Tok) : Obj := dictOf [⟨PyData.keyHash P (Str.ofString "_BytesIO__buf"), .str (Str.ofString "_BytesIO__buf") k1, .ref ba⟩, ⟨PyData.keyHash P (Str.ofString "_BytesIO__pos"), .str (Str.ofString "_BytesIO__pos") k2, .int q kt⟩] 2

theorem bio_make {b : Array UInt8} {t : Tok} {d u : Nat}
  (B : Below A₀ base outer h₀) (F : Fr h₀ L s.heap m) (X₀ : (Mine.K w.params).In h₀) (N : News h₀ L s.heap news) (T : Top Mine.view loose mean mg mb h₀)
  (hf : env.frame = some L) (hke : env.scope.kind = .function) (hd : d < 700) (hz : b.size ≤ sizeLine)
  (h : ∀ h' tk x (dx ba : Addr) (k1 k2 kt : Tok), Fr h₀ L h' m → News h₀ L h' ((ba, baObj b) :: (x, instObj 418 dx) :: (dx, ioDict w.params ba 0 k1 k2 kt) :: news) → (∀ p ∈ news, p.1 < dx) → dx < x → x < ba →
    R (.ok (.ret (.ref x))) {s with heap := h', toks := tk}) :
  codeC (model PySem.Challenge.rw_lc0007_01.row.prog w) ⟨none, d, some (env :: outer), some [], u⟩ (.call (.ref 418) ⟨[.bytes b t], []⟩) R s := by
  w_top off
  k_with_none
  have X₁ := X₀; revert X₁; k_fill; intro X₁; clear X₁
  refine' makeC_own (fN := 158) (fI := 205) (p := 162) (tl := []) F X₀ ?b ?c ?d ?e ?f ?g ?h ?i ?_
  case b => kernel_rfl
  case c => k_is
  case d => k_is
  case e => k_is
  case f => k_is
  case g => rfl
  case h => k_is
  case i => k_is
  refine' kp_both ?k1 ?k2 ?k3 ?k4 ?k5 rfl hf hke ?k6 ?k7 ?k8 ?kV ?kX ?kQ ?kM ?kN ?kD ?kR ?kP ?kS ?kT ?kB ?_ ?c2 ?c3 ?c4 ?c5
  case k1 => k_asm
  case k2 => k_asm
  case k3 => k_asm
  case k4 => k_asm
  case k5 => k_asm
  case k6 => k_is
  case k7 => k_is
  case k8 => k_room
  case kV => kp_lit
  case kX => kp_lit
  case kQ => exact rfl
  case kM => exact rfl
  case kN => exact rfl
  case kD => kp_flats
  case kR => exact rfl
  case kP => exact rfl
  case kS => exact fun _ => rfl
  case kT => exact fun _ _ => rfl
  case kB => exact fun _ _ => locs rfl
  case c5 => decide
  case c2 => exact rfl
  case c3 => exact rfl
  case c4 => exact rfl
  intro C' D' o' g' L' h' tk' l1 l2 lo' hs' fs' FG' F' N' B' X' T'
  (try k_lt l1); (try k_lt2 l2); (try dsimp only); (try k_lift B'); (try k_fold)
  k_steps
  refine' new_418 ?n1 ?n2 ?n3 ?_
  case n1 => k_asm
  case n2 => k_asm
  case n3 => k_asm
  intro x' d' h' F' N' l1 l2
  (try k_lt l1); (try k_lt2 l2); (try k_sweep)
  k_steps
  rename News _ _ _ _ => N5
  rename Fr h₀ L _ m => F5
  refine ⟨_, _, rfl, (N5 _ (List.Mem.head _)).1, rfl, X₀.keeps F5.keep, ?_⟩
  refine' code_defClean B F5 X₀ N5 T rfl hf hke ?k6 ?k7 ?k8 ?k9 ?kB ?_ ?c2 ?c3 ?c4 ?c5
  case k6 => k_is
  case k7 => k_is
  case k8 => k_room
  case k9 => exact binds_K (X₀.keeps F5.keep) rfl (by k_is) rfl rfl rfl
  case c5 => decide
  case kB => exact locs rfl
  case c2 => exact rfl
  case c3 => exact rfl
  case c4 => exact rfl
  intro g' L' h' FG' F' N' B' X' T' st' l'
  refine c_execs_cons (wpC_of ?_)
  k_fold
  k_steps
  refine call_type_of (typeIs_bytes _ _ _) (by decide) ?_
  k_steps
  refine c_execs_cons (c_Assign_Attribute (c_IfExp (wpC_of ?_)) (by rfl))
  k_fold
  k_steps
  refine c_Call_Name1 X' ?_ (by rfl)
  k_fold
  k_steps
  refine call_bytearray (by assumption) (by assumption) rfl hz fun ba h6 F6 N6 l6 => ?_
  k_lt l6
  refine wpC_of ?_
  k_fold
  k_steps
  refine wpC_of ?_
  k_steps
  refine wpC_of ?_
  k_fold
  k_steps
  rename _ ∧ _ ∧ AllLt _ news => l7
  rename _ < _ => l8
  rename Fr h₀ L _ m => FZ
  rename News h₀ L _ _ => NZ
  exact h _ _ _ _ _ _ _ _ FZ (news_drop2 NZ) (fun p hp => allLt_to l7.2.2 p hp) l8 l6.1
end
section
variable {w : World} {A : Around} {A₀ : Around} {env : Env} {outer : List Env} {s : Shared} {base h₀ : Heap} {L : Addr} {m mg mb : Str → Option Value} {loose : List Str} {mean : ExcName → Option Value} {R : Result → Shared → Prop} {bm : Addr} {ob : Obj} {news : List (Addr × Obj)}

theorem news_tail {h₀ h : Heap} {L : Addr} {a : Addr × Obj} {news : List (Addr × Obj)} (N : News h₀ L h (a :: news)) : News h₀ L h news := fun p hp => N p (.tail _ hp)
noncomputable abbrev ltN' (a b : Nat) : Prop := a < b
theorem read1 {b : Array UInt8} {t : Tok} {x dx ba : Addr} {k1 k2 kt : Tok} {q : Nat} {d u : Nat}
  (B : Below A₀ base outer h₀) (F : Fr h₀ L s.heap m) (X₀ : (Mine.K w.params).In h₀) (T : Top Mine.view loose mean mg mb h₀)
  (N : News h₀ L s.heap ((dx, ioDict w.params ba q k1 k2 kt) :: (x, instObj 418 dx) :: (ba, baObj b) :: news))
  (hf : env.frame = some L) (hke : env.scope.kind = .function) (hd : d < 700) (hz : b.size ≤ 16777216) (hq : q ≤ b.size)
  (n1 : ltN' dx x) (n2 : ltN' x ba) (hne : ∀ p ∈ news, p.1 ≠ dx)
  (h0 : q = b.size → ∀ h' tk t', Fr h₀ L h' m → News h₀ L h' ((dx, ioDict w.params ba q k1 k2 kt) :: (x, instObj 418 dx) :: (ba, baObj b) :: news) → R (.ok (.ret (.bytes #[] t'))) {s with heap := h', toks := tk})
  (h1 : q < b.size → ∀ h' tk t' k2' kt', Fr h₀ L h' m → News h₀ L h' ((dx, ioDict w.params ba ((q + 1 : Nat) : Int) k1 k2' kt') :: (x, instObj 418 dx) :: (ba, baObj b) :: news) → R (.ok (.ret (.bytes #[b.getD q 0] t'))) {s with heap := h', toks := tk}) :
  codeAny (model PySem.Challenge.rw_lc0007_01.row.prog w) ⟨none, d, some (env :: outer), some [], u⟩ (.call (.ref 342) ⟨[.ref x, .int 1 t], []⟩) R s := by
  w_top off
  k_with_none
  have X₁ := X₀; revert X₁; k_fill; intro X₁; clear X₁
  unfold ltN' at n1 n2
  refine' code_def B F X₀ N T rfl hf hke ?k6 ?k7 ?k8 ?k9 ?kB ?_ ?c2 ?c3 ?c4 ?c5
  case k6 => k_is
  case k7 => k_is
  case k8 => k_room
  case k9 => exact binds_K (by k_in) rfl (by k_is) rfl rfl rfl
  case c5 => decide
  case kB => exact locs rfl
  case c2 => exact rfl
  case c3 => exact rfl
  case c4 => exact rfl
  intro g' L' h' FG' F' N' B' X' T'
  (try dsimp only); (try k_lift B'); (try k_fold)
  k_steps
  refine' call_len_ba ?k1 ?k2 ?_
  case k1 => exact News.get (by k_asm) (by k_mem)
  case k2 => assumption
  k_steps
  · rename Fr h₀ L _ m => FZ
    rename News h₀ L _ _ => NZ
    exact h0 (by omega) _ _ _ FZ NZ
  all_goals
    rename Fr _ _ _ _ => F₁
    rename News _ _ _ _ => N₁
    refine' slice_ba (s := ⟨_, _, _, _, _⟩) F₁ N₁ ?hb ?hl ?hu ?hz ?_ (by with_unfolding_all rfl) (by intro _; with_unfolding_all rfl)
    case hb => exact News.get N₁ (by k_mem)
    case hl => constructor
    case hu => constructor
    case hz => assumption
    intro nb' h' F' N' l1
    try k_lt l1
    k_steps
    refine' call_bytes_ba ?k1 ?k2 ?_
    case k1 => exact News.get (by k_asm) (by k_mem)
    case k2 => exact Nat.le_trans (KBc.size_picked_le _ _ _) (by rw [sizeLine_eq]; assumption)
    intro t' k'
    k_steps
    rename Fr h₀ L _ m => FZ
    rename News h₀ L _ _ => NZ
    have hlt : q < b.size := by omega
  · have e : KBy.picked b (some (q : Int)) (some ((q : Int) + 1)) = #[b.getD q 0] := by rw [picked_one hlt]; simp [Array.getD, hlt]
    rw [e]
    exact h1 hlt _ _ _ _ _ FZ (news_tail NZ)
  · have e1 : ((b.size : Nat) : Int) = (q : Int) + 1 := by omega
    have e : KBy.picked b (some (q : Int)) (some ((q : Int) + 1)) = #[b.getD q 0] := by rw [picked_one hlt]; simp [Array.getD, hlt]
    rw [e1] at NZ ⊢
    rw [e]
    exact h1 hlt _ _ _ _ _ FZ (news_tail NZ)
theorem read1' {b : Array UInt8} {t : Tok} {x dx ba : Addr} {k1 k2 kt : Tok} {q : Nat} {d u : Nat}
  (B : Below A₀ base outer h₀) (F : Fr h₀ L s.heap m) (X₀ : (Mine.K w.params).In h₀) (T : Top Mine.view loose mean mg mb h₀)
  (N : News h₀ L s.heap ((dx, ioDict w.params ba q k1 k2 kt) :: (x, instObj 418 dx) :: (ba, baObj b) :: news))
  (hf : env.frame = some L) (hke : env.scope.kind = .function) (hd : d < 700) (hz : b.size ≤ 16777216) (hq : q ≤ b.size)
  (n1 : ltN' dx x) (n2 : ltN' x ba) (hne : ∀ p ∈ news, p.1 ≠ dx)
  (h : ∀ h' tk t' r q' k2' kt', Fr h₀ L h' m → News h₀ L h' ((dx, ioDict w.params ba (q' : Nat) k1 k2' kt') :: (x, instObj 418 dx) :: (ba, baObj b) :: news) → ((q = b.size ∧ r = #[] ∧ q' = q) ∨ (q < b.size ∧ r = #[b.getD q 0] ∧ q' = q + 1)) → R (.ok (.ret (.bytes r t'))) {s with heap := h', toks := tk}) :
  codeAny (model PySem.Challenge.rw_lc0007_01.row.prog w) ⟨none, d, some (env :: outer), some [], u⟩ (.call (.ref 342) ⟨[.ref x, .int 1 t], []⟩) R s :=
  read1 B F X₀ T N hf hke hd hz hq n1 n2 hne (fun e _ _ _ F' N' => h _ _ _ _ _ _ _ F' N' (.inl ⟨e, rfl, rfl⟩)) (fun e _ _ _ _ _ F' N' => h _ _ _ _ _ _ _ F' N' (.inr ⟨e, rfl, rfl⟩))
end
section
theorem news_rot {h₀ h : Heap} {L : Addr} {a b c d e : Addr × Obj} {news : List (Addr × Obj)} (N : News h₀ L h (a :: b :: c :: d :: e :: news)) : News h₀ L h (c :: d :: e :: a :: b :: news) := fun p hp => N p (by
  simp only [List.mem_cons] at hp ⊢; rcases hp with h | h | h | h | h | h <;> simp only [h, true_or, or_true])
theorem news_tor {h₀ h : Heap} {L : Addr} {a b c d e : Addr × Obj} {news : List (Addr × Obj)} (N : News h₀ L h (c :: d :: e :: a :: b :: news)) : News h₀ L h (a :: b :: c :: d :: e :: news) := fun p hp => N p (by
  simp only [List.mem_cons] at hp ⊢; rcases hp with h | h | h | h | h | h <;> simp only [h, true_or, or_true])
variable {w : World} {A : Around} {A₀ : Around} {env : Env} {outer : List Env} {s : Shared} {base h₀ : Heap} {L : Addr} {m mg mb : Str → Option Value} {loose : List Str} {mean : ExcName → Option Value} {R : Result → Shared → Prop} {bm : Addr} {ob : Obj} {news : List (Addr × Obj)}

theorem bor_bound {a b : Int} (ha : 0 ≤ a) (hb : 0 ≤ b) : 0 ≤ Builtin.bitOr a b ∧ Builtin.bitOr a b ≤ a + b := by
  have h := bitAnd_range a hb
  rw [bitOr_and]
  omega
theorem mask_bound {x : Int} (k : Nat) (h0 : 0 ≤ x) : 0 ≤ Builtin.bitAnd x (1 * 2 ^ k - 1) ∧ Builtin.bitAnd x (1 * 2 ^ k - 1) ≤ x := by
  rw [Int.one_mul, kbt_mask]
  have hp := kbt_pos k
  have a := Int.emod_nonneg x (Int.ne_of_gt hp)
  have b : x % 2 ^ k ≤ x := by
    obtain ⟨B, rfl⟩ := Int.eq_ofNat_of_zero_le h0
    rw [← kbt_cast]
    exact_mod_cast Nat.mod_le B (2 ^ k)
  omega
theorem sh1_bound {buff : Int} (k : Nat) (h0 : 0 ≤ buff) (h1 : buff ≤ 255) : 0 ≤ Builtin.bitOr (0 * 2 ^ k) (Builtin.bitAnd buff (1 * 2 ^ k - 1)) ∧ Builtin.bitOr (0 * 2 ^ k) (Builtin.bitAnd buff (1 * 2 ^ k - 1)) ≤ 255 := by
  have m := mask_bound k h0
  have b := bor_bound (a := 0 * 2 ^ k) (by simp) m.1
  have z : (0 : Int) * 2 ^ k = 0 := Int.zero_mul _
  omega
theorem sh2_bound {buff : Int} (k : Nat) (c : UInt8) (h0 : 0 ≤ buff) (h1 : buff ≤ 255) : 0 ≤ Builtin.bitOr (Builtin.bitOr (0 * 2 ^ k) (Builtin.bitAnd buff (1 * 2 ^ k - 1)) * 2 ^ (8 - 0 : Int).toNat) (Builtin.bitAnd (c.toNat : Int) (1 * 2 ^ (8 - 0 : Int).toNat - 1)) ∧
    Builtin.bitOr (Builtin.bitOr (0 * 2 ^ k) (Builtin.bitAnd buff (1 * 2 ^ k - 1)) * 2 ^ (8 - 0 : Int).toNat) (Builtin.bitAnd (c.toNat : Int) (1 * 2 ^ (8 - 0 : Int).toNat - 1)) ≤ 65535 := by
  have m := sh1_bound k h0 h1
  have hc : (c.toNat : Int) ≤ 255 := by have := c.toNat_lt; omega
  have n := mask_bound (x := (c.toNat : Int)) (8 - 0 : Int).toNat (by omega)
  have e : (2 : Int) ^ (8 - 0 : Int).toNat = 256 := by decide
  have b := bor_bound (a := Builtin.bitOr (0 * 2 ^ k) (Builtin.bitAnd buff (1 * 2 ^ k - 1)) * 2 ^ (8 - 0 : Int).toNat) (by rw [e]; omega) n.1
  rw [e] at b n ⊢
  omega
noncomputable def Stop (p : Prop) : Prop := p
theorem stop_of {p : Prop} (h : Stop p) : p := h
theorem lsh1 {buff : Int} {k : Nat} (h0 : 0 ≤ buff) (h1 : buff ≤ 255) : (Builtin.bitOr (0 * 2 ^ k) (Builtin.bitAnd buff (1 * 2 ^ k - 1))).natAbs < 2 ^ 64 := by
  have h9 := sh1_bound k h0 h1
  refine Nat.lt_trans (m := 1048576) ?_ (by decide)
  omega
theorem lsh2 {buff : Int} {k : Nat} {c : UInt8} (h0 : 0 ≤ buff) (h1 : buff ≤ 255) : (Builtin.bitOr (Builtin.bitOr (0 * 2 ^ k) (Builtin.bitAnd buff (1 * 2 ^ k - 1)) * 2 ^ (8 - 0 : Int).toNat) (Builtin.bitAnd (c.toNat : Int) (1 * 2 ^ (8 - 0 : Int).toNat - 1))).natAbs < 2 ^ 64 := by
  have h9 := sh2_bound k c h0 h1
  refine Nat.lt_trans (m := 1048576) ?_ (by decide)
  omega
local macro_rules | `(tactic| walk_at "binaryOp LShift int int") => `(tactic| (k_here; k_dflt (refine lshift_int_small ?_ ?_ ?_ ?_; omega; omega; first | (with_reducible exact lsh1 (by assumption) (by assumption)) | (with_reducible exact lsh2 (by assumption) (by assumption)))))
local macro_rules | `(tactic| walk_at "call ref") => `(tactic| refine stop_of ?_)
local macro_rules | `(tactic| walk_at "leaving ref") => `(tactic| refine stop_of ?_)
local macro_rules | `(tactic| walk_at "exec Raise some none") => `(tactic| refine stop_of ?_)
local macro_rules | `(tactic| walk_at "exec While") => `(tactic| k_dflt (refine whl_start 9 ?_))
noncomputable abbrev lzwObj (P : Params) (x : Addr) (buff bpos nb : Int) (tl : Addr) (pv : Value) (c1 c2 c3 c4 c5 c6 t2 t3 t4 : Tok) : Obj := dictOf [⟨PyData.keyHash P (Str.ofString "fp"), .str (Str.ofString "fp") c1, .ref x⟩,
  ⟨PyData.keyHash P (Str.ofString "buff"), .str (Str.ofString "buff") c2, .int buff t2⟩, ⟨PyData.keyHash P (Str.ofString "bpos"), .str (Str.ofString "bpos") c3, .int bpos t3⟩, ⟨PyData.keyHash P (Str.ofString "nbits"), .str (Str.ofString "nbits") c4, .int nb t4⟩,
  ⟨PyData.keyHash P (Str.ofString "table"), .str (Str.ofString "table") c5, .ref tl⟩, ⟨PyData.keyHash P (Str.ofString "prevbuf"), .str (Str.ofString "prevbuf") c6, pv⟩] 6

theorem arr_getD (b : Array UInt8) (i : Nat) : b.toList.getD i 0 = b.getD i 0 := by
  simp only [List.getD, Array.getD, Array.getElem?_toList]
  by_cases h : i < b.size <;> simp [h]
theorem readbits_c {b : Array UInt8} {t : Tok} {x dx ba z dz tl : Addr} {k1 k2 kt c1 c2 c3 c4 c5 c6 t2 t3 t4 : Tok} {q p : Nat} {buff bpos nb : Int} {pv : Value} {n : Int} {d u : Nat}
  (B : Below A₀ base outer h₀) (F : Fr h₀ L s.heap m) (X₀ : (Mine.K w.params).In h₀) (T : Top Mine.view loose mean mg mb h₀)
  (N : News h₀ L s.heap ((dz, lzwObj w.params x buff bpos nb tl pv c1 c2 c3 c4 c5 c6 t2 t3 t4) :: (z, instObj 113 dz) :: (dx, ioDict w.params ba q k1 k2 kt) :: (x, instObj 418 dx) :: (ba, baObj b) :: news))
  (hf : env.frame = some L) (hke : env.scope.kind = .function) (hd : d < 600) (hz : b.size ≤ 16777216) (hq : q ≤ b.size)
  (n1 : ltN' dx x) (n2 : ltN' x ba) (n3 : ltN' ba dz) (n4 : ltN' dz z) (hne : ∀ p ∈ news, p.1 ≠ dx) (hne2 : ∀ p ∈ news, p.1 ≠ dz)
  (I : RdInv b.toList q buff bpos p) (hn0 : 9 ≤ n) (hn1 : n ≤ 10)
  (hE : ∀ h' tk e t' g l, Fr h₀ L g m → g.UpToSlots h' → RaisedS base g (env :: outer) e (.ref 56) t' [] l h' → (∀ p ∈ news, p ∈ l) → 8 * (b.size : Int) < p + n → R (.error (.ref e)) {s with heap := h', toks := tk})
  (hok : ∀ h' tk (v : Int) tv q' buff' bpos' k2' kt' t2' t3', Fr h₀ L h' m → News h₀ L h' ((dz, lzwObj w.params x buff' bpos' nb tl pv c1 c2 c3 c4 c5 c6 t2' t3' t4) :: (z, instObj 113 dz) :: (dx, ioDict w.params ba (q' : Nat) k1 k2' kt') :: (x, instObj 418 dx) :: (ba, baObj b) :: news) →
    v = (bitsAt (bigOf b.toList) (8 * b.toList.length) p n.toNat : Nat) ∧ RdInv b.toList q' buff' bpos' (p + n.toNat) → R (.ok (.ret (.int v tv))) {s with heap := h', toks := tk}) :
  codeAny (model PySem.Challenge.rw_lc0007_01.row.prog w) ⟨none, d, some (env :: outer), some [], u⟩ (.call (.ref 98) ⟨[.ref z, .int n t], []⟩) R s := by
  w_top off
  k_with_none
  have X₁ := X₀; revert X₁; k_fill; intro X₁; clear X₁
  unfold ltN' at n1 n2 n3 n4
  have hb0 := I.2.2.2.2.1
  have hb1 := I.2.2.2.2.2.1
  have hp0 := I.2.2.1
  have hp1 := I.2.2.2.1
  refine' code_def B F X₀ N T rfl hf hke ?k6 ?k7 ?k8 ?k9 ?kB ?_ ?c2 ?c3 ?c4 ?c5
  case k6 => k_is
  case k7 => k_is
  case k8 => k_room
  case k9 => exact BindsTo.of_eq rfl
  case c5 => decide
  case kB => exact locs rfl
  case c2 => exact rfl
  case c3 => exact rfl
  case c4 => exact rfl
  intro g' L' h' FG' F' N' B' X' T'
  (try dsimp only); (try k_lift B'); (try k_fold)
  k_steps
  refine wpAny_call ?_
  refine' read1' ?rB ?rF ?rX ?rT (news_rot (by assumption)) ?rf ?rk ?rd ?rz ?rq ?r1 ?r2 ?r3 ?_
  case rB => k_asm
  case rF => k_asm
  case rX => k_asm
  case rT => k_asm
  case rf => rfl
  case rk => rfl
  case rd => k_room
  case rz => assumption
  case rq => assumption
  case r1 => assumption
  case r2 => assumption
  case r3 => k_all
  intro h' tk' t' r' q' k2' kt' F' N' rd'
  replace N' := news_tor N'
  (try k_sweep)
  rcases rd' with ⟨hq', e1', e2'⟩ | ⟨hq', e1', e2'⟩ <;> (subst r'; subst q')
  · k_steps
    refine truthy_b0 ?_
    k_steps
    show wpAny _ _ (exec (Stmt.Raise (some (Expr.Name _ _)) none _) _) _ _ _
    refine' raise_own (C := 56) (x' := Str.ofString "PDFEOFError") ?F ?X (own_56 ?X1 ?o2) PySem.F.excBase_Exception (by decide +kernel) Ex.base_EOF rfl (p1_56 _) (p2_56 _) (p3_56 _) (p4_56 _) (p5_56 _) ?hx ?_
    case F => k_asm
    case X => k_asm
    case X1 => k_asm
    case o2 => k_asm
    case hx =>
      refine' nameX_K ?F ?X ?T ?e ?_ ?a ?b
      case F => k_asm
      case X => k_asm
      case T => k_asm
      case a => rfl
      case b => rfl
      case e => k_is
      exact ⟨rfl, rfl⟩
    intro h' e' hm'
    k_steps
    show wpAny _ _ (leaving _ _) _ _ _
    refine' leave_raiseS ?k1 ?k0 ?k2 ?k3 ?_
    case k0 => assumption
    case k1 => assumption
    case k2 => assumption
    case k3 => k_asm
    intro h' t' RS' R' U'
    (try dsimp only at RS' R' U' ⊢)
    k_steps
    rename RaisedS _ _ _ _ _ _ _ _ _ => RZ
    rename Heap.UpToSlots _ _ => UZ
    exact hE _ _ _ _ _ _ (by assumption) UZ RZ (fun p hp => .tail _ (.tail _ (.tail _ (.tail _ (.tail _ hp))))) (by have := I.1; omega)
  k_steps
  refine truthy_b1 ?_
  k_steps
  refine ord_b1 ?_
  k_steps
  · rename Fr h₀ L _ m => FZ
    rename News h₀ L _ _ => NZ
    have hp := rb_two (l := b.toList) (n := n) I (by rw [Array.length_toList]; omega) (by omega) (by omega)
    simp only [arr_getD] at hp
    exact hok _ _ _ _ _ _ _ _ _ _ _ FZ NZ hp
  refine wpAny_call ?_
  refine' read1' ?rB ?rF ?rX ?rT (news_rot (by assumption)) ?rf ?rk ?rd ?rz ?rq ?r1 ?r2 ?r3 ?_
  case rB => k_asm
  case rF => k_asm
  case rX => k_asm
  case rT => k_asm
  case rf => rfl
  case rk => rfl
  case rd => k_room
  case rz => assumption
  case rq => assumption
  case r1 => assumption
  case r2 => assumption
  case r3 => k_all
  intro h' tk' t' r' q' k2' kt' F' N' rd'
  replace N' := news_tor N'
  (try k_sweep)
  rcases rd' with ⟨hq', e1', e2'⟩ | ⟨hq', e1', e2'⟩ <;> (subst r'; subst q')
  · k_steps
    refine truthy_b0 ?_
    k_steps
    show wpAny _ _ (exec (Stmt.Raise (some (Expr.Name _ _)) none _) _) _ _ _
    refine' raise_own (C := 56) (x' := Str.ofString "PDFEOFError") ?Fz ?Xz (own_56 ?X1z ?o2z) PySem.F.excBase_Exception (by decide +kernel) Ex.base_EOF rfl (p1_56 _) (p2_56 _) (p3_56 _) (p4_56 _) (p5_56 _) ?hxz ?_
    case Fz => k_asm
    case Xz => k_asm
    case X1z => k_asm
    case o2z => k_asm
    case hxz =>
      refine' nameX_K ?Fz ?Xz ?Tz ?ez ?_ ?az ?bz
      case Fz => k_asm
      case Xz => k_asm
      case Tz => k_asm
      case az => rfl
      case bz => rfl
      case ez => k_is
      exact ⟨rfl, rfl⟩
    intro h' e' hm'
    k_steps
    show wpAny _ _ (leaving _ _) _ _ _
    refine' leave_raiseS ?k1z ?k0z ?k2z ?k3z ?_
    case k0z => assumption
    case k1z => assumption
    case k2z => assumption
    case k3z => k_asm
    intro h' t' RS' R' U'
    (try dsimp only at RS' R' U' ⊢)
    k_steps
    rename RaisedS _ _ _ _ _ _ _ _ _ => RZ
    rename Heap.UpToSlots _ _ => UZ
    exact hE _ _ _ _ _ _ (by assumption) UZ RZ (fun p hp => .tail _ (.tail _ (.tail _ (.tail _ (.tail _ hp))))) (by have := I.1; omega)
  k_steps
  refine truthy_b1 ?_
  k_steps
  refine ord_b1 ?_
  k_steps
  rename Fr h₀ L _ m => FZ
  rename News h₀ L _ _ => NZ
  have hp := rb_three (l := b.toList) (n := n) I (by rw [Array.length_toList]; omega) (by omega) (by omega)
  simp only [arr_getD] at hp
  exact hok _ _ _ _ _ _ _ _ _ _ _ FZ NZ hp
end
section
theorem push_at {items : Array Value} {v : Value} {c : Int} (h : c = items.size) : (items.push v)[c.toNat]? = some v := by subst h; simp
theorem sl_size {b : Array UInt8} (h : b.size ≤ 1000000) : (KBw.bInts b).length ≤ 16777216 := by rw [KBw.ints_length]; omega
theorem add_size {p x : Array UInt8} {lo hi : Option Int} (h : p.size ≤ 1000000) (h2 : x.size ≤ 1000000) : p.size + (KBy.picked x lo hi).size ≤ 16777216 := by have := KBc.size_picked_le x lo hi; omega
variable {w : World} {A : Around} {A₀ : Around} {env : Env} {outer : List Env} {s : Shared} {base h₀ : Heap} {L : Addr} {m mg mb : Str → Option Value} {loose : List Str} {mean : ExcName → Option Value} {R : Result → Shared → Prop} {bm : Addr} {ob : Obj} {news : List (Addr × Obj)}

local macro_rules | `(tactic| walk_at "exec Raise some none") => `(tactic| refine stop_of ?_)
local macro_rules | `(tactic| walk_at "leaving ref") => `(tactic| refine stop_of ?_)
noncomputable abbrev neN' (a b : Nat) : Prop := a ≠ b
noncomputable abbrev tabObj (items : Array Value) (n : Nat) : Obj := { cls := .type "list", data := .seq items n }
theorem feed_257 {b : Array UInt8} {t : Tok} {x dx ba z dz tl : Addr} {k1 k2 kt c1 c2 c3 c4 c5 c6 t2 t3 t4 : Tok} {q nI : Nat} {buff bpos nb code : Int} {items : Array Value} {pb xb : Array UInt8} {tp tx : Tok} {d u : Nat}
  (B : Below A₀ base outer h₀) (F : Fr h₀ L s.heap m) (X₀ : (Mine.K w.params).In h₀) (T : Top Mine.view loose mean mg mb h₀)
  (N : News h₀ L s.heap ((tl, tabObj items nI) :: (dz, lzwObj w.params x buff bpos nb tl (.bytes pb tp) c1 c2 c3 c4 c5 c6 t2 t3 t4) :: (z, instObj 113 dz) :: news))
  (hf : env.frame = some L) (hke : env.scope.kind = .function) (hd : d < 600)
  (n3 : ltN' dz z) (n5 : neN' z tl) (n6 : neN' dz tl) (hne1 : ∀ p ∈ news, p.1 ≠ tl) (hne2 : ∀ p ∈ news, p.1 ≠ dz) (hi : items.size ≤ 600) (hi2 : items.size ≤ sizeLine) (hpb : pb.size ≤ 1000000)
  (hc : code = 257) (h : ∀ h' tk t', Fr h₀ L h' m → News h₀ L h' ((tl, tabObj items nI) :: (dz, lzwObj w.params x buff bpos nb tl (.bytes pb tp) c1 c2 c3 c4 c5 c6 t2 t3 t4) :: (z, instObj 113 dz) :: news) → R (.ok (.ret (.bytes #[] t'))) {s with heap := h', toks := tk}) :
  codeAny (model PySem.Challenge.rw_lc0007_01.row.prog w) ⟨none, d, some (env :: outer), some [], u⟩ (.call (.ref 103) ⟨[.ref z, .int code t], []⟩) R s := by
  subst hc
  w_top off
  k_with_none
  have X₁ := X₀; revert X₁; k_fill; intro X₁; clear X₁
  unfold ltN' at n3; unfold neN' at n5 n6
  refine' code_def B F X₀ N T rfl hf hke ?k6 ?k7 ?k8 ?k9 ?kB ?_ ?c2 ?c3 ?c4 ?c5
  case k6 => k_is
  case k7 => k_is
  case k8 => k_room
  case k9 => exact BindsTo.of_eq rfl
  case c5 => decide
  case kB => exact locs rfl
  case c2 => exact rfl
  case c3 => exact rfl
  case c4 => exact rfl
  intro g' L' h' FG' F' N' B' X' T'
  (try dsimp only); (try k_lift B'); (try k_fold)
  k_steps
  rename Fr h₀ L _ m => FZ
  rename News h₀ L _ _ => NZ
  exact h _ _ _ FZ NZ
theorem feed_first {b : Array UInt8} {t : Tok} {x dx ba z dz tl : Addr} {k1 k2 kt c1 c2 c3 c4 c5 c6 t2 t3 t4 : Tok} {q nI : Nat} {buff bpos nb code : Int} {items : Array Value} {pb xb : Array UInt8} {tp tx : Tok} {d u : Nat}
  (B : Below A₀ base outer h₀) (F : Fr h₀ L s.heap m) (X₀ : (Mine.K w.params).In h₀) (T : Top Mine.view loose mean mg mb h₀)
  (N : News h₀ L s.heap ((tl, tabObj items nI) :: (dz, lzwObj w.params x buff bpos nb tl (.bytes pb tp) c1 c2 c3 c4 c5 c6 t2 t3 t4) :: (z, instObj 113 dz) :: news))
  (hf : env.frame = some L) (hke : env.scope.kind = .function) (hd : d < 600)
  (n3 : ltN' dz z) (n5 : neN' z tl) (n6 : neN' dz tl) (hne1 : ∀ p ∈ news, p.1 ≠ tl) (hne2 : ∀ p ∈ news, p.1 ≠ dz) (hi : items.size ≤ 600) (hi2 : items.size ≤ sizeLine) (hpb : pb.size ≤ 1000000)
  (h0 : 0 ≤ code) (h1 : code < 256) (hpe : pb = #[]) (hx : items[code.toNat]? = some (.bytes xb tx)) (hxb : xb.size ≤ 1000000)
  (h : ∀ h' tk, Fr h₀ L h' m → News h₀ L h' ((tl, tabObj items nI) :: (dz, lzwObj w.params x buff bpos nb tl (.bytes xb tx) c1 c2 c3 c4 c5 c6 t2 t3 t4) :: (z, instObj 113 dz) :: news) → R (.ok (.ret (.bytes xb tx))) {s with heap := h', toks := tk}) :
  codeAny (model PySem.Challenge.rw_lc0007_01.row.prog w) ⟨none, d, some (env :: outer), some [], u⟩ (.call (.ref 103) ⟨[.ref z, .int code t], []⟩) R s := by
  subst hpe
  w_top off
  k_with_none
  have X₁ := X₀; revert X₁; k_fill; intro X₁; clear X₁
  unfold ltN' at n3; unfold neN' at n5 n6
  have h256 : code ≠ 256 := by omega
  have h257 : code ≠ 257 := by omega
  refine' code_def B F X₀ N T rfl hf hke ?k6 ?k7 ?k8 ?k9 ?kB ?_ ?c2 ?c3 ?c4 ?c5
  case k6 => k_is
  case k7 => k_is
  case k8 => k_room
  case k9 => exact BindsTo.of_eq rfl
  case c5 => decide
  case kB => exact locs rfl
  case c2 => exact rfl
  case c3 => exact rfl
  case c4 => exact rfl
  intro g' L' h' FG' F' N' B' X' T'
  (try dsimp only); (try k_lift B'); (try k_fold)
  k_steps
  refine' item_list ?hl ?h0 ?hf ?hx ?_
  case hl => exact News.isList (by k_asm) (by k_mem)
  case h0 => omega
  case hf => omega
  case hx => first | assumption | exact push_at (by assumption)
  k_steps
  rename Fr h₀ L _ m => FZ
  rename News h₀ L _ _ => NZ
  exact h _ _ FZ NZ
theorem feed_old {b : Array UInt8} {t : Tok} {x dx ba z dz tl : Addr} {k1 k2 kt c1 c2 c3 c4 c5 c6 t2 t3 t4 : Tok} {q nI : Nat} {buff bpos nb code : Int} {items : Array Value} {pb xb : Array UInt8} {tp tx : Tok} {d u : Nat}
  (B : Below A₀ base outer h₀) (F : Fr h₀ L s.heap m) (X₀ : (Mine.K w.params).In h₀) (T : Top Mine.view loose mean mg mb h₀)
  (N : News h₀ L s.heap ((tl, tabObj items nI) :: (dz, lzwObj w.params x buff bpos nb tl (.bytes pb tp) c1 c2 c3 c4 c5 c6 t2 t3 t4) :: (z, instObj 113 dz) :: news))
  (hf : env.frame = some L) (hke : env.scope.kind = .function) (hd : d < 600)
  (n3 : ltN' dz z) (n5 : neN' z tl) (n6 : neN' dz tl) (hne1 : ∀ p ∈ news, p.1 ≠ tl) (hne2 : ∀ p ∈ news, p.1 ≠ dz) (hi : items.size ≤ 600) (hi2 : items.size ≤ sizeLine) (hpb : pb.size ≤ 1000000)
  (h0 : 0 ≤ code) (h1 : code < items.size) (h256 : code ≠ 256) (h257 : code ≠ 257) (hpe : 0 < pb.size) (hx : items[code.toNat]? = some (.bytes xb tx)) (hxb : xb.size ≤ 1000000)
  (h : ∀ h' tk t4' tv nb', (nb' = if items.size + 1 = 511 then 10 else nb) → Fr h₀ L h' m → News h₀ L h' ((tl, tabObj (items.push (.bytes (pb ++ KBy.picked xb none (some 1)) tv)) (nI + 1)) :: (dz, lzwObj w.params x buff bpos nb' tl (.bytes xb tx) c1 c2 c3 c4 c5 c6 t2 t3 t4') :: (z, instObj 113 dz) :: news) → R (.ok (.ret (.bytes xb tx))) {s with heap := h', toks := tk}) :
  codeAny (model PySem.Challenge.rw_lc0007_01.row.prog w) ⟨none, d, some (env :: outer), some [], u⟩ (.call (.ref 103) ⟨[.ref z, .int code t], []⟩) R s := by
  w_top off
  k_with_none
  have X₁ := X₀; revert X₁; k_fill; intro X₁; clear X₁
  unfold ltN' at n3; unfold neN' at n5 n6
  refine' code_def B F X₀ N T rfl hf hke ?k6 ?k7 ?k8 ?k9 ?kB ?_ ?c2 ?c3 ?c4 ?c5
  case k6 => k_is
  case k7 => k_is
  case k8 => k_room
  case k9 => exact BindsTo.of_eq rfl
  case c5 => decide
  case kB => exact locs rfl
  case c2 => exact rfl
  case c3 => exact rfl
  case c4 => exact rfl
  intro g' L' h' FG' F' N' B' X' T'
  (try dsimp only); (try k_lift B'); (try k_fold)
  k_steps
  refine' item_list ?hl ?h0 ?hf ?hx ?_
  case hl => exact News.isList (by k_asm) (by k_mem)
  case h0 => omega
  case hf => omega
  case hx => first | assumption | exact push_at (by assumption)
  k_steps
  rename Fr _ _ _ _ => F₁
  rename News _ _ _ _ => N₁
  refine KBc.slice_K (s := ⟨_, _, _, _, _⟩) F₁ N₁ rfl (by constructor) (by constructor) (sl_size (by assumption)) ?_
  intro h' t' k' F' N' _
  k_steps
  refine KBy.add_bytes (add_size (by assumption) (by assumption)) ?_
  intro t' k'
  k_steps
  refine' call_len_list ?m1 ?m2 ?_
  case m1 => exact News.isList (by k_asm) (by k_mem)
  case m2 => simp only [Array.size_push]; omega
  k_steps
  all_goals (try simp only [Array.size_push] at *)
  all_goals first
    | (exfalso; omega)
    | (rename Fr h₀ L _ m => FZ; rename News h₀ L _ _ => NZ; exact h _ _ _ _ _ (if_pos (by omega)).symm FZ NZ)
    | (rename Fr h₀ L _ m => FZ; rename News h₀ L _ _ => NZ; exact h _ _ _ _ _ (if_neg (by omega)).symm FZ NZ)
theorem feed_new {b : Array UInt8} {t : Tok} {x dx ba z dz tl : Addr} {k1 k2 kt c1 c2 c3 c4 c5 c6 t2 t3 t4 : Tok} {q nI : Nat} {buff bpos nb code : Int} {items : Array Value} {pb xb : Array UInt8} {tp tx : Tok} {d u : Nat}
  (B : Below A₀ base outer h₀) (F : Fr h₀ L s.heap m) (X₀ : (Mine.K w.params).In h₀) (T : Top Mine.view loose mean mg mb h₀)
  (N : News h₀ L s.heap ((tl, tabObj items nI) :: (dz, lzwObj w.params x buff bpos nb tl (.bytes pb tp) c1 c2 c3 c4 c5 c6 t2 t3 t4) :: (z, instObj 113 dz) :: news))
  (hf : env.frame = some L) (hke : env.scope.kind = .function) (hd : d < 600)
  (n3 : ltN' dz z) (n5 : neN' z tl) (n6 : neN' dz tl) (hne1 : ∀ p ∈ news, p.1 ≠ tl) (hne2 : ∀ p ∈ news, p.1 ≠ dz) (hi : items.size ≤ 600) (hi2 : items.size ≤ sizeLine) (hpb : pb.size ≤ 1000000)
  (h1 : code = items.size) (h2 : 258 ≤ items.size) (hpe : 0 < pb.size)
  (h : ∀ h' tk t4' tv nb', (nb' = if items.size + 1 = 511 then 10 else nb) → Fr h₀ L h' m → News h₀ L h' ((tl, tabObj (items.push (.bytes (pb ++ KBy.picked pb none (some 1)) tv)) (nI + 1)) :: (dz, lzwObj w.params x buff bpos nb' tl (.bytes (pb ++ KBy.picked pb none (some 1)) tv) c1 c2 c3 c4 c5 c6 t2 t3 t4') :: (z, instObj 113 dz) :: news) → R (.ok (.ret (.bytes (pb ++ KBy.picked pb none (some 1)) tv))) {s with heap := h', toks := tk}) :
  codeAny (model PySem.Challenge.rw_lc0007_01.row.prog w) ⟨none, d, some (env :: outer), some [], u⟩ (.call (.ref 103) ⟨[.ref z, .int code t], []⟩) R s := by
  w_top off
  k_with_none
  have X₁ := X₀; revert X₁; k_fill; intro X₁; clear X₁
  unfold ltN' at n3; unfold neN' at n5 n6
  have h256 : code ≠ 256 := by omega
  have h257 : code ≠ 257 := by omega
  refine' code_def B F X₀ N T rfl hf hke ?k6 ?k7 ?k8 ?k9 ?kB ?_ ?c2 ?c3 ?c4 ?c5
  case k6 => k_is
  case k7 => k_is
  case k8 => k_room
  case k9 => exact BindsTo.of_eq rfl
  case c5 => decide
  case kB => exact locs rfl
  case c2 => exact rfl
  case c3 => exact rfl
  case c4 => exact rfl
  intro g' L' h' FG' F' N' B' X' T'
  (try dsimp only); (try k_lift B'); (try k_fold)
  k_steps
  rename Fr _ _ _ _ => F₁
  rename News _ _ _ _ => N₁
  refine KBc.slice_K (s := ⟨_, _, _, _, _⟩) F₁ N₁ rfl (by constructor) (by constructor) (sl_size (by assumption)) ?_
  intro h' t' k' F' N' _
  k_steps
  refine KBy.add_bytes (add_size (by assumption) (by assumption)) ?_
  intro t' k'
  k_steps
  refine' item_list ?hl ?h0 ?hf ?hx ?_
  case hl => exact News.isList (by k_asm) (by k_mem)
  case h0 => omega
  case hf => omega
  case hx => first | assumption | exact push_at (by assumption)
  k_steps
  refine' call_len_list ?m1 ?m2 ?_
  case m1 => exact News.isList (by k_asm) (by k_mem)
  case m2 => simp only [Array.size_push]; omega
  k_steps
  all_goals (try simp only [Array.size_push] at *)
  all_goals first
    | (exfalso; omega)
    | (rename Fr h₀ L _ m => FZ; rename News h₀ L _ _ => NZ; exact h _ _ _ _ _ (if_pos (by omega)).symm FZ NZ)
    | (rename Fr h₀ L _ m => FZ; rename News h₀ L _ _ => NZ; exact h _ _ _ _ _ (if_neg (by omega)).symm FZ NZ)
theorem feed_bad {b : Array UInt8} {t : Tok} {x dx ba z dz tl : Addr} {k1 k2 kt c1 c2 c3 c4 c5 c6 t2 t3 t4 : Tok} {q nI : Nat} {buff bpos nb code : Int} {items : Array Value} {pb xb : Array UInt8} {tp tx : Tok} {d u : Nat}
  (B : Below A₀ base outer h₀) (F : Fr h₀ L s.heap m) (X₀ : (Mine.K w.params).In h₀) (T : Top Mine.view loose mean mg mb h₀)
  (N : News h₀ L s.heap ((tl, tabObj items nI) :: (dz, lzwObj w.params x buff bpos nb tl (.bytes pb tp) c1 c2 c3 c4 c5 c6 t2 t3 t4) :: (z, instObj 113 dz) :: news))
  (hf : env.frame = some L) (hke : env.scope.kind = .function) (hd : d < 600)
  (n3 : ltN' dz z) (n5 : neN' z tl) (n6 : neN' dz tl) (hne1 : ∀ p ∈ news, p.1 ≠ tl) (hne2 : ∀ p ∈ news, p.1 ≠ dz) (hi : items.size ≤ 600) (hi2 : items.size ≤ sizeLine) (hpb : pb.size ≤ 1000000)
  (h1 : items.size < code) (h2 : 258 ≤ items.size) (hpe : 0 < pb.size)
  (hE : ∀ h' tk e t' g l, Fr h₀ L g m → g.UpToSlots h' → RaisedS base g (env :: outer) e (.ref 75) t' [] l h' → (∀ p ∈ news, p ∈ l) → R (.error (.ref e)) {s with heap := h', toks := tk}) :
  codeAny (model PySem.Challenge.rw_lc0007_01.row.prog w) ⟨none, d, some (env :: outer), some [], u⟩ (.call (.ref 103) ⟨[.ref z, .int code t], []⟩) R s := by
  w_top off
  k_with_none
  have X₁ := X₀; revert X₁; k_fill; intro X₁; clear X₁
  unfold ltN' at n3; unfold neN' at n5 n6
  have h256 : code ≠ 256 := by omega
  have h257 : code ≠ 257 := by omega
  refine' code_def B F X₀ N T rfl hf hke ?k6 ?k7 ?k8 ?k9 ?kB ?_ ?c2 ?c3 ?c4 ?c5
  case k6 => k_is
  case k7 => k_is
  case k8 => k_room
  case k9 => exact BindsTo.of_eq rfl
  case c5 => decide
  case kB => exact locs rfl
  case c2 => exact rfl
  case c3 => exact rfl
  case c4 => exact rfl
  intro g' L' h' FG' F' N' B' X' T'
  (try dsimp only); (try k_lift B'); (try k_fold)
  k_steps
  show wpAny _ _ (exec (Stmt.Raise (some (Expr.Name _ _)) none _) _) _ _ _
  refine' raise_own (C := 75) (x' := Str.ofString "CorruptDataError") ?F ?X (own_75 ?X1 ?o2) PySem.F.excBase_Exception (by decide +kernel) PySem.F.excBase_Exception rfl (p1_75 _) (p2_75 _) (p3_75 _) (p4_75 _) (p5_75 _) ?hx ?_
  case F => k_asm
  case X => k_asm
  case X1 => k_asm
  case o2 => k_asm
  case hx =>
    refine' nameX_K ?F ?X ?T ?e ?_ ?a ?b
    case F => k_asm
    case X => k_asm
    case T => k_asm
    case a => rfl
    case b => rfl
    case e => k_is
    exact ⟨rfl, rfl⟩
  intro h' e' hm'
  k_steps
  show wpAny _ _ (leaving _ _) _ _ _
  refine' leave_raiseS ?k1 ?k0 ?k2 ?k3 ?_
  case k0 => assumption
  case k1 => assumption
  case k2 => assumption
  case k3 => k_asm
  intro h' t' RS' R' U'
  (try dsimp only at RS' R' U' ⊢)
  k_steps
  rename RaisedS _ _ _ _ _ _ _ _ _ => RZ
  rename Heap.UpToSlots _ _ => UZ
  exact hE _ _ _ _ _ _ (by assumption) UZ RZ (fun p hp => .tail _ (.tail _ (.tail _ hp)))
end
section
local macro_rules | `(tactic| walk_at "eval ListComp") => `(tactic| refine stop_of ?_)
local macro_rules | `(tactic| walk_at "CompSrc") => `(tactic| refine stop_of ?_)
theorem bend_of {h₀ h' : Heap} {L : Addr} {m : Str → Option Value} {s₁ : Shared} {a : Addr × Obj} {l : List (Addr × Obj)} {i : Nat} {t : Tok} {k : Nat} (F : Fr h₀ L h' m) (N : News h₀ L h' (a :: l)) :
    BEnd h₀ L m s₁ l i (.bytes #[(0 + (i : Int)).toNat.toUInt8] t) { s₁ with heap := h', toks := k } := by
  have e : (0 + (i : Int)).toNat = i := by omega
  exact ⟨⟨t, by rw [e]⟩, h', k, rfl, F, news_tail N⟩
theorem news_drop_at1 {h₀ h : Heap} {L : Addr} {a b : Addr × Obj} {l : List (Addr × Obj)} (N : News h₀ L h (a :: b :: l)) : News h₀ L h (a :: l) := fun p hp => N p (by
  rcases List.mem_cons.mp hp with rfl | hp
  · exact List.mem_cons_self
  · exact .tail _ (.tail _ hp))
theorem off1_mem {D : Addr} : ∀ {l : List (Addr × Obj)}, LCg.Off1 D l → ∀ p ∈ l, p.1 ≠ D
  | [], _, _, h => nomatch h
  | _ :: _, x, p, h => by
    rcases List.mem_cons.mp h with rfl | h
    · exact x.1
    · exact off1_mem x.2 p h
theorem off1_tail {D : Addr} {a b c : Addr × Obj} {l : List (Addr × Obj)} (x : LCg.Off1 D (a :: b :: c :: l)) : ∀ p ∈ l, p.1 ≠ D := off1_mem x.2.2.2
variable {w : World} {A : Around} {A₀ : Around} {env : Env} {outer : List Env} {s : Shared} {base h₀ : Heap} {L : Addr} {m mg mb : Str → Option Value} {loose : List Str} {mean : ExcName → Option Value} {R : Result → Shared → Prop} {bm : Addr} {ob : Obj} {news : List (Addr × Obj)}
local macro_rules | `(tactic| walk_at "idle") => `(tactic| skip)
theorem feed_256 {t : Tok} {x dz z tl : Addr} {c1 c2 c3 c4 c5 c6 t2 t3 t4 : Tok} {nI : Nat} {buff bpos nb : Int} {items : Array Value} {pv : Value} {d u : Nat}
  (B : Below A₀ base outer h₀) (F : Fr h₀ L s.heap m) (X₀ : (Mine.K w.params).In h₀) (T : Top Mine.view loose mean mg mb h₀)
  (N : News h₀ L s.heap ((tl, tabObj items nI) :: (dz, lzwObj w.params x buff bpos nb tl pv c1 c2 c3 c4 c5 c6 t2 t3 t4) :: (z, instObj 113 dz) :: news))
  (hf : env.frame = some L) (hke : env.scope.kind = .function) (hd : d < 600)
  (n3 : ltN' dz z) (n5 : neN' z tl) (n6 : neN' dz tl) (hne1 : ∀ p ∈ news, p.1 ≠ tl) (hne2 : ∀ p ∈ news, p.1 ≠ dz)
  (h : ∀ h' tk D ys n' t' tp' t4', Fr h₀ L h' m → ys.length = 256 → Octets ys → News h₀ L h' ((D, tabObj ((ys.toArray.push .none).push .none) n') :: (dz, lzwObj w.params x buff bpos 9 D (.bytes #[] tp') c1 c2 c3 c4 c5 c6 t2 t3 t4') :: (z, instObj 113 dz) :: news) →
    (∀ p ∈ news, p.1 ≠ D) → neN' z D → neN' dz D → R (.ok (.ret (.bytes #[] t'))) {s with heap := h', toks := tk}) :
  codeAny (model PySem.Challenge.rw_lc0007_01.row.prog w) ⟨none, d, some (env :: outer), some [], u⟩ (.call (.ref 103) ⟨[.ref z, .int 256 t], []⟩) R s := by
  w_top off
  k_with_none
  have X₁ := X₀; revert X₁; k_fill; intro X₁; clear X₁
  unfold ltN' at n3; unfold neN' at n5 n6
  refine' code_def B F X₀ N T rfl hf hke ?k6 ?k7 ?k8 ?k9 ?kB ?_ ?c2 ?c3 ?c4 ?c5
  case k6 => k_is
  case k7 => k_is
  case k8 => k_room
  case k9 => exact BindsTo.of_eq rfl
  case c5 => decide
  case kB => exact locs rfl
  case c2 => exact rfl
  case c3 => exact rfl
  case c4 => exact rfl
  intro g' L' h' FG' F' N' B' X' T'
  (try dsimp only); (try k_lift B'); (try k_fold)
  k_steps
  show wpAny _ _ (eval _ _) _ _ _
  refine LCg.ListComp_U (F₀ := by k_asm) (by rfl) (by decide) (by rfl) (by decide) (by rfl) ?_
  lcg_toSrc
  k_steps
  unfold Stop
  refine LCg.CompSrc.range (n := 256) (by rfl) (by k_asm) (by k_asm) (by assumption) (by first | decide | rfl) (by first | rfl | decide) (by first | size_fits | exact Nat.le_of_ble_eq_true rfl) ?_
  intro g'
  refine comp_all (fun i' t' I' oI' C' oC' D' m' h' tk' E' ys' hi' hC' hx' F' N' off' ne' => ?_) (fun ys' hys' hoc' => ?_)
  all_goals (try (rename LCg.Off3 _ _ _ _ => off'; simp only [LCg.Off3, and_true] at off'))
  · k_steps
    rename Fr _ _ _ _ => F₁
    rename News _ _ _ _ => N₁
    refine' call_bytes_tup rfl ?ht ?h0 ?h1 ?_
    case ht => exact ⟨_, News.get N₁ (by k_mem), rfl, _, rfl⟩
    case h0 => omega
    case h1 => omega
    intro h' t' k' hk'
    replace F₁ := F₁.keeps hk'
    replace N₁ := News.keeps N₁ hk'
    k_steps
    rename News _ _ _ _ => NZ
    rename Fr _ _ _ _ => FZ
    exact bend_of FZ NZ
  · unfold LCg.FinE
    intro D' h' tk' F' N' o1'
    have o2' := off1_tail o1'
    (try simp only [LCg.Off1, and_true] at o1')
    k_steps
    rename Fr h₀ L _ m => FZ
    rename News h₀ L _ _ => NZ
    rename _ ∧ _ ∧ _ ∧ _ => OZ
    exact h _ _ _ _ _ _ _ _ FZ (by assumption) (by assumption) (news_drop_at1 NZ) (by assumption) OZ.2.2.1 OZ.2.1
end
section
/-! The decoder, told abstractly. -/
structure DSt where
  p : Nat
  init : Bool
  T : List (Array UInt8)
  pb : Array UInt8
  nb : Nat

/-- a code's bytes, by the table -/
noncomputable def entry (T : List (Array UInt8)) (c : Nat) : Option (Array UInt8) := if c < 256 then some #[c.toUInt8] else if c < 258 then none else T[c - 258]?
noncomputable def nbAfter (n k : Nat) : Nat := if 258 + k = 511 then 10 else n
noncomputable def codeAt (b : Array UInt8) (σ : DSt) : Nat := bitsAt (bigOf b.toList) (8 * b.toList.length) σ.p σ.nb
noncomputable def first1 (x : Array UInt8) : Array UInt8 := KBy.picked x none (some 1)

inductive Run (b : Array UInt8) : DSt → List (Array UInt8) → Prop
  | eof {σ} : 8 * b.size < σ.p + σ.nb → Run b σ []
  | bad {σ} : σ.p + σ.nb ≤ 8 * b.size → σ.init = true → σ.T.length ≤ 300 → σ.pb.size ≤ 1000000 → 0 < σ.pb.size → 258 + σ.T.length < codeAt b σ → Run b σ []
  | clear {σ l} : σ.p + σ.nb ≤ 8 * b.size → codeAt b σ = 256 → Run b ⟨σ.p + σ.nb, true, [], #[], 9⟩ l → Run b σ (#[] :: l)
  | stop {σ l} : σ.p + σ.nb ≤ 8 * b.size → σ.init = true → σ.T.length ≤ 300 → σ.pb.size ≤ 1000000 → codeAt b σ = 257 → Run b { σ with p := σ.p + σ.nb } l → Run b σ (#[] :: l)
  | first {σ l} : σ.p + σ.nb ≤ 8 * b.size → σ.init = true → σ.T.length ≤ 300 → σ.pb.size ≤ 1000000 → σ.pb = #[] → codeAt b σ < 256 → Run b { σ with p := σ.p + σ.nb, pb := #[(codeAt b σ).toUInt8] } l → Run b σ (#[(codeAt b σ).toUInt8] :: l)
  | old {σ x l} : σ.p + σ.nb ≤ 8 * b.size → σ.init = true → σ.T.length ≤ 300 → σ.pb.size ≤ 1000000 → 0 < σ.pb.size → entry σ.T (codeAt b σ) = some x → x.size ≤ 1000000 →
      Run b ⟨σ.p + σ.nb, true, σ.T ++ [σ.pb ++ first1 x], x, nbAfter σ.nb (σ.T.length + 1)⟩ l → Run b σ (x :: l)
  | new {σ l} : σ.p + σ.nb ≤ 8 * b.size → σ.init = true → σ.T.length ≤ 300 → σ.pb.size ≤ 1000000 → 0 < σ.pb.size → codeAt b σ = 258 + σ.T.length →
      Run b ⟨σ.p + σ.nb, true, σ.T ++ [σ.pb ++ first1 σ.pb], σ.pb ++ first1 σ.pb, nbAfter σ.nb (σ.T.length + 1)⟩ l → Run b σ ((σ.pb ++ first1 σ.pb) :: l)

/-- the table's list, by the pieces -/
noncomputable def TabIs (items : Array Value) (T : List (Array UInt8)) : Prop :=
  items.size = 258 + T.length ∧ (∀ i, i < 256 → ∃ t, items[i]? = some (.bytes #[i.toUInt8] t)) ∧ ∀ j x, T[j]? = some x → ∃ t, items[258 + j]? = some (.bytes x t)
theorem tabIs_init {ys : List Value} (h : ys.length = 256) (o : Octets ys) : TabIs ((ys.toArray.push .none).push .none) [] := by
  refine ⟨by simp [h], fun i hi => ?_, fun j x hx => by simp at hx⟩
  obtain ⟨t, e⟩ := o i (by omega)
  refine ⟨t, ?_⟩
  rw [Array.getElem?_push, Array.getElem?_push]
  simp only [Array.size_push, List.size_toArray, h]
  rw [if_neg (by omega), if_neg (by omega)]
  simpa using e
theorem tabIs_push {items : Array Value} {T : List (Array UInt8)} (h : TabIs items T) (x : Array UInt8) (t : Tok) : TabIs (items.push (.bytes x t)) (T ++ [x]) := by
  obtain ⟨h1, h2, h3⟩ := h
  refine ⟨by simp [h1]; omega, fun i hi => ?_, fun j y hy => ?_⟩
  · obtain ⟨t', e⟩ := h2 i hi
    refine ⟨t', ?_⟩
    rw [Array.getElem?_push, if_neg (by omega)]
    exact e
  · rw [List.getElem?_append] at hy
    by_cases hj : j < T.length
    · rw [if_pos hj] at hy
      obtain ⟨t', e⟩ := h3 j y hy
      refine ⟨t', ?_⟩
      rw [Array.getElem?_push, if_neg (by omega)]
      exact e
    · rw [if_neg hj] at hy
      have : j = T.length := by
        rcases Nat.lt_or_ge (j - T.length) 1 with h | h
        · omega
        · rw [List.getElem?_eq_none (by simpa using h)] at hy; cases hy
      subst this
      rw [Nat.sub_self] at hy
      cases hy
      refine ⟨t, ?_⟩
      rw [← h1, Array.getElem?_push, if_pos rfl]
theorem tabIs_entry {items : Array Value} {T : List (Array UInt8)} (h : TabIs items T) {c : Nat} {x : Array UInt8} (e : entry T c = some x) : (∃ t, items[c]? = some (.bytes x t)) ∧ c < items.size ∧ c ≠ 256 ∧ c ≠ 257 := by
  obtain ⟨h1, h2, h3⟩ := h
  unfold entry at e
  by_cases h256 : c < 256
  · rw [if_pos h256] at e
    cases e
    exact ⟨h2 c h256, by omega, by omega, by omega⟩
  · rw [if_neg h256] at e
    by_cases h258 : c < 258
    · rw [if_pos h258] at e; cases e
    · rw [if_neg h258] at e
      obtain ⟨t, e'⟩ := h3 _ _ e
      have hlt := (List.getElem?_eq_some_iff.mp e).1
      have : 258 + (c - 258) = c := by omega
      rw [this] at e'
      exact ⟨⟨t, e'⟩, by omega, by omega, by omega⟩

noncomputable def runM (z : Addr) (co xo : Option Value) : Str → Option Value := fun y => if y = Str.ofString "x" then xo else if y = Str.ofString "code" then co else if y = Str.ofString "self" then some (.ref z) else none

/-- the reader's and the decoder's objects, and what lies beside them -/
noncomputable abbrev ledger (P : Params) (b : Array UInt8) (x dx ba z dz tl : Addr) (q : Nat) (buff bpos nb : Int) (items : Array Value) (nI : Nat) (pv : Value) (k1 k2 kt c1 c2 c3 c4 c5 c6 t2 t3 t4 : Tok) (rest : List (Addr × Obj)) : List (Addr × Obj) :=
  (tl, tabObj items nI) :: (dz, lzwObj P x buff bpos nb tl pv c1 c2 c3 c4 c5 c6 t2 t3 t4) :: (z, instObj 113 dz) :: (dx, ioDict P ba q k1 k2 kt) :: (x, instObj 418 dx) :: (ba, baObj b) :: rest

structure Order (Lg S I x dx ba z dz : Nat) : Prop where
  o1 : dx < x
  o2 : x < ba
  o3 : ba < dz
  o4 : dz < z
  o5 : z < Lg
  o6 : Lg < I
  o7 : I < S

inductive DRun (P : Params) (gt : Heap) (Lg : Addr) (b : Array UInt8) (S I x dx ba z dz : Addr) (oI : Obj) (l : List (Array UInt8)) (oS : Obj) (h : Heap) : Prop
  | mk (σ : DSt) (co xo : Option Value) (q nI : Nat) (buff bpos : Int) (tl : Addr) (items : Array Value) (pv : Value) (k1 k2 kt c1 c2 c3 c4 c5 c6 t2 t3 t4 : Tok)
    (hr : Run b σ l) (hI : RdInv b.toList q buff bpos σ.p) (h9 : 9 ≤ σ.nb) (h10 : σ.nb ≤ 10) (ht : σ.init = true → TabIs items σ.T ∧ ∃ tp, pv = .bytes σ.pb tp)
    (hne : neN' z tl ∧ neN' dz tl ∧ neN' dx tl ∧ neN' x tl ∧ neN' ba tl ∧ neN' S tl ∧ neN' I tl)
    (F : Fr gt Lg h (runM z co xo)) (N : News gt Lg h (ledger P b x dx ba z dz tl q buff bpos σ.nb items nI pv k1 k2 kt c1 c2 c3 c4 c5 c6 t2 t3 t4 [(S, oS), (I, oI)])) : DRun P gt Lg b S I x dx ba z dz oI l oS h

theorem drun_move {P : Params} {gt : Heap} {Lg : Addr} {b : Array UInt8} {S I x dx ba z dz : Addr} {oI : Obj} (o : Order Lg S I x dx ba z dz) (hgS : gt.get? S = none)
    (l : List (Array UInt8)) (oS : Obj) (h : Heap) (oS' : Obj) (h' : Heap) (D : DRun P gt Lg b S I x dx ba z dz oI l oS h) (hk : ∀ b o, b ≠ S → h.get? b = some o → h'.get? b = some o) (hS : h'.get? S = some oS') :
    DRun P gt Lg b S I x dx ba z dz oI l oS' h' := by
  obtain ⟨σ, co, xo, q, nI, buff, bpos, tl, items, pv, k1, k2, kt, c1, c2, c3, c4, c5, c6, t2, t3, t4, hr, hI, h9, h10, ht, hne, F, N⟩ := D
  have o5 := o.o5
  have o6 := o.o6
  have o7 := o.o7
  have o4 := o.o4
  have o3 := o.o3
  have o2 := o.o2
  have o1 := o.o1
  have hLS : Lg ≠ S := Nat.ne_of_lt (Nat.lt_trans o6 o7)
  refine ⟨σ, co, xo, q, nI, buff, bpos, tl, items, pv, k1, k2, kt, c1, c2, c3, c4, c5, c6, t2, t3, t4, hr, hI, h9, h10, ht, hne, ⟨F.ns.at' fun o e => hk _ _ hLS e, fun b o e => hk b o (fun q => by rw [q, hgS] at e; cases e) (F.keep b o e), F.above⟩, ?_⟩
  have key : ∀ p ∈ ledger P b x dx ba z dz tl q buff bpos σ.nb items nI pv k1 k2 kt c1 c2 c3 c4 c5 c6 t2 t3 t4 [(S, oS), (I, oI)], p.1 ≠ S → h'.get? p.1 = some p.2 ∧ p.1 ≠ Lg ∧ gt.get? p.1 = none := fun p hp hne => ⟨hk _ _ hne (N p hp).1, (N p hp).2⟩
  have hSN := (N (S, oS) (by simp [ledger])).2
  obtain ⟨n1, n2, n3, n4, n5, n6, n7⟩ := hne
  unfold neN' at n1 n2 n3 n4 n5 n6 n7
  have a1 : @Ne Nat z S := by omega
  have a2 : @Ne Nat dz S := by omega
  have a3 : @Ne Nat dx S := by omega
  have a4 : @Ne Nat x S := by omega
  have a5 : @Ne Nat ba S := by omega
  have a6 : @Ne Nat I S := by omega
  intro p hp
  simp only [ledger, List.mem_cons, List.not_mem_nil, or_false] at hp key
  rcases hp with rfl | rfl | rfl | rfl | rfl | rfl | rfl | rfl
  · exact key _ (by simp) (Ne.symm n6)
  · exact key _ (by simp) a2
  · exact key _ (by simp) a1
  · exact key _ (by simp) a3
  · exact key _ (by simp) a4
  · exact key _ (by simp) a5
  · exact ⟨hS, hSN⟩
  · exact key _ (by simp) a6
end
section
section
variable {prog : Program} {w : World} {E : Value → Shared → Prop} {s : Shared} {Q : Value → Shared → Prop}
theorem push_set {α : Type} (a : Array α) (x y : α) : (a.push x).setIfInBounds a.size y = a.push y := by
  obtain ⟨l⟩ := a
  apply Array.ext'
  simp only [List.push_toArray, List.size_toArray, List.setIfInBounds_toArray]
  rw [List.set_append_right _ _ (Nat.le_refl _), Nat.sub_self]
  rfl
theorem rdinv_start (l : List UInt8) : RdInv l 0 0 8 0 := ⟨by omega, by omega, by omega, by omega, by omega, by omega, fun _ => rfl, fun h => absurd h (by omega)⟩

theorem join_run {P : Params} {g : Heap} {L Lg I tl z dz ba x dx : Addr} {m : Str → Option Value} {oI oL : Obj} {c1 c2 c3 c4 c5 c6 t2 t3 t4 k1 k2 kt t : Tok} {b : Array UInt8} {news : List (Addr × Obj)} {gs0 : Array GenState} {test : Expr} {st1 st2 : Stmt} {ey : Expr} {yp ep wp : Pos} {envr : Env} {outs : List (Array UInt8)}
    {d u : Nat} {fr : List Env} {fsl : List Addr}
    (F : Fr g L s.heap m) (N : News g L s.heap ((I, oI) :: (Lg, oL) :: (tl, tabObj #[] 0) :: (z, instObj 113 dz) :: (dz, lzwObj P x 0 8 9 tl .none c1 c2 c3 c4 c5 c6 t2 t3 t4) :: (ba, baObj b) :: (x, instObj 418 dx) :: (dx, ioDict P ba (0 : Nat) k1 k2 kt) :: news))
    (o1 : ltN' dx x) (o2 : ltN' x ba) (o3 : ltN' ba dz) (o4 : ltN' dz z) (o5 : ltN' z tl) (o6 : ltN' tl Lg) (o7 : ltN' Lg I)
    (hNo : LCg.NsObj oL (runM z none none)) (hIg : ∀ u : Heap, u.get? I = some oI → u.IsGen I gs0.size)
    (hgs : s.gens = gs0.push (.fresh (.func [.While test [st1, st2, .Expr (.Yield (some ey) yp) ep] [] wp] envr)))
    (hrun : Run b ⟨0, false, [], #[], 9⟩ outs) (hlen : outs.length ≤ sizeLine) (htot : (outs.foldl (· ++ ·) #[]).size ≤ 16777216) (hd : d < 900)
    (hlim : (ground s.heap [tl, z, dz, ba, x, dx] Lg).NoLimit) (hco : envr.scope.isCoroutine = false) (hi : interactive envr = false)
    (Ht : ∀ u s E, wpAny (model prog w) ((⟨none, d, some fr, some [], u⟩ : Around).deeper envr) (isTrue test envr (eval test envr)) (fun b s' => b = true ∧ ∃ tk, s' = { s with toks := tk }) E s)
    (Hturn : ∀ u S, Order Lg S I x dx ba z dz → (ground s.heap [tl, z, dz, ba, x, dx] Lg).get? S = none →
      TurnG prog w ((⟨none, d, some fr, some [], u⟩ : Around).deeper envr) envr fsl (ground s.heap [tl, z, dz, ba, x, dx] Lg) S I oI nextL (DRun P (ground s.heap [tl, z, dz, ba, x, dx] Lg) Lg b S I x dx ba z dz oI) st1 st2 ey)
    (hQ : ∀ h' tk t' g'', KtsTurn fsl (ground s.heap [tl, z, dz, ba, x, dx] Lg) g'' → (∀ b o, g''.get? b = some o → h'.get? b = some o) → Q (.bytes (outs.foldl (· ++ ·) #[]) t') { s with heap := h', toks := tk, gens := gs0.push .finished }) :
    wpAny (model prog w) ⟨none, d, some fr, some [], u⟩ (call (.builtin "bytes.join") [.bytes #[] t, .ref I]) Q E s := by
  unfold ltN' at *
  have hgI := (N (I, oI) (by simp)).1
  have hgL := (N (Lg, oL) (by simp)).1
  have hSI : I < s.heap.objs.size := Heap.lt_size hgI
  have ord : Order Lg s.heap.objs.size I x dx ba z dz := ⟨o1, o2, o3, o4, Nat.lt_trans o5 o6, o7, hSI⟩
  have hgS : (ground s.heap [tl, z, dz, ba, x, dx] Lg).get? s.heap.objs.size = none := ground_high (Nat.le_of_lt (Nat.lt_trans o7 hSI))
  have hkeep : ∀ b o, (ground s.heap [tl, z, dz, ba, x, dx] Lg).get? b = some o → s.heap.get? b = some o := fun b o e => ground_of e
  have hD : ∀ (h' : Heap) oS, (∀ b o, b ≠ s.heap.objs.size → (s.heap.push { cls := .type "list", data := .seq #[] }).get? b = some o → h'.get? b = some o) → h'.get? s.heap.objs.size = some oS →
      DRun P (ground s.heap [tl, z, dz, ba, x, dx] Lg) Lg b s.heap.objs.size I x dx ba z dz oI outs oS h' := by
    intro h' oS hk hS
    have up : ∀ b o, s.heap.get? b = some o → h'.get? b = some o := fun b o e => hk b o (Nat.ne_of_lt (Heap.lt_size e)) (Heap.get?_push_of_some _ e)
    refine ⟨⟨0, false, [], #[], 9⟩, none, none, 0, 0, 0, 8, tl, #[], .none, k1, k2, kt, c1, c2, c3, c4, c5, c6, t2, t3, t4, hrun, rdinv_start _, by decide, by decide, fun h => (by cases h), ?_,
      ground_run (fun b o e => up b o (hkeep b o e)) (up _ _ hgL) hNo, ground_news ?_ ?_ ?_⟩
    · unfold neN'
      refine ⟨by omega, by omega, by omega, by omega, by omega, ?_, ?_⟩
      · have : tl < s.heap.objs.size := Nat.lt_trans o6 (Nat.lt_trans o7 hSI)
        exact Nat.ne_of_gt this
      · exact Nat.ne_of_gt (Nat.lt_trans o6 o7)
    · intro p hp
      simp only [ledger, List.mem_cons, List.not_mem_nil, or_false] at hp
      rcases hp with rfl | rfl | rfl | rfl | rfl | rfl | rfl | rfl
      · exact up _ _ (N _ (by simp)).1
      · exact up _ _ (N _ (by simp)).1
      · exact up _ _ (N _ (by simp)).1
      · exact up _ _ (N _ (by simp)).1
      · exact up _ _ (N _ (by simp)).1
      · exact up _ _ (N _ (by simp)).1
      · exact hS
      · exact up _ _ hgI
    · intro p hp
      simp only [ledger, List.mem_cons, List.not_mem_nil, or_false] at hp
      rcases hp with rfl | rfl | rfl | rfl | rfl | rfl | rfl | rfl
      · exact .inl (by simp)
      · exact .inl (by simp)
      · exact .inl (by simp)
      · exact .inl (by simp)
      · exact .inl (by simp)
      · exact .inl (by simp)
      · exact .inr (Nat.lt_trans o7 hSI)
      · exact .inr o7
    · intro hm
      simp only [List.mem_cons, List.not_mem_nil, or_false] at hm
      rcases hm with h | h | h | h | h | h <;> (have h9 : @Eq Nat Lg _ := h; omega)
  refine join_gen (g := gs0.size) (St := StG prog w _ fsl (ground s.heap [tl, z, dz, ba, x, dx] Lg) s.heap.objs.size I oI outs gs0.size { s with heap := s.heap.push { cls := .type "list", data := .seq #[] } })
    (Fi := FiG fsl (ground s.heap [tl, z, dz, ba, x, dx] Lg) s.heap.objs.size I oI gs0.size { s with heap := s.heap.push { cls := .type "list", data := .seq #[] } })
    (genIt rfl (by show d < recursionLimit; rw [show recursionLimit = 1000 from rfl]; omega) hlim hIg (Nat.ne_of_lt hSI) hgS) (hIg _ hgI) ?_ (fun s' t' k hf => ?_) hlen htot
  · refine ⟨_, _, rfl, rfl, by rw [hgs]; exact Array.getElem?_push_size, Heap.get?_push_size _ rfl, Heap.get?_push_of_some _ hgI, fun b o e => Heap.get?_push_of_some _ (hkeep b o e), fun h' hk hS' => ?_⟩
    obtain ⟨oS', hS'⟩ := hS'
    have upI : h'.get? I = some oI := hk _ _ (Nat.ne_of_lt hSI) (Heap.get?_push_of_some _ hgI)
    exact goes_fresh (D := DRun P (ground s.heap [tl, z, dz, ba, x, dx] Lg) Lg b s.heap.objs.size I x dx ba z dz oI) (next := nextL) (σ := outs) (oS := oS') (fun k p => rfl) (Ht _) (Hturn _ _ ord hgS) hco hi
      (fun σ oS h oS' h' D hk hS => drun_move ord hgS σ oS h oS' h' D hk hS) (Nat.ne_of_lt hSI) hgS (outs_self outs) hS'
      ⟨h', _, rfl, hS', upI, fun b o e => hk b o (fun q => by rw [q, hgS] at e; cases e) (Heap.get?_push_of_some _ (hkeep b o e))⟩ (hD h' oS' hk hS')
  · obtain ⟨e1, g'', kt', hk⟩ := hf
    rw [e1]
    have := hQ s'.heap k t' g'' kt' hk
    have e2 : (s.gens.setIfInBounds gs0.size GenState.finished) = gs0.push .finished := by rw [hgs]; exact push_set _ _ _
    show Q _ { s with heap := s'.heap, toks := k, gens := s.gens.setIfInBounds gs0.size .finished }
    rw [e2]
    exact this
end
end
section
local macro_rules | `(tactic| walk_at "call ref") => `(tactic| refine stop_of ?_)
variable {w : World} {A : Around} {A₀ : Around} {env : Env} {outer : List Env} {s : Shared} {base h₀ : Heap} {L : Addr} {m mg mb : Str → Option Value} {loose : List Str} {mean : ExcName → Option Value} {R : Result → Shared → Prop} {bm : Addr} {ob : Obj} {news : List (Addr × Obj)}


theorem self_look (z : Addr) : (fun y => List.lookup y [(Str.ofString "self", Value.ref z)]) = runM z none none := by
  funext y
  unfold runM
  by_cases h : y = Str.ofString "self"
  · subst h; rfl
  · have hb : (y == Str.ofString "self") = false := by simpa using h
    simp only [List.lookup, hb, if_neg h]
    split
    · rfl
    · split <;> rfl
theorem turn_wrap {M : Model} {A A' : Around} {g gt : Heap} {a : Addr} {name : Str} {scope : Scope} {cd : Value} {envr : Env} {α : Type} {tr : Sem α} {Q : α → Shared → Prop} {E : Value → Shared → Prop} (B : Below A base outer g) (F : Fr g L gt m) (hA : A'.frames = some (envOf name scope L a cd :: outer)) (hk : scope.kind = .function)
    (k : Below A' base (envOf name scope L a cd :: outer) gt → wpAny M (A'.deeper envr) tr Q E s) : wpAny M (A'.deeper envr) tr Q E s :=
  let K := B.push (name := name) (a := a) (cd := cd) F hk
  k ⟨hA, K.stays, K.frames⟩
theorem news_cyc {h₀ h : Heap} {L : Addr} {a b c d e f : Addr × Obj} {l : List (Addr × Obj)} (N : News h₀ L h (a :: b :: c :: d :: e :: f :: l)) : News h₀ L h (b :: c :: d :: e :: f :: a :: l) := fun p hp => N p (by
  simp only [List.mem_cons] at hp ⊢; rcases hp with h | h | h | h | h | h | h <;> simp only [h, true_or, or_true])
theorem news_ccy {h₀ h : Heap} {L : Addr} {a b c d e f : Addr × Obj} {l : List (Addr × Obj)} (N : News h₀ L h (b :: c :: d :: e :: f :: a :: l)) : News h₀ L h (a :: b :: c :: d :: e :: f :: l) := fun p hp => N p (by
  simp only [List.mem_cons] at hp ⊢; rcases hp with h | h | h | h | h | h | h <;> simp only [h, true_or, or_true])
theorem run_eofE {b : Array UInt8} {σ : DSt} {l : List (Array UInt8)} (h : 8 * (b.size : Int) < σ.p + ((σ.nb : Nat) : Int)) (r : Run b σ l) : l = [] := by
  cases r <;> first | rfl | (exfalso; omega)
theorem keptE_of {fsl : List Addr} {gt g' h' : Heap} {S I Lg : Addr} {oI oS : Obj} {s : Shared} {tk : Nat} {mm : Str → Option Value} {lx : List (Addr × Obj)} (T : KtsTurn fsl gt g') (F : Fr g' Lg h' mm) (N : News g' Lg h' lx) (hS : (S, oS) ∈ lx) (hI : (I, oI) ∈ lx) :
    KeptE fsl gt S I oI oS s { s with heap := h', toks := tk } := ⟨h', tk, g', rfl, T, (N _ hS).1, (N _ hI).1, F.keep⟩
theorem x2c {S I x dx ba z dz Lg : Nat} {o1 o2 o3 o4 o5 : Obj} (e3 : ba < dz) (e4 : dz < z) (e5 : z < Lg) (e6 : Lg < I) (e7 : I < S) (e1 : dx < x) (e2 : x < ba) : ∀ p ∈ [((dx : Addr), o1), (x, o2), (ba, o3), (S, o4), (I, o5)], p.1 ≠ dz := by
  intro p hp
  simp only [List.mem_cons, List.not_mem_nil, or_false] at hp
  rcases hp with rfl | rfl | rfl | rfl | rfl <;> (show @Ne Nat _ _; dsimp only; omega)
theorem nbAfter_lo {n k : Nat} (h : 9 ≤ n) : 9 ≤ nbAfter n k := by unfold nbAfter; split <;> omega
theorem nbAfter_hi {n k : Nat} (h : n ≤ 10) : nbAfter n k ≤ 10 := by unfold nbAfter; split <;> omega
theorem nb_after {items : Array Value} {n k : Nat} {nb' : Int} (hi : items.size = 258 + k) (h : nb' = if items.size + 1 = 511 then 10 else ((n : Nat) : Int)) : nb' = ((nbAfter n (k + 1) : Nat) : Int) := by
  rw [h]
  unfold nbAfter
  by_cases q : items.size + 1 = 511
  · rw [if_pos q, if_pos (by omega)]; rfl
  · rw [if_neg q, if_neg (by omega)]
theorem fr_set {gt h : Heap} {Lg z : Addr} {c v : Value} {co xo : Option Value} (F : Fr gt Lg h (fun y => if y = Str.ofString "x" then some v else if y = Str.ofString "code" then some c else runM z co xo y)) : Fr gt Lg h (runM z (some c) (some v)) := by
  have e : (fun y => if y = Str.ofString "x" then some v else if y = Str.ofString "code" then some c else runM z co xo y) = runM z (some c) (some v) := by
    funext y
    unfold runM
    by_cases h1 : y = Str.ofString "x"
    · simp only [if_pos h1]
    · by_cases h2 : y = Str.ofString "code"
      · simp only [if_neg h1, if_pos h2]
      · simp only [if_neg h1, if_neg h2]
  rw [e] at F
  exact F
theorem drun_end {P : Params} {gt h : Heap} {Lg S I x dx ba z dz tl : Addr} {oI oS : Obj} {b : Array UInt8} {l : List (Array UInt8)} {σ : DSt} {c v : Value} {co xo : Option Value} {q nI : Nat} {buff bpos : Int} {items : Array Value} {pv : Value} {k1 k2 kt c1 c2 c3 c4 c5 c6 t2 t3 t4 : Tok}
    (hr : Run b σ l) (hI : RdInv b.toList q buff bpos σ.p) (h9 : 9 ≤ σ.nb) (h10 : σ.nb ≤ 10) (ht : σ.init = true → TabIs items σ.T ∧ ∃ tp, pv = .bytes σ.pb tp)
    (hne : neN' z tl ∧ neN' dz tl ∧ neN' dx tl ∧ neN' x tl ∧ neN' ba tl ∧ neN' S tl ∧ neN' I tl)
    (F : Fr gt Lg h (fun y => if y = Str.ofString "x" then some v else if y = Str.ofString "code" then some c else runM z co xo y))
    (N : News gt Lg h (ledger P b x dx ba z dz tl q buff bpos σ.nb items nI pv k1 k2 kt c1 c2 c3 c4 c5 c6 t2 t3 t4 [(S, oS), (I, oI)])) : DRun P gt Lg b S I x dx ba z dz oI l oS h :=
  ⟨σ, _, _, q, nI, buff, bpos, tl, items, pv, k1, k2, kt, c1, c2, c3, c4, c5, c6, t2, t3, t4, hr, hI, h9, h10, ht, hne, fr_set F, N⟩
theorem keptS_of {gt h' : Heap} {S I Lg : Addr} {oI oS : Obj} {s : Shared} {tk : Nat} {mm : Str → Option Value} {a1 a2 a3 a4 a5 a6 : Addr × Obj} (F : Fr gt Lg h' mm) (N : News gt Lg h' (a1 :: a2 :: a3 :: a4 :: a5 :: a6 :: (S, oS) :: (I, oI) :: [])) :
    KeptSI gt S I oI oS s { s with heap := h', toks := tk } := ⟨h', tk, rfl, (N (S, oS) (by simp)).1, (N (I, oI) (by simp)).1, F.keep⟩
theorem nsobj_self {oL : Obj} {z : Addr} (h : LCg.NsObj oL (fun y => List.lookup y [(Str.ofString "self", Value.ref z)])) : LCg.NsObj oL (runM z none none) := self_look z ▸ h

theorem feed_any {b : Array UInt8} {t : Tok} {x z dz tl : Addr} {c1 c2 c3 c4 c5 c6 t2 t3 t4 : Tok} {nI : Nat} {buff bpos : Int} {items : Array Value} {pv : Value} {σ : DSt} {l : List (Array UInt8)} {d u : Nat}
  (B : Below A₀ base outer h₀) (F : Fr h₀ L s.heap m) (X₀ : (Mine.K w.params).In h₀) (T : Top Mine.view loose mean mg mb h₀)
  (N : News h₀ L s.heap ((tl, tabObj items nI) :: (dz, lzwObj w.params x buff bpos σ.nb tl pv c1 c2 c3 c4 c5 c6 t2 t3 t4) :: (z, instObj 113 dz) :: news))
  (hf : env.frame = some L) (hke : env.scope.kind = .function) (hd : d < 600)
  (n3 : ltN' dz z) (n5 : neN' z tl) (n6 : neN' dz tl) (y1 : ∀ p ∈ news, p.1 ≠ tl) (y2 : ∀ p ∈ news, p.1 ≠ dz)
  (hr : Run b σ l) (hle : σ.p + σ.nb ≤ 8 * b.size) (h9 : 9 ≤ σ.nb) (h10 : σ.nb ≤ 10) (ht : σ.init = true → TabIs items σ.T ∧ ∃ tp, pv = .bytes σ.pb tp)
  (hE : l = [] → ∀ h' tk e t' g lx, Fr h₀ L g m → g.UpToSlots h' → RaisedS base g (env :: outer) e (.ref 75) t' [] lx h' → (∀ p ∈ news, p ∈ lx) → R (.error (.ref e)) {s with heap := h', toks := tk})
  (h : ∀ h' tk v t' σ' l' tl' items' nI' pv' t4', l = v :: l' → Run b σ' l' → σ'.p = σ.p + σ.nb → 9 ≤ σ'.nb ∧ σ'.nb ≤ 10 → (σ'.init = true → TabIs items' σ'.T ∧ ∃ tp, pv' = .bytes σ'.pb tp) → neN' z tl' ∧ neN' dz tl' ∧ (∀ p ∈ news, p.1 ≠ tl') →
    Fr h₀ L h' m → News h₀ L h' ((tl', tabObj items' nI') :: (dz, lzwObj w.params x buff bpos σ'.nb tl' pv' c1 c2 c3 c4 c5 c6 t2 t3 t4') :: (z, instObj 113 dz) :: news) → R (.ok (.ret (.bytes v t'))) {s with heap := h', toks := tk}) :
  codeAny (model PySem.Challenge.rw_lc0007_01.row.prog w) ⟨none, d, some (env :: outer), some [], u⟩ (.call (.ref 103) ⟨[.ref z, .int ((codeAt b σ : Nat) : Int) t], []⟩) R s := by
  cases hr with
  | eof he => exact absurd he (by omega)
  | bad _ hin b1 b2 hpb hc =>
    obtain ⟨htab, tp, rfl⟩ := ht hin
    have hts := htab.1
    exact feed_bad (b := b) (dx := dz) (ba := dz) (k1 := 0) (k2 := 0) (kt := 0) (q := 0) (xb := #[]) (tx := 0) B F X₀ T N hf hke hd n3 n5 n6 y1 y2 (by omega) (by rw [sizeLine_eq]; omega) b2 (by omega) (by omega) hpb (hE rfl)
  | clear _ hc hr' =>
    rw [hc]
    refine feed_256 B F X₀ T N hf hke hd n3 n5 n6 y1 y2 ?_
    intro h2 tk2 Dn ys n' t' tp' t4' F2 hys hoc N2 yD zD dD
    exact h _ _ _ _ ⟨σ.p + σ.nb, true, [], #[], 9⟩ _ _ _ _ _ _ rfl hr' rfl ⟨Nat.le_refl 9, by show 9 ≤ 10; decide⟩ (fun _ => ⟨tabIs_init hys hoc, _, rfl⟩) ⟨zD, dD, yD⟩ F2 N2
  | stop _ hin b1 b2 hc hr' =>
    obtain ⟨htab, tp, rfl⟩ := ht hin
    have hts := htab.1
    refine feed_257 (b := b) (dx := dz) (ba := dz) (k1 := 0) (k2 := 0) (kt := 0) (q := 0) (xb := #[]) (tx := 0) B F X₀ T N hf hke hd n3 n5 n6 y1 y2 (by omega) (by rw [sizeLine_eq]; omega) b2 (by rw [hc]; rfl) ?_
    intro h2 tk2 t' F2 N2
    exact h _ _ _ _ { σ with p := σ.p + σ.nb } _ _ _ _ _ _ rfl hr' rfl ⟨h9, h10⟩ (fun _ => ⟨htab, _, rfl⟩) ⟨n5, n6, y1⟩ F2 N2
  | first _ hin b1 b2 hpe hc hr' =>
    obtain ⟨htab, tp, rfl⟩ := ht hin
    have hts := htab.1
    obtain ⟨tx, hx9⟩ := htab.2.1 (codeAt b σ) hc
    refine feed_first (b := b) (dx := dz) (ba := dz) (k1 := 0) (k2 := 0) (kt := 0) (q := 0) (xb := #[(codeAt b σ).toUInt8]) (tx := tx) B F X₀ T N hf hke hd n3 n5 n6 y1 y2 (by omega) (by rw [sizeLine_eq]; omega) b2 (by omega) (by omega) hpe (by rw [Int.toNat_natCast]; exact hx9) (by show 1 ≤ _; decide) ?_
    intro h2 tk2 F2 N2
    exact h _ _ _ _ { σ with p := σ.p + σ.nb, pb := #[(codeAt b σ).toUInt8] } _ _ _ _ _ _ rfl hr' rfl ⟨h9, h10⟩ (fun _ => ⟨htab, _, rfl⟩) ⟨n5, n6, y1⟩ F2 N2
  | @old _ x9 _ _ hin b1 b2 hpe he hxs hr' =>
    obtain ⟨htab, tp, rfl⟩ := ht hin
    have hts := htab.1
    obtain ⟨⟨tx, hx9⟩, q1, q2, q3⟩ := tabIs_entry htab he
    refine feed_old (b := b) (dx := dz) (ba := dz) (k1 := 0) (k2 := 0) (kt := 0) (q := 0) (xb := x9) (tx := tx) B F X₀ T N hf hke hd n3 n5 n6 y1 y2 (by omega) (by rw [sizeLine_eq]; omega) b2 (by omega) (by omega) (by omega) (by omega) hpe (by rw [Int.toNat_natCast]; exact hx9) hxs ?_
    intro h2 tk2 t4' tv' nb' hnb F2 N2
    have hnb2 := nb_after hts hnb
    subst hnb2
    exact h _ _ _ _ ⟨σ.p + σ.nb, true, σ.T ++ [σ.pb ++ first1 x9], x9, nbAfter σ.nb (σ.T.length + 1)⟩ _ _ _ _ _ _ rfl hr' rfl ⟨nbAfter_lo h9, nbAfter_hi h10⟩ (fun _ => ⟨tabIs_push htab _ _, _, rfl⟩) ⟨n5, n6, y1⟩ F2 N2
  | new _ hin b1 b2 hpe hc hr' =>
    obtain ⟨htab, tp, rfl⟩ := ht hin
    have hts := htab.1
    refine feed_new (b := b) (dx := dz) (ba := dz) (k1 := 0) (k2 := 0) (kt := 0) (q := 0) (xb := #[]) (tx := 0) B F X₀ T N hf hke hd n3 n5 n6 y1 y2 (by omega) (by rw [sizeLine_eq]; omega) b2 (by omega) (by omega) hpe ?_
    intro h2 tk2 t4' tv' nb' hnb F2 N2
    have hnb2 := nb_after hts hnb
    subst hnb2
    exact h _ _ _ _ ⟨σ.p + σ.nb, true, σ.T ++ [σ.pb ++ first1 σ.pb], σ.pb ++ first1 σ.pb, nbAfter σ.nb (σ.T.length + 1)⟩ _ _ _ _ _ _ rfl hr' rfl ⟨nbAfter_lo h9, nbAfter_hi h10⟩ (fun _ => ⟨tabIs_push htab _ _, _, rfl⟩) ⟨n5, n6, y1⟩ F2 N2

theorem lzw_c {b : Array UInt8} {t : Tok} {d u : Nat} {a : Addr} {cn : Str} {cs : Scope} {ccd : Value} {outs : List (Array UInt8)}
  (B : Below A₀ base [] h₀) (F : Fr h₀ L s.heap m) (X₀ : (Mine.K w.params).In h₀) (N : News h₀ L s.heap news) (T : Top Mine.view loose mean mg mb h₀)
  (XB : (Mine.K w.params).In base) (TB : Top Mine.view loose mean mg mb base)
  (hck : cs.kind = .function) (hd : d < 500) (hz : b.size ≤ 16777216) (hrun : Run b ⟨0, false, [], #[], 9⟩ outs) (hlen : outs.length ≤ sizeLine) (htot : (outs.foldl (· ++ ·) #[]).size ≤ 16777216)
  (h : ∀ h' tk t', Fr h₀ L h' m → News h₀ L h' news → R (.ok (.ret (.bytes (outs.foldl (· ++ ·) #[]) t'))) {s with heap := h', toks := tk, gens := s.gens.push .finished}) :
  codeC (model PySem.Challenge.rw_lc0007_01.row.prog w) ⟨none, d, some [envOf cn cs L a ccd], some [], u⟩ (.call (.ref 674) ⟨[.bytes b t], []⟩) R s := by
  w_top off
  k_with_none
  have X₁ := X₀; revert X₁; k_fill; intro X₁; clear X₁
  refine' code_defCleanS B F X₀ N T rfl ?k6 ?k7 ?k8 ?k9 ?kB ?_ hck ?c2 ?c3 ?c4 ?c5
  case k6 => k_is
  case k7 => k_is
  case k8 => k_room
  case k9 => exact BindsTo.of_eq rfl
  case c5 => decide
  case kB => exact locs rfl
  case c2 => exact rfl
  case c3 => exact rfl
  case c4 => exact rfl
  intro g' L' h' FG' F' N' B' X' T' DK l'
  refine c_execs_cons (c_Assign_Name (c_Call_Name1 X' ?_ (by rfl)) (by rfl))
  k_fold
  k_steps
  refine wpC_call (bio_make B' F' X' N' T' rfl rfl (by show d + 1 < 700; omega) (by rw [sizeLine_eq]; exact hz) fun h6 tk6 x dx ba k1 k2 kt F6 N6 l1 l2 l3 => ?_)
  have l1' := allLt_of l1
  refine wpC_of ?_
  k_fold
  k_steps
  refine wpC_of ?_
  k_fold
  k_steps
  unfold Stop
  refine' call_cls ?a1 ?a2 ?a3 ?a4 ?a5 ?a6 ?_
  case a1 => k_asm
  case a2 => k_asm
  case a3 => k_asm
  case a4 => k_is
  case a5 => k_is
  case a6 => k_is
  intro xq dq hq Fq Nq lq1 lq2
  (try k_lt lq1); (try k_lt2 lq2); (try k_sweep); k_enter
  k_steps
  unfold Stop
  refine' call_gen ?kF ?kX ?kN ?kT ?k6 ?k7 ?k8 ?k9 ?kB ?_ ?c2 ?c3 ?c4 ?c5
  case kF => k_asm
  case kX => k_asm
  case kN => k_asm
  case kT => k_asm
  case k6 => k_is
  case k7 => k_is
  case k8 => k_room
  case k9 => exact BindsTo.of_eq rfl
  case kB => exact locs rfl
  case c2 => exact rfl
  case c3 => exact rfl
  case c4 => exact rfl
  case c5 => decide
  intro Lg I oL oI hA tkA hNo hIg Fr' Nr' m1 m2 m3
  (try k_sweep)
  k_steps
  refine join_method ?_
  k_steps
  show wpAny _ _ (call (Value.builtin "bytes.join") _) _ _ _
  rename_i hJ FJ NJ
  have hNo' := nsobj_self hNo
  refine join_run (P := w.params) (fsl := [L', L]) FJ NJ l2 l3 ?o3 ?o4 ?o5 ?o6 m3 hNo' hIg rfl hrun hlen htot ?hd ?hlim rfl rfl ?Ht ?Hturn ?hQ
  case o3 => unfold ltN'; omega
  case o4 => unfold ltN'; omega
  case o5 => unfold ltN'; omega
  case o6 => exact m1 _ List.mem_cons_self
  case hd => show d + 1 < 900; omega
  case hlim => exact T'.nolimit.keeps (gf_of FJ NJ m2).keep
  case Ht =>
    intro uu ss EE
    k_steps
  case hQ =>
    intro hE tkE tE g'' KT hkE
    k_steps
    obtain ⟨oc, _, _, hoc, _⟩ := DK L (List.mem_singleton.mpr rfl)
    obtain ⟨g₂, T₂, F₂, N₂⟩ := after_join (Lc := L) (news := news) (gf_of FJ NJ m2) ⟨oc, hoc⟩ KT hkE (fun p hp => by
      have hpN := NJ p (.tail _ (.tail _ (.tail _ (.tail _ (.tail _ (.tail _ (.tail _ (.tail _ hp))))))))
      have hlt : @LT.lt Nat _ p.1 dx := l1 p hp
      have q2 : @LT.lt Nat _ dx x := l2
      have q3 : @LT.lt Nat _ x ba := l3
      refine ⟨hpN.1, hpN.2.1, hpN.2.2, Nat.lt_trans (l' p hp) m2, fun hm => ?_⟩
      simp only [List.mem_cons, List.not_mem_nil, or_false] at hm
      rcases hm with h8 | h8 | h8 | h8 | h8 | h8 <;> (have h9 : @Eq Nat p.1 _ := h8; omega))
    exact leaveS0_ F₂ N₂ T₂ (fun FR NR => h _ _ _ FR NR)
  case Hturn =>
    intro uu S ord hgS l oS sT hD
    obtain ⟨σ, co, xo, q, nI, buff, bpos, tl, items, pv, k1, k2, kt, c1, c2, c3, c4, c5, c6, t2, t3, t4, hr, hI, h9, h10, ht, hne, FT, NT⟩ := hD
    have GF := gf_of FJ NJ m2
    have XT := X'.keeps GF.keep
    have TT := T'.keeps GF.keep
    have DT : KtsDicts [L', L] (ground _ _ _) := fun bb hb => by
      rcases List.mem_cons.mp hb with rfl | hb
      · obtain ⟨o, es, ep, e, hd, r⟩ := GF.ns
        exact ⟨o, es, ep, e, hd⟩
      · rw [List.mem_singleton.mp hb]
        obtain ⟨o, es, n, e, hd⟩ := DK L (List.mem_singleton.mpr rfl)
        exact ⟨o, es, n, GF.keep _ _ e, hd⟩
    refine turn_wrap B' GF rfl rfl (fun BT => ?_)
    generalize ground _ _ _ = gt at GF BT XT TT DT hgS FT NT ⊢
    obtain ⟨e1, e2, e3, e4, e5, e6, e7⟩ := ord
    obtain ⟨n1, n2, n3, n4, n5, n6, n7⟩ := hne
    unfold neN' at n1 n2 n3 n4 n5 n6 n7
    k_fold
    k_steps
    refine wpAny_call (readbits_c BT FT XT TT (news_cyc NT) rfl rfl (by show d + 1 + 1 < 600; omega) hz (by have := hI.2.1; rwa [Array.length_toList] at this) e1 e2 e3 e4 ?x1 ?x2 hI (by omega) (by omega) ?xE ?xok)
    case x1 =>
      intro p hp
      simp only [List.mem_cons, List.not_mem_nil, or_false] at hp
      rcases hp with rfl | rfl | rfl <;> (show @Ne Nat _ _; dsimp only; omega)
    case x2 =>
      intro p hp
      simp only [List.mem_cons, List.not_mem_nil, or_false] at hp
      rcases hp with rfl | rfl | rfl <;> (show @Ne Nat _ _; dsimp only; omega)
    case xE =>
      intro hx tkx e t' gx lx Fx Ux Rx hsub hlt
      k_steps
      · rw [run_eofE hlt hr]; rfl
      · rename KtsTurn _ _ _ => TZ
        rename Fr _ Lg _ _ => FZ
        rename News _ Lg _ lx => NZ
        exact keptE_of TZ FZ NZ (hsub _ (by simp)) (hsub _ (by simp))
    case xok =>
      intro hx tkx v tv q' buff' bpos' k2' kt' t2' t3' Fx Nx hv
      replace Nx := news_ccy Nx
      k_steps
      obtain ⟨hv1, hv2⟩ := hv
      have hv3 : v = ((codeAt b σ : Nat) : Int) := by rw [hv1]; unfold codeAt; rw [Int.toNat_natCast]
      rw [Int.toNat_natCast] at hv2
      clear hv1
      subst hv3
      have hle : σ.p + σ.nb ≤ 8 * b.size := by
        have q1 := hv2.1
        have q2 := hv2.2.1
        have q3 := hv2.2.2.2.1
        rw [Array.length_toList] at q2
        omega
      rename Fr gt Lg _ _ => FC
      rename News gt Lg _ _ => NC
      have y1 : ∀ p ∈ [(dx, ioDict w.params ba (q' : Nat) k1 k2' kt'), (x, instObj 418 dx), (ba, baObj b), (S, oS), (I, oI)], p.1 ≠ tl := by
        intro p hp
        simp only [List.mem_cons, List.not_mem_nil, or_false] at hp
        rcases hp with rfl | rfl | rfl | rfl | rfl <;> (show @Ne Nat _ _; dsimp only; omega)
      have y2 : ∀ p ∈ [(dx, ioDict w.params ba (q' : Nat) k1 k2' kt'), (x, instObj 418 dx), (ba, baObj b), (S, oS), (I, oI)], p.1 ≠ _ := x2c e3 e4 e5 e6 e7 e1 e2
      refine wpAny_call (feed_any BT FC XT TT NC rfl rfl (by show d + 1 + 1 < 600; omega) e4 n1 n2 y1 y2 hr hle h9 h10 ht ?fE ?fok)
      case fE =>
        intro hl0 hx2 tkx2 e t' gx lx Fx2 Ux2 Rx2 hsub2
        subst hl0
        k_steps
        rename KtsTurn _ _ _ => TZ
        rename Fr _ Lg _ _ => FZ
        rename News _ Lg _ lx => NZ
        exact keptE_of TZ FZ NZ (hsub2 _ (by simp)) (hsub2 _ (by simp))
      case fok =>
        intro h2 tk2 v t' σ' l' tl' items' nI' pv' t4' hl hr' hp' hn' ht' hz' F2 N2
        subst hl
        k_steps
        · rename News gt Lg _ _ => NZ
          rename Fr gt Lg _ _ => FZ
          exact keptS_of FZ NZ
        · rename News gt Lg _ _ => NZ
          rename Fr gt Lg _ _ => FZ
          exact drun_end (σ := σ') hr' (by rw [hp']; exact hv2) hn'.1 hn'.2 ht' ⟨hz'.1, hz'.2.1, hz'.2.2 _ (.head _), hz'.2.2 _ (.tail _ (.head _)), hz'.2.2 _ (.tail _ (.tail _ (.head _))), hz'.2.2 _ (.tail _ (.tail _ (.tail _ (.head _)))), hz'.2.2 _ (.tail _ (.tail _ (.tail _ (.tail _ (.head _)))))⟩ FZ NZ
end
end
section
/-! The law's own statements, read off the row. -/
noncomputable def lawDef : List Stmt × Scope := match PySem.Challenge.pw_lc0007_01.main.body.getLast? with
  | some (.FunctionDef _ _ body _ _ _ scope _ _ _) => (body, scope)
  | _ => ([], { kind := .function, names := [], isGenerator := false, isCoroutine := false })
noncomputable def dropSt : List Stmt → Nat → List Stmt
  | l, 0 => l
  | [], _ => []
  | _ :: r, n + 1 => dropSt r n
noncomputable def bodyOf : Stmt → List Stmt
  | .For _ _ body _ _ => body
  | .If _ body _ _ => body
  | _ => []
noncomputable def lawBody : List Stmt := lawDef.1
noncomputable def lawScope : Scope := lawDef.2
noncomputable def lawSt (k : Nat) : Stmt := stAt lawBody k
noncomputable def bigBody : List Stmt := bodyOf (lawSt 6)
noncomputable def bigSt (k : Nat) : Stmt := stAt bigBody k
noncomputable abbrev lenv (L fa : Addr) (cd : Value) : Env := envOf (PySem.Str.ofString "law") lawScope L fa cd
noncomputable abbrev lawA (L fa : Addr) (cd : Value) : Around := callerA.deeper (lenv L fa cd)
/-- the law's names behind its first statements -/
noncomputable def loopM (sc way data pieces bits size ends : Value) (r : Str → Option Value) : Str → Option Value := fun y =>
  if y = Str.ofString "script" then some sc else if y = Str.ofString "way" then some way else if y = Str.ofString "data" then some data else if y = Str.ofString "pieces" then some pieces
  else if y = Str.ofString "bits" then some bits else if y = Str.ofString "size" then some size else if y = Str.ofString "ends" then some ends else r y
theorem loopM_of {sc way data pieces bits size ends : Value} {m : Str → Option Value} (h1 : m (Str.ofString "script") = some sc) (h2 : m (Str.ofString "way") = some way) (h3 : m (Str.ofString "data") = some data)
    (h4 : m (Str.ofString "pieces") = some pieces) (h5 : m (Str.ofString "bits") = some bits) (h6 : m (Str.ofString "size") = some size) (h7 : m (Str.ofString "ends") = some ends) : m = loopM sc way data pieces bits size ends m := by
  funext y
  unfold loopM
  by_cases e1 : y = Str.ofString "script"
  · rw [if_pos e1, e1, h1]
  rw [if_neg e1]
  by_cases e2 : y = Str.ofString "way"
  · rw [if_pos e2, e2, h2]
  rw [if_neg e2]
  by_cases e3 : y = Str.ofString "data"
  · rw [if_pos e3, e3, h3]
  rw [if_neg e3]
  by_cases e4 : y = Str.ofString "pieces"
  · rw [if_pos e4, e4, h4]
  rw [if_neg e4]
  by_cases e5 : y = Str.ofString "bits"
  · rw [if_pos e5, e5, h5]
  rw [if_neg e5]
  by_cases e6 : y = Str.ofString "size"
  · rw [if_pos e6, e6, h6]
  rw [if_neg e6]
  by_cases e7 : y = Str.ofString "ends"
  · rw [if_pos e7, e7, h7]
  rw [if_neg e7]
theorem loopM_fr {h₀ h : Heap} {L : Addr} {sc way data pieces bits size ends : Value} {m : Str → Option Value} (F : Fr h₀ L h m) (h1 : m (Str.ofString "script") = some sc) (h2 : m (Str.ofString "way") = some way) (h3 : m (Str.ofString "data") = some data)
    (h4 : m (Str.ofString "pieces") = some pieces) (h5 : m (Str.ofString "bits") = some bits) (h6 : m (Str.ofString "size") = some size) (h7 : m (Str.ofString "ends") = some ends) : Fr h₀ L h (loopM sc way data pieces bits size ends m) :=
  (loopM_of h1 h2 h3 h4 h5 h6 h7) ▸ F
noncomputable def workM (wish width code : Option Value) (r : Str → Option Value) : Str → Option Value := fun y =>
  if y = Str.ofString "wish" then wish else if y = Str.ofString "width" then width else if y = Str.ofString "code" then code else r y
theorem workM_of {wish width code : Option Value} {m : Str → Option Value} (h1 : m (Str.ofString "wish") = wish) (h2 : m (Str.ofString "width") = width) (h3 : m (Str.ofString "code") = code) : workM wish width code m = m := by
  funext y
  unfold workM
  by_cases e1 : y = Str.ofString "wish"
  · rw [if_pos e1, e1, h1]
  rw [if_neg e1]
  by_cases e2 : y = Str.ofString "width"
  · rw [if_pos e2, e2, h2]
  rw [if_neg e2]
  by_cases e3 : y = Str.ofString "code"
  · rw [if_pos e3, e3, h3]
  rw [if_neg e3]
theorem work_fr {h₀ h : Heap} {L : Addr} {sc way data pieces bits size ends : Value} {wish width code : Option Value} {m : Str → Option Value} (F : Fr h₀ L h m) (h1 : m (Str.ofString "script") = some sc) (h2 : m (Str.ofString "way") = some way) (h3 : m (Str.ofString "data") = some data)
    (h4 : m (Str.ofString "pieces") = some pieces) (h5 : m (Str.ofString "bits") = some bits) (h6 : m (Str.ofString "size") = some size) (h7 : m (Str.ofString "ends") = some ends) (h8 : m (Str.ofString "wish") = wish) (h9 : m (Str.ofString "width") = width) (h10 : m (Str.ofString "code") = code) :
    Fr h₀ L h (loopM sc way data pieces bits size ends (workM wish width code m)) := by
  rw [workM_of h8 h9 h10]
  exact loopM_fr F h1 h2 h3 h4 h5 h6 h7
noncomputable abbrev tupObj (vs : List Value) : Obj := { cls := .type "tuple", data := .seq vs.toArray }
/-- a list of pairs of numbers, the pairs in the ledger -/
noncomputable def PairsAre (tl : List (Addr × Obj)) (vs : List Value) (ps : List (Nat × Nat)) : Prop :=
  vs.length = ps.length ∧ ∀ (i : Nat) (p : Nat × Nat), ps[i]? = some p → ∃ (t : Addr) (ta tb : Tok), vs[i]? = some (Value.ref t) ∧ (t, tupObj [.int (p.1 : Nat) ta, .int (p.2 : Nat) tb]) ∈ tl
theorem PairsAre.nil {tl : List (Addr × Obj)} : PairsAre tl [] [] := ⟨rfl, fun i p h => by simp at h⟩
theorem PairsAre.mono {tl tl' : List (Addr × Obj)} {vs : List Value} {ps : List (Nat × Nat)} (H : PairsAre tl vs ps) (hs : ∀ p ∈ tl, p ∈ tl') : PairsAre tl' vs ps :=
  ⟨H.1, fun i p h => let ⟨t, ta, tb, a, b⟩ := H.2 i p h; ⟨t, ta, tb, a, hs _ b⟩⟩
theorem PairsAre.snoc {tl : List (Addr × Obj)} {vs : List Value} {ps : List (Nat × Nat)} {t : Addr} {ta tb : Tok} {a b : Nat} (H : PairsAre tl vs ps) (hm : (t, tupObj [.int (a : Nat) ta, .int (b : Nat) tb]) ∈ tl) : PairsAre tl (vs ++ [.ref t]) (ps ++ [(a, b)]) := by
  refine ⟨by rw [List.length_append, List.length_append, H.1]; rfl, fun i p h => ?_⟩
  rcases Nat.lt_trichotomy i ps.length with h1 | h1 | h1
  · rw [List.getElem?_append_left h1] at h
    obtain ⟨t', ta', tb', e, hm'⟩ := H.2 i p h
    exact ⟨t', ta', tb', by rw [List.getElem?_append_left (by rw [H.1]; exact h1)]; exact e, hm'⟩
  · subst h1
    rw [List.getElem?_append_right (Nat.le_refl _), Nat.sub_self] at h
    obtain rfl : (a, b) = p := by simpa using h
    exact ⟨t, ta, tb, by rw [← H.1, List.getElem?_append_right (Nat.le_refl _), Nat.sub_self]; rfl, hm⟩
  · rw [List.getElem?_eq_none (by rw [List.length_append, List.length_singleton]; omega)] at h
    cases h
end
section
/-! Codes laid bit behind bit. -/
theorem bitsAt_shift {X T p n e r : Nat} (h : p + n ≤ T) (hr : r < 2 ^ e) : bitsAt (X * 2 ^ e + r) (T + e) p n = bitsAt X T p n := by
  unfold bitsAt
  have e1 : T + e - (p + n) = e + (T - (p + n)) := by omega
  rw [e1, Nat.pow_add, ← Nat.div_div_eq_div_mul, Nat.add_comm, Nat.add_mul_div_right _ _ (Nat.two_pow_pos e), Nat.div_eq_of_lt hr, Nat.zero_add]
theorem bitsAt_cut {X T U p n : Nat} (h : p + n ≤ U) (hU : U ≤ T) : bitsAt (X / 2 ^ (T - U)) U p n = bitsAt X T p n := by
  unfold bitsAt
  rw [Nat.div_div_eq_div_mul, ← Nat.pow_add]
  have : T - U + (U - (p + n)) = T - (p + n) := by omega
  rw [this]
/-- codes with their widths, as one number -/
noncomputable def valOfCodes : List (Nat × Nat) → Nat := fun cs => cs.foldl (fun a c => a * 2 ^ c.2 + c.1) 0
noncomputable def lenOfCodes (cs : List (Nat × Nat)) : Nat := (cs.map (·.2)).sum
theorem valOfCodes_snoc (cs : List (Nat × Nat)) (c : Nat × Nat) : valOfCodes (cs ++ [c]) = valOfCodes cs * 2 ^ c.2 + c.1 := by
  unfold valOfCodes; rw [List.foldl_append]; rfl
theorem lenOfCodes_snoc (cs : List (Nat × Nat)) (c : Nat × Nat) : lenOfCodes (cs ++ [c]) = lenOfCodes cs + c.2 := by
  unfold lenOfCodes; simp
theorem valOfCodes_lt {cs : List (Nat × Nat)} (h : ∀ c ∈ cs, c.1 < 2 ^ c.2) : valOfCodes cs < 2 ^ lenOfCodes cs := by
  have key : ∀ (l : List (Nat × Nat)), (∀ c ∈ l, c.1 < 2 ^ c.2) → ∀ a n, a < 2 ^ n → l.foldl (fun a c => a * 2 ^ c.2 + c.1) a < 2 ^ (n + lenOfCodes l) := by
    intro l
    induction l with
    | nil => intro _ a n ha; exact ha
    | cons c l ih =>
      intro hl a n ha
      have hc := hl c List.mem_cons_self
      have h2 := ih (fun x hx => hl x (List.mem_cons_of_mem _ hx)) (a * 2 ^ c.2 + c.1) (n + c.2) (by
        rw [Nat.pow_add]
        have : (a + 1) * 2 ^ c.2 ≤ 2 ^ n * 2 ^ c.2 := Nat.mul_le_mul_right _ ha
        rw [Nat.add_mul, Nat.one_mul] at this
        omega)
      have e : lenOfCodes (c :: l) = c.2 + lenOfCodes l := by unfold lenOfCodes; simp
      rw [List.foldl_cons, e, ← Nat.add_assoc]
      exact h2
  have := key cs h 0 0 (by decide)
  rwa [Nat.zero_add] at this
/-- the code behind a row of codes stands there -/
theorem bitsAt_code {pre post : List (Nat × Nat)} {c w : Nat} (h : ∀ x ∈ pre ++ (c, w) :: post, x.1 < 2 ^ x.2) :
    bitsAt (valOfCodes (pre ++ (c, w) :: post)) (lenOfCodes (pre ++ (c, w) :: post)) (lenOfCodes pre) w = c := by
  have key : ∀ (post : List (Nat × Nat)), (∀ x ∈ post, x.1 < 2 ^ x.2) → ∀ a T, lenOfCodes pre + w ≤ T → bitsAt (post.foldl (fun a c => a * 2 ^ c.2 + c.1) a) (T + lenOfCodes post) (lenOfCodes pre) w = bitsAt a T (lenOfCodes pre) w := by
    intro post
    induction post with
    | nil => intro _ a T _; rfl
    | cons x l ih =>
      intro hl a T hT
      have e : lenOfCodes (x :: l) = x.2 + lenOfCodes l := by unfold lenOfCodes; simp
      rw [List.foldl_cons, e, ← Nat.add_assoc, ih (fun y hy => hl y (List.mem_cons_of_mem _ hy)) _ _ (by omega)]
      exact bitsAt_shift hT (hl x List.mem_cons_self)
  have e1 : pre ++ (c, w) :: post = (pre ++ [(c, w)]) ++ post := by simp
  have hc : c < 2 ^ w := h (c, w) (by simp)
  have e2 : valOfCodes (pre ++ (c, w) :: post) = post.foldl (fun a c => a * 2 ^ c.2 + c.1) (valOfCodes pre * 2 ^ w + c) := by
    rw [e1]; unfold valOfCodes; rw [List.foldl_append, List.foldl_append]; rfl
  have e3 : lenOfCodes (pre ++ (c, w) :: post) = (lenOfCodes pre + w) + lenOfCodes post := by unfold lenOfCodes; simp; omega
  rw [e2, e3, key post (fun x hx => h x (by simp [hx])) _ _ (Nat.le_refl _)]
  unfold bitsAt
  rw [Nat.sub_self, Nat.pow_zero, Nat.div_one, Nat.add_comm, Nat.add_mul_mod_self_right, Nat.mod_eq_of_lt hc]
end
section
/-! The law's codes, by strings. -/
inductive Op where
  | clear
  | lit (c : Nat)
  | ref (j : Nat)
noncomputable def tabOf : List (Array UInt8) → List (Array UInt8)
  | [] => []
  | [_] => []
  | a :: b :: r => (a ++ first1 b) :: tabOf (b :: r)
noncomputable def lastOf (Pc : List (Array UInt8)) : Array UInt8 := Pc.getLast?.getD #[]
noncomputable def nbOf (Pc : List (Array UInt8)) : Nat := if Pc.length < 254 then 9 else 10
noncomputable def pieceAt (Pc : List (Array UInt8)) (j : Nat) : Array UInt8 := Pc[j]?.getD #[]
noncomputable def told (Pc : List (Array UInt8)) : Op → Array UInt8
  | .clear => #[]
  | .lit c => #[c.toUInt8]
  | .ref j => pieceAt Pc j ++ first1 (if j + 1 < Pc.length then pieceAt Pc (j + 1) else pieceAt Pc j)
noncomputable def opCode (Pc : List (Array UInt8)) : Op → Nat × Nat
  | .clear => (256, nbOf Pc)
  | .lit c => (c, nbOf Pc)
  | .ref j => (258 + j, nbOf Pc)
noncomputable def nextPc (Pc : List (Array UInt8)) : Op → List (Array UInt8)
  | .clear => []
  | op => Pc ++ [told Pc op]
noncomputable def okOp (Pc : List (Array UInt8)) : Op → Prop
  | .clear => True
  | .lit c => c < 256
  | .ref j => j < Pc.length
theorem tabOf_length : ∀ Pc : List (Array UInt8), (tabOf Pc).length = Pc.length - 1
  | [] => rfl
  | [_] => rfl
  | a :: b :: r => by
    show (tabOf (b :: r)).length + 1 = _
    rw [tabOf_length (b :: r)]
    simp
theorem tabOf_snoc : ∀ (Pc : List (Array UInt8)) (x : Array UInt8), Pc ≠ [] → tabOf (Pc ++ [x]) = tabOf Pc ++ [lastOf Pc ++ first1 x]
  | [], x, h => absurd rfl h
  | [a], x, _ => rfl
  | a :: b :: r, x, _ => by
    show (a ++ first1 b) :: tabOf ((b :: r) ++ [x]) = (a ++ first1 b) :: tabOf (b :: r) ++ _
    rw [tabOf_snoc (b :: r) x (by simp)]
    rfl
theorem tabOf_get : ∀ (Pc : List (Array UInt8)) (j : Nat), j + 1 < Pc.length → (tabOf Pc)[j]? = some (pieceAt Pc j ++ first1 (pieceAt Pc (j + 1)))
  | [], j, h => absurd h (by simp)
  | [_], j, h => absurd h (by simp)
  | a :: b :: r, 0, _ => rfl
  | a :: b :: r, j + 1, h => by
    have := tabOf_get (b :: r) j (by simpa using h)
    exact this
theorem lastOf_snoc (Pc : List (Array UInt8)) (x : Array UInt8) : lastOf (Pc ++ [x]) = x := by unfold lastOf; simp
theorem lastOf_at (Pc : List (Array UInt8)) (h : Pc ≠ []) : lastOf Pc = pieceAt Pc (Pc.length - 1) := by
  unfold lastOf pieceAt
  rw [List.getLast?_eq_getElem?]
theorem nbOf_next (Pc : List (Array UInt8)) (x : Array UInt8) (h : Pc ≠ []) : nbAfter (nbOf Pc) ((tabOf Pc).length + 1) = nbOf (Pc ++ [x]) := by
  have hl : 0 < Pc.length := List.length_pos_iff.mpr h
  rw [tabOf_length]
  unfold nbAfter nbOf
  rw [List.length_append, List.length_singleton]
  by_cases h1 : Pc.length < 253
  · rw [if_neg (by omega), if_pos (by omega), if_pos (by omega)]
  · by_cases h2 : Pc.length = 253
    · rw [if_pos (by omega), if_neg (by omega)]
    · rw [if_neg (by omega), if_neg (by omega), if_neg (by omega)]
/-- the decoder's state behind p bits and the pieces Pc -/
noncomputable def stOf (p : Nat) (Pc : List (Array UInt8)) : DSt := ⟨p, true, tabOf Pc, lastOf Pc, nbOf Pc⟩
noncomputable def GoodPc (Pc : List (Array UInt8)) : Prop := Pc.length ≤ 300 ∧ ∀ x ∈ Pc, 0 < x.size ∧ x.size ≤ 1000000
theorem lastOf_pos {Pc : List (Array UInt8)} (g : GoodPc Pc) (h : Pc ≠ []) : 0 < (lastOf Pc).size := by
  unfold lastOf
  rw [List.getLast?_eq_some_getLast h]
  exact (g.2 _ (List.getLast_mem h)).1
theorem lastOf_le {Pc : List (Array UInt8)} (g : GoodPc Pc) : (lastOf Pc).size ≤ 1000000 := by
  unfold lastOf
  by_cases h : Pc = []
  · subst h; decide
  · rw [List.getLast?_eq_some_getLast h]
    exact (g.2 _ (List.getLast_mem h)).2
theorem tab_le {Pc : List (Array UInt8)} (g : GoodPc Pc) : (tabOf Pc).length ≤ 300 := by rw [tabOf_length]; have := g.1; omega

theorem first1_eq (a : Array UInt8) : first1 a = (a.toList.take 1).toArray := by
  unfold first1
  rw [KBc.picked_eq]
  have e : clipAt a.size (1 : Int) = min 1 a.size := clipAt_nat a.size 1
  simp only [Option.elim, e, List.drop_zero, Nat.sub_zero]
  congr 1
  rcases Nat.eq_zero_or_pos a.size with h | h
  · have : a.toList = [] := by rw [← List.length_eq_zero_iff]; simpa using h
    rw [this]; simp
  · rw [Nat.min_eq_left h]
theorem first1_append {a b : Array UInt8} (h : 0 < a.size) : first1 (a ++ b) = first1 a := by
  rw [first1_eq, first1_eq, Array.toList_append, List.take_append_of_le_length (by rw [Array.length_toList]; exact h)]
/-- one code, by the decoder -/
theorem run_op {b : Array UInt8} {p : Nat} {Pc : List (Array UInt8)} {op : Op} {l : List (Array UInt8)} (g : GoodPc Pc) (ok : okOp Pc op) (hp : p + nbOf Pc ≤ 8 * b.size) (hc : codeAt b (stOf p Pc) = (opCode Pc op).1)
    (hx : (told Pc op).size ≤ 1000000) (hr : Run b (stOf (p + nbOf Pc) (nextPc Pc op)) l) : Run b (stOf p Pc) (told Pc op :: l) := by
  cases op with
  | clear => exact Run.clear hp hc hr
  | lit c =>
    have hc' : codeAt b (stOf p Pc) = c := hc
    have ok' : c < 256 := ok
    by_cases h : Pc = []
    · subst h
      have := Run.first (b := b) (σ := stOf p []) (l := l) hp rfl (by show 0 ≤ 300; decide) (by show 0 ≤ 1000000; decide) rfl (by rw [hc']; exact ok') (by rw [hc']; exact hr)
      rw [hc'] at this
      exact this
    · have e : entry (tabOf Pc) (codeAt b (stOf p Pc)) = some #[c.toUInt8] := by rw [hc']; unfold entry; rw [if_pos ok']
      refine Run.old hp rfl (tab_le g) (lastOf_le g) (lastOf_pos g h) e hx ?_
      have e2 : nextPc Pc (.lit c) = Pc ++ [#[c.toUInt8]] := rfl
      rw [e2] at hr
      unfold stOf at hr
      rw [tabOf_snoc _ _ h, lastOf_snoc, ← nbOf_next Pc _ h] at hr
      exact hr
  | ref j =>
    have hc' : codeAt b (stOf p Pc) = 258 + j := hc
    have ok' : j < Pc.length := ok
    have h : Pc ≠ [] := by intro e; subst e; simp at ok'
    have e2 : nextPc Pc (.ref j) = Pc ++ [told Pc (.ref j)] := rfl
    rw [e2] at hr
    unfold stOf at hr
    rw [tabOf_snoc _ _ h, lastOf_snoc, ← nbOf_next Pc _ h] at hr
    by_cases hj : j + 1 < Pc.length
    · have et : told Pc (.ref j) = pieceAt Pc j ++ first1 (pieceAt Pc (j + 1)) := by show pieceAt Pc j ++ first1 (if j + 1 < Pc.length then pieceAt Pc (j + 1) else pieceAt Pc j) = _; rw [if_pos hj]
      have e : entry (tabOf Pc) (codeAt b (stOf p Pc)) = some (told Pc (.ref j)) := by
        rw [hc', et]; unfold entry
        rw [if_neg (by omega), if_neg (by omega), show 258 + j - 258 = j by omega, tabOf_get Pc j hj]
      exact Run.old hp rfl (tab_le g) (lastOf_le g) (lastOf_pos g h) e hx hr
    · have hj' : j = Pc.length - 1 := by omega
      have et : told Pc (.ref j) = lastOf Pc ++ first1 (lastOf Pc) := by show pieceAt Pc j ++ first1 (if j + 1 < Pc.length then pieceAt Pc (j + 1) else pieceAt Pc j) = _; rw [if_neg hj, lastOf_at Pc h, hj']
      rw [et, first1_append (lastOf_pos g h)] at hr
      rw [et]
      have hcn : codeAt b (stOf p Pc) = 258 + (stOf p Pc).T.length := by
        rw [hc']
        show 258 + j = 258 + (tabOf Pc).length
        rw [tabOf_length, hj']
      exact Run.new (b := b) (σ := stOf p Pc) (l := l) hp rfl (tab_le g) (lastOf_le g) (lastOf_pos g h) hcn hr
end
section
noncomputable def codesOf : List (Array UInt8) → List Op → List (Nat × Nat)
  | _, [] => []
  | Pc, op :: r => opCode Pc op :: codesOf (nextPc Pc op) r
noncomputable def toldOf : List (Array UInt8) → List Op → List (Array UInt8)
  | _, [] => []
  | Pc, op :: r => told Pc op :: toldOf (nextPc Pc op) r
noncomputable def pcAfter : List (Array UInt8) → List Op → List (Array UInt8)
  | Pc, [] => Pc
  | Pc, op :: r => pcAfter (nextPc Pc op) r
noncomputable def AllGood : List (Array UInt8) → List Op → Prop
  | Pc, [] => GoodPc Pc
  | Pc, op :: r => GoodPc Pc ∧ okOp Pc op ∧ (told Pc op).size ≤ 1000000 ∧ AllGood (nextPc Pc op) r
/-- the octets b bear these codes from bit p on -/
noncomputable def Bears (b : Array UInt8) : Nat → List (Nat × Nat) → Prop
  | _, [] => True
  | p, c :: r => p + c.2 ≤ 8 * b.size ∧ bitsAt (bigOf b.toList) (8 * b.toList.length) p c.2 = c.1 ∧ Bears b (p + c.2) r
theorem run_ops {b : Array UInt8} {l : List (Array UInt8)} : ∀ (ops : List Op) (Pc : List (Array UInt8)) (p : Nat), AllGood Pc ops → Bears b p (codesOf Pc ops) →
    Run b (stOf (p + lenOfCodes (codesOf Pc ops)) (pcAfter Pc ops)) l → Run b (stOf p Pc) (toldOf Pc ops ++ l)
  | [], Pc, p, _, _, hr => by
    have e : lenOfCodes (codesOf Pc []) = 0 := rfl
    rw [e, Nat.add_zero] at hr
    exact hr
  | op :: r, Pc, p, g, hb, hr => by
    obtain ⟨g1, g2, g3, g4⟩ := g
    obtain ⟨b1, b2, b3⟩ := hb
    have ew : (opCode Pc op).2 = nbOf Pc := by cases op <;> rfl
    rw [ew] at b1 b2 b3
    have el : lenOfCodes (codesOf Pc (op :: r)) = nbOf Pc + lenOfCodes (codesOf (nextPc Pc op) r) := by
      show lenOfCodes (opCode Pc op :: codesOf (nextPc Pc op) r) = _
      unfold lenOfCodes
      rw [List.map_cons, List.sum_cons, ew]
    rw [el, ← Nat.add_assoc] at hr
    exact run_op g1 g2 b1 b2 g3 (run_ops r (nextPc Pc op) (p + nbOf Pc) g4 b3 hr)
/-- octets that bear a row of codes, whatever stands behind -/
theorem bears_of {b : Array UInt8} {cs : List (Nat × Nat)} {e : Nat} {r : Nat} (hcs : ∀ c ∈ cs, c.1 < 2 ^ c.2) (hT : 8 * b.size = lenOfCodes cs + e) (hr : r < 2 ^ e) (hX : bigOf b.toList = valOfCodes cs * 2 ^ e + r) : Bears b 0 cs := by
  have key : ∀ (post pre : List (Nat × Nat)), cs = pre ++ post → Bears b (lenOfCodes pre) post := by
    intro post
    induction post with
    | nil => intro _ _; trivial
    | cons c l ih =>
      intro pre he
      obtain ⟨c, w⟩ := c
      have hl : lenOfCodes cs = lenOfCodes pre + (w + lenOfCodes l) := by rw [he]; unfold lenOfCodes; simp
      refine ⟨by show lenOfCodes pre + w ≤ _; omega, ?_, ?_⟩
      · show bitsAt (bigOf b.toList) (8 * b.toList.length) (lenOfCodes pre) w = c
        rw [Array.length_toList, hT, hX, bitsAt_shift (by omega) hr, he]
        exact bitsAt_code (by rw [← he]; exact hcs)
      · have := ih (pre ++ [(c, w)]) (by rw [he]; simp)
        rw [lenOfCodes_snoc] at this
        exact this
  exact key cs [] rfl
end
section
theorem run_all {b : Array UInt8} {l : List (Array UInt8)} {ops : List Op} (g : AllGood [] ops) (hb : Bears b 0 ((256, 9) :: codesOf [] ops)) (hr : Run b (stOf (9 + lenOfCodes (codesOf [] ops)) (pcAfter [] ops)) l) :
    Run b ⟨0, false, [], #[], 9⟩ (#[] :: (toldOf [] ops ++ l)) := by
  obtain ⟨b1, b2, b3⟩ := hb
  have e : (0 : Nat) + 9 = 9 := rfl
  refine Run.clear (σ := ⟨0, false, [], #[], 9⟩) b1 b2 ?_
  exact run_ops ops [] 9 g b3 hr
theorem end_eof {b : Array UInt8} {p : Nat} {Pc : List (Array UInt8)} (h : 8 * b.size < p + nbOf Pc) : Run b (stOf p Pc) [] := Run.eof h
theorem end_stop {b : Array UInt8} {p : Nat} {Pc : List (Array UInt8)} (g : GoodPc Pc) (hb : Bears b p [(257, nbOf Pc)]) (h : 8 * b.size < p + nbOf Pc + nbOf Pc) : Run b (stOf p Pc) [#[]] := by
  obtain ⟨b1, b2, _⟩ := hb
  exact Run.stop (σ := stOf p Pc) b1 rfl (tab_le g) (lastOf_le g) b2 (Run.eof h)
theorem end_bad {b : Array UInt8} {p c : Nat} {Pc : List (Array UInt8)} (g : GoodPc Pc) (hne : Pc ≠ []) (hb : Bears b p [(c, nbOf Pc)]) (hc : 257 + Pc.length < c) : Run b (stOf p Pc) [] := by
  obtain ⟨b1, b2, _⟩ := hb
  refine Run.bad (σ := stOf p Pc) b1 rfl (tab_le g) (lastOf_le g) (lastOf_pos g hne) ?_
  have e : codeAt b (stOf p Pc) = c := b2
  rw [e]
  show 258 + (tabOf Pc).length < c
  rw [tabOf_length]
  have := List.length_pos_iff.mpr hne
  omega
theorem bigOf_append (l r : List UInt8) : bigOf (l ++ r) = bigOf l * 256 ^ r.length + bigOf r := by
  unfold bigOf
  rw [List.foldl_append, bigOf_fold]
  rfl
theorem bigOf_take (l : List UInt8) (k : Nat) : bigOf (l.take k) = bigOf l / 256 ^ (l.length - k) := by
  have h : bigOf l = bigOf (l.take k) * 256 ^ (l.length - k) + bigOf (l.drop k) := by
    have := bigOf_append (l.take k) (l.drop k)
    rw [List.take_append_drop, List.length_drop] at this
    exact this
  have hlt : bigOf (l.drop k) < 256 ^ (l.length - k) := by have := bigOf_lt (l.drop k); rwa [List.length_drop] at this
  rw [h, Nat.add_comm, Nat.add_mul_div_right _ _ (Nat.pow_pos (by decide)), Nat.div_eq_of_lt hlt, Nat.zero_add]
theorem bears_take {l : List UInt8} {k : Nat} (hk : k ≤ l.length) : ∀ (cs : List (Nat × Nat)) (p : Nat), Bears l.toArray p cs → p + lenOfCodes cs ≤ 8 * k → Bears (l.take k).toArray p cs
  | [], _, _, _ => trivial
  | c :: r, p, h, hp => by
    obtain ⟨h1, h2, h3⟩ := h
    have el : lenOfCodes (c :: r) = c.2 + lenOfCodes r := by unfold lenOfCodes; simp
    have hlen : (l.take k).length = k := by rw [List.length_take]; omega
    refine ⟨by rw [List.size_toArray, hlen]; omega, ?_, bears_take hk r (p + c.2) h3 (by omega)⟩
    have e1 : (l.take k).toArray.toList = l.take k := rfl
    have e2 : l.toArray.toList = l := rfl
    rw [e1, hlen, bigOf_take, p256_8, show 8 * (l.length - k) = 8 * l.length - 8 * k by omega, bitsAt_cut (by omega) (by omega)]
    rw [e2] at h2
    exact h2
theorem bears_split {b : Array UInt8} : ∀ (cs ds : List (Nat × Nat)) (p : Nat), Bears b p (cs ++ ds) → Bears b p cs ∧ Bears b (p + lenOfCodes cs) ds
  | [], ds, p, h => ⟨trivial, by have e : lenOfCodes [] = 0 := rfl; rw [e, Nat.add_zero]; exact h⟩
  | c :: r, ds, p, h => by
    obtain ⟨h1, h2, h3⟩ := h
    obtain ⟨q1, q2⟩ := bears_split r ds (p + c.2) h3
    refine ⟨⟨h1, h2, q1⟩, ?_⟩
    have el : lenOfCodes (c :: r) = c.2 + lenOfCodes r := by unfold lenOfCodes; simp
    rw [el, ← Nat.add_assoc]
    exact q2
end
section
open Sem (wp)
/-- the law's fixed octets: what the decoder tells -/
theorem run_fixed : Run #[128, 16, 96, 64] ⟨0, false, [], #[], 9⟩ [#[], #[65], #[65] ++ first1 #[65]] := by
  refine run_all (ops := [.lit 65, .ref 0]) (l := []) ⟨⟨by decide, fun x hx => by cases hx⟩, by show 65 < 256; decide, by decide, ⟨by decide, fun x hx => ?_⟩, by show 0 < 1; decide, ?_, by decide, fun x hx => ?_⟩ ⟨by decide, by decide, by decide, by decide, by decide, by decide, trivial⟩ ?_
  · have e : x = #[65] := by simpa [nextPc, told] using hx
    subst e; decide
  · show (pieceAt [#[65]] 0 ++ first1 (pieceAt [#[65]] 0)).size ≤ 1000000
    decide
  · have e : x = #[65] ∨ x = #[65] ++ first1 #[65] := by simpa [nextPc, told, pieceAt] using hx
    rcases e with e | e <;> subst e <;> decide
  · exact end_eof (by decide)
theorem octets_fixed : [#[], #[65], #[65] ++ first1 #[65]].foldl (· ++ ·) (#[] : Array UInt8) = #[65, 65, 65] := by decide
end
section
open Sem (wp)
/-- a piece's size is at most its place plus one -/
noncomputable def Small (Pc : List (Array UInt8)) : Prop := ∀ i x, Pc[i]? = some x → 0 < x.size ∧ x.size ≤ i + 1
noncomputable def okAll : List (Array UInt8) → List Op → Prop
  | _, [] => True
  | Pc, op :: r => okOp Pc op ∧ okAll (nextPc Pc op) r
theorem small_nil : Small [] := fun i x h => by simp at h
theorem first1_size (a : Array UInt8) : (first1 a).size ≤ 1 := by
  rw [first1_eq, List.size_toArray, List.length_take]
  omega
theorem small_told {Pc : List (Array UInt8)} {op : Op} (h : Small Pc) (ok : okOp Pc op) (hne : op ≠ .clear) : 0 < (told Pc op).size ∧ (told Pc op).size ≤ Pc.length + 1 := by
  cases op with
  | clear => exact absurd rfl hne
  | lit c =>
    show 0 < 1 ∧ 1 ≤ Pc.length + 1
    omega
  | ref j =>
    have hj : j < Pc.length := ok
    have e : pieceAt Pc j = Pc[j] := by
      unfold pieceAt
      rw [List.getElem?_eq_getElem hj]
      rfl
    obtain ⟨h1, h2⟩ := h j Pc[j] (List.getElem?_eq_getElem hj)
    have h3 : ∀ z, (first1 z).size ≤ 1 := first1_size
    have h4 := h3 (if j + 1 < Pc.length then pieceAt Pc (j + 1) else pieceAt Pc j)
    have e2 : (told Pc (.ref j)).size = (pieceAt Pc j).size + (first1 (if j + 1 < Pc.length then pieceAt Pc (j + 1) else pieceAt Pc j)).size := Array.size_append
    rw [← e] at h1 h2
    rw [e2]
    omega
theorem small_push {Pc : List (Array UInt8)} {x : Array UInt8} (h : Small Pc) (h1 : 0 < x.size) (h2 : x.size ≤ Pc.length + 1) : Small (Pc ++ [x]) := by
  intro i y hy
  rw [List.getElem?_append] at hy
  by_cases hi : i < Pc.length
  · rw [if_pos hi] at hy
    exact h i y hy
  · rw [if_neg hi] at hy
    have e : i - Pc.length = 0 := by
      rcases Nat.lt_or_ge (i - Pc.length) 1 with q | q
      · omega
      · rw [List.getElem?_eq_none (by simpa using q)] at hy
        cases hy
    rw [e] at hy
    cases hy
    exact ⟨h1, by omega⟩
theorem small_next {Pc : List (Array UInt8)} {op : Op} (h : Small Pc) (ok : okOp Pc op) : Small (nextPc Pc op) ∧ (nextPc Pc op).length ≤ Pc.length + 1 := by
  cases op with
  | clear => exact ⟨small_nil, Nat.zero_le _⟩
  | lit c =>
    obtain ⟨h1, h2⟩ := small_told h ok (by simp)
    exact ⟨small_push h h1 h2, by show (Pc ++ [_]).length ≤ _; simp⟩
  | ref j =>
    obtain ⟨h1, h2⟩ := small_told h ok (by simp)
    exact ⟨small_push h h1 h2, by show (Pc ++ [_]).length ≤ _; simp⟩
theorem small_good {Pc : List (Array UInt8)} (h : Small Pc) (hl : Pc.length ≤ 300) : GoodPc Pc := by
  refine ⟨hl, fun x hx => ?_⟩
  obtain ⟨i, hi, e⟩ := List.getElem_of_mem hx
  have := h i x (by rw [List.getElem?_eq_getElem hi, e])
  omega
theorem allGood_of : ∀ (ops : List Op) (Pc : List (Array UInt8)), Small Pc → okAll Pc ops → Pc.length + ops.length ≤ 300 → AllGood Pc ops
  | [], Pc, h, _, hl => small_good h (by simpa using hl)
  | op :: r, Pc, h, ok, hl => by
    obtain ⟨o1, o2⟩ := ok
    obtain ⟨n1, n2⟩ := small_next h o1
    rw [List.length_cons] at hl
    refine ⟨small_good h (by omega), o1, ?_, allGood_of r (nextPc Pc op) n1 o2 (by omega)⟩
    cases op with
    | clear => show 0 ≤ _; omega
    | lit c =>
      have := (small_told h o1 (by simp)).2
      omega
    | ref j =>
      have := (small_told h o1 (by simp)).2
      omega
end
section
open Sem (wp)

theorem codesOf_snoc : ∀ (ops : List Op) (Pc : List (Array UInt8)) (op : Op), codesOf Pc (ops ++ [op]) = codesOf Pc ops ++ [opCode (pcAfter Pc ops) op]
  | [], _, _ => rfl
  | o :: r, Pc, op => by
    show opCode Pc o :: codesOf (nextPc Pc o) (r ++ [op]) = _
    rw [codesOf_snoc r (nextPc Pc o) op]
    rfl
theorem toldOf_snoc : ∀ (ops : List Op) (Pc : List (Array UInt8)) (op : Op), toldOf Pc (ops ++ [op]) = toldOf Pc ops ++ [told (pcAfter Pc ops) op]
  | [], _, _ => rfl
  | o :: r, Pc, op => by
    show told Pc o :: toldOf (nextPc Pc o) (r ++ [op]) = _
    rw [toldOf_snoc r (nextPc Pc o) op]
    rfl
theorem pcAfter_snoc : ∀ (ops : List Op) (Pc : List (Array UInt8)) (op : Op), pcAfter Pc (ops ++ [op]) = nextPc (pcAfter Pc ops) op
  | [], _, _ => rfl
  | o :: r, Pc, op => pcAfter_snoc r (nextPc Pc o) op
theorem okAll_snoc : ∀ (ops : List Op) (Pc : List (Array UInt8)) (op : Op), okAll Pc ops → okOp (pcAfter Pc ops) op → okAll Pc (ops ++ [op])
  | [], _, _, _, h => ⟨h, trivial⟩
  | o :: r, Pc, op, h, h2 => ⟨h.1, okAll_snoc r (nextPc Pc o) op h.2 h2⟩
theorem opCode_lt {Pc : List (Array UInt8)} {op : Op} (hl : Pc.length ≤ 300) (ok : okOp Pc op) : (opCode Pc op).1 < 2 ^ (opCode Pc op).2 := by
  have e9 : (2 : Nat) ^ 9 = 512 := by decide
  have e10 : (2 : Nat) ^ 10 = 1024 := by decide
  have e : (nbOf Pc = 9 ∧ Pc.length < 254) ∨ nbOf Pc = 10 := by
    unfold nbOf
    by_cases h : Pc.length < 254
    · rw [if_pos h]; exact .inl ⟨rfl, h⟩
    · rw [if_neg h]; exact .inr rfl
  cases op with
  | clear =>
    show 256 < 2 ^ nbOf Pc
    rcases e with ⟨e, _⟩ | e <;> rw [e] <;> omega
  | lit c =>
    have hc : c < 256 := ok
    show c < 2 ^ nbOf Pc
    rcases e with ⟨e, _⟩ | e <;> rw [e] <;> omega
  | ref j =>
    have hj : j < Pc.length := ok
    show 258 + j < 2 ^ nbOf Pc
    rcases e with ⟨e, h⟩ | e <;> rw [e] <;> omega
theorem codes_lt : ∀ (ops : List Op) (Pc : List (Array UInt8)), okAll Pc ops → Pc.length + ops.length ≤ 300 → ∀ c ∈ codesOf Pc ops, c.1 < 2 ^ c.2
  | [], _, _, _, c, h => by cases h
  | op :: r, Pc, ok, hl, c, h => by
    rw [List.length_cons] at hl
    rcases List.mem_cons.mp h with h | h
    · rw [h]
      exact opCode_lt (by omega) ok.1
    · have hn : (nextPc Pc op).length ≤ Pc.length + 1 := by
        cases op with
        | clear => exact Nat.zero_le _
        | lit c => show (Pc ++ [_]).length ≤ _; simp
        | ref j => show (Pc ++ [_]).length ≤ _; simp
      exact codes_lt r (nextPc Pc op) ok.2 (by omega) c h
theorem toldOf_length : ∀ (ops : List Op) (Pc : List (Array UInt8)), (toldOf Pc ops).length = ops.length
  | [], _ => rfl
  | o :: r, Pc => by
    show (toldOf (nextPc Pc o) r).length + 1 = r.length + 1
    rw [toldOf_length r]
theorem pcAfter_length : ∀ (ops : List Op) (Pc : List (Array UInt8)), (pcAfter Pc ops).length ≤ Pc.length + ops.length
  | [], _ => Nat.le_refl _
  | o :: r, Pc => by
    have h := pcAfter_length r (nextPc Pc o)
    have hn : (nextPc Pc o).length ≤ Pc.length + 1 := by
      cases o with
      | clear => exact Nat.zero_le _
      | lit c => show (Pc ++ [_]).length ≤ _; simp
      | ref j => show (Pc ++ [_]).length ≤ _; simp
    show (pcAfter (nextPc Pc o) r).length ≤ Pc.length + (r.length + 1)
    omega
end
section
open Sem (wp)

theorem codesOf_append : ∀ (ops qs : List Op) (Pc : List (Array UInt8)), codesOf Pc (ops ++ qs) = codesOf Pc ops ++ codesOf (pcAfter Pc ops) qs
  | [], _, _ => rfl
  | o :: r, qs, Pc => by
    show opCode Pc o :: codesOf (nextPc Pc o) (r ++ qs) = _
    rw [codesOf_append r qs (nextPc Pc o)]
    rfl
theorem okAll_left : ∀ (ops qs : List Op) (Pc : List (Array UInt8)), okAll Pc (ops ++ qs) → okAll Pc ops
  | [], _, _, _ => trivial
  | o :: r, qs, Pc, h => ⟨h.1, okAll_left r qs (nextPc Pc o) h.2⟩
theorem nbOf_ge (Pc : List (Array UInt8)) : 9 ≤ nbOf Pc := by
  unfold nbOf
  by_cases h : Pc.length < 254
  · rw [if_pos h]; omega
  · rw [if_neg h]; omega
/-- the octets bear the whole row -/
theorem bears_enc {b : Array UInt8} {ops : List Op} {tl : List (Nat × Nat)} {e r : Nat} (ok : okAll [] ops) (hl : ops.length ≤ 300) (htl : ∀ c ∈ tl, c.1 < 2 ^ c.2) (hT : 8 * b.size = lenOfCodes ((256, 9) :: codesOf [] ops ++ tl) + e) (hr : r < 2 ^ e)
    (hX : bigOf b.toList = valOfCodes ((256, 9) :: codesOf [] ops ++ tl) * 2 ^ e + r) : Bears b 0 ((256, 9) :: codesOf [] ops ++ tl) := by
  refine bears_of (fun c hc => ?_) hT hr hX
  rcases List.mem_append.mp hc with hc | hc
  · rcases List.mem_cons.mp hc with hc | hc
    · rw [hc]
      show 256 < 2 ^ 9
      decide
    · exact codes_lt ops [] ok (by show 0 + _ ≤ _; omega) c hc
  · exact htl c hc
theorem len_cons9 (cs : List (Nat × Nat)) : lenOfCodes ((256, 9) :: cs) = 9 + lenOfCodes cs := by unfold lenOfCodes; simp
/-- no end code: the octets end within the next code -/
theorem run_eof {b : Array UInt8} {ops : List Op} (ok : okAll [] ops) (hl : ops.length ≤ 300) (hb : Bears b 0 ((256, 9) :: codesOf [] ops)) (he : 8 * b.size < 9 + lenOfCodes (codesOf [] ops) + nbOf (pcAfter [] ops)) :
    Run b ⟨0, false, [], #[], 9⟩ (#[] :: toldOf [] ops) := by
  have h := run_all (l := []) (allGood_of ops [] small_nil ok (by show 0 + _ ≤ _; omega)) hb (end_eof he)
  rwa [List.append_nil] at h
/-- an end code, then the octets end -/
theorem run_stop {b : Array UInt8} {ops : List Op} (ok : okAll [] ops) (hl : ops.length ≤ 299) (hb : Bears b 0 ((256, 9) :: codesOf [] ops ++ [(257, nbOf (pcAfter [] ops))])) (he : 8 * b.size < 9 + lenOfCodes (codesOf [] ops) + nbOf (pcAfter [] ops) + nbOf (pcAfter [] ops)) :
    Run b ⟨0, false, [], #[], 9⟩ (#[] :: (toldOf [] ops ++ [#[]])) := by
  obtain ⟨b1, b2⟩ := bears_split ((256, 9) :: codesOf [] ops) _ 0 hb
  rw [len_cons9, Nat.zero_add] at b2
  have ag := allGood_of ops [] small_nil ok (by show 0 + _ ≤ _; omega)
  have g : GoodPc (pcAfter [] ops) := by
    have key : ∀ (ops : List Op) (Pc : List (Array UInt8)), AllGood Pc ops → GoodPc (pcAfter Pc ops) := by
      intro ops
      induction ops with
      | nil => intro Pc h; exact h
      | cons o r ih => intro Pc h; exact ih _ h.2.2.2
    exact key ops [] ag
  exact run_all ag b1 (end_stop g b2 he)
/-- cut off at k octets: the codes that lie whole within are told -/
theorem run_cut {l : List UInt8} {k : Nat} {pre post : List Op} {tl : List (Nat × Nat)} (ok : okAll [] pre) (hl : pre.length ≤ 300) (hk : k ≤ l.length) (hb : Bears l.toArray 0 ((256, 9) :: codesOf [] (pre ++ post) ++ tl))
    (h1 : 9 + lenOfCodes (codesOf [] pre) ≤ 8 * k) (h2 : 8 * k < 9 + lenOfCodes (codesOf [] pre) + nbOf (pcAfter [] pre)) : Run (l.take k).toArray ⟨0, false, [], #[], 9⟩ (#[] :: toldOf [] pre) := by
  have e : (256, 9) :: codesOf [] (pre ++ post) ++ tl = ((256, 9) :: codesOf [] pre) ++ (codesOf (pcAfter [] pre) post ++ tl) := by
    rw [codesOf_append, List.cons_append, List.cons_append, List.append_assoc]
  rw [e] at hb
  obtain ⟨b1, _⟩ := bears_split _ _ 0 hb
  have b3 := bears_take hk _ 0 b1 (by rw [len_cons9]; omega)
  have hs : (l.take k).toArray.size = k := by rw [List.size_toArray, List.length_take]; omega
  exact run_eof ok hl b3 (by rw [hs]; exact h2)
end
section
open Sem (wp)

theorem good_after : ∀ (ops : List Op) (Pc : List (Array UInt8)), AllGood Pc ops → GoodPc (pcAfter Pc ops)
  | [], _, h => h
  | o :: r, Pc, h => good_after r (nextPc Pc o) h.2.2.2
/-- a code beyond the table, and any bits behind it -/
theorem run_bad {b : Array UInt8} {ops : List Op} {c : Nat} (ok : okAll [] ops) (hl : ops.length ≤ 299) (hne : pcAfter [] ops ≠ []) (hc : 257 + (pcAfter [] ops).length < c) (hb : Bears b 0 ((256, 9) :: codesOf [] ops ++ [(c, nbOf (pcAfter [] ops))])) :
    Run b ⟨0, false, [], #[], 9⟩ (#[] :: toldOf [] ops) := by
  obtain ⟨b1, b2⟩ := bears_split ((256, 9) :: codesOf [] ops) _ 0 hb
  rw [len_cons9, Nat.zero_add] at b2
  have ag := allGood_of ops [] small_nil ok (by show 0 + _ ≤ _; omega)
  have h := run_all (l := []) ag b1 (end_bad (good_after ops [] ag) hne b2 hc)
  rwa [List.append_nil] at h
/-- not even the first clear code lies whole within -/
theorem run_short {b : Array UInt8} (h : 8 * b.size < 9) : Run b ⟨0, false, [], #[], 9⟩ [] := Run.eof (by show 8 * b.size < 0 + 9; omega)
/-- cut off behind the end's code -/
theorem run_cut_stop {l : List UInt8} {k : Nat} {ops : List Op} (ok : okAll [] ops) (hl : ops.length ≤ 299) (hk : k ≤ l.length) (hb : Bears l.toArray 0 ((256, 9) :: codesOf [] ops ++ [(257, nbOf (pcAfter [] ops))]))
    (h1 : 9 + lenOfCodes (codesOf [] ops) + nbOf (pcAfter [] ops) ≤ 8 * k) (h2 : 8 * l.length < 9 + lenOfCodes (codesOf [] ops) + nbOf (pcAfter [] ops) + nbOf (pcAfter [] ops)) :
    Run (l.take k).toArray ⟨0, false, [], #[], 9⟩ (#[] :: (toldOf [] ops ++ [#[]])) := by
  have e1 : lenOfCodes ((256, 9) :: codesOf [] ops ++ [(257, nbOf (pcAfter [] ops))]) = 9 + lenOfCodes (codesOf [] ops) + nbOf (pcAfter [] ops) := by
    rw [List.cons_append, len_cons9]
    unfold lenOfCodes
    simp
    omega
  have b3 := bears_take hk _ 0 hb (by rw [e1]; omega)
  have hs : (l.take k).toArray.size = k := by rw [List.size_toArray, List.length_take]; omega
  exact run_stop ok hl b3 (by rw [hs]; omega)
theorem foldl_app : ∀ (l : List (Array UInt8)) (a : Array UInt8), (l.foldl (· ++ ·) a).toList = a.toList ++ (l.map Array.toList).flatten
  | [], a => by simp
  | x :: r, a => by
    rw [List.foldl_cons, foldl_app r (a ++ x)]
    simp
end
section
open Sem (wp)
/-- the code that a wish draws -/
noncomputable def opOf (Pc : List (Array UInt8)) (w : Int) : Op := if w = -1 then .clear else if w < 256 ∨ Pc = [] then .lit (w % 256).toNat else .ref (w % (Pc.length : Int)).toNat
theorem okOp_of (Pc : List (Array UInt8)) (w : Int) : okOp Pc (opOf Pc w) := by
  unfold opOf
  by_cases h1 : w = -1
  · rw [if_pos h1]; trivial
  · rw [if_neg h1]
    by_cases h2 : w < 256 ∨ Pc = []
    · rw [if_pos h2]
      show (w % 256).toNat < 256
      omega
    · rw [if_neg h2]
      have hne : Pc ≠ [] := fun e => h2 (.inr e)
      have hl := List.length_pos_iff.mpr hne
      show (w % (Pc.length : Int)).toNat < Pc.length
      have a := Int.emod_lt_of_pos w (show (0 : Int) < (Pc.length : Int) by omega)
      have b := Int.emod_nonneg w (show (Pc.length : Int) ≠ 0 by omega)
      omega
/-- the codes that wishes draw -/
noncomputable def opsOf : List (Array UInt8) → List Int → List Op
  | _, [] => []
  | Pc, w :: r => opOf Pc w :: opsOf (nextPc Pc (opOf Pc w)) r
theorem opsOf_ok : ∀ (ws : List Int) (Pc : List (Array UInt8)), okAll Pc (opsOf Pc ws)
  | [], _ => trivial
  | w :: r, Pc => ⟨okOp_of Pc w, opsOf_ok r _⟩
theorem opsOf_length : ∀ (ws : List Int) (Pc : List (Array UInt8)), (opsOf Pc ws).length = ws.length
  | [], _ => rfl
  | w :: r, Pc => by
    show (opsOf (nextPc Pc (opOf Pc w)) r).length + 1 = r.length + 1
    rw [opsOf_length r]
theorem opsOf_snoc : ∀ (ws : List Int) (Pc : List (Array UInt8)) (w : Int), opsOf Pc (ws ++ [w]) = opsOf Pc ws ++ [opOf (pcAfter Pc (opsOf Pc ws)) w]
  | [], _, _ => rfl
  | v :: r, Pc, w => by
    show opOf Pc v :: opsOf (nextPc Pc (opOf Pc v)) (r ++ [w]) = _
    rw [opsOf_snoc r _ w]
    rfl
end
section
open Sem (wp)
/-- the law's copying loop, in plain Lean -/
noncomputable def copied (D : List UInt8) (s : Nat) : Nat → List UInt8
  | 0 => D
  | n + 1 => copied D s n ++ [(copied D s n).getD (s + n) 0]
theorem copied_take (A P R : List UInt8) : ∀ n, n ≤ P.length → copied (A ++ (P ++ R)) A.length n = A ++ (P ++ R) ++ P.take n
  | 0, _ => by simp [copied]
  | n + 1, h => by
    have hn : n < P.length := h
    have e : (A ++ (P ++ R) ++ P.take n).getD (A.length + n) 0 = P[n] := by
      rw [List.getD_eq_getElem?_getD, List.append_assoc, List.getElem?_append_right (by omega), Nat.add_sub_cancel_left, List.append_assoc, List.getElem?_append_left hn, List.getElem?_eq_getElem hn]
      rfl
    show copied (A ++ (P ++ R)) A.length n ++ [(copied (A ++ (P ++ R)) A.length n).getD (A.length + n) 0] = _
    rw [copied_take A P R n (by omega), e, List.append_assoc, List.take_append_getElem hn]
theorem copied_all (A P R : List UInt8) (hP : P ≠ []) : copied (A ++ (P ++ R)) A.length (P.length + 1) = A ++ (P ++ R) ++ (P ++ (if R = [] then P.take 1 else R.take 1)) := by
  show copied (A ++ (P ++ R)) A.length P.length ++ [(copied (A ++ (P ++ R)) A.length P.length).getD (A.length + P.length) 0] = _
  rw [copied_take A P R P.length (Nat.le_refl _), List.take_length]
  have e : [(A ++ (P ++ R) ++ P).getD (A.length + P.length) 0] = if R = [] then P.take 1 else R.take 1 := by
    rw [List.getD_eq_getElem?_getD, List.append_assoc, List.getElem?_append_right (by omega), Nat.add_sub_cancel_left, List.append_assoc, List.getElem?_append_right (by omega), Nat.sub_self]
    cases R with
    | nil =>
      cases P with
      | nil => exact absurd rfl hP
      | cons c l => rfl
    | cons c l => rfl
  rw [e, List.append_assoc]
end
section
open Sem (wp)
noncomputable def flat (Pc : List (Array UInt8)) : List UInt8 := (Pc.map Array.toList).flatten
theorem flat_append (a b : List (Array UInt8)) : flat (a ++ b) = flat a ++ flat b := by unfold flat; simp
theorem flat_cons (a : Array UInt8) (b : List (Array UInt8)) : flat (a :: b) = a.toList ++ flat b := by unfold flat; simp
/-- what the copying loop adds is what the code tells -/
theorem copied_told {A : List UInt8} {Pc : List (Array UInt8)} {j : Nat} (hs : ∀ x ∈ Pc, 0 < x.size) (hj : j < Pc.length) :
    copied (A ++ flat Pc) (A.length + (flat (Pc.take j)).length) (Pc[j].size + 1) = A ++ flat Pc ++ (told Pc (.ref j)).toList := by
  have e : flat Pc = flat (Pc.take j) ++ (Pc[j].toList ++ flat (Pc.drop (j + 1))) := by
    rw [← flat_cons, ← flat_append, ← List.drop_eq_getElem_cons hj, List.take_append_drop]
  have hP : Pc[j].toList ≠ [] := by
    intro q
    have := hs Pc[j] (List.getElem_mem hj)
    rw [← Array.length_toList, q] at this
    exact absurd this (by decide)
  have k := copied_all (A ++ flat (Pc.take j)) Pc[j].toList (flat (Pc.drop (j + 1))) hP
  rw [List.length_append, List.append_assoc A, ← e] at k
  rw [← Array.length_toList (xs := Pc[j]), k]
  have ep : pieceAt Pc j = Pc[j] := by unfold pieceAt; rw [List.getElem?_eq_getElem hj]; rfl
  show _ = _ ++ (pieceAt Pc j ++ first1 (if j + 1 < Pc.length then pieceAt Pc (j + 1) else pieceAt Pc j)).toList
  rw [Array.toList_append, first1_eq, ep]
  congr 2
  by_cases h : j + 1 < Pc.length
  · have e1 : pieceAt Pc (j + 1) = Pc[j + 1] := by unfold pieceAt; rw [List.getElem?_eq_getElem h]; rfl
    have h1 : 0 < Pc[j + 1].toList.length := by rw [Array.length_toList]; exact hs _ (List.getElem_mem h)
    have e2 : flat (Pc.drop (j + 1)) = Pc[j + 1].toList ++ flat (Pc.drop (j + 1 + 1)) := by rw [List.drop_eq_getElem_cons h, flat_cons]
    rw [if_pos h, e1, e2, if_neg (by intro q; have := congrArg List.length q; rw [List.length_append] at this; simp only [List.length_nil] at this; omega), List.take_append_of_le_length h1]
  · have e2 : flat (Pc.drop (j + 1)) = [] := by rw [List.drop_eq_nil_of_le (by omega)]; rfl
    rw [if_neg h, e2, if_pos rfl]
end
section
open Sem (wp)
/-- the law's ends: the bits and the octets behind each code -/
noncomputable def endsFrom : List (Array UInt8) → Nat → Nat → List Op → List (Nat × Nat)
  | _, _, _, [] => []
  | Pc, p, n, op :: r => (p + nbOf Pc, n + (told Pc op).size) :: endsFrom (nextPc Pc op) (p + nbOf Pc) (n + (told Pc op).size) r
noncomputable def dueOf (m : Nat) (l : List (Nat × Nat)) (d : Nat) : Nat := l.foldl (fun d e => if e.1 ≤ m then e.2 else d) d
theorem dueOf_cons (m : Nat) (e : Nat × Nat) (l : List (Nat × Nat)) (d : Nat) : dueOf m (e :: l) d = dueOf m l (if e.1 ≤ m then e.2 else d) := rfl
theorem due_none {m : Nat} : ∀ (ops : List Op) (Pc : List (Array UInt8)) (p n d : Nat), m < p → dueOf m (endsFrom Pc p n ops) d = d
  | [], _, _, _, _, _ => rfl
  | op :: r, Pc, p, n, d, h => by
    show dueOf m ((p + nbOf Pc, n + (told Pc op).size) :: endsFrom (nextPc Pc op) (p + nbOf Pc) (n + (told Pc op).size) r) d = d
    rw [dueOf_cons, if_neg (by show ¬ p + nbOf Pc ≤ m; omega)]
    exact due_none r _ _ _ d (by omega)
theorem opCode_snd (Pc : List (Array UInt8)) (op : Op) : (opCode Pc op).2 = nbOf Pc := by cases op <;> rfl
theorem due_split {m : Nat} : ∀ (ops : List Op) (Pc : List (Array UInt8)) (p n : Nat), p ≤ m → ∃ pre post, ops = pre ++ post ∧ dueOf m (endsFrom Pc p n ops) n = n + (flat (toldOf Pc pre)).length ∧ p + lenOfCodes (codesOf Pc pre) ≤ m ∧ (post = [] ∨ m < p + lenOfCodes (codesOf Pc pre) + nbOf (pcAfter Pc pre))
  | [], Pc, p, n, h => ⟨[], [], rfl, rfl, h, .inl rfl⟩
  | op :: r, Pc, p, n, h => by
    by_cases hm : p + nbOf Pc ≤ m
    · obtain ⟨pre, post, e1, e2, e3, e4⟩ := due_split (m := m) r (nextPc Pc op) (p + nbOf Pc) (n + (told Pc op).size) hm
      have el : lenOfCodes (codesOf Pc (op :: pre)) = nbOf Pc + lenOfCodes (codesOf (nextPc Pc op) pre) := by
        show lenOfCodes (opCode Pc op :: codesOf (nextPc Pc op) pre) = _
        rw [← opCode_snd Pc op]
        unfold lenOfCodes
        simp
      refine ⟨op :: pre, post, by rw [e1]; rfl, ?_, by rw [el]; omega, ?_⟩
      · show dueOf m ((p + nbOf Pc, n + (told Pc op).size) :: endsFrom (nextPc Pc op) (p + nbOf Pc) (n + (told Pc op).size) r) n = n + (flat (told Pc op :: toldOf (nextPc Pc op) pre)).length
        rw [dueOf_cons, if_pos hm, e2, flat_cons, List.length_append, Array.length_toList (xs := told Pc op)]
        omega
      · rcases e4 with e4 | e4
        · exact .inl e4
        · refine .inr ?_
          rw [el]
          show m < p + (nbOf Pc + lenOfCodes (codesOf (nextPc Pc op) pre)) + nbOf (pcAfter (nextPc Pc op) pre)
          omega
    · refine ⟨[], op :: r, rfl, ?_, h, .inr ?_⟩
      · show dueOf m ((p + nbOf Pc, n + (told Pc op).size) :: endsFrom (nextPc Pc op) (p + nbOf Pc) (n + (told Pc op).size) r) n = n
        rw [dueOf_cons, if_neg hm]
        exact due_none r _ _ _ n (by omega)
      · show m < p + 0 + nbOf Pc
        omega
end
section
open Sem (wp)
theorem lenOfCodes_cons (c : Nat × Nat) (r : List (Nat × Nat)) : lenOfCodes (c :: r) = c.2 + lenOfCodes r := by unfold lenOfCodes; simp
theorem endsFrom_snoc : ∀ (ops : List Op) (Pc : List (Array UInt8)) (p n : Nat) (op : Op), endsFrom Pc p n (ops ++ [op]) =
    endsFrom Pc p n ops ++ [(p + lenOfCodes (codesOf Pc ops) + nbOf (pcAfter Pc ops), n + (flat (toldOf Pc ops)).length + (told (pcAfter Pc ops) op).size)]
  | [], Pc, p, n, op => rfl
  | o :: r, Pc, p, n, op => by
    show (p + nbOf Pc, n + (told Pc o).size) :: endsFrom (nextPc Pc o) (p + nbOf Pc) (n + (told Pc o).size) (r ++ [op]) = _
    rw [endsFrom_snoc r]
    show _ = (p + nbOf Pc, n + (told Pc o).size) :: (endsFrom (nextPc Pc o) (p + nbOf Pc) (n + (told Pc o).size) r ++ [(p + lenOfCodes (opCode Pc o :: codesOf (nextPc Pc o) r) + nbOf (pcAfter (nextPc Pc o) r), n + (flat (told Pc o :: toldOf (nextPc Pc o) r)).length + (told (pcAfter (nextPc Pc o) r) op).size)])
    have e : (flat (told Pc o :: toldOf (nextPc Pc o) r)).length = (told Pc o).size + (flat (toldOf (nextPc Pc o) r)).length := by
      rw [flat_cons, List.length_append, Array.length_toList (xs := told Pc o)]
    rw [lenOfCodes_cons, opCode_snd, e, Nat.add_assoc p, Nat.add_assoc n]
end
section
open Sem (wp)
/-- what a row of codes tells is short -/
theorem told_le : ∀ (ops : List Op) (Pc : List (Array UInt8)), Small Pc → okAll Pc ops → (flat (toldOf Pc ops)).length ≤ ops.length * (Pc.length + ops.length)
  | [], Pc, _, _ => Nat.zero_le _
  | op :: r, Pc, h, ok => by
    obtain ⟨n1, n2⟩ := small_next h ok.1
    have ih := told_le r (nextPc Pc op) n1 ok.2
    have ht : (told Pc op).size ≤ Pc.length + 1 := by
      cases op with
      | clear => exact Nat.zero_le _
      | lit c => exact (small_told h ok.1 (by simp)).2
      | ref j => exact (small_told h ok.1 (by simp)).2
    show (flat (told Pc op :: toldOf (nextPc Pc op) r)).length ≤ (r.length + 1) * (Pc.length + (r.length + 1))
    rw [flat_cons, List.length_append, Array.length_toList (xs := told Pc op)]
    have h2 : r.length * ((nextPc Pc op).length + r.length) ≤ r.length * (Pc.length + (r.length + 1)) := Nat.mul_le_mul_left _ (by omega)
    rw [Nat.add_mul, Nat.one_mul]
    omega
theorem told_lim {ws : List Int} (h : ws.length ≤ 263) : (flat (toldOf [] (opsOf [] ws))).length ≤ 69169 := by
  have a := told_le (opsOf [] ws) [] small_nil (opsOf_ok ws [])
  rw [opsOf_length] at a
  have b : ws.length * (([] : List (Array UInt8)).length + ws.length) ≤ 263 * 263 := Nat.mul_le_mul h (by show 0 + ws.length ≤ 263; omega)
  omega
end
section
open Sem (wp)
/-- way 3, cut anywhere: one law for all the cuts of a row with its end's code -/
theorem run_way3 {l : List UInt8} {k : Nat} {ops : List Op} (ok : okAll [] ops) (hl : ops.length ≤ 299) (hk : k ≤ l.length) (hb : Bears l.toArray 0 ((256, 9) :: codesOf [] ops ++ [(257, nbOf (pcAfter [] ops))]))
    (h2 : 8 * l.length < 9 + lenOfCodes (codesOf [] ops) + nbOf (pcAfter [] ops) + 9) :
    ∃ outs, Run (l.take k).toArray ⟨0, false, [], #[], 9⟩ outs ∧ outs.length ≤ ops.length + 2 ∧ (flat outs).length = dueOf (8 * k) ((9, 0) :: endsFrom [] 9 0 ops) 0 ∧ ∃ pre post, ops = pre ++ post ∧ flat outs = flat (toldOf [] pre) := by
  by_cases hs : 8 * k < 9
  · refine ⟨[], run_short (by rw [List.size_toArray, List.length_take]; omega), Nat.zero_le _, ?_, [], ops, rfl, rfl⟩
    rw [dueOf_cons, if_neg (by show ¬ 9 ≤ 8 * k; omega), due_none ops [] 9 0 0 (by omega)]
    rfl
  · obtain ⟨pre, post, e1, e2, e3, e4⟩ := due_split (m := 8 * k) ops [] 9 0 (by omega)
    have hp : pre.length ≤ ops.length := by rw [e1, List.length_append]; omega
    have ed : dueOf (8 * k) ((9, 0) :: endsFrom [] 9 0 ops) 0 = (flat (toldOf [] pre)).length := by
      rw [dueOf_cons, if_pos (by show 9 ≤ 8 * k; omega), e2, Nat.zero_add]
    have e0 : ∀ l : List (Array UInt8), flat (#[] :: l) = flat l := fun l => by rw [flat_cons]; rfl
    by_cases hc : 8 * k < 9 + lenOfCodes (codesOf [] pre) + nbOf (pcAfter [] pre)
    · refine ⟨#[] :: toldOf [] pre, run_cut (post := post) (okAll_left pre post [] (by rw [← e1]; exact ok)) (by omega) hk (by rw [← e1]; exact hb) e3 hc, by rw [List.length_cons, toldOf_length]; omega, by rw [ed, e0], pre, post, e1, e0 _⟩
    · have hpost : post = [] := e4.resolve_right hc
      subst hpost
      rw [List.append_nil] at e1
      subst e1
      have ef : flat (#[] :: (toldOf [] ops ++ [#[]])) = flat (toldOf [] ops) := by
        rw [e0, flat_append]
        show flat (toldOf [] ops) ++ [] = _
        rw [List.append_nil]
      refine ⟨_, run_cut_stop ok hl hk hb (by omega) (by have := nbOf_ge (pcAfter [] ops); omega), by rw [List.length_cons, List.length_append, toldOf_length]; exact Nat.le_refl _, by rw [ed, ef], ops, [], (List.append_nil _).symm, ef⟩
end
section
/-! The law's lists, in plain Lean. -/
noncomputable def toI (l : List UInt8) : List Int := l.map fun c => ((c.toNat : Nat) : Int)
theorem toI_append (a b : List UInt8) : toI (a ++ b) = toI a ++ toI b := by unfold toI; rw [List.map_append]
theorem toI_length (a : List UInt8) : (toI a).length = a.length := by unfold toI; rw [List.length_map]
/-- the copying loop over ints -/
noncomputable def copiedI (D : List Int) (s : Nat) : Nat → List Int
  | 0 => D
  | n + 1 => copiedI D s n ++ [(copiedI D s n).getD (s + n) 0]
theorem copied_length (D : List UInt8) (s : Nat) : ∀ n, (copied D s n).length = D.length + n
  | 0 => rfl
  | n + 1 => by
    show (copied D s n ++ [_]).length = _
    rw [List.length_append, List.length_singleton, copied_length D s n]
    omega
theorem toI_getD (l : List UInt8) (i : Nat) : (toI l).getD i 0 = (((l.getD i 0).toNat : Nat) : Int) := by
  unfold toI
  rw [List.getD_eq_getElem?_getD, List.getD_eq_getElem?_getD, List.getElem?_map]
  cases l[i]? <;> rfl
theorem copiedI_toI (D : List UInt8) (s : Nat) : ∀ n, copiedI (toI D) s n = toI (copied D s n)
  | 0 => rfl
  | n + 1 => by
    show copiedI (toI D) s n ++ [(copiedI (toI D) s n).getD (s + n) 0] = toI (copied D s n ++ [(copied D s n).getD (s + n) 0])
    rw [copiedI_toI D s n, toI_append, toI_getD]
    rfl
/-- the pieces' places and lengths -/
noncomputable def piecePairs : Nat → List (Array UInt8) → List (Nat × Nat)
  | _, [] => []
  | a, p :: r => (a, p.size) :: piecePairs (a + p.size) r
theorem piecePairs_length : ∀ (Pc : List (Array UInt8)) (a : Nat), (piecePairs a Pc).length = Pc.length
  | [], _ => rfl
  | p :: r, a => by
    show (piecePairs (a + p.size) r).length + 1 = r.length + 1
    rw [piecePairs_length r]
theorem piecePairs_snoc : ∀ (Pc : List (Array UInt8)) (a : Nat) (x : Array UInt8), piecePairs a (Pc ++ [x]) = piecePairs a Pc ++ [(a + (flat Pc).length, x.size)]
  | [], a, x => rfl
  | p :: r, a, x => by
    show (a, p.size) :: piecePairs (a + p.size) (r ++ [x]) = (a, p.size) :: (piecePairs (a + p.size) r ++ [(a + (flat (p :: r)).length, x.size)])
    rw [piecePairs_snoc r, flat_cons, List.length_append, Array.length_toList (xs := p), Nat.add_assoc]
theorem piecePairs_get : ∀ (Pc : List (Array UInt8)) (a j : Nat) (hj : j < Pc.length), (piecePairs a Pc)[j]? = some (a + (flat (Pc.take j)).length, Pc[j].size)
  | [], _, j, hj => absurd hj (Nat.not_lt_zero _)
  | p :: r, a, 0, _ => rfl
  | p :: r, a, j + 1, hj => by
    have h2 : j < r.length := Nat.lt_of_succ_lt_succ hj
    show (piecePairs (a + p.size) r)[j]? = some (a + (flat (p :: r.take j)).length, r[j].size)
    rw [piecePairs_get r _ j h2, flat_cons, List.length_append, Array.length_toList (xs := p), Nat.add_assoc]
theorem small_after : ∀ (ops : List Op) (Pc : List (Array UInt8)), Small Pc → okAll Pc ops → Small (pcAfter Pc ops)
  | [], _, h, _ => h
  | op :: r, Pc, h, ok => small_after r (nextPc Pc op) (small_next h ok.1).1 ok.2
theorem small_pos {Pc : List (Array UInt8)} (h : Small Pc) : ∀ x ∈ Pc, 0 < x.size := fun x hx => by
  obtain ⟨i, hi, e⟩ := List.getElem_of_mem hx
  exact (h i x (by rw [List.getElem?_eq_getElem hi, e])).1
theorem told_ref_size {Pc : List (Array UInt8)} (h : Small Pc) {j : Nat} (hj : j < Pc.length) : (told Pc (.ref j)).size = Pc[j].size + 1 := by
  have k := congrArg List.length (copied_told (A := []) (small_pos h) hj)
  simp only [copied_length, List.nil_append, List.length_append, Array.length_toList] at k
  omega
theorem flat_take_le {Pc : List (Array UInt8)} {j : Nat} (hj : j < Pc.length) : (flat (Pc.take j)).length + Pc[j].size ≤ (flat Pc).length := by
  have e : flat Pc = flat (Pc.take j) ++ (Pc[j].toList ++ flat (Pc.drop (j + 1))) := by
    rw [← flat_cons, ← flat_append, ← List.drop_eq_getElem_cons hj, List.take_append_drop]
  rw [e, List.length_append, List.length_append, Array.length_toList (xs := Pc[j])]
  omega
theorem len_codes_le : ∀ (ops : List Op) (Pc : List (Array UInt8)), lenOfCodes (codesOf Pc ops) ≤ 10 * ops.length
  | [], _ => Nat.zero_le _
  | op :: r, Pc => by
    have ih := len_codes_le r (nextPc Pc op)
    have hn : nbOf Pc ≤ 10 := by unfold nbOf; split <;> omega
    show lenOfCodes (opCode Pc op :: codesOf (nextPc Pc op) r) ≤ 10 * (r.length + 1)
    rw [lenOfCodes_cons, opCode_snd]
    omega
/-- the bits told so far fit -/
theorem bits_lt {ops : List Op} (ok : okAll [] ops) (hl : ops.length ≤ 300) : valOfCodes ((256, 9) :: codesOf [] ops) < 2 ^ (9 + lenOfCodes (codesOf [] ops)) := by
  rw [← len_cons9]
  refine valOfCodes_lt fun c hc => ?_
  rcases List.mem_cons.mp hc with rfl | hc
  · show 256 < 2 ^ 9; decide
  · exact codes_lt ops [] ok (by show 0 + _ ≤ _; omega) c hc
theorem okAll_ops (ws : List Int) : okAll [] (opsOf [] ws) := opsOf_ok ws []
end
section
open Sem (wp)
section
variable {prog : Program} {w : World} {A : Around} {E : Value → Shared → Prop} {s : Shared} {x : Int} {k : Nat} {t u v : Tok}
/-- int.to_bytes(k, 'big'), any k -/
theorem to_bigN {Q : Value → Shared → Prop} (hk : k ≤ 16777216) (h0 : 0 ≤ x) (h1 : x < 256 ^ k) (h : ∀ (b : Array UInt8) t' k', b.toList = (KTBy.low x k).reverse → Q (.bytes b t') { s with toks := k' }) :
    wpAny (model prog w) A (call (.builtin "int.to_bytes") [.int x t, .int (k : Int) u, .str (PySem.Str.ofString "big") v]) Q E s := by
  refine wpAny_call_entry KTBy.slot (typeIs_int s x t) KTBy.entry ?_ (KTBy.args _ _ _)
  have hb := KTBy.bits_le (B := 256 ^ k) rfl h0 h1
  show wpAny _ _ (Builtin.Int.intOfSelf (.int x t) >>= fun y => _) _ _ s
  refine wpAny_bind (wpAny_of_eq (a := x) rfl ?_)
  show wpAny _ _ (Builtin.Int.intBindNamed "to_bytes" ["length", "byteorder", "signed"] 0 2 [.int (k : Int) u, .str (PySem.Str.ofString "big") v] [] >>= fun l => _) _ _ s
  refine wpAny_bind (wpAny_of_eq (a := [some (.int (k : Int) u), some (.str (PySem.Str.ofString "big") v), none]) (by kernel_rfl) ?_)
  show wpAny _ _ (Builtin.Int.intIndex "int.to_bytes" (.int (k : Int) u) >>= fun n => _) _ _ s
  refine wpAny_bind (wpAny_of_eq (a := (k : Int)) rfl ?_)
  refine KTBy.if_not (by show (decide ((k : Int) < -(2 ^ 63 : Int)) || decide ((k : Int) ≥ 2 ^ 63)) = false; rw [decide_eq_false (show ¬ ((k : Int) < -(2 ^ 63 : Int)) by omega), decide_eq_false (show ¬ ((k : Int) ≥ 2 ^ 63) by omega)]; rfl) ?_
  refine wpAny_bind (wpAny_of_eq (a := PySem.Str.ofString "big") (by kernel_rfl) ?_)
  refine wpAny_bind (wpAny_of_eq (a := false) rfl ?_)
  refine wpAny_bind (wpAny_of_eq (a := false) (by kernel_rfl) ?_)
  refine wpAny_ite_false (decide_eq_false (show ¬ ((k : Int) < 0) by omega)) ?_
  refine wpAny_ite_false (decide_eq_false (show ¬ ((k : Int) > 2 ^ 63 - 1 - 33) by omega)) ?_
  refine wpAny_ite_false (decide_eq_false (show ¬ ((k : Int) > (sizeLine : Int)) by rw [sizeLine_eq]; omega)) ?_
  refine KTBy.if_not (by show (decide (x < 0) && !false) = false; rw [decide_eq_false (show ¬ x < 0 by omega)]; rfl) ?_
  refine KTBy.if_not (by show (_ && decide ((Builtin.Int.intBits x : Int) > 8 * (k : Int))) = false; rw [decide_eq_false (show ¬ ((Builtin.Int.intBits x : Int) > 8 * (k : Int)) by omega), Bool.and_false]) ?_
  refine wpAny_bind (wpAny_mkBytes (wpAny_pure ⟨_, rfl, h _ _ _ ?_⟩) (by show (List.reverse (KTBy.low x (Int.toNat (k : Int)))).length ≤ sizeLine; rw [List.length_reverse, KTBy.low_length, Int.toNat_natCast, sizeLine_eq]; omega))
  show List.reverse (KTBy.low x (Int.toNat (k : Int))) = _
  rw [Int.toNat_natCast]
end

theorem bigOf_little : ∀ (k : Nat) (X : Nat) (l : List UInt8), X < 256 ^ k → l.map (fun c => ((c.toNat : Nat) : Int)) = KTBy.little k (X : Int) → bigOf l.reverse = X
  | 0, X, l, h, e => by
    have : l = [] := List.map_eq_nil_iff.mp e
    subst this
    have h2 : X < 1 := by simpa using h
    show 0 = X
    omega
  | k + 1, X, l, h, e => by
    cases l with
    | nil => exact absurd e (by simp [KTBy.little])
    | cons c l =>
      have e' : ((c.toNat : Nat) : Int) :: l.map (fun c => ((c.toNat : Nat) : Int)) = (X : Int) % 256 :: KTBy.little k ((X : Int) / 256) := e
      injection e' with e1 e2
      have e3 : c.toNat = X % 256 := by omega
      have hX : X / 256 < 256 ^ k := by
        rw [Nat.div_lt_iff_lt_mul (by decide)]
        rw [Nat.pow_succ] at h
        exact h
      have ih := bigOf_little k (X / 256) l hX (by rw [e2]; rfl)
      have e4 : bigOf [c] = c.toNat := by show 0 * 256 + c.toNat = _; omega
      rw [List.reverse_cons, bigOf_append, ih, e4, e3, List.length_singleton, Nat.pow_one]
      omega
theorem bigOf_low {X : Nat} {k : Nat} (h1 : X < 256 ^ k) : bigOf (KTBy.low (X : Int) k).reverse = X := by
  refine bigOf_little k X _ h1 ?_
  rw [KTBy.low_ints (by omega) (by rw [KTBy.p256]; exact Int.ofNat_lt.mpr h1), ← KTBy.little_eq]
end
section
variable {prog : Program} {w : World} {A : Around} {E : Value → Shared → Prop} {s : Shared} {h₀ : Heap} {L : Addr}
theorem len_own {D : Addr} {vs : List Value} {c : Nat} {news : List (Addr × Obj)} {Q : Value → Shared → Prop} (N : News h₀ L s.heap news) (hm : (D, listOf vs.toArray c) ∈ news) (hz : vs.length ≤ 100000) (h : Q (.int (vs.length : Nat) (s.toks + 1)) { s with toks := s.toks + 1 + 1 }) :
    wpAny (model prog w) A (call (.builtin "len") [.ref D]) Q E s :=
  KM.len_K N hm (List.size_toArray ..) (by omega) h
theorem news_2nd {h : Heap} {a b : Addr × Obj} {l : List (Addr × Obj)} (N : News h₀ L h (a :: b :: l)) : News h₀ L h (a :: l) := fun p hp => N p (by
  rcases List.mem_cons.mp hp with rfl | hp
  · exact .head _
  · exact .tail _ (.tail _ hp))
theorem item_own {value slice : Expr} {D : Addr} {vs : List Value} {c : Nat} {k : Int} {u : Tok} {v : Value} {news : List (Addr × Obj)} {Q : Value → Shared → Prop} (N : News h₀ L s.heap news) (hm : (D, listOf vs.toArray c) ∈ news) (h0 : 0 ≤ k) (hfit : k < 2 ^ 63) (hv : vs[k.toNat]? = some v) (h : Q v s)
    (hs : subscripted slice false (.ref D) (.int k u) = operate [.ref D, .int k u] (getItem (.ref D) (.int k u))) (ht : ∀ r, letTemporaryGo value (.ref D) r = pure ()) :
    wpAny (model prog w) A (subscriptTail value slice (.ref D) (.int k u)) Q E s :=
  subscriptTail_builtin (News.isList N hm).typeIs slot_list_getitem.lookup (wpAny_getItem_list (News.isList N hm) h0 hfit (by simpa using hv) h) hs ht
theorem item_pair {value slice : Expr} {D : Addr} {vs : List Value} {ps : List (Nat × Nat)} {c j a b : Nat} {k : Int} {u : Tok} {tl news : List (Addr × Obj)} {Q : Value → Shared → Prop} (N : News h₀ L s.heap news) (hm : (D, listOf vs.toArray c) ∈ news) (hP : PairsAre tl vs ps) (hsub : ∀ p ∈ tl, p ∈ news)
    (hk : k = (j : Nat)) (hz : j < 100000) (hps : ps[j]? = some (a, b)) (h : ∀ t ta tb, (t, tupObj [.int (a : Nat) ta, .int (b : Nat) tb]) ∈ tl → News h₀ L s.heap ((t, tupObj [.int (a : Nat) ta, .int (b : Nat) tb]) :: news) → Q (.ref t) s)
    (hs : subscripted slice false (.ref D) (.int k u) = operate [.ref D, .int k u] (getItem (.ref D) (.int k u))) (ht : ∀ r, letTemporaryGo value (.ref D) r = pure ()) :
    wpAny (model prog w) A (subscriptTail value slice (.ref D) (.int k u)) Q E s := by
  obtain ⟨t, ta, tb, e, hmem⟩ := hP.2 j (a, b) hps
  subst hk
  exact item_own N hm (by omega) (by omega) (by rw [Int.toNat_natCast]; exact e) (h t ta tb hmem fun p hp => by
    rcases List.mem_cons.mp hp with rfl | hp
    · exact N _ (hsub _ hmem)
    · exact N _ hp) hs ht
theorem append_own {m : Str → Option Value} {D : Addr} {vs : List Value} {n : Nat} {x : Value} {news news' : List (Addr × Obj)} {Q : Value → Shared → Prop} (F : Fr h₀ L s.heap m) (N : News h₀ L s.heap news) (U : Upd D (listOf vs.toArray n) (listOf (vs ++ [x]).toArray (n + 1)) news news')
    (h : ∀ h', Fr h₀ L h' m → News h₀ L h' news' → Q .none { s with heap := h' }) (hsz : vs.length ≤ sizeLine) : wpAny (model prog w) A (call (.builtin "list.append") [.ref D, x]) Q E s :=
  append_K F N (by rw [List.push_toArray]; exact U) h (by rw [List.size_toArray]; exact hsz)
theorem eq_nil_own {a b : Addr} {vs : List Value} {c : Nat} {news : List (Addr × Obj)} {Q : Value → Shared → Prop} (N : News h₀ L s.heap news) (h1 : (a, listOf vs.toArray c) ∈ news) (h2 : (b, listOf ([] : List Value).toArray 0) ∈ news) (hu : A.units < cLine)
    (h : Q (.bool (decide (vs = []))) s) : wpAny (model prog w) A (compareOp .Eq (.ref a) (.ref b)) Q E s := by
  cases vs with
  | nil => exact PySem.SeqAt.eq_listAt (e := fun _ => true) (News.isList N h1) (News.isList N h2) rfl hu (fun j q _ => absurd q (Nat.not_lt_zero j)) h
  | cons x r =>
    refine PySem.SeqAt.eq_list_lengthsAt (News.isList N h1) (News.isList N h2) ?_ hu h
    simp
theorem ne_nil_own {a b : Addr} {vs : List Value} {c : Nat} {news : List (Addr × Obj)} {Q : Value → Shared → Prop} (N : News h₀ L s.heap news) (h1 : (a, listOf vs.toArray c) ∈ news) (h2 : (b, listOf ([] : List Value).toArray 0) ∈ news) (hu : A.units < cLine)
    (h : Q (.bool (!decide (vs = []))) s) : wpAny (model prog w) A (compareOp .NotEq (.ref a) (.ref b)) Q E s := by
  cases vs with
  | nil => exact PySem.SeqAt.RcNeAt.lists (e := fun _ => true) (News.isList N h1) (News.isList N h2) rfl hu (fun j q _ => absurd q (Nat.not_lt_zero j)) prog w E Q h
  | cons x r =>
    exact PySem.SeqAt.RcNeAt.lists_lengths (News.isList N h1) (News.isList N h2) (by simp) hu prog w E Q h
end
local macro_rules | `(tactic| walk_at "call builtin:len") => `(tactic| (k_here; (with_reducible show wpAny _ _ (call (Value.builtin "len") [Value.ref _]) _ _ _); (refine len_own (by k_asm) (by first | assumption | k_dflt k_mem) (by omega) ?_)))
section
variable {w : World} {A₀ : Around} {s : Shared} {base h₀ : Heap} {L fa : Addr} {cd : Value} {mg mb : Str → Option Value} {loose : List Str} {mean : ExcName → Option Value}
local macro_rules | `(tactic| walk_at "idle") => `(tactic| skip)
/-- width = 9 if len(pieces) < 254 else 10 -/
theorem big0 {sc way data bits size ends : Value} {wish : Option Value} {Dp : Addr} {pvs : List Value} {np : Nat} {r : Str → Option Value} {news : List (Addr × Obj)} {Q : Flow → Shared → Prop}
  (F : Fr h₀ L s.heap (fun y => if y = Str.ofString "wish" then wish else loopM sc way data (.ref Dp) bits size ends r y)) (X₀ : (Mine.K w.params).In h₀) (T : Top Mine.view loose mean mg mb h₀) (N : News h₀ L s.heap news) (hm : (Dp, listOf pvs.toArray np) ∈ news)
  (hp : pvs.length ≤ 1000)
  (h : ∀ h' tk t r' (wd : Int), wd = (if pvs.length < 254 then 9 else 10) → Fr h₀ L h' (loopM sc way data (.ref Dp) bits size ends (workM wish (some (.int wd t)) (r (Str.ofString "code")) r')) → News h₀ L h' news → Q .next { s with heap := h', toks := tk }) :
  wpAny (model PySem.Challenge.rw_lc0007_01.row.prog w) (lawA L fa cd) (exec (bigSt 0) (lenv L fa cd)) Q (fun _ _ => False) s := by
  w_top off
  k_with_none
  have X₁ := X₀; revert X₁; k_fill; intro X₁; clear X₁
  unfold lawA lenv
  conv in (bigSt 0) => whnf
  repeat conv in lawScope => whnf
  k_steps
  all_goals (rename Fr _ L _ _ => FZ; rename News _ L _ _ => NZ)
  · rename _ < _ => hc
    exact h _ _ _ _ _ (by rw [if_pos (show pvs.length < 254 by omega)]) (work_fr FZ rfl rfl rfl rfl rfl rfl rfl rfl rfl rfl) NZ
  · rename ¬ _ => hc
    exact h _ _ _ _ _ (by rw [if_neg (show ¬ pvs.length < 254 by omega)]) (work_fr FZ rfl rfl rfl rfl rfl rfl rfl rfl rfl rfl) NZ
end
section
local macro_rules | `(tactic| walk_at "compareOp Eq ref ref") => `(tactic| (k_here; (with_reducible show wpAny _ _ (compareOp CmpOp.Eq (Value.ref _) (Value.ref _)) _ _ _); k_dflt (refine eq_nil_own (by k_asm) (by k_mem) (by k_mem) (by ke_room) ?_)))
local macro_rules | `(tactic| walk_at "call builtin:list.append") => `(tactic| (k_here; (with_reducible show wpAny _ _ (call (Value.builtin _) [Value.ref _, _]) _ _ _); k_dflt (refine' append_own ?k1 ?k2 ?k3 ?_ ?z; (case k1 => k_asm); (case k2 => k_asm); (case k3 => k_upd); (case z => (rw [sizeLine_eq]; omega)); k_whole); intro h' F' N'; (try k_sweep)))
section
section
variable {w : World} {A₀ : Around} {s : Shared} {base h₀ : Heap} {L fa : Addr} {cd : Value} {mg mb : Str → Option Value} {loose : List Str} {mean : ExcName → Option Value}
  {sc way bits size : Value} {width code : Option Value} {Dd Dp De : Addr} {dvs pvs evs : List Value} {nd np ne : Nat} {r : Str → Option Value} {tl : List (Addr × Obj)} {Q : Flow → Shared → Prop} {tw : Tok}
theorem big1_clear 
  (F : Fr h₀ L s.heap (loopM sc way (.ref Dd) (.ref Dp) bits size (.ref De) (workM (some (.int (-1) tw)) width code r))) (X₀ : (Mine.K w.params).In h₀) (T : Top Mine.view loose mean mg mb h₀)
  (N : News h₀ L s.heap ((Dd, listOf dvs.toArray nd) :: (Dp, listOf pvs.toArray np) :: (De, listOf evs.toArray ne) :: tl))
  (h : ∀ h' tk t r' Dp', Fr h₀ L h' (loopM sc way (.ref Dd) (.ref Dp') bits size (.ref De) (workM (some (.int (-1) tw)) width (some (.int 256 t)) r')) →
    News h₀ L h' ((Dp', listOf ([] : List Value).toArray 0) :: (Dd, listOf dvs.toArray nd) :: (Dp, listOf pvs.toArray np) :: (De, listOf evs.toArray ne) :: tl) → Dd < Dp' ∧ Dp < Dp' ∧ De < Dp' ∧ AllLt Dp' tl → Q .next { s with heap := h', toks := tk }) :
  wpAny (model PySem.Challenge.rw_lc0007_01.row.prog w) (lawA L fa cd) (exec (bigSt 1) (lenv L fa cd)) Q (fun _ _ => False) s := by
  w_top off
  k_with_none
  have X₁ := X₀; revert X₁; k_fill; intro X₁; clear X₁
  unfold lawA lenv
  conv in (bigSt 1) => whnf
  repeat conv in lawScope => whnf
  k_steps
  all_goals (rename Fr _ L _ _ => FZ; rename News _ L _ _ => NZ)
  rename _ ∧ _ ∧ _ ∧ AllLt _ tl => lZ
  exact h _ _ _ _ _ (work_fr FZ rfl rfl rfl rfl rfl rfl rfl rfl rfl rfl) NZ lZ
theorem big1_lit {wish : Int} (hw : wish ≠ -1) (hc : wish < 256 ∨ pvs = []) (h1 : dvs.length ≤ 100000) (h2 : pvs.length ≤ 1000)
  (a1 : @Ne Nat Dd Dp) (a2 : @Ne Nat Dd De) (a3 : @Ne Nat Dp De) (t1 : ∀ p ∈ tl, p.1 ≠ Dd) (t2 : ∀ p ∈ tl, p.1 ≠ Dp)
  (F : Fr h₀ L s.heap (loopM sc way (.ref Dd) (.ref Dp) bits size (.ref De) (workM (some (.int wish tw)) width code r))) (X₀ : (Mine.K w.params).In h₀) (T : Top Mine.view loose mean mg mb h₀)
  (N : News h₀ L s.heap ((Dd, listOf dvs.toArray nd) :: (Dp, listOf pvs.toArray np) :: (De, listOf evs.toArray ne) :: tl))
  (h : ∀ h' tk t r' tp ta tb tc nd' np', Fr h₀ L h' (loopM sc way (.ref Dd) (.ref Dp) bits size (.ref De) (workM (some (.int wish tw)) width (some (.int (wish.fmod 256) t)) r')) →
    News h₀ L h' ((tp, tupObj [.int (dvs.length : Nat) ta, .int 1 tb]) :: (Dd, listOf (dvs ++ [Value.int (wish.fmod 256) tc]).toArray nd') :: (Dp, listOf (pvs ++ [Value.ref tp]).toArray np') :: (De, listOf evs.toArray ne) :: tl) → Dd < tp ∧ Dp < tp ∧ De < tp ∧ AllLt tp tl → Q .next { s with heap := h', toks := tk }) :
  wpAny (model PySem.Challenge.rw_lc0007_01.row.prog w) (lawA L fa cd) (exec (bigSt 1) (lenv L fa cd)) Q (fun _ _ => False) s := by
  w_top off
  k_with_none
  have X₁ := X₀; revert X₁; k_fill; intro X₁; clear X₁
  unfold lawA lenv
  conv in (bigSt 1) => whnf
  repeat conv in lawScope => whnf
  by_cases hc' : wish < 256
  · k_steps
    rename Fr _ L _ _ => FZ
    rename News _ L _ _ => NZ
    rename _ ∧ _ ∧ _ ∧ AllLt _ tl => lZ
    exact h _ _ _ _ _ _ _ _ _ _ (work_fr FZ rfl rfl rfl rfl rfl rfl rfl rfl rfl rfl) NZ lZ
  · obtain rfl : pvs = [] := hc.resolve_left hc'
    k_steps
    rename Fr _ L _ _ => FZ
    rename News _ L _ _ => NZ
    rename _ ∧ _ ∧ _ ∧ _ ∧ AllLt _ tl => lZ
    exact h _ _ _ _ _ _ _ _ _ _ (work_fr FZ rfl rfl rfl rfl rfl rfl rfl rfl rfl rfl) (news_2nd NZ) lZ.2
end
end
section
theorem cp_start {d0 : List Int} {start length : Nat} (h2 : start + length ≤ d0.length) (h3 : 1 ≤ length) :
    d0 = copiedI d0 ((start : Nat) : Int).toNat ([] : List Int).length ∧ d0.length = d0.length + ([] : List Int).length ∧ 0 ≤ ((start : Nat) : Int) ∧ ((start : Nat) : Int) + ((length : Nat) : Int) ≤ (d0.length : Int) ∧ 1 ≤ ((length : Nat) : Int) :=
  ⟨rfl, rfl, by omega, by omega, by omega⟩
theorem cp_step {d0 pre data : List Int} {start length k : Int} (h1 : data = copiedI d0 start.toNat pre.length) (h2 : data.length = d0.length + pre.length) (h3 : 0 ≤ start) (h4 : start + length ≤ (d0.length : Int)) (h5 : 1 ≤ length) (hk : k = 0 + (pre.length : Int)) :
    data ++ [data.getD (start + k).toNat 0] = copiedI d0 start.toNat (pre ++ [k]).length ∧ (data ++ [data.getD (start + k).toNat 0]).length = d0.length + (pre ++ [k]).length ∧ 0 ≤ start ∧ start + length ≤ (d0.length : Int) ∧ 1 ≤ length := by
  refine ⟨?_, ?_, h3, h4, h5⟩
  · rw [List.length_append, List.length_singleton]
    show _ = copiedI d0 start.toNat pre.length ++ [(copiedI d0 start.toNat pre.length).getD (start.toNat + pre.length) 0]
    rw [← h1, show (start + k).toNat = start.toNat + pre.length by omega]
  · rw [List.length_append, List.length_append, List.length_singleton, List.length_singleton, h2]
    omega
section
variable {w : World} {A₀ : Around} {s : Shared} {base h₀ : Heap} {L fa : Addr} {cd : Value} {mg mb : Str → Option Value} {loose : List Str} {mean : ExcName → Option Value}
  {sc way bits size : Value} {width code : Option Value} {Dd Dp De : Addr} {dvs pvs evs : List Value} {nd np ne : Nat} {r : Str → Option Value} {tl : List (Addr × Obj)} {Q : Flow → Shared → Prop} {tw : Tok}
theorem big1_ref {wish : Int} {ds : List Int} {ps : List (Nat × Nat)} {j st ln : Nat} (hw : 256 ≤ wish) (hI : IntsAre dvs ds) (hP : PairsAre tl pvs ps) (hj : wish.fmod (pvs.length : Nat) = (j : Nat)) (hps : ps[j]? = some (st, ln)) (hln : 1 ≤ ln) (hst : st + ln ≤ ds.length) (h1 : ds.length + ln ≤ 90000) (h2 : pvs.length ≤ 1000)
  (a1 : @Ne Nat Dd Dp) (a2 : @Ne Nat Dd De) (a3 : @Ne Nat Dp De) (t1 : ∀ p ∈ tl, p.1 ≠ Dd) (t2 : ∀ p ∈ tl, p.1 ≠ Dp)
  (F : Fr h₀ L s.heap (loopM sc way (.ref Dd) (.ref Dp) bits size (.ref De) (workM (some (.int wish tw)) width code r))) (X₀ : (Mine.K w.params).In h₀) (T : Top Mine.view loose mean mg mb h₀)
  (N : News h₀ L s.heap ((Dd, listOf dvs.toArray nd) :: (Dp, listOf pvs.toArray np) :: (De, listOf evs.toArray ne) :: tl))
  (h : ∀ h' tk t r' tp ta tb nd' np' (dvs' : List Value) (c : Int), c = 258 + (j : Nat) → IntsAre dvs' (copiedI ds st (ln + 1)) → Fr h₀ L h' (loopM sc way (.ref Dd) (.ref Dp) bits size (.ref De) (workM (some (.int wish tw)) width (some (.int c t)) r')) →
    News h₀ L h' ((tp, tupObj [.int (dvs.length : Nat) ta, .int ((ln : Nat) + 1) tb]) :: (Dd, listOf dvs'.toArray nd') :: (Dp, listOf (pvs ++ [Value.ref tp]).toArray np') :: (De, listOf evs.toArray ne) :: tl) → Dd < tp ∧ Dp < tp ∧ De < tp ∧ AllLt tp tl → Q .next { s with heap := h', toks := tk }) :
  wpAny (model PySem.Challenge.rw_lc0007_01.row.prog w) (lawA L fa cd) (exec (bigSt 1) (lenv L fa cd)) Q (fun _ _ => False) s := by
  w_top off
  k_with_none
  have X₁ := X₀; revert X₁; k_fill; intro X₁; clear X₁
  have hd := hI.length
  have hpl := hP.1
  have hjl : j < ps.length := (List.getElem?_eq_some_iff.mp hps).1
  have hne : ¬ pvs = [] := fun e => by rw [e] at hpl; simp at hpl; omega
  unfold lawA lenv
  conv in (bigSt 1) => whnf
  repeat conv in lawScope => whnf
  k_steps
  rename News _ L _ _ => N0
  refine item_pair N0 (.tail _ (.tail _ (.head _))) hP (fun p hp => .tail _ (.tail _ (.tail _ (.tail _ hp)))) hj (by omega) hps ?_ (by with_unfolding_all rfl) (by intro _; with_unfolding_all rfl)
  intro t ta tb hmem N1
  clear N0
  have b1 : @Ne Nat t Dd := t1 _ hmem
  have b2 : @Ne Nat t Dp := t2 _ hmem
  (k_with "state" => first | exact cp_start (by assumption) (by assumption) | exact cp_step (by assumption) (by assumption) (by assumption) (by assumption) (by assumption) (by assumption))
  (k_with "pyIter ref" => k_state_given ["data!", "start", "length"] (fun (d0 : List Int) (start length : Int) (pre data : List Int) => data = copiedI d0 start.toNat pre.length ∧ data.length = d0.length + pre.length ∧ 0 ≤ start ∧ start + length ≤ (d0.length : Int) ∧ 1 ≤ length) "data")
  k_steps
  rename _ = copiedI ds _ _ => e9
  rw [rangeKs_length, show ((ln : Int) + 1 - 0).toNat = ln + 1 by omega, Int.toNat_natCast] at e9
  rename _ ∧ _ ∧ _ ∧ _ ∧ _ ∧ AllLt _ tl => lZ
  rw [e9] at kFacts
  refine h _ _ _ _ _ _ _ _ _ _ _ (congrArg (fun z => 258 + z) hj) kFacts (work_fr kFr rfl rfl rfl rfl rfl rfl rfl rfl rfl rfl) (news_2nd (news_2nd kNews)) ?_
  exact lZ.2.2
  k_with_none
end
end
section
section
variable {prog : Program} {w : World} {A : Around} {E : Value → Shared → Prop} {s : Shared}
theorem shl_own {b wd z : Nat} {tb tw : Tok} {Q : Value → Shared → Prop} (hb : b < 2 ^ z) (hz : z ≤ 100000) (hwd : wd ≤ 1000) (h : Q (.int ((b * 2 ^ wd : Nat) : Int) s.toks) { s with toks := s.toks + 1 }) :
    wpAny (model prog w) A (binaryOp .LShift (.int (b : Nat) tb) (.int (wd : Nat) tw)) Q E s := by
  refine lshift_int (by omega) ?_ ?_
  · have : Builtin.Int.intBits ((b : Nat) : Int) ≤ z := intBits_le_iff.mpr (by rw [Int.natAbs_natCast]; exact hb)
    omega
  · have e : ((b : Nat) : Int) * 2 ^ ((wd : Nat) : Int).toNat = ((b * 2 ^ wd : Nat) : Int) := by
      rw [Int.toNat_natCast, Int.natCast_mul, Int.natCast_pow]
      rfl
    rw [e]
    exact h
theorem or_nat {b wd c : Nat} (hc : c < 2 ^ wd) : Builtin.bitOr ((b * 2 ^ wd : Nat) : Int) ((c : Nat) : Int) = ((b * 2 ^ wd + c : Nat) : Int) := by
  have e : ((b * 2 ^ wd : Nat) : Int) = ((b : Nat) : Int) * 2 ^ wd := by
    rw [Int.natCast_mul, Int.natCast_pow]
    rfl
  have hc' : ((c : Nat) : Int) < 2 ^ wd := by
    have : ((2 ^ wd : Nat) : Int) = 2 ^ wd := by rw [Int.natCast_pow]; rfl
    rw [← this]
    exact Int.ofNat_lt.mpr hc
  rw [e, or_low (by omega) (by omega) hc', Int.natCast_add, e]
end
local macro_rules | `(tactic| walk_at "binaryOp LShift int int") => `(tactic| (k_here; k_dflt (refine shl_own (by assumption) (by omega) (by omega) ?_)))
section
variable {w : World} {A₀ : Around} {s : Shared} {base h₀ : Heap} {L fa : Addr} {cd : Value} {mg mb : Str → Option Value} {loose : List Str} {mean : ExcName → Option Value}
  {sc way bits size : Value} {width code : Option Value} {Dd Dp De : Addr} {dvs pvs evs : List Value} {nd np ne : Nat} {r : Str → Option Value} {tl : List (Addr × Obj)} {Q : Flow → Shared → Prop} {tw : Tok}
theorem big2 {wish : Option Value} {b z wd c : Nat} {tb tz twd tc : Tok} (hwd : wd = 9 ∨ wd = 10) (hc : c < 2 ^ wd) (hz : z ≤ 3000) (hb : b < 2 ^ z) (h1 : dvs.length ≤ 90000) (h2 : evs.length ≤ 1000)
  (a1 : @Ne Nat Dd Dp) (a2 : @Ne Nat Dd De) (a3 : @Ne Nat Dp De) (t1 : ∀ p ∈ tl, p.1 ≠ De)
  (F : Fr h₀ L s.heap (loopM sc way (.ref Dd) (.ref Dp) (.int (b : Nat) tb) (.int (z : Nat) tz) (.ref De) (workM wish (some (.int (wd : Nat) twd)) (some (.int (c : Nat) tc)) r))) (X₀ : (Mine.K w.params).In h₀) (T : Top Mine.view loose mean mg mb h₀)
  (N : News h₀ L s.heap ((Dd, listOf dvs.toArray nd) :: (Dp, listOf pvs.toArray np) :: (De, listOf evs.toArray ne) :: tl))
  (h : ∀ h' tk r' te ta tc tb' tz' ne', Fr h₀ L h' (loopM sc way (.ref Dd) (.ref Dp) (.int ((b * 2 ^ wd + c : Nat) : Int) tb') (.int ((z + wd : Nat) : Int) tz') (.ref De) r') →
    News h₀ L h' ((te, tupObj [.int ((z + wd : Nat) : Int) ta, .int (dvs.length : Nat) tc]) :: (Dd, listOf dvs.toArray nd) :: (Dp, listOf pvs.toArray np) :: (De, listOf (evs ++ [Value.ref te]).toArray ne') :: tl) → Dd < te ∧ Dp < te ∧ De < te ∧ AllLt te tl → Q .next { s with heap := h', toks := tk }) :
  wpAny (model PySem.Challenge.rw_lc0007_01.row.prog w) (lawA L fa cd) (execs (dropSt bigBody 2) (lenv L fa cd)) Q (fun _ _ => False) s := by
  w_top off
  k_with_none
  have X₁ := X₀; revert X₁; k_fill; intro X₁; clear X₁
  unfold lawA lenv
  conv in (dropSt bigBody 2) => whnf
  repeat conv in lawScope => whnf
  k_steps

  rename Fr _ L _ _ => FZ
  rename News _ L _ _ => NZ
  rename _ ∧ _ ∧ _ ∧ AllLt _ tl => lZ
  rw [or_nat hc] at FZ
  exact h _ _ _ _ _ _ _ _ _ (loopM_fr FZ rfl rfl rfl rfl rfl rfl rfl) NZ lZ
end
end
end
section
inductive BigS (sc way : Value) (fix : List (Addr × Obj)) (ops : List Op) (m : Str → Option Value) (nx : List (Addr × Obj)) : Prop
  | mk (Dd Dp De : Addr) (dvs pvs evs : List Value) (nd np ne : Nat) (tb tz : Tok) (r : Str → Option Value) (tl : List (Addr × Obj)) (A : List UInt8)
    (hm : m = loopM sc way (.ref Dd) (.ref Dp) (.int ((valOfCodes ((256, 9) :: codesOf [] ops) : Nat) : Int) tb) (.int ((9 + lenOfCodes (codesOf [] ops) : Nat) : Int) tz) (.ref De) r)
    (hn : nx = (Dd, listOf dvs.toArray nd) :: (Dp, listOf pvs.toArray np) :: (De, listOf evs.toArray ne) :: tl)
    (hd : @Ne Nat Dd Dp ∧ @Ne Nat Dd De ∧ @Ne Nat Dp De) (ht : (∀ p ∈ tl, p.1 ≠ Dd) ∧ (∀ p ∈ tl, p.1 ≠ Dp) ∧ (∀ p ∈ tl, p.1 ≠ De)) (hf : ∀ p ∈ fix, p ∈ tl)
    (hI : IntsAre dvs (toI (A ++ flat (pcAfter [] ops)))) (hA : A ++ flat (pcAfter [] ops) = flat (toldOf [] ops)) (hP : PairsAre tl pvs (piecePairs A.length (pcAfter [] ops))) (hE : PairsAre tl evs ((9, 0) :: endsFrom [] 9 0 ops)) : BigS sc way fix ops m nx
theorem AllLt_to {d : Nat} : ∀ {l : List (Addr × Obj)}, AllLt d l → ∀ p ∈ l, @LT.lt Nat _ p.1 d
  | [], _, p, hp => nomatch hp
  | x :: l, h, p, hp => by
    rcases List.mem_cons.mp hp with rfl | hp
    · exact h.1
    · exact AllLt_to h.2 p hp
section
variable {w : World} {A₀ : Around} {s : Shared} {base h₀ : Heap} {L fa : Addr} {cd : Value} {mg mb : Str → Option Value} {loose : List Str} {mean : ExcName → Option Value}
  {sc way : Value} {wish : Option Value} {Dd Dp De I : Addr} {oI : Obj} {dvs pvs evs : List Value} {nd np ne : Nat} {r : Str → Option Value} {tl fix : List (Addr × Obj)} {Q : Flow → Shared → Prop} {tb tz twd tc : Tok} {s₁ : Shared}
theorem big_fin {ops : List Op} {op : Op} {A : List UInt8} (hok : okAll [] (ops ++ [op])) (hlen : ops.length ≤ 262) 
  (hIs : IntsAre dvs (toI (A ++ flat (pcAfter [] (ops ++ [op]))))) (hA : A ++ flat (pcAfter [] (ops ++ [op])) = flat (toldOf [] (ops ++ [op]))) (hP : PairsAre tl pvs (piecePairs A.length (pcAfter [] (ops ++ [op])))) (hE : PairsAre tl evs ((9, 0) :: endsFrom [] 9 0 ops))
  (a1 : @Ne Nat Dd Dp) (a2 : @Ne Nat Dd De) (a3 : @Ne Nat Dp De) (i1 : @Ne Nat I Dd) (i2 : @Ne Nat I Dp) (i3 : @Ne Nat I De) (t1 : ∀ p ∈ tl, p.1 ≠ Dd) (t2 : ∀ p ∈ tl, p.1 ≠ Dp) (t3 : ∀ p ∈ tl, p.1 ≠ De) (t4 : ∀ p ∈ tl, p.1 ≠ I) (hfix : ∀ p ∈ fix, p ∈ tl)
  (F : Fr h₀ L s.heap (loopM sc way (.ref Dd) (.ref Dp) (.int ((valOfCodes ((256, 9) :: codesOf [] ops) : Nat) : Int) tb) (.int ((9 + lenOfCodes (codesOf [] ops) : Nat) : Int) tz) (.ref De) (workM wish (some (.int ((nbOf (pcAfter [] ops) : Nat) : Int) twd)) (some (.int (((opCode (pcAfter [] ops) op).1 : Nat) : Int) tc)) r)))
  (X₀ : (Mine.K w.params).In h₀) (T : Top Mine.view loose mean mg mb h₀)
  (N : News h₀ L s.heap ((Dd, listOf dvs.toArray nd) :: (Dp, listOf pvs.toArray np) :: (De, listOf evs.toArray ne) :: (I, oI) :: tl)) (hs : s = { s₁ with heap := s.heap, toks := s.toks }) :
  wpAny (model PySem.Challenge.rw_lc0007_01.row.prog w) (lawA L fa cd) (execs (dropSt bigBody 2) (lenv L fa cd)) (TurnPost h₀ L I oI (BigS sc way fix (ops ++ [op])) s₁ Q) (fun _ _ => False) s := by
  have ok0 : okAll [] ops := okAll_left ops [op] [] hok
  have hPc : (pcAfter [] ops).length ≤ 262 := by have := pcAfter_length ops []; simp only [List.length_nil] at this; omega
  have hop : okOp (pcAfter [] ops) op := by
    have key : ∀ (ops : List Op) (Pc : List (Array UInt8)), okAll Pc (ops ++ [op]) → okOp (pcAfter Pc ops) op := by
      intro ops
      induction ops with
      | nil => intro Pc h; exact h.1
      | cons o r ih => intro Pc h; exact ih _ h.2
    exact key ops [] hok
  have hnb : nbOf (pcAfter [] ops) = 9 ∨ nbOf (pcAfter [] ops) = 10 := by unfold nbOf; split <;> simp
  have hc := opCode_lt (Pc := pcAfter [] ops) (op := op) (by omega) hop
  rw [opCode_snd] at hc
  have hlc := len_codes_le ops []
  have htold := told_le (ops ++ [op]) [] small_nil hok
  have hol : (ops ++ [op]).length ≤ 263 := by rw [List.length_append, List.length_singleton]; omega
  have htl : (flat (toldOf [] (ops ++ [op]))).length ≤ 69169 := by
    have b : (ops ++ [op]).length * (([] : List (Array UInt8)).length + (ops ++ [op]).length) ≤ 263 * 263 := Nat.mul_le_mul hol (by show 0 + _ ≤ _; omega)
    omega
  have hdl : dvs.length = (flat (toldOf [] (ops ++ [op]))).length := by rw [hIs.length, toI_length, hA]
  have hel : evs.length ≤ 1000 := by
    have e0 : ∀ (ops : List Op) (Pc : List (Array UInt8)) (p n : Nat), (endsFrom Pc p n ops).length = ops.length := by
      intro ops
      induction ops with
      | nil => intros; rfl
      | cons o r ih => intro Pc p n; show (endsFrom _ _ _ r).length + 1 = r.length + 1; rw [ih]
    rw [hE.1, List.length_cons, e0]
    omega
  refine big2 hnb hc (by omega) (bits_lt ok0 (by omega)) (by omega) hel a1 a2 a3 (fun p hp => ?_) F X₀ T N ?_
  · rcases List.mem_cons.mp hp with rfl | hp
    · exact i3
    · exact t3 p hp
  · intro h' tk r' te ta tc' tb' tz' ne' F1 N1 lZ
    obtain ⟨l1, l2, l3, l4, l5⟩ := lZ
    have e1 : valOfCodes ((256, 9) :: codesOf [] ops) * 2 ^ nbOf (pcAfter [] ops) + (opCode (pcAfter [] ops) op).1 = valOfCodes ((256, 9) :: codesOf [] (ops ++ [op])) := by
      rw [codesOf_snoc]
      show _ = valOfCodes (((256, 9) :: codesOf [] ops) ++ [opCode (pcAfter [] ops) op])
      rw [valOfCodes_snoc, opCode_snd]
    have e2 : 9 + lenOfCodes (codesOf [] ops) + nbOf (pcAfter [] ops) = 9 + lenOfCodes (codesOf [] (ops ++ [op])) := by
      rw [codesOf_snoc, lenOfCodes_snoc, opCode_snd, Nat.add_assoc]
    rw [e1, e2] at F1
    rw [e2] at N1
    have e3 : endsFrom [] 9 0 (ops ++ [op]) = endsFrom [] 9 0 ops ++ [(9 + lenOfCodes (codesOf [] (ops ++ [op])), dvs.length)] := by
      rw [endsFrom_snoc, e2, hdl, toldOf_snoc, flat_append, List.length_append, Nat.zero_add]
      show _ ++ [(_, _ + (told (pcAfter [] ops) op).size)] = _ ++ [(_, _ + (flat [told (pcAfter [] ops) op]).length)]
      rw [flat_cons, List.length_append, Array.length_toList]
      rfl
    have lt : ∀ p ∈ tl, @Ne Nat p.1 te := fun p hp => Nat.ne_of_lt (AllLt_to l5 p hp)
    show TurnEnd h₀ L I oI (BigS sc way fix (ops ++ [op])) s₁ { s with heap := h', toks := tk }
    refine ⟨h', tk, _, (Dd, listOf dvs.toArray nd) :: (Dp, listOf pvs.toArray np) :: (De, listOf (evs ++ [Value.ref te]).toArray ne') :: (te, tupObj [.int ((9 + lenOfCodes (codesOf [] (ops ++ [op])) : Nat) : Int) ta, .int (dvs.length : Nat) tc']) :: tl, by rw [hs], F1, fun p hp => N1 p ?_, fun p hp => ?_, ?_⟩
    · simp only [List.mem_cons] at hp ⊢
      rcases hp with h | h | h | h | h | h <;> simp only [h, true_or, or_true]
    · simp only [List.mem_cons] at hp
      rcases hp with h | h | h | h | h
      · rw [h]; exact i1.symm
      · rw [h]; exact i2.symm
      · rw [h]; exact i3.symm
      · rw [h]; exact (Nat.ne_of_lt l4).symm
      · exact t4 p h
    · have up : ∀ p ∈ tl, p ∈ (te, tupObj [.int ((9 + lenOfCodes (codesOf [] (ops ++ [op])) : Nat) : Int) ta, .int (dvs.length : Nat) tc']) :: tl := fun p hp => .tail _ hp
      have off : ∀ {D : Addr}, @LT.lt Nat _ D te → (∀ p ∈ tl, p.1 ≠ D) → ∀ p ∈ (te, tupObj [.int ((9 + lenOfCodes (codesOf [] (ops ++ [op])) : Nat) : Int) ta, .int (dvs.length : Nat) tc']) :: tl, p.1 ≠ D := fun hD ht p hp => by
        rcases List.mem_cons.mp hp with rfl | hp
        · exact (Nat.ne_of_lt hD).symm
        · exact ht p hp
      refine ⟨Dd, Dp, De, dvs, pvs, evs ++ [Value.ref te], nd, np, ne', tb', tz', r', _, A, rfl, rfl, ⟨a1, a2, a3⟩, ⟨off l1 t1, off l2 t2, off l3 t3⟩, fun p hp => .tail _ (hfix p hp), hIs, hA, hP.mono up, ?_⟩
      rw [e3]
      exact PairsAre.snoc (hE.mono up) (.head _)
end
end
section
theorem ints_snoc {vs : List Value} {ns : List Int} (h : IntsAre vs ns) (n : Int) (t : Tok) : IntsAre (vs ++ [Value.int n t]) (ns ++ [n]) := by
  induction h with
  | nil => exact .cons _ _ .nil
  | cons m u r ih => exact .cons m u ih
theorem fmod_toNat {a b : Int} (hb : 0 < b) : a.fmod b = (((a % b).toNat : Nat) : Int) := by
  rw [Int.fmod_eq_emod_of_nonneg a (by omega), Int.toNat_of_nonneg (Int.emod_nonneg a (by omega))]
section
variable {w : World} {A₀ : Around} {s : Shared} {base h₀ : Heap} {L fa : Addr} {cd : Value} {mg mb : Str → Option Value} {loose : List Str} {mean : ExcName → Option Value}
  {sc way : Value} {I : Addr} {oI : Obj} {fix nx : List (Addr × Obj)} {Q : Flow → Shared → Prop} {tw : Tok} {m₁ : Str → Option Value}
theorem big_turn {ops : List Op} {wish : Int} (ok : okAll [] ops) (hlen : ops.length ≤ 262) (hw : -1 ≤ wish)
  (S : BigS sc way fix ops m₁ nx) (hI : ∀ p ∈ nx, p.1 ≠ I) (F : Fr h₀ L s.heap (fun y => if y = Str.ofString "wish" then some (.int wish tw) else m₁ y)) (N : News h₀ L s.heap ((I, oI) :: nx))
  (X₀ : (Mine.K w.params).In h₀) (T : Top Mine.view loose mean mg mb h₀) :
  wpAny (model PySem.Challenge.rw_lc0007_01.row.prog w) (lawA L fa cd) (execs bigBody (lenv L fa cd)) (TurnPost h₀ L I oI (BigS sc way fix (ops ++ [opOf (pcAfter [] ops) wish])) s Q) (fun _ _ => False) s := by
  obtain ⟨Dd, Dp, De, dvs, pvs, evs, nd, np, ne, tb, tz, r, tl, A, rfl, rfl, ⟨a1, a2, a3⟩, ⟨t1, t2, t3⟩, hfix, hIs, hA, hP, hE⟩ := S
  have i1 : @Ne Nat I Dd := (hI _ (.head _)).symm
  have i2 : @Ne Nat I Dp := (hI _ (.tail _ (.head _))).symm
  have i3 : @Ne Nat I De := (hI _ (.tail _ (.tail _ (.head _)))).symm
  have t4 : ∀ p ∈ tl, p.1 ≠ I := fun p hp => hI p (.tail _ (.tail _ (.tail _ hp)))
  have hPl : (pcAfter [] ops).length ≤ 262 := by have := pcAfter_length ops []; simp only [List.length_nil] at this; omega
  have hpl : pvs.length = (pcAfter [] ops).length := by rw [hP.1, piecePairs_length]
  have hsm := small_after ops [] small_nil ok
  have hok := okAll_snoc ops [] (opOf (pcAfter [] ops) wish) ok (okOp_of _ wish)
  have hdl : dvs.length = (flat (toldOf [] ops)).length := by rw [hIs.length, toI_length, hA]
  have htl : (flat (toldOf [] ops)).length ≤ 69169 := by
    have a := told_le ops [] small_nil ok
    have b : ops.length * (([] : List (Array UInt8)).length + ops.length) ≤ 262 * 262 := Nat.mul_le_mul hlen (by show 0 + _ ≤ _; omega)
    omega
  have hb : bigBody = bigSt 0 :: bigSt 1 :: dropSt bigBody 2 := rfl
  rw [hb]
  refine wpAny_execs_cons (big0 F X₀ T N (.tail _ (.tail _ (.head _))) (by omega) ?_)
  intro h1 tk1 t r1 wd hwd F1 N1
  have hwd' : wd = ((nbOf (pcAfter [] ops) : Nat) : Int) := by
    rw [hwd, hpl]
    unfold nbOf
    split <;> rfl
  subst hwd'
  clear F N hwd
  refine wpAny_execs_cons ?_
  have N2 : News h₀ L h1 ((Dd, listOf dvs.toArray nd) :: (Dp, listOf pvs.toArray np) :: (De, listOf evs.toArray ne) :: (I, oI) :: tl) := fun p hp => N1 p (by
    simp only [List.mem_cons] at hp ⊢
    rcases hp with h | h | h | h | h <;> simp only [h, true_or, or_true])
  clear N1
  have offI : ∀ {D : Addr}, @Ne Nat I D → (∀ p ∈ tl, p.1 ≠ D) → ∀ p ∈ (I, oI) :: tl, p.1 ≠ D := fun hD ht p hp => by
    rcases List.mem_cons.mp hp with rfl | hp
    · exact hD
    · exact ht p hp
  by_cases hc1 : wish = -1
  · subst hc1
    have eo : opOf (pcAfter [] ops) (-1) = .clear := by unfold opOf; rw [if_pos rfl]
    rw [eo] at hok ⊢
    refine big1_clear F1 X₀ T N2 ?_
    intro h2 tk2 t2' r2 Dp' F2 N3 lZ
    obtain ⟨l1, l2, l3, l4, l5⟩ := lZ
    have lt : ∀ p ∈ tl, @Ne Nat p.1 Dp' := fun p hp => Nat.ne_of_lt (AllLt_to l5 p hp)
    have ePc : pcAfter [] (ops ++ [Op.clear]) = [] := pcAfter_snoc ops [] Op.clear
    refine big_fin (op := .clear) (A := A ++ flat (pcAfter [] ops)) (tl := (Dp, listOf pvs.toArray np) :: tl) (Dp := Dp') (pvs := []) (dvs := dvs) (nd := nd) (np := 0) (ne := ne) hok hlen ?_ ?_ ?_ (hE.mono fun p hp => .tail _ hp) (Nat.ne_of_lt l1) a2 (Nat.ne_of_lt l3).symm i1 (Nat.ne_of_lt l4) i3 ?_ ?_ ?_ ?_ (fun p hp => .tail _ (hfix p hp)) F2 X₀ T (fun p hp => N3 p ?_) rfl
    · rw [ePc]; show IntsAre dvs (toI (A ++ flat (pcAfter [] ops) ++ [])); rw [List.append_nil]; exact hIs
    · rw [ePc, toldOf_snoc, flat_append, hA]; rfl
    · rw [ePc]; exact PairsAre.nil
    · intro p hp
      rcases List.mem_cons.mp hp with rfl | hp
      · exact a1.symm
      · exact t1 p hp
    · intro p hp
      rcases List.mem_cons.mp hp with rfl | hp
      · exact Nat.ne_of_lt l2
      · exact lt p hp
    · intro p hp
      rcases List.mem_cons.mp hp with rfl | hp
      · exact a3
      · exact t3 p hp
    · intro p hp
      rcases List.mem_cons.mp hp with rfl | hp
      · exact i2.symm
      · exact t4 p hp
    · simp only [List.mem_cons] at hp ⊢
      rcases hp with h | h | h | h | h | h <;> simp only [h, true_or, or_true]
  by_cases hc2 : wish < 256 ∨ pcAfter [] ops = []
  · have eo : opOf (pcAfter [] ops) wish = .lit (wish % 256).toNat := by unfold opOf; rw [if_neg hc1, if_pos hc2]
    rw [eo] at hok ⊢
    have hpn : wish < 256 ∨ pvs = [] := hc2.imp id fun e => List.eq_nil_of_length_eq_zero (by rw [hpl, e]; rfl)
    refine big1_lit hc1 hpn (by omega) (by omega) a1 a2 a3 (offI i1 t1) (offI i2 t2) F1 X₀ T N2 ?_
    intro h2 tk2 t2' r2 tp ta tb' tc nd' np' F2 N3 lZ
    obtain ⟨l1, l2, l3, l4, l5⟩ := lZ
    have lt : ∀ p ∈ tl, @Ne Nat p.1 tp := fun p hp => Nat.ne_of_lt (AllLt_to l5 p hp)
    have ec := fmod_toNat (a := wish) (b := 256) (by decide)
    have hc256 : (wish % 256).toNat < 256 := by omega
    rw [ec] at F2 N3
    have ePc : pcAfter [] (ops ++ [Op.lit (wish % 256).toNat]) = pcAfter [] ops ++ [#[(wish % 256).toNat.toUInt8]] := pcAfter_snoc ops [] _
    have eF : flat (pcAfter [] (ops ++ [Op.lit (wish % 256).toNat])) = flat (pcAfter [] ops) ++ [(wish % 256).toNat.toUInt8] := by
      rw [ePc, flat_append]; rfl
    have eU : (((wish % 256).toNat.toUInt8).toNat : Nat) = (wish % 256).toNat := by
      show (UInt8.ofNat (wish % 256).toNat).toNat = _
      rw [UInt8.toNat_ofNat']
      omega
    refine big_fin (op := .lit (wish % 256).toNat) (A := A) (dvs := dvs ++ [Value.int (((wish % 256).toNat : Nat) : Int) tc]) (pvs := pvs ++ [Value.ref tp]) (nd := nd') (np := np') (ne := ne) (tl := (tp, tupObj [.int (dvs.length : Nat) ta, .int 1 tb']) :: tl) hok hlen ?_ ?_ ?_ (hE.mono fun p hp => .tail _ hp) a1 a2 a3 i1 i2 i3 ?_ ?_ ?_ ?_ (fun p hp => .tail _ (hfix p hp)) F2 X₀ T (fun p hp => N3 p ?_) rfl
    · rw [eF, ← List.append_assoc, toI_append]
      have := ints_snoc hIs (((wish % 256).toNat : Nat) : Int) tc
      show IntsAre _ (_ ++ [((((wish % 256).toNat.toUInt8).toNat : Nat) : Int)])
      rw [eU]
      exact this
    · rw [eF, ← List.append_assoc, hA, toldOf_snoc, flat_append]; rfl
    · rw [ePc, piecePairs_snoc]
      have : A.length + (flat (pcAfter [] ops)).length = dvs.length := by rw [hdl, ← hA, List.length_append]
      rw [this]
      exact PairsAre.snoc (hP.mono fun p hp => .tail _ hp) (.head _)
    · intro p hp
      rcases List.mem_cons.mp hp with rfl | hp
      · exact (Nat.ne_of_lt l1).symm
      · exact t1 p hp
    · intro p hp
      rcases List.mem_cons.mp hp with rfl | hp
      · exact (Nat.ne_of_lt l2).symm
      · exact t2 p hp
    · intro p hp
      rcases List.mem_cons.mp hp with rfl | hp
      · exact (Nat.ne_of_lt l3).symm
      · exact t3 p hp
    · intro p hp
      rcases List.mem_cons.mp hp with rfl | hp
      · exact (Nat.ne_of_lt l4).symm
      · exact t4 p hp
    · simp only [List.mem_cons] at hp ⊢
      rcases hp with h | h | h | h | h | h <;> simp only [h, true_or, or_true]
  · have eo : opOf (pcAfter [] ops) wish = .ref (wish % ((pcAfter [] ops).length : Int)).toNat := by unfold opOf; rw [if_neg hc1, if_neg hc2]
    rw [eo] at hok ⊢
    have hne : pcAfter [] ops ≠ [] := fun e => hc2 (.inr e)
    have hlp := List.length_pos_iff.mpr hne
    have h256 : 256 ≤ wish := by omega
    have ej := fmod_toNat (a := wish) (b := ((pcAfter [] ops).length : Int)) (by omega)
    have hjl : (wish % ((pcAfter [] ops).length : Int)).toNat < (pcAfter [] ops).length := by
      have a := Int.emod_lt_of_pos wish (show (0 : Int) < ((pcAfter [] ops).length : Int) by omega)
      omega
    generalize (wish % ((pcAfter [] ops).length : Int)).toNat = j at ej hjl hok ⊢
    have hg := piecePairs_get (pcAfter [] ops) A.length j hjl
    have hft := flat_take_le hjl
    have hsz := (hsm j (pcAfter [] ops)[j] (List.getElem?_eq_getElem hjl))
    have hAl : A.length + (flat (pcAfter [] ops)).length = dvs.length := by rw [hdl, ← hA, List.length_append]
    have hds : (toI (A ++ flat (pcAfter [] ops))).length = dvs.length := hIs.length.symm
    refine big1_ref (j := j) h256 hIs (hP.mono fun p hp => .tail _ hp) (by rw [hpl]; exact ej) hg hsz.1 (by rw [hds]; omega) (by rw [hds]; omega) (by omega) a1 a2 a3 (offI i1 t1) (offI i2 t2) F1 X₀ T N2 ?_
    intro h2 tk2 t2' r2 tp ta tb' nd' np' dvs' c hc hI' F2 N3 lZ
    obtain ⟨l1, l2, l3, l4, l5⟩ := lZ
    have lt : ∀ p ∈ tl, @Ne Nat p.1 tp := fun p hp => Nat.ne_of_lt (AllLt_to l5 p hp)
    subst hc
    have ePc : pcAfter [] (ops ++ [Op.ref j]) = pcAfter [] ops ++ [told (pcAfter [] ops) (.ref j)] := pcAfter_snoc ops [] _
    have eF : flat (pcAfter [] (ops ++ [Op.ref j])) = flat (pcAfter [] ops) ++ (told (pcAfter [] ops) (.ref j)).toList := by
      rw [ePc, flat_append, flat_cons]
      show _ ++ (_ ++ []) = _
      rw [List.append_nil]
    rw [copiedI_toI, copied_told (small_pos hsm) hjl] at hI'
    refine big_fin (op := .ref j) (A := A) (dvs := dvs') (pvs := pvs ++ [Value.ref tp]) (nd := nd') (np := np') (ne := ne) (tl := (tp, tupObj [.int (dvs.length : Nat) ta, .int (((pcAfter [] ops)[j].size : Nat) + 1) tb']) :: tl) hok hlen ?_ ?_ ?_ (hE.mono fun p hp => .tail _ hp) a1 a2 a3 i1 i2 i3 ?_ ?_ ?_ ?_ (fun p hp => .tail _ (hfix p hp)) F2 X₀ T (fun p hp => N3 p ?_) rfl
    · rw [eF, ← List.append_assoc]
      exact hI'
    · rw [eF, ← List.append_assoc, hA, toldOf_snoc, flat_append, flat_cons]
      show _ = _ ++ (_ ++ [])
      rw [List.append_nil]
    · rw [ePc, piecePairs_snoc, hAl, told_ref_size hsm hjl]
      exact PairsAre.snoc (hP.mono fun p hp => .tail _ hp) (.head _)
    · intro p hp
      rcases List.mem_cons.mp hp with rfl | hp
      · exact (Nat.ne_of_lt l1).symm
      · exact t1 p hp
    · intro p hp
      rcases List.mem_cons.mp hp with rfl | hp
      · exact (Nat.ne_of_lt l2).symm
      · exact t2 p hp
    · intro p hp
      rcases List.mem_cons.mp hp with rfl | hp
      · exact (Nat.ne_of_lt l3).symm
      · exact t3 p hp
    · intro p hp
      rcases List.mem_cons.mp hp with rfl | hp
      · exact (Nat.ne_of_lt l4).symm
      · exact t4 p hp
    · simp only [List.mem_cons] at hp ⊢
      rcases hp with h | h | h | h | h | h <;> simp only [h, true_or, or_true]
end
end
section
local macro_rules | `(tactic| walk_at "exec For Name Call cons nil") => `(tactic| (k_here; (rename Fr _ _ _ _ => lF'); (with_unfolding_all refine' For_invVF lF' ?k1 ?k2 ?_; (case k1 => exact rfl); (case k2 => exact rfl); k_whole)))
local macro_rules | `(tactic| walk_at "call ref") => `(tactic| (k_here; (with_reducible show wpAny _ _ (call (Value.ref 681) _) _ _ _); refine stop_of ?_))
section
variable {w : World} {A₀ : Around} {s : Shared} {base h₀ : Heap} {L fa : Addr} {cd : Value} {mg mb : Str → Option Value} {loose : List Str} {mean : ExcName → Option Value}
  {way : Value} {nx : List (Addr × Obj)} {Q : Flow → Shared → Prop} {m : Str → Option Value} {la : Addr} {vs : List Value} {ns : List Int}
theorem big_for (B : Below A₀ base [] h₀) (F : Fr h₀ L s.heap m) (X₀ : (Mine.K w.params).In h₀) (T : Top Mine.view loose mean mg mb h₀) (N : News h₀ L s.heap nx)
  (hLi : base.IsList la vs.toArray) (hI : IntsAre vs ns) (h63 : ns.length ≤ 63) (S : BigS (.ref la) way [] [] m nx)
  (h : ∀ h' tk m' nx' ws, ws.length ≤ 263 → BigS (.ref la) way [] (opsOf [] ws) m' nx' → Fr h₀ L h' m' → News h₀ L h' nx' → Q .next { s with heap := h', toks := tk }) :
  wpAny (model PySem.Challenge.rw_lc0007_01.row.prog w) (lawA L fa cd) (exec (lawSt 6) (lenv L fa cd)) Q (fun _ _ => False) s := by
  obtain ⟨Dd, Dp, De, dvs, pvs, evs, nd, np, ne, tb, tz, r, tl, A, rfl, rfl, ⟨a1, a2, a3⟩, ⟨t1, t2, t3⟩, hfix, hIs, hA, hP, hE⟩ := S
  w_top off
  k_with_none
  have X₁ := X₀; revert X₁; k_fill; intro X₁; clear X₁
  unfold lawA lenv
  conv in (lawSt 6) => whnf
  repeat conv in lawScope => whnf
  k_steps
  rename Fr h₀ L _ _ => FZ
  rename News h₀ L _ _ => NZ
  refine wpAny_call (wishes_c B FZ X₀ T NZ hLi hI h63 rfl rfl (by decide) ?_)
  intro h1 tk1 wa ws us nn F1 N1 hlt hIu hlen hge
  have lwa : ∀ {D : Addr} {o : Obj}, (D, o) ∈ ((Dd, listOf dvs.toArray nd) :: (Dp, listOf pvs.toArray np) :: (De, listOf evs.toArray ne) :: tl) → wa ≠ D := fun hm => (Nat.ne_of_lt (hlt _ hm)).symm
  have N2 : News h₀ L h1 ((Dd, listOf dvs.toArray nd) :: (Dp, listOf pvs.toArray np) :: (De, listOf evs.toArray ne) :: (wa, listOf us.toArray nn) :: tl) := fun p hp => N1 p (by
    simp only [List.mem_cons] at hp ⊢
    rcases hp with h | h | h | h | h <;> simp only [h, true_or, or_true])
  have off : ∀ {D : Addr}, wa ≠ D → (∀ p ∈ tl, p.1 ≠ D) → ∀ p ∈ (wa, listOf us.toArray nn) :: tl, p.1 ≠ D := fun hD ht p hp => by
    rcases List.mem_cons.mp hp with rfl | hp
    · exact hD
    · exact ht p hp
  refine iter_own (vs := us) (nn := nn) (fun i m nx => BigS (.ref la) way [(wa, listOf us.toArray nn)] (opsOf [] (ws.take i)) m nx) rfl (.tail _ (.tail _ (.tail _ (.head _)))) ?_ F1 N2 ?_ ?_ ?_
  · intro i m nx S'
    obtain ⟨Dd, Dp, De, dvs, pvs, evs, nd, np, ne, tb, tz, r, tl, A, rfl, rfl, _, _, hfix, _⟩ := S'
    exact .tail _ (.tail _ (.tail _ (hfix _ (.head _))))
  · exact ⟨Dd, Dp, De, dvs, pvs, evs, nd, np, ne, tb, tz, r, _, A, rfl, rfl, ⟨a1, a2, a3⟩, ⟨off (lwa (.head _)) t1, off (lwa (.tail _ (.head _))) t2, off (lwa (.tail _ (.tail _ (.head _)))) t3⟩,
      (fun p hp => by rw [List.mem_singleton.mp hp]; exact .head _), hIs, hA, hP.mono fun p hp => .tail _ hp, hE.mono fun p hp => .tail _ hp⟩
  · intro I hIlt i v m₁ nx' h2 tk2 oI hv S' hoff F' N'
    have hil : i < us.length := (List.getElem?_eq_some_iff.mp hv).1
    have hil' : i < ws.length := by rw [← hIu.length]; exact hil
    obtain ⟨t, hx⟩ := hIu.get i ws[i] (by simp [hil'])
    obtain rfl : v = .int ws[i] t := by rw [hx] at hv; exact (Option.some.inj hv).symm
    have hs : ws.take (i + 1) = ws.take i ++ [ws[i]] := by rw [List.take_add_one, List.getElem?_eq_getElem hil']; rfl
    rw [hs, opsOf_snoc]
    exact big_turn (okAll_ops _) (by rw [opsOf_length, List.length_take]; omega) (hge _ (List.getElem_mem hil')) S' hoff F' N' X₀ T
  · intro m₁ nx' h2 tk2 S' F' N'
    rw [hIu.length, List.take_length] at S'
    refine h _ _ _ _ ws hlen ?_ F' N'
    obtain ⟨Dd, Dp, De, dvs, pvs, evs, nd, np, ne, tb, tz, r, tl, A, e1, e2, e3, e4, _, e5, e6, e7, e8⟩ := S'
    exact ⟨Dd, Dp, De, dvs, pvs, evs, nd, np, ne, tb, tz, r, tl, A, e1, e2, e3, e4, (fun p hp => nomatch hp), e5, e6, e7, e8⟩
end
end
section
variable {prog : Program} {w : World} {A : Around} {E : Value → Shared → Prop} {s : Shared} {h₀ : Heap} {L : Addr} {m : Str → Option Value} {la : Addr} {vs : List Value} {ns : List Int}
theorem item_first {value slice : Expr} {u : Tok} {Q : Value → Shared → Prop} (F : Fr h₀ L s.heap m) (hLi : h₀.IsList la vs.toArray) (hI : IntsAre vs ns) (hlt : 0 < ns.length) (h : ∀ t, Q (.int (ns.getD 0 0) t) s)
    (hs : subscripted slice false (.ref la) (.int 0 u) = operate [.ref la, .int 0 u] (getItem (.ref la) (.int 0 u)) := by with_unfolding_all rfl) (ht : ∀ r, letTemporaryGo value (.ref la) r = pure () := by intro _; with_unfolding_all rfl) :
    wpAny (model prog w) A (subscriptTail value slice (.ref la) (.int 0 u)) Q E s := by
  have hl : s.heap.IsList la vs.toArray := hLi.at fun o e => F.keep la o e
  obtain ⟨t, e⟩ := hI.get 0 (ns.getD 0 0) (by rw [List.getD_eq_getElem?_getD, List.getElem?_eq_getElem hlt]; rfl)
  exact subscriptTail_builtin hl.typeIs slot_list_getitem.lookup (wpAny_getItem_list hl (by decide) (by decide) (by simpa using e) (h t)) hs ht
theorem item_last {value slice : Expr} {u : Tok} {Q : Value → Shared → Prop} (F : Fr h₀ L s.heap m) (hLi : h₀.IsList la vs.toArray) (hI : IntsAre vs ns) (hlt : 0 < ns.length) (h : ∀ t, Q (.int (ns.getD (ns.length - 1) 0) t) s)
    (hs : subscripted slice false (.ref la) (.int (-1) u) = operate [.ref la, .int (-1) u] (getItem (.ref la) (.int (-1) u)) := by with_unfolding_all rfl) (ht : ∀ r, letTemporaryGo value (.ref la) r = pure () := by intro _; with_unfolding_all rfl) :
    wpAny (model prog w) A (subscriptTail value slice (.ref la) (.int (-1) u)) Q E s := by
  have hl : s.heap.IsList la vs.toArray := hLi.at fun o e => F.keep la o e
  obtain ⟨t, e⟩ := hI.get (ns.length - 1) (ns.getD (ns.length - 1) 0) (by rw [List.getD_eq_getElem?_getD, List.getElem?_eq_getElem (by omega)]; rfl)
  have hv := hI.length
  exact subscriptTail_builtin hl.typeIs slot_list_getitem.lookup (PySem.wpAny_getItem_list_neg hl (by decide) (by rw [List.size_toArray]; omega) (by decide) (by
    rw [List.size_toArray, show ((-1 : Int) + (vs.length : Nat)).toNat = ns.length - 1 by omega]
    simpa using e) (h t)) hs ht
theorem shl_P {b wd z P : Nat} {n : Int} {tb tw : Tok} {Q : Value → Shared → Prop} (hn : n = ((wd : Nat) : Int)) (hP : 2 ^ wd = P) (hb : b < 2 ^ z) (hz : z ≤ 100000) (hwd : wd ≤ 1000) (h : Q (.int ((b * P : Nat) : Int) s.toks) { s with toks := s.toks + 1 }) :
    wpAny (model prog w) A (binaryOp .LShift (.int (b : Nat) tb) (.int n tw)) Q E s := by
  subst hn hP
  exact shl_own hb hz hwd h
theorem shl_1 {wd P : Nat} {n : Int} {tb tw : Tok} {Q : Value → Shared → Prop} (hn : n = ((wd : Nat) : Int)) (hP : 2 ^ wd = P) (hwd : wd ≤ 1000) (h : Q (.int ((P : Nat) : Int) s.toks) { s with toks := s.toks + 1 }) :
    wpAny (model prog w) A (binaryOp .LShift (.int 1 tb) (.int n tw)) Q E s := by
  subst hn hP
  refine lshift_int_small (by omega) (by omega) (by decide) ?_
  have e : (1 : Int) * 2 ^ ((wd : Nat) : Int).toNat = ((2 ^ wd : Nat) : Int) := by
    rw [Int.toNat_natCast, Int.one_mul, Int.natCast_pow]
    rfl
  rw [e]
  exact h
theorem shl_two {b c P wd z : Nat} (hP : 2 ^ wd = P) (hb : b < 2 ^ z) (hc : c < P) : b * P + c < 2 ^ (z + wd) := by
  rw [Nat.pow_add, hP]
  have h1 : (b + 1) * P ≤ 2 ^ z * P := Nat.mul_le_mul_right _ hb
  rw [Nat.add_mul, Nat.one_mul] at h1
  generalize 2 ^ z * P = Y at h1 ⊢
  generalize b * P = Z at h1 ⊢
  omega
theorem or_P {b P wd : Nat} {x c : Int} {tb tw : Tok} {Q : Value → Shared → Prop} (hP : 2 ^ wd = P) (hx : x = ((b * P : Nat) : Int)) (h0 : 0 ≤ c) (h1 : c < ((P : Nat) : Int)) (h : Q (.int ((b * P + c.toNat : Nat) : Int) s.toks) { s with toks := s.toks + 1 }) :
    wpAny (model prog w) A (binaryOp .BitOr (.int x tb) (.int c tw)) Q E s := by
  subst hP hx
  refine or_int ?_
  obtain ⟨k, rfl⟩ : ∃ k : Nat, c = ((k : Nat) : Int) := ⟨c.toNat, by omega⟩
  rw [or_nat (Int.ofNat_lt.mp h1)]
  rw [Int.toNat_natCast] at h
  exact h
end
local macro_rules | `(tactic| walk_at "subscriptTail Name Constant ref int") => `(tactic| (k_here; k_dflt (refine item_first (by k_asm) (by assumption) (by assumption) (by assumption) ?_); intro _))
section
local macro_rules | `(tactic| walk_at "compareOp NotEq ref ref") => `(tactic| (k_here; (with_reducible show wpAny _ _ (compareOp CmpOp.NotEq (Value.ref _) (Value.ref _)) _ _ _); k_dflt (refine ne_nil_own (by k_asm) (by k_mem) (by k_mem) (by ke_room) ?_)))
local macro_rules | `(tactic| walk_at "binaryOp LShift int int") => `(tactic| (k_here; (with_reducible show wpAny _ _ (binaryOp _ (Value.int (Nat.cast _) _) (Value.int (Nat.cast _) _)) _ _ _); (refine shl_P rfl (by assumption) (by assumption) (by omega) (by omega) ?_)))
local macro_rules | `(tactic| walk_at "binaryOp LShift int int") => `(tactic| (k_here; (with_reducible show wpAny _ _ (binaryOp _ (Value.int (Nat.cast _) _) (Value.int 23 _)) _ _ _); (refine shl_P (wd := 23) rfl (by assumption) (shl_two (by assumption) (by assumption) (by omega)) (by omega) (by omega) ?_)))
local macro_rules | `(tactic| walk_at "binaryOp LShift int int") => `(tactic| (k_here; (with_reducible show wpAny _ _ (binaryOp _ (Value.int 1 _) (Value.int (Nat.cast _) _)) _ _ _); (refine shl_1 rfl (by assumption) (by omega) ?_)))
local macro_rules | `(tactic| walk_at "binaryOp LShift int int") => `(tactic| (k_here; (with_reducible show wpAny _ _ (binaryOp _ (Value.int 1 _) (Value.int 23 _)) _ _ _); (refine shl_1 (wd := 23) rfl (by assumption) (by omega) ?_)))
local macro_rules | `(tactic| walk_at "binaryOp BitOr int int") => `(tactic| (k_here; (with_reducible show wpAny _ _ (binaryOp _ (Value.int (Nat.cast _) _) _) _ _ _); (refine or_P (by assumption) rfl (by omega) (by omega) ?_)))
section
variable {w : World} {A₀ : Around} {s : Shared} {base h₀ : Heap} {L fa : Addr} {cd : Value} {mg mb : Str → Option Value} {loose : List Str} {mean : ExcName → Option Value}
  {sc way data bits size ends : Value} {wish width code : Option Value} {Dp : Addr} {pvs : List Value} {np : Nat} {r : Str → Option Value} {news : List (Addr × Obj)} {Q : Flow → Shared → Prop} {tw : Tok}
/-- width, once more -/
theorem st7 (F : Fr h₀ L s.heap (loopM sc way data (.ref Dp) bits size ends r)) (X₀ : (Mine.K w.params).In h₀) (T : Top Mine.view loose mean mg mb h₀) (N : News h₀ L s.heap news) (hm : (Dp, listOf pvs.toArray np) ∈ news)
  (hp : pvs.length ≤ 1000)
  (h : ∀ h' tk t r' (wd : Int) wish code, wd = (if pvs.length < 254 then 9 else 10) → Fr h₀ L h' (loopM sc way data (.ref Dp) bits size ends (workM wish (some (.int wd t)) code r')) → News h₀ L h' news → Q .next { s with heap := h', toks := tk }) :
  wpAny (model PySem.Challenge.rw_lc0007_01.row.prog w) (lawA L fa cd) (exec (lawSt 7) (lenv L fa cd)) Q (fun _ _ => False) s := by
  w_top off
  k_with_none
  have X₁ := X₀; revert X₁; k_fill; intro X₁; clear X₁
  unfold lawA lenv
  conv in (lawSt 7) => whnf
  repeat conv in lawScope => whnf
  refine wpAny_mono (Q := Q) ?_ (fun _ _ x => x) fun _ _ x => x
  by_cases hc : pvs.length < 254
  · k_steps
    rename Fr _ L _ _ => FZ
    rename News _ L _ _ => NZ
    exact h _ _ _ _ _ _ _ (by rw [if_pos hc]) (work_fr FZ rfl rfl rfl rfl rfl rfl rfl rfl rfl rfl) NZ
  · k_steps
    rename Fr _ L _ _ => FZ
    rename News _ L _ _ => NZ
    exact h _ _ _ _ _ _ _ (by rw [if_neg hc]) (work_fr FZ rfl rfl rfl rfl rfl rfl rfl rfl rfl rfl) NZ
end
section
variable {w : World} {A₀ : Around} {s : Shared} {base h₀ : Heap} {L fa : Addr} {cd : Value} {mg mb : Str → Option Value} {loose : List Str} {mean : ExcName → Option Value}
  {data ends : Value} {wish code : Option Value} {Dp la : Addr} {pvs : List Value} {np : Nat} {r : Str → Option Value} {news : List (Addr × Obj)} {Q : Flow → Shared → Prop} {tw tb tz td : Tok} {vs : List Value} {ns : List Int}
  {b z wd P K : Nat}
/-- way 2: a code beyond the table -/
theorem st8a (hK : 2 ^ 23 = K) (hK8 : K = 8388608) (hLi : h₀.IsList la vs.toArray) (hI : IntsAre vs ns) (hns : 0 < ns.length) (hP : 2 ^ wd = P) (hwd : wd ≤ 10) (hb : b < 2 ^ z) (hz : z ≤ 3000) (hlt : 258 + pvs.length < P) (hpl : pvs.length ≤ 1000) (hne : ¬ pvs = [])
  (F : Fr h₀ L s.heap (loopM (.ref la) (.int 2 tw) data (.ref Dp) (.int (b : Nat) tb) (.int (z : Nat) tz) ends (workM wish (some (.int (wd : Nat) td)) code r))) (X₀ : (Mine.K w.params).In h₀) (T : Top Mine.view loose mean mg mb h₀) (N : News h₀ L s.heap ((Dp, listOf pvs.toArray np) :: news))
  (h : ∀ h' tk tb' tz' r' (bad rr : Nat), 258 + pvs.length ≤ bad → bad < P → rr < K → Fr h₀ L h' (loopM (.ref la) (.int 2 tw) data (.ref Dp) (.int (((b * P + bad) * K + rr : Nat) : Int) tb') (.int ((z + (wd + 23) : Nat) : Int) tz') ends r') → News h₀ L h' ((Dp, listOf pvs.toArray np) :: news) → Q .next { s with heap := h', toks := tk }) :
  wpAny (model PySem.Challenge.rw_lc0007_01.row.prog w) (lawA L fa cd) (exec (lawSt 8) (lenv L fa cd)) Q (fun _ _ => False) s := by
  w_top off
  k_with_none
  have X₁ := X₀; revert X₁; k_fill; intro X₁; clear X₁
  unfold lawA lenv
  conv in (lawSt 8) => whnf
  repeat conv in lawScope => whnf
  have f1 := Int.fmod_nonneg_of_pos (ns.getD 0 0) (b := (P : Int) - (258 + (pvs.length : Nat))) (by omega)
  have f2 := Int.fmod_lt_of_pos (ns.getD 0 0) (b := (P : Int) - (258 + (pvs.length : Nat))) (by omega)
  have f3 := Int.fmod_nonneg_of_pos (ns.getD 0 0) (b := (K : Int)) (by omega)
  have f4 := Int.fmod_lt_of_pos (ns.getD 0 0) (b := (K : Int)) (by omega)
  have hP' := hP
  clear hP
  k_steps
  rename Fr _ L _ _ => FZ
  rename News _ L _ _ => NZ
  exact h _ _ _ _ _ (258 + (pvs.length : Int) + (ns.getD 0 0).fmod ((P : Int) - (258 + (pvs.length : Nat)))).toNat ((ns.getD 0 0).fmod (K : Int)).toNat (by omega) (by omega) (by omega) (loopM_fr FZ rfl rfl rfl rfl rfl rfl rfl) (fun p hp => NZ p (.tail _ hp))
/-- the end's code -/
theorem st8b {wy : Int} (h1 : wy ≠ 1) (h2 : wy ≠ 2 ∨ pvs = []) (hP : 2 ^ wd = P) (hwd : wd ≤ 10) (hb : b < 2 ^ z) (hz : z ≤ 3000) (hlt : 257 < P) 
  (F : Fr h₀ L s.heap (loopM (.ref la) (.int wy tw) data (.ref Dp) (.int (b : Nat) tb) (.int (z : Nat) tz) ends (workM wish (some (.int (wd : Nat) td)) code r))) (X₀ : (Mine.K w.params).In h₀) (T : Top Mine.view loose mean mg mb h₀) (N : News h₀ L s.heap ((Dp, listOf pvs.toArray np) :: news))
  (h : ∀ h' tk tb' tz' r', Fr h₀ L h' (loopM (.ref la) (.int wy tw) data (.ref Dp) (.int ((b * P + 257 : Nat) : Int) tb') (.int ((z + wd : Nat) : Int) tz') ends r') → News h₀ L h' ((Dp, listOf pvs.toArray np) :: news) → Q .next { s with heap := h', toks := tk }) :
  wpAny (model PySem.Challenge.rw_lc0007_01.row.prog w) (lawA L fa cd) (exec (lawSt 8) (lenv L fa cd)) Q (fun _ _ => False) s := by
  w_top off
  k_with_none
  have X₁ := X₀; revert X₁; k_fill; intro X₁; clear X₁
  unfold lawA lenv
  conv in (lawSt 8) => whnf
  repeat conv in lawScope => whnf
  by_cases hc : wy = 2
  · have hpn := h2.resolve_left (fun q => q hc)
    k_steps
    rename Fr _ L _ _ => FZ
    rename News _ L _ _ => NZ
    exact h _ _ _ _ _ (loopM_fr FZ rfl rfl rfl rfl rfl rfl rfl) (fun p hp => NZ p (.tail _ hp))
  · k_steps
    rename Fr _ L _ _ => FZ
    rename News _ L _ _ => NZ
    exact h _ _ _ _ _ (loopM_fr FZ rfl rfl rfl rfl rfl rfl rfl) NZ
/-- way 1: no end's code -/
theorem st8c {bits size : Value} (F : Fr h₀ L s.heap (loopM (.ref la) (.int 1 tw) data (.ref Dp) bits size ends r)) (X₀ : (Mine.K w.params).In h₀) (T : Top Mine.view loose mean mg mb h₀) (N : News h₀ L s.heap ((Dp, listOf pvs.toArray np) :: news))
  (h : ∀ h' tk r', Fr h₀ L h' (loopM (.ref la) (.int 1 tw) data (.ref Dp) bits size ends r') → News h₀ L h' ((Dp, listOf pvs.toArray np) :: news) → Q .next { s with heap := h', toks := tk }) :
  wpAny (model PySem.Challenge.rw_lc0007_01.row.prog w) (lawA L fa cd) (exec (lawSt 8) (lenv L fa cd)) Q (fun _ _ => False) s := by
  w_top off
  k_with_none
  have X₁ := X₀; revert X₁; k_fill; intro X₁; clear X₁
  unfold lawA lenv
  conv in (lawSt 8) => whnf
  repeat conv in lawScope => whnf
  k_steps
  rename Fr _ L _ _ => FZ
  rename News _ L _ _ => NZ
  exact h _ _ _ FZ NZ
end
end
section
section
variable {prog : Program} {w : World} {A : Around} {E : Value → Shared → Prop} {s : Shared}
theorem to_bigM {k X : Nat} {n : Int} {t u v : Tok} {Q : Value → Shared → Prop} (hn : n = ((k : Nat) : Int)) (hk : k ≤ 16777216) (h1 : X < 256 ^ k) (h : ∀ (b : Array UInt8) t' k', bigOf b.toList = X → b.size = k → Q (.bytes b t') { s with toks := k' }) :
    wpAny (model prog w) A (call (.builtin "int.to_bytes") [.int (X : Nat) t, .int n u, .str (PySem.Str.ofString "big") v]) Q E s := by
  subst hn
  refine to_bigN hk (by omega) ?_ (fun b t' k' hb => h b t' k' (by rw [hb]; exact bigOf_low h1) (by rw [← Array.length_toList, hb, List.length_reverse, KTBy.low_length]))
  have : ((256 ^ k : Nat) : Int) = 256 ^ k := by rw [Int.natCast_pow]; rfl
  rw [← this]
  exact Int.ofNat_lt.mpr h1
end
local macro_rules | `(tactic| walk_at "binaryOp LShift int int") => `(tactic| (k_here; (with_reducible show wpAny _ _ (binaryOp _ (Value.int (Nat.cast _) _) _) _ _ _); (refine shl_P (by assumption) (by assumption) (by assumption) (by omega) (by omega) ?_)))
local macro_rules | `(tactic| walk_at "call builtin:int.to_bytes") => `(tactic| (k_here; (refine to_bigM (by assumption) (by omega) (by assumption) ?_); intro _ _ _ _ _))
section
variable {w : World} {A₀ : Around} {s : Shared} {base h₀ : Heap} {L fa : Addr} {cd : Value} {mg mb : Str → Option Value} {loose : List Str} {mean : ExcName → Option Value}
  {sc way pieces ends : Value} {Dd : Addr} {dvs : List Value} {nd : Nat} {r : Str → Option Value} {news : List (Addr × Obj)} {Q : Flow → Shared → Prop} {tb tz : Tok}
noncomputable def tailM (sc way data ends octets due : Value) (r : Str → Option Value) : Str → Option Value := fun y =>
  if y = Str.ofString "script" then some sc else if y = Str.ofString "way" then some way else if y = Str.ofString "data" then some data else if y = Str.ofString "ends" then some ends
  else if y = Str.ofString "octets" then some octets else if y = Str.ofString "due" then some due else r y
theorem tail_fr {h : Heap} {sc way data ends octets due : Value} {m : Str → Option Value} (F : Fr h₀ L h m) (h1 : m (Str.ofString "script") = some sc) (h2 : m (Str.ofString "way") = some way) (h3 : m (Str.ofString "data") = some data)
    (h4 : m (Str.ofString "ends") = some ends) (h5 : m (Str.ofString "octets") = some octets) (h6 : m (Str.ofString "due") = some due) : Fr h₀ L h (tailM sc way data ends octets due m) := by
  have e : m = tailM sc way data ends octets due m := by
    funext y
    unfold tailM
    by_cases e1 : y = Str.ofString "script"
    · rw [if_pos e1, e1, h1]
    rw [if_neg e1]
    by_cases e2 : y = Str.ofString "way"
    · rw [if_pos e2, e2, h2]
    rw [if_neg e2]
    by_cases e3 : y = Str.ofString "data"
    · rw [if_pos e3, e3, h3]
    rw [if_neg e3]
    by_cases e4 : y = Str.ofString "ends"
    · rw [if_pos e4, e4, h4]
    rw [if_neg e4]
    by_cases e5 : y = Str.ofString "octets"
    · rw [if_pos e5, e5, h5]
    rw [if_neg e5]
    by_cases e6 : y = Str.ofString "due"
    · rw [if_pos e6, e6, h6]
    rw [if_neg e6]
  exact e ▸ F
/-- octets, due -/
theorem st9 {X Z : Nat} (hX : X < 2 ^ Z) (hZ : Z ≤ 4000) (hdl : dvs.length ≤ 90000)
  (F : Fr h₀ L s.heap (loopM sc way (.ref Dd) pieces (.int (X : Nat) tb) (.int (Z : Nat) tz) ends r)) (X₀ : (Mine.K w.params).In h₀) (T : Top Mine.view loose mean mg mb h₀) (N : News h₀ L s.heap news) (hm : (Dd, listOf dvs.toArray nd) ∈ news)
  (h : ∀ h' tk r' (b : Array UInt8) t1 t2 pad, pad < 8 → 8 * b.size = Z + pad → bigOf b.toList = X * 2 ^ pad → Fr h₀ L h' (tailM sc way (.ref Dd) ends (.bytes b t1) (.int (dvs.length : Nat) t2) r') → News h₀ L h' news → Q .next { s with heap := h', toks := tk }) :
  wpAny (model PySem.Challenge.rw_lc0007_01.row.prog w) (lawA L fa cd) (execs [lawSt 9, lawSt 10] (lenv L fa cd)) Q (fun _ _ => False) s := by
  w_top off
  k_with_none
  have X₁ := X₀; revert X₁; k_fill; intro X₁; clear X₁
  unfold lawA lenv
  conv in (lawSt 9) => whnf
  conv in (lawSt 10) => whnf
  repeat conv in lawScope => whnf
  obtain ⟨pad, hpad⟩ : ∃ pad : Nat, (-(Z : Int)).fmod 8 = (pad : Nat) := ⟨_, (Int.toNat_of_nonneg (Int.fmod_nonneg_of_pos _ (by decide))).symm⟩
  have hp8 := Int.fmod_lt_of_pos (-(Z : Int)) (b := 8) (by decide)
  have hpe : (Z + pad) % 8 = 0 := by
    rw [Int.fmod_eq_emod_of_nonneg _ (by decide)] at hpad
    omega
  obtain ⟨k, hk⟩ : ∃ k : Nat, ((Z : Int) + 7).fdiv 8 = (k : Nat) := ⟨(Z + 7) / 8, by
    rw [Int.fdiv_eq_ediv_of_nonneg _ (by decide)]
    omega⟩
  have hk8 : 8 * k = Z + pad := by
    rw [Int.fdiv_eq_ediv_of_nonneg _ (by decide)] at hk
    omega
  obtain ⟨P, hP⟩ : ∃ P, 2 ^ pad = P := ⟨_, rfl⟩
  have hlt : X * P < 256 ^ k := by
    have e : 256 ^ k = 2 ^ Z * P := by
      rw [← hP, ← Nat.pow_add, ← hk8, Nat.pow_mul]
    have hpos : 0 < P := by rw [← hP]; exact Nat.two_pow_pos pad
    rw [e]
    exact Nat.mul_lt_mul_of_pos_right hX hpos
  k_steps
  rename Fr _ L _ _ => FZ
  rename News _ L _ _ => NZ
  rename bigOf _ = _ => hb9
  rename Array.size _ = _ => hz9
  exact h _ _ _ _ _ _ pad (by omega) (by rw [hz9]; exact hk8) (by rw [hb9, hP]) (tail_fr FZ rfl rfl rfl rfl rfl rfl) NZ
end
end
section
/-! A loop over a list of the ledger, its target a tuple. -/
noncomputable def TurnNext (h₀ : Heap) (L I : Addr) (oI : Obj) (J : (Str → Option Value) → List (Addr × Obj) → Prop) (s₁ : Shared) (f : Flow) (s₂ : Shared) : Prop := f = .next ∧ TurnEnd h₀ L I oI J s₁ s₂
section
variable {prog : Program} {w : World} {A : Around} {E : Value → Shared → Prop} {s : Shared} {env : Env} {h₀ : Heap} {target : Expr} {body : List Stmt} {Q : Flow → Shared → Prop}
theorem iter_ownT {l : Addr} {vs : List Value} {nn : Nat} {m₀ : Str → Option Value} {news : List (Addr × Obj)} (J : Nat → (Str → Option Value) → List (Addr × Obj) → Prop)
    (hh : A.handled = none) (hl : (l, listOf vs.toArray nn) ∈ news) (hJ : ∀ i m nx, J i m nx → (l, listOf vs.toArray nn) ∈ nx)
    (F : Fr h₀ env.locals s.heap m₀) (N : News h₀ env.locals s.heap news) (hj : J 0 m₀ news)
    (turn : ∀ I, (∀ p ∈ news, p.1 < I) → ∀ i v m₁ nx (s₁ : Shared) oI, vs[i]? = some v → J i m₁ nx → (∀ p ∈ nx, p.1 ≠ I) → Fr h₀ env.locals s₁.heap m₁ → News h₀ env.locals s₁.heap ((I, oI) :: nx) →
      wpAny (model prog w) A (assign target env v) (fun _ s₃ => wpAny (model prog w) A (execs body env) (TurnNext h₀ env.locals I oI (J (i + 1)) s₁) E s₃) E s₁)
    (done : ∀ m₁ nx h tk, J vs.length m₁ nx → Fr h₀ env.locals h m₁ → News h₀ env.locals h nx → Q .next { s with heap := h, toks := tk }) :
    wpAny (model prog w) A (pyIter (.ref l)) (fun it s₂ => LoopAtT prog w A h₀ env target body Q E it s₂) E s := by
  have hg := (N _ hl).1
  have hls : s.heap.IsList l vs.toArray := ⟨_, hg, rfl, nn, rfl⟩
  have hlt : l < s.heap.objs.size := Heap.lt_size hg
  have hne : l ≠ s.heap.objs.size := Nat.ne_of_lt hlt
  refine wpAny_pyIter_list hls ?_
  have W := Walks.list (prog := prog) (w := w) hh s.heap.objs.size l hne vs.toArray
  have hlen : vs.toArray.size = vs.length := by simp
  rw [hlen] at W
  have hIo := next_is_new F
  refine ⟨_, _, _, vs.length, _, _, m₀, news, J, rfl, W, ?_, ?_, ?_, ⟨⟨_, Heap.get?_push_size _ rfl, rfl, rfl⟩, hls.at fun o e => Heap.get?_push_of_some _ e⟩, F.push _, (fun p hp => ⟨Heap.get?_push_of_some _ (N p hp).1, (N p hp).2⟩), (fun i s' v Q' st hQ' => letGo_listiter st.1 hQ'), hj, ?_, ?_⟩
  · intro hm
    rcases List.mem_cons.mp hm with e | hm
    · exact absurd F.ns.lt (e ▸ Nat.lt_irrefl _)
    · exact (N _ hl).2.1 (List.mem_singleton.mp hm).symm
  · intro b hb; rw [List.mem_singleton.mp hb]; exact hIo
  · intro p hp e
    exact absurd (Heap.lt_size (N p hp).1) ((List.mem_singleton.mp e) ▸ Nat.lt_irrefl _)
  · rintro i v m₁ nx s₁ own hin hP hJ' hoff hown hget hall st F₁ N₁
    obtain ⟨⟨oI, hoI, _⟩, _⟩ := id st
    have hIo' : (s.heap.objs.size, oI) ∈ own := hall _ (.head _) hIo oI hoI
    have hIn : ∀ p ∈ nx, p.1 ≠ s.heap.objs.size := fun p hp e => hoff p hp (by rw [e]; exact .head _)
    have N₂ : News h₀ env.locals s₁.heap ((s.heap.objs.size, oI) :: nx) := fun p hp => by
      rcases List.mem_cons.mp hp with rfl | hp
      · exact N₁ _ (List.mem_append_left _ hIo')
      · exact N₁ _ (List.mem_append_right _ hp)
    have hsub : ∀ p ∈ own, p = (s.heap.objs.size, oI) ∨ p ∈ [(l, listOf vs.toArray nn)] := own_fix (h₀ := h₀) (L := l) hoI hown hget (fun p hp => (N₁ p (List.mem_append_left _ hp)).2.2) (fun b hb _ => by
      rcases List.mem_cons.mp hb with rfl | hb
      · exact .inl rfl
      · rw [List.mem_singleton.mp hb]
        exact .inr ⟨_, .head _⟩) fun p hp => (N₁ p (List.mem_append_right _ (by rw [List.mem_singleton.mp hp]; exact hJ _ _ _ hJ'))).1
    refine wpAny_mono (turn _ (fun p hp => Heap.lt_size (N p hp).1) i v m₁ nx s₁ oI (by simpa using hP) hJ' hIn F₁ N₂) (fun _ s₃ h₃ => wpAny_mono h₃ (fun f s₂ p => ?_) fun _ _ e => e) fun _ _ e => e
    obtain ⟨rfl, h', tk, m', nx', e, F', N', hI', hm⟩ := p
    refine ⟨rfl, h', tk, m', nx', e, F', fun p hp => ?_, fun p hp hq => hI' p hp (List.mem_singleton.mp hq), hm⟩
    rcases List.mem_append.mp hp with hp | hp
    · rcases hsub p hp with rfl | hp
      · exact N' _ (.head _)
      · exact N' _ (.tail _ (by rw [List.mem_singleton.mp hp]; exact hJ _ _ _ hm))
    · exact N' _ (.tail _ hp)
  · rintro h' tk m' news' F' N' _ hJ'
    exact done m' news' h' tk hJ' F' N'
end
end
section
local macro_rules | `(tactic| walk_at "exec For Tuple Name cons nil") => `(tactic| (k_here; (rename Fr _ _ _ _ => lF'); (with_unfolding_all refine' For_invTF lF' ?_ ?k1; (case k1 => exact fun _ => rfl); k_whole)))
local macro_rules | `(tactic| walk_at "subscriptTail Name UnaryOp ref int") => `(tactic| (k_here; k_dflt (refine item_last (by k_asm) (by assumption) (by assumption) (by assumption) ?_); intro _))
theorem picked_upto (b : Array UInt8) (k : Nat) (hk : k ≤ b.size) : KBy.picked b none (some (k : Int)) = (b.toList.take k).toArray := by
  rw [KBc.picked_eq]
  have e : clipAt b.size (k : Int) = min k b.size := clipAt_nat b.size k
  simp only [Option.elim, e, List.drop_zero, Nat.sub_zero]
  rw [Nat.min_eq_left hk]
noncomputable def keepM (keep : Value) (r : Str → Option Value) : Str → Option Value := fun y => if y = Str.ofString "keep" then some keep else r y
theorem keep_fr {h₀ h : Heap} {L : Addr} {sc way data ends octets due keep : Value} {m : Str → Option Value} (F : Fr h₀ L h m) (h1 : m (Str.ofString "script") = some sc) (h2 : m (Str.ofString "way") = some way) (h3 : m (Str.ofString "data") = some data)
    (h4 : m (Str.ofString "ends") = some ends) (h5 : m (Str.ofString "octets") = some octets) (h6 : m (Str.ofString "due") = some due) (h7 : m (Str.ofString "keep") = some keep) : Fr h₀ L h (tailM sc way data ends octets due (keepM keep m)) := by
  have e : keepM keep m = m := by
    funext y
    unfold keepM
    by_cases e1 : y = Str.ofString "keep"
    · rw [if_pos e1, e1, h7]
    · rw [if_neg e1]
  rw [e]
  exact tail_fr F h1 h2 h3 h4 h5 h6
theorem dueOf_snoc (m : Nat) (l : List (Nat × Nat)) (e : Nat × Nat) (d : Nat) : dueOf m (l ++ [e]) d = if e.1 ≤ m then e.2 else dueOf m l d := by
  unfold dueOf
  rw [List.foldl_append]
  rfl
section
variable {w : World} {A₀ : Around} {s : Shared} {base h₀ : Heap} {L fa la : Addr} {cd : Value} {mg mb : Str → Option Value} {loose : List Str} {mean : ExcName → Option Value}
  {data due ends octets : Value} {De : Addr} {evs : List Value} {ne : Nat} {r : Str → Option Value} {tl news : List (Addr × Obj)} {Q : Flow → Shared → Prop} {tw tb : Tok} {vs : List Value} {ns : List Int} {b : Array UInt8} {pairs : List (Nat × Nat)}
local macro_rules | `(tactic| walk_at "idle") => `(tactic| skip)
theorem st11n {wy : Int} (hw : wy ≠ 3) 
  (F : Fr h₀ L s.heap (tailM (.ref la) (.int wy tw) data ends octets due r)) (X₀ : (Mine.K w.params).In h₀) (T : Top Mine.view loose mean mg mb h₀) (N : News h₀ L s.heap news)
  (h : ∀ h' tk, Fr h₀ L h' (tailM (.ref la) (.int wy tw) data ends octets due r) → News h₀ L h' news → Q .next { s with heap := h', toks := tk }) :
  wpAny (model PySem.Challenge.rw_lc0007_01.row.prog w) (lawA L fa cd) (exec (lawSt 11) (lenv L fa cd)) Q (fun _ _ => False) s := by
  w_top off
  k_with_none
  have X₁ := X₀; revert X₁; k_fill; intro X₁; clear X₁
  unfold lawA lenv
  conv in (lawSt 11) => whnf
  repeat conv in lawScope => whnf
  k_steps
  rename Fr _ L _ _ => FZ
  rename News _ L _ _ => NZ
  exact h _ _ FZ NZ
theorem st11 (hLi : h₀.IsList la vs.toArray) (hI : IntsAre vs ns) (hns : 0 < ns.length) (hz : b.size ≤ 100000) (hE : PairsAre tl evs pairs)
  (F : Fr h₀ L s.heap (tailM (.ref la) (.int 3 tw) data (.ref De) (.bytes b tb) due r)) (X₀ : (Mine.K w.params).In h₀) (T : Top Mine.view loose mean mg mb h₀) (N : News h₀ L s.heap ((De, listOf evs.toArray ne) :: tl))
  (h : ∀ h' tk r' k b' t1 t2, k ≤ b.size → b' = (b.toList.take k).toArray → Fr h₀ L h' (tailM (.ref la) (.int 3 tw) data (.ref De) (.bytes b' t1) (.int (dueOf (8 * k) pairs 0 : Nat) t2) r') → News h₀ L h' ((De, listOf evs.toArray ne) :: tl) → Q .next { s with heap := h', toks := tk }) :
  wpAny (model PySem.Challenge.rw_lc0007_01.row.prog w) (lawA L fa cd) (exec (lawSt 11) (lenv L fa cd)) Q (fun _ _ => False) s := by
  w_top off
  k_with_none
  have X₁ := X₀; revert X₁; k_fill; intro X₁; clear X₁
  unfold lawA lenv
  conv in (lawSt 11) => whnf
  repeat conv in lawScope => whnf
  have f1 := Int.fmod_nonneg_of_pos (ns.getD (ns.length - 1) 0) (b := (b.size : Int) + 1) (by omega)
  have f2 := Int.fmod_lt_of_pos (ns.getD (ns.length - 1) 0) (b := (b.size : Int) + 1) (by omega)
  obtain ⟨k, hk⟩ : ∃ k : Nat, (ns.getD (ns.length - 1) 0).fmod ((b.size : Int) + 1) = (k : Nat) := ⟨_, (Int.toNat_of_nonneg f1).symm⟩
  k_steps
  rename Fr h₀ L _ _ => FZ
  rename News h₀ L _ _ => NZ
  rw [hk] at FZ ⊢
  refine KBc.slice_K (s := ⟨_, _, _, _, _⟩) FZ NZ rfl .none (.int _ _) (by rw [KBw.ints_length]; omega) ?_
  intro h2 t2 k2 F2 N2 _
  rw [picked_upto b k (by omega)]
  clear FZ NZ
  k_steps
  rename Fr h₀ L _ _ => FZ
  rename News h₀ L _ _ => NZ
  have hel := hE.1
  refine iter_ownT (vs := evs) (nn := ne) (fun i m nx => nx = (De, listOf evs.toArray ne) :: tl ∧ ∃ t tk' t3 r', m = tailM (.ref la) (.int 3 tw) data (.ref De) (.bytes (b.toList.take k).toArray t3) (.int ((dueOf (8 * k) (pairs.take i) 0 : Nat) : Int) t) (keepM (.int (k : Nat) tk') r')) rfl (.head _) ?_ (keep_fr FZ rfl rfl rfl rfl rfl rfl rfl) NZ ⟨rfl, _, _, _, _, rfl⟩ ?_ ?_
  · rintro i m nx ⟨rfl, _⟩
    exact .head _
  · rintro I hIlt i v m₁ nx s₁ oI hv ⟨rfl, t, tk', t3, r', rfl⟩ hoff F' N'
    have hil : i < pairs.length := by rw [← hel]; exact (List.getElem?_eq_some_iff.mp hv).1
    obtain ⟨tp, ta, tb', e, hmem⟩ := hE.2 i pairs[i] (List.getElem?_eq_getElem hil)
    obtain rfl : v = .ref tp := by rw [e] at hv; exact (Option.some.inj hv).symm
    have N'' : News h₀ L s₁.heap ((tp, tupObj [.int ((pairs[i].1 : Nat) : Int) ta, .int ((pairs[i].2 : Nat) : Int) tb']) :: (I, oI) :: (De, listOf evs.toArray ne) :: tl) := fun p hp => by
      rcases List.mem_cons.mp hp with rfl | hp
      · exact N' _ (.tail _ (.tail _ hmem))
      · exact N' _ hp
    have hs : pairs.take (i + 1) = pairs.take i ++ [pairs[i]] := by rw [List.take_add_one, List.getElem?_eq_getElem hil]; rfl
    rw [hs, dueOf_snoc]
    clear N' FZ NZ
    generalize pairs[i] = pr at N'' ⊢
    k_steps
    · rename Fr h₀ L _ _ => FZ
      rename News h₀ L _ _ => NZ
      rename _ ≤ (_ : Int) => hc
      rw [if_pos (by omega)]
      exact ⟨rfl, _, _, _, _, rfl, keep_fr FZ rfl rfl rfl rfl rfl rfl rfl, fun p hp => NZ p (.tail _ hp), fun p hp => hoff p hp, rfl, _, _, _, _, rfl⟩
    · rename Fr h₀ L _ _ => FZ
      rename News h₀ L _ _ => NZ
      rename ¬ _ ≤ (_ : Int) => hc
      rw [if_neg (by omega)]
      exact ⟨rfl, _, _, _, _, rfl, keep_fr FZ rfl rfl rfl rfl rfl rfl rfl, fun p hp => NZ p (.tail _ hp), fun p hp => hoff p hp, rfl, _, _, _, _, rfl⟩
  · rintro m₁ nx h3 tk3 ⟨rfl, t, tk', t3, r', rfl⟩ F' N'
    rw [hel, List.take_length] at F'
    k_steps
    exact h _ _ _ k _ _ _ (by omega) rfl F' N'
end
end
section
theorem init_big {h₀ h : Heap} {L : Addr} {Dd Dp t De : Addr} {ta tb t1 t2 : Tok} {sc way : Value} {m : Str → Option Value}
  (N : News h₀ L h [(De, listOf [Value.ref t].toArray 0), (t, tupObj [.int 9 ta, .int 0 tb]), (Dp, listOf ([] : List Value).toArray 0), (Dd, listOf ([] : List Value).toArray 0)])
  (a1 : @Ne Nat Dd Dp) (a2 : @Ne Nat Dd De) (a3 : @Ne Nat Dp De) (b1 : @Ne Nat t Dd) (b2 : @Ne Nat t Dp) (b3 : @Ne Nat t De)
  (F : Fr h₀ L h m) (h1 : m (Str.ofString "script") = some sc) (h2 : m (Str.ofString "way") = some way) (h3 : m (Str.ofString "data") = some (.ref Dd)) (h4 : m (Str.ofString "pieces") = some (.ref Dp)) (h5 : m (Str.ofString "bits") = some (.int 256 t1)) (h6 : m (Str.ofString "size") = some (.int 9 t2)) (h7 : m (Str.ofString "ends") = some (.ref De)) :
  ∃ m' nx, BigS sc way [] [] m' nx ∧ Fr h₀ L h m' ∧ News h₀ L h nx := by
  refine ⟨_, _, ⟨Dd, Dp, De, [], [], [Value.ref t], 0, 0, 0, t1, t2, m, [(t, tupObj [.int 9 ta, .int 0 tb])], [], rfl, rfl, ⟨a1, a2, a3⟩, ⟨?_, ?_, ?_⟩, (fun p hp => nomatch hp), .nil, rfl, PairsAre.nil, ?_⟩, loopM_fr F h1 h2 h3 h4 h5 h6 h7, fun p hp => N p ?_⟩
  · intro p hp; rw [List.mem_singleton.mp hp]; exact b1
  · intro p hp; rw [List.mem_singleton.mp hp]; exact b2
  · intro p hp; rw [List.mem_singleton.mp hp]; exact b3
  · exact PairsAre.snoc (vs := []) (ps := []) (a := 9) (b := 0) PairsAre.nil (.head _)
  · simp only [List.mem_cons] at hp ⊢
    rcases hp with h | h | h | h | h <;> first | (simp only [h, true_or, or_true]; done) | exact absurd h List.not_mem_nil
section
variable {w : World} {A₀ : Around} {s : Shared} {base h₀ : Heap} {L fa la : Addr} {cd : Value} {mg mb : Str → Option Value} {loose : List Str} {mean : ExcName → Option Value}
  {r : Str → Option Value} {Q : Flow → Shared → Prop} {vs : List Value} {ns : List Int}
theorem st05 (hLi : h₀.IsList la vs.toArray) (hI : IntsAre vs ns) (h63 : ns.length ≤ 63)
  (F : Fr h₀ L s.heap (fun y => if y = Str.ofString "script" then some (.ref la) else r y)) (X₀ : (Mine.K w.params).In h₀) (T : Top Mine.view loose mean mg mb h₀) (N : News h₀ L s.heap [])
  (h : ∀ h' tk m' nx wy tw, 0 ≤ wy → wy ≤ 3 → (wy ≠ 0 → 0 < ns.length) → BigS (.ref la) (.int wy tw) [] [] m' nx → Fr h₀ L h' m' → News h₀ L h' nx → Q .next { s with heap := h', toks := tk }) :
  wpAny (model PySem.Challenge.rw_lc0007_01.row.prog w) (lawA L fa cd) (execs [lawSt 0, lawSt 1, lawSt 2, lawSt 3, lawSt 4, lawSt 5] (lenv L fa cd)) Q (fun _ _ => False) s := by
  w_top off
  k_with_none
  have X₁ := X₀; revert X₁; k_fill; intro X₁; clear X₁
  unfold lawA lenv
  conv in (lawSt 0) => whnf
  conv in (lawSt 1) => whnf
  conv in (lawSt 2) => whnf
  conv in (lawSt 3) => whnf
  conv in (lawSt 4) => whnf
  conv in (lawSt 5) => whnf
  repeat conv in lawScope => whnf
  have hvl := hI.length
  by_cases hns : 0 < ns.length
  · k_steps
    rename Fr h₀ L _ _ => FZ
    rename News h₀ L _ _ => NZ
    have g1 := Int.fmod_nonneg_of_pos ((ns.getD 0 0).fdiv 3) (b := 4) (by decide)
    have g2 := Int.fmod_lt_of_pos ((ns.getD 0 0).fdiv 3) (b := 4) (by decide)
    obtain ⟨m', nx, S, F', N'⟩ := init_big NZ (by omega) (by omega) (by omega) (by omega) (by omega) (by omega) FZ rfl rfl rfl rfl rfl rfl rfl
    exact h _ _ _ _ _ _ g1 (by omega) (fun _ => hns) S F' N'
  · k_steps
    rename Fr h₀ L _ _ => FZ
    rename News h₀ L _ _ => NZ
    obtain ⟨m', nx, S, F', N'⟩ := init_big NZ (by omega) (by omega) (by omega) (by omega) (by omega) (by omega) FZ rfl rfl rfl rfl rfl rfl rfl
    exact h _ _ _ _ _ _ (by decide) (by decide) (fun q => absurd rfl q) S F' N'
end
end
end Mine
end
section
open PySem PySem.W PyProof.Rows PySem.Calls PyProof.V PySem.Spec
set_option maxRecDepth 100000
set_option maxHeartbeats 8000000
set_option linter.unusedVariables false
namespace Mine
section
variable {w : World} {A₀ : Around} {s : Shared} {base h₀ : Heap} {L fa la : Addr} {cd : Value} {m mg mb : Str → Option Value} {loose : List Str} {mean : ExcName → Option Value}
  {Q : Flow → Shared → Prop} {E : Value → Shared → Prop} {news : List (Addr × Obj)}
theorem st12 (B : Below A₀ base [] h₀) (F : Fr h₀ L s.heap m) (X₀ : (Mine.K w.params).In h₀) (N : News h₀ L s.heap news) (T : Top Mine.view loose mean mg mb h₀)
  (XB : (Mine.K w.params).In base) (TB : Top Mine.view loose mean mg mb base)
  (h : ∀ h' tk, Fr h₀ L h' m → News h₀ L h' news → Q .next { s with heap := h', toks := tk, gens := s.gens.push .finished }) :
  wpC (model PySem.Challenge.rw_lc0007_01.row.prog w) (lawA L fa cd) (exec (lawSt 12) (lenv L fa cd)) Q E s := by
  w_top off
  k_with_none
  have X₁ := X₀; revert X₁; k_fill; intro X₁; clear X₁
  unfold lawA lenv
  conv in (lawSt 12) => whnf
  repeat conv in lawScope => whnf
  refine c_If (c_Compare1 (c_Call_Name1 X₀ ?_ (by rfl)) (by with_unfolding_all rfl))
  k_steps
  rename Fr h₀ L _ _ => FZ
  rename News h₀ L _ _ => NZ
  refine wpC_call (lzw_c B FZ X₀ NZ T XB TB rfl (by decide) (by decide) run_fixed (by decide) (by rw [octets_fixed]; decide) ?_)
  intro h1 tk1 t1 F1 N1
  rw [octets_fixed]
  clear FZ NZ
  refine wpC_of ?_
  k_steps
  refine wpC_of ?_
  k_steps
  refine wpC_of ?_
  k_steps
  exact wpC_of (wpAny_execs_nil (h _ _ F1 N1))
theorem st13 {sc way data ends due : Value} {r : Str → Option Value} {b : Array UInt8} {tb : Tok} {outs : List (Array UInt8)} (B : Below A₀ base [] h₀) (F : Fr h₀ L s.heap (tailM sc way data ends (.bytes b tb) due r)) (X₀ : (Mine.K w.params).In h₀) (N : News h₀ L s.heap news) (T : Top Mine.view loose mean mg mb h₀)
  (XB : (Mine.K w.params).In base) (TB : Top Mine.view loose mean mg mb base)
  (hz : b.size ≤ 16777216) (hrun : Run b ⟨0, false, [], #[], 9⟩ outs) (hlen : outs.length ≤ sizeLine) (htot : (outs.foldl (· ++ ·) #[]).size ≤ 16777216)
  (h : ∀ h' tk t', Fr h₀ L h' (fun y => if y = Str.ofString "got" then some (.bytes (outs.foldl (· ++ ·) #[]) t') else tailM sc way data ends (.bytes b tb) due r y) → News h₀ L h' news → Q .next { s with heap := h', toks := tk, gens := s.gens.push .finished }) :
  wpC (model PySem.Challenge.rw_lc0007_01.row.prog w) (lawA L fa cd) (exec (lawSt 13) (lenv L fa cd)) Q E s := by
  w_top off
  k_with_none
  have X₁ := X₀; revert X₁; k_fill; intro X₁; clear X₁
  unfold lawA lenv
  conv in (lawSt 13) => whnf
  repeat conv in lawScope => whnf
  refine c_Assign_Name (c_Call_Name1 X₀ ?_ (by rfl)) (by rfl)
  k_steps
  rename Fr h₀ L _ _ => FZ
  rename News h₀ L _ _ => NZ
  refine wpC_call (lzw_c B FZ X₀ NZ T XB TB rfl (by decide) hz hrun hlen htot ?_)
  intro h1 tk1 t1 F1 N1
  clear FZ NZ
  refine wpC_of ?_
  k_steps
  rename Fr h₀ L _ _ => FZ
  rename News h₀ L _ _ => NZ
  exact h _ _ _ FZ NZ
theorem back_bytes (D : List UInt8) (n : Nat) : (List.take n (D.map fun c => ((c.toNat : Nat) : Int))).map (fun n => n.toNat.toUInt8) = D.take n := by
  rw [← List.map_take, List.map_map]
  have : ((fun n : Int => n.toNat.toUInt8) ∘ fun c : UInt8 => ((c.toNat : Nat) : Int)) = id := by
    funext c
    show (((c.toNat : Nat) : Int).toNat).toUInt8 = c
    rw [Int.toNat_natCast]
    exact UInt8.ofNat_toNat
  rw [this, List.map_id]
theorem bytes_in (D : List UInt8) (n : Nat) : ∀ x ∈ List.take n (D.map fun c => ((c.toNat : Nat) : Int)), 0 ≤ x ∧ x < 256 := fun x hx => by
  obtain ⟨c, _, rfl⟩ := List.mem_map.mp (List.mem_of_mem_take hx)
  have := c.toNat_lt
  omega
theorem st14 {sc way ends octets : Value} {r : Str → Option Value} {Dd : Addr} {dvs : List Value} {nd d : Nat} {g : Array UInt8} {D : List UInt8} {tg td : Tok} (F : Fr h₀ L s.heap (fun y => if y = Str.ofString "got" then some (.bytes g tg) else tailM sc way (.ref Dd) ends octets (.int (d : Nat) td) r y)) (X₀ : (Mine.K w.params).In h₀) (N : News h₀ L s.heap ((Dd, listOf dvs.toArray nd) :: news)) (T : Top Mine.view loose mean mg mb h₀)
  (hI : IntsAre dvs (D.map fun c => ((c.toNat : Nat) : Int))) (hD : D.length ≤ 90000) (hd : d ≤ D.length) (hg : g.toList = D.take d)
  (h : ∀ h' tk, Fr h₀ L h' (fun y => if y = Str.ofString "got" then some (.bytes g tg) else tailM sc way (.ref Dd) ends octets (.int (d : Nat) td) r y) → Q (.ret (.bool true)) { s with heap := h', toks := tk }) :
  wpAny (model PySem.Challenge.rw_lc0007_01.row.prog w) (lawA L fa cd) (exec (lawSt 14) (lenv L fa cd)) Q E s := by
  w_top off
  k_with_none
  have X₁ := X₀; revert X₁; k_fill; intro X₁; clear X₁
  unfold lawA lenv
  conv in (lawSt 14) => whnf
  repeat conv in lawScope => whnf
  k_steps
  rename Fr h₀ L _ _ => FZ
  rename News h₀ L _ _ => NZ
  rename IntsAre _ (List.take _ _) => hI'
  rw [Int.toNat_natCast] at hI'
  refine bytes_K FZ NZ (News.isList NZ (.head _)) hI' (bytes_in D d) (by rw [hI'.length, List.length_take, List.length_map, sizeLine_eq]; omega) rfl ?_
  intro h2 t2 k2 F2 N2 _
  rw [back_bytes, ← hg, Array.toArray_toList]
  clear FZ NZ
  k_steps
  rw [show (g.toList == g.toList) = true from beq_self_eq_true _]
  exact h _ _ F2
end
end Mine
end
section
open PySem PySem.W PyProof.Rows PySem.Calls PyProof.V PySem.Spec
set_option maxRecDepth 100000
set_option maxHeartbeats 8000000
set_option linter.unusedVariables false
namespace Mine
/-- what the decoder tells of the octets: the first d of the data -/
noncomputable def Tells (b : Array UInt8) (D : List UInt8) (d : Nat) : Prop := ∃ outs, Run b ⟨0, false, [], #[], 9⟩ outs ∧ outs.length ≤ 300 ∧ d ≤ D.length ∧ flat outs = D.take d
theorem toldOf_append : ∀ (ops qs : List Op) (Pc : List (Array UInt8)), toldOf Pc (ops ++ qs) = toldOf Pc ops ++ toldOf (pcAfter Pc ops) qs
  | [], _, _ => rfl
  | o :: r, qs, Pc => by
    show told Pc o :: toldOf (nextPc Pc o) (r ++ qs) = told Pc o :: (toldOf (nextPc Pc o) r ++ toldOf (pcAfter (nextPc Pc o) r) qs)
    rw [toldOf_append r]
theorem flat_nil_cons (l : List (Array UInt8)) : flat (#[] :: l) = flat l := by rw [flat_cons]; rfl
theorem outs_flat (outs : List (Array UInt8)) : (outs.foldl (· ++ ·) (#[] : Array UInt8)).toList = flat outs := by rw [foldl_app]; rfl
section
variable {ops : List Op} {b : Array UInt8} {pad : Nat}
theorem val_snoc (ops : List Op) (c : Nat) : valOfCodes ((256, 9) :: codesOf [] ops ++ [(c, nbOf (pcAfter [] ops))]) = valOfCodes ((256, 9) :: codesOf [] ops) * 2 ^ nbOf (pcAfter [] ops) + c := valOfCodes_snoc _ _
theorem len_snoc (ops : List Op) (c : Nat) : lenOfCodes ((256, 9) :: codesOf [] ops ++ [(c, nbOf (pcAfter [] ops))]) = 9 + lenOfCodes (codesOf [] ops) + nbOf (pcAfter [] ops) := by
  rw [lenOfCodes_snoc, len_cons9]
theorem tells_bad (ok : okAll [] ops) (hl : ops.length ≤ 263) (hne : pcAfter [] ops ≠ []) {bad rr : Nat} (h1 : 258 + (pcAfter [] ops).length ≤ bad) (h2 : bad < 2 ^ nbOf (pcAfter [] ops)) (h3 : rr < 2 ^ 23) (hp : pad < 8)
  (hz : 8 * b.size = 9 + lenOfCodes (codesOf [] ops) + (nbOf (pcAfter [] ops) + 23) + pad) (hb : bigOf b.toList = ((valOfCodes ((256, 9) :: codesOf [] ops) * 2 ^ nbOf (pcAfter [] ops) + bad) * 2 ^ 23 + rr) * 2 ^ pad) :
  Tells b (flat (toldOf [] ops)) (flat (toldOf [] ops)).length := by
  refine ⟨_, run_bad (c := bad) ok (by omega) hne (by omega) (bears_enc (e := 23 + pad) (r := rr * 2 ^ pad) ok (by omega) ?_ ?_ ?_ ?_), ?_, Nat.le_refl _, ?_⟩
  · intro c hc; rw [List.mem_singleton.mp hc]; exact h2
  · rw [len_snoc]; omega
  · rw [Nat.pow_add]; exact Nat.mul_lt_mul_of_pos_right h3 (Nat.two_pow_pos pad)
  · rw [hb, val_snoc, Nat.add_mul (_ * 2 ^ 23), Nat.pow_add, Nat.mul_assoc]
  · rw [List.length_cons, toldOf_length]; omega
  · rw [flat_nil_cons, List.take_length]
theorem bears_stop (ok : okAll [] ops) (hl : ops.length ≤ 263) (hz : 8 * b.size = 9 + lenOfCodes (codesOf [] ops) + nbOf (pcAfter [] ops) + pad) (hb : bigOf b.toList = (valOfCodes ((256, 9) :: codesOf [] ops) * 2 ^ nbOf (pcAfter [] ops) + 257) * 2 ^ pad) :
  Bears b 0 ((256, 9) :: codesOf [] ops ++ [(257, nbOf (pcAfter [] ops))]) := by
  refine bears_enc (e := pad) (r := 0) ok (by omega) ?_ ?_ (Nat.two_pow_pos pad) ?_
  · intro c hc; rw [List.mem_singleton.mp hc]
    show 257 < 2 ^ nbOf (pcAfter [] ops)
    have := nbOf_ge (pcAfter [] ops)
    exact Nat.lt_of_lt_of_le (show 257 < 2 ^ 9 by decide) (Nat.pow_le_pow_right (by decide) this)
  · rw [len_snoc]; omega
  · rw [hb, val_snoc]; exact (Nat.add_zero _).symm
theorem tells_stop (ok : okAll [] ops) (hl : ops.length ≤ 263) (hp : pad < 8) (hz : 8 * b.size = 9 + lenOfCodes (codesOf [] ops) + nbOf (pcAfter [] ops) + pad) (hb : bigOf b.toList = (valOfCodes ((256, 9) :: codesOf [] ops) * 2 ^ nbOf (pcAfter [] ops) + 257) * 2 ^ pad) :
  Tells b (flat (toldOf [] ops)) (flat (toldOf [] ops)).length := by
  have hn := nbOf_ge (pcAfter [] ops)
  refine ⟨_, run_stop ok (by omega) (bears_stop ok hl hz hb) (by omega), ?_, Nat.le_refl _, ?_⟩
  · rw [List.length_cons, List.length_append, toldOf_length, List.length_singleton]; omega
  · rw [flat_nil_cons, flat_append, List.take_length]
    show _ ++ [] = _
    rw [List.append_nil]
theorem tells_eof (ok : okAll [] ops) (hl : ops.length ≤ 263) (hp : pad < 8) (hz : 8 * b.size = 9 + lenOfCodes (codesOf [] ops) + pad) (hb : bigOf b.toList = valOfCodes ((256, 9) :: codesOf [] ops) * 2 ^ pad) :
  Tells b (flat (toldOf [] ops)) (flat (toldOf [] ops)).length := by
  have hn := nbOf_ge (pcAfter [] ops)
  have hB : Bears b 0 ((256, 9) :: codesOf [] ops ++ []) := bears_enc (e := pad) (r := 0) ok (by omega) (fun c hc => nomatch hc) (by rw [List.append_nil, len_cons9]; omega) (Nat.two_pow_pos pad) (by rw [hb, List.append_nil]; exact (Nat.add_zero _).symm)
  rw [List.append_nil] at hB
  refine ⟨_, run_eof ok (by omega) hB (by omega), ?_, Nat.le_refl _, ?_⟩
  · rw [List.length_cons, toldOf_length]; omega
  · rw [flat_nil_cons, List.take_length]
theorem tells_cut (ok : okAll [] ops) (hl : ops.length ≤ 263) (hp : pad < 8) (hz : 8 * b.size = 9 + lenOfCodes (codesOf [] ops) + nbOf (pcAfter [] ops) + pad) (hb : bigOf b.toList = (valOfCodes ((256, 9) :: codesOf [] ops) * 2 ^ nbOf (pcAfter [] ops) + 257) * 2 ^ pad)
  {k : Nat} (hk : k ≤ b.size) : Tells (b.toList.take k).toArray (flat (toldOf [] ops)) (dueOf (8 * k) ((9, 0) :: endsFrom [] 9 0 ops) 0) := by
  obtain ⟨outs, r, h1, h2, pre, post, e1, e2⟩ := run_way3 (l := b.toList) (k := k) ok (by omega) (by rw [Array.length_toList]; exact hk) (bears_stop ok hl hz hb) (by rw [Array.length_toList]; omega)
  have e3 : flat (toldOf [] ops) = flat outs ++ flat (toldOf (pcAfter [] pre) post) := by rw [e1, toldOf_append, flat_append, e2]
  refine ⟨outs, r, by omega, ?_, ?_⟩
  · rw [← h2, e3, List.length_append]; omega
  · rw [← h2, e3, List.take_left]
end
end Mine
end
section
open PySem PySem.W PyProof.Rows PySem.Calls PyProof.V PySem.Spec
set_option maxRecDepth 100000
set_option maxHeartbeats 8000000
set_option linter.unusedVariables false
namespace Mine
section
variable {M : Model} {A : Around} {E : Value → Shared → Prop} {s : Shared} {env : Env}
theorem c_execs_app {a b : List Stmt} {Q : Flow → Shared → Prop} (h : wpC M A (execs a env) (fun f s' => match f with | .next => wpC M A (execs b env) Q E s' | f => Q f s') E s) :
    wpC M A (execs (a ++ b) env) Q E s := fun Γ p hΓ h1 h2 => by
  have key : ∀ (a : List Stmt) (p : Pos) (s : Shared), Sem.wp M Γ (execs a env) (fun f p' s' => match f with | .next => Sem.wp M Γ (execs b env) (fun f _ s' => Q f s') (fun e _ s' => E e s') p' s' | f => Q f s') (fun e _ s' => E e s') p s →
      Sem.wp M Γ (execs (a ++ b) env) (fun f _ s' => Q f s') (fun e _ s' => E e s') p s := by
    intro a
    induction a with
    | nil => intro p s h; exact h
    | cons st r ih =>
      intro p s h
      rw [execs_cons, Sem.wp_bind'] at h
      rw [List.cons_append, execs_cons, Sem.wp_bind']
      refine Sem.wp_mono M Γ _ (fun f p' s' h' => ?_) (fun _ _ _ h' => h') _ _ h
      cases f
      case next => exact ih p' s' h'
      all_goals exact h'
  refine key a p s (Sem.wp_mono M Γ _ (fun f p' s' h' => ?_) (fun _ _ _ h' => h') _ _ (h Γ p hΓ h1 h2))
  cases f
  case next => exact h' Γ p' hΓ h1 h2
  all_goals exact h'
theorem fr_script {h₀ h : Heap} {L : Addr} {m : Str → Option Value} {v : Value} (F : Fr h₀ L h m) (hm : m (Str.ofString "script") = some v) : Fr h₀ L h (fun y => if y = Str.ofString "script" then some v else m y) := by
  have e : (fun y => if y = Str.ofString "script" then some v else m y) = m := by
    funext y
    by_cases h : y = Str.ofString "script"
    · rw [if_pos h, h, hm]
    · rw [if_neg h]
  rw [e]
  exact F
end
section
variable {w : World} {A₀ : Around} {s : Shared} {h₀ : Heap} {L fa la : Addr} {cd : Value} {m mg mb : Str → Option Value} {loose : List Str} {mean : ExcName → Option Value}
  {Q : Flow → Shared → Prop} {E : Value → Shared → Prop} {vs : List Value} {ns : List Int}
noncomputable abbrev tailSts : List Stmt := [lawSt 9, lawSt 10] ++ (lawSt 11 :: lawSt 12 :: lawSt 13 :: [lawSt 14])
theorem law_rest (B : Below A₀ h₀ [] h₀) (X₀ : (Mine.K w.params).In h₀) (T : Top Mine.view loose mean mg mb h₀) (hLi : h₀.IsList la vs.toArray) (hI : IntsAre vs ns)
  {X Z nd np ne : Nat} {wy : Int} {tw tb tz : Tok} {Dd Dp De : Addr} {dvs pvs evs : List Value} {r : Str → Option Value} {tl : List (Addr × Obj)} {D : List UInt8} {pairs : List (Nat × Nat)}
  (F : Fr h₀ L s.heap (loopM (.ref la) (.int wy tw) (.ref Dd) (.ref Dp) (.int (X : Nat) tb) (.int (Z : Nat) tz) (.ref De) r))
  (N : News h₀ L s.heap ((Dp, listOf pvs.toArray np) :: (Dd, listOf dvs.toArray nd) :: (De, listOf evs.toArray ne) :: tl))
  (hX : X < 2 ^ Z) (hZ : Z ≤ 4000) (hIs : IntsAre dvs (toI D)) (hD : D.length ≤ 90000) (hE : PairsAre tl evs pairs) (hns : wy = 3 → 0 < ns.length)
  (hn : wy ≠ 3 → ∀ (b : Array UInt8) pad, pad < 8 → 8 * b.size = Z + pad → bigOf b.toList = X * 2 ^ pad → Tells b D D.length)
  (h3 : wy = 3 → ∀ (b : Array UInt8) pad k, pad < 8 → 8 * b.size = Z + pad → bigOf b.toList = X * 2 ^ pad → k ≤ b.size → Tells (b.toList.take k).toArray D (dueOf (8 * k) pairs 0))
  (h : ∀ h' tk m', Fr h₀ L h' m' → Q (.ret (.bool true)) { s with heap := h', toks := tk, gens := (s.gens.push .finished).push .finished }) :
  wpC (model PySem.Challenge.rw_lc0007_01.row.prog w) (lawA L fa cd) (execs tailSts (lenv L fa cd)) Q E s := by
  have hdl : dvs.length = D.length := by rw [hIs.length, toI_length]
  have fin : ∀ {h1 : Heap} {tk1 : Nat} {b : Array UInt8} {d : Nat} {t1 t2 : Tok} {r' : Str → Option Value}, b.size ≤ 100000 → Tells b D d → Fr h₀ L h1 (tailM (.ref la) (.int wy tw) (.ref Dd) (.ref De) (.bytes b t1) (.int (d : Nat) t2) r') →
      News h₀ L h1 ((Dp, listOf pvs.toArray np) :: (Dd, listOf dvs.toArray nd) :: (De, listOf evs.toArray ne) :: tl) →
      wpC (model PySem.Challenge.rw_lc0007_01.row.prog w) (lawA L fa cd) (execs (lawSt 12 :: lawSt 13 :: [lawSt 14]) (lenv L fa cd)) Q E { s with heap := h1, toks := tk1 } := by
    intro h1 tk1 b d t1 t2 r' hz ht F1 N1
    obtain ⟨outs, hrun, ho, hd, hfl⟩ := ht
    have hg : (outs.foldl (· ++ ·) (#[] : Array UInt8)).toList = D.take d := by rw [outs_flat, hfl]
    refine c_execs_cons (st12 B F1 X₀ N1 T X₀ T ?_)
    intro h2 tk2 F2 N2
    refine c_execs_cons (st13 B F2 X₀ N2 T X₀ T (by omega) hrun (by rw [sizeLine_eq]; omega) ?_ ?_)
    · rw [← Array.length_toList, hg, List.length_take]; omega
    intro h3 tk3 t3 F3 N3
    refine c_execs_cons (wpC_of (st14 (nd := nd) (news := (De, listOf evs.toArray ne) :: tl) F3 X₀ (fun p hp => N3 p ?_) T hIs hD hd hg ?_))
    · exact .tail _ hp
    · intro h4 tk4 F4
      exact h _ _ _ F4
  refine c_execs_app (wpC_of (wpAny_noRaise (st9 hX hZ (by omega) F X₀ T N (.tail _ (.head _)) ?_)))
  intro h1 tk1 r1 b t1 t2 pad hp hz hb F1 N1
  by_cases hw : wy = 3
  · subst hw
    refine c_execs_cons (wpC_of (wpAny_noRaise (st11 (ne := ne) (tl := (Dp, listOf pvs.toArray np) :: (Dd, listOf dvs.toArray nd) :: tl) hLi hI (hns rfl) (by omega) (hE.mono fun p hp => .tail _ (.tail _ hp)) F1 X₀ T (fun p hp => N1 p ?_) ?_)))
    · simp only [List.mem_cons] at hp ⊢
      rcases hp with h | h | h | h <;> simp only [h, true_or, or_true]
    · intro h2 tk2 r2 k b' t3 t4 hk hb' F2 N2
      subst hb'
      refine fin ?_ (h3 rfl b pad k hp hz hb hk) F2 (fun p hp => N2 p ?_)
      · rw [List.size_toArray, List.length_take, Array.length_toList]; omega
      · simp only [List.mem_cons] at hp ⊢
        rcases hp with h | h | h | h <;> simp only [h, true_or, or_true]
  · refine c_execs_cons (wpC_of (wpAny_noRaise (st11n hw F1 X₀ T N1 ?_)))
    intro h2 tk2 F2 N2
    rw [hdl] at F2
    exact fin (by omega) (hn hw b pad hp hz hb) F2 N2
theorem law_c (B : Below A₀ h₀ [] h₀) (X₀ : (Mine.K w.params).In h₀) (T : Top Mine.view loose mean mg mb h₀) (hLi : h₀.IsList la vs.toArray) (hI : IntsAre vs ns) (h63 : ns.length ≤ 63)
  (F : Fr h₀ L s.heap m) (hm : m (Str.ofString "script") = some (.ref la)) (N : News h₀ L s.heap [])
  (h : ∀ h' tk m', Fr h₀ L h' m' → Q (.ret (.bool true)) { s with heap := h', toks := tk, gens := (s.gens.push .finished).push .finished }) :
  wpC (model PySem.Challenge.rw_lc0007_01.row.prog w) (lawA L fa cd) (execs lawBody (lenv L fa cd)) Q E s := by
  have hb : lawBody = [lawSt 0, lawSt 1, lawSt 2, lawSt 3, lawSt 4, lawSt 5] ++ (lawSt 6 :: lawSt 7 :: lawSt 8 :: tailSts) := rfl
  rw [hb]
  refine c_execs_app (wpC_of (wpAny_noRaise (st05 hLi hI h63 (fr_script F hm) X₀ T N ?_)))
  intro h1 tk1 m1 nx1 wy tw w0 w3 wns S1 F1 N1
  refine c_execs_cons (wpC_of (wpAny_noRaise (big_for B F1 X₀ T N1 hLi hI h63 S1 ?_)))
  intro h2 tk2 m2 nx2 ws hws S2 F2 N2
  obtain ⟨Dd, Dp, De, dvs, pvs, evs, nd, np, ne, tb, tz, r, tl, A, rfl, rfl, ⟨a1, a2, a3⟩, ⟨t1, t2, t3⟩, _, hIs, hA, hP, hE⟩ := S2
  have ok := okAll_ops ws
  have hl : (opsOf [] ws).length ≤ 263 := by rw [opsOf_length]; exact hws
  have htl := told_lim hws
  generalize opsOf [] ws = ops at ok hl htl F2 hIs hA hP hE
  have hPl : (pcAfter [] ops).length ≤ 263 := by have := pcAfter_length ops []; simp only [List.length_nil] at this; omega
  have hpl : pvs.length = (pcAfter [] ops).length := by rw [hP.1, piecePairs_length]
  have hlc := len_codes_le ops []
  have hbl := bits_lt ok (by omega)
  rw [hA] at hIs
  refine c_execs_cons (wpC_of (wpAny_noRaise (st7 F2 X₀ T N2 (.tail _ (.head _)) (by omega) ?_)))
  intro h3 tk3 td r3 wd wish code hwd F3 N3
  have hwd' : wd = ((nbOf (pcAfter [] ops) : Nat) : Int) := by
    rw [hwd, hpl]
    unfold nbOf
    split <;> rfl
  subst hwd'
  have N3' : News h₀ L h3 ((Dp, listOf pvs.toArray np) :: (Dd, listOf dvs.toArray nd) :: (De, listOf evs.toArray ne) :: tl) := fun p hp => N3 p (by
    simp only [List.mem_cons] at hp ⊢
    rcases hp with h | h | h | h <;> simp only [h, true_or, or_true])
  have hnb : nbOf (pcAfter [] ops) ≤ 10 := by unfold nbOf; split <;> omega
  have hnb9 := nbOf_ge (pcAfter [] ops)
  have hpow : 258 + (pcAfter [] ops).length < 2 ^ nbOf (pcAfter [] ops) := by
    unfold nbOf
    split
    · show _ < 512; omega
    · show _ < 1024; omega
  refine c_execs_cons (wpC_of (wpAny_noRaise ?_))
  by_cases c2 : wy = 2 ∧ ¬ pvs = []
  · obtain ⟨rfl, hne⟩ := c2
    have hne' : pcAfter [] ops ≠ [] := fun e => hne (List.eq_nil_of_length_eq_zero (by rw [hpl, e]; rfl))
    refine st8a (K := 2 ^ 23) (P := 2 ^ nbOf (pcAfter [] ops)) rfl rfl hLi hI (wns (by decide)) rfl hnb hbl (by omega) (by omega) (by omega) hne F3 X₀ T N3' ?_
    intro h4 tk4 tb' tz' r4 bad rr g1 g2 g3 F4 N4
    refine law_rest B X₀ T hLi hI F4 N4 ?_ (by omega) hIs (by omega) hE (fun q => absurd q (by decide)) ?_ (fun q => absurd q (by decide)) h
    · have e1 := shl_two (wd := nbOf (pcAfter [] ops)) rfl hbl g2
      have e2 := shl_two (wd := 23) rfl e1 g3
      rw [Nat.add_assoc] at e2
      exact e2
    · intro _ b pad hp hz hb
      exact tells_bad ok hl hne' (by omega) g2 g3 hp (by omega) hb
  by_cases c1 : wy = 1
  · subst c1
    refine st8c F3 X₀ T N3' ?_
    intro h4 tk4 r4 F4 N4
    refine law_rest B X₀ T hLi hI F4 N4 hbl (by omega) hIs (by omega) hE (fun q => absurd q (by decide)) ?_ (fun q => absurd q (by decide)) h
    intro _ b pad hp hz hb
    exact tells_eof ok hl hp (by omega) hb
  · have c3 : wy ≠ 2 ∨ pvs = [] := by
      by_cases q : wy = 2
      · exact .inr (Classical.byContradiction fun z => c2 ⟨q, z⟩)
      · exact .inl q
    refine st8b (P := 2 ^ nbOf (pcAfter [] ops)) c1 c3 rfl hnb hbl (by omega) (by omega) F3 X₀ T N3' ?_
    intro h4 tk4 tb' tz' r4 F4 N4
    refine law_rest B X₀ T hLi hI F4 N4 (shl_two rfl hbl (by omega)) (by omega) hIs (by omega) hE (fun q => wns (by omega)) ?_ ?_ h
    · intro _ b pad hp hz hb
      exact tells_stop ok hl hp (by omega) hb
    · intro _ b pad k hp hz hb hk
      exact tells_cut ok hl hp (by omega) hb hk
end
end Mine
end
section
open PySem PySem.W PyProof.Rows PySem.Calls PyProof.V PySem.Spec
set_option maxRecDepth 100000
set_option maxHeartbeats 8000000
set_option linter.unusedVariables false
namespace Mine

theorem law_walk.tw7821361960523482326 : True := trivial
theorem law_walk.tw17535353619939571622 : True := trivial
theorem law_walk.tw13597390773632813406 : True := trivial
theorem law_walk.tw5593611450203143609 : True := trivial
theorem law_walk.tw15702739590981716756 : True := trivial
theorem law_walk.tw308508697194046123 : True := trivial
theorem law_walk.tw1151342034297073333 : True := trivial
theorem law_walk.tw1349618128346378168 : True := trivial
theorem law_walk.tw10220775536658292262 : True := trivial
theorem law_walk.tw13139780446448239969 : True := trivial
theorem law_walk.tw18083511110935134784 : True := trivial
theorem law_walk.tw5973134046842063509 : True := trivial
theorem law_walk.tw18270018466963762241 : True := trivial
theorem law_walk.tw5678853151643781460 : True := trivial
theorem law_walk.tw3482016092978867209 : True := trivial
theorem law_walk.tw13259404155784925174 : True := trivial
theorem law_walk.tw2682238381066403963 : True := trivial
theorem law_walk.tw1488954502652529894 : True := trivial
theorem law_walk.tw7027876363695117843 : True := trivial
theorem law_walk.tw17961447560607899594 : True := trivial
theorem law_walk.tw1651486830227260749 : True := trivial
theorem law_walk.tw12282557426373430831 : True := trivial
theorem law_walk.tw14145149326525180255 : True := trivial
theorem law_walk.tw15389374490945418751 : True := trivial
theorem law_walk.tw5242600149850454015 : True := trivial
theorem law_walk.tw11368423680655637741 : True := trivial
theorem law_walk.tw5191484436940451148 : True := trivial
theorem law_walk.tw15339740527146667515 : True := trivial
theorem law_walk.tw8574285645856426304 : True := trivial
theorem law_walk.tw6315668286158482565 : True := trivial
theorem law_walk.tw8393762817145251909 : True := trivial
theorem law_walk.tw14109506641052798933 : True := trivial
theorem law_walk.tw2732640648775456016 : True := trivial
theorem law_walk.tw351393988171304625 : True := trivial
theorem law_walk.tw16424232005314788345 : True := trivial
theorem law_walk.tw5435608698400548769 : True := trivial
theorem law_walk.tw1973044255902209449 : True := trivial
theorem law_walk.tw9263354920284084348 : True := trivial
theorem law_walk.tw11039640424939347710 : True := trivial
theorem law_walk.tw2552621430300128815 : True := trivial
theorem law_walk.tw12627990318893349124 : True := trivial
theorem law_walk.tw6670412275646293026 : True := trivial
theorem law_walk.tw11493463533543263409 : True := trivial
theorem law_walk.tw5779170204127675202 : True := trivial
theorem law_walk.tw6400172762246600512 : True := trivial
theorem law_walk.tw17038179071774957488 : True := trivial
theorem law_walk.tw13657194089009009776 : True := trivial
theorem law_walk.tw7821901261668424072 : True := trivial
theorem law_walk.tw16896177677555761227 : True := trivial
theorem law_walk.tw5501580622627630012 : True := trivial
theorem law_walk.tw13649267991615929910 : True := trivial
theorem law_walk.tw2309962138645288287 : True := trivial
theorem law_walk.tw7206775732452414760 : True := trivial
theorem law_walk.tw14179282942653684752 : True := trivial
theorem law_walk.tw13445570411038573809 : True := trivial
theorem law_walk.tw12494027469739420667 : True := trivial
theorem law_walk.tw17151797450817616718 : True := trivial
theorem law_walk.tw9941243482245999162 : True := trivial
theorem law_walk.tw12516673585788165438 : True := trivial
theorem law_walk.tw14718037980259381598 : True := trivial
theorem law_walk.tw14226218327858897915 : True := trivial
theorem law_walk.tw16537627652793202913 : True := trivial
theorem law_walk.tw10041176132709441552 : True := trivial
theorem law_walk.tw9988921452368062052 : True := trivial
theorem law_walk.tw18105684149968559586 : True := trivial
theorem law_walk.tw12108898027212849372 : True := trivial
theorem law_walk.tw16314443678151020817 : True := trivial
theorem law_walk.tw17852989547670204506 : True := trivial
theorem law_walk.tw12084176223279922004 : True := trivial
theorem law_walk.tw3503918262955619448 : True := trivial
theorem law_walk.tw6308444445224335033 : True := trivial
theorem law_walk.tw3775647956435929515 : True := trivial
theorem law_walk.tw10474131758143821922 : True := trivial
theorem law_walk.tw2864468055481957919 : True := trivial
theorem law_walk.tw15853644938772340381 : True := trivial
theorem law_walk.tw15112710821378073208 : True := trivial
theorem law_walk.tw15384146404036036276 : True := trivial
theorem law_walk.tw5489435162092308715 : True := trivial
theorem law_walk.tw12018485655918912419 : True := trivial
theorem law_walk.tw2844636340060238233 : True := trivial
theorem law_walk.tw17732750274183480607 : True := trivial
theorem law_walk.tw12627331199131324555 : True := trivial
theorem law_walk.tw8310024278794797223 : True := trivial
theorem law_walk.tw14992015521955736798 : True := trivial
theorem law_walk.tw15267249515466992588 : True := trivial
theorem law_walk.tw6509880215270199464 : True := trivial
theorem law_walk.tw14470666120146282729 : True := trivial
theorem law_walk.tw4811644729583479980 : True := trivial
theorem law_walk.tw5711866699771652809 : True := trivial
theorem law_walk.tw8585720189463720551 : True := trivial
theorem law_walk.tw10113607793478928892 : True := trivial
theorem law_walk.tw14583912446361872688 : True := trivial
theorem law_walk.tw12709167099813424004 : True := trivial
theorem law_walk.tw9685728350578242051 : True := trivial
theorem law_walk.tw14505901053012614148 : True := trivial
theorem law_walk.tw8219332338532164347 : True := trivial
theorem law_walk.tw16448158653895429499 : True := trivial
theorem law_walk.tw3756160188692538100 : True := trivial
theorem law_walk.tw5763417355346935721 : True := trivial
theorem law_walk.tw7959148999937488964 : True := trivial
theorem law_walk.tw9033031517808640844 : True := trivial
theorem law_walk.tw6397753708004861016 : True := trivial
theorem law_walk.tw7611494997709275607 : True := trivial
theorem law_walk.tw408965671246964816 : True := trivial
theorem law_walk.tw7020244785088874145 : True := trivial
theorem law_walk.tw4663704274794788301 : True := trivial
theorem law_walk.tw15582506271344279308 : True := trivial
theorem law_walk.tw3982702148688559849 : True := trivial
theorem law_walk.tw3983549188734995766 : True := trivial
theorem law_walk.tw14479362093608570418 : True := trivial
theorem law_walk.tw1335533893682033959 : True := trivial
theorem law_walk.tw4657591597472639979 : True := trivial
theorem law_walk.tw10215520997254948893 : True := trivial
theorem law_walk.tw5921842507130175865 : True := trivial
theorem law_walk.tw3248996168741035358 : True := trivial
theorem law_walk.tw2100464597564373404 : True := trivial
theorem law_walk.tw15502360365264503172 : True := trivial
theorem law_walk.tw51458284805074808 : True := trivial
theorem law_walk.tw2684023103095633660 : True := trivial
theorem law_walk.tw5005366158714953936 : True := trivial
theorem law_walk.tw16544933085067678609 : True := trivial
theorem law_walk.tw9887087956243004368 : True := trivial
theorem law_walk.tw12422390962215917497 : True := trivial
theorem law_walk.tw13815495218294476984 : True := trivial
theorem law_walk.tw6666627721324501596 : True := trivial
theorem law_walk.tw9686592168280352714 : True := trivial
theorem law_walk.tw18381334365177256771 : True := trivial
theorem law_walk.tw11989730996276148868 : True := trivial
theorem law_walk.tw10705460426407829406 : True := trivial
theorem law_walk.tw9614167044172017575 : True := trivial
theorem law_walk.tw18130113807916897817 : True := trivial
theorem law_walk.tw8872340779992629047 : True := trivial
theorem law_walk.tw10644555465049499542 : True := trivial
theorem law_walk.tw13814768429321957464 : True := trivial
theorem law_walk.tw4511510459759861938 : True := trivial
theorem law_walk.tw6442823786168487660 : True := trivial
theorem law_walk.tw6630695436224603516 : True := trivial
theorem law_walk.tw10575778595181894031 : True := trivial
theorem law_walk.tw15595666778108350798 : True := trivial
theorem law_walk.tw4301747711573494155 : True := trivial
theorem law_walk.tw860345242450283677 : True := trivial
theorem law_walk.tw8344690267115854036 : True := trivial
theorem law_walk.tw731349112330427505 : True := trivial
theorem law_walk.tw6688615188964514643 : True := trivial
theorem law_walk.tw16820209964508743309 : True := trivial
theorem law_walk.tw11829368407122028963 : True := trivial
theorem law_walk.tw1962610487425886148 : True := trivial
theorem law_walk.tw11299856310893402128 : True := trivial
theorem law_walk.tw1731185993714314466 : True := trivial
theorem law_walk.tw744953451102037001 : True := trivial
theorem law_walk.tw11671209902977270676 : True := trivial
theorem law_walk.tw15326520172994677331 : True := trivial
theorem law_walk.tw10077540380710871921 : True := trivial
theorem law_walk.tw15086196340779781609 : True := trivial
theorem law_walk.tw13152884665874386697 : True := trivial
theorem law_walk.tw2191869880584793143 : True := trivial
theorem law_walk.tw6459219938106037753 : True := trivial
theorem law_walk.tw8888662257238717587 : True := trivial
theorem law_walk.tw15036561009911040737 : True := trivial
theorem law_walk.tw9275676947951765412 : True := trivial
theorem law_walk.tw5945251890368040592 : True := trivial
theorem law_walk.tw5634120898310669069 : True := trivial
theorem law_walk.tw16064559281960072857 : True := trivial
theorem law_walk.tw2173232976173397635 : True := trivial
theorem law_walk.tw1147532167682946966 : True := trivial
theorem law_walk.tw17516156735435868949 : True := trivial
theorem law_walk.tw2680021274054743414 : True := trivial
theorem law_walk.tw10873826724240334245 : True := trivial
theorem law_walk.tw16555205638712268653 : True := trivial
theorem law_walk.tw9774065109101459460 : True := trivial
theorem law_walk.tw1258322994186161773 : True := trivial
theorem law_walk.tw17213830025686893733 : True := trivial
theorem law_walk.tw14924230639997583100 : True := trivial
theorem law_walk.tw737688366541649114 : True := trivial
theorem law_walk.tw13596305874736225407 : True := trivial
theorem law_walk.tw9194339074055791240 : True := trivial
theorem law_walk.tw16582926828679165999 : True := trivial
theorem law_walk.tw3033935616987808958 : True := trivial
theorem law_walk.tw4257650200590958952 : True := trivial
theorem law_walk.tw16478864787684819889 : True := trivial
theorem law_walk.tw6834841005499751674 : True := trivial
theorem law_walk.tw180656612396530343 : True := trivial
theorem law_walk.tw2478304075291782570 : True := trivial
theorem law_walk.tw7422074668336832157 : True := trivial
theorem law_walk.tw14022887081486424919 : True := trivial
theorem law_walk.tw4929543586258360427 : True := trivial
theorem law_walk.tw16841754898825696440 : True := trivial
theorem law_walk.tw7217791114545145594 : True := trivial
theorem law_walk.tw17853104084820837124 : True := trivial
theorem law_walk.tw7197136515508825900 : True := trivial
theorem law_walk.tw9499157157656621582 : True := trivial
theorem law_walk.tw3906802688084185095 : True := trivial
theorem law_walk.tw7811896934067948116 : True := trivial
theorem law_walk.tw12066832245886349031 : True := trivial
theorem law_walk.tw13745158655786601302 : True := trivial
theorem law_walk.tw13768828845730147348 : True := trivial
theorem law_walk.tw15364690513992368193 : True := trivial
theorem law_walk.tw6330458398275291434 : True := trivial
theorem law_walk.tw114068836442368448 : True := trivial
theorem law_walk.tw2794590637635899929 : True := trivial
theorem law_walk.tw9669262220790407631 : True := trivial
theorem law_walk.tw2992045281244225938 : True := trivial
theorem law_walk.tw6493771711663227121 : True := trivial
theorem law_walk.tw1732066139410841943 : True := trivial
theorem law_walk.tw4280611388464062807 : True := trivial
theorem law_walk.tw6221563783624007708 : True := trivial
theorem law_walk.tw10443310488414782317 : True := trivial
theorem law_walk.tw4129049995964199885 : True := trivial
theorem law_walk.tw6582200662619814661 : True := trivial
theorem law_walk.tw10166819484318322918 : True := trivial
theorem law_walk.tw564151756313833224 : True := trivial
theorem law_walk.tw4292590273189197204 : True := trivial
theorem law_walk.tw11200257006477464219 : True := trivial
theorem law_walk.tw4370083229036569240 : True := trivial
theorem law_walk.tw8147751706641535803 : True := trivial
theorem law_walk.tw1420760975202630414 : True := trivial
theorem law_walk.tw16168555535236960391 : True := trivial
theorem law_walk.tw3212577764242795953 : True := trivial
theorem law_walk.tw14925120335623570509 : True := trivial
theorem law_walk.tw5634425953257987799 : True := trivial
theorem law_walk.tw11751063905694892605 : True := trivial
theorem law_walk.tw13448336187242820401 : True := trivial
theorem law_walk.tw12995532249015282915 : True := trivial
theorem law_walk.tw10895305474805754006 : True := trivial
theorem law_walk.tw792757252817062090 : True := trivial
theorem law_walk.tw546888889209027854 : True := trivial
theorem law_walk.tw6754141039348793363 : True := trivial
theorem law_walk.tw16460119751318372509 : True := trivial
theorem law_walk.tw4080001662680940471 : True := trivial
theorem law_walk.tw8501291642466889497 : True := trivial
theorem law_walk.tw13386010195168993276 : True := trivial
theorem law_walk.tw2306348491205089524 : True := trivial
theorem law_walk.tw7325817285257002614 : True := trivial
theorem law_walk.tw17503048201020566150 : True := trivial
theorem law_walk.tw5726713333530599853 : True := trivial
theorem law_walk.tw8782609799575846544 : True := trivial
theorem law_walk.tw18404298028259340012 : True := trivial
theorem law_walk.tw6451171169170823791 : True := trivial
theorem law_walk.tw17811037027058161844 : True := trivial
theorem law_walk.tw12300113661131034177 : True := trivial
theorem law_walk.tw13012963976651126157 : True := trivial
theorem law_walk.tw938463261083885465 : True := trivial
theorem law_walk.tw10012223880662568667 : True := trivial
theorem law_walk.tw5959770353029448891 : True := trivial
theorem law_walk.tw9166629151429394481 : True := trivial
theorem law_walk.tw12876023370334504631 : True := trivial
theorem law_walk.tw14327785045594728570 : True := trivial
theorem law_walk.tw7427303580568240481 : True := trivial
theorem law_walk.tw10083349754572551906 : True := trivial
theorem law_walk.tw6579722008015293146 : True := trivial
theorem law_walk.tw8222505814931346132 : True := trivial
theorem law_walk.tw1738785647958745324 : True := trivial
theorem law_walk.tw13239012831020974903 : True := trivial
theorem law_walk.tw18894516972011198 : True := trivial
theorem law_walk.tw8625786686279420002 : True := trivial
theorem law_walk.tw2891145553682058488 : True := trivial
theorem law_walk.tw615761288379671457 : True := trivial
theorem law_walk.tw7198532148492206010 : True := trivial
theorem law_walk.tw8031706477840214613 : True := trivial
theorem law_walk.tw14952126831166634114 : True := trivial
theorem law_walk.tw3447856138792029428 : True := trivial
theorem law_walk.tw13504698491429236006 : True := trivial
theorem law_walk.tw2533946477500920620 : True := trivial
theorem law_walk.tw6998968677132098197 : True := trivial
theorem law_walk.tw6825434481020866098 : True := trivial
theorem law_walk.tw12101466091422677741 : True := trivial
theorem law_walk.tw11833324912608759766 : True := trivial
theorem law_walk.tw118772489925084819 : True := trivial
theorem law_walk.tw11145578153013849553 : True := trivial
theorem law_walk.tw7419545021560494639 : True := trivial
theorem law_walk.tw1584486361623878614 : True := trivial
theorem law_walk.tw2875512565733193427 : True := trivial
theorem law_walk.tw11934205477223409273 : True := trivial
theorem law_walk.tw296180040996304996 : True := trivial
theorem law_walk.tw6893076860397145995 : True := trivial
theorem law_walk.tw12591040065547981619 : True := trivial
theorem law_walk.tw11923195694410398313 : True := trivial
theorem law_walk.tw12111095534568070522 : True := trivial
theorem law_walk.tw13141938791855318528 : True := trivial
theorem law_walk.tw11087460746542756355 : True := trivial
theorem law_walk.tw3691033830168974909 : True := trivial
theorem law_walk.tw13534500012047560766 : True := trivial
theorem law_walk.tw5882657126730084052 : True := trivial
theorem law_walk.tw14767876607977615399 : True := trivial
theorem law_walk.tw12195233141994539928 : True := trivial
theorem law_walk.tw9968182827233438454 : True := trivial
theorem law_walk.tw13887795260824410890 : True := trivial
theorem law_walk.tw9437996820781617458 : True := trivial
theorem law_walk.tw7100947392080961120 : True := trivial
theorem law_walk.tw5534581464414222704 : True := trivial
theorem law_walk.tw9032874879495944622 : True := trivial
theorem law_walk.tw8480411965288910782 : True := trivial
theorem law_walk.tw16736113708867630118 : True := trivial
theorem law_walk.tw12009826905505109769 : True := trivial
theorem law_walk.tw2717809137825186346 : True := trivial
theorem law_walk.tw10017967549723583869 : True := trivial
theorem law_walk.tw3556739600320475700 : True := trivial
theorem law_walk.tw2461725995065076540 : True := trivial
theorem law_walk.tw6326036041313379243 : True := trivial
theorem law_walk.tw649375490138095207 : True := trivial
theorem law_walk.tw3901379447191726684 : True := trivial
theorem law_walk.tw17066975456601752330 : True := trivial
theorem law_walk.tw6767510182020264900 : True := trivial
theorem law_walk.tw3754540112003262327 : True := trivial
theorem law_walk.tw8780209549947566568 : True := trivial
theorem law_walk.tw16517879841933767146 : True := trivial
theorem law_walk.tw15498946998463029301 : True := trivial
theorem law_walk.tw10378946286740347161 : True := trivial
theorem law_walk.tw15417956146314419576 : True := trivial
theorem law_walk.tw1880910813863361412 : True := trivial
theorem law_walk.tw13825845421747106077 : True := trivial
theorem law_walk.tw16560409321459869969 : True := trivial
theorem law_walk.tw14151628125881777859 : True := trivial
theorem law_walk.tw8468496295414232344 : True := trivial
theorem law_walk.tw9715289489028889462 : True := trivial
theorem law_walk.tw4746017159477358262 : True := trivial
theorem law_walk.tw15999513593463991888 : True := trivial
theorem law_walk.tw8893875425536367480 : True := trivial
theorem law_walk.tw4028966824413899355 : True := trivial
theorem law_walk.tw12520780597348186233 : True := trivial
theorem law_walk.tw7109496666715306610 : True := trivial
theorem law_walk.tw1472925903206734883 : True := trivial
theorem law_walk.tw11711249171238461719 : True := trivial
theorem law_walk.tw16810564040614151153 : True := trivial
theorem law_walk.tw17635426524294582585 : True := trivial
theorem law_walk.tw15155165133834071734 : True := trivial
theorem law_walk.tw5199402148329568898 : True := trivial
theorem law_walk.tw4086216238741892137 : True := trivial
theorem law_walk.tw1735403808043928960 : True := trivial
theorem law_walk.tw13641380642171206868 : True := trivial
theorem law_walk.tw16692424387539279851 : True := trivial
theorem law_walk.tw11633985231838251518 : True := trivial
theorem law_walk.tw11355295328708566764 : True := trivial
theorem law_walk.tw9629949465616303012 : True := trivial
theorem law_walk.tw16123713770116111771 : True := trivial
theorem law_walk.tw10629259703498379661 : True := trivial
theorem law_walk.tw18335874846033304908 : True := trivial
theorem law_walk.tw2647419845067033082 : True := trivial
theorem law_walk.tw9591904498954728264 : True := trivial
theorem law_walk.tw7935032364589072374 : True := trivial
theorem law_walk.tw1220805034826160509 : True := trivial
theorem law_walk.tw6649265716614889171 : True := trivial
theorem law_walk.tw6400728029846161746 : True := trivial
theorem law_walk.tw5016330680197820146 : True := trivial
theorem law_walk.tw7071086898989932224 : True := trivial
theorem law_walk.tw7653227722313841522 : True := trivial
theorem law_walk.tw17186218701907457638 : True := trivial
theorem law_walk.tw9483369658182257289 : True := trivial
theorem law_walk.tw4997801113401692803 : True := trivial
theorem law_walk.tw8480634766571863564 : True := trivial
theorem law_walk.tw16288356565122131320 : True := trivial
theorem law_walk.tw9186056918976138657 : True := trivial
theorem law_walk.tw12201208723104210844 : True := trivial
theorem law_walk.tw12233933238398410296 : True := trivial
theorem law_walk.tw11855559308443055824 : True := trivial
theorem law_walk.tw14162323880974691088 : True := trivial
theorem law_walk.tw10753188223293893975 : True := trivial
theorem law_walk.tw17127123404884082191 : True := trivial
theorem law_walk.tw3397640014722814597 : True := trivial
theorem law_walk.tw7554009859242410475 : True := trivial
theorem law_walk.tw10927720493975237751 : True := trivial
theorem law_walk.tw17174478913216088457 : True := trivial
theorem law_walk.tw2299441377266830565 : True := trivial
theorem law_walk.tw3072583708981276997 : True := trivial
theorem law_walk.tw15453964059296924876 : True := trivial
theorem law_walk.tw13088496971643157351 : True := trivial
theorem law_walk.tw15834597256581190132 : True := trivial
theorem law_walk.tw5381454165165104870 : True := trivial
theorem law_walk.tw13920118849232721855 : True := trivial
theorem law_walk.tw16188769599606678643 : True := trivial
theorem law_walk.tw14189505037506002190 : True := trivial
theorem law_walk.tw4650864048630087687 : True := trivial
theorem law_walk.tw7324258165537619422 : True := trivial
theorem law_walk.tw18129131608219303369 : True := trivial
theorem law_walk.tw17299492534853890397 : True := trivial
theorem law_walk.tw16430022226258692450 : True := trivial
theorem law_walk.tw17302203345897618003 : True := trivial
theorem law_walk.tw5655965098766880232 : True := trivial
theorem law_walk.tw13714257558657638190 : True := trivial
theorem law_walk.tw18259787569207076514 : True := trivial
theorem law_walk.tw17067852599866864251 : True := trivial
theorem law_walk.tw4242177826870727421 : True := trivial
theorem law_walk.tw12760000185422174583 : True := trivial
theorem law_walk.tw14961753426698921304 : True := trivial
theorem law_walk.tw5665857595847573660 : True := trivial
theorem law_walk.tw8811260927847473412 : True := trivial
theorem law_walk.tw16962011474697557494 : True := trivial
theorem law_walk.tw18419849500374968085 : True := trivial
theorem law_walk.tw2495001387537848334 : True := trivial
theorem law_walk.tw7761158318386415103 : True := trivial
theorem law_walk.tw12722162619621305906 : True := trivial
theorem law_walk.tw3617187102980411362 : True := trivial
theorem law_walk.tw7530799078319857499 : True := trivial
theorem law_walk.tw2571282474401314295 : True := trivial
theorem law_walk.tw2627365868590741721 : True := trivial
theorem law_walk.tw8125532106854212182 : True := trivial
theorem law_walk.tw10025827375045193003 : True := trivial
theorem law_walk.tw14230821642063986979 : True := trivial
theorem law_walk.tw7465007646282115428 : True := trivial
theorem law_walk.tw7926396327584380961 : True := trivial
theorem law_walk.tw14245692378676067059 : True := trivial
theorem law_walk.tw3002855520689584239 : True := trivial
theorem law_walk.tw16239419225424659875 : True := trivial
theorem law_walk.tw15481486496463984755 : True := trivial
theorem law_walk.tw13098841502329403702 : True := trivial
theorem law_walk.tw15636980144280758095 : True := trivial
theorem law_walk.tw15532297569418392 : True := trivial
theorem law_walk.tw15615958899805417486 : True := trivial
theorem law_walk.tw2341039980280679534 : True := trivial
theorem law_walk.tw10828000986148443184 : True := trivial
theorem law_walk.tw10639959928510409895 : True := trivial
theorem law_walk.tw12674895584950338526 : True := trivial
theorem law_walk.tw10658639562909679755 : True := trivial
theorem law_walk.tw12301963630652542699 : True := trivial
theorem law_walk.tw12580990067054571118 : True := trivial
theorem law_walk.tw8911797091718074820 : True := trivial
theorem law_walk.tw3981640346128581809 : True := trivial
theorem law_walk.tw9778168765516245967 : True := trivial
theorem law_walk.tw3129892980699986069 : True := trivial
theorem law_walk.tw11094474544715421241 : True := trivial
theorem law_walk.tw2219308204279966622 : True := trivial
theorem law_walk.tw15718558070232387531 : True := trivial
theorem law_walk.tw6089029913067095875 : True := trivial
theorem law_walk.tw3645142685593176355 : True := trivial
theorem law_walk.tw12798696055825269889 : True := trivial
theorem law_walk.tw7338627941675688729 : True := trivial
theorem law_walk.tw17554292419583383468 : True := trivial
theorem law_walk.tw5111013765409397190 : True := trivial
theorem law_walk.tw1662141698915320762 : True := trivial
theorem law_walk.tw13781007032354609357 : True := trivial
theorem law_walk.tw11450916150427135636 : True := trivial
theorem law_walk.tw503186378733191776 : True := trivial
theorem law_walk.tw9183641483480257317 : True := trivial
theorem law_walk.tw16342490113907240902 : True := trivial
theorem law_walk.tw159466186776936971 : True := trivial
theorem law_walk.tw10618763033596195338 : True := trivial
theorem law_walk.tw10145663917544633356 : True := trivial
theorem law_walk.tw14153666280139511643 : True := trivial
theorem law_walk.tw3166395782138400886 : True := trivial
theorem law_walk.tw6736407887594369432 : True := trivial
theorem law_walk.tw17107006867566248639 : True := trivial
theorem law_walk.tw17475910354421763716 : True := trivial
theorem law_walk.tw9529196812980347421 : True := trivial
theorem law_walk.tw8850960738565897455 : True := trivial
theorem law_walk.tw1366094867654575067 : True := trivial
theorem law_walk.tw12874762544442103265 : True := trivial
theorem law_walk.tw16537149046882093731 : True := trivial
theorem law_walk.tw14469600623860062065 : True := trivial
theorem law_walk.tw448115559420465352 : True := trivial
theorem law_walk.tw4386345922209527203 : True := trivial
theorem law_walk.tw17270601738028361370 : True := trivial
theorem law_walk.tw818413906173120548 : True := trivial
theorem law_walk.tw2683228806543164896 : True := trivial
theorem law_walk.tw3638856412277770727 : True := trivial
theorem law_walk.tw949296245633726331 : True := trivial
theorem law_walk.tw16655610470186158400 : True := trivial
theorem law_walk.tw9175309087135656087 : True := trivial
theorem law_walk.tw15968982945096215272 : True := trivial
theorem law_walk.tw16910148942730480082 : True := trivial
theorem law_walk.tw10197584988195932483 : True := trivial
theorem law_walk.tw282248770605746262 : True := trivial
theorem law_walk.tw4003670530290484998 : True := trivial
theorem law_walk.tw16968103998980813725 : True := trivial
theorem law_walk.tw17633485665553904107 : True := trivial
theorem law_walk.tw1671670933681533651 : True := trivial
theorem law_walk.tw7637174029363398381 : True := trivial
theorem law_walk.tw12711896037440492738 : True := trivial
theorem law_walk.tw10089657269976703354 : True := trivial
theorem law_walk.tw17823697356111105316 : True := trivial
theorem law_walk.tw17427764343826140397 : True := trivial
theorem law_walk.tw17898792646434272647 : True := trivial
theorem law_walk.tw3320129492043336941 : True := trivial
theorem law_walk.tw6086578578297193076 : True := trivial
theorem law_walk.tw3063434237839494313 : True := trivial
theorem law_walk.tw3491395014500559559 : True := trivial
theorem law_walk.tw14058109858162537207 : True := trivial
theorem law_walk.tw3766263908530267476 : True := trivial
theorem law_walk.tw10089813817477584785 : True := trivial
theorem law_walk.tw10701399307046395222 : True := trivial
theorem law_walk.tw5967445458030798337 : True := trivial
theorem law_walk.tw13411514370537227855 : True := trivial
theorem law_walk.tw8360997944320263444 : True := trivial
theorem law_walk.tw14479208007252090267 : True := trivial
theorem law_walk.tw11802368317055757852 : True := trivial
theorem law_walk.tw5618980001994482054 : True := trivial
theorem law_walk.tw17736254515470283225 : True := trivial
theorem law_walk.tw16894674626988043528 : True := trivial
theorem law_walk.tw5895794370500341037 : True := trivial
theorem law_walk.tw14538628563948728542 : True := trivial
theorem law_walk.tw13573928544673780044 : True := trivial
theorem law_walk.tw18132122536221473472 : True := trivial
theorem law_walk.tw3550609431168720712 : True := trivial
theorem law_walk.tw10447511132435366561 : True := trivial
theorem law_walk.tw9885818699757977590 : True := trivial
theorem law_walk.tw15200784795820834237 : True := trivial
theorem law_walk.tw12123188885027439722 : True := trivial
theorem law_walk.tw2855530394995187819 : True := trivial
theorem law_walk.tw17965348073081528910 : True := trivial
theorem law_walk.tw11288862841847474264 : True := trivial
theorem law_walk.tw5286425090986730377 : True := trivial
theorem law_walk.tw7449562380150352149 : True := trivial
theorem law_walk.tw16790894952701925459 : True := trivial
theorem law_walk.tw12541173670015550774 : True := trivial
theorem law_walk.tw6334909405302622173 : True := trivial
theorem law_walk.tw14594578202750778740 : True := trivial
theorem law_walk.tw15613777905758247196 : True := trivial
theorem law_walk.tw9075580402529209749 : True := trivial
theorem law_walk.tw7102155933189859701 : True := trivial
theorem law_walk.tw1807287435005278155 : True := trivial
theorem law_walk.tw3962213025156724468 : True := trivial
theorem law_walk.tw9103226693816880051 : True := trivial
theorem law_walk.tw8192776089968869677 : True := trivial
theorem law_walk.tw12601664030854211027 : True := trivial
theorem law_walk.tw13952220904321009716 : True := trivial
theorem law_walk.tw13033051952627623229 : True := trivial
theorem law_walk.tw14224972209650812353 : True := trivial
theorem law_walk.tw3859728766915173161 : True := trivial
theorem law_walk.tw13924465335331175935 : True := trivial
theorem law_walk.tw18288133867068936735 : True := trivial
theorem law_walk.tw15187336806092191817 : True := trivial
theorem law_walk.tw14248864630821999066 : True := trivial
theorem law_walk.tw18017943854207788467 : True := trivial
theorem law_walk.tw15505191111615268071 : True := trivial
theorem law_walk.tw5331944734620030992 : True := trivial
theorem law_walk.tw16877378207672676275 : True := trivial
theorem law_walk.tw8860917272210807666 : True := trivial
theorem law_walk.tw3540575760605503442 : True := trivial
theorem law_walk.tw13658890631580204631 : True := trivial
theorem law_walk.tw12911707631710183502 : True := trivial
theorem law_walk.tw5737706109592288152 : True := trivial
theorem law_walk.tw11944262979938101620 : True := trivial
theorem law_walk.tw14072875309468543705 : True := trivial
theorem law_walk.tw15456258404707152428 : True := trivial
theorem law_walk.tw12731889902522729247 : True := trivial
theorem law_walk.tw4947676814589303919 : True := trivial
theorem law_walk.tw18349341294619126761 : True := trivial
theorem law_walk.tw13796545143518183429 : True := trivial
theorem law_walk.tw9980548339221918197 : True := trivial
theorem law_walk.tw13679848150484479713 : True := trivial
theorem law_walk.tw3667454019134173924 : True := trivial
theorem law_walk.tw12086507294923878978 : True := trivial
theorem law_walk.tw15736856550780382072 : True := trivial
theorem law_walk.tw7115551381039128852 : True := trivial
theorem law_walk.tw9872956177346622876 : True := trivial
theorem law_walk.tw6899560066077938743 : True := trivial
theorem law_walk.tw18409451440183414983 : True := trivial
theorem law_walk.tw3571322542837286172 : True := trivial
theorem law_walk.tw8234097925263858792 : True := trivial
theorem law_walk.tw18295426334901353255 : True := trivial
theorem law_walk.tw12368380996881569338 : True := trivial
theorem law_walk.tw17449492887640561248 : True := trivial
theorem law_walk.tw548000639629631804 : True := trivial
theorem law_walk.tw10351194298694868871 : True := trivial
theorem law_walk.tw15740100984876781916 : True := trivial
theorem law_walk.tw511266971563236320 : True := trivial
theorem law_walk.tw17324984933684858937 : True := trivial
theorem law_walk.tw5384549298661720461 : True := trivial
theorem law_walk.tw14182340497461443791 : True := trivial
theorem law_walk.tw4825969915279202094 : True := trivial
theorem law_walk.tw9002429378056223101 : True := trivial
theorem law_walk.tw8944009857919543570 : True := trivial
theorem law_walk.tw5106595780902882185 : True := trivial
theorem law_walk.tw10383870825954768009 : True := trivial
theorem law_walk.tw14771489958863429370 : True := trivial
theorem law_walk.tw15140435891017601072 : True := trivial
theorem law_walk.tw16944020579849932417 : True := trivial
theorem law_walk.tw8316598923958116987 : True := trivial
theorem law_walk.tw5473956158163234346 : True := trivial
theorem law_walk.tw8817104002524506356 : True := trivial
theorem law_walk.tw7931420083335741794 : True := trivial
theorem law_walk.tw17568217026667295836 : True := trivial
theorem law_walk.tw10658695468660069382 : True := trivial
theorem law_walk.tw5267109075004283180 : True := trivial
theorem law_walk.tw11107084788130492855 : True := trivial
theorem law_walk.tw6647347934556014683 : True := trivial
theorem law_walk.tw14886465165815767197 : True := trivial
theorem law_walk.tw18116473942672920685 : True := trivial
theorem law_walk.tw13002647067667376827 : True := trivial
theorem law_walk.tw851818308404905840 : True := trivial
theorem law_walk.tw14576841033009785450 : True := trivial
theorem law_walk.tw1604844635334485629 : True := trivial
theorem law_walk.tw6029713500688856180 : True := trivial
theorem law_walk.tw6407279749112937241 : True := trivial
theorem law_walk.tw4055183766566013480 : True := trivial
theorem law_walk.tw14669670870076772526 : True := trivial
theorem law_walk.tw16352332493698178272 : True := trivial
theorem law_walk.tw4395385074299251700 : True := trivial
theorem law_walk.tw7967881594753178663 : True := trivial
theorem law_walk.tw8697870432888377545 : True := trivial
theorem law_walk.tw2023523294843157144 : True := trivial
theorem law_walk.tw15614935256484324226 : True := trivial
theorem law_walk.tw7009013107003880677 : True := trivial
theorem law_walk.tw13928359114818421041 : True := trivial
theorem law_walk.tw3595897661639727248 : True := trivial
theorem law_walk.tw18274630477781228279 : True := trivial
theorem law_walk.tw3708943436980083059 : True := trivial
theorem law_walk.tw12095171469182360458 : True := trivial
theorem law_walk.tw9418385509806613831 : True := trivial
theorem law_walk.tw7331642516784086249 : True := trivial
theorem law_walk.tw7152392621079018176 : True := trivial
theorem law_walk.tw16322055377411215521 : True := trivial
theorem law_walk.tw6696238926567795774 : True := trivial
theorem law_walk.tw4915045355288652482 : True := trivial
theorem law_walk.tw2170976834673753893 : True := trivial
theorem law_walk.tw9803691198663560114 : True := trivial
theorem law_walk.tw7024936179645046887 : True := trivial
theorem law_walk.tw7348505673825218498 : True := trivial
theorem law_walk.tw5285187710974808773 : True := trivial
theorem law_walk.tw16177133813778340837 : True := trivial
theorem law_walk.tw17410588612671498874 : True := trivial
theorem law_walk.tw6545722756551672335 : True := trivial
theorem law_walk.tw12709367179632773795 : True := trivial
theorem law_walk.tw17577931810382400309 : True := trivial
theorem law_walk.tw12534354635796388711 : True := trivial
theorem law_walk.tw16885150742125373210 : True := trivial
theorem law_walk.tw12523361329944567404 : True := trivial
theorem law_walk.tw1620338340181563649 : True := trivial
theorem law_walk.tw17118425190982333173 : True := trivial
theorem law_walk.tw3959912282003290437 : True := trivial
theorem law_walk.tw7107204000909996950 : True := trivial
theorem law_walk.tw977902512717651210 : True := trivial
theorem law_walk.tw3341957500806677513 : True := trivial
theorem law_walk.tw12642425473201346906 : True := trivial
theorem law_walk.tw15931416970035886059 : True := trivial
theorem law_walk.tw13996342401060580349 : True := trivial
theorem law_walk.tw1910896277809564259 : True := trivial
theorem law_walk.tw13591153852566772488 : True := trivial
theorem law_walk.tw13277986600169042562 : True := trivial
theorem law_walk.tw5203751740958989323 : True := trivial
theorem law_walk.tw3515985582248649365 : True := trivial
theorem law_walk.tw14980021716190456249 : True := trivial
theorem law_walk.tw9095732442746558090 : True := trivial
theorem law_walk.tw10257906530311625714 : True := trivial
theorem law_walk.tw10397799566929525071 : True := trivial
theorem law_walk.tw1744341055233183064 : True := trivial
theorem law_walk.tw2883566381717434194 : True := trivial
theorem law_walk.tw12228622599186859793 : True := trivial
theorem law_walk.tw5344837121571928277 : True := trivial
theorem law_walk.tw15846777328009262648 : True := trivial
theorem law_walk.tw4016996784418043522 : True := trivial
theorem law_walk.tw8065557979128865413 : True := trivial
theorem law_walk.tw6049634886937883345 : True := trivial
theorem law_walk.tw2236532806496769314 : True := trivial
theorem law_walk.tw13648450428180483492 : True := trivial
theorem law_walk.tw7166111205189570138 : True := trivial
theorem law_walk.tw14227992545485329876 : True := trivial
theorem law_walk.tw7583747637197625299 : True := trivial
theorem law_walk.tw8051938258228835777 : True := trivial
theorem law_walk.tw10820226785314941362 : True := trivial
theorem law_walk.tw724131221752555423 : True := trivial
theorem law_walk.tw8796729171806889597 : True := trivial
theorem law_walk.tw9130924912984840108 : True := trivial
theorem law_walk.tw7547403932810918116 : True := trivial
theorem law_walk.tw11474566579329802148 : True := trivial
theorem law_walk.tw18015715687542667119 : True := trivial
theorem law_walk.tw15057813051480901889 : True := trivial
theorem law_walk.tw8589762827195641035 : True := trivial
theorem law_walk.tw8788890023823653320 : True := trivial
theorem law_walk.tw13766059861071819024 : True := trivial
theorem law_walk.tw14940420482638819504 : True := trivial
theorem law_walk.tw7669998423917355220 : True := trivial
theorem law_walk.tw2697316533896268862 : True := trivial
theorem law_walk.tw15734438454389992756 : True := trivial
theorem law_walk.tw17238711329945602061 : True := trivial
theorem law_walk.tw18083422011985357641 : True := trivial
theorem law_walk.tw6493554773389619699 : True := trivial
theorem law_walk.tw16616084366394684407 : True := trivial
theorem law_walk.tw6817066608918758411 : True := trivial
theorem law_walk.tw13045953843222869678 : True := trivial
theorem law_walk.tw9203785389534145387 : True := trivial
theorem law_walk.tw8662310858462383521 : True := trivial
theorem law_walk.tw5079973196895120540 : True := trivial
theorem law_walk.tw5774354148439448019 : True := trivial
theorem law_walk.tw11280037700102961473 : True := trivial
theorem law_walk.tw15730742052892828963 : True := trivial
theorem law_walk.tw5253838664871318736 : True := trivial
theorem law_walk.tw11641602296921379893 : True := trivial
theorem law_walk.tw9855414017681130086 : True := trivial
theorem law_walk.tw5204596778701226942 : True := trivial
theorem law_walk.tw10410218519925115209 : True := trivial
theorem law_walk.tw922407611997998523 : True := trivial
theorem law_walk.tw12404348545022869119 : True := trivial
theorem law_walk.tw8162407469431441865 : True := trivial
theorem law_walk.tw6445505954462926399 : True := trivial
theorem law_walk.tw17459064837378575475 : True := trivial
theorem law_walk.tw16061422359507528412 : True := trivial
theorem law_walk.tw3683313952217973339 : True := trivial
theorem law_walk.tw11543882884557045927 : True := trivial
theorem law_walk.tw5239839407906811263 : True := trivial
theorem law_walk.tw2814766088413455246 : True := trivial
theorem law_walk.tw13532154140430367694 : True := trivial
theorem law_walk.tw4562229481737148886 : True := trivial
theorem law_walk.tw16335246994957245351 : True := trivial
theorem law_walk.tw13374230587393269381 : True := trivial
theorem law_walk.tw515835780776288483 : True := trivial
theorem law_walk.tw2923534064341516331 : True := trivial
theorem law_walk.tw5170278709051806659 : True := trivial
theorem law_walk.tw6876844073889826661 : True := trivial
theorem law_walk.tw7123538511822090436 : True := trivial
theorem law_walk.tw16186317348965468108 : True := trivial
theorem law_walk.tw3935810024342355276 : True := trivial
theorem law_walk.tw11592501116013859330 : True := trivial
theorem law_walk.tw4396025924468024464 : True := trivial
theorem law_walk.tw16531553940958404746 : True := trivial
theorem law_walk.tw17151475802405297598 : True := trivial
theorem law_walk.tw1380628211531552933 : True := trivial
theorem law_walk.tw1875447083403719353 : True := trivial
theorem law_walk.tw16893689774605216254 : True := trivial
theorem law_walk.tw16819617538113115028 : True := trivial
theorem law_walk.tw16124400042635597030 : True := trivial
theorem law_walk.tw11037552203734273418 : True := trivial
theorem law_walk.tw10507231385081393450 : True := trivial
theorem law_walk.tw1391093639713574961 : True := trivial
theorem law_walk.tw15793095897001036621 : True := trivial
theorem law_walk.tw1680266527557545993 : True := trivial
theorem law_walk.tw10086159654209356469 : True := trivial
theorem law_walk.tw12389564811837835924 : True := trivial
theorem law_walk.tw2845182553384715193 : True := trivial
theorem law_walk.tw13277630132664226821 : True := trivial
theorem law_walk.tw14056159162004549492 : True := trivial
theorem law_walk.tw6425360886468074120 : True := trivial
theorem law_walk.tw12392573969894312859 : True := trivial
theorem law_walk.tw5132826270825761451 : True := trivial
theorem law_walk.tw3936844769520284807 : True := trivial
theorem law_walk.tw17785294340455765017 : True := trivial
theorem law_walk.tw9523152087340033652 : True := trivial
theorem law_walk.tw2956760582631884976 : True := trivial
theorem law_walk.tw4287169957076668566 : True := trivial
theorem law_walk.tw829404936827327978 : True := trivial
theorem law_walk.tw1913036947019820295 : True := trivial
theorem law_walk.tw6858619185670046997 : True := trivial
theorem law_walk.tw309411868979763249 : True := trivial
theorem law_walk.tw5902568441231491975 : True := trivial
theorem law_walk.tw13732427437597736401 : True := trivial
theorem law_walk.tw12330141488973167288 : True := trivial
theorem law_walk.tw7858689618236290744 : True := trivial
theorem law_walk.tw11982992778822352237 : True := trivial
theorem law_walk.tw15808102522801343710 : True := trivial
theorem law_walk.tw11043068461460382700 : True := trivial
theorem law_walk.tw2191982584930282844 : True := trivial
theorem law_walk.tw15629570529578067637 : True := trivial
theorem law_walk.tw18014035949302142290 : True := trivial
theorem law_walk.tw9155993618886128260 : True := trivial
theorem law_walk.tw1531970898384708264 : True := trivial
theorem law_walk.tw11225349331227436574 : True := trivial
theorem law_walk.tw14838880254275756034 : True := trivial
theorem law_walk.tw408718155922227582 : True := trivial
theorem law_walk.tw235898947248173329 : True := trivial
theorem law_walk.tw7114266584476371391 : True := trivial
theorem law_walk.tw8010708191331470744 : True := trivial
theorem law_walk.tw5618861336821492836 : True := trivial
theorem law_walk.tw8884936949849470524 : True := trivial
theorem law_walk.tw1960160720123716315 : True := trivial
theorem law_walk.tw11437189675349711874 : True := trivial
theorem law_walk.tw7804703435246245682 : True := trivial
theorem law_walk.tw7544050792922360767 : True := trivial
theorem law_walk.tw1091560810613593962 : True := trivial
theorem law_walk.tw8378071691432599981 : True := trivial
theorem law_walk.tw18110752070246561771 : True := trivial
theorem law_walk.tw17138217388074998094 : True := trivial
theorem law_walk.tw5894727858872634204 : True := trivial
theorem law_walk.tw5013302328033875661 : True := trivial
theorem law_walk.tw16453277977650433508 : True := trivial
theorem law_walk.tw13390950550358009985 : True := trivial
theorem law_walk.tw6336012815581847770 : True := trivial
theorem law_walk.tw10428339308654853771 : True := trivial
theorem law_walk.tw2290006836762255042 : True := trivial
theorem law_walk.tw9446009449886439872 : True := trivial
theorem law_walk.tw2565113396638683165 : True := trivial
theorem law_walk.tw16725422240594225722 : True := trivial
theorem law_walk.tw1322720348383324774 : True := trivial
theorem law_walk.tw1034862192768213525 : True := trivial
theorem law_walk.tw3462625871884677001 : True := trivial
theorem law_walk.tw6607728920318839029 : True := trivial
theorem law_walk.tw10836646457437991657 : True := trivial
theorem law_walk.tw17626359151768868061 : True := trivial
theorem law_walk.tw1905900882068680989 : True := trivial
theorem law_walk.tw1331769805406151492 : True := trivial
theorem law_walk.tw9203842737151073355 : True := trivial
theorem law_walk.tw18066562495024943907 : True := trivial
theorem law_walk.tw14689766548872643050 : True := trivial
theorem law_walk.tw11164060815314383135 : True := trivial
theorem law_walk.tw1689282952584235121 : True := trivial
theorem law_walk.tw9379329770736442363 : True := trivial
theorem law_walk.tw5285241523046044384 : True := trivial
theorem law_walk.tw4182832439252594905 : True := trivial
theorem law_walk.tw15955792830637053814 : True := trivial
theorem law_walk.tw16527859942339537161 : True := trivial
theorem law_walk.tw12810192943273396808 : True := trivial
theorem law_walk.tw1616378787136745127 : True := trivial
theorem law_walk.tw2316726402350122839 : True := trivial
theorem law_walk.tw9450998796341231125 : True := trivial
theorem law_walk.tw798302929772623526 : True := trivial
theorem law_walk.tw17922693903360962314 : True := trivial
theorem law_walk.tw6194028059919461273 : True := trivial
theorem law_walk.tw7513868822181849725 : True := trivial
theorem law_walk.tw9875853998688389858 : True := trivial
theorem law_walk.tw17388167606250016871 : True := trivial
theorem law_walk.tw7120084753899787479 : True := trivial
theorem law_walk.tw15188079926363541705 : True := trivial
theorem law_walk.tw8558848740751742747 : True := trivial
theorem law_walk.tw734615797008289343 : True := trivial
theorem law_walk.tw5508039754940524437 : True := trivial
theorem law_walk.tw4226080970333962351 : True := trivial
theorem law_walk.tw8793653686009850439 : True := trivial
theorem law_walk.tw6054531119944231731 : True := trivial
theorem law_walk.tw7431823082292613648 : True := trivial
theorem law_walk.tw978656692904021498 : True := trivial
theorem law_walk.tw3775679006543032292 : True := trivial
theorem law_walk.tw6237231208052205148 : True := trivial
theorem law_walk.tw1697928338377447199 : True := trivial
theorem law_walk.tw3221921463622416975 : True := trivial
theorem law_walk.tw9605208033314600532 : True := trivial
theorem law_walk.tw6224058564654440311 : True := trivial
theorem law_walk.tw10384346054370194019 : True := trivial
theorem law_walk.tw7085764848552681203 : True := trivial
theorem law_walk.tw7272534659893672314 : True := trivial
theorem law_walk.tw1407156338458783363 : True := trivial
theorem law_walk.tw13873791434772561199 : True := trivial
theorem law_walk.tw13658154597968535148 : True := trivial
theorem law_walk.tw5758398437639477150 : True := trivial
theorem law_walk.tw492914077756523823 : True := trivial
theorem law_walk.tw10480163188608862900 : True := trivial
theorem law_walk.tw7163138998026820368 : True := trivial
theorem law_walk.tw1786772253146571011 : True := trivial
theorem law_walk.tw15637905503817521475 : True := trivial
theorem law_walk.tw5990301609794445982 : True := trivial
theorem law_walk.tw14036213424327298798 : True := trivial
theorem law_walk.tw8753648789720674002 : True := trivial
theorem law_walk.tw1174566563548798194 : True := trivial
theorem law_walk.tw8791093090977578566 : True := trivial
theorem law_walk.tw15647844531929859867 : True := trivial
theorem law_walk.tw1277008753390475046 : True := trivial
theorem law_walk.tw10274288139149780575 : True := trivial
theorem law_walk.tw10244953201985479339 : True := trivial
theorem law_walk.tw11581608578576077198 : True := trivial
theorem law_walk.tw14463778886830734116 : True := trivial
theorem law_walk.tw4742891490094723884 : True := trivial
theorem law_walk.tw6505709887114804083 : True := trivial
theorem law_walk.tw5067519052505953223 : True := trivial
theorem law_walk.tw16313268554311460537 : True := trivial
theorem law_walk.tw13303729710185988318 : True := trivial
theorem law_walk.tw14513967837321591877 : True := trivial
theorem law_walk.tw17764969190506102240 : True := trivial
theorem law_walk.tw77035021383099251 : True := trivial
theorem law_walk.tw17788194643193188177 : True := trivial
theorem law_walk.tw334879201263064426 : True := trivial
theorem law_walk.tw13190985142017696747 : True := trivial
theorem law_walk.tw6471940559802680884 : True := trivial
theorem law_walk.tw9712672475459828538 : True := trivial
theorem law_walk.tw4117861724953224559 : True := trivial
theorem law_walk.tw4264378668631844740 : True := trivial
theorem law_walk.tw14240879651608825115 : True := trivial
theorem law_walk.tw10950313259017597733 : True := trivial
theorem law_walk.tw16561918754776221952 : True := trivial
theorem law_walk.tw652925120267005250 : True := trivial
theorem law_walk.tw9110986123512230173 : True := trivial
theorem law_walk.tw9751572719245382704 : True := trivial
theorem law_walk.tw17535905661147732878 : True := trivial
theorem law_walk.tw3661333082589093490 : True := trivial
theorem law_walk.tw2982868256983569547 : True := trivial
theorem law_walk.tw14974011525358233248 : True := trivial
theorem law_walk.tw11867803497363361693 : True := trivial
theorem law_walk.tw12251902534564192380 : True := trivial
theorem law_walk.tw2881633161984637734 : True := trivial
theorem law_walk.tw2733775926394805467 : True := trivial
theorem law_walk.tw4515742136629006053 : True := trivial
theorem law_walk.tw15023472428833792241 : True := trivial
theorem law_walk.tw5617465109909234681 : True := trivial
theorem law_walk.tw8319756501982809113 : True := trivial
theorem law_walk.tw11277131910010628779 : True := trivial
theorem law_walk.tw3229189241546203836 : True := trivial
theorem law_walk.tw10157507484109336835 : True := trivial
theorem law_walk.tw14971813819131637940 : True := trivial
theorem law_walk.tw18199770876339245228 : True := trivial
theorem law_walk.tw15434091363119673455 : True := trivial
theorem law_walk.tw4526551576512489583 : True := trivial
theorem law_walk.tw15665304800849761054 : True := trivial
theorem law_walk.tw11647040384031862968 : True := trivial
theorem law_walk.tw18387677041234827377 : True := trivial
theorem law_walk.tw16328373283691547731 : True := trivial
theorem law_walk.tw1445141014135706936 : True := trivial
theorem law_walk.tw10570635007992531515 : True := trivial
theorem law_walk.tw6624915810316595173 : True := trivial
theorem law_walk.tw1291188863830293922 : True := trivial
theorem law_walk.tw9890965079044167371 : True := trivial
theorem law_walk.tw17997697558288854778 : True := trivial
theorem law_walk.tw10161932168859695621 : True := trivial
theorem law_walk.tw2891813122276395325 : True := trivial
theorem law_walk.tw3004964013433161768 : True := trivial
theorem law_walk.tw7102294187429695489 : True := trivial
theorem law_walk.tw11352011021601770895 : True := trivial
theorem law_walk.tw292397308789506738 : True := trivial
theorem law_walk.tw14945825382263935489 : True := trivial
theorem law_walk.tw10416331745033501480 : True := trivial
theorem law_walk.tw5551804992334912720 : True := trivial
theorem law_walk.tw12088515095828861587 : True := trivial
theorem law_walk.tw1324468810271576928 : True := trivial
theorem law_walk.tw15492151045217990245 : True := trivial
theorem law_walk.tw13131166574269975942 : True := trivial
theorem law_walk.tw8030018647201465827 : True := trivial
theorem law_walk.tw9452348037586664839 : True := trivial
theorem law_walk.tw11469270191587558306 : True := trivial
theorem law_walk.tw7634410226565424121 : True := trivial
theorem law_walk.tw15057872619502670159 : True := trivial
theorem law_walk.tw7633664266045472954 : True := trivial
theorem law_walk.tw14019077345477120628 : True := trivial
theorem law_walk.tw13628390499828785298 : True := trivial
theorem law_walk.tw10240693946999307496 : True := trivial
theorem law_walk.tw2157615745846525763 : True := trivial
theorem law_walk.tw13907529463265113118 : True := trivial
theorem law_walk.tw1652202564076735487 : True := trivial
theorem law_walk.tw7070119327064719344 : True := trivial
theorem law_walk.tw11850729933099749914 : True := trivial
theorem law_walk.tw4084733601620517782 : True := trivial
theorem law_walk.tw12719807418053037590 : True := trivial
theorem law_walk.tw7177724022485615042 : True := trivial
theorem law_walk.tw4302986602357725179 : True := trivial
theorem law_walk.tw5796563073557437437 : True := trivial
theorem law_walk.tw10330169082465163818 : True := trivial
theorem law_walk.tw9356260465716872552 : True := trivial
theorem law_walk.tw12759986923623899580 : True := trivial
theorem law_walk.tw1396280567195540785 : True := trivial
theorem law_walk.tw14914345944051369743 : True := trivial
theorem law_walk.tw13044207499326380188 : True := trivial
theorem law_walk.tw9900338948840557465 : True := trivial
theorem law_walk.tw11181889436421159118 : True := trivial
theorem law_walk.tw15068387895767642262 : True := trivial
theorem law_walk.tw13273206600566841880 : True := trivial
theorem law_walk.tw7783294113199095754 : True := trivial
theorem law_walk.tw6483819905358349504 : True := trivial
theorem law_walk.tw564858573537469337 : True := trivial
theorem law_walk.tw10093532317208718855 : True := trivial
theorem law_walk.tw11271834477157816440 : True := trivial
theorem law_walk.tw18040880136732528357 : True := trivial
theorem law_walk.tw14152246259925419167 : True := trivial
theorem law_walk.tw1656476879958425086 : True := trivial
theorem law_walk.tw15465383760572715868 : True := trivial
theorem law_walk.tw16588903437976998387 : True := trivial
theorem law_walk.tw18375929246266761975 : True := trivial
theorem law_walk.tw3941627908908370078 : True := trivial
theorem law_walk.tw15612027222607308620 : True := trivial
theorem law_walk.tw3431981061032647749 : True := trivial
theorem law_walk.tw13102714983685446380 : True := trivial
theorem law_walk.tw8664003847685610222 : True := trivial
theorem law_walk.tw1412928003085461680 : True := trivial
theorem law_walk.tw11201181906932905062 : True := trivial
theorem law_walk.tw9984620941133940510 : True := trivial
theorem law_walk.tw832542993533861745 : True := trivial
theorem law_walk.tw13422099721287017408 : True := trivial
theorem law_walk.tw17860976525059637015 : True := trivial
theorem law_walk.tw9046220672855999427 : True := trivial
theorem law_walk.tw11142810084088212214 : True := trivial
theorem law_walk.tw10526662154510002194 : True := trivial
theorem law_walk.tw3385936075775627244 : True := trivial
theorem law_walk.tw5907502599256711550 : True := trivial
theorem law_walk.tw8693389997180322906 : True := trivial
theorem law_walk.tw11868655392016344060 : True := trivial
theorem law_walk.tw1410423312292164055 : True := trivial
theorem law_walk.tw2660388263853012736 : True := trivial
theorem law_walk.tw6732108383870703550 : True := trivial
theorem law_walk.tw16570431237332690449 : True := trivial
theorem law_walk.tw17467095279790736570 : True := trivial
theorem law_walk.tw18090543170174304309 : True := trivial
theorem law_walk.tw17060461453524377851 : True := trivial
theorem law_walk.tw962946640451003798 : True := trivial
theorem law_walk.tw3657943001920692219 : True := trivial
theorem law_walk.tw12611266726681523132 : True := trivial
theorem law_walk.tw4725632481083999985 : True := trivial
theorem law_walk.tw4715142628854536148 : True := trivial
theorem law_walk.tw18358709846203567142 : True := trivial
theorem law_walk.tw1657090277910983091 : True := trivial
theorem law_walk.tw17994628964845550410 : True := trivial
theorem law_walk.tw17330576422823195353 : True := trivial
theorem law_walk.tw15571837854873285814 : True := trivial
theorem law_walk.tw2672495830845699883 : True := trivial
theorem law_walk.tw17904625479242461387 : True := trivial
set_option Elab.async true in
theorem law_walk : PySem.Challenge.rw_lc0007_01.Holds := by
  (w_on; o_law; o_head (kHook Mine.K [2, 3, 15, 17, 18, 20, 21, 22, 29, 30, 31, 32, 35, 42, 43, 44, 47, 54, 55, 56, 59, 61, 62, 64, 65, 66, 73, 74, 75, 85, 87, 88, 90, 91, 92, 94, 95, 97, 98, 99, 102, 103, 104, 106, 107, 109, 110, 111, 112, 113, 114, 115, 118, 120, 121, 123, 124, 125, 127, 128, 130, 131, 132, 139, 140, 141, 142, 152, 154, 155, 157, 158, 159, 160, 161, 162, 163, 164, 167, 174, 175, 176, 179, 186, 187, 188, 191, 198, 199, 201, 202, 204, 205, 206, 208, 209, 211, 212, 213, 215, 216, 218, 219, 220, 222, 223, 225, 226, 227, 228, 230, 231, 233, 234, 235, 237, 238, 240, 241, 242, 244, 245, 247, 248, 249, 251, 252, 254, 255, 256, 258, 259, 261, 262, 263, 265, 266, 268, 269, 270, 272, 273, 275, 276, 277, 279, 280, 282, 283, 284, 286, 287, 289, 290, 291, 293, 294, 296, 297, 298, 300, 301, 303, 304, 305, 307, 308, 310, 311, 312, 314, 315, 317, 318, 319, 320, 322, 323, 325, 326, 327, 328, 330, 331, 333, 334, 335, 336, 338, 339, 341, 342, 343, 344, 346, 347, 349, 350, 351, 353, 354, 356, 357, 358, 360, 361, 363, 364, 365, 366, 368, 369, 371, 372, 373, 374, 376, 377, 379, 380, 381, 383, 384, 386, 387, 388, 390, 391, 393, 394, 395, 397, 398, 400, 401, 402, 404, 405, 407, 408, 409, 411, 412, 414, 415, 416, 417, 418, 421, 428, 429, 431, 432, 434, 435, 436, 438, 439, 441, 442, 443, 445, 446, 448, 449, 450, 452, 453, 455, 456, 457, 459, 460, 462, 463, 464, 466, 467, 469, 470, 471, 472, 474, 475, 477, 478, 479, 480, 482, 483, 485, 486, 487, 488, 490, 491, 493, 494, 495, 496, 498, 499, 501, 502, 503, 504, 506, 507, 509, 510, 511, 513, 514, 516, 517, 518, 520, 521, 523, 524, 525, 527, 528, 530, 531, 532, 534, 535, 537, 538, 539, 541, 542, 544, 545, 546, 548, 549, 551, 552, 553, 555, 556, 558, 559, 560, 562, 563, 565, 566, 567, 569, 570, 572, 573, 574, 576, 577, 579, 580, 581, 583, 584, 586, 587, 588, 589, 591, 592, 594, 595, 596, 597, 599, 600, 602, 603, 604, 605, 607, 608, 610, 611, 612, 613, 615, 616, 618, 619, 620, 621, 623, 624, 626, 627, 628, 630, 631, 633, 634, 635, 637, 638, 640, 641, 642, 644, 645, 647, 648, 649, 651, 652, 654, 655, 656, 658, 659, 661, 662, 663, 664, 665, 668, 670, 671, 673, 674, 675, 677, 678, 680, 681, 682, 684, 685, 687, 688] (fun _ => by kernel_rfl)); (case hw => w_witness2))
  k_fill
  intro w s₀ s₁ mg mb G Y fa o pm cd doc dV kV ho hd hcd hD hmg hg args vals as hpre hlay hrd hwl hlo
  have KX := kIn_of Y
  have X := (Ground.X G).1
  have V := (Ground.X G).2
  refine Ground.open G ?_
  intro T B D TE TW
  obtain ⟨_, _, M⟩ := bmod_of_top T
  have TA := at_of_top T
  clear hmg
  wrow_args hpre hlay hrd hwl hlo
  rename_i ns hsh hl0 hL1 hr1 hl2 as4 as3 la vs as0 hLi ra w1 r0 hI hrr hc1 hc2
  have K0 := below_caller (Top.heap T)
  obtain rfl : dV = .none := Dflts.none hD rfl
  obtain rfl : kV = .none := Dflts.noKw hD
  refine' c_top T ho hd hcd ?k8 ?k9 ?kB ?_ ?c2 ?c3 ?c4 ?c5
  case k8 => decide
  case k9 => exact BindsTo.of_eq rfl
  case kB => exact locs rfl
  case c2 => exact rfl
  case c3 => exact rfl
  case c4 => exact rfl
  case c5 => decide
  intro L h₁ F
  have hl63 : ns.length ≤ 63 := by omega
  refine law_c K0 KX T hLi hI hl63 F rfl News.nil ?_
  intro h' tk m' F'
  have hbare : AllBare s₁.gens := .of_eq (by assumption)
  refine ⟨.inl ⟨.bool true, .bool true, [], rfl, raisesW_false ?_, .bool _, ?_, fun _ => ⟨.nil, fun _ h => nomatch h⟩⟩, .of_keep F'.keep, rfl, (hbare.push rfl).push rfl⟩
  · wrow_none_raised
  · wrow_post
end Mine
end
open PySem PySem.W PyProof.Rows
set_option maxRecDepth 100000 in
set_option maxHeartbeats 8000000 in
theorem PySem.Challenge.cw_lc0007_01_holds : PySem.Challenge.rw_lc0007_01.Holds := by
  exact Mine.law_walk
