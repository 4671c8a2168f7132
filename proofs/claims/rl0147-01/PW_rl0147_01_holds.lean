import PyProof.Rows.All
import Wide.All
import OpenK.AllK
import Wide.FinOn
import PySem.Challenge.RW_rl0147_01
set_option Elab.async false
set_option maxRecDepth 100000
section
open PySem PySem.W PyProof.Rows PySem.Calls
open Sem (wp)
set_option Elab.async false
set_option maxRecDepth 100000
set_option linter.unusedVariables false
namespace Mine

def CalB (Γ : Ctx) : Prop := (Γ.below.map (·.1)).any Code.isCaller = true
def Cal (Γ : Ctx) : Prop := Γ.code.isCaller = true ∨ CalB Γ
theorem Cal.enter {Γ : Ctx} (h : Cal Γ) (c : Code) (hd : Option Value) (p : Pos) : CalB (Γ.enter c hd p) := by
  show ((((Γ.code, p) :: Γ.below).map (·.1)).any Code.isCaller) = true
  simp only [List.map_cons, List.any_cons, Bool.or_eq_true]
  exact h
theorem CalB.goto {Γ : Ctx} (h : CalB Γ) (c : Code) : CalB (Γ.goto c) := h

/-- as wpAny, where the claim's caller is on the stack -/
structure wpC {α : Type} (M : Model) (A : Around) (t : Sem α) (Q : α → Shared → Prop) (E : Value → Shared → Prop) (s : Shared) : Prop where
  go : ∀ Γ p, Γ.In A → Cal Γ → wp M Γ t (fun a _ s' => Q a s') (fun e _ s' => E e s') p s
structure codeC (M : Model) (A : Around) (c : Code) (R : Result → Shared → Prop) (s : Shared) : Prop where
  go : ∀ Γ p, Γ.code = c → Γ.Below A → CalB Γ → wpCode M Γ R p s

section
variable {α β : Type} {M : Model} {A : Around} {E : Value → Shared → Prop} {s : Shared}
theorem wpC_of {t : Sem α} {Q : α → Shared → Prop} (h : wpAny M A t Q E s) : wpC M A t Q E s := ⟨fun Γ p hΓ _ => h Γ p hΓ⟩
theorem codeC_of {c : Code} {R : Result → Shared → Prop} (h : codeAny M A c R s) : codeC M A c R s := ⟨fun Γ p hc hΓ _ => h Γ p hc hΓ⟩
theorem wpC_pure {a : α} {Q : α → Shared → Prop} (h : Q a s) : wpC M A (pure a) Q E s := ⟨fun _ _ _ _ => h⟩
theorem wpC_mono {t : Sem α} {Q Q' : α → Shared → Prop} {E' : Value → Shared → Prop} (h : wpC M A t Q E s) (hQ : ∀ a s, Q a s → Q' a s) (hE : ∀ e s, E e s → E' e s) : wpC M A t Q' E' s :=
  ⟨fun Γ p hΓ hC => Sem.wp_mono M Γ t (fun a _ s => hQ a s) (fun e _ s => hE e s) p s (h.go Γ p hΓ hC)⟩
theorem wpC_bind {m : Sem α} {f : α → Sem β} {Q : β → Shared → Prop} (h : wpC M A m (fun a s' => wpC M A (f a) Q E s') E s) : wpC M A (m >>= f) Q E s := ⟨fun Γ p hΓ hC => by
  rw [Sem.wp_bind']
  exact Sem.wp_mono M Γ m (fun a p' s' h' => h'.go Γ p' hΓ hC) (fun _ _ _ h' => h') p s (h.go Γ p hΓ hC)⟩
/-- a first step that asks nothing of the caller -/
theorem wpC_bindA {m : Sem α} {f : α → Sem β} {Q : β → Shared → Prop} (h : wpAny M A m (fun a s' => wpC M A (f a) Q E s') E s) : wpC M A (m >>= f) Q E s := wpC_bind (wpC_of h)
theorem wpC_tryCatch {m : Sem α} {k : Value → Sem α} {Q : α → Shared → Prop} (h : wpC M A m Q (fun e s' => wpC M A (k e) Q E s') s) : wpC M A (tryCatch m k) Q E s := ⟨fun Γ p hΓ hC => by
  rw [Sem.wp_tryCatch']
  exact Sem.wp_mono M Γ m (fun _ _ _ h' => h') (fun e p' s' h' => h'.go Γ p' hΓ hC) p s (h.go Γ p hΓ hC)⟩
theorem wpC_onRaise {m : Sem α} {k : Value → Sem Unit} {Q : α → Shared → Prop} (h : wpC M A m Q (fun e s' => wpC M A (k e) (fun _ s'' => E e s'') E s') s) : wpC M A (m.onRaise k) Q E s := ⟨fun Γ p hΓ hC => by
  rw [Sem.wp_onRaise]
  exact Sem.wp_mono M Γ m (fun _ _ _ h' => h') (fun e p' s' h' => h'.go Γ p' hΓ hC) p s (h.go Γ p hΓ hC)⟩
theorem wpC_attempt {m : Sem α} {Q : Except Value α → Shared → Prop} (h : wpC M A m (fun a => Q (.ok a)) (fun e => Q (.error e)) s) : wpC M A m.attempt Q E s := ⟨fun Γ p hΓ hC => by
  rw [Sem.wp_attempt]; exact h.go Γ p hΓ hC⟩
theorem wpC_holding {vs : List Value} {m : Sem α} {Q : α → Shared → Prop} (h : wpC M A m Q E s) : wpC M A (holding vs m) Q E s := ⟨fun Γ p hΓ hC => by
  rw [Sem.wp_holding]; exact h.go Γ p hΓ hC⟩
theorem wpC_standAt {pos : Pos} {Q : Unit → Shared → Prop} (h : Q () s) : wpC M A (standAt pos) Q E s := wpC_of (wpAny_standAt h)
theorem wpC_eq {t t' : Sem α} {Q : α → Shared → Prop} (e : t = t') (h : wpC M A t' Q E s) : wpC M A t Q E s := e ▸ h
theorem wpC_run {c : Code} {h : Option Value} {Q : Flow → Shared → Prop} (hc : codeC M (A.mark h) c (fun r s' => match r with | .ok f => Q f s' | .error e => E e s') s) (hnb : h ≠ some byPass := by intro x; cases x) :
    wpC M A (run c h) Q E s := ⟨fun Γ p hΓ hC => by rw [Sem.wp_run]; exact hc.go _ p rfl (hΓ.enter c h p hnb) (hC.enter c h p)⟩
theorem wpC_runValue {c : Code} {Q : Value → Shared → Prop} (hc : codeC M A c (fun r s' => match r with | .ok (.ret v) => Q v s' | .ok _ => False | .error e => E e s') s) : wpC M A (runValue c) Q E s := ⟨fun Γ p hΓ hC => by
  rw [Sem.wp_runValue]; exact hc.go _ p rfl (hΓ.enter c none p (by intro x; cases x)) (hC.enter c none p)⟩
theorem wpC_call {f : Value} {pos : List Value} {kw : List (Str × Value)} {Q : Value → Shared → Prop} (hc : codeC M A (.call f ⟨pos, kw⟩) (fun r s' => match r with | .ok (.ret v) => Q v s' | .ok _ => False | .error e => E e s') s) :
    wpC M A (call f pos kw) Q E s := wpC_runValue hc
theorem codeC_mono {c : Code} {R R' : Result → Shared → Prop} (h : codeC M A c R s) (hR : ∀ r s, R r s → R' r s) : codeC M A c R' s := ⟨fun Γ p hc hΓ hC => wpCode_mono hR (h.go Γ p hc hΓ hC)⟩
theorem codeC_of_tree {c : Code} {R : Result → Shared → Prop}
    (h : wpC M (A.under c) (M.den c) (fun fin s' => match fin with | .done f => R (.ok f) s' | .again c' => c'.quiet = true ∧ codeC M A c' R s') (fun e s' => R (.error e) s') s) : codeC M A c R s := ⟨fun Γ p hc hΓ hC => by
  rw [wpCode_iff_wp, hc]
  refine Sem.wp_mono M Γ _ (fun fin p' s' h' => ?_) (fun _ _ _ h' => h') p s (h.go Γ p (hc ▸ hΓ.in) (.inr hC))
  cases fin with
  | done f => exact h'
  | again c' => exact ⟨h'.1, h'.2.go (Γ.goto c') p' rfl (hΓ.goto c') hC⟩⟩
theorem codeC_loop {c : Code} {R : Result → Shared → Prop} (hq : c.quiet = true) (I : Nat → Shared → Prop)
    (turn : ∀ n s, I n s → wpC M (A.under c) (M.den c) (fun fin s' => match fin with | .done f => R (.ok f) s' | .again c' => (c' = c ∧ ∃ m, m < n ∧ I m s') ∨ (c'.quiet = true ∧ codeC M A c' R s')) (fun e s' => R (.error e) s') s)
    (n : Nat) (h : I n s) : codeC M A c R s := by
  induction n using Nat.strongRecOn generalizing s with
  | ind n ih =>
    refine codeC_of_tree (wpC_mono (turn n s h) (fun fin s' hf => ?_) fun _ _ h' => h')
    cases fin with
    | done f => exact hf
    | again c' =>
      rcases hf with ⟨rfl, m, hm, hI⟩ | hf
      · exact ⟨hq, ih m hm hI⟩
      · exact hf
end
end Mine
end
section
open PySem PySem.W PyProof.Rows PySem.Calls
open Sem (wp)
set_option Elab.async false
set_option maxRecDepth 100000
set_option linter.unusedVariables false
namespace Mine
theorem cal0 : Cal ⟨.builtin "claim.caller" {}, none, none, [], none⟩ := .inl rfl

/-- what the head asks of the call, where the caller is on the stack -/
abbrev WalkC (q : Program) (loose : List Str) (XP : (Str → Option Value) → Heap → Prop) (YP : World → Heap → Prop) (r : RowW) (d : DefRec) (kwd : List (Str × Expr)) (run : Value → List Value → Sem Value) : Prop :=
  ∀ (w : World) (s₀ s₁ : Shared) (mg mb : Str → Option Value), Ground q loose r.records XP w s₀ mg mb s₁.heap → YP w s₁.heap → ∀ (a : Addr) (o : Obj) (pm cd doc dV kV : Value), s₁.heap.get? a = some o →
    o.data = .func { docDef d.name d.params d.body d.scope pm cd doc with defaults := dV, kwdefaults := kV } → s₁.heap.CodeRec cd d.name → Dflts mg s₁.heap d.params kwd dV kV → mg d.name = some (.ref a) → s₁.gens = #[] →
    ∀ (args : List WData) (vals : List Value) (as : List Addr), r.claim.pre args = true → WData.layableAll args = true → ReadsAllW r.records (classAt s₀.heap) s₁.heap vals args as → (∃ ord sL, layAllW r.records (classAt s₀.heap) w.params ord args sL = some (vals, s₁)) → WellAll w.params s₁.heap vals args → (∀ a ∈ as, (a == sysModules) = false) →
      wpC (model r.prog w) callerA (run (.ref a) vals) (fun v s' => GoodWG r.claim (classAt s₀.heap) (ExcName.means s₀.heap) args s₁ (.ok (.ret v)) s')
        (fun e s' => GoodWG r.claim (classAt s₀.heap) (ExcName.means s₀.heap) args s₁ (.error e) s') s₁

theorem ends_at {prog : Program} {w : World} {t : Sem Fin} {s : Shared} {R : Result → Shared → Prop} (hreg : s.asleep)
    (h : wpC (model prog w) callerA t (fun fin s' => ∃ f, fin = .done f ∧ (R (.ok f) s' ∧ leftWithCleanup s'.gens = false)) (fun e s' => R (.error e) s' ∧ leftWithCleanup s'.gens = false) s) :
    ∃ n r s' s'', runN (denote table) prog w n s ⟨t, .builtin "claim.caller" {}, default, []⟩ = .halted (outcomeOf r) s' ∧
      schedN (denote table) prog w n (.single s ⟨t, .builtin "claim.caller" {}, default, []⟩) = .halted (outcomeOf r) s' ∧ s'.forget = s''.forget ∧ R r s'' := by
  have h' := Sem.wp_mono _ _ t (post' := Sem.finPost (model prog w) ⟨.builtin "claim.caller" {}, none, none, [], none⟩ fun r s' => R r s' ∧ leftWithCleanup s'.gens = false) (fun fin p' s' h' => by
    obtain ⟨f, rfl, hf⟩ := h'
    exact hf) (fun _ _ _ h' => h') default s (h.go _ default caller_in cal0)
  obtain ⟨n, r, s₁, s₂, hs, hn, hfo, hR⟩ := wp_halts_full (M := model prog w) (R := R) hreg h'
  exact ⟨n, r, s₂, s₁, hn, hs, hfo, hR⟩

theorem call_from {c : ClaimW} {tree : List Value → Sem Fin} {w : World} {s : Shared} {free : Addr → Prop} {gens : Prop} {kept : Heap → Prop} (hz : s.asleep) (hgens : s.gens = #[])
    (hspec : ∀ args, c.pre args = true → WData.layableAll args = true → ∀ ord : List DictEntry → List DictEntry, (∀ l, (ord l).Perm l) →
      ∃ vs s₁, layAllW c.records (classAt s.heap) w.params ord args s = some (vs, s₁) ∧
        wpC (model c.prog w) callerA (tree vs) (fun fin s' => ∃ f, fin = .done f ∧ (c.Ends s args vs s₁ (.ok f) s' ∧ s'.os = s.os ∧ AllBare s'.gens ∧ kept s'.heap))
          (fun e s' => c.Ends s args vs s₁ (.error e) s' ∧ s'.os = s.os ∧ AllBare s'.gens ∧ kept s'.heap) s₁) :
    c.CallFrom (fun vs => ⟨tree vs, .builtin "claim.caller" {}, default, []⟩) w free gens kept s := by
  intro args hpre hlay ord hord
  obtain ⟨vs, s₁, hlaid, hcode⟩ := hspec args hpre hlay ord hord
  have hal := layAllW_rest _ _ _ hlaid
  obtain ⟨k, r, s', s'', hrun, hsched, hfo, hcase, hos, hkp⟩ := ends_at (prog := c.prog) (w := w) (t := tree vs) (s := s₁) (R := fun r s' => c.Ends s args vs s₁ r s' ∧ s'.os = s.os ∧ kept s'.heap)
    (Shared.asleep_of_life hal.2.2.2 hz)
    (wpC_mono hcode (fun fin s' ⟨f, e, h1, h2, h3, h4⟩ => ⟨f, e, ⟨h1, h2, h4⟩, leftWithCleanup_false_of_bare h3⟩) fun e s' ⟨h1, h2, h3, h4⟩ => ⟨⟨h1, h2, h4⟩, leftWithCleanup_false_of_bare h3⟩)
  obtain ⟨eh, _, _, eo, _⟩ := Shared.forget_eq hfo
  have hcase := hcase.congr eh
  have hkp : kept s'.heap := by first | exact eh ▸ hkp | (rw [eh] at hkp; exact hkp) | (rw [← eh] at hkp; exact hkp)
  rw [← eo] at hos
  have hlife : s'.heap.life = s.heap.life := (runN_life _ _ _ hrun).trans hal.2.2.2
  refine ⟨vs, s₁, hlaid, k, _, s', hsched, ?_, (fun _ i x hx => by rw [hgens] at hx; simp at hx), hkp, by rw [hlife], Shared.rest_eq hos⟩
  rcases hcase with ⟨v, rfl, d1, d2, d3, d4, d5⟩ | ⟨e, ob, cls, rfl, d1, d2, d3, d4, d5⟩
  · exact .inl ⟨v, rfl, d1, d2, d3, fun b o y _ => d4 b o y, d5⟩
  · exact .inr ⟨e, ob, cls, rfl, d1, d2, d3, d4, fun b o y _ => d5 b o y⟩

theorem PySem.W.holds_open {r : OpenRow} {q : Program} {loose : List Str} {Xt : Shared → Bool} {XP : (Str → Option Value) → Heap → Prop} {α : Type} {Yf : Shared → α} {Ya : World → α} {YP : World → Heap → Prop} {d : DefRec} {kwd : List (Str × Expr)} {N : Nat}
    (left : LeftO r.prog q loose Xt Yf Ya N) (hY : ∀ w s, Yf s = Ya w → YP w s.heap) (hYk : ∀ w h h', YP w h → (∀ b o, h.get? b = some o → h'.get? b = some o) → YP w h')
    (hX : ∀ s, Xt s = true → XP (s.heap.nsMap mainGlobals) s.heap) (hXk : ∀ mg h h', XP mg h → (∀ b o, h.get? b = some o → h'.get? b = some o) → XP mg h')
    (hdef : defOf q r.name = some (d, kwd)) (hp : r.prog.theDef r.name = some (d.params, d.body, d.scope)) (hk : kwWritten? d.params.kwonlyargs d.params.kw_defaults = some kwd) (hRf : ∀ s, Xt s = true → RecFacts r.records s.heap) (hwr : (!r.writes || r.records.isEmpty) = true)
    (k1 : r.wellSaid = true) (ok : (chainsOk q && opensWell r.prog && (frees r.toRowW && r.within.isEmpty)) = true) (hb : r.prog.bare) (hw : r.toRowW.promised)
    (call : WalkC q loose XP YP r.toRowW d kwd fun f vs => PySem.call f vs) : r.Holds := by
  refine ⟨k1, hw, ?_⟩
  obtain ⟨ok, k5⟩ := Bool.and_eq_true_iff.mp ok
  obtain ⟨hch, o1⟩ := Bool.and_eq_true_iff.mp ok
  obtain ⟨k5, k6⟩ := Bool.and_eq_true_iff.mp k5
  obtain ⟨hsame, hu, ha, hap, hm⟩ := frees_parts k5
  refine ⟨⟨hb, o1, by show r.toRowW.makers.map _ = []; rw [hm]; rfl⟩, hw.witness, fun w => ⟨(left.behind hX hch w).1, fun s' hs' => ?_⟩⟩
  obtain ⟨s₀, hf, hg0, s, hT, hz, hgens, hg, G00, y⟩ := (left.behind (XP := fun mg h => XP mg h ∧ RecFacts r.records h) (fun s hs => ⟨hX s hs, hRf s hs⟩) hch w).2 s' hs'
  have G0 : Ground q loose [] XP w s (s.heap.nsMap mainGlobals) (s.heap.nsMap builtinsNs) s.heap := ⟨G00.T, G00.B, G00.D, G00.TE, G00.TD, G00.W, G00.X.1, G00.cls, G00.has, G00.apart, G00.once, G00.K⟩
  have RF := G00.X.2
  refine ⟨s₀, hf, hg0, s, hT, (fun n hn => ?_), RF.1, RF.2.1, ?_⟩
  · obtain rfl : n = r.name := by split at hn <;> simp_all
    exact pinned_of_view hg G0 hdef hp hk
  have hgens : s.gens = #[] := Array.eq_empty_of_size_eq_zero (beq_iff_eq.mp hgens)
  have G : Ground q loose r.records XP w s _ _ s.heap := RF.ground G0
  refine call_from (c := r.toRowW.claim) hz hgens fun args hpre hlay ord hord => ?_
  obtain ⟨⟨vs, s₁⟩, hlaid⟩ := Option.isSome_iff_exists.mp (layAllW_isSome (P := w.params) (ord := ord) G.has args r.args s (pre_splitW hpre).1)
  have keeps := layAllW_keeps _ _ _ hlaid
  have hal := layAllW_rest _ _ _ hlaid
  obtain ⟨as, hrd, hin, hold⟩ := reads_layAllW hord _ _ _ hlaid hlay s₁.heap (fun _ _ e => e)
  have L : Laid r.records w s s₁ args vs as := ⟨⟨ord, hord, hlaid⟩, hrd, hin, hold, keeps, hal.1.trans hgens, hal.2.2.1⟩
  have G₁ := G.keeps hXk keeps
  obtain ⟨a, o, pm, cd, doc, dV, kV, h1, h2, h3, h4, h5⟩ := G₁.fn hdef
  have h := call w s s₁ _ _ G₁ (hYk _ _ _ (hY w s y) keeps) a o pm cd doc dV kV h2 h3 h4 h5 (defOf_name hdef ▸ h1) L.gens args vs as hpre hlay L.reads ⟨ord, s, hlaid⟩ L.well (L.low G.low)
  have hi := ident_freeW hu ha hap
  have hwi : r.toRowW.claim.within = [] := List.isEmpty_iff.mp k6
  refine ⟨vs, s₁, hlaid, wpC_bindA (wpAny_nsGet G₁.T.g ?_)⟩
  rw [h1]
  refine wpC_bind (wpC_mono h (fun v s' g => wpC_pure ⟨_, rfl, ?_⟩) fun e s' g => ?_)
  · have z := g.laid (c := r.toRowW.claim) hsame hwi hi L
    exact ⟨z.1, z.2.1, z.2.2, fun q => ⟨namesKept_of hT hg _ keeps g.2.1.old, noTable hwr q⟩⟩
  · have z := g.laid (c := r.toRowW.claim) hsame hwi hi L
    exact ⟨z.1, z.2.1, z.2.2, fun q => ⟨namesKept_of hT hg _ keeps g.2.1.old, noTable hwr q⟩⟩
end Mine
end
section
open PySem PySem.W PyProof.Rows
set_option Elab.async false
namespace Mine
set_option maxRecDepth 100000 in
set_option maxHeartbeats 8000000 in
open_top hd for PySem.Challenge.rw_rl0147_01
end Mine
end
section
open PySem PySem.W PyProof.Rows PySem.Calls
set_option Elab.async false
set_option maxRecDepth 100000
namespace Mine

/-- plain data -/
inductive D where
  | none
  | bool (b : Bool)
  | int (i : Int)
  | str (x : Str)
  | tup (l : List D)
  | lst (l : List D)
  | obj (a : Addr)

mutual
/-- a value bears a datum in a heap, by objects that stand aside from F -/
inductive Rep (F : Addr → Prop) (h : Heap) : Value → D → Prop where
  | none : Rep F h .none .none
  | bool (b : Bool) : Rep F h (.bool b) (.bool b)
  | int (i : Int) (t : Tok) : Rep F h (.int i t) (.int i)
  | str (x : Str) (t : Tok) : Rep F h (.str x t) (.str x)
  | tup {a : Addr} {vs : List Value} {ds : List D} {n : Nat} : ¬ F a → h.get? a = some { cls := .type "tuple", data := .seq vs.toArray n } → Reps F h vs ds → Rep F h (.ref a) (.tup ds)
  | lst {a : Addr} {vs : List Value} {ds : List D} {n : Nat} : ¬ F a → h.get? a = some { cls := .type "list", data := .seq vs.toArray n } → Reps F h vs ds → Rep F h (.ref a) (.lst ds)
  | obj (a : Addr) : Rep F h (.ref a) (.obj a)
inductive Reps (F : Addr → Prop) (h : Heap) : List Value → List D → Prop where
  | nil : Reps F h [] []
  | cons {v : Value} {d : D} {vs : List Value} {ds : List D} : Rep F h v d → Reps F h vs ds → Reps F h (v :: vs) (d :: ds)
end

section
variable {F : Addr → Prop} {h : Heap}
theorem Rep.isTup {v : Value} {ds : List D} (r : Rep F h v (.tup ds)) : ∃ a vs n, v = .ref a ∧ h.get? a = some { cls := .type "tuple", data := .seq vs.toArray n } ∧ Reps F h vs ds := by
  cases r with | tup _ e r => exact ⟨_, _, _, rfl, e, r⟩
theorem Rep.isLst {v : Value} {ds : List D} (r : Rep F h v (.lst ds)) : ∃ a vs n, v = .ref a ∧ h.get? a = some { cls := .type "list", data := .seq vs.toArray n } ∧ Reps F h vs ds := by
  cases r with | lst _ e r => exact ⟨_, _, _, rfl, e, r⟩
theorem Rep.isLstF {v : Value} {ds : List D} (r : Rep F h v (.lst ds)) : ∃ a vs n, v = .ref a ∧ ¬ F a ∧ h.get? a = some { cls := .type "list", data := .seq vs.toArray n } ∧ Reps F h vs ds := by
  cases r with | lst f e r => exact ⟨_, _, _, rfl, f, e, r⟩
theorem Rep.isTupF {v : Value} {ds : List D} (r : Rep F h v (.tup ds)) : ∃ a vs n, v = .ref a ∧ ¬ F a ∧ h.get? a = some { cls := .type "tuple", data := .seq vs.toArray n } ∧ Reps F h vs ds := by
  cases r with | tup f e r => exact ⟨_, _, _, rfl, f, e, r⟩
theorem Rep.isStr {v : Value} {x : Str} (r : Rep F h v (.str x)) : ∃ t, v = .str x t := by cases r with | str _ t => exact ⟨t, rfl⟩
theorem Rep.isInt {v : Value} {x : Int} (r : Rep F h v (.int x)) : ∃ t, v = .int x t := by cases r with | int _ t => exact ⟨t, rfl⟩
theorem Rep.isBool {v : Value} {x : Bool} (r : Rep F h v (.bool x)) : v = .bool x := by cases r with | bool _ => rfl
theorem Rep.isNone {v : Value} (r : Rep F h v .none) : v = .none := by cases r with | none => rfl
theorem Rep.isObj {v : Value} {a : Addr} (r : Rep F h v (.obj a)) : v = .ref a := by cases r with | obj _ => rfl
theorem isList_of {a : Addr} {xs : Array Value} {n : Nat} (e : h.get? a = some { cls := .type "list", data := .seq xs n }) : h.IsList a xs := ⟨_, e, rfl, n, rfl⟩
theorem isTup_of {a : Addr} {xs : Array Value} {n : Nat} (e : h.get? a = some { cls := .type "tuple", data := .seq xs n }) : IsTup h a xs := ⟨_, e, rfl, n, rfl⟩
theorem Reps.length : ∀ {vs : List Value} {ds : List D}, Reps F h vs ds → vs.length = ds.length
  | _, _, .nil => rfl
  | _, _, .cons _ r => by simp [r.length]
theorem Reps.get : ∀ {vs : List Value} {ds : List D}, Reps F h vs ds → ∀ {i : Nat} {d : D}, ds[i]? = some d → ∃ v, vs[i]? = some v ∧ Rep F h v d
  | _, _, .nil, i, d, e => by simp at e
  | _, _, .cons x r, 0, d, e => by simp at e; subst e; exact ⟨_, by simp, x⟩
  | _, _, .cons x r, i + 1, d, e => by simp at e; simpa using r.get e
theorem Reps.getv : ∀ {vs : List Value} {ds : List D}, Reps F h vs ds → ∀ {i : Nat} {v : Value}, vs[i]? = some v → ∃ d, ds[i]? = some d ∧ Rep F h v d
  | _, _, .nil, i, d, e => by simp at e
  | _, _, .cons x r, 0, d, e => by simp at e; subst e; exact ⟨_, by simp, x⟩
  | _, _, .cons x r, i + 1, d, e => by simp at e; simpa using r.getv e
theorem Reps.append : ∀ {vs ws : List Value} {ds es : List D}, Reps F h vs ds → Reps F h ws es → Reps F h (vs ++ ws) (ds ++ es)
  | _, _, _, _, .nil, y => y
  | _, _, _, _, .cons x r, y => .cons x (r.append y)
theorem Reps.take : ∀ {vs : List Value} {ds : List D}, Reps F h vs ds → ∀ n, Reps F h (vs.take n) (ds.take n)
  | _, _, .nil, n => by simpa using Reps.nil
  | _, _, .cons x r, 0 => .nil
  | _, _, .cons x r, n + 1 => .cons x (r.take n)
theorem Reps.drop : ∀ {vs : List Value} {ds : List D}, Reps F h vs ds → ∀ n, Reps F h (vs.drop n) (ds.drop n)
  | _, _, .nil, n => by simpa using Reps.nil
  | _, _, .cons x r, 0 => .cons x r
  | _, _, .cons x r, n + 1 => r.drop n
end

/-- the table of the inner codes of _platform's code -/
abbrev PL : Addr := 61
abbrev PC : Addr := 65

def Tab (h : Heap) : Prop :=
  ∃ ps : Array Value, h.IsCode PC PL ps ∧ h.TableAt PC PL ps ∧ (ps = #[] ∨ ∃ q, ps = #[rawInt 49, rawInt 24, .ref q])

/-- what stands from one heap to a later one -/
structure Kp (H₀ h h' : Heap) : Prop where
  keep : ∀ b o, h.get? b = some o → b ≠ PL → o.cls ≠ .type "frame" → h'.get? b = some o
  frm : ∀ b o, h.get? b = some o → b ≠ PL → ∃ o', h'.get? b = some o' ∧ o'.cls = o.cls ∧ o'.data = o.data
  old : ∀ b o, H₀.get? b = some o → b ≠ PL → h.get? b = some o → h'.get? b = some o
  tab : Tab h → Tab h'

theorem Kp.refl (H₀ h : Heap) : Kp H₀ h h := ⟨fun _ _ e _ _ => e, fun _ o e _ => ⟨o, e, rfl, rfl⟩, fun _ _ _ _ e => e, id⟩
theorem Kp.trans {H₀ h h' h'' : Heap} (x : Kp H₀ h h') (y : Kp H₀ h' h'') : Kp H₀ h h'' where
  keep b o e p c := y.keep b o (x.keep b o e p c) p c
  frm b o e p := by
    obtain ⟨o', e', c', d'⟩ := x.frm b o e p
    obtain ⟨o'', e'', c'', d''⟩ := y.frm b o' e' p
    exact ⟨o'', e'', c''.trans c', d''.trans d'⟩
  old b o a p e := y.old b o a p (x.old b o a p e)
  tab t := y.tab (x.tab t)
theorem Tab.keeps {h h' : Heap} (t : Tab h) (k : ∀ b o, h.get? b = some o → h'.get? b = some o) : Tab h' := by
  obtain ⟨ps, a, b, c⟩ := t
  exact ⟨ps, a.keeps k, b.keeps k, c⟩
theorem Kp.of_keep {H₀ h h' : Heap} (k : ∀ b o, h.get? b = some o → h'.get? b = some o) : Kp H₀ h h' :=
  ⟨fun b o e _ _ => k b o e, fun b o e _ => ⟨o, k b o e, rfl, rfl⟩, fun b o _ _ e => k b o e, fun t => t.keeps k⟩
theorem Kp.push (H₀ h : Heap) (o : Obj) : Kp H₀ h (h.push o) := .of_keep fun _ _ e => Heap.get?_push_of_some o e

mutual
theorem Rep.same {F F' : Addr → Prop} {h h' : Heap} (k : ∀ b o, h.get? b = some o → ¬ F b → o.cls = .type "tuple" ∨ o.cls = .type "list" → (∃ xs n, o.data = .seq xs n) → h'.get? b = some o ∧ ¬ F' b) : ∀ {v : Value} {d : D}, Rep F h v d → Rep F' h' v d
  | _, _, .none => .none
  | _, _, .bool b => .bool b
  | _, _, .int i t => .int i t
  | _, _, .str x t => .str x t
  | _, _, .tup f e r => .tup (k _ _ e f (.inl rfl) ⟨_, _, rfl⟩).2 (k _ _ e f (.inl rfl) ⟨_, _, rfl⟩).1 (Reps.same k r)
  | _, _, .lst f e r => .lst (k _ _ e f (.inr rfl) ⟨_, _, rfl⟩).2 (k _ _ e f (.inr rfl) ⟨_, _, rfl⟩).1 (Reps.same k r)
  | _, _, .obj a => .obj a
theorem Reps.same {F F' : Addr → Prop} {h h' : Heap} (k : ∀ b o, h.get? b = some o → ¬ F b → o.cls = .type "tuple" ∨ o.cls = .type "list" → (∃ xs n, o.data = .seq xs n) → h'.get? b = some o ∧ ¬ F' b) : ∀ {vs : List Value} {ds : List D}, Reps F h vs ds → Reps F' h' vs ds
  | _, _, .nil => .nil
  | _, _, .cons x r => .cons (Rep.same k x) (Reps.same k r)
end
theorem Rep.mono {F F' : Addr → Prop} {h : Heap} (k : ∀ a, F' a → F a) {v : Value} {d : D} (r : Rep F h v d) : Rep F' h v d := r.same fun b o e f _ _ => ⟨e, fun g => f (k b g)⟩
theorem Reps.mono {F F' : Addr → Prop} {h : Heap} (k : ∀ a, F' a → F a) {v : List Value} {d : List D} (r : Reps F h v d) : Reps F' h v d := r.same fun b o e f _ _ => ⟨e, fun g => f (k b g)⟩
theorem Tab.ne {h : Heap} (t : Tab h) {b : Addr} {o : Obj} (e : h.get? b = some o) (c : o.cls ≠ .none) : b ≠ PL := by
  rintro rfl
  obtain ⟨ps, _, ⟨_, e'⟩, _⟩ := t
  rw [e'] at e; cases e; exact c rfl
theorem Kp.seqs {H₀ h h' : Heap} (k : Kp H₀ h h') (t : Tab h) : ∀ b o, h.get? b = some o → o.cls = .type "tuple" ∨ o.cls = .type "list" → (∃ xs n, o.data = .seq xs n) → h'.get? b = some o := by
  intro b o e c _
  have n1 : o.cls ≠ .none := by rcases c with c | c <;> rw [c] <;> decide
  have n2 : o.cls ≠ .type "frame" := by rcases c with c | c <;> rw [c] <;> decide
  exact k.keep b o e (t.ne e n1) n2
theorem Rep.next {F : Addr → Prop} {H₀ h h' : Heap} (k : Kp H₀ h h') (t : Tab h) {v : Value} {d : D} (r : Rep F h v d) : Rep F h' v d := r.same fun b o e f c x => ⟨k.seqs t b o e c x, f⟩
theorem Reps.next {F : Addr → Prop} {H₀ h h' : Heap} (k : Kp H₀ h h') (t : Tab h) {v : List Value} {d : List D} (r : Reps F h v d) : Reps F h' v d := r.same fun b o e f c x => ⟨k.seqs t b o e c x, f⟩

/-- from one state to a later one -/
structure Nx0 (H₀ : Heap) (s s' : Shared) : Prop where
  kp : Kp H₀ s.heap s'.heap
  os : s'.os = s.os
  gens : AllBare s.gens → AllBare s'.gens
theorem Nx0.refl (H₀ : Heap) (s : Shared) : Nx0 H₀ s s := ⟨.refl _ _, rfl, id⟩
theorem Nx0.trans {H₀ : Heap} {s s' s'' : Shared} (x : Nx0 H₀ s s') (y : Nx0 H₀ s' s'') : Nx0 H₀ s s'' :=
  ⟨x.kp.trans y.kp, y.os.trans x.os, fun g => y.gens (x.gens g)⟩
theorem Nx0.of_keep {H₀ : Heap} {s : Shared} {h' : Heap} {k : Nat} (x : ∀ b o, s.heap.get? b = some o → h'.get? b = some o) : Nx0 H₀ s { s with heap := h', toks := k } :=
  ⟨.of_keep x, rfl, id⟩
theorem Nx0.toks {H₀ : Heap} {s : Shared} {k : Nat} : Nx0 H₀ s { s with toks := k } := ⟨.refl _ _, rfl, id⟩
structure Nx (H₀ : Heap) (s s' : Shared) : Prop extends Nx0 H₀ s s' where
  tk : s.toks ≤ s'.toks
theorem Nx.refl (H₀ : Heap) (s : Shared) : Nx H₀ s s := ⟨.refl _ _, Nat.le_refl _⟩
theorem Nx.trans {H₀ : Heap} {s s' s'' : Shared} (x : Nx H₀ s s') (y : Nx H₀ s' s'') : Nx H₀ s s'' := ⟨x.toNx0.trans y.toNx0, Nat.le_trans x.tk y.tk⟩

/-! ## the ground -/
abbrev PR : Program := PySem.Challenge.pw_rl0147_01
noncomputable abbrev KF (w : World) : Frag := Mine.hd.heap_39 w.params

structure Base (w : World) (H₀ : Heap) : Prop where
  K : (KF w).In H₀
  g : ∃ mg, H₀.Ns mainGlobals mg
  b : ∃ mb, H₀.Ns builtinsNs mb ∧ ∀ x : Str, x ≠ "__name__" → mb x = bootBuiltins x
  nolimit : H₀.NoLimit
  nodigits : ∃ mc, H₀.Ns cStatics mc ∧ mc "sys.int_max_str_digits" = none
  tab : Tab H₀
  bm : ∃ mg bm ob, BMod H₀ mainGlobals mg bm ob

structure HG (H₀ h : Heap) : Prop where
  old : ∀ b o, H₀.get? b = some o → b ≠ PL → h.get? b = some o
  tab : Tab h
theorem HG.next {H₀ h h' : Heap} (x : HG H₀ h) (k : Kp H₀ h h') : HG H₀ h' := ⟨fun b o e p => k.old b o e p (x.old b o e p), k.tab x.tab⟩
theorem HG.new {H₀ h : Heap} (x : HG H₀ h) : H₀.get? h.objs.size = none ∧ h.objs.size ≠ PL := by
  have hp : h.objs.size ≠ PL := by
    intro e
    obtain ⟨ps, _, ⟨_, e'⟩, _⟩ := x.tab
    exact absurd (Heap.lt_size e') (by rw [e]; exact Nat.lt_irrefl _)
  refine ⟨?_, hp⟩
  cases e : H₀.get? h.objs.size with
  | none => rfl
  | some o => exact absurd (Heap.lt_size (x.old _ _ e hp)) (Nat.lt_irrefl _)
theorem HG.kin {w : World} {H₀ h : Heap} (x : HG H₀ h) (B : Base w H₀) : (KF w).In h := by
  intro a o e
  refine x.old a o (B.K a o e) ?_
  rintro rfl
  have : (KF w).lookup PL = none := rfl
  rw [this] at e; cases e
theorem ns_hg {H₀ h : Heap} {a : Addr} {m : Str → Option Value} (n : H₀.Ns a m) (x : HG H₀ h) (p : a ≠ PL) : h.Ns a m :=
  n.at' fun o e => x.old a o e p

def FrOk (H₀ : Heap) (A : Around) (h : Heap) : Prop :=
  ∃ l, A.frames = some l ∧ ∀ e ∈ l, e.scope.kind ≠ .module ∧ ∃ f o, e.frame = some f ∧ f ≠ PL ∧ H₀.get? f = none ∧ h.get? f = some o ∧ o.cls = .type "frame" ∧ ∃ es n, o.data = .dict es n
theorem FrOk.next {H₀ : Heap} {A : Around} {h h' : Heap} (x : FrOk H₀ A h) (k : Kp H₀ h h') : FrOk H₀ A h' := by
  obtain ⟨l, e, y⟩ := x
  refine ⟨l, e, fun v hv => ?_⟩
  obtain ⟨a, f, o, b, c, d, e, g, es, n, dd⟩ := y v hv
  obtain ⟨o', e', c', d'⟩ := k.frm f o e c
  exact ⟨a, f, o', b, c, d, e', c'.trans g, es, n, d'.trans dd⟩

structure Rm (A : Around) (k : Nat) : Prop where
  hh : A.handled = none
  dp : A.depth + k < 900
  un : A.units + 60 * k < 9000
theorem Rm.mono {A : Around} {k j : Nat} (x : Rm A k) (h : j ≤ k) : Rm A j := ⟨x.hh, by have := x.dp; omega, by have := x.un; omega⟩
theorem Rm.deeper {A : Around} {k : Nat} (x : Rm A (k + 1)) (env : Env) : Rm (A.deeper env) k := ⟨x.hh, by have := x.dp; show A.depth + 1 + k < 900; omega, by have := x.un; show A.units + 3 + 60 * k < 9000; omega⟩
theorem Rm.in1 {A : Around} {k : Nat} (x : Rm A (k + 1)) : Rm A.in1 k := ⟨x.hh, by have := x.dp; show A.depth + k < 900; omega, by have := x.un; show A.units + 1 + 60 * k < 9000; omega⟩
theorem Rm.room {A : Around} {k : Nat} (x : Rm A k) : A.depth < recursionLimit := by have := x.dp; show A.depth < 1000; omega
theorem Rm.units {A : Around} {k : Nat} (x : Rm A k) : A.units < cLine := by have := x.un; show A.units < 9900; omega

structure Rd (w : World) (H₀ : Heap) (A : Around) (k : Nat) (s : Shared) : Prop where
  B : Base w H₀
  hg : HG H₀ s.heap
  fr : FrOk H₀ A s.heap
  gens : AllBare s.gens
  rm : Rm A k
  tk : s.toks ≠ 0
theorem Rd.next {w : World} {H₀ : Heap} {A : Around} {k : Nat} {s s' : Shared} (x : Rd w H₀ A k s) (n : Nx H₀ s s') : Rd w H₀ A k s' :=
  ⟨x.B, x.hg.next n.kp, x.fr.next n.kp, n.gens x.gens, x.rm, by have := n.tk; have := x.tk; omega⟩
theorem Rd.mono {w : World} {H₀ : Heap} {A : Around} {k j : Nat} {s : Shared} (x : Rd w H₀ A k s) (h : j ≤ k) : Rd w H₀ A j s := ⟨x.B, x.hg, x.fr, x.gens, x.rm.mono h, x.tk⟩

/-- the addresses set aside are live -/
def Live (F : Addr → Prop) (h : Heap) : Prop := ∀ a, F a → ∃ o, h.get? a = some o
theorem Live.next {F : Addr → Prop} {H₀ h h' : Heap} (x : Live F h) (k : Kp H₀ h h') (t : Tab h) : Live F h' := by
  intro a f
  obtain ⟨o, e⟩ := x a f
  by_cases p : a = PL
  · subst p
    obtain ⟨ps, _, ⟨_, e'⟩, _⟩ := k.tab t
    exact ⟨_, e'⟩
  · obtain ⟨o', e', _⟩ := k.frm a o e p
    exact ⟨o', e'⟩
theorem Live.new {F : Addr → Prop} {h : Heap} (x : Live F h) : ¬ F h.objs.size := fun f => by
  obtain ⟨o, e⟩ := x _ f
  exact absurd (Heap.lt_size e) (Nat.lt_irrefl _)
theorem Live.none (h : Heap) : Live (fun _ => False) h := fun _ f => f.elim

/-- a def's contract -/
structure Fn (w : World) (H₀ : Heap) (f : Value) (k : Nat) (args : List D) (r : D) : Prop where
  go : ∀ (F : Addr → Prop) (A : Around) (s : Shared) (vs : List Value) (Q E : Value → Shared → Prop), Live F s.heap → Rd w H₀ A k s → Reps F s.heap vs args → (∀ v s', Nx H₀ s s' → Rep F s'.heap v r → Q v s') →
    wpAny (model PR w) A (call f vs) Q E s

/-- a side fact of the frame: it hangs on the objects N and on rows that are not in M -/
structure Side where
  P : Heap → Prop
  N : Addr → Prop
  M : Addr → Prop
  ok : ∀ h b, P h → N b → ∃ o, h.get? b = some o ∧ (o.cls ≠ .none ∨ ∀ fs, o.data ≠ .fields fs)
  ext : ∀ h h', P h → (∀ b o, h.get? b = some o → N b → (o.cls ≠ .type "frame" → h'.get? b = some o) ∧ ∃ o', h'.get? b = some o' ∧ o'.cls = o.cls ∧ o'.data = o.data) →
    (∀ b o, h.get? b = some o → ¬ M b → o.cls = .type "tuple" ∨ o.cls = .type "list" → (∃ xs n, o.data = .seq xs n) → h'.get? b = some o) → P h'
def Side.triv : Side := ⟨fun _ => True, fun _ => False, fun _ => True, fun _ _ _ h => h.elim, fun _ _ _ _ _ => trivial⟩
def Side.and (J K : Side) : Side where
  P h := J.P h ∧ K.P h
  N b := J.N b ∨ K.N b
  M b := J.M b ∧ K.M b
  ok h b p n := n.elim (fun n => J.ok h b p.1 n) fun n => K.ok h b p.2 n
  ext h h' p n m := ⟨J.ext h h' p.1 (fun b o e x => n b o e (.inl x)) fun b o e x => m b o e fun y => x y.1, K.ext h h' p.2 (fun b o e x => n b o e (.inr x)) fun b o e x => m b o e fun y => x y.2⟩
theorem Side.kp (J : Side) {H₀ h h' : Heap} (t : Tab h) (k : Kp H₀ h h') (p : J.P h) : J.P h' := by
  refine J.ext h h' p (fun b o e n => ?_) fun b o e _ c x => k.seqs t b o e c x
  have hb : b ≠ PL := by
    rintro rfl
    obtain ⟨o', e', c⟩ := J.ok h _ p n
    obtain ⟨ps, _, ⟨_, e''⟩, _⟩ := t
    rw [e'] at e''; cases e''
    rcases c with c | c
    · exact c rfl
    · exact c _ rfl
  exact ⟨fun c => k.keep b o e hb c, k.frm b o e hb⟩
/-- one object alone is changed -/
theorem Side.but (J : Side) {h h' : Heap} {L : Addr} {o : Obj} (e : h.get? L = some o) (c : ¬ J.N L) (m : J.M L ∨ ∀ xs n, o.data ≠ .seq xs n) (x : ∀ b o, b ≠ L → h.get? b = some o → h'.get? b = some o) (p : J.P h) : J.P h' := by
  refine J.ext h h' p (fun b ob eb n => ?_) fun b ob eb hm _ ⟨xs, k, d⟩ => x b ob ?_ eb
  · have := x b ob (by rintro rfl; exact c n) eb
    exact ⟨fun _ => this, ob, this, rfl, rfl⟩
  · rintro rfl
    rcases m with m | m
    · exact hm m
    · rw [e] at eb; cases eb; exact m _ _ d
theorem Side.same (J : Side) {h h' : Heap} {L : Addr} (n : ∃ m, h.Ns L m) (off : ¬ J.N L) (x : Heap.SameBut L h h') (p : J.P h) : J.P h' := by
  obtain ⟨m, o, es, ep, e, d, _⟩ := n
  exact J.but e off (.inr fun xs k c => by rw [d] at c; cases c) (fun b o hb e => (x.2 b hb).trans e) p

structure Cx where
  w : World
  H₀ : Heap
  A : Around
  k : Nat
  env : Env
  sE : Shared
  F : Addr → Prop

def VarIs (env : Env) (h : Heap) (mv : Str → Option Value) (x : Str) (v : Value) : Prop :=
  (env.kindOf x = some .local ∧ mv x = some v) ∨
  ((env.kindOf x = some .cell ∨ env.kindOf x = some .free) ∧ ∃ c, env.cells.lookup x = some c ∧ h.IsCell c (some v))

structure St (X : Cx) (ρ : Str → Option D) (J : Side) (s : Shared) : Prop where
  rd : Rd X.w X.H₀ X.A X.k s
  nx : Nx0 X.H₀ X.sE s
  fresh : X.sE.heap.get? X.env.locals = none
  lnew : X.H₀.get? X.env.locals = none
  lpl : X.env.locals ≠ PL
  ek : X.env.scope.kind = .function
  eg : X.env.globals = mainGlobals
  eb : X.env.builtins = builtinsNs
  lcls : ∃ o, s.heap.get? X.env.locals = some o
  vars : ∃ mv, s.heap.Ns X.env.locals mv ∧ ∀ x d, ρ x = some d → ∃ v, VarIs X.env s.heap mv x v ∧ Rep X.F s.heap v d
  side : J.P s.heap
  live : Live X.F s.heap
  off : ¬ J.N X.env.locals

theorem St.tk {X : Cx} {ρ : Str → Option D} {J : Side} {s : Shared} (S : St X ρ J s) : s.toks ≠ 0 := S.rd.tk

theorem Tab.tabne {h : Heap} (t : Tab h) : ∃ ps, h.get? PL = some { cls := .none, data := .fields ps } := let ⟨ps, _, ⟨_, e⟩, _⟩ := t; ⟨ps, e⟩

theorem Kp.ns {H₀ h h' : Heap} (k : Kp H₀ h h') {a : Addr} {m : Str → Option Value} (n : h.Ns a m) (p : a ≠ PL) : h'.Ns a m := by
  obtain ⟨o, es, ep, e, d, r⟩ := n
  obtain ⟨o', e', _, d'⟩ := k.frm a o e p
  exact ⟨o', es, ep, e', d'.trans d, r⟩

theorem Kp.cell {H₀ h h' : Heap} (k : Kp H₀ h h') {a : Addr} {v : Option Value} (n : h.IsCell a v) (t : Tab h) : h'.IsCell a v := by
  obtain ⟨o, e, d⟩ := n
  have p : a ≠ PL := by
    rintro rfl
    obtain ⟨ps, e'⟩ := t.tabne
    rw [e] at e'; cases e'; cases d
  obtain ⟨o', e', _, d'⟩ := k.frm a o e p
  exact ⟨o', e', d'.trans d⟩

theorem St.next0 {X : Cx} {ρ : Str → Option D} {J : Side} {s s' : Shared} (S : St X ρ J s) (n : Nx0 X.H₀ s s') (htk : s'.toks ≠ 0) : St X ρ J s' where
  rd := ⟨S.rd.B, S.rd.hg.next n.kp, S.rd.fr.next n.kp, n.gens S.rd.gens, S.rd.rm, htk⟩
  nx := S.nx.trans n
  fresh := S.fresh
  lnew := S.lnew
  lpl := S.lpl
  ek := S.ek
  eg := S.eg
  eb := S.eb
  lcls := by
    obtain ⟨o, e⟩ := S.lcls
    obtain ⟨o', e', c', _⟩ := n.kp.frm _ o e S.lpl
    exact ⟨o', e'⟩
  vars := by
    obtain ⟨mv, h1, h2⟩ := S.vars
    refine ⟨mv, n.kp.ns h1 S.lpl, fun x d e => ?_⟩
    obtain ⟨v, q, r⟩ := h2 x d e
    refine ⟨v, ?_, r.next n.kp S.rd.hg.tab⟩
    rcases q with q | ⟨q, c, q1, q2⟩
    · exact .inl q
    · exact .inr ⟨q, c, q1, n.kp.cell q2 S.rd.hg.tab⟩
  side := J.kp S.rd.hg.tab n.kp S.side
  live := S.live.next n.kp S.rd.hg.tab
  off := S.off

theorem St.next {X : Cx} {ρ : Str → Option D} {J : Side} {s s' : Shared} (S : St X ρ J s) (n : Nx X.H₀ s s') : St X ρ J s' :=
  S.next0 n.toNx0 (by have := n.tk; have := S.rd.tk; omega)

/-- an expression's value -/
structure Ev (X : Cx) (ρ : Str → Option D) (J : Side) (e : Expr) (d : D) : Prop where
  go : ∀ (s : Shared) (Q E : Value → Shared → Prop), St X ρ J s → (∀ v s', Nx X.H₀ s s' → Rep X.F s'.heap v d → Q v s') → wpAny (model PR X.w) X.A (eval e X.env) Q E s
/-- a test's value -/
structure Tr (X : Cx) (ρ : Str → Option D) (J : Side) (e : Expr) (b : Bool) : Prop where
  go : ∀ (s : Shared) (Q : Bool → Shared → Prop) (E : Value → Shared → Prop), St X ρ J s → (∀ s', Nx X.H₀ s s' → Q b s') → wpAny (model PR X.w) X.A (isTrue e X.env (eval e X.env)) Q E s
/-- the values of a row of expressions -/
structure Evs (X : Cx) (ρ : Str → Option D) (J : Side) (pos : Pos) (es : List Expr) (ds : List D) : Prop where
  go : ∀ (s : Shared) (Q : List Value → Shared → Prop) (E : Value → Shared → Prop), St X ρ J s → (∀ vs s', Nx X.H₀ s s' → Reps X.F s'.heap vs ds → Q vs s') →
    wpAny (model PR X.w) X.A (spliced (backTo pos (starEach es X.env))) Q E s
/-- statements -/
structure Ss (X : Cx) (ρ : Str → Option D) (J : Side) (sts : List Stmt) (Φ : Flow → Shared → Prop) : Prop where
  go : ∀ (s : Shared) (E : Value → Shared → Prop), St X ρ J s → wpAny (model PR X.w) X.A (execs sts X.env) Φ E s

theorem ev_of {X : Cx} {ρ : Str → Option D} {J : Side} {e : Expr} {d : D}
    (h : ∀ (s : Shared) (Q E : Value → Shared → Prop), St X ρ J s → (∀ v s', Nx0 X.H₀ s s' → Rep X.F s'.heap v d → Q v s') → wpAny (model PR X.w) X.A (eval e X.env) Q E s) : Ev X ρ J e d :=
  ⟨fun s _ _ S q => wpAny_with_toks (Nat.le_refl s.toks) (h s _ _ S fun v s' n r htk => q v s' ⟨n, htk⟩ r)⟩
theorem tr_of {X : Cx} {ρ : Str → Option D} {J : Side} {e : Expr} {b : Bool}
    (h : ∀ (s : Shared) (Q : Bool → Shared → Prop) (E : Value → Shared → Prop), St X ρ J s → (∀ s', Nx0 X.H₀ s s' → Q b s') → wpAny (model PR X.w) X.A (isTrue e X.env (eval e X.env)) Q E s) : Tr X ρ J e b :=
  ⟨fun s _ _ S q => wpAny_with_toks (Nat.le_refl s.toks) (h s _ _ S fun s' n htk => q s' ⟨n, htk⟩)⟩
theorem evs_of {X : Cx} {ρ : Str → Option D} {J : Side} {pos : Pos} {es : List Expr} {ds : List D}
    (h : ∀ (s : Shared) (Q : List Value → Shared → Prop) (E : Value → Shared → Prop), St X ρ J s → (∀ vs s', Nx0 X.H₀ s s' → Reps X.F s'.heap vs ds → Q vs s') → wpAny (model PR X.w) X.A (spliced (backTo pos (starEach es X.env))) Q E s) : Evs X ρ J pos es ds :=
  ⟨fun s _ _ S q => wpAny_with_toks (Nat.le_refl s.toks) (h s _ _ S fun v s' n r htk => q v s' ⟨n, htk⟩ r)⟩
theorem fn_of {w : World} {H₀ : Heap} {f : Value} {k : Nat} {args : List D} {r : D}
    (h : ∀ (F : Addr → Prop) (A : Around) (s : Shared) (vs : List Value) (Q E : Value → Shared → Prop), Live F s.heap → Rd w H₀ A k s → Reps F s.heap vs args → (∀ v s', Nx0 H₀ s s' → Rep F s'.heap v r → Q v s') → wpAny (model PR w) A (call f vs) Q E s) : Fn w H₀ f k args r :=
  ⟨fun F A s vs _ _ fl R rp q => wpAny_with_toks (Nat.le_refl s.toks) (h F A s vs _ _ fl R rp fun v s' n r htk => q v s' ⟨n, htk⟩ r)⟩

def upd (ρ : Str → Option D) (x : Str) (d : D) : Str → Option D := fun y => if y = x then some d else ρ y
theorem upd_here {ρ : Str → Option D} {x : Str} {d : D} : upd ρ x d x = some d := if_pos rfl
theorem upd_there {ρ : Str → Option D} {x y : Str} {d e : D} (h : y ≠ x) (q : ρ y = some e) : upd ρ x d y = some e := (if_neg h).trans q

end Mine
end
section
open PySem PySem.W PyProof.Rows PySem.Calls
set_option Elab.async false
set_option maxRecDepth 100000
namespace Mine
def notStar : Expr → Bool
  | .Starred .. => false
  | _ => true
theorem starEach_cons {e : Expr} {rest : List Expr} {env : Env} (h : notStar e = true) : starEach (e :: rest) env = (false, eval e env) :: starEach rest env := by
  cases e <;> first | rfl | cases h
def allPlain : List Expr → Bool
  | [] => true
  | e :: r => notStar e && allPlain r
theorem backTo_any {env : Env} {pos : Pos} : ∀ {es : List Expr}, allPlain es = true → (backTo pos (starEach es env)).any (·.1) = false
  | [], _ => rfl
  | e :: r, h => by
    have h := Bool.and_eq_true_iff.mp h
    rw [starEach_cons h.1]
    show (false || (backTo pos (starEach r env)).any (·.1)) = false
    rw [backTo_any h.2]; rfl
theorem backTo_all {env : Env} {pos : Pos} : ∀ {es : List Expr}, allPlain es = true → (backTo pos (starEach es env)).all (fun x => !x.1) = true
  | [], _ => rfl
  | e :: r, h => by
    have h := Bool.and_eq_true_iff.mp h
    rw [starEach_cons h.1]
    show (true && (backTo pos (starEach r env)).all (fun x => !x.1)) = true
    rw [backTo_all h.2]; rfl
def plainBase : Expr → Bool
  | .Call (.Name _ _) [] [] _ => false
  | _ => true
theorem attrBase_plain {o : Expr} {n : Str} {env : Env} (h : plainBase o = true) : attributeBase o n env (eval o env) = eval o env := by
  unfold attributeBase
  split
  · cases h
  · rfl
def notSlice : Expr → Bool
  | .Slice _ _ none _ => false
  | _ => true
theorem subscripted_plain {i : Expr} {o j : Value} (h : notSlice i = true) : subscripted i false o j = operate [o, j] (getItem o j) := by
  cases i <;> first
    | rfl
    | (rename_i a b c d; cases c <;> first | rfl | (exact absurd h (by simp [notSlice])))
def plainTest : Expr → Bool
  | .UnaryOp .. | .BoolOp .. | .IfExp .. | .Compare .. => false
  | _ => true
theorem isTrue_of_plain {e : Expr} {env : Env} {w : Sem Value} (h : plainTest e = true) : PySem.isTrue e env w = (do let v ← w; standAt e.pos; holding [v] (truthy v)) := by
  cases e <;> first | rfl | cases h
def notComp : Expr → Bool
  | .ListComp .. | .SetComp .. | .DictComp .. => false
  | _ => true
theorem swaps_plain {e : Expr} {t : Option Expr} {n : Nat} {env : Env} (h : notComp e = true) : swapsWith e t n env = pure false := by
  cases e <;> first | rfl | cases h
def notSet : Expr → Bool
  | .Set .. => false
  | _ => true
theorem marks_plain {op : CmpOp} {e : Expr} (h : notSet e = true) : behindInMarks op e = false := by
  cases e <;> first | rfl | cases h
theorem few_plain {env : Env} {pos : Pos} {es : List Expr} (h : allPlain es = true) (hn : es.length < 29) : ((backTo pos (starEach es env)).all (fun x => !x.1) && (backToKw pos (keywordEach [] env)).all (fun x => x.1.isSome)
      && decide (es.length + ([] : List Keyword).length + (if ([] : List Keyword).isEmpty then 0 else 1) < 30)) = true := by
  rw [backTo_all h]
  have : decide (es.length + ([] : List Keyword).length + (if ([] : List Keyword).isEmpty then 0 else 1) < 30) = true := decide_eq_true (by simp; omega)
  rw [this]; rfl
end Mine
end
section
open PySem PySem.W PyProof.Rows PySem.Calls
set_option Elab.async false
set_option maxRecDepth 100000
set_option linter.unusedVariables false
namespace Mine
section
variable {X : Cx} {ρ : Str → Option D} {J : Side}

theorem ev_var {x : Str} {pos : Pos} {d : D} (h : ρ x = some d) (hd : (x == ("__debug__" : Str)) = false := by decide +kernel) (hc : (x == ("__classdict__" : Str)) = false := by decide +kernel) : Ev X ρ J (.Name x pos) d := by
  refine ⟨fun s Q E S q => ?_⟩
  obtain ⟨mv, n, v⟩ := S.vars
  obtain ⟨v, hv, r⟩ := v x d h
  refine wpAny_Name ?_ hd
  rcases hv with ⟨k, e⟩ | ⟨k | k, c, e1, e2⟩
  · exact wpAny_loadName_local S.ek k n e (q v s (.refl _ _) r)
  · exact wpAny_loadName_cell S.ek k e1 e2 (q v s (.refl _ _) r)
  · exact wpAny_loadName_free S.ek k e1 e2 (q v s (.refl _ _) r) hc

/-- a name of the text's top, or a built-in: its very value -/
structure EvV (X : Cx) (ρ : Str → Option D) (J : Side) (e : Expr) (v : Value) : Prop where
  go : ∀ (s : Shared) (Q E : Value → Shared → Prop), St X ρ J s → (∀ s', Nx X.H₀ s s' → Q v s') → wpAny (model PR X.w) X.A (eval e X.env) Q E s

theorem evv_glob {x : Str} {pos : Pos} {v : Value} (e : nsIn (KF X.w) mainGlobals x = some (some v)) (hx : X.env.kindOf x = some .globalImplicit)
    (hd : (x == ("__debug__" : Str)) = false := by decide +kernel) : EvV X ρ J (.Name x pos) v := by
  refine ⟨fun s Q E S q => ?_⟩
  obtain ⟨mg, g⟩ := S.rd.B.g
  have g' : s.heap.Ns X.env.globals mg := by rw [S.eg]; exact ns_hg g S.rd.hg (by decide)
  exact Name_function_global S.ek hx (loadGlobal_global g' (mg_of S.rd.B.K g e) (q s (.refl _ _))) hd

theorem evv_builtin {x : Str} {pos : Pos} {v : Value} (e : nsIn (KF X.w) mainGlobals x = some none) (hv : bootBuiltins x = some v) (hx : X.env.kindOf x = some .globalImplicit)
    (hn : x ≠ "__name__" := by decide +kernel) (hd : (x == ("__debug__" : Str)) = false := by decide +kernel) : EvV X ρ J (.Name x pos) v := by
  refine ⟨fun s Q E S q => ?_⟩
  obtain ⟨mg, g⟩ := S.rd.B.g
  obtain ⟨mb, b, hb⟩ := S.rd.B.b
  have g' : s.heap.Ns X.env.globals mg := by rw [S.eg]; exact ns_hg g S.rd.hg (by decide)
  have b' : s.heap.Ns X.env.builtins mb := by rw [S.eb]; exact ns_hg b S.rd.hg (by decide)
  exact Name_function_global S.ek hx (loadGlobal_builtin g' (mg_none_of S.rd.B.K g e) b' ((hb x hn).trans hv) (q s (.refl _ _))) hd

theorem ev_int {i : Int} {k : Nat} {pos : Pos} : Ev X ρ J (.Constant (.int i) k pos) (.int i) := ev_of fun _ _ _ _ q => wpAny_Constant_int (q _ _ .toks (.int _ _))
theorem ev_str {x : Str} {k : Nat} {pos : Pos} : Ev X ρ J (.Constant (.str x) k pos) (.str x) := ev_of fun _ _ _ _ q => wpAny_Constant_str (q _ _ .toks (.str _ _))
theorem ev_none {k : Nat} {pos : Pos} : Ev X ρ J (.Constant .none k pos) .none := ⟨fun _ _ _ _ q => wpAny_Constant_none (q _ _ (.refl _ _) .none)⟩
theorem ev_bool {b : Bool} {k : Nat} {pos : Pos} : Ev X ρ J (.Constant (.bool b) k pos) (.bool b) := ⟨fun _ _ _ _ q => wpAny_Constant_bool (q _ _ (.refl _ _) (.bool _))⟩

/-- two operands -/
theorem ev_bin {l r : Expr} {op : Operator} {pos : Pos} {dl dr d : D} (hl : Ev X ρ J l dl) (hr : Ev X ρ J r dr)
    (h : ∀ (s : Shared) (a b : Value) (Q E : Value → Shared → Prop), St X ρ J s → Rep X.F s.heap a dl → Rep X.F s.heap b dr → (∀ v s', Nx0 X.H₀ s s' → Rep X.F s'.heap v d → Q v s') → wpAny (model PR X.w) X.A (binaryOp op a b) Q E s) :
    Ev X ρ J (.BinOp l op r pos) d := by
  refine ev_of fun s Q E S q => ?_
  refine wpAny_BinOp (hl.go s _ _ S fun a s₁ n₁ r₁ => hr.go s₁ _ _ (S.next n₁) fun b s₂ n₂ r₂ => ?_)
  exact h s₂ a b Q E ((S.next n₁).next n₂) (r₁.next n₂.kp (S.next n₁).rd.hg.tab) r₂ fun v s' n r => q v s' ((n₁.trans n₂).toNx0.trans n) r
theorem ev_cmp {l r : Expr} {op : CmpOp} {pos : Pos} {dl dr d : D} (hl : Ev X ρ J l dl) (hr : Ev X ρ J r dr)
    (h : ∀ (s : Shared) (a b : Value) (Q E : Value → Shared → Prop), St X ρ J s → Rep X.F s.heap a dl → Rep X.F s.heap b dr → (∀ v s', Nx0 X.H₀ s s' → Rep X.F s'.heap v d → Q v s') → wpAny (model PR X.w) X.A (compareOp op a b) Q E s)
    (hm : notSet r = true := by rfl) :
    Ev X ρ J (.Compare l [op] [r] pos) d := by
  refine ev_of fun s Q E S q => ?_
  refine wpAny_Compare1 (hl.go s _ _ S fun a s₁ n₁ r₁ => hr.go s₁ _ _ (S.next n₁) fun b s₂ n₂ r₂ => ?_) (marks_plain hm)
  exact h s₂ a b Q E ((S.next n₁).next n₂) (r₁.next n₂.kp (S.next n₁).rd.hg.tab) r₂ fun v s' n r => q v s' ((n₁.trans n₂).toNx0.trans n) r

/-- what a comparison op gives on two data -/
structure Cm (X : Cx) (ρ : Str → Option D) (J : Side) (op : CmpOp) (dl dr : D) (b : Bool) : Prop where
  go : ∀ (s : Shared) (u v : Value) (Q E : Value → Shared → Prop), St X ρ J s → Rep X.F s.heap u dl → Rep X.F s.heap v dr → (∀ s', Nx0 X.H₀ s s' → Q (.bool b) s') → wpAny (model PR X.w) X.A (compareOp op u v) Q E s
theorem ev_compare {l r : Expr} {op : CmpOp} {pos : Pos} {dl dr : D} {b : Bool} (hl : Ev X ρ J l dl) (hr : Ev X ρ J r dr) (h : Cm X ρ J op dl dr b) (hm : notSet r = true := by rfl) :
    Ev X ρ J (.Compare l [op] [r] pos) (.bool b) :=
  ev_cmp hl hr (fun s u v Q E S ru rv q => h.go s u v Q E S ru rv fun s' n => q _ s' n (.bool b)) hm
theorem tr_compare {l r : Expr} {op : CmpOp} {pos : Pos} {dl dr : D} {b : Bool} (hl : Ev X ρ J l dl) (hr : Ev X ρ J r dr) (h : Cm X ρ J op dl dr b) (hm : notSet r = true := by rfl) :
    Tr X ρ J (.Compare l [op] [r] pos) b := by
  refine tr_of fun s Q E S q => ?_
  refine wpAny_isTrue_Compare1 (hl.go s _ _ S fun a s₁ n₁ r₁ => hr.go s₁ _ _ (S.next n₁) fun c s₂ n₂ r₂ => ?_) (marks_plain hm)
  exact h.go s₂ a c _ _ ((S.next n₁).next n₂) (r₁.next n₂.kp (S.next n₁).rd.hg.tab) r₂ fun s' n => wpAny_truthy_bool (q s' ((n₁.trans n₂).toNx0.trans n))

theorem cm_eq_str {x y : Str} : Cm X ρ J .Eq (.str x) (.str y) (x == y) := by
  refine ⟨fun s u v Q E S ru rv q => ?_⟩
  obtain ⟨t, rfl⟩ := ru.isStr; obtain ⟨t', rfl⟩ := rv.isStr
  exact PyProof.Rows.eq_str (q s (.refl _ _))
theorem cm_ne_str {x y : Str} : Cm X ρ J .NotEq (.str x) (.str y) (x != y) := by
  refine ⟨fun s u v Q E S ru rv q => ?_⟩
  obtain ⟨t, rfl⟩ := ru.isStr; obtain ⟨t', rfl⟩ := rv.isStr
  exact PyProof.Rows.ne_str (q s (.refl _ _))
theorem cm_lt_str {x y : Str} : Cm X ρ J .Lt (.str x) (.str y) (decide (x.cps.toList < y.cps.toList)) := by
  refine ⟨fun s u v Q E S ru rv q => ?_⟩
  obtain ⟨t, rfl⟩ := ru.isStr; obtain ⟨t', rfl⟩ := rv.isStr
  exact PyProof.Rows.lt_str (q s (.refl _ _))
theorem cm_gt_str {x y : Str} : Cm X ρ J .Gt (.str x) (.str y) (decide (y.cps.toList < x.cps.toList)) := by
  refine ⟨fun s u v Q E S ru rv q => ?_⟩
  obtain ⟨t, rfl⟩ := ru.isStr; obtain ⟨t', rfl⟩ := rv.isStr
  exact P.gt_str (q s (.refl _ _))
theorem cm_notin_str {x y : Str} : Cm X ρ J .NotIn (.str y) (.str x) (!(!(Builtin.Str.occurrences x y 0 x.length 1).isEmpty)) := by
  refine ⟨fun s u v Q E S ru rv q => ?_⟩
  obtain ⟨t, rfl⟩ := ru.isStr; obtain ⟨t', rfl⟩ := rv.isStr
  exact PyProof.Rows.notIn_str (q s (.refl _ _))
theorem cm_isnot_none {d : D} : Cm X ρ J .IsNot d .none (match d with | .none => false | _ => true) := by
  refine ⟨fun s u v Q E S ru rv q => ?_⟩
  cases rv.isNone
  refine isNot_none ?_
  cases ru <;> exact q s (.refl _ _)

theorem ev_add_int {l r : Expr} {pos : Pos} {a b : Int} (hl : Ev X ρ J l (.int a)) (hr : Ev X ρ J r (.int b)) : Ev X ρ J (.BinOp l .Add r pos) (.int (a + b)) :=
  ev_bin hl hr fun s u v Q E S ru rv q => by
    obtain ⟨t, rfl⟩ := ru.isInt; obtain ⟨t', rfl⟩ := rv.isInt
    exact PyProof.Rows.add_int (q _ _ .toks (.int _ _))
theorem ev_sub_int {l r : Expr} {pos : Pos} {a b : Int} (hl : Ev X ρ J l (.int a)) (hr : Ev X ρ J r (.int b)) : Ev X ρ J (.BinOp l .Sub r pos) (.int (a - b)) :=
  ev_bin hl hr fun s u v Q E S ru rv q => by
    obtain ⟨t, rfl⟩ := ru.isInt; obtain ⟨t', rfl⟩ := rv.isInt
    exact PyProof.Rows.sub_int (q _ _ .toks (.int _ _))
theorem ev_mod_int {l r : Expr} {pos : Pos} {a b : Int} (hl : Ev X ρ J l (.int a)) (hr : Ev X ρ J r (.int b)) (hb : b ≠ 0) : Ev X ρ J (.BinOp l .Mod r pos) (.int (a.fmod b)) :=
  ev_bin hl hr fun s u v Q E S ru rv q => by
    obtain ⟨t, rfl⟩ := ru.isInt; obtain ⟨t', rfl⟩ := rv.isInt
    exact mod_int' hb (q _ _ .toks (.int _ _))
theorem ev_floordiv_int {l r : Expr} {pos : Pos} {a b : Int} (hl : Ev X ρ J l (.int a)) (hr : Ev X ρ J r (.int b)) (hb : b ≠ 0) (hs : b.natAbs < 1073741824) : Ev X ρ J (.BinOp l .FloorDiv r pos) (.int (a.fdiv b)) :=
  ev_bin hl hr fun s u v Q E S ru rv q => by
    obtain ⟨t, rfl⟩ := ru.isInt; obtain ⟨t', rfl⟩ := rv.isInt
    exact PyProof.Rows.floordiv_int hb (q _ _ .toks (.int _ _)) (.inl (PyProof.noPylong_small hs))
theorem ev_pow_int {l r : Expr} {pos : Pos} {a b : Int} (hl : Ev X ρ J l (.int a)) (hr : Ev X ρ J r (.int b)) (h0 : 0 ≤ b) (h1 : b ≤ 1000) (h2 : a.natAbs < 2 ^ 64) : Ev X ρ J (.BinOp l .Pow r pos) (.int (a ^ b.toNat)) :=
  ev_bin hl hr fun s u v Q E S ru rv q => by
    obtain ⟨t, rfl⟩ := ru.isInt; obtain ⟨t', rfl⟩ := rv.isInt
    exact pow_int_small h0 (by omega) h2 (q _ _ .toks (.int _ _))
theorem ev_add_str {l r : Expr} {pos : Pos} {a b : Str} (hl : Ev X ρ J l (.str a)) (hr : Ev X ρ J r (.str b)) (hz : a.length + b.length ≤ sizeLine) : Ev X ρ J (.BinOp l .Add r pos) (.str (a ++ b)) :=
  ev_bin hl hr fun s u v Q E S ru rv q => by
    obtain ⟨t, rfl⟩ := ru.isStr; obtain ⟨t', rfl⟩ := rv.isStr
    exact PyProof.Rows.add_str (fun t' k => q _ _ .toks (.str _ _)) hz
theorem ev_add_lst {l r : Expr} {pos : Pos} {a b : List D} (hl : Ev X ρ J l (.lst a)) (hr : Ev X ρ J r (.lst b)) (hz : a.length + b.length ≤ sizeLine) : Ev X ρ J (.BinOp l .Add r pos) (.lst (a ++ b)) :=
  ev_bin hl hr fun s u v Q E S ru rv q => by
    obtain ⟨x, vs, n, rfl, e, r⟩ := ru.isLst; obtain ⟨y, ws, m, rfl, f, r'⟩ := rv.isLst
    refine P.add_list e f ?_ (by simp [r.length, r'.length]; exact hz)
    refine q _ _ (.of_keep fun b o e => Heap.get?_push_of_some _ e) ?_
    have k : Kp X.H₀ s.heap (s.heap.push { cls := .type "list", data := .seq (vs.toArray ++ ws.toArray) }) := .push _ _ _
    refine .lst (vs := vs ++ ws) (n := 0) S.live.new ?_ ((r.next k S.rd.hg.tab).append (r'.next k S.rd.hg.tab))
    simp only [List.append_toArray]
    exact Heap.get?_push_size _ rfl

theorem evs_nil {pos : Pos} : Evs X ρ J pos [] [] := ⟨fun s Q E S q => wpAny_items_nil (q [] s (.refl _ _) .nil)⟩
theorem evs_cons {pos : Pos} {e : Expr} {rest : List Expr} {d : D} {ds : List D} (he : Ev X ρ J e d) (hr : Evs X ρ J pos rest ds)
    (hs : notStar e = true := by rfl) : Evs X ρ J pos (e :: rest) (d :: ds) := by
  refine ⟨fun s Q E S q => ?_⟩
  refine wpAny_items_cons (he.go s _ _ S fun v s₁ n₁ r₁ => hr.go s₁ _ _ (S.next n₁) fun vs s₂ n₂ r₂ => ?_) (starEach_cons hs)
  exact q (v :: vs) s₂ (n₁.trans n₂) (.cons (r₁.next n₂.kp (S.next n₁).rd.hg.tab) r₂)
theorem ev_tuple {es : List Expr} {k : Nat} {pos : Pos} {ds : List D} (h : Evs X ρ J pos es ds) (hz : ds.length ≤ sizeLine) : Ev X ρ J (.Tuple es k pos) (.tup ds) := by
  refine ev_of fun s Q E S q => ?_
  refine Tuple_ (h.go s _ _ S fun vs s₁ n₁ r₁ => ?_)
  have k : Kp X.H₀ s₁.heap (s₁.heap.push { cls := .type "tuple", data := .seq vs.toArray }) := .push _ _ _
  refine wpAny_newObj_type ?_ (by show vs.toArray.size ≤ sizeLine; rw [List.size_toArray, r₁.length]; exact hz)
  exact q _ _ (n₁.toNx0.trans ⟨k, rfl, id⟩) (.tup (S.next n₁).live.new (Heap.get?_push_size _ rfl) (r₁.next k (S.next n₁).rd.hg.tab))
theorem ev_list {es : List Expr} {pos : Pos} {ds : List D} (h : Evs X ρ J pos es ds) (hz : ds.length ≤ sizeLine) : Ev X ρ J (.List es pos) (.lst ds) := by
  refine ev_of fun s Q E S q => ?_
  refine List_ (h.go s _ _ S fun vs s₁ n₁ r₁ => ?_)
  have k : Kp X.H₀ s₁.heap (s₁.heap.push { cls := .type "list", data := .seq vs.toArray }) := .push _ _ _
  refine wpAny_newObj_type ?_ (by show vs.toArray.size ≤ sizeLine; rw [List.size_toArray, r₁.length]; exact hz)
  exact q _ _ (n₁.toNx0.trans ⟨k, rfl, id⟩) (.lst (S.next n₁).live.new (Heap.get?_push_size _ rfl) (r₁.next k (S.next n₁).rd.hg.tab))

end
end Mine
end
section
open PySem PySem.W PyProof.Rows PySem.Calls
set_option Elab.async false
set_option maxRecDepth 100000
set_option linter.unusedVariables false
namespace Mine
section
variable {X : Cx} {ρ : Str → Option D} {J : Side}

def D.truth : D → Bool
  | .none => false
  | .bool b => b
  | .int i => i != 0
  | .str x => x.length != 0
  | .tup l => !l.isEmpty
  | .lst l => !l.isEmpty
  | .obj _ => true
def D.fits : D → Prop
  | .str x => x.length ≤ sizeLine
  | .tup l => l.length ≤ sizeLine
  | .lst l => l.length ≤ sizeLine
  | .obj _ => False
  | _ => True

theorem truthy_rep {d : D} {v : Value} {s : Shared} {Q : Bool → Shared → Prop} {E : Value → Shared → Prop} (r : Rep X.F s.heap v d) (hf : d.fits) (q : ∀ s', Nx0 X.H₀ s s' → Q d.truth s') :
    wpAny (model PR X.w) X.A (truthy v) Q E s := by
  cases r with
  | none => exact truthy_none (q s (.refl _ _))
  | bool b => exact wpAny_truthy_bool (q s (.refl _ _))
  | int i t => exact PyProof.Rows.truthy_int (q s (.refl _ _))
  | str x t =>
    have hx : x.length ≤ 16777216 := hf
    refine P.truthy_str (by omega) ?_
    have e : ((x.length : Int) != 0) = (x.length != 0) := by
      rcases Nat.eq_zero_or_pos x.length with h | h
      · rw [h]; rfl
      · rw [bne_iff_ne.mpr (show (x.length : Int) ≠ 0 by omega), bne_iff_ne.mpr (show x.length ≠ 0 by omega)]
    rw [e]; exact q _ .toks
  | tup hF e r =>
    rename_i a vs ds n
    have hl : ds.length ≤ 16777216 := hf
    have := r.length
    refine truthy_tuple (isTup_of e) (by simp; omega) ?_
    have e : (!vs.toArray.isEmpty) = (!ds.isEmpty) := by cases vs <;> cases ds <;> simp_all
    rw [e]; exact q _ .toks
  | lst hF e r =>
    rename_i a vs ds n
    have hl : ds.length ≤ 16777216 := hf
    have := r.length
    refine wpAny_truthy_list (isList_of e) (by simp; omega) ?_
    have e : (!vs.toArray.isEmpty) = (!ds.isEmpty) := by cases vs <;> cases ds <;> simp_all
    rw [e]; exact q _ .toks
  | obj a => exact hf.elim

theorem tr_val {e : Expr} {d : D} (h : Ev X ρ J e d) (hf : d.fits)
    (hk : plainTest e = true := by rfl) : Tr X ρ J e d.truth := by
  refine tr_of fun s Q E S q => ?_
  rw [isTrue_of_plain hk]
  exact wpAny_bind (h.go s _ _ S fun v s₁ n₁ r₁ => wpAny_bind (wpAny_standAt (wpAny_holding (truthy_rep r₁ hf fun s' n => q s' (n₁.toNx0.trans n)))))

theorem tr_and2 {x y : Expr} {pos : Pos} {a b : Bool} (hx : Tr X ρ J x a) (hy : a = true → Tr X ρ J y b) : Tr X ρ J (.BoolOp .And [x, y] pos) (a && b) := by
  refine tr_of fun s Q E S q => ?_
  refine wpAny_isTrue_BoolOp (wpAny_allTrue_And_cons (hx.go s _ _ S fun s₁ n₁ => ?_))
  cases a with
  | false => simpa using q s₁ n₁.toNx0
  | true => simpa using wpAny_allTrue_And_cons ((hy rfl).go s₁ _ _ (S.next n₁) fun s₂ n₂ => by
      cases b with
      | false => simpa using q s₂ (n₁.trans n₂).toNx0
      | true => simpa using wpAny_allTrue_And_nil (by simpa using q s₂ (n₁.trans n₂).toNx0))

theorem ev_and2 {x y : Expr} {pos : Pos} {a b : D} (hx : Ev X ρ J x a) (hf : a.fits) (hy : a.truth = true → Ev X ρ J y b) : Ev X ρ J (.BoolOp .And [x, y] pos) (if a.truth = true then b else a) := by
  refine ev_of fun s Q E S q => ?_
  refine wpAny_And2 (hx.go s _ _ S fun v s₁ n₁ r₁ => wpAny_with_toks (Nat.le_refl s₁.toks) (truthy_rep r₁ hf fun s₂ n₂ htk => ?_))
  have n₂' : Nx X.H₀ s₁ s₂ := ⟨n₂, htk⟩
  cases ht : a.truth with
  | false =>
    rw [ht] at q
    simpa using q v s₂ (n₁.toNx0.trans n₂) (r₁.next n₂.kp (S.next n₁).rd.hg.tab)
  | true =>
    rw [ht] at q
    simpa using (hy ht).go s₂ _ _ ((S.next n₁).next n₂') fun w s₃ n₃ r₃ => q w s₃ ((n₁.trans n₂').trans n₃).toNx0 (by simpa using r₃)

theorem ev_ifexp {t a b : Expr} {pos : Pos} {c : Bool} {d : D} (ht : Tr X ρ J t c) (ha : c = true → Ev X ρ J a d) (hb : c = false → Ev X ρ J b d) : Ev X ρ J (.IfExp t a b pos) d := by
  refine ev_of fun s Q E S q => ?_
  refine wpAny_IfExp (ht.go s _ _ S fun s₁ n₁ => ?_)
  cases c with
  | true => simpa using (ha rfl).go s₁ _ _ (S.next n₁) fun v s₂ n₂ r₂ => q v s₂ (n₁.trans n₂).toNx0 r₂
  | false => simpa using (hb rfl).go s₁ _ _ (S.next n₁) fun v s₂ n₂ r₂ => q v s₂ (n₁.trans n₂).toNx0 r₂

/-! items -/
theorem ev_item_lst {v i : Expr} {pos : Pos} {ds : List D} {k : Int} {d : D} (hv : Ev X ρ J v (.lst ds)) (hi : Ev X ρ J i (.int k)) (h0 : 0 ≤ k) (hk : k < 2 ^ 63) (hd : ds[k.toNat]? = some d)
    (hs : notSlice i = true := by rfl) : Ev X ρ J (.Subscript v i pos) d := by
  refine ev_of fun s Q E S q => ?_
  refine Subscript_ (hv.go s _ _ S fun o s₁ n₁ r₁ => hi.go s₁ _ _ (S.next n₁) fun j s₂ n₂ r₂ => ?_)
  have r := r₁.next n₂.kp (S.next n₁).rd.hg.tab
  obtain ⟨t, rfl⟩ := r₂.isInt
  obtain ⟨a, vs, n, rfl, e, rr⟩ := r.isLst
  obtain ⟨x, hx, rx⟩ := rr.get hd
  exact tail_any (isList_of e).typeIs slot_list_getitem.lookup (wpAny_getItem_list (isList_of e) h0 hk (by simpa using hx) (q x s₂ (n₁.trans n₂).toNx0 rx)) (subscripted_plain hs)
theorem ev_item_tup {v i : Expr} {pos : Pos} {ds : List D} {k : Int} {d : D} (hv : Ev X ρ J v (.tup ds)) (hi : Ev X ρ J i (.int k)) (h0 : 0 ≤ k) (hk : k < 2 ^ 63) (hd : ds[k.toNat]? = some d)
    (hs : notSlice i = true := by rfl) : Ev X ρ J (.Subscript v i pos) d := by
  refine ev_of fun s Q E S q => ?_
  refine Subscript_ (hv.go s _ _ S fun o s₁ n₁ r₁ => hi.go s₁ _ _ (S.next n₁) fun j s₂ n₂ r₂ => ?_)
  have r := r₁.next n₂.kp (S.next n₁).rd.hg.tab
  obtain ⟨t, rfl⟩ := r₂.isInt
  obtain ⟨a, vs, n, rfl, e, rr⟩ := r.isTup
  obtain ⟨x, hx, rx⟩ := rr.get hd
  have hlt : k.toNat < vs.length := (List.getElem?_eq_some_iff.mp hx).1
  exact item_tupleT (isTup_of e) (by omega) hk (j := k.toNat) (by unfold seqIndex?; split <;> simp_all <;> omega) hx (q x s₂ (n₁.trans n₂).toNx0 rx) (subscripted_plain hs)
theorem ev_item_str {v i : Expr} {pos : Pos} {x : Str} {k : Int} (hv : Ev X ρ J v (.str x)) (hi : Ev X ρ J i (.int k)) (hr : fitsSsize k = true) (hin : (Txt.charAt x k).isSome = true)
    (hs : notSlice i = true := by rfl) : Ev X ρ J (.Subscript v i pos) (.str (Txt.item x k)) := by
  refine ev_of fun s Q E S q => ?_
  refine Subscript_ (hv.go s _ _ S fun o s₁ n₁ r₁ => hi.go s₁ _ _ (S.next n₁) fun j s₂ n₂ r₂ => ?_)
  obtain ⟨t, rfl⟩ := r₂.isInt
  obtain ⟨t', rfl⟩ := r₁.isStr
  exact tail_any (typeIs_str _ _ _) F.slot_str_getitem.lookup (SB.getItem hr hin (q _ _ ((n₁.trans n₂).toNx0.trans .toks) (.str _ _))) (subscripted_plain hs)

/-! slices -/
def EvP (X : Cx) (ρ : Str → Option D) (J : Side) : Option Expr → Option Int → Prop
  | none, none => True
  | some e, some k => Ev X ρ J e (.int k)
  | _, _ => False
theorem evp_step {e : Option Expr} {k : Option Int} (h : EvP X ρ J e k) {s : Shared} {Q E : Value → Shared → Prop} (S : St X ρ J s)
    (q : ∀ v s', Nx X.H₀ s s' → IsPart v k → (∃ p : Option (Int × Tok), v = partValue p ∧ p.map (·.1) = k) → Q v s') : wpAny (model PR X.w) X.A (evalPart e X.env) Q E s := by
  cases e with
  | none => cases k with
    | none => exact wpAny_pure (q _ s (.refl _ _) .none ⟨none, rfl, rfl⟩)
    | some k => exact h.elim
  | some e => cases k with
    | none => exact h.elim
    | some k =>
      refine (show Ev X ρ J e (.int k) from h).go s _ _ S fun v s' n r => ?_
      obtain ⟨t, rfl⟩ := r.isInt
      exact q _ s' n (.int k t) ⟨some (k, t), rfl, rfl⟩

/-- Python's slice of a list, step one -/
def cutL {α : Type} (l : List α) (lo hi : Option Int) : List α :=
  (l.drop (lo.elim 0 (clipAt l.length))).take (hi.elim l.length (clipAt l.length) - lo.elim 0 (clipAt l.length))
theorem Reps.cut {F : Addr → Prop} {h : Heap} {vs : List Value} {ds : List D} (r : Reps F h vs ds) (lo hi : Option Int) : Reps F h (cutL vs lo hi) (cutL ds lo hi) := by
  unfold cutL
  rw [r.length]
  exact (r.drop _).take _

theorem ev_cut_lst {v : Expr} {lo hi : Option Expr} {p pos : Pos} {ds : List D} {kl kh : Option Int} (hv : Ev X ρ J v (.lst ds)) (hl : EvP X ρ J lo kl) (hh : EvP X ρ J hi kh) (hz : ds.length ≤ sizeLine) :
    Ev X ρ J (.Subscript v (.Slice lo hi none p) pos) (.lst (cutL ds kl kh)) := by
  refine ev_of fun s Q E S q => ?_
  refine Subscript_ (hv.go s _ _ S fun o s₁ n₁ r₁ => wpAny_Slice (evp_step hl (S.next n₁) fun vl s₂ n₂ pl _ => evp_step hh ((S.next n₁).next n₂) fun vh s₃ n₃ ph _ => ?_))
  refine wpAny_pure ?_
  have S₃ := ((S.next n₁).next n₂).next n₃
  have r := (r₁.next n₂.kp (S.next n₁).rd.hg.tab).next n₃.kp ((S.next n₁).next n₂).rd.hg.tab
  obtain ⟨a, vs, n, rfl, e, rr⟩ := r.isLst
  have k1 : Kp X.H₀ s₃.heap (s₃.heap.push { cls := .type "slice", data := .fields #[vl, vh, .none] }) := .push _ _ _
  have e' := Heap.get?_push_of_some { cls := .type "slice", data := .fields #[vl, vh, .none] } e
  refine tail_any (ops := [_, _]) (isList_of e').typeIs slot_list_getitem.lookup (wpAny_getItem_list_slice (isList_of e') (Heap.IsSliceOf.new ..) pl ph .none (by simp) ?_ (by simp [rr.length]; exact hz)) rfl
  have k2 : Kp X.H₀ (s₃.heap.push { cls := .type "slice", data := .fields #[vl, vh, .none] }) ((s₃.heap.push { cls := .type "slice", data := .fields #[vl, vh, .none] }).push { cls := .type "list", data := .seq (slicePick vs.toArray kl kh none) }) := .push _ _ _
  refine q _ _ (((n₁.trans n₂).trans n₃).toNx0.trans ⟨k1.trans k2, rfl, id⟩) ?_
  refine .lst (vs := cutL vs kl kh) (n := 0) (S₃.live.next k1 S₃.rd.hg.tab).new ?_ (((rr.next k1 S₃.rd.hg.tab).next k2 (k1.tab S₃.rd.hg.tab)).cut kl kh)
  have : slicePick vs.toArray kl kh none = (cutL vs kl kh).toArray := by rw [slicePick_plain]; simp [cutL]
  rw [this]
  exact Heap.get?_push_size _ rfl

theorem ev_cut_str {v : Expr} {lo hi : Option Expr} {p pos : Pos} {x : Str} {kl kh : Option Int} (hv : Ev X ρ J v (.str x)) (hl : EvP X ρ J lo kl) (hh : EvP X ρ J hi kh) (hz : x.length ≤ sizeLine) :
    Ev X ρ J (.Subscript v (.Slice lo hi none p) pos) (.str (Txt.slice x kl kh)) := by
  refine ev_of fun s Q E S q => ?_
  refine Subscript_ (hv.go s _ _ S fun o s₁ n₁ r₁ => wpAny_Slice (evp_step hl (S.next n₁) fun vl s₂ n₂ _ pl => evp_step hh ((S.next n₁).next n₂) fun vh s₃ n₃ _ ph => ?_))
  refine wpAny_pure ?_
  obtain ⟨t', rfl⟩ := r₁.isStr
  obtain ⟨pl, rfl, rfl⟩ := pl
  obtain ⟨ph, rfl, rfl⟩ := ph
  have k1 : Kp X.H₀ s₃.heap (s₃.heap.push { cls := .type "slice", data := .fields #[partValue pl, partValue ph, .none] }) := .push _ _ _
  refine tail_any (ops := [_, _]) (typeIs_str _ _ _) F.slot_str_getitem.lookup (wpAny_getItem_str_slice (l := pl) (u := ph) (st := none) ⟨_, Heap.get?_push_size _ rfl, rfl, rfl⟩ rfl
    (post_val_or_str ⟨Nat.le_trans (Txt.slice_le x _ _) hz, fun t' k => q _ _ (((n₁.trans n₂).trans n₃).toNx0.trans ⟨k1, rfl, id⟩) (.str _ _)⟩)) rfl

end
end Mine
end
section
open PySem PySem.W PyProof.Rows PySem.Calls
set_option Elab.async false
set_option maxRecDepth 100000
set_option linter.unusedVariables false
namespace Mine
section
variable {X : Cx} {ρ : Str → Option D} {J : Side}

/-- the arguments of a call -/
theorem args_evs {f : Value} {pos : Pos} {e : Expr} {rest : List Expr} {ds : List D} (h : Evs X ρ J pos (e :: rest) ds)
    (hs : notStar e = true) {s : Shared} {Q : Args → Shared → Prop} {E : Value → Shared → Prop} (S : St X ρ J s)
    (q : ∀ vs s', Nx X.H₀ s s' → Reps X.F s'.heap vs ds → Q ⟨vs, []⟩ s') : wpAny (model PR X.w) X.A (evalArgs f true (backTo pos (starEach (e :: rest) X.env)) []) Q E s := by
  have h' := h.go s (fun vs s' => Q ⟨vs, []⟩ s') E S fun vs s' n r => q vs s' n r
  rw [starEach_cons hs] at h' ⊢
  exact evalArgs_plain h'

theorem ev_call {x : Str} {np pos : Pos} {e : Expr} {rest : List Expr} {a : Addr} {k : Nat} {ds : List D} {d : D} (hf : EvV X ρ J (.Name x np) (.ref a)) (ha : Evs X ρ J pos (e :: rest) ds)
    (hc : Fn X.w X.H₀ (.ref a) k ds d) (hk : k ≤ X.k) (ho : ∃ o fd, (KF X.w).lookup a = some o ∧ o.data = .func fd)
    (hs : notStar e = true := by rfl) : Ev X ρ J (.Call (.Name x np) (e :: rest) [] pos) d := by
  refine ⟨fun s Q E S q => ?_⟩
  obtain ⟨o, fd, ho, hd⟩ := ho
  refine wpAny_Call_NameR (hf.go s _ _ S fun s₁ n₁ => callWith_function (o := o) (fd := fd) (args_evs ha hs (S.next n₁) fun vs s₂ n₂ r₂ => ?_))
  have S₂ := (S.next n₁).next n₂
  exact ⟨⟨S₂.rd.hg.kin S₂.rd.B _ _ ho, hd⟩, hc.go X.F X.A s₂ vs Q E S₂.live (S₂.rd.mono hk) r₂ fun v s' n r => q v s' ((n₁.trans n₂).trans n) r⟩

/-- a built-in of one argument -/
theorem ev_call_b {x : Str} {np pos : Pos} {id : String} {e : Expr} {rest : List Expr} {ds : List D} {d : D} (hf : EvV X ρ J (.Name x np) (.builtin id)) (ha : Evs X ρ J pos (e :: rest) ds)
    (hc : ∀ (s : Shared) (vs : List Value) (Q E : Value → Shared → Prop), St X ρ J s → Reps X.F s.heap vs ds → (∀ v s', Nx0 X.H₀ s s' → Rep X.F s'.heap v d → Q v s') → wpAny (model PR X.w) X.A (call (.builtin id) vs) Q E s)
    (hs : notStar e = true := by rfl) (hp : allPlain (e :: rest) = true := by rfl) :
    Ev X ρ J (.Call (.Name x np) (e :: rest) [] pos) d := by
  refine ev_of fun s Q E S q => ?_
  refine wpAny_Call_NameR (hf.go s _ _ S fun s₁ n₁ => callWith_builtin (backTo_any hp) (args_evs ha hs (S.next n₁) fun vs s₂ n₂ r₂ => ?_))
  exact hc s₂ vs Q E ((S.next n₁).next n₂) r₂ fun v s' n r => q v s' ((n₁.trans n₂).toNx0.trans n) r
/-- a built-in class of one argument -/
theorem ev_call_t {x : Str} {np pos : Pos} {T : String} {e : Expr} {rest : List Expr} {ds : List D} {d : D} (hf : EvV X ρ J (.Name x np) (.type T)) (ha : Evs X ρ J pos (e :: rest) ds)
    (hc : ∀ (s : Shared) (vs : List Value) (Q E : Value → Shared → Prop), St X ρ J s → Reps X.F s.heap vs ds → (∀ v s', Nx0 X.H₀ s s' → Rep X.F s'.heap v d → Q v s') → wpAny (model PR X.w) X.A (call (.type T) vs) Q E s)
    (hs : notStar e = true := by rfl) (hp : allPlain (e :: rest) = true := by rfl) :
    Ev X ρ J (.Call (.Name x np) (e :: rest) [] pos) d := by
  refine ev_of fun s Q E S q => ?_
  refine wpAny_Call_NameR (hf.go s _ _ S fun s₁ n₁ => PySem.callWith_type (backTo_any hp) (args_evs ha hs (S.next n₁) fun vs s₂ n₂ r₂ => ?_))
  exact hc s₂ vs Q E ((S.next n₁).next n₂) r₂ fun v s' n r => q v s' ((n₁.trans n₂).toNx0.trans n) r

theorem evs_one {pos : Pos} {e : Expr} {d : D} (he : Ev X ρ J e d) (hs : notStar e = true := by rfl) : Evs X ρ J pos [e] [d] := evs_cons he evs_nil hs

theorem Reps.one {F : Addr → Prop} {h : Heap} {vs : List Value} {d : D} (r : Reps F h vs [d]) : ∃ v, vs = [v] ∧ Rep F h v d := by
  cases r with | cons a b => cases b; exact ⟨_, rfl, a⟩
theorem Reps.two {F : Addr → Prop} {h : Heap} {vs : List Value} {d e : D} (r : Reps F h vs [d, e]) : ∃ v w, vs = [v, w] ∧ Rep F h v d ∧ Rep F h w e := by
  cases r with | cons a b => cases b with | cons b c => cases c; exact ⟨_, _, rfl, a, b⟩

theorem ev_len_lst {np pos : Pos} {x : Str} {e : Expr} {ds : List D} (hf : EvV X ρ J (.Name x np) (.builtin "len")) (he : Ev X ρ J e (.lst ds)) (hz : ds.length ≤ sizeLine)
    (hs : notStar e = true := by rfl) (hp : allPlain [e] = true := by rfl) :
    Ev X ρ J (.Call (.Name x np) [e] [] pos) (.int ds.length) :=
  ev_call_b hf (evs_one he hs) (fun s vs Q E S r q => by
    obtain ⟨v, rfl, r'⟩ := r.one
    obtain ⟨a, vs, n, rfl, e, rr⟩ := r'.isLst
    have hz : ds.length ≤ 16777216 := hz
    have hl := rr.length
    refine PyProof.Rows.len_list (isList_of e) (by simp; omega) ?_
    simp only [List.size_toArray, hl]
    exact q _ _ .toks (.int _ _)) hs hp

/-! methods of strs -/

theorem method_go {o : Expr} {name : Str} {id : String} {apos pos : Pos} {e : Expr} {rest : List Expr} {x : Str} {ds : List D} {d : D} (ho : Ev X ρ J o (.str x)) (ha : Evs X ρ J pos (e :: rest) ds)
    (slot : Slot "str" name id) (ty : typeOf (.builtin id) = pure (.type "method_descriptor"))
    (hc : ∀ (s : Shared) (t : Tok) (vs : List Value) (Q E : Value → Shared → Prop), St X ρ J s → Reps X.F s.heap vs ds → (∀ v s', Nx0 X.H₀ s s' → Rep X.F s'.heap v d → Q v s') → wpAny (model PR X.w) X.A (call (.builtin id) (.str x t :: vs)) Q E s)
    (hs : notStar e = true := by rfl)
    (hbase : plainBase o = true := by rfl) (hline : (apos.endLine == pos.line) = true := by rfl)
    (hp : allPlain (e :: rest) = true := by rfl)
    (hfew : rest.length < 28 := by decide) :
    Ev X ρ J (.Call (.Attribute o name apos) (e :: rest) [] pos) d := by
  refine ev_of fun s Q E S q => ?_
  refine wpAny_Call_method_lateS (attrBase_plain hbase) (few_plain hp (Nat.succ_lt_succ hfew)) hline (ho.go s _ _ S fun ov s₁ n₁ r₁ => ?_)
  obtain ⟨t, rfl⟩ := r₁.isStr
  refine ⟨"str", id, F.plainAttrs_str, slot, ty, typeIs_str _ _ _, (fun _ e => nomatch e), callWith_builtin (backTo_any hp) ?_⟩
  exact args_evs ha hs (S.next n₁) fun vs s₂ n₂ r₂ => hc s₂ t vs Q E ((S.next n₁).next n₂) r₂ fun v s' n r => q v s' ((n₁.trans n₂).toNx0.trans n) r
theorem method_go0 {o : Expr} {name : Str} {id : String} {apos pos : Pos} {x : Str} {d : D} (ho : Ev X ρ J o (.str x))
    (slot : Slot "str" name id) (ty : typeOf (.builtin id) = pure (.type "method_descriptor"))
    (hc : ∀ (s : Shared) (t : Tok) (Q E : Value → Shared → Prop), St X ρ J s → (∀ v s', Nx0 X.H₀ s s' → Rep X.F s'.heap v d → Q v s') → wpAny (model PR X.w) X.A (call (.builtin id) [.str x t]) Q E s)
    (hbase : plainBase o = true := by rfl) (hline : (apos.endLine == pos.line) = true := by rfl) :
    Ev X ρ J (.Call (.Attribute o name apos) [] [] pos) d := by
  refine ev_of fun s Q E S q => ?_
  refine wpAny_Call_method_lateS (attrBase_plain hbase) rfl hline (ho.go s _ _ S fun ov s₁ n₁ r₁ => ?_)
  obtain ⟨t, rfl⟩ := r₁.isStr
  refine ⟨"str", id, F.plainAttrs_str, slot, ty, typeIs_str _ _ _, (fun _ e => nomatch e), callWith_builtin rfl (PySem.evalArgs_none ?_)⟩
  exact hc s₁ t Q E (S.next n₁) fun v s' n r => q v s' (n₁.toNx0.trans n) r

theorem ev_strip {o : Expr} {apos pos : Pos} {x : Str} (ho : Ev X ρ J o (.str x)) (hz : x.length ≤ sizeLine)
    (hbase : plainBase o = true := by rfl) (hline : (apos.endLine == pos.line) = true := by rfl) :
    Ev X ρ J (.Call (.Attribute o "strip" apos) [] [] pos) (.str (Txt.strip x)) :=
  method_go0 ho F.slot_str_strip F.type_str_strip (fun s t Q E S q => SC.strip (fun t' k => q _ _ .toks (.str _ _)) hz) hbase hline

/-- a row of texts -/
theorem reps_strs {F : Addr → Prop} {h : Heap} : ∀ {vs : List Value} {ts : List Str}, Reps F h vs (ts.map .str) → ∃ l : List (Str × Tok), strValues l = vs ∧ l.map (·.1) = ts
  | _, [], .nil => ⟨[], rfl, rfl⟩
  | _, x :: ts, .cons a r => by
    obtain ⟨t, rfl⟩ := a.isStr
    obtain ⟨l, rfl, rfl⟩ := reps_strs r
    exact ⟨(x, t) :: l, rfl, rfl⟩
theorem strs_reps {F : Addr → Prop} {h : Heap} : ∀ (l : List (Str × Tok)), Reps F h (strValues l) ((l.map (·.1)).map .str)
  | [] => .nil
  | (x, t) :: l => .cons (.str x t) (strs_reps l)

theorem ev_join_lst {o e : Expr} {apos pos : Pos} {x : Str} {ts : List Str} (ho : Ev X ρ J o (.str x)) (he : Ev X ρ J e (.lst (ts.map .str))) (hok : JoinOk x ts = true)
    (hs : notStar e = true := by rfl)
    (hbase : plainBase o = true := by rfl) (hline : (apos.endLine == pos.line) = true := by rfl)
    (hp : allPlain [e] = true := by rfl) :
    Ev X ρ J (.Call (.Attribute o "join" apos) [e] [] pos) (.str (Txt.join x ts)) :=
  method_go ho (evs_one he hs) F.slot_str_join F.type_str_join (fun s t vs Q E S r q => by
    obtain ⟨v, rfl, r'⟩ := r.one
    obtain ⟨a, vs, n, rfl, e, rr⟩ := r'.isLst
    obtain ⟨l, rfl, rfl⟩ := reps_strs rr
    exact SC.join (isList_of e) rfl hok fun t' k => q _ _ .toks (.str _ _)) hs hbase hline hp

theorem ev_split {o e : Expr} {apos pos : Pos} {x y : Str} (ho : Ev X ρ J o (.str x)) (he : Ev X ρ J e (.str y)) (hy : (y.length == 0) = false) (hz : x.length ≤ 1000000)
    (hs : notStar e = true := by rfl)
    (hbase : plainBase o = true := by rfl) (hline : (apos.endLine == pos.line) = true := by rfl)
    (hp : allPlain [e] = true := by rfl) :
    Ev X ρ J (.Call (.Attribute o "split" apos) [e] [] pos) (.lst ((Txt.split x y).map .str)) :=
  method_go ho (evs_one he hs) F.slot_str_split F.type_str_split (fun s t vs Q E S r q => by
    obtain ⟨v, rfl, r'⟩ := r.one
    obtain ⟨u, rfl⟩ := r'.isStr
    have hsz : x.length ≤ sizeLine := by show x.length ≤ 16777216; omega
    have hsz2 : (Builtin.Str.partsBetween x (Builtin.Str.occurrences x y 0 x.length (x.length + 1)) y.length).length ≤ sizeLine := by
      rw [PyProof.Rows.len_partsBetween]; have := StrLaws.occ_length_le x y 0 x.length (x.length + 1); show _ ≤ 16777216; omega
    have fin : ∀ (l : List (Str × Tok)) (tk : Nat), l.map (·.1) = Txt.split x y → Q (.ref s.heap.objs.size) { s with toks := tk, heap := s.heap.push { cls := .type "list", data := .seq (strValues l).toArray } } := by
      intro l tk hl
      refine q _ _ (.of_keep fun b o e => Heap.get?_push_of_some _ e) ?_
      rw [← hl]
      exact .lst S.live.new (Heap.get?_push_size _ rfl) (strs_reps l)
    cases h1 : (decide (x.length < y.length) || decide (Builtin.Str.strKind x < Builtin.Str.strKind y))
    · cases hf : (Builtin.Str.occurrences x y 0 x.length (x.length + 1)).isEmpty
      · refine call_meets F.slot_str_split (typeIs_str _ _ _) F.entry_str_split (F.args_str_split_2 _ _) (meets_str_split_sep x y t u h1 hy hf hsz hsz2) ?_
        show Q (.ref s.heap.objs.size) { s with toks := _, heap := s.heap.push { cls := .type "list", data := .seq (strsFrom s.toks (Builtin.Str.partsBetween x (Builtin.Str.occurrences x y 0 x.length (x.length + 1)) y.length)).toArray } }
        rw [strsFrom_eq]
        exact fin _ _ ((numbered_texts _ _).trans ((if_neg (ne_true_of_eq_false h1)).trans (if_neg (ne_true_of_eq_false hf))).symm)
      · exact call_meets F.slot_str_split (typeIs_str _ _ _) F.entry_str_split (F.args_str_split_2 _ _) (meets_str_split_not_found x y t u h1 hy hf)
          (fin [(x, t)] _ ((if_neg (ne_true_of_eq_false h1)).trans (if_pos hf)).symm)
    · exact call_meets F.slot_str_split (typeIs_str _ _ _) F.entry_str_split (F.args_str_split_2 _ _) (meets_str_split_cannot_occur x y t u h1) (fin [(x, t)] _ (if_pos h1).symm)) hs hbase hline hp

theorem ev_replace {o e₁ e₂ : Expr} {apos pos : Pos} {k₁ k₂ : Nat} {p₁ p₂ : Pos} {x y z : Str} (ho : Ev X ρ J o (.str x)) (h₁ : e₁ = .Constant (.str y) k₁ p₁) (h₂ : e₂ = .Constant (.str z) k₂ p₂)
    (hyz : (y == z) = false) (hz : x.length + (x.length + 1) * z.length ≤ 16777216)
    (hbase : plainBase o = true := by rfl) (hline : (apos.endLine == pos.line) = true := by rfl) :
    Ev X ρ J (.Call (.Attribute o "replace" apos) [e₁, e₂] [] pos) (.str (Txt.replace x y z)) := by
  subst h₁ h₂
  refine ev_of fun s Q E S q => ?_
  refine wpAny_Call_method_lateS (attrBase_plain hbase) rfl hline (ho.go s _ _ S fun ov s₁ n₁ r₁ => ?_)
  obtain ⟨t, rfl⟩ := r₁.isStr
  refine ⟨"str", "str.replace", F.plainAttrs_str, F.slot_str_replace, F.type_str_replace, typeIs_str _ _ _, (fun _ e => nomatch e), callWith_builtin rfl (evalArgs_plain (spliced_cons (wpAny_Constant_str (k := k₁) (pos := p₁) (spliced_cons (wpAny_Constant_str (k := k₂) (pos := p₂) (spliced_nil ?_))))))⟩
  have htk := (S.next n₁).tk
  exact SC.replace htk (Nat.succ_ne_zero _) (Nat.ne_of_lt (Nat.lt_succ_self _)) hyz hz fun t' k => q _ _ (n₁.toNx0.trans .toks) (.str _ _)

end
end Mine
end
section
open PySem PySem.W PyProof.Rows PySem.Calls
set_option Elab.async false
set_option maxRecDepth 100000
set_option linter.unusedVariables false
namespace Mine

theorem putName_cls (name : Str) (h : Int) (key v : Value) (o : Obj) : (Obj.putName name h key v o).cls = o.cls := by
  rw [Obj.putName_eq]
  obtain ⟨c, d, dt, sl⟩ := o
  unfold Obj.putNameByArray
  cases dt <;> try rfl
  dsimp only
  split <;> rfl
theorem nsSet_c {M : Model} {A : Around} {E : Value → Shared → Prop} {s : Shared} {a : Addr} {m : Str → Option Value} {name : Str} {v : Value} {Q : Unit → Shared → Prop} (hn : s.heap.Ns a m) {o : Obj} (ho : s.heap.get? a = some o)
    (hQ : ∀ h' o', h'.Ns a (fun x => if x = name then some v else m x) → Heap.SameBut a s.heap h' → h'.get? a = some o' → o'.cls = o.cls → Q () { s with heap := h', toks := s.toks + 1 }) :
    wpAny M A (nsSet a name v) Q E s := by
  intro Γ p hΓ
  have h1 := Sem.wp_nsSet M Γ (fun _ _ _ => True) p s hn name v (fun _ _ s' => s'.heap.Ns a (fun x => if x = name then some v else m x) ∧ Heap.SameBut a s.heap s'.heap) (fun h' x y => ⟨x, y⟩)
  obtain ⟨o₁, es, ep, ho₁, hd, hk, hm⟩ := id hn
  rw [ho] at ho₁; cases ho₁
  simp only [nsSet, strHash, Sem.wp_bind', Sem.wp_cmd_ask, Sem.wp_pure', Sem.wp_cmd_mkText] at h1 ⊢
  rw [Sem.wp_loadPart_of M Γ _ p { s with toks := s.toks + 1 } (o := o) _ ho] at h1 ⊢
  have hany : es.any (·.refKey) = false := by
    rw [Array.any_eq_false']; intro e he; obtain ⟨n, t, h⟩ := hk e he; simp [DictEntry.refKey, h]
  simp only [hd, aRefKeyMayBeTheName_eq, aRefKeyMayBeTheNameByArray, hany, Bool.and_false, Bool.false_eq_true, if_false, Sem.wp_cmd_updatePart] at h1 ⊢
  obtain ⟨i, n, sb⟩ := h1
  refine ⟨i, ?_⟩
  obtain ⟨o', es', ep', e', d', r⟩ := id n
  refine hQ _ o' n sb e' ?_
  have hfr : ∀ hs, (Obj.putName name hs (Value.str name s.toks) v o).isFreed = false := by
    intro hs
    cases hc : (Obj.putName name hs (Value.str name s.toks) v o).isFreed with
    | false => rfl
    | true =>
      exfalso
      rw [Obj.putName_eq] at hc
      obtain ⟨c, d, dt, sl⟩ := o
      simp only at hd; subst hd
      unfold Obj.putNameByArray at hc
      dsimp only at hc
      split at hc <;> cases hc
  rw [Heap.get?_update_self _ ho (hfr _)] at e'
  cases e'
  exact putName_cls ..

theorem Tab.same {h h' : Heap} {L : Addr} {m : Str → Option Value} (t : Tab h) (n : h.Ns L m) (p : L ≠ PL) (sb : Heap.SameBut L h h') : Tab h' := by
  obtain ⟨ps, a, b, c⟩ := t
  have hp : PC ≠ L := by
    rintro rfl
    obtain ⟨⟨o, vs, e, _, d, _⟩, _⟩ := id b
    obtain ⟨o', _, _, e', d', _⟩ := n
    rw [e] at e'; cases e'; rw [d] at d'; cases d'
  exact ⟨ps, a.extBut sb.extBut hp (Ne.symm p), b.extBut sb.extBut hp (Ne.symm p), c⟩
theorem Tab.same' {h h' : Heap} {c : Addr} {v : Option Value} (t : Tab h) (n : h.IsCell c v) (sb : Heap.SameBut c h h') : Tab h' := by
  obtain ⟨ps, a, b, d⟩ := t
  have hp : PC ≠ c := by
    rintro rfl
    obtain ⟨⟨o, vs, e, _, d, _⟩, _⟩ := id b
    obtain ⟨o', e', d'⟩ := n
    rw [e] at e'; cases e'; rw [d] at d'; cases d'
  have hq : PL ≠ c := by
    rintro rfl
    obtain ⟨_, e⟩ := id b
    obtain ⟨o', e', d'⟩ := n
    rw [e] at e'; cases e'; cases d'
  exact ⟨ps, a.extBut sb.extBut hp hq, b.extBut sb.extBut hp hq, d⟩

section
variable {X : Cx} {ρ : Str → Option D} {J : Side}

/-- a name of the frame is stored -/
theorem store_local' {A' : Around} {x : Str} {d : D} {v : Value} {s : Shared} {Q : Unit → Shared → Prop} {E : Value → Shared → Prop} (S : St X ρ J s) (r : Rep X.F s.heap v d) (hx : X.env.kindOf x = some .local)
    (q : ∀ s', St X (upd ρ x d) J s' → (∀ u e, Rep X.F s.heap u e → Rep X.F s'.heap u e) → (∀ b o, b ≠ X.env.locals → s.heap.get? b = some o → s'.heap.get? b = some o) → Q () s') : wpAny (model PR X.w) A' (storeName X.env x v) Q E s := by
  obtain ⟨mv, n, hv⟩ := id S.vars
  obtain ⟨o, ho⟩ := id S.lcls
  rw [storeName_local hx (by rw [S.ek]; rfl)]
  refine nsSet_c n ho fun h' o' n' sb e' c' => ?_
  have ne : ∀ b o, X.sE.heap.get? b = some o → b ≠ X.env.locals := by rintro b o e rfl; rw [S.fresh] at e; cases e
  have ne0 : ∀ b o, X.H₀.get? b = some o → b ≠ X.env.locals := by rintro b o e rfl; rw [S.lnew] at e; cases e
  have tab' := S.rd.hg.tab.same n S.lpl sb
  have keepSeq : ∀ b o, s.heap.get? b = some o → ¬ X.F b → o.cls = .type "tuple" ∨ o.cls = .type "list" → (∃ xs n, o.data = .seq xs n) → h'.get? b = some o ∧ ¬ X.F b := by
    rintro b ob e hF _ ⟨xs, k, dd⟩
    refine ⟨(sb.2 b ?_).trans e, hF⟩
    rintro rfl
    obtain ⟨on, es, ep, e3, e4, _⟩ := n
    rw [e] at e3; cases e3; rw [dd] at e4; cases e4
  refine q _ ?_ (fun u e r => r.same keepSeq) fun b o hb e => (sb.2 b hb).trans e
  exact {
    rd := ⟨S.rd.B, ⟨fun b o e p => (sb.2 b (ne0 b o e)).trans (S.rd.hg.old b o e p), tab'⟩, by
      obtain ⟨l, e, y⟩ := S.rd.fr
      refine ⟨l, e, fun z hz => ?_⟩
      obtain ⟨a, f, of, b, c, dd, e, g, k⟩ := y z hz
      by_cases hf : f = X.env.locals
      · subst hf
        rw [ho] at e; cases e
        obtain ⟨on, es, ep, e3, e4, _⟩ := n'
        rw [e'] at e3; cases e3
        exact ⟨a, _, o', b, c, dd, e', c'.trans g, es, ep, e4⟩
      · exact ⟨a, f, of, b, c, dd, (sb.2 f hf).trans e, g, k⟩, S.rd.gens, S.rd.rm, Nat.succ_ne_zero _⟩
    nx := ⟨⟨fun b o e p c => (sb.2 b (ne b o e)).trans (S.nx.kp.keep b o e p c), fun b o e p => by
        obtain ⟨o₁, e₁, r₁⟩ := S.nx.kp.frm b o e p
        exact ⟨o₁, (sb.2 b (ne b o e)).trans e₁, r₁⟩, fun b o a p e => (sb.2 b (ne0 b o a)).trans (S.nx.kp.old b o a p e), fun _ => tab'⟩, S.nx.os, S.nx.gens⟩
    fresh := S.fresh
    lnew := S.lnew
    lpl := S.lpl
    ek := S.ek
    eg := S.eg
    eb := S.eb
    lcls := ⟨o', e'⟩
    vars := by
      refine ⟨_, n', fun y d' hy => ?_⟩
      unfold upd at hy
      by_cases hyx : y = x
      · subst hyx
        rw [if_pos rfl] at hy; cases hy
        exact ⟨v, .inl ⟨hx, if_pos rfl⟩, r.same keepSeq⟩
      · rw [if_neg hyx] at hy
        obtain ⟨u, hu, ru⟩ := hv y d' hy
        refine ⟨u, ?_, ru.same keepSeq⟩
        rcases hu with ⟨a, b⟩ | ⟨a, c, b, cc⟩
        · exact .inl ⟨a, by show (if y = x then some v else mv y) = some u; rw [if_neg hyx]; exact b⟩
        · refine .inr ⟨a, c, b, cc.sameBut sb ?_⟩
          rintro rfl
          obtain ⟨oc, e1, e2⟩ := cc
          obtain ⟨on, es, ep, e3, e4, _⟩ := n
          rw [e1] at e3; cases e3; rw [e2] at e4; cases e4
    side := J.same ⟨_, n⟩ S.off sb S.side
    off := S.off
    live := fun a f => by
      by_cases hf : a = X.env.locals
      · subst hf; exact ⟨o', e'⟩
      · obtain ⟨oa, ea⟩ := S.live a f
        exact ⟨oa, (sb.2 a hf).trans ea⟩ }

theorem store_local {A' : Around} {x : Str} {d : D} {v : Value} {s : Shared} {Q : Unit → Shared → Prop} {E : Value → Shared → Prop} (S : St X ρ J s) (r : Rep X.F s.heap v d) (hx : X.env.kindOf x = some .local)
    (q : ∀ s', St X (upd ρ x d) J s' → (∀ u e, Rep X.F s.heap u e → Rep X.F s'.heap u e) → Q () s') : wpAny (model PR X.w) A' (storeName X.env x v) Q E s :=
  store_local' S r hx fun s' a b _ => q s' a b

/-- a cell of the frame's own is stored -/
theorem store_cell {A' : Around} {x : Str} {c : Addr} {d : D} {v : Value} {s : Shared} {Q : Unit → Shared → Prop} {E : Value → Shared → Prop} {v₀ : Option Value} (S : St X ρ J s) (r : Rep X.F s.heap v d) (hx : X.env.kindOf x = some .cell)
    (hc : X.env.cells.lookup x = some c) (hv : s.heap.IsCell c v₀) (hf : X.sE.heap.get? c = none) (hf0 : X.H₀.get? c = none) (hi : ∀ y, X.env.cells.lookup y = some c → y = x)
    (hJ : ∀ h', Heap.SameBut c s.heap h' → J.P h')
    (q : ∀ s', St X (upd ρ x d) J s' → (∀ u e, Rep X.F s.heap u e → Rep X.F s'.heap u e) → Q () s') : wpAny (model PR X.w) A' (storeName X.env x v) Q E s := by
  obtain ⟨mv, n, hvs⟩ := id S.vars
  refine wpAny_storeName_cell S.ek hx hc hv fun h' hc' sb => ?_
  · have ne : ∀ b o, X.sE.heap.get? b = some o → b ≠ c := by rintro b o e rfl; rw [hf] at e; cases e
    have ne0 : ∀ b o, X.H₀.get? b = some o → b ≠ c := by rintro b o e rfl; rw [hf0] at e; cases e
    have tab' := S.rd.hg.tab.same' hv sb
    obtain ⟨oc, eo, do_⟩ := id hv
    have hcL : X.env.locals ≠ c := by
      rintro rfl
      obtain ⟨on, es, ep, e3, e4, _⟩ := n
      rw [eo] at e3; cases e3; rw [do_] at e4; cases e4
    have keepSeq : ∀ {u : Value} {e : D}, Rep X.F s.heap u e → Rep X.F h' u e := by
      intro u e r
      refine r.same ?_
      rintro b ob e hF _ ⟨xs, k, dd⟩
      refine ⟨(sb.2 b ?_).trans e, hF⟩
      rintro rfl
      rw [eo] at e; cases e; rw [dd] at do_; cases do_
    refine q _ ?_ fun u e r => keepSeq r
    exact {
      rd := ⟨S.rd.B, ⟨fun b o e p => (sb.2 b (ne0 b o e)).trans (S.rd.hg.old b o e p), tab'⟩, by
        obtain ⟨l, e, y⟩ := S.rd.fr
        refine ⟨l, e, fun z hz => ?_⟩
        obtain ⟨a, f, of, b, cc, dd, e, g, es, n, k⟩ := y z hz
        refine ⟨a, f, of, b, cc, dd, (sb.2 f ?_).trans e, g, es, n, k⟩
        rintro rfl
        rw [eo] at e; cases e; rw [k] at do_; (cases do_), S.rd.gens, S.rd.rm, S.rd.tk⟩
      nx := ⟨⟨fun b o e p c => (sb.2 b (ne b o e)).trans (S.nx.kp.keep b o e p c), fun b o e p => by
          obtain ⟨o₁, e₁, r₁⟩ := S.nx.kp.frm b o e p
          exact ⟨o₁, (sb.2 b (ne b o e)).trans e₁, r₁⟩, fun b o a p e => (sb.2 b (ne0 b o a)).trans (S.nx.kp.old b o a p e), fun _ => tab'⟩, S.nx.os, S.nx.gens⟩
      fresh := S.fresh
      lnew := S.lnew
      lpl := S.lpl
      ek := S.ek
      eg := S.eg
      eb := S.eb
      lcls := by
        obtain ⟨o, e⟩ := S.lcls
        exact ⟨o, (sb.2 _ hcL).trans e⟩
      vars := by
        refine ⟨mv, n.sameBut sb hcL, fun y d' hy => ?_⟩
        unfold upd at hy
        by_cases hyx : y = x
        · subst hyx
          rw [if_pos rfl] at hy; cases hy
          exact ⟨v, .inr ⟨.inl hx, c, hc, hc'⟩, keepSeq r⟩
        · rw [if_neg hyx] at hy
          obtain ⟨u, hu, ru⟩ := hvs y d' hy
          refine ⟨u, ?_, keepSeq ru⟩
          rcases hu with ⟨a, b⟩ | ⟨a, c', b, cc⟩
          · exact .inl ⟨a, b⟩
          · exact .inr ⟨a, c', b, cc.sameBut sb (by rintro rfl; exact hyx (hi y b))⟩
      side := hJ _ sb
      off := S.off
      live := fun a f => by
        by_cases hf : a = c
        · subst hf; obtain ⟨o', e', _⟩ := hc'; exact ⟨o', e'⟩
        · obtain ⟨oa, ea⟩ := S.live a f
          exact ⟨oa, (sb.2 a hf).trans ea⟩ }

end
end Mine
end
section
open PySem PySem.W PyProof.Rows PySem.Calls
set_option Elab.async false
set_option maxRecDepth 100000
set_option linter.unusedVariables false
namespace Mine

def thenDo (b : List Stmt) (env : Env) : Flow → Sem Flow
  | .next => execs b env
  | f => pure f
theorem execs_append (b : List Stmt) (env : Env) : ∀ a : List Stmt, execs (a ++ b) env = (execs a env >>= thenDo b env)
  | [] => rfl
  | st :: a => by
    show execs (st :: (a ++ b)) env = _
    rw [execs_cons, execs_cons, bind_assoc]
    congr 1
    funext f
    cases f with
    | next => exact execs_append b env a
    | _ => rfl
theorem execs_cons' (st : Stmt) (b : List Stmt) (env : Env) : execs (st :: b) env = (exec st env >>= thenDo b env) := by
  rw [execs_cons]; rfl
theorem wpAny_execs_append {M : Model} {A : Around} {env : Env} {Φ : Flow → Shared → Prop} {E : Value → Shared → Prop} {a b : List Stmt} {s : Shared}
    (h : wpAny M A (execs a env) (fun f s' => match f with | .next => wpAny M A (execs b env) Φ E s' | f => Φ f s') E s) : wpAny M A (execs (a ++ b) env) Φ E s := by
  rw [execs_append]
  refine wpAny_bind (wpAny_mono h (fun f s' h' => ?_) fun _ _ x => x)
  cases f with
  | next => exact h'
  | _ => exact wpAny_pure h'
theorem wpAny_execs_unappend {M : Model} {A : Around} {env : Env} {Φ : Flow → Shared → Prop} {E : Value → Shared → Prop} {a b : List Stmt} {s : Shared}
    (h : wpAny M A (execs (a ++ b) env) Φ E s) : wpAny M A (execs a env >>= thenDo b env) Φ E s := by rw [← execs_append]; exact h

section
variable {X : Cx} {ρ : Str → Option D} {J : Side} {Φ : Flow → Shared → Prop} {rest : List Stmt}

theorem ss_nil (h : ∀ s, St X ρ J s → Φ .next s) : Ss X ρ J [] Φ := ⟨fun s E S => wpAny_execs_nil (h s S)⟩

/-- an assignment's target -/
structure As (X : Cx) (ρ : Str → Option D) (J : Side) (t : Expr) (d : D) (ρ' : Str → Option D) : Prop where
  go : ∀ (s : Shared) (v : Value) (Q : Unit → Shared → Prop) (E : Value → Shared → Prop), St X ρ J s → Rep X.F s.heap v d → (∀ s', St X ρ' J s' → Q () s') → wpAny (model PR X.w) X.A (assign t X.env v) Q E s
theorem as_name {x : Str} {pos : Pos} {d : D} (hx : X.env.kindOf x = some .local) : As X ρ J (.Name x pos) d (upd ρ x d) :=
  ⟨fun s v Q E S r q => wpAny_assign_Name (store_local S r hx fun s' S' _ => q s' S')⟩

theorem ss_assign {x : Str} {p pos : Pos} {e : Expr} {d : D} (he : Ev X ρ J e d) (h : Ss X (upd ρ x d) J rest Φ) (hx : X.env.kindOf x = some .local := by kernel_rfl)
    (hs : notComp e = true := by rfl) : Ss X ρ J (.Assign [.Name x p] e pos :: rest) Φ := by
  refine ⟨fun s E S => ?_⟩
  refine wpAny_execs_cons (wpAny_Assign_Name (he.go s _ _ S fun v s₁ n₁ r₁ => store_local (S.next n₁) r₁ hx fun s₂ S₂ _ => ?_) (swaps_plain hs))
  exact h.go s₂ E S₂

theorem ss_return {e : Expr} {pos : Pos} {d : D} (he : Ev X ρ J e d) (h : ∀ v s, St X ρ J s → Rep X.F s.heap v d → Φ (.ret v) s) : Ss X ρ J (.Return (some e) pos :: rest) Φ := by
  refine ⟨fun s E S => ?_⟩
  exact wpAny_execs_cons (wpAny_Return_some (he.go s _ _ S fun v s₁ n₁ r₁ => h v s₁ (S.next n₁) r₁))

theorem ss_if {t : Expr} {a b : List Stmt} {pos : Pos} {c : Bool} (ht : Tr X ρ J t c) (ha : c = true → Ss X ρ J (a ++ rest) Φ) (hb : c = false → Ss X ρ J (b ++ rest) Φ) : Ss X ρ J (.If t a b pos :: rest) Φ := by
  refine ⟨fun s E S => ?_⟩
  have key : wpAny (model PR X.w) X.A (isTrue t X.env (eval t X.env)) (fun c s' => wpAny (model PR X.w) X.A (if c = true then (execs a X.env >>= thenDo rest X.env) else (execs b X.env >>= thenDo rest X.env)) Φ E s') E s := by
    refine ht.go s _ _ S fun s₁ n₁ => ?_
    cases c with
    | true => simpa using wpAny_execs_unappend ((ha rfl).go s₁ E (S.next n₁))
    | false => simpa using wpAny_execs_unappend ((hb rfl).go s₁ E (S.next n₁))
  rw [execs_cons']
  have e : (exec (.If t a b pos) X.env >>= thenDo rest X.env) = (do standAt pos; let c ← isTrue t X.env (eval t X.env); if c = true then (execs a X.env >>= thenDo rest X.env) else (execs b X.env >>= thenDo rest X.env)) := by
    rw [exec_If]
    simp only [bind_assoc]
    congr 1; funext _; congr 1; funext c
    cases c
    · simp only [Bool.false_eq_true, if_false]
    · simp only [if_true]
  rw [e]
  exact wpAny_bind (wpAny_standAt (wpAny_bind key))

theorem ss_pass {pos : Pos} (h : Ss X ρ J rest Φ) : Ss X ρ J (.Pass pos :: rest) Φ := ⟨fun s E S => wpAny_execs_cons (wpAny_Pass (h.go s E S))⟩
theorem ss_break {pos : Pos} (h : ∀ s, St X ρ J s → Φ .brk s) : Ss X ρ J (.Break pos :: rest) Φ := ⟨fun s E S => wpAny_execs_cons (wpAny_Break (h s S))⟩

theorem ss_while {t : Expr} {body : List Stmt} {pos : Pos} (I : Nat → (Str → Option D) → Prop) (F : (Str → Option D) → Prop) (n₀ : Nat) (h0 : I n₀ ρ)
    (turn : ∀ n ρ', I n ρ' → ∃ b, Tr X ρ' J t b ∧ (b = false → F ρ') ∧ (b = true → Ss X ρ' J body (fun f s' => match f with
      | .next | .cont => ∃ m, m < n ∧ ∃ ρ'', I m ρ'' ∧ St X ρ'' J s'
      | .brk => ∃ ρ'', F ρ'' ∧ St X ρ'' J s'
      | .ret _ => False)))
    (after : ∀ ρ', F ρ' → Ss X ρ' J rest Φ) : Ss X ρ J (.While t body [] pos :: rest) Φ := by
  refine ⟨fun s E S => ?_⟩
  refine wpAny_execs_cons (wpAny_While (codeAny_whileLoop (fun n s => ∃ ρ', I n ρ' ∧ St X ρ' J s) ?_ n₀ ⟨ρ, h0, S⟩))
  rintro n s' ⟨ρ', hI, S'⟩
  obtain ⟨b, ht, hf, hb⟩ := turn n ρ' hI
  refine ht.go s' _ _ S' fun s₁ n₁ => ?_
  cases b with
  | false => simpa using wpAny_execs_nil ((after ρ' (hf rfl)).go s₁ E (S'.next n₁))
  | true =>
    have := (hb rfl).go s₁ (notedBy (model PR X.w) X.A X.env fun e s' => cameBackBy (model PR X.w) X.A X.env E e s') (S'.next n₁)
    simp only [if_true]
    refine wpAny_mono this (fun f s₂ h₂ => ?_) fun _ _ x => x
    cases f with
    | next => obtain ⟨m, hm, ρ'', a, b⟩ := h₂; exact ⟨m, hm, ρ'', a, b⟩
    | cont => obtain ⟨m, hm, ρ'', a, b⟩ := h₂; exact ⟨m, hm, ρ'', a, b⟩
    | brk => obtain ⟨ρ'', a, b⟩ := h₂; exact (after ρ'' a).go s₂ E b
    | ret v => exact h₂.elim

end
end Mine
end
section
open PySem PySem.W PyProof.Rows PySem.Calls
set_option Elab.async false
set_option maxRecDepth 100000
set_option linter.unusedVariables false
namespace Mine

/-- the frame's context in a call of a def -/
abbrev fX (w : World) (H₀ : Heap) (k : Nat) (fd : FuncData) (f : Addr) (A : Around) (sE : Shared) (F : Addr → Prop) : Cx :=
  { w := w, H₀ := H₀, A := A.deeper (callEnvC fd sE.heap.objs.size f), k := k, env := callEnvC fd sE.heap.objs.size f, sE := sE, F := F }

def Stores (X : Cx) (J : Side) (n : Str) : Prop :=
  ∀ (A' : Around) (ρ : Str → Option D) (d : D) (v : Value) (s : Shared) (Q : Unit → Shared → Prop) (E : Value → Shared → Prop), St X ρ J s → Rep X.F s.heap v d →
    (∀ s', St X (upd ρ n d) J s' → (∀ u e, Rep X.F s.heap u e → Rep X.F s'.heap u e) → Q () s') → wpAny (model PR X.w) A' (storeName X.env n v) Q E s
theorem stores_local {X : Cx} {J : Side} {n : Str} (h : X.env.kindOf n = some .local) : Stores X J n := fun A' ρ d v s Q E S r q => store_local S r h q

def bindAll : (Str → Option D) → List (Str × D) → Str → Option D
  | ρ, [] => ρ
  | ρ, (n, d) :: r => bindAll (upd ρ n d) r

theorem Reps.map {F F' : Addr → Prop} {h h' : Heap} (k : ∀ u e, Rep F h u e → Rep F' h' u e) : ∀ {vs : List Value} {ds : List D}, Reps F h vs ds → Reps F' h' vs ds
  | _, _, .nil => .nil
  | _, _, .cons a b => .cons (k _ _ a) (Reps.map k b)

theorem bind_loop {X : Cx} {J : Side} {A : Around}
    {f : Str × Value → PUnit → Sem (ForInStep PUnit)} (hf : ∀ n v u, f (n, v) u = (do storeName X.env n v; pure (.yield ⟨⟩)))
    {Q : PUnit → Shared → Prop} {E : Value → Shared → Prop} (names : List Str) : ∀ (vs : List Value) (ds : List D) (ρ : Str → Option D) (s : Shared), names.length = vs.length → (∀ n ∈ names, Stores X J n) → St X ρ J s → Reps X.F s.heap vs ds →
      (∀ s', St X (bindAll ρ (names.zip ds)) J s' → Q ⟨⟩ s') → wpAny (model PR X.w) A (forIn (names.zip vs) ⟨⟩ f) Q E s := by
  induction names with
  | nil =>
    intro vs ds ρ s hl hs S r q
    cases vs with
    | nil => exact wpAny_pure (q s (by simpa [bindAll] using S))
    | cons => cases hl
  | cons n names ih =>
    intro vs ds ρ s hl hs S r q
    cases r with
    | nil => cases hl
    | cons a b =>
      rw [List.zip_cons_cons, List.forIn_cons, hf]
      refine wpAny_bind (wpAny_bind (hs n List.mem_cons_self A ρ _ _ s _ _ S a fun s' S' kp => wpAny_pure ?_))
      exact ih _ _ _ s' (by simpa using hl) (fun m hm => hs m (List.mem_cons_of_mem _ hm)) S' (b.map kp) q


/-- what a def's body must do -/
def Ret (F : Addr → Prop) (H₀ : Heap) (sE : Shared) (r : D) : Flow → Shared → Prop := fun f s' => ∃ v, f = .ret v ∧ Rep F s'.heap v r ∧ Nx0 H₀ sE s'

theorem ss_ret {X : Cx} {ρ : Str → Option D} {J : Side} {rest : List Stmt} {e : Expr} {pos : Pos} {r : D} (he : Ev X ρ J e r) : Ss X ρ J (.Return (some e) pos :: rest) (Ret X.F X.H₀ X.sE r) :=
  ss_return he fun v s S rp => ⟨v, rfl, rp, S.nx⟩

theorem fn_body {w : World} {H₀ : Heap} {f : Addr} {o : Obj} {fd : FuncData} {body : List Stmt} {k : Nat} {args : List D} {r : D} (names : List Str) (J : Addr → Side)
    (ho : (KF w).lookup f = some o) (hd : o.data = .func fd) (hb : fd.body = .stmts body)
    (hcd : ∃ c oc vs t, fd.code = .ref c ∧ (KF w).lookup c = some oc ∧ oc.data = .fields vs ∧ vs[1]? = some (.str fd.qualname t))
    (hco : fd.scope.isCoroutine = false) (hgen : fd.scope.isGenerator = false) (hk : fd.scope.kind = .function) (hclo : fd.closure = []) (hgl : fd.globals = mainGlobals) (hbt : fd.builtins = builtinsNs)
    (hlen : names.length = args.length)
    (hbind : ∀ vs : List Value, vs.length = args.length → bindArgs fd ⟨vs, []⟩ = pure (names.zip vs))
    (hJ : ∀ s : Shared, HG H₀ s.heap → (J s.heap.objs.size).P (pushCells (s.heap.push { cls := .type "frame", data := .dict #[] }) fd.scope.names))
    (hsto : ∀ (A : Around) (sE : Shared) (F : Addr → Prop), HG H₀ sE.heap → Live F sE.heap → ∀ n ∈ names, Stores (fX w H₀ k fd f A sE F) (J sE.heap.objs.size) n)
    (h : ∀ (A : Around) (sE : Shared) (F : Addr → Prop), HG H₀ sE.heap → Live F sE.heap → Ss (fX w H₀ k fd f A sE F) (bindAll (fun _ => none) (names.zip args)) (J sE.heap.objs.size) body (Ret F H₀ sE r)) (hoff : ∀ L, ¬ (J L).N L := by intro _ h; exact h) :
    Fn w H₀ (.ref f) (k + 1) args r := by
  refine fn_of fun F A s vs Q E fl R rp q => ?_
  have hkin := R.hg.kin R.B
  obtain ⟨c, oc, vc, tc, e1, e2, e3, e4⟩ := hcd
  have hcd' : s.heap.CodeRec fd.code fd.qualname := ⟨c, oc, vc, tc, e1, hkin _ _ e2, e3, e4⟩
  refine wpAny_call (codeAny_call_function R.rm.room (hkin _ _ ho) hd hco hgen hb hcd' ?_)
  rw [hbind vs rp.length, hclo]
  refine wpAny_pure ?_
  simp only [newFunctionEnv, Option.isSome_none, Bool.false_eq_true, if_false]
  refine wpAny_bind (wpAny_alloc ?_)
  refine wpAny_bind (wpAny_layCells _ (fun name kind cells => by cases hkc : kind == NameKind.cell <;> simp [hkc]) _ _ _ _ ?_)
  rw [show ({ s with heap := s.heap.push { cls := .type "frame", data := .dict #[] } } : Shared).heap.objs.size = s.heap.objs.size + 1 from Heap.size_push ..]
  have keep : ∀ b o, s.heap.get? b = some o → (pushCells (s.heap.push { cls := .type "frame", data := .dict #[] }) fd.scope.names).get? b = some o :=
    fun b o e => pushCells_keeps _ _ b o (Heap.get?_push_of_some _ e)
  have hL : (pushCells (s.heap.push { cls := .type "frame", data := .dict #[] }) fd.scope.names).get? s.heap.objs.size = some { cls := .type "frame", data := .dict #[] } :=
    pushCells_keeps _ _ _ _ (Heap.get?_push_size _ rfl)
  have hnew := R.hg.new
  have hnone : s.heap.get? s.heap.objs.size = none := by
    cases e : s.heap.get? s.heap.objs.size with
    | none => rfl
    | some o => exact absurd (Heap.lt_size e) (Nat.lt_irrefl _)
  have S₀ : St (fX w H₀ k fd f A s F) (fun _ => none) (J s.heap.objs.size) { s with heap := pushCells (s.heap.push { cls := .type "frame", data := .dict #[] }) fd.scope.names } := {
    rd := ⟨R.B, R.hg.next (.of_keep keep), by
      obtain ⟨l, e, y⟩ := R.fr.next (.of_keep keep)
      refine ⟨callEnvC fd s.heap.objs.size f :: l, by show A.frames.map _ = _; rw [e]; rfl, fun z hz => ?_⟩
      rcases List.mem_cons.mp hz with rfl | hz
      · exact ⟨by show fd.scope.kind ≠ _; rw [hk]; decide, s.heap.objs.size, _, rfl, hnew.2, hnew.1, hL, rfl, _, _, rfl⟩
      · exact y z hz, R.gens, R.rm.deeper _, R.tk⟩
    nx := ⟨.of_keep keep, rfl, id⟩
    fresh := hnone
    lnew := hnew.1
    lpl := hnew.2
    ek := hk
    eg := hgl
    eb := hbt
    lcls := ⟨_, hL⟩
    vars := ⟨fun _ => none, ⟨_, #[], 0, hL, rfl, fun e he => by simp at he, fun _ => rfl⟩, fun x d e => by cases e⟩
    side := hJ s R.hg
    off := hoff _
    live := fl.next (Kp.of_keep (H₀ := H₀) keep) R.hg.tab }
  refine wpAny_bind (bind_loop (X := fX w H₀ k fd f A s F) (J := J s.heap.objs.size) (fun _ _ _ => rfl) names vs args (fun _ => none) _ (by rw [hlen, rp.length]) (hsto A s F R.hg fl) S₀ (rp.next (Kp.of_keep (H₀ := H₀) keep) R.hg.tab) fun s' S' => wpAny_pure ?_)
  refine ⟨?_, codeAny_func (wpAny_mono ((h A s F R.hg fl).go s' (fun _ _ => False) S') (fun fl s'' hr => ?_) fun _ _ x => x.elim)⟩
  · obtain ⟨mc, a, b⟩ := R.B.nolimit
    exact ⟨mc, ns_hg a S'.rd.hg (by decide), b⟩
  · obtain ⟨v, rfl, rv, nv⟩ := hr
    exact q v s'' nv rv

end Mine
end
section
open PySem PySem.W PyProof.Rows PySem.Calls
set_option Elab.async false
set_option maxRecDepth 100000
set_option linter.unusedVariables false
namespace Mine

abbrev Part := Str × Option Int
def dPart (p : Part) : D := .tup [.str p.1, match p.2 with | some i => .int i | none => .none]
def parts8 : List Part := [("5", some 5), ("08", some 8), ("rc", none), ("12", some 12), ("unknown", none), ("60", some 60), ("0", some 0), ("pl", none)]
def pt (n : Int) : Part := parts8.getD (n.fmod 8).toNat ("5", some 5)

local macro_rules | `(tactic| walk_at "look") => `(tactic| first | exact upd_here | exact upd_there (by decide +kernel) (by walk_at "look"))
local macro_rules | `(tactic| walk_at "sz") => `(tactic| (show _ ≤ (16777216 : Nat); simp only [List.length_cons, List.length_nil]; omega))
local macro_rules | `(tactic| walk_at "ev") => `(tactic| first
  | exact ev_int | exact ev_str | exact ev_none | exact ev_bool
  | exact ev_var (by walk_at "look")
  | exact ev_tuple (by walk_at "evs") (by walk_at "sz")
  | exact ev_list (by walk_at "evs") (by walk_at "sz"))
local macro_rules | `(tactic| walk_at "evs") => `(tactic| first
  | exact evs_nil
  | exact evs_cons (by walk_at "ev") (by walk_at "evs"))

theorem fn_part (w : World) (H₀ : Heap) (n : Int) : Fn w H₀ (.ref 80) 1 [.int n] (dPart (pt n)) := by
  refine fn_body (k := 0) [Str.ofString "n"] (fun _ => .triv) rfl rfl rfl ⟨_, _, _, _, rfl, rfl, rfl, rfl⟩ rfl rfl rfl rfl rfl rfl rfl (fun vs h => ?_) (fun _ _ => trivial) (fun A sE F _ _ n hn => ?_) (fun A sE F hE hF => ?_)
  · match vs, h with
    | [v], _ => kernel_rfl
  · simp only [List.mem_singleton] at hn
    subst hn
    exact stores_local (by kernel_rfl)
  · dsimp only [bindAll, List.zip, List.zipWith]
    refine ss_ret ?_
    have h0 := Int.fmod_nonneg_of_pos n (show (0 : Int) < 8 by decide)
    have h1 := Int.fmod_lt_of_pos n (show (0 : Int) < 8 by decide)
    refine ev_item_tup (by walk_at "ev") (ev_mod_int (by walk_at "ev") ev_int (by decide)) h0 (by omega) ?_
    unfold pt
    generalize (n.fmod 8) = j at *
    have : j = 0 ∨ j = 1 ∨ j = 2 ∨ j = 3 ∨ j = 4 ∨ j = 5 ∨ j = 6 ∨ j = 7 := by omega
    rcases this with rfl | rfl | rfl | rfl | rfl | rfl | rfl | rfl <;> rfl

end Mine
end
section
open PySem PySem.W PyProof.Rows PySem.Calls
set_option Elab.async false
set_option maxRecDepth 100000
set_option linter.unusedVariables false
namespace Mine

theorem Tab.but {h h' : Heap} {I : Addr} (t : Tab h) (hp : PC ≠ I) (hq : PL ≠ I) (x : Heap.ExtBut I h h') : Tab h' := by
  obtain ⟨ps, a, b, d⟩ := t
  exact ⟨ps, a.extBut x hp hq, b.extBut x hp hq, d⟩
theorem Base.pc {w : World} {H₀ : Heap} (B : Base w H₀) : ∃ o, H₀.get? PC = some o := by
  obtain ⟨ps, _, ⟨⟨o, _, e, _⟩, _⟩, _⟩ := B.tab
  exact ⟨o, e⟩
theorem Base.pl {w : World} {H₀ : Heap} (B : Base w H₀) : ∃ o, H₀.get? PL = some o := by
  obtain ⟨ps, _, ⟨_, e⟩, _⟩ := B.tab
  exact ⟨_, e⟩

theorem St.weak {X : Cx} {ρ ρ' : Str → Option D} {J J' : Side} {s : Shared} (S : St X ρ J s) (h : ∀ x d, ρ' x = some d → ρ x = some d) (hJ : J'.P s.heap) (hoff : ¬ J'.N X.env.locals) : St X ρ' J' s :=
  { S with
    vars := by
      obtain ⟨mv, n, v⟩ := S.vars
      exact ⟨mv, n, fun x d e => v x d (h x d e)⟩
    side := hJ
    off := hoff }

/-- one object that is not the frame's is changed -/
theorem St.but {X : Cx} {ρ : Str → Option D} {J J' : Side} {s : Shared} (S : St X ρ J s) {I : Addr} {o : Obj} {h' : Heap} {tk : Nat} (e : s.heap.get? I = some o)
    (hd : (∀ es n, o.data ≠ .dict es n) ∨ (X.env.locals ≠ I ∧ ∃ h₀, FrOk X.H₀ X.A h₀ ∧ h₀.get? I = none)) (hcell : ∀ v, o.data ≠ .cell v) (hs : X.F I ∨ ∀ xs n, o.data ≠ .seq xs n) (hl : X.F I → ∃ o', h'.get? I = some o')
    (hE : X.sE.heap.get? I = none) (h0 : X.H₀.get? I = none) (x : Heap.ExtBut I s.heap h') (htk : s.toks ≤ tk) (hJ : J'.P h') (hoff : ¬ J'.N X.env.locals) : St X ρ J' { s with heap := h', toks := tk } := by
  have hpc : PC ≠ I := by rintro rfl; obtain ⟨o, e⟩ := S.rd.B.pc; rw [h0] at e; cases e
  have hpl : PL ≠ I := by rintro rfl; obtain ⟨o, e⟩ := S.rd.B.pl; rw [h0] at e; cases e
  have tab' := S.rd.hg.tab.but hpc hpl x
  have ne : ∀ b o, X.sE.heap.get? b = some o → b ≠ I := by rintro b o e' rfl; rw [hE] at e'; cases e'
  have ne0 : ∀ b o, X.H₀.get? b = some o → b ≠ I := by rintro b o e' rfl; rw [h0] at e'; cases e'
  obtain ⟨mv, n, v⟩ := id S.vars
  have hL : X.env.locals ≠ I := by
    rcases hd with hd | hd
    · rintro rfl
      obtain ⟨on, es, ep, e3, e4, _⟩ := n
      rw [e] at e3; cases e3; exact hd _ _ e4
    · exact hd.1
  have keepSeq : ∀ b o, s.heap.get? b = some o → ¬ X.F b → o.cls = .type "tuple" ∨ o.cls = .type "list" → (∃ xs n, o.data = .seq xs n) → h'.get? b = some o ∧ ¬ X.F b := by
    rintro b ob eb hF _ ⟨xs, k, dd⟩
    refine ⟨x b ob ?_ eb, hF⟩
    rintro rfl
    rcases hs with hs | hs
    · exact hF hs
    · rw [e] at eb; cases eb; exact hs _ _ dd
  exact {
    rd := ⟨S.rd.B, ⟨fun b o e p => x b o (ne0 b o e) (S.rd.hg.old b o e p), tab'⟩, by
      obtain ⟨l, el, y⟩ := S.rd.fr
      refine ⟨l, el, fun z hz => ?_⟩
      obtain ⟨a, f, of, b, c, dd, ef, g, es, nn, k⟩ := y z hz
      refine ⟨a, f, of, b, c, dd, x f of ?_ ef, g, es, nn, k⟩
      rcases hd with hd | ⟨_, h₀, ⟨l', el', y'⟩, hn⟩
      · rintro rfl
        rw [e] at ef; cases ef; exact hd _ _ k
      · rw [el] at el'; cases el'
        obtain ⟨_, f', of', b', _, _, ef', _⟩ := y' z hz
        rw [b] at b'; cases b'
        rintro rfl
        rw [hn] at ef'; (cases ef'), S.rd.gens, S.rd.rm, by have := S.rd.tk; show tk ≠ 0; omega⟩
    nx := ⟨⟨fun b o e p c => x b o (ne b o e) (S.nx.kp.keep b o e p c), fun b o e p => by
        obtain ⟨o₁, e₁, r₁⟩ := S.nx.kp.frm b o e p
        exact ⟨o₁, x b o₁ (ne b o e) e₁, r₁⟩, fun b o a p e => x b o (ne0 b o a) (S.nx.kp.old b o a p e), fun _ => tab'⟩, S.nx.os, S.nx.gens⟩
    fresh := S.fresh
    lnew := S.lnew
    lpl := S.lpl
    ek := S.ek
    eg := S.eg
    eb := S.eb
    lcls := by
      obtain ⟨o, e⟩ := S.lcls
      exact ⟨o, x _ o hL e⟩
    vars := by
      refine ⟨mv, n.extBut x hL, fun y d hy => ?_⟩
      obtain ⟨u, hu, ru⟩ := v y d hy
      refine ⟨u, ?_, ru.same keepSeq⟩
      rcases hu with ⟨a, b⟩ | ⟨a, c', b, cc⟩
      · exact .inl ⟨a, b⟩
      · refine .inr ⟨a, c', b, ?_⟩
        obtain ⟨oc, eo, do_⟩ := cc
        refine ⟨oc, x c' oc ?_ eo, do_⟩
        rintro rfl
        rw [e] at eo; cases eo; exact hcell _ do_
    side := hJ
    off := hoff
    live := fun a f => by
      by_cases hf : a = I
      · subst hf; exact hl f
      · obtain ⟨oa, ea⟩ := S.live a f
        exact ⟨oa, x a oa hf ea⟩ }

/-- an iterator over data -/
structure Wk (w : World) (A : Around) (F : Addr → Prop) (I : Addr) (ds : List D) (T : Nat → Heap → Prop) : Prop where
  ext : ∀ i h h', T i h → (∀ o, h.get? I = some o → h'.get? I = some o) → (∀ b o, h.get? b = some o → ¬ F b → o.cls = .type "tuple" ∨ o.cls = .type "list" → (∃ xs n, o.data = .seq xs n) → h'.get? b = some o) → T i h'
  at' : ∀ i h, T i h → ∃ o fs n, h.get? I = some o ∧ o.cls = .type n ∧ n ≠ "frame" ∧ o.data = .fields fs ∧
    ["enumerate", "zip", "dict_itemiterator", "dict_reverseitemiterator", "odict_iterator", "itertools.zip_longest", "itertools.pairwise"].contains n = false
  item : ∀ i d (s : Shared) (Q : Option Value → Shared → Prop) (E : Value → Shared → Prop), ds[i]? = some d → T i s.heap →
    (∀ v h' tk, s.toks ≤ tk → Rep F h' v d → T (i + 1) h' → Heap.ExtBut I s.heap h' → Q (some v) { s with heap := h', toks := tk }) → wpAny (model PR w) A (pyNext (.ref I)) Q E s
  done : ∀ (s : Shared) (Q : Option Value → Shared → Prop) (E : Value → Shared → Prop), T ds.length s.heap →
    (∀ h' tk, s.toks ≤ tk → Heap.ExtBut I s.heap h' → Q none { s with heap := h', toks := tk }) → wpAny (model PR w) A (pyNext (.ref I)) Q E s
  self : ∀ i (s : Shared) (Q : Value → Shared → Prop) (E : Value → Shared → Prop), T i s.heap → Q (.ref I) s → wpAny (model PR w) A (pyIter (.ref I)) Q E s

theorem owned_go {w : World} {A : Around} {I : Addr} {o : Obj} {fs : Array Value} {n : String} {s : Shared} {E : Value → Shared → Prop} {target : Expr} {v : Value} {Q : Unit → Shared → Prop} (e : s.heap.get? I = some o) (c : o.cls = .type n) (d : o.data = .fields fs)
    (hn : ["enumerate", "zip", "dict_itemiterator", "dict_reverseitemiterator", "odict_iterator", "itertools.zip_longest", "itertools.pairwise"].contains n = false) (q : Q () s) :
    wpAny (model PR w) A (letOwnedTupleGo target (.ref I) v) Q E s := by
  have key : ∀ a : Addr, wpAny (model PR w) A (do
      let o ← load I
      match o.cls, o.data with
      | .type n, .fields vs =>
        if ["enumerate", "zip", "dict_itemiterator", "dict_reverseitemiterator", "odict_iterator", "itertools.zip_longest", "itertools.pairwise"].contains n && vs[0]? == some (rawInt a) then
          rule "for.unpacks-the-owned-tuple"
          updateField I 0 .none
      | _, _ => pure ()) Q E s := by
    intro a
    refine wpAny_bind (wpAny_load e ?_)
    rw [c, d]
    dsimp only
    rw [hn, Bool.false_and]
    exact wpAny_pure q
  unfold letOwnedTupleGo
  cases target <;> first
    | exact wpAny_pure q
    | (cases v <;> first | exact wpAny_pure q | exact key _)

def Wk.side {w : World} {A : Around} {F : Addr → Prop} {I : Addr} {ds : List D} {T : Nat → Heap → Prop} (W : Wk w A F I ds T) (i : Nat) : Side where
  P := T i
  N b := b = I
  M := F
  ok h b p n := by
    subst n
    obtain ⟨o, fs, n, e, c, _, d, _⟩ := W.at' i h p
    exact ⟨o, e, .inl (by rw [c]; intro h; cases h)⟩
  ext h h' p n m := by
    refine W.ext i h h' p (fun o e => (n I o e rfl).1 ?_) m
    obtain ⟨o', fs, k, e', c, hk, _⟩ := W.at' i h p
    rw [e] at e'; cases e'
    rw [c]
    intro h
    cases h
    exact hk rfl

theorem wk_of {w : World} {A : Around} {F : Addr → Prop} {I : Addr} {ds : List D} {T : Nat → Heap → Prop} {fp : List Addr} {P : Nat → Value → Prop} {St : Nat → Heap → Prop}
    (W : Walks PR w A I fp [I] ds.length P St) (hT : ∀ i h, T i h → St i h)
    (ext : ∀ i h h', T i h → (∀ o, h.get? I = some o → h'.get? I = some o) → (∀ b o, h.get? b = some o → ¬ F b → o.cls = .type "tuple" ∨ o.cls = .type "list" → (∃ xs n, o.data = .seq xs n) → h'.get? b = some o) → T i h')
    (at' : ∀ i h, T i h → ∃ o fs n, h.get? I = some o ∧ o.cls = .type n ∧ n ≠ "frame" ∧ o.data = .fields fs ∧
      ["enumerate", "zip", "dict_itemiterator", "dict_reverseitemiterator", "odict_iterator", "itertools.zip_longest", "itertools.pairwise"].contains n = false)
    (step : ∀ i d h h' v, ds[i]? = some d → T i h → P i v → St (i + 1) h' → Heap.ExtBut I h h' → Rep F h' v d ∧ T (i + 1) h') : Wk w A F I ds T where
  ext := ext
  at' := at'
  item i d s Q E hd t q := by
    have hi : i < ds.length := (List.getElem?_eq_some_iff.mp hd).1
    refine wpAny_with_toks (Nat.le_refl s.toks) (W.item i s _ _ hi (hT i _ t) fun v h' tk p st k htk => ?_)
    have k' : Heap.ExtBut I s.heap h' := fun b o hb e => k b o (by simpa using hb) e
    obtain ⟨a, b⟩ := step i d _ h' v hd t p st k'
    exact q v h' tk htk a b k'
  done s Q E t q := wpAny_with_toks (Nat.le_refl s.toks) (W.done s _ _ (hT _ _ t) fun h' tk k htk => q h' tk htk fun b o hb e => k b o (by simpa using hb) e)
  self i s Q E t q := W.self i s Q E (hT i _ t) q

theorem wk_list {w : World} {A : Around} {F : Addr → Prop} (hh : A.handled = none) {I l : Addr} (hne : l ≠ I) {ds : List D} {vs : List Value} (hl : vs.length = ds.length) (hF : ¬ F l) :
    Wk w A F I ds (fun i h => h.IsListIter I l i ∧ (∃ n, h.get? l = some { cls := .type "list", data := .seq vs.toArray n }) ∧ Reps F h vs ds) := by
  have W := Walks.list (prog := PR) (w := w) hh I l hne vs.toArray
  rw [List.size_toArray, hl] at W
  refine wk_of W (fun i h t => ⟨t.1, isList_of t.2.1.choose_spec⟩) (fun i h h' t x y => ?_) (fun i h t => ?_) (fun i d h h' v hd t p st k => ?_)
  · obtain ⟨a, ⟨n, b⟩, c⟩ := t
    exact ⟨a.at x, ⟨n, y _ _ b hF (.inr rfl) ⟨_, _, rfl⟩⟩, c.same fun b o e f c d => ⟨y b o e f c d, f⟩⟩
  · obtain ⟨⟨o, e, c, d⟩, _⟩ := t
    exact ⟨o, _, _, e, c, by decide, d, by decide⟩
  · obtain ⟨⟨oI, eI, cI, dI⟩, ⟨n, b⟩, c⟩ := t
    have c' : Reps F h' vs ds := c.same fun b o e f c x => by
      refine ⟨k b o ?_ e, f⟩
      rintro rfl
      obtain ⟨xs, m, x⟩ := x
      rw [eI] at e; cases e; rw [dI] at x; cases x
    obtain ⟨v', hv', rv⟩ := c'.get hd
    have : v' = v := by
      have p : vs.toArray[i]? = some v := p
      rw [List.getElem?_toArray] at p
      rw [p] at hv'; cases hv'; rfl
    subst this
    exact ⟨rv, st.1, ⟨n, k l _ hne b⟩, c'⟩

theorem wk_tup {w : World} {A : Around} {F : Addr → Prop} (hh : A.handled = none) {I l : Addr} (hne : l ≠ I) {ds : List D} {vs : List Value} (hl : vs.length = ds.length) (hF : ¬ F l) :
    Wk w A F I ds (fun i h => h.IsTupleIter I l i ∧ (∃ n, h.get? l = some { cls := .type "tuple", data := .seq vs.toArray n }) ∧ Reps F h vs ds) := by
  have W := Walks.tuple (prog := PR) (w := w) hh I l hne vs.toArray
  rw [List.size_toArray, hl] at W
  refine wk_of W (fun i h t => ⟨t.1, by obtain ⟨n, b⟩ := t.2.1; exact ⟨_, b, rfl, n, rfl⟩⟩) (fun i h h' t x y => ?_) (fun i h t => ?_) (fun i d h h' v hd t p st k => ?_)
  · obtain ⟨a, ⟨n, b⟩, c⟩ := t
    exact ⟨a.at x, ⟨n, y _ _ b hF (.inl rfl) ⟨_, _, rfl⟩⟩, c.same fun b o e f c d => ⟨y b o e f c d, f⟩⟩
  · obtain ⟨⟨o, e, c, d⟩, _⟩ := t
    exact ⟨o, _, _, e, c, by decide, d, by decide⟩
  · obtain ⟨⟨oI, eI, cI, dI⟩, ⟨n, b⟩, c⟩ := t
    have c' : Reps F h' vs ds := c.same fun b o e f c x => by
      refine ⟨k b o ?_ e, f⟩
      rintro rfl
      obtain ⟨xs, m, x⟩ := x
      rw [eI] at e; cases e; rw [dI] at x; cases x
    obtain ⟨v', hv', rv⟩ := c'.get hd
    have : v' = v := by
      have p : vs.toArray[i]? = some v := p
      rw [List.getElem?_toArray] at p
      rw [p] at hv'; cases hv'; rfl
    subst this
    exact ⟨rv, st.1, ⟨n, k l _ hne b⟩, c'⟩

theorem wk_range {w : World} {A : Around} {F : Addr → Prop} (hh : A.handled = none) {I : Addr} {a c : Int} {n : Nat} :
    Wk w A F I ((List.range n).map fun i : Nat => .int (a + i * c)) (fun i h => IsRangeIter h I (a + (i : Nat) * c) ((n : Int) - (i : Nat)) c) := by
  have W := Walks.range (prog := PR) (w := w) hh I a c n
  have hn : ((List.range n).map fun i : Nat => D.int (a + i * c)).length = n := by simp
  rw [← hn] at W
  refine wk_of W (fun i h t => by have t : IsRangeIter h I (a + (i : Nat) * c) ((n : Int) - (i : Nat)) c := t; simpa using t) (fun i h h' t x y => x _ t) (fun i h t => ⟨_, _, _, t, rfl, by decide, rfl, by decide⟩) (fun i d h h' v hd t p st k => ?_)
  simp only [List.length_map, List.length_range] at st
  have hi : i < n := by have := (List.getElem?_eq_some_iff.mp hd).1; simpa using this
  obtain ⟨t, rfl⟩ := p
  rw [List.getElem?_map, List.getElem?_range hi] at hd
  simp at hd; subst hd
  exact ⟨.int _ _, st⟩
end Mine
end
section
open PySem PySem.W PyProof.Rows PySem.Calls
set_option Elab.async false
set_option maxRecDepth 100000
set_option linter.unusedVariables false
namespace Mine
theorem none_of_size {h : Heap} : h.get? h.objs.size = none := by
  cases e : h.get? h.objs.size with
  | none => rfl
  | some o => exact absurd (Heap.lt_size e) (Nat.lt_irrefl _)
section
variable {X : Cx} {ρ : Str → Option D} {J : Side} {Φ : Flow → Shared → Prop} {rest : List Stmt}

theorem St.newAddr {s : Shared} (S : St X ρ J s) {a : Addr} (ha : s.heap.get? a = none) (hp : a ≠ PL) : X.sE.heap.get? a = none ∧ X.H₀.get? a = none ∧ ¬ X.F a ∧ ¬ J.N a := by
  refine ⟨?_, ?_, fun f => ?_, fun n => ?_⟩
  · cases e : X.sE.heap.get? a with
    | none => rfl
    | some o => obtain ⟨o', e', _⟩ := S.nx.kp.frm _ o e hp; rw [ha] at e'; cases e'
  · cases e : X.H₀.get? a with
    | none => rfl
    | some o => have := S.rd.hg.old a o e hp; rw [ha] at this; cases this
  · obtain ⟨o, e⟩ := S.live a f; rw [ha] at e; cases e
  · obtain ⟨o, e, _⟩ := J.ok _ a S.side n; rw [ha] at e; cases e
theorem St.newSize {s : Shared} (S : St X ρ J s) : X.sE.heap.get? s.heap.objs.size = none ∧ X.H₀.get? s.heap.objs.size = none ∧ ¬ X.F s.heap.objs.size ∧ ¬ J.N s.heap.objs.size :=
  S.newAddr none_of_size S.rd.hg.new.2

/-- an iterable, evaluated and begun -/
structure EvIt (X : Cx) (ρ : Str → Option D) (J : Side) (e : Expr) (ds : List D) : Prop where
  go : ∀ (s : Shared) (Q E : Value → Shared → Prop), St X ρ J s →
    (∀ I s', Nx X.H₀ s s' → s.heap.get? I = none → X.sE.heap.get? I = none → X.H₀.get? I = none → ¬ X.F I → ¬ J.N I → (∀ F' : Addr → Prop, (∀ a, F' a → X.F a ∨ s'.heap.get? a = none) → ∃ T, Wk X.w X.A F' I ds T ∧ T 0 s'.heap) → Q (.ref I) s') →
    wpAny (model PR X.w) X.A (eval e X.env) (fun x s₁ => wpAny (model PR X.w) X.A (pyIter x) Q E s₁) E s

theorem Nx.none {H₀ : Heap} {s s' : Shared} {a : Addr} (n : Nx H₀ s s') (e : s'.heap.get? a = .none) (hp : a ≠ PL) : s.heap.get? a = .none := by
  cases h : s.heap.get? a with
  | none => rfl
  | some o => obtain ⟨o', e', _⟩ := n.kp.frm _ o h hp; rw [e] at e'; cases e'

theorem evit_lst {e : Expr} {ds : List D} (h : Ev X ρ J e (.lst ds)) : EvIt X ρ J e ds := by
  refine ⟨fun s Q E S q => h.go s _ _ S fun v s₁ n₁ r₁ => ?_⟩
  obtain ⟨a, vs, n, rfl, hF, e, rr⟩ := r₁.isLstF
  have S₁ := S.next n₁
  obtain ⟨b1, b2, b3, b4⟩ := S₁.newSize
  refine wpAny_pyIter_list (isList_of e) ?_
  have k : Kp X.H₀ s₁.heap (s₁.heap.push { cls := .type "list_iterator", data := .fields #[.ref a, .int 0 0] }) := .push _ _ _
  refine q s₁.heap.objs.size _ (n₁.trans ⟨⟨k, rfl, id⟩, Nat.le_refl _⟩) (n₁.none none_of_size S₁.rd.hg.new.2) b1 b2 b3 b4 fun F' hF' => ?_
  have up : ∀ b o, s₁.heap.get? b = some o → ¬ X.F b → ¬ F' b := fun b o e f g => (hF' b g).elim f fun h => by
    rw [Heap.get?_push_of_some _ e] at h; cases h
  refine ⟨_, wk_list (l := a) S₁.rd.rm.hh (Nat.ne_of_lt (Heap.lt_size e)) rr.length (up a _ e hF), ?_⟩
  exact ⟨⟨_, Heap.get?_push_size _ rfl, rfl, rfl⟩, ⟨n, Heap.get?_push_of_some _ e⟩, rr.same fun b o e f c x => ⟨k.seqs S₁.rd.hg.tab b o e c x, up b o e f⟩⟩
theorem evit_tup {e : Expr} {ds : List D} (h : Ev X ρ J e (.tup ds)) : EvIt X ρ J e ds := by
  refine ⟨fun s Q E S q => h.go s _ _ S fun v s₁ n₁ r₁ => ?_⟩
  obtain ⟨a, vs, n, rfl, hF, e, rr⟩ := r₁.isTupF
  have S₁ := S.next n₁
  obtain ⟨b1, b2, b3, b4⟩ := S₁.newSize
  refine wpAny_pyIter_tuple (t := a) (items := vs.toArray) ⟨_, e, rfl, n, rfl⟩ ?_
  have k : Kp X.H₀ s₁.heap (s₁.heap.push { cls := .type "tuple_iterator", data := .fields #[.ref a, .int 0 0] }) := .push _ _ _
  refine q s₁.heap.objs.size _ (n₁.trans ⟨⟨k, rfl, id⟩, Nat.le_refl _⟩) (n₁.none none_of_size S₁.rd.hg.new.2) b1 b2 b3 b4 fun F' hF' => ?_
  have up : ∀ b o, s₁.heap.get? b = some o → ¬ X.F b → ¬ F' b := fun b o e f g => (hF' b g).elim f fun h => by
    rw [Heap.get?_push_of_some _ e] at h; cases h
  refine ⟨_, wk_tup (l := a) S₁.rd.rm.hh (Nat.ne_of_lt (Heap.lt_size e)) rr.length (up a _ e hF), ?_⟩
  exact ⟨⟨_, Heap.get?_push_size _ rfl, rfl, rfl⟩, ⟨n, Heap.get?_push_of_some _ e⟩, rr.same fun b o e f c x => ⟨k.seqs S₁.rd.hg.tab b o e c x, up b o e f⟩⟩

theorem St.step {s : Shared} {F : Addr → Prop} {I : Addr} {ds : List D} {T : Nat → Heap → Prop} {W : Wk X.w X.A F I ds T} {i : Nat} {J' : Side} {h' : Heap} {tk : Nat} (S : St X ρ (J.and (W.side i)) s)
    (hE : X.sE.heap.get? I = none) (h0 : X.H₀.get? I = none) (hF : ¬ X.F I) (hN : ¬ J.N I) (x : Heap.ExtBut I s.heap h') (htk : s.toks ≤ tk) (hJ : J.P h' → J'.P h') (hoff : ¬ J'.N X.env.locals) : St X ρ J' { s with heap := h', toks := tk } := by
  obtain ⟨o, fs, n, e, c, _, d, _⟩ := W.at' i _ S.side.2
  refine S.but e (.inl fun es n h => by rw [d] at h; cases h) (fun v h => by rw [d] at h; cases h) (.inr fun xs n h => by rw [d] at h; cases h) (fun f => (hF f).elim) hE h0 x htk (hJ ?_) hoff
  exact J.but e hN (.inr fun xs n h => by rw [d] at h; cases h) x S.side.1

theorem ss_for {target iter : Expr} {body : List Stmt} {pos : Pos} {ds : List D} (I : Nat → (Str → Option D) → Side → Prop) (hi : EvIt X ρ J iter ds) (h0 : I 0 ρ J) (hN : ∀ i ρ' J', I i ρ' J' → ∀ a, J'.N a → J.N a)
    (turn : ∀ i d ρ' J' (K : Side), (∀ a, X.F a → K.M a) → (∀ a, X.F a → ¬ K.N a) → ds[i]? = some d → I i ρ' J' → ∃ ρ'', As X ρ' (J'.and K) target d ρ'' ∧ Ss X ρ'' (J'.and K) body (fun f s' => match f with
      | .next | .cont => ∃ ρ₃ J₃, I (i + 1) ρ₃ J₃ ∧ St X ρ₃ (J₃.and K) s'
      | _ => False))
    (after : ∀ ρ' J', I ds.length ρ' J' → Ss X ρ' J' rest Φ) (hs : ∀ x, foldedSetIterable iter X.env x = pure x := by intro _; rfl) : Ss X ρ J (.For target iter body [] pos :: rest) Φ := by
  refine ⟨fun s E S => wpAny_execs_cons (wpAny_For (hi.go s _ _ S fun It s₁ n₁ hIn hE h0' hF hNI hW => ?_) hs)⟩
  obtain ⟨T, W, t0⟩ := hW X.F fun a f => .inl f
  refine codeAny_forLoop_any (fun n s' => ∃ i ρ' J', i ≤ ds.length ∧ n = ds.length - i ∧ I i ρ' J' ∧ St X ρ' (J'.and (W.side i)) s') ?_ ds.length
    ⟨0, ρ, J, Nat.zero_le _, rfl, h0, (S.next n₁).weak (fun _ _ e => e) ⟨(S.next n₁).side, t0⟩ fun h => h.elim S.off fun h => by obtain ⟨o, e⟩ := S.lcls; rw [h, hIn] at e; cases e⟩
  rintro n s' ⟨i, ρ', J', hle, rfl, hI, S'⟩
  have hNI' : ¬ J'.N It := fun h => hNI (hN i ρ' J' hI It h)
  cases hd : ds[i]? with
  | none =>
    have : i = ds.length := Nat.le_antisymm hle (by simpa using hd)
    subst this
    refine W.done s' _ _ S'.side.2 fun h' tk htk x => wpAny_execs_nil ?_
    exact (after ρ' J' hI).go _ E (S'.step hE h0' hF hNI' x htk id fun h => S'.off (.inl h))
  | some d =>
    have hlt : i < ds.length := (List.getElem?_eq_some_iff.mp hd).1
    refine W.item i d s' _ _ hd S'.side.2 fun v h' tk htk rv t' x => ?_
    have S₂ : St X ρ' (J'.and (W.side (i + 1))) { s' with heap := h', toks := tk } := S'.step hE h0' hF hNI' x htk (fun p => ⟨p, t'⟩) S'.off
    obtain ⟨o, fs, k, e, c, _, dd, hk⟩ := W.at' _ _ t'
    obtain ⟨ρ'', ha, hb⟩ := turn i d ρ' J' (W.side (i + 1)) (fun a f => f) (fun a f n => hF (by cases n; exact f)) hd hI
    refine owned_go e c dd hk (ha.go _ v _ _ S₂ rv fun s₃ S₃ => ?_)
    refine wpAny_mono (hb.go s₃ (notedBy (model PR X.w) X.A X.env fun e s' => cameBackBy (model PR X.w) X.A X.env E e s') S₃) (fun f s₄ h₄ => ?_) fun _ _ x => x
    cases f with
    | next => obtain ⟨ρ₃, J₃, a, b⟩ := h₄; exact ⟨ds.length - (i + 1), by omega, i + 1, ρ₃, J₃, hlt, rfl, a, b⟩
    | cont => obtain ⟨ρ₃, J₃, a, b⟩ := h₄; exact ⟨ds.length - (i + 1), by omega, i + 1, ρ₃, J₃, hlt, rfl, a, b⟩
    | brk => exact h₄.elim
    | ret v => exact h₄.elim

theorem St.push {s : Shared} {h' : Heap} (S : St X ρ J s) (x : ∀ b o, s.heap.get? b = some o → h'.get? b = some o) : St X ρ J { s with heap := h' } :=
  S.next ⟨⟨.of_keep x, rfl, id⟩, Nat.le_refl _⟩
/-- a pair of names -/
theorem as_pair {x y : Str} {p q pos : Pos} {k : Nat} {d e : D} (hx : X.env.kindOf x = some .local) (hy : X.env.kindOf y = some .local) : As X ρ J (.Tuple [.Name x p, .Name y q] k pos) (.tup [d, e]) (upd (upd ρ x d) y e) := by
  refine ⟨fun s v Q E S r fin => ?_⟩
  obtain ⟨a, vs, n, rfl, e1, rr⟩ := r.isTup
  obtain ⟨u, v, rfl, ru, rv⟩ := rr.two
  refine assign_Tuple_tuple (items := #[u, v]) S.rd.rm.hh ⟨_, e1, rfl, n, rfl⟩ rfl rfl fun h₁ he₁ => ?_
  have up₁ : ∀ c o, s.heap.get? c = some o → h₁.get? c = some o := fun c o e => he₁ c o (Nat.ne_of_lt (Heap.lt_size e)) e
  have S₁ := S.push up₁
  have kp : Kp X.H₀ s.heap h₁ := .of_keep up₁
  show wpAny _ _ (assignInOrder [assign (.Name x p) X.env, assign (.Name y q) X.env] [u, v]) _ _ _
  refine PyProof.Rows.assignInOrder_cons (wpAny_assign_Name (store_local S₁ (ru.next kp S.rd.hg.tab) hx fun s₂ S₂ k₂ => ?_))
  refine PyProof.Rows.assignInOrder_cons (wpAny_assign_Name (store_local S₂ (k₂ _ _ (rv.next kp S.rd.hg.tab)) hy fun s₃ S₃ k₃ => ?_))
  exact PyProof.Rows.assignInOrder_nil (fin s₃ S₃)
end
end Mine
end
section
open PySem PySem.W PyProof.Rows PySem.Calls
set_option Elab.async false
set_option maxRecDepth 100000
set_option linter.unusedVariables false
namespace Mine

/-- an own list -/
def Own (F : Addr → Prop) (a : Addr) (ds : List D) : Side where
  P h := ∃ vs n, h.get? a = some { cls := .type "list", data := .seq vs.toArray n } ∧ Reps F h vs ds
  N b := b = a
  M := F
  ok h b p n := by
    subst n
    obtain ⟨vs, k, e, _⟩ := p
    exact ⟨_, e, .inl (by intro h; cases h)⟩
  ext h h' p n m := by
    obtain ⟨vs, k, e, r⟩ := p
    exact ⟨vs, k, (n a _ e rfl).1 (by intro h; injection h with h; exact absurd h (by decide)), r.same fun b o e f c x => ⟨m b o e f c x, f⟩⟩

section
variable {w : World} {A : Around} {R : Result → Shared → Prop} {s : Shared}
theorem compLoop_any {elt : Expr} {gens : List Comprehension} {scope : Scope} {pos : Pos} {depth : Nat} {it acc : Value} {env : Env} {target : Expr} {p : Pos} {ifs : List Expr} {inner : Sem Unit}
    (ht : compTurn (.ListComp elt gens scope pos) depth it acc env = (do
      standAt p
      match ← pyNext it with
      | none => pure (.done .next)
      | some v =>
        letOwnedTupleGo target it v
        assign target env v
        let mut ok := true
        for c in ifs do
          if ok then ok ← isTrue c env (eval c env)
        if ok then inner
        again (.compLoop (.ListComp elt gens scope pos) depth it acc env)))
    (I : Nat → Shared → Prop)
    (turn : ∀ n s, I n s → wpAny (model PR w) A (pyNext it) (fun r s₁ => match r with
      | none => R (.ok .next) s₁
      | some v => wpAny (model PR w) A (letOwnedTupleGo target it v) (fun _ s₁' => wpAny (model PR w) A (assign target env v) (fun _ s₂ =>
          wpAny (model PR w) A (forIn ifs true fun c r => if r = true then do let ok ← isTrue c env (eval c env); pure (ForInStep.yield ok) else pure (ForInStep.yield r)) (fun ok s₃ =>
            if ok = true then wpAny (model PR w) A inner (fun _ s₅ => ∃ m, m < n ∧ I m s₅) (notedBy (model PR w) A env fun e s' => R (.error e) s') s₃
            else ∃ m, m < n ∧ I m s₃) (notedBy (model PR w) A env fun e s' => R (.error e) s') s₂) (notedBy (model PR w) A env fun e s' => R (.error e) s') s₁') (notedBy (model PR w) A env fun e s' => R (.error e) s') s₁)
        (notedBy (model PR w) A env fun e s' => R (.error e) s') s)
    (n : Nat) (h : I n s) : codeAny (model PR w) A (.compLoop (.ListComp elt gens scope pos) depth it acc env) R s := by
  refine codeAny_loop rfl I (fun n s hI => ?_) n h
  show wpAny _ A ((compTurn (.ListComp elt gens scope pos) depth it acc env).onRaise (fun x => do noteFrame x env; theTreesLotGoes x)) _ _ s
  refine wpAny_noted ?_
  rw [ht]
  refine wpAny_bind (wpAny_standAt (wpAny_bind (wpAny_mono (turn n s hI) (fun r s₁ h₁ => ?_) fun _ _ h' => h')))
  cases r with
  | none => exact wpAny_pure h₁
  | some v =>
    refine wpAny_bind (wpAny_mono h₁ (fun _ s₁' h₁' => ?_) fun _ _ h' => h')
    refine wpAny_bind (wpAny_mono h₁' (fun _ s₂ h₂ => wpAny_bind (wpAny_mono h₂ (fun ok s₃ h₃ => ?_) fun _ _ h' => h')) fun _ _ h' => h')
    cases ok with
    | false => exact wpAny_pure ⟨rfl, h₃⟩
    | true => exact wpAny_bind (wpAny_mono h₃ (fun _ s₅ h₅ => wpAny_pure ⟨rfl, h₅⟩) fun _ _ h' => h')

theorem compStart_any {elt : Expr} {gens : List Comprehension} {scope : Scope} {pos : Pos} {depth : Nat} {it acc : Value} {env : Env} {g : Comprehension} (hg : gens[depth]? = some g) (ha : g.is_async = 0)
    (h0 : codeAny (model PR w) A (.compLoop (.ListComp elt gens scope pos) depth it acc env) R s)
    (h : wpAny (model PR w) A (pyIter it) (fun it' s' => codeAny (model PR w) A (.compLoop (.ListComp elt gens scope pos) depth it' acc env) R s') (notedBy (model PR w) A env fun x s' => R (.error x) s') s) :
    codeAny (model PR w) A (.compStart (.ListComp elt gens scope pos) depth it acc env) R s := by
  refine codeAny_of_tree ?_
  show wpAny _ _ ((compStart (.ListComp elt gens scope pos) depth it acc env).onRaise (fun x => do noteFrame x env; standAt theWindowsPlace)) _ _ s
  refine wpAny_notedAt ?_
  unfold compStart
  rw [show (clausesOf (.ListComp elt gens scope pos))[depth]? = some g from hg]
  simp only [Option.elim, ha, bne_self_eq_false, Bool.false_eq_true, if_false]
  show wpAny _ _ (ask >>= _) _ _ s
  refine wpAny_bind (wpAny_askSetting (wpAny_ite ?_))
  split
  · first
      | exact wpAny_bind (wpAny_pure (wpAny_pure (And.intro rfl h0)))
      | exact wpAny_pure (And.intro rfl h0)
  · first
      | exact wpAny_bind (wpAny_rule (wpAny_bind (wpAny_standAt (wpAny_bind (wpAny_mono h (fun it' s' h' => wpAny_pure (And.intro rfl h')) fun _ _ x => x)))))
      | (refine wpAny_bind (wpAny_rule ?_); show wpAny _ _ (standAt g.iter.pos >>= _) _ _ s; exact wpAny_bind (wpAny_standAt (wpAny_bind (wpAny_mono h (fun it' s' h' => wpAny_pure (And.intro rfl h')) fun _ _ x => x))))
end

/-- the tests of a comprehension -/
structure Ts (X : Cx) (ρ : Str → Option D) (J : Side) (ifs : List Expr) (b : Bool) : Prop where
  go : ∀ (s : Shared) (Q : Bool → Shared → Prop) (E : Value → Shared → Prop), St X ρ J s → (∀ s', Nx X.H₀ s s' → Q b s') →
    wpAny (model PR X.w) X.A (forIn ifs true fun c r => if r = true then do let ok ← isTrue c X.env (eval c X.env); pure (ForInStep.yield ok) else pure (ForInStep.yield r)) Q E s
theorem ts_nil {X : Cx} {ρ : Str → Option D} {J : Side} : Ts X ρ J [] true := ⟨fun s Q E S q => wpAny_tests_nil (q s (.refl _ _))⟩
theorem ts_one {X : Cx} {ρ : Str → Option D} {J : Side} {c : Expr} {b : Bool} (h : Tr X ρ J c b) : Ts X ρ J [c] b := ⟨fun s Q E S q => wpAny_tests_one (h.go s Q E S q)⟩

/-- what a comprehension's turn puts into the row -/
structure Emit (X : Cx) (ρ ρ₀ : Str → Option D) (acc : Addr) (K : Side) (inner : Sem Unit) (outs : List D) : Prop where
  go : ∀ (pre : List D) (s : Shared) (Q : Unit → Shared → Prop) (E : Value → Shared → Prop), pre.length + outs.length ≤ sizeLine → St X ρ ((Own X.F acc pre).and K) s → (∀ s', St X ρ₀ ((Own X.F acc (pre ++ outs)).and K) s' → Q () s') →
    wpAny (model PR X.w) X.A inner Q E s

theorem own_append {X : Cx} {ρ : Str → Option D} {K : Side} {acc : Addr} {pre : List D} {s : Shared} {v : Value} {d : D} {Q E : Value → Shared → Prop} (S : St X ρ ((Own X.F acc pre).and K) s) (r : Rep X.F s.heap v d)
    (hF : X.F acc) (hE : X.sE.heap.get? acc = none) (h0 : X.H₀.get? acc = none) (hM : K.M acc) (hN : ¬ K.N acc) (hz : pre.length ≤ sizeLine)
    (q : ∀ s', St X ρ ((Own X.F acc (pre ++ [d])).and K) s' → Q .none s') : wpAny (model PR X.w) X.A (call (.builtin "list.append") [.ref acc, v]) Q E s := by
  obtain ⟨vs, n, e, rr⟩ := id S.side.1
  refine wpAny_list_append_plain ⟨n, e⟩ (fun h' ⟨n', e'⟩ sb => ?_) (by rw [List.size_toArray, rr.length]; exact hz)
  have x : Heap.ExtBut acc s.heap h' := sb.extBut
  have kk : ∀ b o, s.heap.get? b = some o → ¬ X.F b → o.cls = .type "tuple" ∨ o.cls = .type "list" → (∃ xs n, o.data = .seq xs n) → h'.get? b = some o ∧ ¬ X.F b :=
    fun b o e f _ _ => ⟨x b o (by rintro rfl; exact f hF) e, f⟩
  refine q _ (S.but e (.inl fun es n h => by cases h) (fun v h => by cases h) (.inl hF) (fun _ => ⟨_, e'⟩) hE h0 x (Nat.le_refl _) ⟨⟨vs ++ [v], n', ?_, (rr.same kk).append (.cons (r.same kk) .nil)⟩, ?_⟩ S.off)
  · rw [e']; simp
  · exact K.but e hN (.inl hM) x S.side.2

theorem emit_elt {X : Cx} {ρ ρ₀ : Str → Option D} {acc : Addr} {K : Side} {elt : Expr} {d : D} (hF : X.F acc) (hE : X.sE.heap.get? acc = none) (h0 : X.H₀.get? acc = none) (hM : K.M acc) (hN : ¬ K.N acc)
    (hρ : ∀ x d, ρ₀ x = some d → ρ x = some d)
    (h : ∀ J, Ev X ρ J elt d) : Emit X ρ ρ₀ acc K (do let _ ← call (.builtin "list.append") [.ref acc, ← eval elt X.env]) [d] := by
  refine ⟨fun pre s Q E hz S q => ?_⟩
  simp only [List.length_singleton] at hz
  refine wpAny_bind ((h _).go s _ _ S fun v s₁ n₁ r₁ => wpAny_bind ?_)
  exact own_append (S.next n₁) r₁ hF hE h0 hM hN (by omega) fun s' S' => wpAny_pure (q s' (S'.weak hρ S'.side S'.off))

theorem comp_loop {X : Cx} {ρ₀ : Str → Option D} {acc : Addr} {K : Side} {elt : Expr} {gens : List Comprehension} {scope : Scope} {pos : Pos} {depth : Nat} {I : Addr} {target : Expr} {p : Pos} {ifs : List Expr} {inner : Sem Unit} {ds : List D} {T : Nat → Heap → Prop} {outs : D → List D} {pre : List D}
    {R : Result → Shared → Prop} {s : Shared}
    (ht : compTurn (.ListComp elt gens scope pos) depth (.ref I) (.ref acc) X.env = (do
      standAt p
      match ← pyNext (.ref I) with
      | none => pure (.done .next)
      | some v =>
        letOwnedTupleGo target (.ref I) v
        assign target X.env v
        let mut ok := true
        for c in ifs do
          if ok then ok ← isTrue c X.env (eval c X.env)
        if ok then inner
        again (.compLoop (.ListComp elt gens scope pos) depth (.ref I) (.ref acc) X.env)))
    (W : Wk X.w X.A X.F I ds T) (hE : X.sE.heap.get? I = none) (h0 : X.H₀.get? I = none) (hF : ¬ X.F I) (hN : ¬ K.N I) (hacc : I ≠ acc) (hK : ∀ a, X.F a → K.M a ∧ ¬ K.N a)
    (turn : ∀ (i : Nat) d (K' : Side), (∀ a, X.F a → K'.M a ∧ ¬ K'.N a) → ds[i]? = some d → ∃ ρ' b, (∀ J, As X ρ₀ J target d ρ') ∧ (∀ J, Ts X ρ' J ifs b) ∧ (∀ x d, ρ₀ x = some d → ρ' x = some d) ∧ (b = true → Emit X ρ' ρ₀ acc K' inner (outs d)) ∧ (b = false → outs d = []))
    (hz : pre.length + (ds.flatMap outs).length ≤ sizeLine)
    (S : St X ρ₀ (((Own X.F acc pre).and K).and (W.side 0)) s)
    (hR : ∀ s', St X ρ₀ ((Own X.F acc (pre ++ ds.flatMap outs)).and K) s' → R (.ok .next) s') : codeAny (model PR X.w) X.A (.compLoop (.ListComp elt gens scope pos) depth (.ref I) (.ref acc) X.env) R s := by
  refine compLoop_any ht (fun n s' => ∃ i, i ≤ ds.length ∧ n = ds.length - i ∧ St X ρ₀ (((Own X.F acc (pre ++ (ds.take i).flatMap outs)).and K).and (W.side i)) s') ?_ ds.length
    ⟨0, Nat.zero_le _, rfl, by simpa using S⟩
  rintro n s' ⟨i, hle, rfl, S'⟩
  have hN' : ¬ ((Own X.F acc (pre ++ (ds.take i).flatMap outs)).and K).N I := fun h => h.elim hacc hN
  cases hd : ds[i]? with
  | none =>
    have : i = ds.length := Nat.le_antisymm hle (by simpa using hd)
    subst this
    refine W.done s' _ _ S'.side.2 fun h' tk htk x => hR _ ?_
    rw [List.take_length] at S'
    exact S'.step hE h0 hF hN' x htk id fun h => S'.off (.inl h)
  | some d =>
    have hlt : i < ds.length := (List.getElem?_eq_some_iff.mp hd).1
    have htake : ds.take (i + 1) = ds.take i ++ [d] := by rw [List.take_add_one, hd]; rfl
    have hsplit : ds.flatMap outs = (ds.take i).flatMap outs ++ (outs d ++ (ds.drop (i + 1)).flatMap outs) := by
      conv => lhs; rw [← List.take_append_drop (i + 1) ds, htake]
      simp
    refine W.item i d s' _ _ hd S'.side.2 fun v h' tk htk rv t' x => ?_
    have S₂ : St X ρ₀ (((Own X.F acc (pre ++ (ds.take i).flatMap outs)).and K).and (W.side (i + 1))) { s' with heap := h', toks := tk } := S'.step hE h0 hF hN' x htk (fun p => ⟨p, t'⟩) S'.off
    obtain ⟨o, fs, k, e, c, _, dd, hk⟩ := W.at' _ _ t'
    obtain ⟨ρ', b, ha, htt, hρ, hem, hno⟩ := turn i d (K.and (W.side (i + 1))) (fun a f => ⟨⟨(hK a f).1, f⟩, fun h => h.elim (hK a f).2 fun h => by cases h; exact hF f⟩) hd
    refine owned_go e c dd hk ((ha _).go _ v _ _ S₂ rv fun s₃ S₃ => (htt _).go s₃ _ _ S₃ fun s₄ n₄ => ?_)
    have S₄ := S₃.next n₄
    have S₅ : St X ρ' ((Own X.F acc (pre ++ (ds.take i).flatMap outs)).and (K.and (W.side (i + 1)))) s₄ := S₄.weak (fun _ _ e => e) ⟨S₄.side.1.1, S₄.side.1.2, S₄.side.2⟩ fun h => S₄.off (h.elim (fun h => .inl (.inl h)) fun h => h.elim (fun h => .inl (.inr h)) .inr)
    have fin : ∀ s₆, St X ρ₀ ((Own X.F acc (pre ++ (ds.take i).flatMap outs ++ outs d)).and (K.and (W.side (i + 1)))) s₆ → ∃ m, m < ds.length - i ∧ ∃ j, j ≤ ds.length ∧ m = ds.length - j ∧ St X ρ₀ (((Own X.F acc (pre ++ (ds.take j).flatMap outs)).and K).and (W.side j)) s₆ := by
      intro s₆ S₆
      refine ⟨ds.length - (i + 1), by omega, i + 1, hlt, rfl, S₆.weak (fun _ _ e => e) ?_ fun h => S₆.off (h.elim (fun h => h.elim .inl fun h => .inr (.inl h)) fun h => .inr (.inr h))⟩
      rw [htake]
      simp only [List.flatMap_append, List.flatMap_singleton, ← List.append_assoc]
      exact ⟨⟨S₆.side.1, S₆.side.2.1⟩, S₆.side.2.2⟩
    cases b with
    | false =>
      simp only [Bool.false_eq_true, if_false]
      refine fin s₄ (S₅.weak hρ ?_ S₅.off)
      rw [hno rfl, List.append_nil]
      exact S₅.side
    | true =>
      simp only [if_true]
      refine (hem rfl).go _ s₄ _ _ ?_ S₅ fun s₆ S₆ => fin s₆ S₆
      rw [hsplit] at hz
      simp only [List.length_append] at hz ⊢
      omega
end Mine
end
section
open PySem PySem.W PyProof.Rows PySem.Calls
set_option Elab.async false
set_option maxRecDepth 100000
set_option linter.unusedVariables false
namespace Mine

/-- the context in a comprehension -/
abbrev cX (X : Cx) (scope : Scope) (cl : List (Str × Addr)) (sC : Shared) (acc C : Addr) : Cx :=
  { w := X.w, H₀ := X.H₀, A := X.A, k := X.k, env := compEnvC scope cl C X.env, sE := sC, F := fun a => X.F a ∨ a = acc }

section
variable {X : Cx} {ρ : Str → Option D} {J : Side}

/-- the state after a comprehension, seen from outside -/
theorem St.out {ρ₀ : Str → Option D} {K : Side} {scope : Scope} {cl : List (Str × Addr)} {sC s' : Shared} {D₀ C : Addr} {res : List D} (S₂ : St X ρ J sC) (hD : sC.heap.get? D₀ = none) (hDp : D₀ ≠ PL)
    (S : St (cX X scope cl sC D₀ C) ρ₀ ((Own (fun a => X.F a ∨ a = D₀) D₀ res).and K) s') :
    Nx0 X.H₀ sC s' ∧ Rep X.F s'.heap (.ref D₀) (.lst res) := by
  refine ⟨S.nx, ?_⟩
  obtain ⟨vs, n, e, r⟩ := S.side.1
  exact .lst (S₂.newAddr hD hDp).2.2.1 e (r.mono fun a f => .inl f)

theorem comp_block {elt target iter : Expr} {ifs : List Expr} {gens : List Comprehension} {scope : Scope} {cl : List (Str × Addr)} {pos : Pos} {s₂ : Shared} {I : Addr} {ds : List D} {outs : D → List D} {ρ₀ : Str → Option D} {E : Value → Shared → Prop}
    {RR : Value → Addr → Result → Shared → Prop} (inner : Addr → Addr → Sem Unit)
    (ht : ∀ I acc C, compTurn (.ListComp elt (⟨target, iter, ifs, 0⟩ :: gens) scope pos) 0 (.ref I) (.ref acc) (compEnvC scope cl C X.env) = (do
      standAt iter.pos
      match ← pyNext (.ref I) with
      | none => pure (.done .next)
      | some v =>
        letOwnedTupleGo target (.ref I) v
        assign target (compEnvC scope cl C X.env) v
        let mut ok := true
        for c in ifs do
          if ok then ok ← isTrue c (compEnvC scope cl C X.env) (eval c (compEnvC scope cl C X.env))
        if ok then inner acc C
        again (.compLoop (.ListComp elt (⟨target, iter, ifs, 0⟩ :: gens) scope pos) 0 (.ref I) (.ref acc) (compEnvC scope cl C X.env))))
    (hcell : ∀ y ∈ scope.names, y.2 ≠ .cell) (hkind : scope.kind = .function)
    (hfv : ∀ x d, ρ₀ x = some d → ρ x = some d ∧ X.env.kindOf x = some .cell ∧ (∀ C, (compEnvC scope cl C X.env).kindOf x = some .cell) ∧ cl.lookup x = X.env.cells.lookup x)
    (S : St X ρ J s₂) (hIl : ∃ o, s₂.heap.get? I = some o) (hIF : ¬ X.F I) (hI0 : X.H₀.get? I = none) {s : Shared} (n₂ : Nx X.H₀ s s₂) (hIs : s.heap.get? I = none) 
    (hW : ∀ F' : Addr → Prop, (∀ a, F' a → X.F a ∨ s₂.heap.get? a = none) → ∃ T, Wk X.w X.A F' I ds T ∧ T 0 s₂.heap)
    (turn : ∀ (sC : Shared) acc C, sC.heap.get? acc = none → X.H₀.get? acc = none → sC.heap.get? C = none → ∀ (i : Nat) d (K' : Side), (∀ a, X.F a ∨ a = acc → K'.M a ∧ ¬ K'.N a) → ds[i]? = some d →
      ∃ ρ' b, (∀ J, As (cX X scope cl sC acc C) ρ₀ J target d ρ') ∧ (∀ J, Ts (cX X scope cl sC acc C) ρ' J ifs b) ∧ (∀ x d, ρ₀ x = some d → ρ' x = some d) ∧
        (b = true → Emit (cX X scope cl sC acc C) ρ' ρ₀ acc K' (inner acc C) (outs d)) ∧ (b = false → outs d = []))
    (hz : (ds.flatMap outs).length ≤ sizeLine)
    (hRR : ∀ D₀ C s', s₂.heap.get? D₀ = none → D₀ ≠ PL → s₂.heap.get? C = none → C ≠ PL → C ≠ D₀ → St (cX X scope cl s D₀ C) ρ₀ ((Own (fun a => X.F a ∨ a = D₀) D₀ (ds.flatMap outs)).and .triv) s' → RR (.ref D₀) C (.ok .next) s') :
    wpAny (model PR X.w) X.A (newList []) (fun acc s₃ => wpAny (model PR X.w) X.A (newFunctionEnv scope X.env.globals cl [] X.env.qual none .none (some X.env)) (fun cenv s₄ =>
      codeAny (model PR X.w) X.A (.compStart (.ListComp elt (⟨target, iter, ifs, 0⟩ :: gens) scope pos) 0 (.ref I) acc { cenv with scope := relabel scope X.env }) (RR acc cenv.locals) s₄) E s₃) E s₂ := by
  refine wpAny_newObj_type (wpAny_newFunctionEnv hcell (by intro y hy; simp at hy) (fun h₁ hns₁ hsb₁ => ?_) hkind)
  dsimp only at hns₁ hsb₁ ⊢
  generalize hH2 : s₂.heap.push { cls := .type "list", dict := none, data := .seq ([] : List Value).toArray } = H2 at hns₁ hsb₁ ⊢
  have hC : H2.objs.size = s₂.heap.objs.size + 1 := by rw [← hH2, Heap.size_push]
  have hDC : s₂.heap.objs.size ≠ H2.objs.size := by rw [hC]; exact Nat.ne_of_lt (Nat.lt_succ_self _)
  have below : ∀ b, b < s₂.heap.objs.size → b ≠ H2.objs.size ∧ b ≠ s₂.heap.objs.size := fun b hb => ⟨by rw [hC]; exact Nat.ne_of_lt (Nat.lt_succ_of_lt hb), Nat.ne_of_lt hb⟩
  have old : ∀ b o, s₂.heap.get? b = some o → h₁.get? b = some o := fun b o e => hsb₁.extBut b o (below b (Heap.lt_size e)).1 (Heap.get?_push_of_some _ (hH2 ▸ Heap.get?_push_of_some _ e))
  have hacc : h₁.get? s₂.heap.objs.size = some { cls := .type "list", data := .seq ([] : List Value).toArray } := hsb₁.extBut _ _ hDC (Heap.get?_push_of_some _ (hH2 ▸ Heap.get?_push_size _ rfl))
  have fresh : ∀ a, s₂.heap.objs.size ≤ a → s₂.heap.get? a = none := fun a ha => by
    cases e : s₂.heap.get? a with
    | none => rfl
    | some o' => exact absurd (Heap.lt_size e) (Nat.not_lt.mpr ha)
  have hpl : ∀ a, s₂.heap.objs.size ≤ a → a ≠ PL := by
    rintro a ha rfl
    obtain ⟨ps, e'⟩ := S.rd.hg.tab.tabne
    rw [fresh _ ha] at e'; cases e'
  have hDn := fresh _ (Nat.le_refl _)
  have hCn : s₂.heap.get? H2.objs.size = none := fresh _ (by rw [hC]; exact Nat.le_succ _)
  have hDp := hpl _ (Nat.le_refl _)
  have hCp := hpl H2.objs.size (by rw [hC]; exact Nat.le_succ _)
  obtain ⟨d1, d2, d3, d4⟩ := S.newAddr hDn hDp
  obtain ⟨c1, c2, c3, c4⟩ := S.newAddr hCn hCp
  have hs : ∀ a, s₂.heap.get? a = none → a ≠ PL → s.heap.get? a = none := fun a h p => n₂.none h p
  have kp : Kp X.H₀ s₂.heap h₁ := .of_keep old
  obtain ⟨T, W, t0⟩ := hW (fun a => X.F a ∨ a = s₂.heap.objs.size) fun a h => h.elim .inl fun h => .inr (h ▸ hDn)
  have t1 : T 0 h₁ := W.ext _ _ _ t0 (fun o e => old _ o e) fun b o e _ _ _ => old b o e
  obtain ⟨oI, eI⟩ := hIl
  have S₁ : St (cX X scope cl s s₂.heap.objs.size H2.objs.size) ρ₀ (((Own (fun a => X.F a ∨ a = s₂.heap.objs.size) s₂.heap.objs.size []).and .triv).and (W.side 0)) { s₂ with heap := h₁ } := {
    rd := ⟨S.rd.B, S.rd.hg.next kp, S.rd.fr.next kp, S.rd.gens, S.rd.rm, S.rd.tk⟩
    nx := n₂.toNx0.trans ⟨kp, rfl, id⟩
    fresh := hs _ hCn hCp
    lnew := c2
    lpl := hCp
    ek := hkind
    eg := S.eg
    eb := S.eb
    lcls := by obtain ⟨o, _, _, e, _⟩ := hns₁; exact ⟨o, e⟩
    vars := by
      refine ⟨_, hns₁, fun x d e => ?_⟩
      obtain ⟨f1, f2, f3, f4⟩ := hfv x d e
      obtain ⟨mv, _, v⟩ := S.vars
      obtain ⟨v, hv, rv⟩ := v x d f1
      rcases hv with ⟨k, _⟩ | ⟨k, c, e1, e2⟩
      · rw [f2] at k; cases k
      · refine ⟨v, .inr ⟨.inl (f3 _), c, by show cl.lookup x = _; rw [f4]; exact e1, kp.cell e2 S.rd.hg.tab⟩, rv.same fun b o e f c x => ⟨old b o e, fun h => h.elim f fun h => ?_⟩⟩
        subst h; rw [hDn] at e; cases e
    side := ⟨⟨⟨[], 0, hacc, .nil⟩, trivial⟩, t1⟩
    off := fun h => h.elim (fun h => h.elim (fun h => hDC (Eq.symm h)) fun h => h) fun h => by
      have h : H2.objs.size = I := h
      rw [← h, hCn] at eI; cases eI
    live := fun a h => h.elim (fun f => by obtain ⟨o, e⟩ := S.live a f; exact ⟨o, old a o e⟩) fun h => by subst h; exact ⟨_, hacc⟩ }
  have loop : ∀ s₃ : Shared, s₃ = { s₂ with heap := h₁, toks := s₂.toks + ([] : List (Str × Value)).length } →
      codeAny (model PR X.w) X.A (.compLoop (.ListComp elt (⟨target, iter, ifs, 0⟩ :: gens) scope pos) 0 (.ref I) (.ref s₂.heap.objs.size) (compEnvC scope cl H2.objs.size X.env))
        (RR (.ref s₂.heap.objs.size) H2.objs.size) s₃ := by
    rintro s₃ rfl
    refine comp_loop (X := cX X scope cl s s₂.heap.objs.size H2.objs.size) (K := .triv) (pre := []) (ρ₀ := ρ₀) (inner := inner s₂.heap.objs.size H2.objs.size) (outs := outs) (ht I _ _) W hIs hI0
      (fun h => h.elim hIF fun h => by subst h; rw [hDn] at eI; cases eI) (fun h => h) (by rintro rfl; rw [hDn] at eI; cases eI) (fun a _ => ⟨trivial, fun h => h⟩)
      (turn s _ _ (hs _ hDn hDp) d2 (hs _ hCn hCp)) (by simpa using hz) S₁ fun s' S' => hRR _ _ s' hDn hDp hCn hCp (Ne.symm hDC) (by simpa using S')
  exact compStart_any (g := ⟨target, iter, ifs, 0⟩) rfl rfl (loop _ rfl) (W.self 0 _ _ _ t1 (loop _ rfl))

/-- the parts that a comprehension's rule asks for -/
structure Cp (X : Cx) (ρ : Str → Option D) (J : Side) (elt target iter : Expr) (ifs : List Expr) (gens : List Comprehension) (scope : Scope) (pos : Pos) (res : List D) : Prop where
  go : ∃ (cl : List (Str × Addr)) (ds : List D) (outs : D → List D) (ρ₀ : Str → Option D) (inner : Addr → Addr → Sem Unit),
    closureFor scope X.env = pure cl ∧ EvIt X ρ J iter ds ∧ ds.flatMap outs = res ∧
    (∀ I acc C, compTurn (.ListComp elt (⟨target, iter, ifs, 0⟩ :: gens) scope pos) 0 (.ref I) (.ref acc) (compEnvC scope cl C X.env) = (do
      standAt iter.pos
      match ← pyNext (.ref I) with
      | none => pure (.done .next)
      | some v =>
        letOwnedTupleGo target (.ref I) v
        assign target (compEnvC scope cl C X.env) v
        let mut ok := true
        for c in ifs do
          if ok then ok ← isTrue c (compEnvC scope cl C X.env) (eval c (compEnvC scope cl C X.env))
        if ok then inner acc C
        again (.compLoop (.ListComp elt (⟨target, iter, ifs, 0⟩ :: gens) scope pos) 0 (.ref I) (.ref acc) (compEnvC scope cl C X.env)))) ∧
    (∀ y ∈ scope.names, y.2 ≠ .cell) ∧ scope.kind = .function ∧ (∀ x ∈ scope.names, x.2 = .local → scope.names.lookup x.1 = some .local) ∧ (∀ x, foldedSetIterable iter X.env x = pure x) ∧
    (∀ x d, ρ₀ x = some d → ρ x = some d ∧ X.env.kindOf x = some .cell ∧ (∀ C, (compEnvC scope cl C X.env).kindOf x = some .cell) ∧ cl.lookup x = X.env.cells.lookup x) ∧
    (∀ (sC : Shared) acc C, sC.heap.get? acc = none → X.H₀.get? acc = none → sC.heap.get? C = none → ∀ (i : Nat) d (K' : Side), (∀ a, X.F a ∨ a = acc → K'.M a ∧ ¬ K'.N a) → ds[i]? = some d →
      ∃ ρ' b, (∀ J, As (cX X scope cl sC acc C) ρ₀ J target d ρ') ∧ (∀ J, Ts (cX X scope cl sC acc C) ρ' J ifs b) ∧ (∀ x d, ρ₀ x = some d → ρ' x = some d) ∧
        (b = true → Emit (cX X scope cl sC acc C) ρ' ρ₀ acc K' (inner acc C) (outs d)) ∧ (b = false → outs d = [])) ∧
    res.length ≤ sizeLine

theorem Tab.butC {w : World} {H₀ h h' : Heap} {C : Addr} (B : Base w H₀) (t : Tab h) (hC : H₀.get? C = none) (x : Heap.ExtBut C h h') : Tab h' :=
  t.but (by rintro rfl; obtain ⟨o, e⟩ := B.pc; rw [hC] at e; cases e) (by rintro rfl; obtain ⟨o, e⟩ := B.pl; rw [hC] at e; cases e) x

theorem ev_comp {elt target iter : Expr} {ifs : List Expr} {gens : List Comprehension} {scope : Scope} {pos : Pos} {res : List D} (h : Cp X ρ J elt target iter ifs gens scope pos res) :
    Ev X ρ J (.ListComp elt (⟨target, iter, ifs, 0⟩ :: gens) scope pos) (.lst res) := by
  obtain ⟨cl, ds, outs, ρ₀, inner, hcl, hi, rfl, ht, hcell, hkind, hnames, hs, hfv, turn, hz⟩ := h
  refine ev_of fun s Q E S q => ?_
  rw [eval_ListComp]
  refine wpAny_comprehension_free (use := none) rfl hs hcl hkind hnames (hi.go s _ _ S fun It s₂ n₂ hI0 hIE hIH hIF hIN hW => ?_)
  have hlive : ∃ o, s₂.heap.get? It = some o := by
    obtain ⟨T, W, t0⟩ := hW X.F fun a f => .inl f
    obtain ⟨o, _, _, e, _⟩ := W.at' _ _ t0
    exact ⟨o, e⟩
  refine comp_block (RR := fun acc C => compPost (model PR X.w) X.A E none Q acc C) inner ht hcell hkind hfv (S.next n₂) hlive hIF hIH n₂ hI0 hW turn hz fun D₀ C s' hD hDp hC hCp hCD S' => ?_
  obtain ⟨mv, hn, _⟩ := S'.vars
  refine ⟨mv, hn, fun h' sb => ?_⟩
  obtain ⟨nx, r⟩ := S.out (n₂.none hD hDp) hDp S'
  have cnew := (S.next n₂).newAddr hC hCp
  have hsC := n₂.none hC hCp
  have ne : ∀ b o, s.heap.get? b = some o → b ≠ C := by rintro b o e rfl; rw [hsC] at e; cases e
  refine q _ _ ⟨⟨fun b o e p c => sb.extBut b o (ne b o e) (nx.kp.keep b o e p c), fun b o e p => ?_, fun b o a p e => sb.extBut b o (ne b o e) (nx.kp.old b o a p e), fun t => Tab.butC S.rd.B (nx.kp.tab t) cnew.2.1 sb.extBut⟩, nx.os, nx.gens⟩ ?_
  · obtain ⟨o', e', r'⟩ := nx.kp.frm b o e p
    exact ⟨o', sb.extBut b o' (ne b o e) e', r'⟩
  · refine r.same fun b o e f c x => ⟨sb.extBut b o ?_ e, f⟩
    rintro rfl
    obtain ⟨on, es, ep, e3, e4, _⟩ := hn
    obtain ⟨xs, k, x⟩ := x
    replace e3 : s'.heap.get? b = some on := e3
    rw [e] at e3; cases e3; rw [x] at e4; cases e4

theorem ss_assign_comp {Φ : Flow → Shared → Prop} {rest : List Stmt} {y : Str} {p spos : Pos} {elt target iter : Expr} {ifs : List Expr} {gens : List Comprehension} {scope : Scope} {pos : Pos} {res : List D} (h : Cp X ρ J elt target iter ifs gens scope pos res)
    (hsw : swapsWith (.ListComp elt (⟨target, iter, ifs, 0⟩ :: gens) scope pos) (some (.Name y p)) spos.line X.env = pure true) (hy : X.env.kindOf y = some .local)
    (hr : Ss X (upd ρ y (.lst res)) J rest Φ) : Ss X ρ J (.Assign [.Name y p] (.ListComp elt (⟨target, iter, ifs, 0⟩ :: gens) scope pos) spos :: rest) Φ := by
  obtain ⟨cl, ds, outs, ρ₀, inner, hcl, hi, rfl, ht, hcell, hkind, hnames, hs, hfv, turn, hz⟩ := h
  refine ⟨fun s E S => wpAny_execs_cons ?_⟩
  rw [exec_Assign_Name_used _ _ _ _ hsw]
  refine wpAny_bind (wpAny_standAt (wpAny_bind ?_))
  show wpAny _ X.A (do let _ ← comprehension (.ListComp elt (⟨target, iter, ifs, 0⟩ :: gens) scope pos) scope X.env _ (newList []) false (eval iter X.env) (some (assign (.Name y p) X.env))) _ _ s
  refine wpAny_bind (wpAny_mono (wpAny_comprehension_free (use := some (assign (.Name y p) X.env)) (Q := fun _ s' => wpAny (model PR X.w) X.A (execs rest X.env) Φ E s') rfl hs hcl hkind hnames
    (hi.go s _ _ S fun It s₂ n₂ hI0 hIE hIH hIF hIN hW => ?_)) (fun _ s' hq => wpAny_pure (wpAny_pure hq)) fun _ _ e => e)
  have hlive : ∃ o, s₂.heap.get? It = some o := by
    obtain ⟨T, W, t0⟩ := hW X.F fun a f => .inl f
    obtain ⟨o, _, _, e, _⟩ := W.at' _ _ t0
    exact ⟨o, e⟩
  refine comp_block (RR := fun acc C => compPost (model PR X.w) X.A E (some (assign (.Name y p) X.env)) (fun _ s' => wpAny (model PR X.w) X.A (execs rest X.env) Φ E s') acc C) inner ht hcell hkind hfv (S.next n₂) hlive hIF hIH n₂ hI0 hW turn hz fun D₀ C s' hD hDp hC hCp hCD S' => ?_
  obtain ⟨mv, hn, _⟩ := S'.vars
  obtain ⟨nx, r⟩ := S.out (n₂.none hD hDp) hDp S'
  have S₃ : St X ρ J s' := S.next0 nx S'.rd.tk
  have hsC := n₂.none hC hCp
  obtain ⟨c1, c2, c3, c4⟩ := S.newAddr hsC hCp
  have hLC : X.env.locals ≠ C := by rintro rfl; obtain ⟨o, e⟩ := S.lcls; rw [hsC] at e; cases e
  show wpAny _ X.A (assign (.Name y p) X.env (.ref D₀)) _ _ _
  refine wpAny_assign_Name (store_local' S₃ r hy fun s₄ S₄ _ hk => ?_)
  have hn₄ : s₄.heap.Ns C mv := hn.at' fun o e => hk _ o (Ne.symm hLC) e
  refine ⟨mv, hn₄, fun h' sb => ?_⟩
  obtain ⟨oc, es, ep, e3, e4, _⟩ := id hn₄
  refine hr.go _ E (S₄.but (tk := s₄.toks) e3 (.inr ⟨hLC, s.heap, S.rd.fr, hsC⟩) (fun v h => by rw [e4] at h; cases h) (.inr fun xs n h => by rw [e4] at h; cases h) (fun f => (c3 f).elim) c1 c2 sb.extBut (Nat.le_refl _) ?_ ?_)
  · exact J.but e3 c4 (.inr fun xs n h => by rw [e4] at h; cases h) sb.extBut S₄.side
  · exact S₄.off
end
end Mine
end
section
open PySem PySem.W PyProof.Rows PySem.Calls
set_option Elab.async false
set_option maxRecDepth 100000
set_option linter.unusedVariables false
namespace Mine
section
variable {X : Cx} {ρ : Str → Option D} {J : Side}

theorem cp_one {elt target iter : Expr} {ifs : List Expr} {scope : Scope} {pos : Pos} {ds res : List D} (outs : D → List D) (ρ₀ : Str → Option D) (cl : List (Str × Addr))
    (hi : EvIt X ρ J iter ds) (hres : ds.flatMap outs = res) (hz : res.length ≤ sizeLine)
    (turn : ∀ (sC : Shared) acc C (i : Nat) d, ds[i]? = some d →
      ∃ ρ' b, (∀ J, As (cX X scope cl sC acc C) ρ₀ J target d ρ') ∧ (∀ J, Ts (cX X scope cl sC acc C) ρ' J ifs b) ∧ (∀ x d, ρ₀ x = some d → ρ' x = some d) ∧
        (b = true → ∃ d', outs d = [d'] ∧ ∀ J, Ev (cX X scope cl sC acc C) ρ' J elt d') ∧ (b = false → outs d = []))
    (hfv : ∀ x d, ρ₀ x = some d → ρ x = some d ∧ X.env.kindOf x = some .cell ∧ (∀ C, (compEnvC scope cl C X.env).kindOf x = some .cell) ∧ cl.lookup x = X.env.cells.lookup x)
    (hcl : closureFor scope X.env = pure cl)
    (hcell : ∀ y ∈ scope.names, y.2 ≠ .cell) (hkind : scope.kind = .function) (hnames : ∀ x ∈ scope.names, x.2 = .local → scope.names.lookup x.1 = some .local) (hs : ∀ x, foldedSetIterable iter X.env x = pure x) :
    Cp X ρ J elt target iter ifs [] scope pos res := by
  refine ⟨cl, ds, outs, ρ₀, fun acc C => (do let _ ← call (.builtin "list.append") [.ref acc, ← eval elt (compEnvC scope cl C X.env)]), hcl, hi, hres, fun _ _ _ => rfl, hcell, hkind, hnames, hs, hfv, ?_, hz⟩
  intro sC acc C hacc hH hC i d K' hK hd
  obtain ⟨ρ', b, ha, ht, hm, h1, h2⟩ := turn sC acc C i d hd
  refine ⟨ρ', b, ha, ht, hm, fun hb => ?_, h2⟩
  obtain ⟨d', e, h⟩ := h1 hb
  rw [e]
  exact emit_elt (X := cX X scope cl sC acc C) (.inr rfl) hacc hH (hK acc (.inr rfl)).1 (hK acc (.inr rfl)).2 hm h
/-- no free names -/
theorem cp_plain {elt target iter : Expr} {ifs : List Expr} {scope : Scope} {pos : Pos} {ds res : List D} (outs : D → List D)
    (hi : EvIt X ρ J iter ds) (hres : ds.flatMap outs = res) (hz : res.length ≤ sizeLine)
    (turn : ∀ (sC : Shared) acc C (i : Nat) d, ds[i]? = some d →
      ∃ ρ' b, (∀ J, As (cX X scope [] sC acc C) (fun _ => none) J target d ρ') ∧ (∀ J, Ts (cX X scope [] sC acc C) ρ' J ifs b) ∧
        (b = true → ∃ d', outs d = [d'] ∧ ∀ J, Ev (cX X scope [] sC acc C) ρ' J elt d') ∧ (b = false → outs d = []))
    (hfree : ∀ y ∈ scope.names, y.2 ≠ .free) (hcell : ∀ y ∈ scope.names, y.2 ≠ .cell) (hkind : scope.kind = .function) (hnames : ∀ x ∈ scope.names, x.2 = .local → scope.names.lookup x.1 = some .local) (hs : ∀ x, foldedSetIterable iter X.env x = pure x := by intro _; rfl) :
    Cp X ρ J elt target iter ifs [] scope pos res := by
  refine cp_one outs (fun _ => none) [] hi hres hz (fun sC acc C i d hd => ?_) (fun x d e => by cases e) (closureFor_none hfree) hcell hkind hnames hs
  obtain ⟨ρ', b, ha, ht, h1, h2⟩ := turn sC acc C i d hd
  exact ⟨ρ', b, ha, ht, fun x d e => (by cases e), h1, h2⟩
end

def out0 : D → List D
  | .tup [a, _] => [a]
  | _ => []
theorem out0_parts (ps : List Part) : (ps.map dPart).flatMap out0 = (ps.map (·.1)).map .str := by
  induction ps with
  | nil => rfl
  | cons p ps ih => simp only [List.map_cons, List.flatMap_cons, ih]; rfl
theorem part_at {ps : List Part} {i : Nat} {d : D} (h : (ps.map dPart)[i]? = some d) : ∃ p ∈ ps, d = dPart p := by
  rw [List.getElem?_map] at h
  cases e : ps[i]? with
  | none => rw [e] at h; cases h
  | some p => rw [e] at h; cases h; exact ⟨p, List.mem_of_getElem? e, rfl⟩

local macro_rules | `(tactic| walk_at "look") => `(tactic| first | exact upd_here | exact upd_there (by decide +kernel) (by walk_at "look"))

theorem fn_whole (w : World) (H₀ : Heap) (ps : List Part) (hok : JoinOk "." (ps.map (·.1)) = true) (hz : ps.length ≤ sizeLine) :
    Fn w H₀ (.ref 85) 1 [.lst (ps.map dPart)] (.str (Txt.join "." (ps.map (·.1)))) := by
  refine fn_body (k := 0) [Str.ofString "parts"] (fun _ => .triv) rfl rfl rfl ⟨_, _, _, _, rfl, rfl, rfl, rfl⟩ rfl rfl rfl rfl rfl rfl rfl (fun vs h => ?_) (fun _ _ => trivial) (fun A sE F _ _ n hn => ?_) (fun A sE F hE hF => ?_)
  · match vs, h with
    | [v], _ => kernel_rfl
  · simp only [List.mem_singleton] at hn
    subst hn
    exact stores_local (by kernel_rfl)
  · dsimp only [bindAll, List.zip, List.zipWith]
    refine ss_ret ?_
    refine ev_join_lst ev_str (ev_comp (cp_plain out0 (evit_lst (ev_var (by walk_at "look"))) (out0_parts ps) (by simpa using hz) (fun sC acc C i d hd => ?_) (by decide +kernel) (by decide +kernel) rfl (by decide +kernel))) hok
    obtain ⟨p, _, rfl⟩ := part_at hd
    exact ⟨_, true, fun J => as_pair (by kernel_rfl) (by kernel_rfl), fun J => ts_nil, fun _ => ⟨_, rfl, fun J => ev_var (by walk_at "look")⟩, fun h => by cases h⟩
end Mine
end
section
open PySem PySem.W PyProof.Rows PySem.Calls
set_option Elab.async false
set_option maxRecDepth 100000
set_option linter.unusedVariables false
namespace Mine
mutual
def D.py : D → PyData
  | .none => .none
  | .bool b => .bool b
  | .int i => .int i
  | .str x => .str x
  | .tup l => .tuple (D.pys l)
  | .lst l => .list (D.pys l)
  | .obj _ => .none
def D.pys : List D → List PyData
  | [] => []
  | d :: r => D.py d :: D.pys r
end
mutual
def D.noObj : D → Bool
  | .obj _ => false
  | .tup l => D.noObjs l
  | .lst l => D.noObjs l
  | _ => true
def D.noObjs : List D → Bool
  | [] => true
  | d :: r => D.noObj d && D.noObjs r
end
mutual
theorem Rep.reads {F : Addr → Prop} {h : Heap} : ∀ {v : Value} {d : D}, Rep F h v d → d.noObj = true → ∃ as, Reads h v d.py as
  | _, _, .none, _ => ⟨_, .none⟩
  | _, _, .bool b, _ => ⟨_, .bool b⟩
  | _, _, .int i t, _ => ⟨_, .int i t⟩
  | _, _, .str x t, _ => ⟨_, .str x t⟩
  | _, _, .tup f e r, n => by
    obtain ⟨as, q⟩ := Reps.reads r (by simpa [D.noObj] using n)
    exact ⟨_, by rw [D.py]; exact .tuple e rfl rfl q⟩
  | _, _, .lst f e r, n => by
    obtain ⟨as, q⟩ := Reps.reads r (by simpa [D.noObj] using n)
    exact ⟨_, by rw [D.py]; exact .list e rfl rfl q⟩
  | _, _, .obj a, n => by simp [D.noObj] at n
theorem Reps.reads {F : Addr → Prop} {h : Heap} : ∀ {vs : List Value} {ds : List D}, Reps F h vs ds → D.noObjs ds = true → ∃ as, ReadsAll h vs (D.pys ds) as
  | _, _, .nil, _ => ⟨_, .nil⟩
  | _, _, .cons x r, n => by
    simp only [D.noObjs, Bool.and_eq_true] at n
    obtain ⟨as, p⟩ := Rep.reads x n.1
    obtain ⟨bs, q⟩ := Reps.reads r n.2
    exact ⟨_, by rw [D.pys]; exact .cons p q⟩
end
section
variable {X : Cx} {ρ : Str → Option D} {J : Side}
theorem cm_eq {d e : D} (nd : d.noObj = true) (ne : e.noObj = true) (hd : d.py.canLay0 = true) (he : e.py.canLay0 = true) (hz : d.py.depth ≤ 100) : Cm X ρ J .Eq d e (PyData.eqv d.py e.py) := by
  refine ⟨fun s u v Q E S ru rv q => ?_⟩
  obtain ⟨as, a⟩ := ru.reads nd
  obtain ⟨bs, b⟩ := rv.reads ne
  refine SeqAt.compareEq_reads a b hd he ?_ (q s (.refl _ _))
  have := S.rd.rm.un
  have : min d.py.depth e.py.depth ≤ d.py.depth := Nat.min_le_left _ _
  show _ < 9900
  omega
theorem cm_in_tup {d : D} {es : List D} (nd : d.noObj = true) (ne : D.noObjs es = true) (hd : d.py.canLay0 = true) (he : PyData.canLayAll0 (D.pys es) = true) (hz : d.py.depth ≤ 100) :
    Cm X ρ J .In d (.tup es) ((D.pys es).any fun y => PyData.eqv y d.py) := by
  refine ⟨fun s u v Q E S ru rv q => ?_⟩
  obtain ⟨as, a⟩ := ru.reads nd
  obtain ⟨bs, b⟩ := rv.reads (show (D.tup es).noObj = true by simpa [D.noObj] using ne)
  rw [D.py] at b
  refine SeqAt.in_tuple_reads b a he hd ?_ (q s (.refl _ _))
  have := S.rd.rm.un
  have : min (PyData.depthAll (D.pys es)) d.py.depth ≤ d.py.depth := Nat.min_le_right _ _
  show _ < 9900
  omega
theorem cm_notin_lst {d : D} {es : List D} (nd : d.noObj = true) (ne : D.noObjs es = true) (hd : d.py.canLay0 = true) (he : PyData.canLayAll0 (D.pys es) = true) (hz : d.py.depth ≤ 100) :
    Cm X ρ J .NotIn d (.lst es) (!(D.pys es).any fun y => PyData.eqv y d.py) := by
  refine ⟨fun s u v Q E S ru rv q => ?_⟩
  obtain ⟨as, a⟩ := ru.reads nd
  obtain ⟨bs, b⟩ := rv.reads (show (D.lst es).noObj = true by simpa [D.noObj] using ne)
  rw [D.py] at b
  refine SeqAt.notIn_list_reads b a he hd ?_ (q s (.refl _ _))
  have := S.rd.rm.un
  have : min (PyData.depthAll (D.pys es)) d.py.depth ≤ d.py.depth := Nat.min_le_right _ _
  show _ < 9900
  omega
end
end Mine
end
section
open PySem PySem.W PyProof.Rows PySem.Calls
set_option Elab.async false
set_option maxRecDepth 100000
set_option linter.unusedVariables false
namespace Mine
local macro_rules | `(tactic| walk_at "look") => `(tactic| first | exact upd_here | exact upd_there (by decide +kernel) (by walk_at "look") | assumption)

def seenOf (p : Part) : Str := if p.1 == "unknown" then "" else p.1
def outSeen : D → List D
  | .tup [.str x, _] => [.str (if x == "unknown" then "" else x)]
  | _ => []
theorem outSeen_parts (ps : List Part) : (ps.map dPart).flatMap outSeen = (ps.map seenOf).map .str := by
  induction ps with
  | nil => rfl
  | cons p ps ih => simp only [List.map_cons, List.flatMap_cons, ih]; rfl

theorem fn_seen (w : World) (H₀ : Heap) (ps : List Part) (hok : JoinOk "." (ps.map seenOf) = true) (hz : ps.length ≤ sizeLine) :
    Fn w H₀ (.ref 90) 1 [.lst (ps.map dPart)] (.str (Txt.join "." (ps.map seenOf))) := by
  refine fn_body (k := 0) [Str.ofString "parts"] (fun _ => .triv) rfl rfl rfl ⟨_, _, _, _, rfl, rfl, rfl, rfl⟩ rfl rfl rfl rfl rfl rfl rfl (fun vs h => ?_) (fun _ _ => trivial) (fun A sE F _ _ n hn => ?_) (fun A sE F hE hF => ?_)
  · match vs, h with
    | [v], _ => kernel_rfl
  · simp only [List.mem_singleton] at hn
    subst hn
    exact stores_local (by kernel_rfl)
  · dsimp only [bindAll, List.zip, List.zipWith]
    refine ss_ret ?_
    refine ev_join_lst ev_str (ev_comp (cp_plain outSeen (evit_lst (ev_var (by walk_at "look"))) (outSeen_parts ps) (by simpa using hz) (fun sC acc C i d hd => ?_) (by decide +kernel) (by decide +kernel) rfl (by decide +kernel))) hok
    obtain ⟨p, _, rfl⟩ := part_at hd
    refine ⟨_, true, fun J => as_pair (by kernel_rfl) (by kernel_rfl), fun J => ts_nil, fun _ => ⟨_, rfl, fun J => ?_⟩, fun h => by cases h⟩
    refine ev_ifexp (tr_compare (ev_var (by walk_at "look")) ev_str cm_eq_str) (fun h => ?_) (fun h => ?_)
    · rw [h]; exact ev_str
    · rw [h]; exact ev_var (by walk_at "look")

theorem fn_unk (w : World) (H₀ : Heap) (x : Str) : Fn w H₀ (.ref 73) 1 [.str x] (.str (if x == "unknown" then "" else x)) := by
  refine fn_body (k := 0) [Str.ofString "val"] (fun _ => .triv) rfl rfl rfl ⟨_, _, _, _, rfl, rfl, rfl, rfl⟩ rfl rfl rfl rfl rfl rfl rfl (fun vs h => ?_) (fun _ _ => trivial) (fun A sE F _ _ n hn => ?_) (fun A sE F hE hF => ?_)
  · match vs, h with
    | [v], _ => kernel_rfl
  · simp only [List.mem_singleton] at hn
    subst hn
    exact stores_local (by kernel_rfl)
  · dsimp only [bindAll, List.zip, List.zipWith]
    refine ss_ret ?_
    refine ev_ifexp (tr_compare (ev_var (by walk_at "look")) ev_str cm_eq_str) (fun h => ?_) (fun h => ?_)
    · rw [h]; exact ev_str
    · rw [h]; exact ev_var (by walk_at "look")

def rank1 (p : Part) : List D :=
  match p.2 with
  | some v => [.int 100, .int v]
  | none => if p.1 == "rc" then [.int 50, .str p.1] else if p.1 == "pl" then [.int 200, .str p.1] else []
def ranksOf (ps : List Part) : List D := ps.flatMap rank1
theorem rank1_len (p : Part) : (rank1 p).length ≤ 2 := by
  unfold rank1
  split
  · simp
  · split
    · simp
    · split <;> simp
theorem ranksOf_len (ps : List Part) : (ranksOf ps).length ≤ 2 * ps.length := by
  induction ps with
  | nil => simp [ranksOf]
  | cons p ps ih =>
    have := rank1_len p
    simp only [ranksOf, List.flatMap_cons, List.length_append, List.length_cons] at *
    omega

theorem part_at' {ps : List Part} {i : Nat} {d : D} (h : (ps.map dPart)[i]? = some d) : ∃ p, ps[i]? = some p ∧ d = dPart p := by
  rw [List.getElem?_map] at h
  cases e : ps[i]? with
  | none => rw [e] at h; cases h
  | some p => rw [e] at h; cases h; exact ⟨p, rfl, rfl⟩

theorem fn_ranks (w : World) (H₀ : Heap) (ps : List Part) (hok : ∀ p ∈ ps, PyData.strOk p.1 = true) (hz : ps.length ≤ 1000) :
    Fn w H₀ (.ref 97) 1 [.lst (ps.map dPart)] (.lst (ranksOf ps)) := by
  refine fn_body (k := 0) [Str.ofString "parts"] (fun _ => .triv) rfl rfl rfl ⟨_, _, _, _, rfl, rfl, rfl, rfl⟩ rfl rfl rfl rfl rfl rfl rfl (fun vs h => ?_) (fun _ _ => trivial) (fun A sE F _ _ n hn => ?_) (fun A sE F hE hF => ?_)
  · match vs, h with
    | [v], _ => kernel_rfl
  · simp only [List.mem_singleton] at hn
    subst hn
    exact stores_local (by kernel_rfl)
  · dsimp only [bindAll, List.zip, List.zipWith]
    refine ss_assign (ev_list evs_nil (by decide)) ?_
    refine ss_for (ds := ps.map dPart) (fun i ρ' J' => J' = .triv ∧ ρ' (Str.ofString "told") = some (.lst (ranksOf (ps.take i)))) (evit_lst (ev_var (by walk_at "look"))) ⟨rfl, upd_here⟩ (fun _ _ _ h a n => h.1 ▸ n) ?_ ?_
    · rintro i d ρ' J' K hM hN hd ⟨rfl, hT⟩
      obtain ⟨p, hp, rfl⟩ := part_at' hd
      have hmem := List.mem_of_getElem? hp
      have htake : ps.take (i + 1) = ps.take i ++ [p] := by rw [List.take_add_one, hp]; rfl
      have hlt : i < ps.length := (List.getElem?_eq_some_iff.mp hp).1
      have hlen := ranksOf_len (ps.take i)
      have hl2 : (ps.take i).length ≤ 1000 := by rw [List.length_take]; omega
      have fin : ranksOf (ps.take (i + 1)) = ranksOf (ps.take i) ++ rank1 p := by rw [htake]; simp [ranksOf]
      refine ⟨_, as_pair (by kernel_rfl) (by kernel_rfl), ?_⟩
      refine ss_if (tr_compare (ev_var (by walk_at "look")) ev_none cm_isnot_none) (fun h => ?_) (fun h => ?_)
      · obtain ⟨x, v⟩ := p
        cases v with
        | none => cases h
        | some v =>
          refine ss_assign (ev_add_lst (ev_var (by walk_at "look")) (ev_list (evs_cons ev_int (evs_cons (ev_var (by walk_at "look")) evs_nil)) (Nat.le_of_ble_eq_true rfl)) (by show _ ≤ 16777216; simp only [List.length_cons, List.length_nil]; omega)) (ss_nil fun s S => ?_)
          exact ⟨_, _, ⟨rfl, by rw [fin]; exact upd_here⟩, S⟩
      · obtain ⟨x, v⟩ := p
        cases v with
        | some v => cases h
        | none =>
          have hx : PyData.strOk x = true := hok _ hmem
          refine ss_if (tr_compare (ev_var (by walk_at "look")) (ev_tuple (evs_cons ev_str (evs_cons ev_str evs_nil)) (by decide)) (cm_in_tup rfl rfl (by simpa [D.py, PyData.canLay0] using hx) (by decide +kernel) (by simp [D.py, PyData.depth]))) (fun h => ?_) (fun h => ?_)
          · have h' : x = "rc" ∨ x = "pl" := by
              simp only [D.pys, D.py, List.any_cons, List.any_nil, PyData.eqv, Bool.or_false, Bool.or_eq_true, beq_iff_eq] at h
              rcases h with h | h
              · exact .inl h.symm
              · exact .inr h.symm
            refine ss_assign (d := .lst (ranksOf (ps.take i) ++ rank1 (x, none))) ?_ (ss_nil fun s S => ⟨_, _, ⟨rfl, by rw [fin]; exact upd_here⟩, S⟩)
            have e : rank1 (x, none) = [.int (if x == "rc" then 50 else 200), .str x] := by
              rcases h' with rfl | rfl <;> rfl
            rw [e]
            refine ev_add_lst (ev_var (by walk_at "look")) (ev_list (evs_cons (ev_ifexp (tr_compare (ev_var (by walk_at "look")) ev_str cm_eq_str) (fun h => ?_) (fun h => ?_)) (evs_cons (ev_var (by walk_at "look")) evs_nil)) (Nat.le_of_ble_eq_true rfl)) (by show _ ≤ 16777216; simp only [List.length_cons, List.length_nil]; omega)
            · rw [h]; exact ev_int
            · rw [h]; exact ev_int
          · refine ss_nil fun s S => ⟨_, _, ⟨rfl, ?_⟩, S⟩
            have e : rank1 (x, none) = [] := by
              simp only [D.pys, D.py, List.any_cons, List.any_nil, PyData.eqv, Bool.or_false, Bool.or_eq_false_iff] at h
              have h1 : (x == ("rc" : Str)) = false := by rw [Bool.eq_false_iff]; intro hh; rw [beq_iff_eq] at hh; subst hh; exact absurd h.1 (by decide +kernel)
              have h2 : (x == ("pl" : Str)) = false := by rw [Bool.eq_false_iff]; intro hh; rw [beq_iff_eq] at hh; subst hh; exact absurd h.2 (by decide +kernel)
              simp [rank1, h1, h2]
            rw [fin, e, List.append_nil]
            walk_at "look"
    · rintro ρ' J' ⟨rfl, hT⟩
      refine ss_ret (ev_var ?_)
      rw [hT]
      simp [List.take_of_length_le]
end Mine
end
section
open PySem PySem.W PyProof.Rows PySem.Calls
open Sem (wp)
set_option Elab.async false
set_option maxRecDepth 100000
set_option linter.unusedVariables false
namespace Mine
section
variable {α : Type} {M : Model} {A : Around} {E : Value → Shared → Prop} {s : Shared} {env : Env}
theorem wpC_keep {vs : List Value} {m : Sem α} {Q : α → Shared → Prop} (h : wpC M A m Q E s) : wpC M A (m.keep vs) Q E s := ⟨fun Γ p hΓ hC => by rw [Sem.wp_keep]; exact h.go Γ p hΓ hC⟩
theorem wpC_operate {vs : List Value} {m : Sem Value} {Q : Value → Shared → Prop} (h : wpC M A m Q E s) : wpC M A (operate vs m) Q E s := ⟨fun Γ p hΓ hC => by rw [Sem.wp_operate]; exact h.go Γ p hΓ hC⟩
theorem wpC_callWith {pos : Pos} {a : Addr} {o : Obj} {fd : FuncData} {args : List (Bool × Sem Value)} {Q : Value → Shared → Prop}
    (h : wpAny M A (evalArgs (.ref a) true args []) (fun x s₁ => (s₁.heap.get? a = some o ∧ o.data = .func fd) ∧ wpC M A (call (.ref a) ([] ++ x.pos) x.kw) Q E s₁) E s) :
    wpC M A (callWith pos (.ref a) [] args []) Q E s := by
  unfold callWith
  refine wpC_bindA (wpAny_holding (wpAny_mono h (fun x s₁ h₁ => wpC_bind (wpC_standAt ?_)) fun _ _ x => x))
  have tail : ∀ {t : Sem Value}, wpC M A t Q E s₁ → wpC M A (t >>= fun r => holding [r] point >>= fun _ => pure r) Q E s₁ :=
    fun ht => wpC_bind (wpC_mono ht (fun r s₂ hr => wpC_bindA (wpAny_holding (wpAny_point (wpC_pure hr)))) fun _ _ x => x)
  refine wpC_bindA (m := keeperOf (.ref a)) ?_
  unfold keeperOf
  refine wpAny_bind (wpAny_load h₁.1.1 ?_)
  rw [h₁.1.2]
  refine wpAny_pure ?_
  cases hs : args.any (·.1) <;> simp only [List.any_nil, Bool.or_false]
  · split <;> first
      | exact tail h₁.2
      | exact tail (by unfold callMarked; exact wpC_keep h₁.2)
  · first
      | exact tail (by unfold callMarked; exact wpC_keep h₁.2)
      | exact tail h₁.2
theorem wpC_Call_Name {id : Str} {p pos : Pos} {args : List Expr} {Q : Value → Shared → Prop}
    (h : wpAny M A (eval (.Name id p) env) (fun f s₁ => wpC M A (callWith pos f [] (backTo pos (starEach args env)) []) Q E s₁) E s) : wpC M A (eval (.Call (.Name id p) args [] pos) env) Q E s := by
  show wpC M A (do callWith pos (← eval (.Name id p) env) [] (backTo pos (starEach args env)) (backToKw pos (keywordEach [] env))) Q E s
  exact wpC_bindA h
end

/-- an expression's value, with the caller on the stack -/
structure EvC (X : Cx) (ρ : Str → Option D) (J : Side) (e : Expr) (d : D) : Prop where
  go : ∀ (s : Shared) (Q E : Value → Shared → Prop), St X ρ J s → (∀ v s', Nx X.H₀ s s' → Rep X.F s'.heap v d → Q v s') → wpC (model PR X.w) X.A (eval e X.env) Q E s
structure EvsC (X : Cx) (ρ : Str → Option D) (J : Side) (pos : Pos) (es : List Expr) (ds : List D) : Prop where
  go : ∀ (s : Shared) (Q : List Value → Shared → Prop) (E : Value → Shared → Prop), St X ρ J s → (∀ vs s', Nx X.H₀ s s' → Reps X.F s'.heap vs ds → Q vs s') →
    wpC (model PR X.w) X.A (spliced (backTo pos (starEach es X.env))) Q E s
structure SsC (X : Cx) (ρ : Str → Option D) (J : Side) (sts : List Stmt) (Φ : Flow → Shared → Prop) : Prop where
  go : ∀ (s : Shared) (E : Value → Shared → Prop), St X ρ J s → wpC (model PR X.w) X.A (execs sts X.env) Φ E s
structure FnC (w : World) (H₀ : Heap) (f : Value) (k : Nat) (args : List D) (r : D) : Prop where
  go : ∀ (F : Addr → Prop) (A : Around) (s : Shared) (vs : List Value) (Q E : Value → Shared → Prop), Live F s.heap → Rd w H₀ A k s → Reps F s.heap vs args → (∀ v s', Nx H₀ s s' → Rep F s'.heap v r → Q v s') →
    wpC (model PR w) A (call f vs) Q E s

section
variable {X : Cx} {ρ : Str → Option D} {J : Side} {Φ : Flow → Shared → Prop} {rest : List Stmt}
theorem evc_of {e : Expr} {d : D} (h : Ev X ρ J e d) : EvC X ρ J e d := ⟨fun s Q E S q => wpC_of (h.go s Q E S q)⟩
theorem ssc_of {sts : List Stmt} (h : Ss X ρ J sts Φ) : SsC X ρ J sts Φ := ⟨fun s E S => wpC_of (h.go s E S)⟩
theorem fnc_of {w : World} {H₀ : Heap} {f : Value} {k : Nat} {args : List D} {r : D} (h : Fn w H₀ f k args r) : FnC w H₀ f k args r := ⟨fun F A s vs Q E l R rp q => wpC_of (h.go F A s vs Q E l R rp q)⟩

theorem wpC_with_toks {α : Type} {M : Model} {A : Around} {t : Sem α} {Q : α → Shared → Prop} {E : Value → Shared → Prop} {s : Shared} {k : Nat} (hk : k ≤ s.toks) (h : wpC M A t (fun a s' => k ≤ s'.toks → Q a s') (fun e s' => k ≤ s'.toks → E e s') s) : wpC M A t Q E s :=
  ⟨fun Γ p hΓ hC => Sem.wp_mono M Γ t (fun a _ s x => x.2 x.1) (fun a _ s x => x.2 x.1) p s (Sem.wp_toks M Γ k t _ _ p s hk (h.go Γ p hΓ hC))⟩
theorem evc_of0 {e : Expr} {d : D} (h : ∀ (s : Shared) (Q E : Value → Shared → Prop), St X ρ J s → (∀ v s', Nx0 X.H₀ s s' → Rep X.F s'.heap v d → Q v s') → wpC (model PR X.w) X.A (eval e X.env) Q E s) : EvC X ρ J e d :=
  ⟨fun s _ _ S q => wpC_with_toks (Nat.le_refl s.toks) (h s _ _ S fun v s' n r htk => q v s' ⟨n, htk⟩ r)⟩

theorem evc_call {x : Str} {np pos : Pos} {e : Expr} {rest : List Expr} {a : Addr} {k : Nat} {ds : List D} {d : D} (hf : EvV X ρ J (.Name x np) (.ref a)) (ha : Evs X ρ J pos (e :: rest) ds)
    (hc : FnC X.w X.H₀ (.ref a) k ds d) (hk : k ≤ X.k) (ho : ∃ o fd, (KF X.w).lookup a = some o ∧ o.data = .func fd)
    (hs : notStar e = true := by rfl) : EvC X ρ J (.Call (.Name x np) (e :: rest) [] pos) d := by
  refine ⟨fun s Q E S q => ?_⟩
  obtain ⟨o, fd, ho, hd⟩ := ho
  refine wpC_Call_Name (hf.go s _ _ S fun s₁ n₁ => wpC_callWith (o := o) (fd := fd) (args_evs ha hs (S.next n₁) fun vs s₂ n₂ r₂ => ?_))
  have S₂ := (S.next n₁).next n₂
  exact ⟨⟨S₂.rd.hg.kin S₂.rd.B _ _ ho, hd⟩, hc.go X.F X.A s₂ vs Q E S₂.live (S₂.rd.mono hk) r₂ fun v s' n r => q v s' ((n₁.trans n₂).trans n) r⟩

/-- one plain statement, then the rest -/
theorem ssc_cons {st : Stmt} (h : ∀ (E : Value → Shared → Prop), Ss X ρ J [st] (fun f s' => match f with | .next => wpC (model PR X.w) X.A (execs rest X.env) Φ E s' | f => Φ f s')) : SsC X ρ J (st :: rest) Φ := by
  refine ⟨fun s E S => ?_⟩
  have e : execs (st :: rest) X.env = (execs [st] X.env >>= thenDo rest X.env) := execs_append rest X.env [st]
  rw [e]
  refine wpC_bindA (wpAny_mono ((h E).go s E S) (fun f s' h' => ?_) fun _ _ x => x)
  cases f with
  | next => exact h'
  | _ => exact wpC_pure h'
theorem ssc_plain {st : Stmt} {ρ' : Str → Option D} {J' : Side} (h : ∀ Ψ : Flow → Shared → Prop, (∀ s, St X ρ' J' s → Ψ .next s) → Ss X ρ J [st] Ψ) (hr : SsC X ρ' J' rest Φ) : SsC X ρ J (st :: rest) Φ :=
  ssc_cons fun E => h _ fun s S => hr.go s E S
/-- an exec that needs the caller, then the rest -/
theorem ssc_exec {st : Stmt} (h : ∀ (s : Shared) (E : Value → Shared → Prop), St X ρ J s → wpC (model PR X.w) X.A (exec st X.env) (fun f s' => match f with | .next => wpC (model PR X.w) X.A (execs rest X.env) Φ E s' | f => Φ f s') E s) : SsC X ρ J (st :: rest) Φ := by
  refine ⟨fun s E S => ?_⟩
  rw [execs_cons']
  refine wpC_bind (wpC_mono (h s E S) (fun f s' h' => ?_) fun _ _ x => x)
  cases f with
  | next => exact h'
  | _ => exact wpC_pure h'

theorem ssc_assign {x : Str} {p pos : Pos} {e : Expr} {d : D} (he : EvC X ρ J e d) (h : SsC X (upd ρ x d) J rest Φ) (hx : X.env.kindOf x = some .local := by kernel_rfl)
    (hs : notComp e = true := by rfl) : SsC X ρ J (.Assign [.Name x p] e pos :: rest) Φ := by
  refine ssc_exec fun s E S => ?_
  rw [exec_Assign_Name X.env _ _ _ _ (swaps_plain hs)]
  refine wpC_bind (wpC_standAt (wpC_bind (he.go s _ _ S fun v s₁ n₁ r₁ => wpC_bind (wpC_standAt (wpC_bindA (wpAny_bindName (store_local (S.next n₁) r₁ hx fun s₂ S₂ _ => ?_)))))))
  exact wpC_pure (h.go s₂ E S₂)
theorem ssc_return {e : Expr} {pos : Pos} {d : D} (he : EvC X ρ J e d) (h : ∀ v s, St X ρ J s → Rep X.F s.heap v d → Φ (.ret v) s) : SsC X ρ J (.Return (some e) pos :: rest) Φ := by
  refine ssc_exec fun s E S => ?_
  rw [exec_Return_some]
  exact wpC_bind (wpC_standAt (wpC_bind (he.go s _ _ S fun v s₁ n₁ r₁ => wpC_pure (h v s₁ (S.next n₁) r₁))))
theorem ssc_ret {e : Expr} {pos : Pos} {r : D} (he : EvC X ρ J e r) : SsC X ρ J (.Return (some e) pos :: rest) (Ret X.F X.H₀ X.sE r) := ssc_return he fun v s S rp => ⟨v, rfl, rp, S.nx⟩
theorem ssc_nil (h : ∀ s, St X ρ J s → Φ .next s) : SsC X ρ J [] Φ := ssc_of (ss_nil h)
theorem ssc_if {t : Expr} {a b : List Stmt} {pos : Pos} {c : Bool} (ht : Tr X ρ J t c) (ha : c = true → SsC X ρ J (a ++ rest) Φ) (hb : c = false → SsC X ρ J (b ++ rest) Φ) : SsC X ρ J (.If t a b pos :: rest) Φ := by
  refine ⟨fun s E S => ?_⟩
  rw [execs_cons']
  have e : (exec (.If t a b pos) X.env >>= thenDo rest X.env) = (do standAt pos; let c ← isTrue t X.env (eval t X.env); if c = true then execs (a ++ rest) X.env else execs (b ++ rest) X.env) := by
    rw [exec_If, execs_append, execs_append]
    simp only [bind_assoc]
    congr 1; funext _; congr 1; funext c
    cases c
    · simp only [Bool.false_eq_true, if_false]
    · simp only [if_true]
  rw [e]
  refine wpC_bind (wpC_standAt (wpC_bindA (ht.go s _ _ S fun s₁ n₁ => ?_)))
  cases c with
  | true => simpa using (ha rfl).go s₁ E (S.next n₁)
  | false => simpa using (hb rfl).go s₁ E (S.next n₁)
end
end Mine
end
section
open PySem PySem.W PyProof.Rows PySem.Calls
open Sem (wp)
set_option Elab.async false
set_option maxRecDepth 100000
set_option linter.unusedVariables false
namespace Mine
section
variable {X : Cx} {ρ : Str → Option D} {J : Side} {Φ : Flow → Shared → Prop} {rest : List Stmt}

theorem evc_bin {l r : Expr} {op : Operator} {pos : Pos} {dl dr d : D} (hl : EvC X ρ J l dl) (hr : EvC X ρ J r dr)
    (h : ∀ (s : Shared) (a b : Value) (Q E : Value → Shared → Prop), St X ρ J s → Rep X.F s.heap a dl → Rep X.F s.heap b dr → (∀ v s', Nx0 X.H₀ s s' → Rep X.F s'.heap v d → Q v s') → wpAny (model PR X.w) X.A (binaryOp op a b) Q E s) :
    EvC X ρ J (.BinOp l op r pos) d := by
  refine evc_of0 fun s Q E S q => ?_
  rw [eval_BinOp]
  refine wpC_bind (hl.go s _ _ S fun a s₁ n₁ r₁ => wpC_bind (wpC_holding (hr.go s₁ _ _ (S.next n₁) fun b s₂ n₂ r₂ => wpC_bind (wpC_standAt (wpC_operate (wpC_of ?_))))))
  exact h s₂ a b Q E ((S.next n₁).next n₂) (r₁.next n₂.kp (S.next n₁).rd.hg.tab) r₂ fun v s' n r => q v s' ((n₁.trans n₂).toNx0.trans n) r
theorem evc_add_lst {l r : Expr} {pos : Pos} {a b : List D} (hl : EvC X ρ J l (.lst a)) (hr : EvC X ρ J r (.lst b)) (hz : a.length + b.length ≤ sizeLine) : EvC X ρ J (.BinOp l .Add r pos) (.lst (a ++ b)) :=
  evc_bin hl hr fun s u v Q E S ru rv q => by
    obtain ⟨x, vs, n, rfl, e, r⟩ := ru.isLst; obtain ⟨y, ws, m, rfl, f, r'⟩ := rv.isLst
    refine P.add_list e f ?_ (by simp [r.length, r'.length]; exact hz)
    refine q _ _ (.of_keep fun b o e => Heap.get?_push_of_some _ e) ?_
    have k : Kp X.H₀ s.heap (s.heap.push { cls := .type "list", data := .seq (vs.toArray ++ ws.toArray) }) := .push _ _ _
    refine .lst (vs := vs ++ ws) (n := 0) S.live.new ?_ ((r.next k S.rd.hg.tab).append (r'.next k S.rd.hg.tab))
    simp only [List.append_toArray]
    exact Heap.get?_push_size _ rfl
theorem evc_compare {l r : Expr} {op : CmpOp} {pos : Pos} {dl dr : D} {b : Bool} (hl : EvC X ρ J l dl) (hr : EvC X ρ J r dr) (h : Cm X ρ J op dl dr b) (hm : notSet r = true := by rfl) :
    EvC X ρ J (.Compare l [op] [r] pos) (.bool b) := by
  refine evc_of0 fun s Q E S q => ?_
  rw [eval_Compare1, markedBehindIn_of_false (marks_plain hm)]
  refine wpC_bind (hl.go s _ _ S fun a s₁ n₁ r₁ => wpC_bind (wpC_holding (hr.go s₁ _ _ (S.next n₁) fun c s₂ n₂ r₂ => wpC_bind (wpC_standAt (wpC_operate (wpC_of ?_))))))
  exact h.go s₂ a c Q E ((S.next n₁).next n₂) (r₁.next n₂.kp (S.next n₁).rd.hg.tab) r₂ fun s' n => q _ s' ((n₁.trans n₂).toNx0.trans n) (.bool b)

theorem evsc_nil {pos : Pos} : EvsC X ρ J pos [] [] := ⟨fun s Q E S q => wpC_of (wpAny_items_nil (q [] s (.refl _ _) .nil))⟩
theorem evsc_of {pos : Pos} {es : List Expr} {ds : List D} (h : Evs X ρ J pos es ds) : EvsC X ρ J pos es ds := ⟨fun s Q E S q => wpC_of (h.go s Q E S q)⟩
theorem evsc_cons {pos : Pos} {e : Expr} {rest : List Expr} {d : D} {ds : List D} (he : EvC X ρ J e d) (hr : EvsC X ρ J pos rest ds)
    (hs : notStar e = true := by rfl) : EvsC X ρ J pos (e :: rest) (d :: ds) := by
  refine ⟨fun s Q E S q => ?_⟩
  rw [starEach_cons hs]
  show wpC (model PR X.w) X.A (do
    let v ← eval e X.env
    let here ← (pure [v] : Sem (List Value))
    return here ++ (← holding here (spliced (backTo pos (starEach rest X.env))))) Q E s
  refine wpC_bind (he.go s _ _ S fun v s₁ n₁ r₁ => wpC_bind (wpC_pure (wpC_bind (wpC_holding (hr.go s₁ _ _ (S.next n₁) fun vs s₂ n₂ r₂ => wpC_pure ?_)))))
  exact q (v :: vs) s₂ (n₁.trans n₂) (.cons (r₁.next n₂.kp (S.next n₁).rd.hg.tab) r₂)
theorem evc_tuple {es : List Expr} {k : Nat} {pos : Pos} {ds : List D} (h : EvsC X ρ J pos es ds) (hz : ds.length ≤ sizeLine) : EvC X ρ J (.Tuple es k pos) (.tup ds) := by
  refine evc_of0 fun s Q E S q => ?_
  show wpC (model PR X.w) X.A (do standAt pos; newTuple (← spliced (backTo pos (starEach es X.env)))) Q E s
  refine wpC_bind (wpC_standAt (wpC_bind (h.go s _ _ S fun vs s₁ n₁ r₁ => wpC_of ?_)))
  have k : Kp X.H₀ s₁.heap (s₁.heap.push { cls := .type "tuple", data := .seq vs.toArray }) := .push _ _ _
  refine wpAny_newObj_type ?_ (by show vs.toArray.size ≤ sizeLine; rw [List.size_toArray, r₁.length]; exact hz)
  exact q _ _ (n₁.toNx0.trans ⟨k, rfl, id⟩) (.tup (S.next n₁).live.new (Heap.get?_push_size _ rfl) (r₁.next k (S.next n₁).rd.hg.tab))
theorem evc_list {es : List Expr} {pos : Pos} {ds : List D} (h : EvsC X ρ J pos es ds) (hz : ds.length ≤ sizeLine) : EvC X ρ J (.List es pos) (.lst ds) := by
  refine evc_of0 fun s Q E S q => ?_
  show wpC (model PR X.w) X.A (do standAt pos; newList (← spliced (backTo pos (starEach es X.env)))) Q E s
  refine wpC_bind (wpC_standAt (wpC_bind (h.go s _ _ S fun vs s₁ n₁ r₁ => wpC_of ?_)))
  have k : Kp X.H₀ s₁.heap (s₁.heap.push { cls := .type "list", data := .seq vs.toArray }) := .push _ _ _
  refine wpAny_newObj_type ?_ (by show vs.toArray.size ≤ sizeLine; rw [List.size_toArray, r₁.length]; exact hz)
  exact q _ _ (n₁.toNx0.trans ⟨k, rfl, id⟩) (.lst (S.next n₁).live.new (Heap.get?_push_size _ rfl) (r₁.next k (S.next n₁).rd.hg.tab))
theorem evc_item_tup {v i : Expr} {pos : Pos} {ds : List D} {k : Int} {d : D} (hv : EvC X ρ J v (.tup ds)) (hi : Ev X ρ J i (.int k)) (h0 : 0 ≤ k) (hk : k < 2 ^ 63) (hd : ds[k.toNat]? = some d)
    (hs : notSlice i = true := by rfl) : EvC X ρ J (.Subscript v i pos) d := by
  refine evc_of0 fun s Q E S q => ?_
  rw [eval_Subscript]
  refine wpC_bind (hv.go s _ _ S fun o s₁ n₁ r₁ => wpC_bindA (wpAny_holding (hi.go s₁ _ _ (S.next n₁) fun j s₂ n₂ r₂ => wpC_bind (wpC_standAt (wpC_of ?_)))))
  have r := r₁.next n₂.kp (S.next n₁).rd.hg.tab
  obtain ⟨t, rfl⟩ := r₂.isInt
  obtain ⟨a, vs, n, rfl, e, rr⟩ := r.isTup
  obtain ⟨x, hx, rx⟩ := rr.get hd
  have hlt : k.toNat < vs.length := (List.getElem?_eq_some_iff.mp hx).1
  exact item_tupleT (isTup_of e) (by omega) hk (j := k.toNat) (by unfold seqIndex?; split <;> simp_all <;> omega) hx (q x s₂ (n₁.trans n₂).toNx0 rx) (subscripted_plain hs)

/-- and, of two -/
theorem evc_and2 {x y : Expr} {pos : Pos} {a b : D} (hx : EvC X ρ J x a) (hf : a.fits) (hy : a.truth = true → EvC X ρ J y b) : EvC X ρ J (.BoolOp .And [x, y] pos) (if a.truth = true then b else a) := by
  refine evc_of0 fun s Q E S q => ?_
  show wpC (model PR X.w) X.A (do
    let v ← eval x X.env
    standAt pos
    let t ← holding [v] (truthy v)
    match BoolOp.And, t with
    | .And, false | .Or, true => pure v
    | _, _ => boolOp pos .And [eval y X.env]) Q E s
  refine wpC_bind (hx.go s _ _ S fun v s₁ n₁ r₁ => wpC_bind (wpC_standAt (wpC_bindA (wpAny_holding (wpAny_with_toks (Nat.le_refl s₁.toks) (truthy_rep r₁ hf fun s₂ n₂ htk => ?_))))))
  have n₂' : Nx X.H₀ s₁ s₂ := ⟨n₂, htk⟩
  cases ht : a.truth with
  | false =>
    rw [ht] at q
    exact wpC_pure (by simpa using q v s₂ (n₁.toNx0.trans n₂) (by simpa using r₁.next n₂.kp (S.next n₁).rd.hg.tab))
  | true =>
    rw [ht] at q
    show wpC (model PR X.w) X.A (eval y X.env) Q E s₂
    exact (hy ht).go s₂ _ _ ((S.next n₁).next n₂') fun w s₃ n₃ r₃ => q w s₃ ((n₁.trans n₂').trans n₃).toNx0 (by simpa using r₃)
end
end Mine
end
section
open PySem PySem.W PyProof.Rows PySem.Calls
open Sem (wp)
set_option Elab.async false
set_option maxRecDepth 100000
set_option linter.unusedVariables false
namespace Mine
section
variable {w : World} {A : Around} {R : Result → Shared → Prop} {s : Shared}
theorem codeC_func {body : List Stmt} {env : Env}
    (h : wpC (model PR w) (A.deeper env) (execs body env) (fun f s' => R (.ok (.ret (match f with | .ret v => v | _ => .none))) s') (fun _ _ => False) s) :
    codeC (model PR w) A (.func body env) R s := by
  refine codeC_of_tree ?_
  show wpC _ (A.deeper env) (do point; match ← (execs body env).onRaise (leaving env) with | .ret v => ret v | _ => ret .none) _ _ s
  refine wpC_bindA (wpAny_point (wpC_bind (wpC_onRaise (wpC_mono h (fun f s' h' => ?_) fun _ _ h' => h'.elim))))
  cases f <;> exact wpC_pure h'
theorem codeC_call_function {a : Addr} {args : Args} {o : Obj} {fd : FuncData} {body : List Stmt} (hroom : A.depth < recursionLimit) (ho : s.heap.get? a = some o)
    (hd' : o.data = .func fd) (hco : fd.scope.isCoroutine = false) (hgen : fd.scope.isGenerator = false) (hbody : fd.body = .stmts body) (hcd : s.heap.CodeRec fd.code fd.qualname)
    (h : wpAny (model PR w) A.in1 (bindArgs fd args) (fun binds s₁ =>
      wpAny (model PR w) A.in1 (newFunctionEnv fd.scope fd.globals fd.closure binds (fd.qualname ++ ".<locals>.") (some a) fd.code none fd.builtins)
        (fun env s₂ => s₂.heap.NoLimit ∧ codeC (model PR w) A (.func body env) R s₂) (fun e s' => R (.error e) s') s₁) (fun e s' => R (.error e) s') s) :
    codeC (model PR w) A (.call (.ref a) args) R s := by
  refine codeC_of_tree ?_
  show wpC _ A.in1 (callAny (.ref a) args) _ _ s
  simp only [callAny]
  refine wpC_bindA (wpAny_load ho ?_)
  obtain ⟨c, oc, vs, tq, hc, hoc, hdc, hq⟩ := hcd
  simp only [hd', callFunction, hco, hgen, hbody, hc]
  rw [hc] at h
  refine wpC_bindA (m := field (.ref c) 1) (wpAny_field hoc hdc hq (wpC_bindA (wpAny_pure ?_)))
  exact wpC_bindA (wpAny_mono h (fun binds s₁ h₁ => wpC_bindA (wpAny_mono h₁ (fun env s₂ h₂ => wpC_bindA (wpAny_enterFrame h₂.1 hroom (wpC_pure (And.intro rfl h₂.2)))) fun _ _ h' => h')) fun _ _ h' => h')
end
theorem fnc_of0 {w : World} {H₀ : Heap} {f : Value} {k : Nat} {args : List D} {r : D}
    (h : ∀ (F : Addr → Prop) (A : Around) (s : Shared) (vs : List Value) (Q E : Value → Shared → Prop), Live F s.heap → Rd w H₀ A k s → Reps F s.heap vs args → (∀ v s', Nx0 H₀ s s' → Rep F s'.heap v r → Q v s') → wpC (model PR w) A (call f vs) Q E s) : FnC w H₀ f k args r :=
  ⟨fun F A s vs _ _ fl R rp q => wpC_with_toks (Nat.le_refl s.toks) (h F A s vs _ _ fl R rp fun v s' n r htk => q v s' ⟨n, htk⟩ r)⟩
theorem fnc_body {w : World} {H₀ : Heap} {f : Addr} {o : Obj} {fd : FuncData} {body : List Stmt} {k : Nat} {args : List D} {r : D} (names : List Str) (J : Addr → Side)
    (ho : (KF w).lookup f = some o) (hd : o.data = .func fd) (hb : fd.body = .stmts body)
    (hcd : ∃ c oc vs t, fd.code = .ref c ∧ (KF w).lookup c = some oc ∧ oc.data = .fields vs ∧ vs[1]? = some (.str fd.qualname t))
    (hco : fd.scope.isCoroutine = false) (hgen : fd.scope.isGenerator = false) (hk : fd.scope.kind = .function) (hclo : fd.closure = []) (hgl : fd.globals = mainGlobals) (hbt : fd.builtins = builtinsNs)
    (hlen : names.length = args.length)
    (hbind : ∀ vs : List Value, vs.length = args.length → bindArgs fd ⟨vs, []⟩ = pure (names.zip vs))
    (hJ : ∀ s : Shared, HG H₀ s.heap → (J s.heap.objs.size).P (pushCells (s.heap.push { cls := .type "frame", data := .dict #[] }) fd.scope.names))
    (hsto : ∀ (A : Around) (sE : Shared) (F : Addr → Prop), HG H₀ sE.heap → Live F sE.heap → ∀ n ∈ names, Stores (fX w H₀ k fd f A sE F) (J sE.heap.objs.size) n)
    (h : ∀ (A : Around) (sE : Shared) (F : Addr → Prop), HG H₀ sE.heap → Live F sE.heap → SsC (fX w H₀ k fd f A sE F) (bindAll (fun _ => none) (names.zip args)) (J sE.heap.objs.size) body (Ret F H₀ sE r)) (hoff : ∀ L, ¬ (J L).N L := by intro _ h; exact h) :
    FnC w H₀ (.ref f) (k + 1) args r := by
  refine fnc_of0 fun F A s vs Q E fl R rp q => ?_
  have hkin := R.hg.kin R.B
  obtain ⟨c, oc, vc, tc, e1, e2, e3, e4⟩ := hcd
  have hcd' : s.heap.CodeRec fd.code fd.qualname := ⟨c, oc, vc, tc, e1, hkin _ _ e2, e3, e4⟩
  refine wpC_call (codeC_call_function R.rm.room (hkin _ _ ho) hd hco hgen hb hcd' ?_)
  rw [hbind vs rp.length, hclo]
  refine wpAny_pure ?_
  simp only [newFunctionEnv, Option.isSome_none, Bool.false_eq_true, if_false]
  refine wpAny_bind (wpAny_alloc ?_)
  refine wpAny_bind (wpAny_layCells _ (fun name kind cells => by cases hkc : kind == NameKind.cell <;> simp [hkc]) _ _ _ _ ?_)
  rw [show ({ s with heap := s.heap.push { cls := .type "frame", data := .dict #[] } } : Shared).heap.objs.size = s.heap.objs.size + 1 from Heap.size_push ..]
  have keep : ∀ b o, s.heap.get? b = some o → (pushCells (s.heap.push { cls := .type "frame", data := .dict #[] }) fd.scope.names).get? b = some o :=
    fun b o e => pushCells_keeps _ _ b o (Heap.get?_push_of_some _ e)
  have hL : (pushCells (s.heap.push { cls := .type "frame", data := .dict #[] }) fd.scope.names).get? s.heap.objs.size = some { cls := .type "frame", data := .dict #[] } :=
    pushCells_keeps _ _ _ _ (Heap.get?_push_size _ rfl)
  have hnew := R.hg.new
  have S₀ : St (fX w H₀ k fd f A s F) (fun _ => none) (J s.heap.objs.size) { s with heap := pushCells (s.heap.push { cls := .type "frame", data := .dict #[] }) fd.scope.names } := {
    rd := ⟨R.B, R.hg.next (.of_keep keep), by
      obtain ⟨l, e, y⟩ := R.fr.next (.of_keep keep)
      refine ⟨callEnvC fd s.heap.objs.size f :: l, by show A.frames.map _ = _; rw [e]; rfl, fun z hz => ?_⟩
      rcases List.mem_cons.mp hz with rfl | hz
      · exact ⟨by show fd.scope.kind ≠ _; rw [hk]; decide, s.heap.objs.size, _, rfl, hnew.2, hnew.1, hL, rfl, _, _, rfl⟩
      · exact y z hz, R.gens, R.rm.deeper _, R.tk⟩
    nx := ⟨.of_keep keep, rfl, id⟩
    fresh := none_of_size
    lnew := hnew.1
    lpl := hnew.2
    ek := hk
    eg := hgl
    eb := hbt
    lcls := ⟨_, hL⟩
    vars := ⟨fun _ => none, ⟨_, #[], 0, hL, rfl, fun e he => by simp at he, fun _ => rfl⟩, fun x d e => by cases e⟩
    side := hJ s R.hg
    off := hoff _
    live := fl.next (Kp.of_keep (H₀ := H₀) keep) R.hg.tab }
  refine wpAny_bind (bind_loop (X := fX w H₀ k fd f A s F) (J := J s.heap.objs.size) (fun _ _ _ => rfl) names vs args (fun _ => none) _ (by rw [hlen, rp.length]) (hsto A s F R.hg fl) S₀ (rp.next (Kp.of_keep (H₀ := H₀) keep) R.hg.tab) fun s' S' => wpAny_pure ?_)
  refine ⟨?_, codeC_func (wpC_mono ((h A s F R.hg fl).go s' (fun _ _ => False) S') (fun fl s'' hr => ?_) fun _ _ x => x)⟩
  · obtain ⟨mc, a, b⟩ := R.B.nolimit
    exact ⟨mc, ns_hg a S'.rd.hg (by decide), b⟩
  · obtain ⟨v, rfl, rv, nv⟩ := hr
    exact q v s'' nv rv

section
variable {X : Cx} {ρ : Str → Option D} {J : Side} {Φ : Flow → Shared → Prop} {rest : List Stmt}
theorem ssc_for {target iter : Expr} {body : List Stmt} {pos : Pos} {ds : List D} (I : Nat → (Str → Option D) → Side → Prop) (hi : EvIt X ρ J iter ds) (h0 : I 0 ρ J) (hN : ∀ i ρ' J', I i ρ' J' → ∀ a, J'.N a → J.N a)
    (turn : ∀ (i : Nat) d ρ' J' (K : Side), (∀ a, X.F a → K.M a) → (∀ a, X.F a → ¬ K.N a) → ds[i]? = some d → I i ρ' J' → ∃ ρ'', As X ρ' (J'.and K) target d ρ'' ∧ SsC X ρ'' (J'.and K) body (fun f s' => match f with
      | .next | .cont => ∃ ρ₃ J₃, I (i + 1) ρ₃ J₃ ∧ St X ρ₃ (J₃.and K) s'
      | _ => False))
    (after : ∀ ρ' J', I ds.length ρ' J' → SsC X ρ' J' rest Φ) (hs : ∀ x, foldedSetIterable iter X.env x = pure x := by intro _; rfl) : SsC X ρ J (.For target iter body [] pos :: rest) Φ := by
  refine ssc_exec fun s E S => ?_
  rw [exec_For]
  refine wpC_bind (wpC_standAt (wpC_bindA (wpAny_mono (hi.go s (fun it s₂ => wpC (model PR X.w) X.A (runOwn (.forLoop target it body [] X.env) X.env) (fun f s' => match f with | .next => wpC (model PR X.w) X.A (execs rest X.env) Φ E s' | f => Φ f s') E s₂) E S fun It s₁ n₁ hIn hE h0' hF hNI hW => ?_) (fun x s₁ h₁ => ?_) fun _ _ x => x)))
  · obtain ⟨T, W, t0⟩ := hW X.F fun a f => .inl f
    unfold runOwn
    refine wpC_onRaise (wpC_run ?_)
    refine codeC_loop rfl (fun n s' => ∃ i ρ' J', i ≤ ds.length ∧ n = ds.length - i ∧ I i ρ' J' ∧ St X ρ' (J'.and (W.side i)) s') (fun n s' hI => ?_) ds.length
      ⟨0, ρ, J, Nat.zero_le _, rfl, h0, (S.next n₁).weak (fun _ _ e => e) ⟨(S.next n₁).side, t0⟩ fun h => h.elim S.off fun h => by obtain ⟨o, e⟩ := S.lcls; rw [h, hIn] at e; cases e⟩
    show wpC _ X.A ((forTurn target (.ref It) body [] X.env).onRaise (fun x => do noteFrame x X.env; theTreesLotGoes x)) _ _ s'
    obtain ⟨i, ρ', J', hle, rfl, hI, S'⟩ := hI
    have hNI' : ¬ J'.N It := fun h => hNI (hN i ρ' J' hI It h)
    have fal : ∀ {Q : Unit → Shared → Prop} (e : Value) (s' : Shared), False → wpC (model PR X.w) X.A (do noteFrame e X.env; theTreesLotGoes e) Q (fun _ _ => False) s' := fun _ _ h => h.elim
    refine wpC_onRaise (wpC_mono (E := fun _ _ => False) ?_ (fun _ _ x => x) fun _ _ x => x.elim)
    simp only [forTurn]
    cases hd : ds[i]? with
    | none =>
      have : i = ds.length := Nat.le_antisymm hle (by simpa using hd)
      subst this
      refine wpC_bind (wpC_standAt (wpC_bindA (wpAny_onRaise (W.done s' _ _ S'.side.2 fun h' tk htk x => ?_))))
      refine wpC_pure (.inr ⟨rfl, codeC_of (codeAny_block (wpAny_execs_nil ?_))⟩)
      exact (after ρ' J' hI).go _ E (S'.step hE h0' hF hNI' x htk id fun h => S'.off (.inl h))
    | some d =>
      have hlt : i < ds.length := (List.getElem?_eq_some_iff.mp hd).1
      refine wpC_bind (wpC_standAt (wpC_bindA (wpAny_onRaise (W.item i d s' _ _ hd S'.side.2 fun v h' tk htk rv t' x => ?_))))
      have S₂ : St X ρ' (J'.and (W.side (i + 1))) { s' with heap := h', toks := tk } := S'.step hE h0' hF hNI' x htk (fun p => ⟨p, t'⟩) S'.off
      obtain ⟨o, fs, k, e, c, _, dd, hk⟩ := W.at' _ _ t'
      obtain ⟨ρ'', ha, hb⟩ := turn i d ρ' J' (W.side (i + 1)) (fun a f => f) (fun a f n => hF (by cases n; exact f)) hd hI
      refine wpC_bindA (owned_go e c dd hk (wpC_bindA (ha.go _ v _ _ S₂ rv fun s₃ S₃ => wpC_bind (wpC_mono (hb.go s₃ (fun _ _ => False) S₃) (fun f s₄ h₄ => ?_) fun _ _ x => x))))
      cases f with
      | next => obtain ⟨ρ₃, J₃, a, b⟩ := h₄; exact wpC_pure (.inl ⟨rfl, ds.length - (i + 1), by omega, i + 1, ρ₃, J₃, hlt, rfl, a, b⟩)
      | cont => obtain ⟨ρ₃, J₃, a, b⟩ := h₄; exact wpC_pure (.inl ⟨rfl, ds.length - (i + 1), by omega, i + 1, ρ₃, J₃, hlt, rfl, a, b⟩)
      | brk => exact h₄.elim
      | ret v => exact h₄.elim
  · rw [hs x]
    exact wpC_bind (wpC_pure (wpC_bind (wpC_standAt (wpC_bindA (wpAny_holding h₁)))))
end
end Mine
end
section
open PySem PySem.W PyProof.Rows PySem.Calls PySem.NumText
open Sem (wp)
set_option Elab.async false
set_option maxRecDepth 100000
set_option linter.unusedVariables false
namespace Mine
theorem mark_skip {M : Model} {A : Around} {E : Value → Shared → Prop} {s : Shared} {own : List String} {e : Value} {Q : Unit → Shared → Prop} (h : Q () s) : wpC M A (markTheRefusal own e) Q E s := ⟨fun Γ p hΓ hC => by
  have hany : (((Γ.code, p) :: Γ.below).map (·.1)).any Code.isCaller = true := by
    simp only [List.map_cons, List.any_cons, Bool.or_eq_true]
    exact hC
  have hno : pythonCodeMadeTheCall own (((Γ.code, p) :: Γ.below).map (·.1)) = false := by
    show ((!((((Γ.code, p) :: Γ.below).map (·.1)).any Code.isCaller) && _) && _) = false
    rw [hany]; rfl
  unfold markTheRefusal
  rw [Sem.wp_bind']
  show wp M Γ (if pythonCodeMadeTheCall own (((Γ.code, p) :: Γ.below).map (·.1)) = true then _ else _) _ _ p s
  rw [hno]
  exact h⟩

theorem fail_text {w : World} {A : Around} {E : Value → Shared → Prop} {s : Shared} {Q : Value → Shared → Prop} {x : Str} {u : Tok} {text : List Nat} (hA : A.handled = none)
    (hs : (text.takeWhile (· != 0)).length ≤ 640) (hr : (int_private% "readNumeral") 0 10 (text.takeWhile (· != 0)) = (int_private% "Numeral.invalid") ∨ ∃ i, (int_private% "readNumeral") 0 10 (text.takeWhile (· != 0)) = (int_private% "Numeral.value") i ∧ ¬ ((text.takeWhile (· != 0)).length == text.length) = true)
    (hx : (reprText x).length ≤ 1000)
    (h : ∀ h' tk e, Heap.NewExc s.heap h' e "ValueError" → E (.ref e) { s with heap := h', toks := tk }) :
    wpC (model PR w) A ((int_private% "intFromText") (.str x u) text 10) Q E s := by
  show wpC (model PR w) A (if (text.takeWhile (· != 0)).length ≤ 640 then _ else _) Q E s
  rw [if_pos hs]
  refine wpC_bindA (wpAny_pure ?_)
  have fin : wpC (model PR w) A (do
      rule "int.__new__.invalid-literal"
      let shown ← pyRepr (Value.str x u)
      let m ← mkStr (Str.ofString (toString "invalid literal for int() with base " ++ toString 10 ++ toString ": ") ++ ⟨shown.cps.extract 0 200⟩)
      let refusal ← newExc (Value.type "ValueError") [m]
      markTheRefusal ["int.__new__"] refusal
      raiseNew refusal) Q E s := by
    refine wpC_bindA (wpAny_rule (wpC_bindA (wpAny_pyRepr_str (wpC_bindA (wpAny_mkStr ?_ ?_)) (Nat.le_trans hx (by decide)))))
    · refine wpC_bindA (wpAny_newExc_plain plainExc_ValueError (fun h' e me => wpC_bind (mark_skip (wpC_of (wpAny_raiseNew_none hA ?_)))))
      exact h h' _ e me.newExc
    · show (Str.ofString (toString "invalid literal for int() with base " ++ toString 10 ++ toString ": ") ++ (⟨(reprText x).cps.extract 0 200⟩ : Str)).cps.size ≤ 16777216
      show ((Str.ofString (toString "invalid literal for int() with base " ++ toString 10 ++ toString ": ")).cps ++ (reprText x).cps.extract 0 200).size ≤ 16777216
      rw [Array.size_append, Array.size_extract]
      have : (Str.ofString (toString "invalid literal for int() with base " ++ toString 10 ++ toString ": ")).cps.size = 40 := by decide +kernel
      rw [this]
      omega
  dsimp only
  rcases hr with hr | ⟨i, hr, hne⟩
  · rw [hr]
    refine wpC_bindA (wpAny_pure ?_)
    simp only [Option.isSome_none, Bool.false_and, Bool.false_eq_true, if_false]
    exact fin
  · rw [hr]
    dsimp only
    rw [if_neg hne]
    exact fin

theorem fail_new {w : World} {A : Around} {E : Value → Shared → Prop} {s : Shared} {Q : Fin → Shared → Prop} {x : Str} {u : Tok} (hA : A.handled = none)
    (hs : (numSeenOf x).length ≤ 640) (hn : PySem.intText? x = none) (hx : (reprText x).length ≤ 1000)
    (h : ∀ h' tk e, Heap.NewExc s.heap h' e "ValueError" → E (.ref e) { s with heap := h', toks := tk }) :
    wpC (model PR w) A (Builtin.«int.__new__» ⟨[.type "int", .str x u], []⟩) Q E s := by
  have hr := (read0 x hs).resolve_left (fun ⟨n, e, _⟩ => by rw [hn] at e; cases e)
  unfold Builtin.«int.__new__»
  dsimp only
  refine wpC_bindA (wpAny_pure ?_)
  simp only [Bool.not_true, Bool.false_eq_true, if_false]
  rw [F.conv_sub_int, F.madeHere_int]
  refine wpC_bindA (wpAny_pure ?_)
  simp only [Bool.not_true, Bool.false_eq_true, if_false]
  refine wpC_bindA (wpAny_pure ?_)
  rw [if_neg (by simp), if_neg (by simp)]
  refine wpC_bindA (wpAny_pure ?_)
  refine wpC_bind (E := E) (wpC_mono (Q := fun _ _ => False) (E := E) ?_ (fun _ _ x => x.elim) fun _ _ x => x)
  refine wpC_bindA (wpAny_callSpecial?_none (typeIs_str _ _ _) KIN.str_int ?_)
  dsimp only
  refine wpC_bindA (wpAny_specialOf (typeIs_str _ _ _) KIN.str_idx ?_)
  simp only [Option.isSome_none, Bool.false_eq_true, if_false]
  refine wpC_bindA (wpAny_specialOf (typeIs_str _ _ _) KIN.str_trunc ?_)
  dsimp only
  refine wpC_bindA (wpAny_pure (a := some (numTextOf x)) ?_)
  exact fail_text (text := numTextOf x) hA hs hr.2 hx h

theorem fail_new2 {w : World} {A : Around} {E : Value → Shared → Prop} {s : Shared} {Q : Fin → Shared → Prop} {x : Str} {u t : Tok} (hA : A.handled = none)
    (hs : (numSeenOf x).length ≤ 640) (hn : PySem.intText? x = none) (hx : (reprText x).length ≤ 1000)
    (h : ∀ h' tk e, Heap.NewExc s.heap h' e "ValueError" → E (.ref e) { s with heap := h', toks := tk }) :
    wpC (model PR w) A (Builtin.«int.__new__» ⟨[.type "int", .str x u, .int 10 t], []⟩) Q E s := by
  have hr := (read0 x hs).resolve_left (fun ⟨n, e, _⟩ => by rw [hn] at e; cases e)
  unfold Builtin.«int.__new__»
  dsimp only
  refine wpC_bindA (wpAny_pure ?_)
  simp only [Bool.not_true, Bool.false_eq_true, if_false]
  rw [F.conv_sub_int, F.madeHere_int]
  refine wpC_bindA (wpAny_pure ?_)
  simp only [Bool.not_true, Bool.false_eq_true, if_false]
  refine wpC_bindA (wpAny_pure ?_)
  rw [if_neg (by simp), if_neg (by simp)]
  refine wpC_bindA (wpAny_pure ?_)
  refine wpC_bindA (m := Builtin.Int.intIndex "int.__new__" (.int 10 t)) (wpAny_pure (a := (10 : Int)) ?_)
  rw [if_neg (by decide)]
  refine wpC_bindA (wpAny_pure (a := some (numTextOf x)) ?_)
  dsimp only
  refine wpC_bind (E := E) (wpC_mono (Q := fun _ _ => False) (E := E) ?_ (fun _ _ x => x.elim) fun _ _ x => x)
  exact fail_text (text := numTextOf x) hA hs hr.2 hx h

theorem good_new2 {prog : Program} {w : World} {A : Around} {E : Value → Shared → Prop} {s : Shared} {Q : Value → Shared → Prop} {x : Str} {u t : Tok} {n : Int} 
    (hl : x.length ≤ 640) (hn : PySem.intText? x = some n) (h : Q (.int n s.toks) { s with toks := s.toks + 1 }) :
    wpAny (model prog w) A (Builtin.«int.__new__» ⟨[.type "int", .str x u, .int 10 t], []⟩) (fun fin s' => ∃ v, fin = .done (.ret v) ∧ Q v s') E s := by
  have hs : (numSeenOf x).length ≤ 640 := Nat.le_trans (seen_length x) hl
  have hr : (int_private% "readNumeral") 0 10 (numSeenOf x) = (int_private% "Numeral.value") n ∧ ((numSeenOf x).length == (numTextOf x).length) = true := by
    rcases read0 x hs with ⟨m, h1, h2, h3⟩ | ⟨h1, _⟩
    · rw [hn] at h1
      injection h1 with h1
      subst h1
      exact ⟨h3, h2⟩
    · rw [hn] at h1
      cases h1
  unfold Builtin.«int.__new__»
  dsimp only
  refine wpAny_bind (wpAny_pure ?_)
  simp only [Bool.not_true, Bool.false_eq_true, if_false]
  rw [F.conv_sub_int, F.madeHere_int]
  refine wpAny_bind (wpAny_pure ?_)
  simp only [Bool.not_true, Bool.false_eq_true, if_false]
  refine wpAny_bind (wpAny_pure ?_)
  rw [if_neg (by simp), if_neg (by simp)]
  refine wpAny_bind (wpAny_pure ?_)
  refine wpAny_bind (m := Builtin.Int.intIndex "int.__new__" (.int 10 t)) (wpAny_pure (a := (10 : Int)) ?_)
  rw [if_neg (by decide)]
  refine wpAny_bind (wpAny_pure (a := some (numTextOf x)) ?_)
  dsimp only
  refine wpAny_bind (KIN.wp_text (text := numTextOf x) hs hr.1 hr.2 ?_)
  rw [if_pos (by decide)]
  exact wpAny_pure ⟨_, rfl, h⟩
end Mine
end
section
open PySem PySem.W PyProof.Rows PySem.Calls PySem.NumText
open Sem (wp)
set_option Elab.async false
set_option maxRecDepth 100000
set_option linter.unusedVariables false
namespace Mine
theorem codeC_builtin {w : World} {A : Around} {R : Result → Shared → Prop} {s : Shared} {id : String} {args : Args} {b : Builtin} (hb : entryFor table id = some b)
    (h : wpC (model PR w) (A.under (.builtin id args)) (b args) (fun fin s' => match fin with | .done f => R (.ok f) s' | .again c' => c'.quiet = true ∧ codeC (model PR w) A c' R s') (fun e s' => R (.error e) s') s) :
    codeC (model PR w) A (.builtin id args) R s := by
  refine codeC_of_tree ?_
  show wpC _ _ (match entryFor table id with | some b => b args | none => unsupported ((withoutEnding? id "#data").getD id)) _ _ s
  rw [hb]; exact h
theorem codeC_call_builtin {w : World} {A : Around} {R : Result → Shared → Prop} {s : Shared} {id : String} {args : Args} {b : Builtin} (hq : plainId id = true) (hb : entryFor table id = some b) (hc : checkBuiltinCall id args = pure ())
    (h : wpC (model PR w) (A.under (.builtin id args)) (b args) (fun fin s' => match fin with | .done f => R (.ok f) s' | .again c' => c'.quiet = true ∧ codeC (model PR w) A c' R s') (fun e s' => R (.error e) s') s) :
    codeC (model PR w) A (.call (.builtin id) args) R s := by
  refine codeC_of_tree ?_
  show wpC _ _ (do checkBuiltinCall id args; again (.builtin id args)) _ _ s
  rw [hc]
  exact wpC_bindA (wpAny_pure (wpC_pure (And.intro (plainId_quiet hq args) (codeC_builtin hb h))))
theorem call_fail {w : World} {A : Around} {E : Value → Shared → Prop} {s : Shared} {Q : Value → Shared → Prop} {vs : List Value} (hA : A.handled = none)
    (hct : checkTypeCall "int" ⟨vs, []⟩ = pure ()) (hcn : checkBuiltinCall "int.__new__" ⟨.type "int" :: vs, []⟩ = pure ())
    (hnew : ∀ (A' : Around) (Q' : Fin → Shared → Prop), A'.handled = none → wpC (model PR w) A' (Builtin.«int.__new__» ⟨.type "int" :: vs, []⟩) Q' E s) :
    wpC (model PR w) A (call (.type "int") vs) Q E s := by
  obtain ⟨c, tl, hmro⟩ := F.called_int.mro
  have hmade := F.called_int.made
  have h2 := F.called_int.canCreate
  have key : ∀ R : Result → Shared → Prop, (∀ e s', E e s' → R (.error e) s') → codeC (model PR w) A (.builtin "type.__call__" ⟨.type "int" :: vs, []⟩) R s := fun R hR => by
    refine codeC_builtin F.entry_type_call ?_
    generalize hB : A.under (.builtin "type.__call__" ⟨.type "int" :: vs, []⟩) = B
    have hBh : B.handled = none := by rw [← hB]; exact hA
    refine wpC_mono (Q := fun _ _ => False) (E := E) ?_ (fun _ _ x => x.elim) hR
    unfold Builtin.«type.__call__»
    dsimp only
    rw [if_neg (by decide)]
    rw [if_neg (by rw [h2]; decide)]
    rw [hct]
    refine wpC_bindA (wpAny_pure ?_)
    rw [hmro]
    refine wpC_bindA (wpAny_pure ?_)
    rw [if_neg (by simp)]
    rw [hmade]
    refine wpC_bindA (wpAny_pure ?_)
    dsimp only
    refine wpC_bindA (wpAny_pure ?_)
    refine wpC_bind (E := E) (wpC_mono (Q := fun _ _ => False) (E := E) (wpC_holding (wpC_call (codeC_call_builtin (by decide +kernel) F.entry_int_new hcn ?_))) (fun _ _ x => x.elim) fun _ _ x => x)
    exact hnew _ _ hBh
  refine wpC_call (codeC_of_tree ?_)
  show wpC _ _ (pure (Fin.again (.builtin "type.__call__" ⟨.type "int" :: vs, []⟩))) _ _ _
  exact wpC_pure (And.intro (Code.quiet_builtin _ (by decide +kernel)) (key _ fun e s' h => h))
end Mine
end
section
open PySem PySem.W PyProof.Rows PySem.Calls
open Sem (wp)
set_option Elab.async false
set_option maxRecDepth 100000
set_option linter.unusedVariables false
namespace Mine

theorem Tab.of2 {h h' : Heap} (t : Tab h) (k : ∀ b o, b = PC ∨ b = PL → h.get? b = some o → h'.get? b = some o) : Tab h' := by
  obtain ⟨ps, ⟨o, vs, file, tf, flags, tg, inF, text, tt, op, a, r1, r2, r3, r4, r5, r6, b, r⟩, ⟨⟨o2, vs2, a2, rr⟩, e⟩, c⟩ := t
  exact ⟨ps, ⟨o, vs, file, tf, flags, tg, inF, text, tt, op, k _ _ (.inl rfl) a, r1, r2, r3, r4, r5, r6, k _ _ (.inr rfl) b, r⟩, ⟨⟨o2, vs2, k _ _ (.inl rfl) a2, rr⟩, k _ _ (.inr rfl) e⟩, c⟩

theorem kp_slots {w : World} {H₀ h h' : Heap} {S : List Addr} (B : Base w H₀) (hS : ∀ b ∈ S, H₀.get? b = none ∧ ∃ o, h.get? b = some o ∧ o.cls = .type "frame")
    (k1 : ∀ b o, h.get? b = some o → b ∉ S → h'.get? b = some o) (k2 : ∀ b o, h.get? b = some o → ∃ sl, h'.get? b = some { o with slots := sl }) : Kp H₀ h h' where
  keep b o e p c := k1 b o e fun m => c (by obtain ⟨_, o', e', c'⟩ := hS b m; rw [e] at e'; cases e'; exact c')
  frm b o e p := let ⟨sl, e'⟩ := k2 b o e; ⟨_, e', rfl, rfl⟩
  old b o a p e := k1 b o e fun m => by have := (hS b m).1; rw [a] at this; cases this
  tab t := t.of2 fun b o hb e => k1 b o e fun m => by
    have := (hS b m).1
    rcases hb with rfl | rfl
    · obtain ⟨o, e⟩ := B.pc; rw [e] at this; cases this
    · obtain ⟨o, e⟩ := B.pl; rw [e] at this; cases this

theorem FrOk.fun {H₀ : Heap} {h : Heap} : ∀ {l : List Env}, (∀ e ∈ l, e.scope.kind ≠ .module ∧ ∃ f o, e.frame = some f ∧ f ≠ PL ∧ H₀.get? f = none ∧ h.get? f = some o ∧ o.cls = .type "frame" ∧ ∃ es n, o.data = .dict es n) → h.FunFrames H₀ l
  | [], _ => trivial
  | e :: l, y => by
    obtain ⟨a, f, o, b, c, d, e1, g, es, n, dd⟩ := y e List.mem_cons_self
    exact ⟨a, ⟨f, o, b, d, e1, fun vs h => by rw [dd] at h; cases h⟩, FrOk.fun fun z hz => y z (List.mem_cons_of_mem _ hz)⟩

/-- an exception in flight or caught, seen from the state before it was made -/
structure Fl (H₀ : Heap) (cls : String) (e : Addr) (s s' : Shared) : Prop where
  kp : Kp H₀ s.heap s'.heap
  os : s'.os = s.os
  gens : s'.gens = s.gens
  new : s.heap.get? e = none
  tb : ∃ oe vs tb otb ts, s'.heap.get? e = some oe ∧ oe.cls = .type cls ∧ oe.data = .fields vs ∧ vs[1]? = some (.ref tb) ∧ s.heap.get? tb = none ∧ tb ≠ e ∧ s'.heap.get? tb = some otb ∧ otb.data = .fields ts ∧ 3 < ts.size

theorem note_new {w : World} {H₀ : Heap} {M : Model} {A : Around} {E : Value → Shared → Prop} {s s₁ : Shared} {env : Env} {outer : List Env} {L e : Addr} {cls : String} {Q : Unit → Shared → Prop} (B : Base w H₀) (hg : HG H₀ s.heap)
    (fr : FrOk H₀ A s.heap) (hfr : A.frames = some (env :: outer)) (hf : env.frame = some L) (ne : Heap.NewExc s.heap s₁.heap e cls) (hos : s₁.os = s.os) (hge : s₁.gens = s.gens)
    (h : ∀ h', Fl H₀ cls e s { s₁ with heap := h' } → Q () { s₁ with heap := h' }) : wpAny M A (noteFrame (.ref e) env) Q E s₁ := by
  obtain ⟨oe, t, he, hc, hd⟩ := ne.there
  have kp₁ : Kp H₀ s.heap s₁.heap := .of_keep ne.keeps
  obtain ⟨l, hl, y⟩ := fr.next kp₁
  rw [hfr] at hl; cases hl
  unfold noteFrame
  simp only [hf]
  refine wpAny_bind (wpAny_field he hd (x := .none) rfl ?_)
  rw [if_neg (by decide)]
  refine wpAny_bind (wpAny_frameOf_fun (base := H₀) hfr (FrOk.fun y) hf fun h₁ hs₁ => ?_)
  refine wpAny_bind (wpAny_entryPlaceOf fun pl hpl => ?_)
  unfold EntryCells.newEntry newFields
  refine wpAny_bind (wpAny_newObj_type ?_ (hpl.sizeOk5 _ _ _ _ _))
  have hS : ∀ b ∈ (env :: outer).filterMap (·.frame), H₀.get? b = none ∧ ∃ o, s.heap.get? b = some o ∧ o.cls = .type "frame" := by
    intro b hb
    obtain ⟨l', hl', y'⟩ := fr
    rw [hfr] at hl'; cases hl'
    obtain ⟨z, hz, e⟩ := List.mem_filterMap.mp hb
    obtain ⟨_, f, o, b1, _, d, e1, g, _⟩ := y' z hz
    rw [b1] at e; cases e
    exact ⟨d, o, e1, g⟩
  have hene : e ∉ (env :: outer).filterMap (·.frame) := fun hm => by
    obtain ⟨_, o, ho, _⟩ := hS e hm
    rw [ne.new] at ho; cases ho
  have he₁ : h₁.get? e = some oe := (hs₁.2.1 e hene).trans he
  have he₂ := Heap.get?_push_of_some (h := h₁) { cls := .type "traceback", dict := none, data := .fields ([Value.none, .ref L, .none, rawInt L, .none] ++ (if pl.isEmpty then List.replicate 6 Value.none else pl)).toArray } he₁
  refine wpAny_setField he₂ hd (by simp) ?_
  have hTe : h₁.objs.size ≠ e := Nat.ne_of_gt (Heap.lt_size he₁)
  have hd₃ := Obj.data_mapFields hd (·.setIfInBounds 1 (Value.ref h₁.objs.size))
  have hbe : ∀ b o, s.heap.get? b = some o → b ≠ e := by rintro b o hb rfl; rw [ne.new] at hb; cases hb
  have hT₃ := (Heap.get?_update_other (h₁.push { cls := .type "traceback", dict := none, data := .fields ([Value.none, .ref L, .none, rawInt L, .none] ++ (if pl.isEmpty then List.replicate 6 Value.none else pl)).toArray })
    (Obj.mapFields (·.setIfInBounds 1 (Value.ref h₁.objs.size))) (Ne.symm hTe)).trans (Heap.get?_push_size h₁ rfl)
  refine h _ ⟨kp_slots B hS (fun b o hb hn => ?_) (fun b o hb => ?_), hos, hge, ne.new, _, _, h₁.objs.size, _, _, Heap.get?_update_self _ he₂ (Obj.isFreed_of_fields hd₃), (Obj.cls_mapFields ..).trans hc, hd₃, by simp, ?_, hTe, hT₃, rfl, ?_⟩
  · rw [Heap.get?_update_other _ _ (Ne.symm (hbe b o hb))]
    exact Heap.get?_push_of_some _ ((hs₁.2.1 b hn).trans (ne.keeps b o hb))
  · obtain ⟨sl, e'⟩ := hs₁.2.2 b o (ne.keeps b o hb)
    refine ⟨sl, ?_⟩
    rw [Heap.get?_update_other _ _ (Ne.symm (hbe b o hb))]
    exact Heap.get?_push_of_some _ e'
  · cases q : s.heap.get? h₁.objs.size with
    | none => rfl
    | some o =>
      obtain ⟨sl, e'⟩ := hs₁.2.2 _ o (ne.keeps _ o q)
      exact absurd (Heap.lt_size e') (Nat.lt_irrefl _)
  · simp only [List.size_toArray, List.length_append, List.length_cons, List.length_nil]; omega

theorem flight {w : World} {H₀ : Heap} {M : Model} {A : Around} {E : Value → Shared → Prop} {s s₁ : Shared} {e : Addr} {cls : String} {Q : Unit → Shared → Prop} (B : Base w H₀) (hg : HG H₀ s.heap) (f : Fl H₀ cls e s s₁)
    (h : ∀ h', Fl H₀ cls e s { s₁ with heap := h' } → Q () { s₁ with heap := h' }) : wpAny M A (setFlight (.ref e) none) Q E s₁ := by
  obtain ⟨oe, vs, tb, otb, ts, a1, a2, a3, a4, a5, a6, a7, a8, a9⟩ := f.tb
  refine wpAny_setFlight_none a1 a3 a4 a7 a8 a9 (h _ ?_)
  have ne : ∀ b o, s.heap.get? b = some o → b ≠ tb := by rintro b o hb rfl; rw [a5] at hb; cases hb
  have ne0 : ∀ b o, H₀.get? b = some o → b ≠ tb := by
    rintro b o hb rfl
    by_cases hp : b = PL
    · subst hp; obtain ⟨ps, e'⟩ := hg.tab.tabne; rw [a5] at e'; cases e'
    · have := hg.old b o hb hp; rw [a5] at this; cases this
  have other : ∀ b, b ≠ tb → (s₁.heap.update tb (Obj.mapFields (·.setIfInBounds 3 .none))).get? b = s₁.heap.get? b := fun b hb => Heap.get?_update_other _ _ (Ne.symm hb)
  refine ⟨⟨fun b o x p c => (other b (ne b o x)).trans (f.kp.keep b o x p c), fun b o x p => ?_, fun b o a p x => (other b (ne b o x)).trans (f.kp.old b o a p x), fun t => (f.kp.tab t).of2 fun b o hb x => (other b ?_).trans x⟩, f.os, f.gens, f.new,
    oe, vs, tb, _, _, (other e (Ne.symm a6)).trans a1, a2, a3, a4, a5, a6, Heap.get?_update_self _ a7 (Obj.isFreed_of_fields (Obj.data_mapFields a8 _)), Obj.data_mapFields a8 _, by simpa using a9⟩
  · obtain ⟨o', x', r⟩ := f.kp.frm b o x p
    exact ⟨o', (other b (ne b o x)).trans x', r⟩
  · rcases hb with rfl | rfl
    · obtain ⟨o, x⟩ := B.pc; exact ne0 _ o x
    · obtain ⟨o, x⟩ := B.pl; exact ne0 _ o x
end Mine
end
section
open PySem PySem.W PyProof.Rows PySem.Calls
open Sem (wp)
set_option Elab.async false
set_option maxRecDepth 100000
set_option linter.unusedVariables false
namespace Mine
section
variable {X : Cx} {ρ : Str → Option D} {J : Side} {Φ : Flow → Shared → Prop} {rest : List Stmt}

theorem wpC_try {body orelse : List Stmt} {h₀ : ExceptHandler} {hs : List ExceptHandler} {pos : Pos} {s : Shared} {E : Value → Shared → Prop} {Q : Flow → Shared → Prop}
    (h : wpC (model PR X.w) X.A (execs body X.env) (fun f s₁ => match f with | .next => wpC (model PR X.w) X.A (execs orelse X.env) Q E s₁ | f => Q f s₁)
      (fun e s₁ => wpAny (model PR X.w) X.A (noteFrame e X.env) (fun _ s₂ => wpAny (model PR X.w) X.A (setFlight e none) (fun _ s₃ => wpAny (model PR X.w) X.A (handleBy e X.env (h₀ :: hs)) Q E s₃) E s₂) E s₁) s) :
    wpC (model PR X.w) X.A (exec (.Try body (h₀ :: hs) orelse [] pos) X.env) Q E s := by
  rw [arm_exec_Try]
  refine wpC_bind (wpC_standAt ?_)
  unfold tryStmt
  simp only [List.isEmpty_nil, if_true, List.isEmpty_cons, Bool.false_and, Bool.false_eq_true, if_false]
  refine wpC_bind (wpC_attempt (wpC_mono h (fun f s₁ h₁ => ?_) fun e s₁ h₁ => ?_))
  · cases f <;> first | exact h₁ | exact wpC_pure h₁
  · exact wpC_of (wpAny_bind (wpAny_mono h₁ (fun _ _ h₂ => wpAny_bind h₂) fun _ _ x => x))

/-- statements that run through -/
def Nxt (X : Cx) (ρ : Str → Option D) (J : Side) (f : Flow) (s : Shared) : Prop := f = .next ∧ St X ρ J s
theorem ssc_try_ok {body orelse : List Stmt} {h₀ : ExceptHandler} {hs : List ExceptHandler} {pos : Pos} {ρ₁ ρ₂ : Str → Option D} {J₁ J₂ : Side}
    (hb : SsC X ρ J body (Nxt X ρ₁ J₁)) (ho : SsC X ρ₁ J₁ orelse (Nxt X ρ₂ J₂)) (hr : SsC X ρ₂ J₂ rest Φ) : SsC X ρ J (.Try body (h₀ :: hs) orelse [] pos :: rest) Φ := by
  refine ssc_exec fun s E S => wpC_try ?_
  refine wpC_mono (hb.go s (fun _ _ => False) S) (fun f s₁ h₁ => ?_) fun _ _ x => x.elim
  obtain ⟨rfl, S₁⟩ := h₁
  refine wpC_mono (ho.go s₁ (fun _ _ => False) S₁) (fun f s₂ h₂ => ?_) fun _ _ x => x.elim
  obtain ⟨rfl, S₂⟩ := h₂
  exact hr.go s₂ E S₂

/-- statements that raise a ValueError, with nothing stored -/
structure Fails (X : Cx) (ρ : Str → Option D) (J : Side) (body : List Stmt) : Prop where
  go : ∀ (s : Shared) (Q : Flow → Shared → Prop) (E : Value → Shared → Prop), St X ρ J s → (∀ s₀ s' e, Nx X.H₀ s s₀ → Heap.NewExc s₀.heap s'.heap e "ValueError" → s'.os = s₀.os → s'.gens = s₀.gens → s₀.toks ≤ s'.toks → E (.ref e) s') → wpC (model PR X.w) X.A (execs body X.env) Q E s

theorem ssc_try_fail {body orelse : List Stmt} {b₀ : Stmt} {suite : List Stmt} {tp hpos pos : Pos} {ρ₂ : Str → Option D} {L : Addr} (hA : ∃ A₀ : Around, X.A = A₀.deeper X.env) (hf : X.env.frame = some L)
    (hV : nsIn (KF X.w) mainGlobals (Str.ofString "ValueError") = some none) (hv : bootBuiltins (Str.ofString "ValueError") = some (.type "ValueError")) (hk : X.env.kindOf (Str.ofString "ValueError") = some .globalImplicit)
    (hb : Fails X ρ J body)
    (hh : ∀ (A' : Around) (s : Shared) (Q : Flow → Shared → Prop) (E : Value → Shared → Prop), St X ρ J s → (∀ s', St X ρ₂ J s' → Q .next s') → wpAny (model PR X.w) A' (execs (b₀ :: suite) X.env) Q E s)
    (hr : SsC X ρ₂ J rest Φ) : SsC X ρ J (.Try body [.ExceptHandler (some (.Name (Str.ofString "ValueError") tp)) none (b₀ :: suite) hpos] orelse [] pos :: rest) Φ := by
  refine ssc_exec fun s E S => wpC_try ?_
  refine hb.go s _ _ S fun s₀ s₁ e n₀ ne hos hge htk => ?_
  have S₀ := S.next n₀
  have hfr : ∃ outer, X.A.frames = some (X.env :: outer) := by
    obtain ⟨l, hl, _⟩ := S.rd.fr
    obtain ⟨A₀, e⟩ := hA
    rw [e] at hl ⊢
    have hl : A₀.frames.map (X.env :: ·) = some l := hl
    cases q : A₀.frames with
    | none => rw [q] at hl; cases hl
    | some l₀ => exact ⟨l₀, by show A₀.frames.map (X.env :: ·) = _; rw [q]; rfl⟩
  obtain ⟨outer, hfr⟩ := hfr
  refine note_new (s := s₀) S₀.rd.B S₀.rd.hg S₀.rd.fr hfr hf ne hos hge fun h₂ f₂ => flight S₀.rd.B S₀.rd.hg f₂ fun h₃ f₃ => ?_
  have up : ∀ h' : Heap, Fl X.H₀ "ValueError" e s₀ { s₁ with heap := h' } → St X ρ J { s₁ with heap := h' } := fun h' f =>
    S₀.next0 ⟨f.kp, f.os, fun g => by rw [f.gens]; exact g⟩ (by have := S₀.rd.tk; show s₁.toks ≠ 0; omega)
  have S₃ := up h₃ f₃
  refine wpAny_handleBy_builtin (X := "ValueError") (T := "ValueError") (b := true) (by rw [isSubtype_type]; kernel_rfl) (by rw [isSubtype_type]; kernel_rfl) (by rw [isSubtype_type]; kernel_rfl) ?_
  obtain ⟨mg, g⟩ := S₃.rd.B.g
  obtain ⟨mb, b, hbb⟩ := S₃.rd.B.b
  have g' : h₃.Ns X.env.globals mg := by rw [S₃.eg]; exact ns_hg g S₃.rd.hg (by decide)
  have b' : h₃.Ns X.env.builtins mb := by rw [S₃.eb]; exact ns_hg b S₃.rd.hg (by decide)
  refine Name_function_global S₃.ek hk (loadGlobal_builtin g' (mg_none_of S₃.rd.B.K g hV) b' ((hbb _ (by decide +kernel)).trans hv) ?_) (by decide +kernel)
  obtain ⟨oe, vs, tb, otb, ts, a1, a2, a3, a4, a5, a6, a7, a8, a9⟩ := f₃.tb
  refine ⟨rfl, ⟨oe, a1, a2⟩, ?_⟩
  simp only [if_true]
  exact flight S₀.rd.B S₀.rd.hg f₃ fun h₄ f₄ => hh _ _ _ _ (up h₄ f₄) fun s' S' => hr.go s' E S'
end
end Mine
end
section
open PySem PySem.W PyProof.Rows PySem.Calls
open Sem (wp)
set_option Elab.async false
set_option maxRecDepth 100000
set_option linter.unusedVariables false
namespace Mine

abbrev oX (X : Cx) (a : Addr) : Cx := { X with F := fun b => X.F b ∨ b = a }
def D.flat : D → Bool
  | .tup _ | .lst _ => false
  | _ => true
theorem Rep.anyF {F F' : Addr → Prop} {h h' : Heap} {v : Value} {d : D} (r : Rep F h v d) (hd : d.flat = true) : Rep F' h' v d := by
  cases r with
  | none => exact .none
  | bool b => exact .bool b
  | int i t => exact .int i t
  | str x t => exact .str x t
  | tup => cases hd
  | lst => cases hd
  | obj a => exact .obj a
section
variable {X : Cx} {ρ : Str → Option D} {J : Side} {Φ : Flow → Shared → Prop} {rest : List Stmt}

/-- a new list -/
structure EvN (X : Cx) (ρ : Str → Option D) (J : Side) (e : Expr) (ds : List D) : Prop where
  go : ∀ (s : Shared) (Q E : Value → Shared → Prop), St X ρ J s → (∀ a vs n s', Nx0 X.H₀ s s' → s.heap.get? a = none → a ≠ PL → s'.heap.get? a = some { cls := .type "list", data := .seq vs.toArray n } → (∀ F, Reps F s'.heap vs ds) → Q (.ref a) s') → wpAny (model PR X.w) X.A (eval e X.env) Q E s

theorem St.own {s s' : Shared} {a : Addr} {vs : List Value} {n : Nat} {ds : List D} (S : St X ρ J s) (nx : Nx X.H₀ s s') (hn : s.heap.get? a = none) (hp : a ≠ PL) (e : s'.heap.get? a = some { cls := .type "list", data := .seq vs.toArray n }) (r : ∀ F, Reps F s'.heap vs ds) :
    St (oX X a) ρ ((Own (oX X a).F a ds).and J) s' := by
  have S' := S.next nx
  exact {
    rd := S'.rd
    nx := S'.nx
    fresh := S'.fresh
    lnew := S'.lnew
    lpl := S'.lpl
    ek := S'.ek
    eg := S'.eg
    eb := S'.eb
    lcls := S'.lcls
    vars := by
      obtain ⟨mv, h1, h2⟩ := S.vars
      refine ⟨mv, nx.kp.ns h1 S.lpl, fun x d e => ?_⟩
      obtain ⟨v, q, r⟩ := h2 x d e
      have r' : Rep (oX X a).F s.heap v d := r.same fun b o eb f c x => ⟨eb, fun h => h.elim f fun h => by subst h; rw [hn] at eb; cases eb⟩
      refine ⟨v, ?_, r'.next nx.kp S.rd.hg.tab⟩
      rcases q with q | ⟨q, c, q1, q2⟩
      · exact .inl q
      · exact .inr ⟨q, c, q1, nx.kp.cell q2 S.rd.hg.tab⟩
    side := ⟨⟨vs, n, e, r _⟩, S'.side⟩
    off := fun h => h.elim (fun h => by obtain ⟨o, eo⟩ := S.lcls; have h : X.env.locals = a := h; rw [h, hn] at eo; cases eo) S'.off
    live := fun b h => h.elim (fun f => S'.live b f) fun h => by subst h; exact ⟨_, e⟩ }

theorem St.disown {s : Shared} {a : Addr} {ds : List D} {x : Str} (hF : ¬ X.F a) (hx : ρ x = some (.obj a)) (S : St (oX X a) ρ ((Own (oX X a).F a ds).and J) s) : St X (upd ρ x (.lst ds)) J s := by
  exact {
    rd := S.rd
    nx := S.nx
    fresh := S.fresh
    lnew := S.lnew
    lpl := S.lpl
    ek := S.ek
    eg := S.eg
    eb := S.eb
    lcls := S.lcls
    vars := by
      obtain ⟨mv, h1, h2⟩ := S.vars
      refine ⟨mv, h1, fun y d e => ?_⟩
      unfold upd at e
      by_cases hy : y = x
      · subst hy
        rw [if_pos rfl] at e; cases e
        obtain ⟨v, q, r⟩ := h2 y _ hx
        cases r.isObj
        obtain ⟨vs, n, e, r⟩ := S.side.1
        exact ⟨_, q, .lst hF e (r.mono fun a f => .inl f)⟩
      · rw [if_neg hy] at e
        obtain ⟨v, q, r⟩ := h2 y d e
        exact ⟨v, q, r.mono fun a f => .inl f⟩
    side := S.side.2
    off := fun h => S.off (.inr h)
    live := fun b f => S.live b (.inl f) }

theorem ev_unown {a : Addr} {ds : List D} {x : Str} {e : Expr} {d : D} (hF : ¬ X.F a) (hx : ρ x = some (.obj a)) (h : Ev X (upd ρ x (.lst ds)) J e d) (hd : d.flat = true) : Ev (oX X a) ρ ((Own (oX X a).F a ds).and J) e d :=
  ⟨fun s Q E S q => h.go s Q E (S.disown hF hx) fun v s' n r => q v s' n (r.anyF hd)⟩
theorem tr_unown {a : Addr} {ds : List D} {x : Str} {e : Expr} {b : Bool} (hF : ¬ X.F a) (hx : ρ x = some (.obj a)) (h : Tr X (upd ρ x (.lst ds)) J e b) : Tr (oX X a) ρ ((Own (oX X a).F a ds).and J) e b :=
  ⟨fun s Q E S q => h.go s Q E (S.disown hF hx) q⟩
theorem ssc_disown {a : Addr} {ds : List D} {x : Str} (hF : ¬ X.F a) (hx : ρ x = some (.obj a)) (h : SsC X (upd ρ x (.lst ds)) J rest Φ) : SsC (oX X a) ρ ((Own (oX X a).F a ds).and J) rest Φ :=
  ⟨fun s E S => h.go s E (S.disown hF hx)⟩

theorem ssc_own {x : Str} {p pos : Pos} {e : Expr} {ds : List D} (he : EvN X ρ J e ds)
    (h : ∀ a, ¬ X.F a → X.sE.heap.get? a = none → X.H₀.get? a = none → ¬ J.N a → SsC (oX X a) (upd ρ x (.obj a)) ((Own (oX X a).F a ds).and J) rest Φ) (hx : X.env.kindOf x = some .local := by kernel_rfl)
    (hs : notComp e = true := by rfl) : SsC X ρ J (.Assign [.Name x p] e pos :: rest) Φ := by
  refine ssc_exec fun s E S => ?_
  rw [exec_Assign_Name X.env _ _ _ _ (swaps_plain hs)]
  refine wpC_bind (wpC_standAt (wpC_bindA (wpAny_with_toks (Nat.le_refl s.toks) (he.go s _ _ S fun a vs n s₁ n₁ hn hp ea r htk => wpC_bind (wpC_standAt (wpC_bindA (wpAny_bindName ?_)))))))
  obtain ⟨b1, b2, b3, b4⟩ := S.newAddr hn hp
  have S₁ : St (oX X a) ρ ((Own (oX X a).F a ds).and J) s₁ := S.own ⟨n₁, htk⟩ hn hp ea r
  exact store_local (X := oX X a) S₁ (.obj a) hx fun s₂ S₂ _ => wpC_pure ((h a b3 b1 b2 b4).go s₂ E S₂)

theorem evn_nil {pos : Pos} : EvN X ρ J (.List [] pos) [] := by
  refine ⟨fun s Q E S q => List_ (wpAny_items_nil (wpAny_newObj_type ?_ (by show (0 : Nat) ≤ 16777216; decide)))⟩
  exact q _ [] 0 _ ⟨.push _ _ _, rfl, id⟩ none_of_size S.rd.hg.new.2 (Heap.get?_push_size _ rfl) fun F => .nil

theorem evn_split {o e : Expr} {apos pos : Pos} {x y : Str} (ho : Ev X ρ J o (.str x)) (he : Ev X ρ J e (.str y)) (hy : (y.length == 0) = false) (hz : x.length ≤ 1000000)
    (hs : notStar e = true := by rfl) (hbase : plainBase o = true := by rfl) (hline : (apos.endLine == pos.line) = true := by rfl) (hp : allPlain [e] = true := by rfl) :
    EvN X ρ J (.Call (.Attribute o "split" apos) [e] [] pos) ((Txt.split x y).map .str) := by
  refine ⟨fun s Q E S q => ?_⟩
  refine wpAny_Call_method_lateS (attrBase_plain hbase) (few_plain hp (Nat.lt_of_sub_eq_succ rfl)) hline (ho.go s _ _ S fun ov s₁ n₁ r₁ => ?_)
  obtain ⟨t, rfl⟩ := r₁.isStr
  refine ⟨"str", "str.split", F.plainAttrs_str, F.slot_str_split, F.type_str_split, typeIs_str _ _ _, (fun _ e => nomatch e), callWith_builtin (backTo_any hp) ?_⟩
  refine args_evs (evs_one he hs) hs (S.next n₁) fun vs s₂ n₂ r₂ => ?_
  obtain ⟨v, rfl, r'⟩ := r₂.one
  obtain ⟨u, rfl⟩ := r'.isStr
  have S₂ := (S.next n₁).next n₂
  have hsz : x.length ≤ sizeLine := by show x.length ≤ 16777216; omega
  have hsz2 : (Builtin.Str.partsBetween x (Builtin.Str.occurrences x y 0 x.length (x.length + 1)) y.length).length ≤ sizeLine := by
    rw [PyProof.Rows.len_partsBetween]; have := StrLaws.occ_length_le x y 0 x.length (x.length + 1); show _ ≤ 16777216; omega
  have fin : ∀ (l : List (Str × Tok)) (tk : Nat), l.map (·.1) = Txt.split x y → Q (.ref s₂.heap.objs.size) { s₂ with toks := tk, heap := s₂.heap.push { cls := .type "list", data := .seq (strValues l).toArray } } := by
    intro l tk hl
    refine q _ (strValues l) 0 _ ((n₁.trans n₂).toNx0.trans (.of_keep fun b o e => Heap.get?_push_of_some _ e)) ((n₁.trans n₂).none none_of_size S₂.rd.hg.new.2) S₂.rd.hg.new.2 (Heap.get?_push_size _ rfl) fun F => ?_
    rw [← hl]
    exact strs_reps l
  show wpAny _ _ (call (.builtin "str.split") [.str x t, .str y u]) _ _ _
  cases h1 : (decide (x.length < y.length) || decide (Builtin.Str.strKind x < Builtin.Str.strKind y))
  · cases hf : (Builtin.Str.occurrences x y 0 x.length (x.length + 1)).isEmpty
    · refine call_meets F.slot_str_split (typeIs_str _ _ _) F.entry_str_split (F.args_str_split_2 _ _) (meets_str_split_sep x y t u h1 hy hf hsz hsz2) ?_
      show Q (.ref s₂.heap.objs.size) { s₂ with toks := _, heap := s₂.heap.push { cls := .type "list", data := .seq (strsFrom s₂.toks (Builtin.Str.partsBetween x (Builtin.Str.occurrences x y 0 x.length (x.length + 1)) y.length)).toArray } }
      rw [strsFrom_eq]
      exact fin _ _ ((numbered_texts _ _).trans ((if_neg (ne_true_of_eq_false h1)).trans (if_neg (ne_true_of_eq_false hf))).symm)
    · exact call_meets F.slot_str_split (typeIs_str _ _ _) F.entry_str_split (F.args_str_split_2 _ _) (meets_str_split_not_found x y t u h1 hy hf)
        (fin [(x, t)] _ ((if_neg (ne_true_of_eq_false h1)).trans (if_pos hf)).symm)
  · exact call_meets F.slot_str_split (typeIs_str _ _ _) F.entry_str_split (F.args_str_split_2 _ _) (meets_str_split_cannot_occur x y t u h1) (fin [(x, t)] _ (if_pos h1).symm)
end
end Mine
end
section
open PySem PySem.W PyProof.Rows PySem.Calls
open Sem (wp)
set_option Elab.async false
set_option maxRecDepth 100000
set_option linter.unusedVariables false
namespace Mine
theorem setItem_plain {w : World} {A : Around} {E : Value → Shared → Prop} {s : Shared} {l : Addr} {items : Array Value} {n : Nat} {k : Int} {t : Tok} {v : Value} {Q : Unit → Shared → Prop} (ho : s.heap.get? l = some { cls := .type "list", data := .seq items n })
    (h0 : 0 ≤ k) (hfit : k < 2 ^ 63) (hn : k < items.size)
    (hQ : ∀ h' n', h'.get? l = some { cls := .type "list", data := .seq (items.setIfInBounds k.toNat v) n' } → Heap.SameBut l s.heap h' → Q () { s with heap := h' }) :
    wpAny (model PR w) A (setItem (.ref l) (.int k t) v) Q E s := by
  have hl : s.heap.IsList l items := isList_of ho
  unfold setItem
  try with_reducible refine wpAny_holding ?_
  first | refine wpAny_bind (wpAny_pure ?_) | skip
  refine wpAny_bind (wpAny_sequenceKey hl.typeIs (by decide) ?_)
  refine wpAny_bind (wpAny_callSpecial?_slot (name := Str.ofString "__setitem__") hl.typeIs slot_list_setitem
    (wpAny_call_entry slot_list_setitem hl.typeIs entry_list_setitem ?_ (args_list_setitem _ _ _)))
  show wpAny _ _ (Builtin.List.listSubscript? (.int k t) >>= _) _ _ s
  refine wpAny_bind (wpAny_listSubscript_int (fitsIndex_of h0 hfit) ?_)
  clear hfit
  obtain ⟨j, rfl⟩ := Int.eq_ofNat_of_zero_le h0
  have hj : j < items.size := by omega
  simp only [Int.toNat_natCast] at hQ
  have hx' : items[j]? = some items[j] := Array.getElem?_eq_getElem hj
  show wpAny _ _ ((seqItemAt l j >>= fun r => pure (r.map (j, ·))) >>= _) _ _ s
  refine wpAny_bind (wpAny_bind (wpAny_seqItemAt ho rfl (wpAny_pure ?_)))
  rw [hx']
  show wpAny _ _ (setSeqItemAt l j v >>= _) _ _ s
  obtain ⟨n', hd'⟩ := Obj.data_mapSeq (o := { cls := .type "list", data := .seq items n }) rfl (·.setIfInBounds j v)
  have hfin : (s.heap.update l (Obj.mapSeq (·.setIfInBounds j v))).get? l = some { cls := .type "list", data := .seq (items.setIfInBounds j v) n' } := by
    rw [Heap.get?_update_self _ ho (Obj.isFreed_of_seq hd')]
    have : (Obj.mapSeq (·.setIfInBounds j v) { cls := .type "list", data := .seq items n }) = { (Obj.mapSeq (·.setIfInBounds j v) { cls := .type "list", data := .seq items n } : Obj) with data := .seq (items.setIfInBounds j v) n' } := by
      rw [← hd']
    rw [this]; rfl
  refine wpAny_bind (wpAny_setSeqItemAt ho rfl ?_)
  first
    | exact wpAny_bind (wpAny_pure (wpAny_pure ⟨.none, rfl, wpAny_pure (hQ _ _ hfin (Heap.SameBut.update ..))⟩))
    | exact wpAny_pure ⟨.none, rfl, wpAny_pure (hQ _ _ hfin (Heap.SameBut.update ..))⟩

theorem Reps.set {F : Addr → Prop} {h : Heap} : ∀ {vs : List Value} {ds : List D}, Reps F h vs ds → ∀ {v : Value} {d : D} (j : Nat), Rep F h v d → Reps F h (vs.set j v) (ds.set j d)
  | _, _, .nil, _, _, _, _ => .nil
  | _, _, .cons a r, _, _, 0, x => .cons x r
  | _, _, .cons a r, _, _, j + 1, x => .cons a (r.set j x)

section
variable {X : Cx} {ρ : Str → Option D} {J : Side} {Φ : Flow → Shared → Prop} {rest : List Stmt}

/-- the own list is changed -/
theorem St.ownSet {s : Shared} {a : Addr} {ds ds' : List D} {K : Side} (S : St X ρ ((Own X.F a ds).and K) s) {h' : Heap} {tk n' : Nat} {vs' : List Value} (hF : X.F a) (hE : X.sE.heap.get? a = none) (h0 : X.H₀.get? a = none) (hM : K.M a) (hN : ¬ K.N a)
    (e' : h'.get? a = some { cls := .type "list", data := .seq vs'.toArray n' }) (x : Heap.ExtBut a s.heap h') (htk : s.toks ≤ tk) (r : Reps X.F h' vs' ds') : St X ρ ((Own X.F a ds').and K) { s with heap := h', toks := tk } := by
  obtain ⟨vs, n, e, rr⟩ := id S.side.1
  exact S.but e (.inl fun es n h => by cases h) (fun v h => by cases h) (.inl hF) (fun _ => ⟨_, e'⟩) hE h0 x htk ⟨⟨vs', n', e', r⟩, K.but e hN (.inl hM) x S.side.2⟩ S.off

theorem ssc_setitem {x : Str} {np p pos : Pos} {k : Nat} {cp : Pos} {v : Expr} {a : Addr} {ds : List D} {d : D} {j : Nat} (hx : ρ x = some (.obj a)) (hv : Ev X ρ ((Own X.F a ds).and J) v d) (hj : j < ds.length) (hfit : (j : Int) < 2 ^ 63)
    (hF : X.F a) (hE : X.sE.heap.get? a = none) (h0 : X.H₀.get? a = none) (hM : J.M a) (hN : ¬ J.N a) (h : SsC X ρ ((Own X.F a (ds.set j d)).and J) rest Φ) (hs : notComp v = true := by rfl)
    (hd : (x == ("__debug__" : Str)) = false := by decide +kernel) (hc : (x == ("__classdict__" : Str)) = false := by decide +kernel) :
    SsC X ρ ((Own X.F a ds).and J) (.Assign [.Subscript (.Name x np) (.Constant (.int j) k cp) p] v pos :: rest) Φ := by
  refine ssc_exec fun s E S => wpC_of (wpAny_Assign_Subscript (hv.go s _ _ S fun u s₁ n₁ r₁ => (ev_var hx hd hc).go s₁ _ _ (S.next n₁) fun o s₂ n₂ r₂ => ev_int.go s₂ _ _ ((S.next n₁).next n₂) fun i s₃ n₃ r₃ => ?_) (swaps_plain hs))
  have S₃ := ((S.next n₁).next n₂).next n₃
  have ru := (r₁.next n₂.kp (S.next n₁).rd.hg.tab).next n₃.kp ((S.next n₁).next n₂).rd.hg.tab
  cases r₂.isObj
  obtain ⟨t, rfl⟩ := r₃.isInt
  obtain ⟨vs, n, e, rr⟩ := id S₃.side.1
  refine setItem_plain e (Int.natCast_nonneg j) hfit (by rw [List.size_toArray, rr.length]; omega) fun h' n' e' sb => ?_
  rw [Int.toNat_natCast] at e'
  have kk : ∀ b o, s₃.heap.get? b = some o → ¬ X.F b → o.cls = .type "tuple" ∨ o.cls = .type "list" → (∃ xs n, o.data = .seq xs n) → h'.get? b = some o ∧ ¬ X.F b :=
    fun b o e f _ _ => ⟨sb.extBut b o (by rintro rfl; exact f hF) e, f⟩
  refine h.go _ E (S₃.ownSet (tk := s₃.toks) (vs' := vs.set j u) hF hE h0 hM hN (by rw [e', List.setIfInBounds_toArray]) sb.extBut (Nat.le_refl _) ((rr.same kk).set j (ru.same kk)))

theorem ssc_append {x : Str} {np ap cp pos : Pos} {e : Expr} {a : Addr} {ds : List D} {d : D} (hx : ρ x = some (.obj a)) (hv : Ev X ρ ((Own X.F a ds).and J) e d) (hz : ds.length ≤ 1000000)
    (hF : X.F a) (hE : X.sE.heap.get? a = none) (h0 : X.H₀.get? a = none) (hM : J.M a) (hN : ¬ J.N a) (h : SsC X ρ ((Own X.F a (ds ++ [d])).and J) rest Φ)
    (hd : (x == ("__debug__" : Str)) = false := by decide +kernel) (hc : (x == ("__classdict__" : Str)) = false := by decide +kernel) (hs : notStar e = true := by rfl)
    (hline : (ap.endLine == cp.line) = true := by rfl) (hi : interactive X.env = false := by rfl) :
    SsC X ρ ((Own X.F a ds).and J) (.Expr (.Call (.Attribute (.Name x np) "append" ap) [e] [] cp) pos :: rest) Φ := by
  refine ssc_exec fun s E S => wpC_of (wpAny_Expr_any ?_ hi)
  refine wpAny_Call_method_lateS (attrBase_plain rfl) (few_plain (es := [e]) (by simp [allPlain, hs]) (Nat.lt_of_sub_eq_succ rfl)) hline ((ev_var hx hd hc).go s _ _ S fun ov s₁ n₁ r₁ => ?_)
  cases r₁.isObj
  have S₁ := S.next n₁
  obtain ⟨vs₁, m₁, e₁, _⟩ := id S₁.side.1
  refine ⟨"list", "list.append", F.plainAttrs_list, slot_list_append, F.type_list_append, (isList_of e₁).typeIs, (fun a' e' => by cases e'; exact ⟨_, e₁, rfl⟩), callWith_builtin (backTo_any (es := [e]) (by simp [allPlain, hs])) ?_⟩
  refine args_evs (evs_one hv hs) hs S₁ fun vs s₂ n₂ r₂ => ?_
  obtain ⟨v, rfl, r'⟩ := r₂.one
  exact own_append (S₁.next n₂) r' hF hE h0 hM hN (Nat.le_trans hz (by decide)) fun s' S' => h.go s' E S'
end
end Mine
end
section
open PySem PySem.W PyProof.Rows PySem.Calls PySem.NumText
open Sem (wp)
set_option Elab.async false
set_option maxRecDepth 100000
set_option linter.unusedVariables false
namespace Mine
theorem wpC_callWith_type {M : Model} {A : Around} {E : Value → Shared → Prop} {s : Shared} {pos : Pos} {T : String} {args : List (Bool × Sem Value)} {Q : Value → Shared → Prop} (hplain : args.any (·.1) = false)
    (h : wpAny M A (evalArgs (.type T) true args []) (fun a s₁ => wpC M A (call (.type T) ([] ++ a.pos) a.kw) Q E s₁) E s) : wpC M A (callWith pos (.type T) [] args []) Q E s := by
  unfold callWith
  refine wpC_bindA (wpAny_holding (wpAny_mono h (fun a s₁ h₁ => wpC_bind (wpC_standAt ?_)) fun _ _ x => x))
  simp only [hplain, List.any_nil, Bool.or_false]
  refine wpC_bindA (wpAny_pure ?_)
  exact wpC_bind (wpC_mono h₁ (fun r s₂ hr => wpC_bindA (wpAny_holding (wpAny_point (wpC_pure hr)))) fun _ _ x => x)

section
variable {X : Cx} {ρ : Str → Option D} {J : Side} {Φ : Flow → Shared → Prop} {rest : List Stmt}
structure FailsE (X : Cx) (ρ : Str → Option D) (J : Side) (e : Expr) : Prop where
  go : ∀ (s : Shared) (Q E : Value → Shared → Prop), St X ρ J s → (∀ s₀ s' e, Nx X.H₀ s s₀ → Heap.NewExc s₀.heap s'.heap e "ValueError" → s'.os = s₀.os → s'.gens = s₀.gens → s₀.toks ≤ s'.toks → E (.ref e) s') → wpC (model PR X.w) X.A (eval e X.env) Q E s
theorem fails_assign {y : Str} {p pos : Pos} {e : Expr} (h : FailsE X ρ J e) (hs : notComp e = true := by rfl) : Fails X ρ J (.Assign [.Name y p] e pos :: rest) := by
  refine ⟨fun s Q E S q => ?_⟩
  rw [execs_cons', exec_Assign_Name X.env _ _ _ _ (swaps_plain hs), bind_assoc]
  refine wpC_bind (wpC_standAt ?_)
  rw [bind_assoc]
  exact wpC_bind (h.go s _ E S q)

theorem typeCall_int_2 (a b : Value) : checkTypeCall "int" ⟨[a, b], []⟩ = pure () := by kernel_rfl
theorem newCall_int_2 (a b : Value) : checkBuiltinCall "int.__new__" ⟨[.type "int", a, b], []⟩ = pure () := by kernel_rfl
theorem init_int_2 (obj a b : Value) : argsOk "object.__init__" ⟨[obj, a, b], []⟩ := by kernel_rfl

theorem failsE_int {x : Str} {np pos : Pos} {e : Expr} {f : Str} (hf : EvV X ρ J (.Name x np) (.type "int")) (he : Ev X ρ J e (.str f)) (hl : f.length ≤ 640) (hn : PySem.intText? f = none) (hx : (reprText f).length ≤ 1000)
    (hs : notStar e = true := by rfl) (hp : allPlain [e] = true := by rfl) : FailsE X ρ J (.Call (.Name x np) [e] [] pos) := by
  refine ⟨fun s Q E S q => ?_⟩
  refine wpC_Call_Name (hf.go s _ _ S fun s₁ n₁ => wpC_callWith_type (backTo_any hp) (args_evs (evs_one he hs) hs (S.next n₁) fun vs s₂ n₂ r₂ => ?_))
  obtain ⟨v, rfl, r'⟩ := r₂.one
  obtain ⟨u, rfl⟩ := r'.isStr
  exact wpC_with_toks (Nat.le_refl s₂.toks) (call_fail S.rd.rm.hh (F.typeCall_int_1 _) (F.newCall_int_1 _) fun A' Q' hA' => fail_new hA' (Nat.le_trans (seen_length f) hl) hn hx fun h' tk e ne htk => q s₂ _ e (n₁.trans n₂) ne rfl rfl htk)
theorem failsE_int2 {x : Str} {np pos : Pos} {e b : Expr} {f : Str} (hf : EvV X ρ J (.Name x np) (.type "int")) (he : Ev X ρ J e (.str f)) (hb : Ev X ρ J b (.int 10)) (hl : f.length ≤ 640) (hn : PySem.intText? f = none) (hx : (reprText f).length ≤ 1000)
    (hs : notStar e = true := by rfl) (hsb : notStar b = true := by rfl) (hp : allPlain [e, b] = true := by rfl) : FailsE X ρ J (.Call (.Name x np) [e, b] [] pos) := by
  refine ⟨fun s Q E S q => ?_⟩
  refine wpC_Call_Name (hf.go s _ _ S fun s₁ n₁ => wpC_callWith_type (backTo_any hp) (args_evs (evs_cons he (evs_one hb hsb) hs) hs (S.next n₁) fun vs s₂ n₂ r₂ => ?_))
  obtain ⟨v, u', rfl, r', r''⟩ := r₂.two
  obtain ⟨u, rfl⟩ := r'.isStr
  obtain ⟨t, rfl⟩ := r''.isInt
  exact wpC_with_toks (Nat.le_refl s₂.toks) (call_fail S.rd.rm.hh (typeCall_int_2 _ _) (newCall_int_2 _ _) fun A' Q' hA' => fail_new2 hA' (Nat.le_trans (seen_length f) hl) hn hx fun h' tk e ne htk => q s₂ _ e (n₁.trans n₂) ne rfl rfl htk)

theorem ev_int_text {x : Str} {np pos : Pos} {e : Expr} {f : Str} {n : Int} (hf : EvV X ρ J (.Name x np) (.type "int")) (he : Ev X ρ J e (.str f)) (hl : f.length ≤ 640) (hn : PySem.intText? f = some n)
    (hs : notStar e = true := by rfl) (hp : allPlain [e] = true := by rfl) : Ev X ρ J (.Call (.Name x np) [e] [] pos) (.int n) :=
  ev_call_t hf (evs_one he hs) (fun s vs Q E S r q => by
    obtain ⟨v, rfl, r'⟩ := r.one
    obtain ⟨u, rfl⟩ := r'.isStr
    exact KIN.call_text hn hl (q _ _ .toks (.int _ _))) hs hp
theorem ev_int_text2 {x : Str} {np pos : Pos} {e b : Expr} {f : Str} {n : Int} (hf : EvV X ρ J (.Name x np) (.type "int")) (he : Ev X ρ J e (.str f)) (hb : Ev X ρ J b (.int 10)) (hl : f.length ≤ 640) (hn : PySem.intText? f = some n)
    (hs : notStar e = true := by rfl) (hsb : notStar b = true := by rfl) (hp : allPlain [e, b] = true := by rfl) : Ev X ρ J (.Call (.Name x np) [e, b] [] pos) (.int n) :=
  ev_call_t hf (evs_cons he (evs_one hb hsb) hs) (fun s vs Q E S r q => by
    obtain ⟨v, u', rfl, r', r''⟩ := r.two
    obtain ⟨u, rfl⟩ := r'.isStr
    obtain ⟨t, rfl⟩ := r''.isInt
    refine callType_new F.called_int F.newNe_int (typeCall_int_2 _ _) (newCall_int_2 _ _) (fun obj => init_int_2 obj _ _) F.entry_int_new
      (S := fun A R s => R (.ok (.ret (.int n s.toks))) { s with toks := s.toks + 1 }) (Meets.of_wp fun prog w A R s hs => good_new2 (Q := fun v s' => R (.ok (.ret v)) s') hl hn hs) ?_
    exact ⟨rfl, q _ _ .toks (.int _ _)⟩) hs hp
theorem ev_str_int {x : Str} {np pos : Pos} {e : Expr} {a : Int} (hf : EvV X ρ J (.Name x np) (.type "str")) (he : Ev X ρ J e (.int a)) (ha : (if a < 0 then 0 - a else a) < 1000000000)
    (hs : notStar e = true := by rfl) (hp : allPlain [e] = true := by rfl) : Ev X ρ J (.Call (.Name x np) [e] [] pos) (.str (Str.ofString (toString a))) :=
  ev_call_t hf (evs_one he hs) (fun s vs Q E S r q => by
    obtain ⟨v, rfl, r'⟩ := r.one
    obtain ⟨u, rfl⟩ := r'.isInt
    exact str_of_int_fit ha (by decide) fun _ => q _ _ .toks (.str _ _)) hs hp
end
end Mine
end
section
open PySem PySem.W PyProof.Rows PySem.Calls PySem.NumText
open Sem (wp)
set_option Elab.async false
set_option maxRecDepth 100000
set_option linter.unusedVariables false
namespace Mine
local macro_rules | `(tactic| walk_at "look") => `(tactic| first | exact upd_here | exact upd_there (by decide +kernel) (by walk_at "look") | assumption)

def lt5 (rel : Str) : Bool := decide (rel.cps.toList < (Str.ofString "5").cps.toList)
def aliasOf (sys rel : Str) (f : Str) (r : List Str) : Str × Str :=
  if sys == "SunOS" then
    if lt5 rel then (sys, rel) else
      match PySem.intText? f with
      | some m => ("Solaris", Txt.join "." (Str.ofString (toString (m - 3)) :: r))
      | none => ("Solaris", rel)
  else if sys == "win32" || sys == "win16" then ("Windows", rel) else (sys, rel)

theorem fn_alias (w : World) (H₀ : Heap) (sys rel ver f : Str) (r : List Str) (hok : PyData.strOk sys = true) (hsp : Txt.split rel "." = f :: r) (hlen : rel.length ≤ 600) (hr : r.length ≤ 600) (hf : f.length ≤ 640) (hrep : (reprText f).length ≤ 1000)
    (hm : ∀ m, PySem.intText? f = some m → (if m - 3 < 0 then 0 - (m - 3) else m - 3) < 1000000000) (hj : ∀ m, PySem.intText? f = some m → JoinOk "." (Str.ofString (toString (m - 3)) :: r) = true) :
    FnC w H₀ (.ref 59) 1 [.str sys, .str rel, .str ver] (.tup [.str (aliasOf sys rel f r).1, .str (aliasOf sys rel f r).2, .str ver]) := by
  refine fnc_body (k := 0) [Str.ofString "system", Str.ofString "release", Str.ofString "version"] (fun _ => .triv) rfl rfl rfl ⟨_, _, _, _, rfl, rfl, rfl, rfl⟩ rfl rfl rfl rfl rfl rfl rfl (fun vs h => ?_) (fun _ _ => trivial) (fun A sE F _ _ n hn => ?_) (fun A sE F hE hF => ?_)
  · match vs, h with
    | [a, b, c], _ => kernel_rfl
  · simp only [List.mem_cons, List.not_mem_nil, or_false] at hn
    rcases hn with rfl | rfl | rfl <;> exact stores_local (by kernel_rfl)
  · dsimp only [bindAll, List.zip, List.zipWith]
    refine ssc_if (tr_compare (ev_var (by walk_at "look")) ev_str cm_eq_str) (fun h => ?_) (fun h => ?_)
    · have e0 : aliasOf sys rel f r = if lt5 rel then (sys, rel) else match PySem.intText? f with
          | some m => ("Solaris", Txt.join "." (Str.ofString (toString (m - 3)) :: r))
          | none => ("Solaris", rel) := by unfold aliasOf; rw [if_pos h]
      refine ssc_if (tr_compare (ev_var (by walk_at "look")) ev_str cm_lt_str) (fun h5 => ?_) (fun h5 => ?_)
      · have e1 : aliasOf sys rel f r = (sys, rel) := by rw [e0, if_pos (show lt5 rel = true from h5)]
        rw [e1]
        exact ssc_ret (evc_of (ev_tuple (evs_cons (ev_var (by walk_at "look")) (evs_cons (ev_var (by walk_at "look")) (evs_cons (ev_var (by walk_at "look")) evs_nil))) (Nat.le_of_ble_eq_true rfl)))
      · have e1 : aliasOf sys rel f r = match PySem.intText? f with
          | some m => ("Solaris", Txt.join "." (Str.ofString (toString (m - 3)) :: r))
          | none => ("Solaris", rel) := by rw [e0, if_neg (by rw [show lt5 rel = false from h5]; decide)]
        refine ssc_own (evn_split (ev_var (by walk_at "look")) ev_str (by decide +kernel) (by omega)) (fun a ha hE1 hE2 hJ => ?_)
        rw [hsp]
        refine ssc_if (tr_unown ha upd_here (tr_val (ev_var (by walk_at "look")) (by show _ ≤ 16777216; simp only [List.map_cons, List.length_cons, List.length_map]; omega))) (fun ht => ?_) (fun ht => by cases ht)
        cases hn : PySem.intText? f with
        | none =>
          rw [hn] at e1
          refine ssc_try_fail ⟨_, rfl⟩ rfl (by kernel_rfl) (by kernel_rfl) (by kernel_rfl) (fails_assign (failsE_int (evv_builtin (by kernel_rfl) (by kernel_rfl) (by kernel_rfl)) (ev_unown ha upd_here (ev_item_lst (ev_var (by walk_at "look")) ev_int (by decide) (by decide) rfl) rfl) hf hn hrep)) (ρ₂ := _)
            (fun A' s Q E S q => wpAny_execs_cons (wpAny_Pass (wpAny_execs_nil (q s S)))) ?_
          refine ssc_disown ha upd_here ?_
          refine ssc_if (tr_compare (ev_var (by walk_at "look")) ev_str cm_lt_str) (fun _ => ?_) (fun _ => ?_)
          all_goals
            refine ssc_assign (evc_of ev_str) ?_
            rw [e1]
            exact ssc_ret (evc_of (ev_tuple (evs_cons (ev_var (by walk_at "look")) (evs_cons (ev_var (by walk_at "look")) (evs_cons (ev_var (by walk_at "look")) evs_nil))) (Nat.le_of_ble_eq_true rfl)))
        | some m =>
          rw [hn] at e1
          refine ssc_try_ok (ssc_assign (evc_of (ev_int_text (evv_builtin (by kernel_rfl) (by kernel_rfl) (by kernel_rfl)) (ev_unown (x := Str.ofString "l") ha (by walk_at "look") (ev_item_lst (ev_var (by walk_at "look")) ev_int (by decide) (by decide) rfl) rfl) hf hn)) (ssc_nil fun s S => ⟨rfl, S⟩))
            (ssc_assign (evc_of (ev_sub_int (ev_var (by walk_at "look")) ev_int)) (ssc_setitem (j := 0) (by walk_at "look") (ev_str_int (evv_builtin (by kernel_rfl) (by kernel_rfl) (by kernel_rfl)) (ev_var (by walk_at "look")) (hm m hn)) (Nat.zero_lt_succ _) (by decide) (.inr rfl) hE1 hE2 trivial hJ
              (ssc_assign (evc_of (ev_unown (x := Str.ofString "l") ha (by walk_at "look") (ev_join_lst (ts := Str.ofString (toString (m - 3)) :: r) ev_str (ev_var (by walk_at "look")) (hj m hn)) rfl)) (ssc_nil fun s S => ⟨rfl, S⟩)))) ?_
          refine ssc_disown (x := Str.ofString "l") ha (by walk_at "look") ?_
          refine ssc_if (tr_compare (ev_var (by walk_at "look")) ev_str cm_lt_str) (fun _ => ?_) (fun _ => ?_)
          all_goals
            refine ssc_assign (evc_of ev_str) ?_
            rw [e1]
            exact ssc_ret (evc_of (ev_tuple (evs_cons (ev_var (by walk_at "look")) (evs_cons (ev_var (by walk_at "look")) (evs_cons (ev_var (by walk_at "look")) evs_nil))) (Nat.le_of_ble_eq_true rfl)))
    · have e0 : aliasOf sys rel f r = if sys == "win32" || sys == "win16" then ((("Windows" : Str), rel) : Str × Str) else (sys, rel) := by unfold aliasOf; rw [if_neg (by rw [h]; decide)]
      refine ssc_if (tr_compare (ev_var (by walk_at "look")) (ev_tuple (evs_cons ev_str (evs_cons ev_str evs_nil)) (Nat.le_of_ble_eq_true rfl)) (cm_in_tup rfl rfl (by simpa [D.py, PyData.canLay0] using hok) (by decide +kernel) (by simp [D.py, PyData.depth]))) (fun h5 => ?_) (fun h5 => ?_)
      · have e1 : aliasOf sys rel f r = (("Windows" : Str), rel) := by
          rw [e0, if_pos]
          simp only [D.pys, D.py, List.any_cons, List.any_nil, PyData.eqv, Bool.or_false, Bool.or_eq_true, beq_iff_eq] at h5 ⊢
          rcases h5 with h5 | h5
          · exact .inl h5.symm
          · exact .inr h5.symm
        refine ssc_assign (evc_of ev_str) ?_
        rw [e1]
        exact ssc_ret (evc_of (ev_tuple (evs_cons (ev_var (by walk_at "look")) (evs_cons (ev_var (by walk_at "look")) (evs_cons (ev_var (by walk_at "look")) evs_nil))) (Nat.le_of_ble_eq_true rfl)))
      · have e1 : aliasOf sys rel f r = (sys, rel) := by
          rw [e0, if_neg]
          simp only [D.pys, D.py, List.any_cons, List.any_nil, PyData.eqv, Bool.or_false, Bool.or_eq_false_iff] at h5
          intro hh
          simp only [Bool.or_eq_true, beq_iff_eq] at hh
          rcases hh with rfl | rfl
          · exact absurd h5.1 (by decide +kernel)
          · exact absurd h5.2 (by decide +kernel)
        rw [e1]
        exact ssc_ret (evc_of (ev_tuple (evs_cons (ev_var (by walk_at "look")) (evs_cons (ev_var (by walk_at "look")) (evs_cons (ev_var (by walk_at "look")) evs_nil))) (Nat.le_of_ble_eq_true rfl)))
end Mine
end
section
open PySem PySem.W PyProof.Rows PySem.Calls
open Sem (wp)
set_option Elab.async false
set_option maxRecDepth 100000
set_option linter.unusedVariables false
namespace Mine

def txtOf : Value → Option Str
  | .str x _ => some x
  | _ => none
/-- a dict from texts to texts -/
def DicAt (w : World) (h : Heap) (a : Addr) (ks : List (Str × Str)) : Prop :=
  ∃ kvs : List (Str × Value), h.DictOf (PySem.strKind PR w) a kvs ∧ kvs.map (fun p => (p.1, txtOf p.2)) = ks.map fun p => (p.1, some p.2)
def Dic (w : World) (a : Addr) (ks : List (Str × Str)) : Side where
  P h := DicAt w h a ks
  N b := b = a
  M _ := True
  ok h b p n := by
    subst n
    obtain ⟨kvs, ⟨o, es, ep, e, ex, _⟩, _⟩ := p
    exact ⟨o, e, .inl (by rw [ex.1]; intro h; cases h)⟩
  ext h h' p n m := by
    obtain ⟨kvs, ⟨o, es, ep, e, ex, r⟩, q⟩ := p
    exact ⟨kvs, ⟨o, es, ep, (n a o e rfl).1 (by rw [ex.1]; intro h; injection h with h; exact absurd h (by decide)), ex, r⟩, q⟩
def getD2 (ks : List (Str × Str)) (k d : Str) : Str := ((ks.find? fun p => p.1 = k).map (·.2)).getD d
theorem valueAt_txt {k : Str} : ∀ {kvs : List (Str × Value)} {ks : List (Str × Str)}, kvs.map (fun p => (p.1, txtOf p.2)) = ks.map (fun p => (p.1, some p.2)) → (valueAt kvs k).map txtOf = ((ks.find? fun p => p.1 = k).map (·.2)).map some
  | [], [], _ => rfl
  | [], _ :: _, h => by simp at h
  | _ :: _, [], h => by simp at h
  | (a, v) :: kvs, (b, u) :: ks, h => by
    simp only [List.map_cons, List.cons.injEq, Prod.mk.injEq] at h
    obtain ⟨⟨rfl, h1⟩, h2⟩ := h
    have ih := valueAt_txt (k := k) h2
    unfold valueAt at ih ⊢
    by_cases hk : a = k
    · simp [List.find?_cons, hk, h1]
    · simpa [List.find?_cons, hk] using ih
theorem get_txt {k d : Str} {t : Tok} {kvs : List (Str × Value)} {ks : List (Str × Str)} (h : kvs.map (fun p => (p.1, txtOf p.2)) = ks.map (fun p => (p.1, some p.2))) : ∃ u, (valueAt kvs k).getD (.str d t) = .str (getD2 ks k d) u := by
  have := valueAt_txt (k := k) h
  unfold getD2
  cases e : valueAt kvs k with
  | none =>
    rw [e] at this
    cases e2 : (ks.find? fun p => p.1 = k) with
    | none => exact ⟨t, rfl⟩
    | some p => rw [e2] at this; simp at this
  | some v =>
    rw [e] at this
    cases e2 : (ks.find? fun p => p.1 = k) with
    | none => rw [e2] at this; simp at this
    | some p =>
      rw [e2] at this
      simp only [Option.map_some, Option.some.injEq] at this
      cases v <;> simp [txtOf] at this
      rename_i x u
      subst this
      exact ⟨u, rfl⟩

inductive SP : List (Option Expr) → List Expr → List (Str × Str) → Prop where
  | nil : SP [] [] []
  | cons {ks : List (Option Expr)} {vs : List Expr} {r : List (Str × Str)} {a b : Str} {ka kb : Nat} {pa pb : Pos} : SP ks vs r → SP (some (.Constant (.str a) ka pa) :: ks) (.Constant (.str b) kb pb :: vs) ((a, b) :: r)
theorem merged_new : ∀ (kvs acc : List (Str × Value)), (∀ p ∈ kvs, ∀ q ∈ acc, q.1 ≠ p.1) → (kvs.map (·.1)).Nodup → merged acc kvs = acc ++ kvs
  | [], acc, _, _ => by simp [merged]
  | (k, v) :: kvs, acc, h, nd => by
    have e : stored acc k v = acc ++ [(k, v)] := by
      unfold stored
      rw [if_neg]
      simp only [List.any_eq_true, decide_eq_true_eq, not_exists, not_and]
      exact fun q hq => h (k, v) List.mem_cons_self q hq
    show merged (stored acc k v) kvs = _
    simp only [List.map_cons, List.nodup_cons] at nd
    rw [e, merged_new kvs (acc ++ [(k, v)]) (fun p hp q hq => ?_) nd.2]
    · simp
    · rcases List.mem_append.mp hq with hq | hq
      · exact h p (List.mem_cons_of_mem _ hp) q hq
      · simp only [List.mem_singleton] at hq
        subst hq
        rintro rfl
        exact nd.1 (List.mem_map.mpr ⟨p, hp, rfl⟩)
theorem pairs_go {w : World} {A : Around} {E : Value → Shared → Prop} {env : Env} {pos : Pos} {keys : List (Option Expr)} {values : List Expr} {ks : List (Str × Str)} (hp : SP keys values ks) : ∀ {s : Shared} {Q : List (Value × Value) → Shared → Prop},
    (∀ vs kvs tk, Carries (PySem.strKind PR w) vs kvs → kvs.map (fun p => (p.1, txtOf p.2)) = ks.map (fun p => (p.1, some p.2)) → Q vs { s with toks := tk }) → wpAny (model PR w) A (evalPairs (pairTrees keys values env pos)) Q E s := by
  induction hp with
  | nil =>
    intro s Q q
    exact evalPairs_nil (q [] [] s.toks trivial rfl)
  | @cons ks vs r a b ka kb pa pb h ih =>
    intro s Q q
    rw [pairTrees]
    refine evalPairs_cons (wpAny_Constant_str (wpAny_bind (wpAny_Constant_str (wpAny_bind (wpAny_standAt (wpAny_pure (ih fun vs kvs tk hc ht => ?_)))))))
    exact q _ ((a, .str b (s.toks + 1)) :: kvs) tk ⟨strKind_is _ _ _ _, rfl, hc⟩ (by rw [List.map_cons, List.map_cons, ht]; rfl)
theorem SP.shape {keys : List (Option Expr)} {values : List Expr} {ks : List (Str × Str)} (h : SP keys values ks) : keys.all (·.isSome) = true ∧ keys.length = values.length ∧ keys.length = ks.length := by
  induction h with
  | nil => exact ⟨rfl, rfl, rfl⟩
  | cons h ih =>
    obtain ⟨h1, h2, h3⟩ := ih
    refine ⟨?_, ?_, ?_⟩
    · simpa using h1
    · simp only [List.length_cons, h2]
    · simp only [List.length_cons, h3]
theorem dict_make {w : World} {A : Around} {E : Value → Shared → Prop} {env : Env} {pos : Pos} {keys : List (Option Expr)} {values : List Expr} {ks : List (Str × Str)} {s : Shared} {Q : Value → Shared → Prop} (hp : SP keys values ks) (h0 : ks ≠ []) (hl : ks.length ≤ 15) (nd : (ks.map (·.1)).Nodup)
    (q : ∀ h' tk, DicAt w h' s.heap.objs.size ks → (∀ b o, s.heap.get? b = some o → h'.get? b = some o) → Q (.ref s.heap.objs.size) { s with heap := h', toks := tk }) : wpAny (model PR w) A (eval (.Dict keys values pos) env) Q E s := by
  obtain ⟨h1, h2, h3⟩ := hp.shape
  refine wpAny_Dict_walk (knd := PySem.strKind PR w) h1 h2 (by rintro rfl; exact h0 (List.length_eq_zero_iff.mp h3.symm)) (by omega) (pairs_go hp fun vs kvs tk hc ht => ?_)
  have hn : (kvs.map (·.1)) = ks.map (·.1) := by
    have := congrArg (List.map Prod.fst) ht
    simpa [List.map_map, Function.comp_def] using this
  refine ⟨kvs, hc, ⟨_, #[], 0, Heap.get?_push_size _ rfl, ⟨rfl, rfl, rfl⟩, rfl, ?_, ?_, ?_⟩, fun h' hd sb => ?_⟩
  · intro e he; simp at he
  · exact .nil
  · simp
  · rw [merged_new kvs [] (fun _ _ _ h => by cases h) (by rw [hn]; exact nd)] at hd
    refine q h' _ ⟨kvs, hd, ht⟩ fun b o e => ?_
    exact sb.extBut b o (Nat.ne_of_lt (Heap.lt_size e)) (Heap.get?_push_of_some _ e)
end Mine
end
section
open PySem PySem.W PyProof.Rows PySem.Calls
open Sem (wp)
set_option Elab.async false
set_option maxRecDepth 100000
set_option linter.unusedVariables false
namespace Mine
section
variable {X : Cx} {ρ : Str → Option D} {J : Side} {Φ : Flow → Shared → Prop} {rest : List Stmt}
theorem St.notMods {s : Shared} (S : St X ρ J s) : (s.heap.objs.size == sysModules) = false := by
  obtain ⟨ps, e⟩ := S.rd.hg.tab.tabne
  have h1 := Heap.lt_size e
  have h2 : sysModules < 61 := by decide
  exact beq_eq_false_iff_ne.mpr (fun h => by rw [h] at h1; exact absurd (Nat.lt_trans h2 h1) (Nat.lt_irrefl _))

theorem dict_get {A' : Around} {s : Shared} {pos : Pos} {a : Addr} {ks : List (Str × Str)} {k d : Str} {e f : Expr} {Q E : Value → Shared → Prop} (ha : (a == sysModules) = false) (hA : A' = X.A) (S : St X ρ J s) (hd : DicAt X.w s.heap a ks)
    (hk : ∀ s', Nx X.H₀ s s' → DicAt X.w s'.heap a ks)
    (he : Ev X ρ J e (.str k)) (hf : Ev X ρ J f (.str d)) (q : ∀ v s', Nx0 X.H₀ s s' → Rep X.F s'.heap v (.str (getD2 ks k d)) → Q v s') (hse : notStar e = true) (hsf : notStar f = true) :
    MethodOnS PR X.w X.A E "get" (.ref a) pos (backTo pos (starEach [e, f] X.env)) Q s := by
  obtain ⟨kvs, hD, ht⟩ := hd
  refine ⟨"dict", "dict.get", F.plainAttrs_dict, F.slot_dict_get, F.type_dict_get, hD.typeIs, hD.mapOf.noDict, ?_⟩
  have e2 : backTo pos (starEach [e, f] X.env) = [(false, eval e X.env), (false, eval f X.env)] := by
    rw [starEach_cons hse, starEach_cons hsf]; rfl
  rw [e2]
  refine wpAny_dict_get2 (knd := PySem.strKind PR X.w) ha (he.go s _ _ S fun v s₁ n₁ r₁ => hf.go s₁ _ _ (S.next n₁) fun u s₂ n₂ r₂ => ?_)
  obtain ⟨t, rfl⟩ := r₁.isStr
  obtain ⟨t', rfl⟩ := r₂.isStr
  obtain ⟨kvs₂, hD₂, ht₂⟩ := hk s₂ (n₁.trans n₂)
  obtain ⟨u, e⟩ := get_txt (k := k) (d := d) (t := t') ht₂
  refine ⟨k, _, strKind_is _ _ _ _, hD₂.mapOf, ?_⟩
  rw [e]
  exact q _ _ ((n₁.trans n₂).toNx0.trans .toks) (.str _ _)

/-- a dict of the frame's own, read -/
theorem ev_get {x : Str} {np ap cp : Pos} {a : Addr} {ks : List (Str × Str)} {k d : Str} {e f : Expr} (hx : ρ x = some (.obj a)) (ha : (a == sysModules) = false)
    (he : Ev X ρ ((Dic X.w a ks).and J) e (.str k)) (hf : Ev X ρ ((Dic X.w a ks).and J) f (.str d))
    (hd : (x == ("__debug__" : Str)) = false := by decide +kernel) (hc : (x == ("__classdict__" : Str)) = false := by decide +kernel) (hse : notStar e = true := by rfl) (hsf : notStar f = true := by rfl) (hline : (ap.endLine == cp.line) = true := by rfl) :
    Ev X ρ ((Dic X.w a ks).and J) (.Call (.Attribute (.Name x np) "get" ap) [e, f] [] cp) (.str (getD2 ks k d)) := by
  refine ev_of fun s Q E S q => ?_
  refine wpAny_Call_method_lateS (attrBase_plain rfl) (few_plain (es := [e, f]) (by simp [allPlain, hse, hsf]) (Nat.lt_of_sub_eq_succ rfl)) hline ((ev_var hx hd hc).go s _ _ S fun ov s₁ n₁ r₁ => ?_)
  cases r₁.isObj
  have S₁ := S.next n₁
  exact dict_get ha rfl S₁ S₁.side.1 (fun s' n => (S₁.next n).side.1) he hf (fun v s' n r => q v s' (n₁.toNx0.trans n) r) hse hsf
/-- a dict made and read at once -/
theorem ev_dict_get {keys : List (Option Expr)} {values : List Expr} {dp ap cp : Pos} {ks : List (Str × Str)} {k d : Str} {e f : Expr} (hp : SP keys values ks) (h0 : ks ≠ []) (hl : ks.length ≤ 15) (nd : (ks.map (·.1)).Nodup)
    (he : ∀ J, Ev X ρ J e (.str k)) (hf : ∀ J, Ev X ρ J f (.str d)) (hse : notStar e = true := by rfl) (hsf : notStar f = true := by rfl) (hline : (ap.endLine == cp.line) = true := by rfl) :
    Ev X ρ J (.Call (.Attribute (.Dict keys values dp) "get" ap) [e, f] [] cp) (.str (getD2 ks k d)) := by
  refine ev_of fun s Q E S q => ?_
  refine wpAny_Call_method_lateS (attrBase_plain rfl) (few_plain (es := [e, f]) (by simp [allPlain, hse, hsf]) (Nat.lt_of_sub_eq_succ rfl)) hline (wpAny_with_toks (Nat.le_refl s.toks) (dict_make hp h0 hl nd fun h' tk hD hk htk => ?_))
  have n₁ : Nx X.H₀ s { s with heap := h', toks := tk } := ⟨⟨.of_keep hk, rfl, id⟩, htk⟩
  have S₁ : St X ρ ((Dic X.w s.heap.objs.size ks).and J) { s with heap := h', toks := tk } := (S.next n₁).weak (fun _ _ e => e) ⟨hD, (S.next n₁).side⟩ fun h => h.elim (fun h => by
    obtain ⟨o, e⟩ := S.lcls
    have h : X.env.locals = s.heap.objs.size := h
    rw [h, none_of_size] at e; cases e) S.off
  exact dict_get S.notMods rfl S₁ hD (fun s' n => (S₁.next n).side.1) (he _) (hf _) (fun v s' n r => q v s' (n₁.toNx0.trans n) r) hse hsf
/-- a dict is made and named -/
theorem ssc_dict {x : Str} {p dp pos : Pos} {keys : List (Option Expr)} {values : List Expr} {ks : List (Str × Str)} (hp : SP keys values ks) (h0 : ks ≠ []) (hl : ks.length ≤ 15) (nd : (ks.map (·.1)).Nodup)
    (h : ∀ a, (a == sysModules) = false → SsC X (upd ρ x (.obj a)) ((Dic X.w a ks).and J) rest Φ) (hx : X.env.kindOf x = some .local := by kernel_rfl) : SsC X ρ J (.Assign [.Name x p] (.Dict keys values dp) pos :: rest) Φ := by
  refine ssc_exec fun s E S => wpC_of (wpAny_Assign_Name (wpAny_with_toks (Nat.le_refl s.toks) (dict_make hp h0 hl nd fun h' tk hD hk htk => ?_)) (swaps_plain rfl))
  have n₁ : Nx X.H₀ s { s with heap := h', toks := tk } := ⟨⟨.of_keep hk, rfl, id⟩, htk⟩
  have S₁ : St X ρ ((Dic X.w s.heap.objs.size ks).and J) { s with heap := h', toks := tk } := (S.next n₁).weak (fun _ _ e => e) ⟨hD, (S.next n₁).side⟩ fun h => h.elim (fun h => by
    obtain ⟨o, e⟩ := S.lcls
    have h : X.env.locals = s.heap.objs.size := h
    rw [h, none_of_size] at e; cases e) S.off
  exact store_local S₁ (.obj _) hx fun s₂ S₂ _ => (h _ S.notMods).go s₂ E S₂
end
end Mine
end
section
open PySem PySem.W PyProof.Rows PySem.Calls
open Sem (wp)
set_option Elab.async false
set_option maxRecDepth 100000
set_option linter.unusedVariables false
namespace Mine
section
variable {X : Cx} {ρ : Str → Option D} {J : Side} {Φ : Flow → Shared → Prop} {rest : List Stmt}
theorem ssc_extend {x : Str} {np ap cp pos : Pos} {e : Expr} {a : Addr} {ds es : List D} (hx : ρ x = some (.obj a)) (hv : Ev X ρ ((Own X.F a ds).and J) e (.tup es)) (hz : ds.length ≤ 1000000) (hz2 : es.length ≤ 1000)
    (hF : X.F a) (hE : X.sE.heap.get? a = none) (h0 : X.H₀.get? a = none) (hM : J.M a) (hN : ¬ J.N a) (h : SsC X ρ ((Own X.F a (ds ++ es)).and J) rest Φ)
    (hd : (x == ("__debug__" : Str)) = false := by decide +kernel) (hc : (x == ("__classdict__" : Str)) = false := by decide +kernel) (hs : notStar e = true := by rfl)
    (hline : (ap.endLine == cp.line) = true := by rfl) (hi : interactive X.env = false := by rfl) :
    SsC X ρ ((Own X.F a ds).and J) (.Expr (.Call (.Attribute (.Name x np) "extend" ap) [e] [] cp) pos :: rest) Φ := by
  refine ssc_exec fun s E S => wpC_of (wpAny_Expr_any ?_ hi)
  refine wpAny_Call_method_lateS (attrBase_plain rfl) (few_plain (es := [e]) (by simp [allPlain, hs]) (Nat.lt_of_sub_eq_succ rfl)) hline ((ev_var hx hd hc).go s _ _ S fun ov s₁ n₁ r₁ => ?_)
  cases r₁.isObj
  have S₁ := S.next n₁
  obtain ⟨vs₁, m₁, e₁, _⟩ := id S₁.side.1
  refine ⟨"list", "list.extend", F.plainAttrs_list, F.slot_list_extend, F.type_list_extend, (isList_of e₁).typeIs, (fun a' e' => by cases e'; exact ⟨_, e₁, rfl⟩), callWith_builtin (backTo_any (es := [e]) (by simp [allPlain, hs])) ?_⟩
  refine args_evs (evs_one hv hs) hs S₁ fun vs s₂ n₂ r₂ => ?_
  obtain ⟨v, rfl, r'⟩ := r₂.one
  obtain ⟨b, ws, m, rfl, hbF, eb, rb⟩ := r'.isTupF
  have S₂ := S₁.next n₂
  obtain ⟨us, n, ea, ra⟩ := id S₂.side.1
  have l1 := ra.length
  have l2 := rb.length
  show wpAny _ _ (call (.builtin "list.extend") [.ref a, .ref b]) _ _ _
  refine call_meets F.slot_list_extend (isList_of ea).typeIs F.entry_list_extend (F.args_list_extend_2 _ _) (AutoSeq1.list_extend_list_tuple_0 a us.toArray n b ws.toArray m ?_ ?_ ?_) ?_
  · simp only [Bool.and_eq_true, not_and, Bool.not_eq_true]
    intro _
    show decide (us.toArray.size + ws.toArray.size > 16777216) = false
    simp only [List.size_toArray, l1, l2]
    exact decide_eq_false (by omega)
  · show us.toArray.size ≤ 16777216
    rw [List.size_toArray, l1]; omega
  · show us.toArray.size + ws.toArray.size ≤ 16777216 + 1
    simp only [List.size_toArray, l1, l2]; omega
  · refine ⟨ea, eb, ?_⟩
    have x : Heap.ExtBut a s₂.heap (s₂.heap.update a (Obj.mapSeq fun x => x ++ ws.toArray)) := (Heap.SameBut.update ..).extBut
    have kk : ∀ b o, s₂.heap.get? b = some o → ¬ X.F b → o.cls = .type "tuple" ∨ o.cls = .type "list" → (∃ xs n, o.data = .seq xs n) → (s₂.heap.update a (Obj.mapSeq fun x => x ++ ws.toArray)).get? b = some o ∧ ¬ X.F b :=
      fun b o e f _ _ => ⟨x b o (by rintro rfl; exact f hF) e, f⟩
    have this := IsL.update (l := a) ea (fun x => x ++ ws.toArray)
    rw [List.append_toArray] at this
    exact h.go _ E (S₂.ownSet (tk := s₂.toks) (vs' := us ++ ws) hF hE h0 hM hN this x (Nat.le_refl _) ((ra.same kk).append (rb.same kk)))
end
end Mine
end
section
open PySem
set_option Elab.async false
set_option maxRecDepth 100000
set_option linter.unusedVariables false
namespace Mine
open PySem.Sre
def cod : Array Nat := #[14, 4, 0, 1, 4294967295, 17, 0, 7, 14, 24, 10, 1, 4294967295, 13, 5, 22, 48, 57, 0, 1, 15, 17, 15, 13, 11, 9, 0, 26624, 2147483648, 0, 0, 0, 0, 0, 0, 15, 2, 0, 17, 1, 1]
def fr0 (s : Nat) (first : Bool) : Sre.Frame := { wait := .nextStart, pc := 5, pos := s, outermost := first }
def mA (text : Array Nat) (lim s : Nat) (seen : Seen) (marks : Array (Option Nat)) (first must : Bool) : M :=
  { code := cod, text, lim, start := s, lastStart := lim, mustAdvance := must, pc := 5, pos := s, handed := s, outermost := first, marks, frames := [fr0 s first], weight := 1, seen }
theorem s1 (text : Array Nat) (lim s : Nat) (seen : Seen) (marks : Array (Option Nat)) (first must : Bool) :
    (mA text lim s seen marks first must).step = { mA text lim s (seen.add 17) (marks.setIfInBounds 0 (some s)) first must with pc := 7, lastmark := 0 } := by rfl
theorem s2 (text : Array Nat) (lim s : Nat) (seen : Seen) (marks : Array (Option Nat)) (first must : Bool) :
    ({ mA text lim s seen marks first must with pc := 7, lastmark := 0 } : M).step = { mA text lim s (seen.add 7) marks first must with pc := 9, lastmark := 0, frames := [{ wait := .nextBranch, pc := 8, pos := s, outermost := first, kept := { lastmark := 0 } }, fr0 s first], weight := 2 } := by rfl

def isD (c : Nat) : Bool := decide (48 ≤ c) && decide (c ≤ 57)
def isSep (c : Nat) : Bool := decide (c < 256) && (cod.getD (26 + c / 32) 0).testBit (c % 32)
theorem acc13 (c : Nat) (seen : Seen) : ∃ sn, accepts cod 13 c seen = .ok (isD c, sn) := by
  show ∃ sn, inSet cod c 41 15 true seen = .ok (isD c, sn)
  have e : inSet cod c 41 15 true seen = if (decide (48 ≤ c) && decide (c ≤ 57)) = true then .ok (true, seen.add 22) else .ok (false, (seen.add 22).add 0) := rfl
  rw [e]
  unfold isD
  cases (decide (48 ≤ c) && decide (c ≤ 57))
  · exact ⟨_, rfl⟩
  · exact ⟨_, rfl⟩
theorem acc23 (c : Nat) (seen : Seen) : ∃ sn, accepts cod 23 c seen = .ok (isSep c, sn) := by
  show ∃ sn, inSet cod c 41 25 true seen = .ok (isSep c, sn)
  have e : inSet cod c 41 25 true seen = if (decide (c < 256) && (cod.getD (25 + (1 + c / 32)) 0).testBit (c % 32)) = true then .ok (true, seen.add 9) else .ok (false, (seen.add 9).add 0) := rfl
  have e2 : 25 + (1 + c / 32) = 26 + c / 32 := by omega
  rw [e, e2]
  unfold isSep
  cases (decide (c < 256) && (cod.getD (26 + c / 32) 0).testBit (c % 32))
  · exact ⟨_, rfl⟩
  · exact ⟨_, rfl⟩
def dig (text : Array Nat) : Nat → Nat → Nat
  | _, 0 => 0
  | p, n + 1 => if isD (text.getD p 0) then dig text (p + 1) n + 1 else 0
theorem run13 (text : Array Nat) : ∀ (n p found : Nat) (seen : Seen), ∃ sn, Sre.run cod text 13 n p found seen = .ok (found + dig text p n, sn)
  | 0, p, found, seen => ⟨seen, rfl⟩
  | n + 1, p, found, seen => by
    obtain ⟨sn, e⟩ := acc13 (text.getD p 0) seen
    unfold Sre.run dig
    rw [e]
    show ∃ sn', (if isD (text.getD p 0) = true then Sre.run cod text 13 n (p + 1) (found + 1) sn else pure (found, sn)) = .ok (_, sn')
    cases h : isD (text.getD p 0)
    · exact ⟨sn, rfl⟩
    · obtain ⟨sn', e'⟩ := run13 text n (p + 1) (found + 1) sn
      refine ⟨sn', ?_⟩
      simp only [if_true]
      rw [e']
      congr 2
      omega
/-- an attempt, at the first alternative -/
def mB (text : Array Nat) (lim s : Nat) (seen : Seen) (marks : Array (Option Nat)) (first : Bool) : M :=
  { mA text lim s seen marks first false with pc := 9, lastmark := 0, frames := [{ wait := .nextBranch, pc := 8, pos := s, outermost := first, kept := { lastmark := 0 } }, fr0 s first], weight := 2 }
theorem toB (text : Array Nat) (lim s : Nat) (seen : Seen) (marks : Array (Option Nat)) (first : Bool) :
    M.runFor 2 (mA text lim s seen marks first false) = mB text lim s ((seen.add 17).add 7) (marks.setIfInBounds 0 (some s)) first := rfl
/-- what a search found -/
structure Hit (m : M) (s e : Nat) : Prop where
  out : m.outcome = some .matched
  st : m.start = s
  hd : m.handed = e
  mks : ∃ a : Array (Option Nat), a.size = 2 ∧ m.marks = (a.setIfInBounds 0 (some s)).setIfInBounds 1 (some e)
  lm : m.lastmark = 1
def mS (text : Array Nat) (lim s : Nat) (pc pos handed : Nat) (om : Bool) (marks : Array (Option Nat)) (lastmark lastindex : Int) (frames : List Sre.Frame) (weight : Nat) (answer : Option Bool) (seen : Seen) : M :=
  { code := cod, text, lim, start := s, lastStart := lim, pc, pos, handed, outermost := om, marks, lastmark, lastindex, frames, weight, answer, seen }
def fB (s : Nat) (first : Bool) : Sre.Frame := { wait := .nextBranch, pc := 8, pos := s, outermost := first, kept := { lastmark := 0 } }
def fG (s n : Nat) (first : Bool) : Sre.Frame := { wait := .giveBack, pc := 9, pos := s + n, outermost := first, count := n, kept := { lastmark := 0 } }
section
variable (text : Array Nat) (lim s n : Nat) (seen : Seen) (marks : Array (Option Nat)) (first : Bool)
theorem c0 : M.afterRun { mB text lim s seen marks first with pos := s + n } .giveBack n { lastmark := 0 } = mS text lim s 20 (s + n) (s + n) first marks 0 (-1) [fG s n first, fB s first, fr0 s first] 3 none seen := rfl
theorem c1 (p : Nat) (fs : List Sre.Frame) (w : Nat) : (mS text lim s 20 p p first marks 0 (-1) fs w none seen).step = mS text lim s 38 p p first marks 0 (-1) fs w none (seen.add 15) := rfl
theorem c2 (p : Nat) (fs : List Sre.Frame) (w : Nat) : (mS text lim s 38 p p first marks 0 (-1) fs w none seen).step = mS text lim s 40 p p first (marks.setIfInBounds 1 (some p)) 1 1 fs w none (seen.add 17) := by
  have h : (mS text lim s 38 p p first marks 0 (-1) fs w none seen).step = M.mark (mS text lim s 38 p p first marks 0 (-1) fs w none (seen.add 17)) 1 := rfl
  rw [h]
  simp only [M.mark, mS]
  rfl
theorem c3 (p : Nat) (fs : List Sre.Frame) (w : Nat) : (mS text lim s 40 p p first marks 1 1 fs w none seen).step = mS text lim s 40 p p first marks 1 1 fs w (some true) (seen.add 1) := by cases first <;> rfl
theorem c4 (pc q p : Nat) (om : Bool) (fs : List Sre.Frame) (w : Nat) : (mS text lim s pc q p om marks 1 1 (fG s n first :: fs) w (some true) seen).step = mS text lim s 9 (s + n) p first marks 1 1 fs (w - 1) (some true) seen := rfl
theorem c5 (pc q p : Nat) (om : Bool) (fs : List Sre.Frame) (w : Nat) : (mS text lim s pc q p om marks 1 1 (fB s first :: fs) w (some true) seen).step = mS text lim s 8 s p first marks 1 1 fs (w - 1) (some true) seen := rfl
theorem c6 (pc q p : Nat) (om : Bool) (fs : List Sre.Frame) (w : Nat) : (mS text lim s pc q p om marks 1 1 (fr0 s first :: fs) w (some true) seen).step = mS text lim s 5 s p first marks 1 1 fs (w - 1) (some true) seen := rfl
theorem c7 (pc q p : Nat) (om : Bool) (w : Nat) : (mS text lim s pc q p om marks 1 1 [] w (some true) seen).step = { mS text lim s pc q p om marks 1 1 [] w (some true) seen with outcome := some .matched } := rfl
end
end Mine
end
section
open PySem
set_option Elab.async false
set_option maxRecDepth 100000
set_option linter.unusedVariables false
namespace Mine
open PySem.Sre
theorem runFor_done {m : M} (h : m.outcome.isSome = true) : ∀ n, M.runFor n m = m
  | 0 => rfl
  | n + 1 => by rw [M.runFor, if_pos h]
theorem runFor_add (a b : Nat) : ∀ m : M, M.runFor (a + b) m = M.runFor b (M.runFor a m) := by
  induction a with
  | zero => intro m; rw [Nat.zero_add]; rfl
  | succ a ih =>
    intro m
    by_cases h : m.outcome.isSome = true
    · rw [runFor_done h, runFor_done h, runFor_done h]
    · rw [show a + 1 + b = (a + b) + 1 by omega, M.runFor, if_neg h, M.runFor, if_neg h, ih]
def Rch (m m' : M) : Prop := ∃ n, n ≤ 1000000 * 1000000 ∧ M.runFor n m = m'
/-- m comes to m' in at most n steps -/
def RchN (n : Nat) (m m' : M) : Prop := ∃ k, k ≤ n ∧ M.runFor k m = m'
theorem RchN.refl (m : M) : RchN 0 m m := ⟨0, Nat.le_refl _, rfl⟩
theorem RchN.trans {a b : Nat} {m m' m'' : M} (x : RchN a m m') (y : RchN b m' m'') : RchN (a + b) m m'' := by
  obtain ⟨i, hi, rfl⟩ := x
  obtain ⟨j, hj, rfl⟩ := y
  exact ⟨i + j, by omega, runFor_add i j m⟩
theorem RchN.step {m m' : M} (h : m.outcome = none) (e : m.step = m') : RchN 1 m m' := ⟨1, Nat.le_refl _, by rw [M.runFor, h]; simpa [M.runFor] using e⟩

theorem stepB (text : Array Nat) (lim s : Nat) (seen : Seen) (marks : Array (Option Nat)) (first : Bool) : (mB text lim s seen marks first).step =
      (if ((1 : Nat) : Int) > (lim : Int) - s then (mB text lim s (seen.add 24) marks first).say false else
        match Sre.run cod text 13 (min 4294967295 ((lim : Int) - s).toNat) s 0 ((seen.add 24).add 13) with
        | .error why => (mB text lim s (seen.add 24) marks first).stick why
        | .ok (n, seen) => if n < 1 then (mB text lim s seen marks first).say false else
          M.afterRun { mB text lim s seen marks first with pos := s + n } .giveBack n { lastmark := 0 }) := rfl
theorem c_hit (text : Array Nat) (lim s n : Nat) (seen : Seen) (marks : Array (Option Nat)) (first : Bool) (hm : marks.size = 2) :
    ∃ m', RchN 7 (mS text lim s 20 (s + n) (s + n) first (marks.setIfInBounds 0 (some s)) 0 (-1) [fG s n first, fB s first, fr0 s first] 3 none seen) m' ∧ Hit m' s (s + n) := by
  have r1 := RchN.step rfl (c1 text lim s seen (marks.setIfInBounds 0 (some s)) first (s + n) [fG s n first, fB s first, fr0 s first] 3)
  have r2 := RchN.step rfl (c2 text lim s (seen.add 15) (marks.setIfInBounds 0 (some s)) first (s + n) [fG s n first, fB s first, fr0 s first] 3)
  have r3 := RchN.step rfl (c3 text lim s ((seen.add 15).add 17) ((marks.setIfInBounds 0 (some s)).setIfInBounds 1 (some (s + n))) first (s + n) [fG s n first, fB s first, fr0 s first] 3)
  have r4 := RchN.step rfl (c4 text lim s n (((seen.add 15).add 17).add 1) ((marks.setIfInBounds 0 (some s)).setIfInBounds 1 (some (s + n))) first 40 (s + n) (s + n) first [fB s first, fr0 s first] 3)
  have r5 := RchN.step rfl (c5 text lim s (((seen.add 15).add 17).add 1) ((marks.setIfInBounds 0 (some s)).setIfInBounds 1 (some (s + n))) first 9 (s + n) (s + n) first [fr0 s first] 2)
  have r6 := RchN.step rfl (c6 text lim s (((seen.add 15).add 17).add 1) ((marks.setIfInBounds 0 (some s)).setIfInBounds 1 (some (s + n))) first 8 s (s + n) first [] 1)
  have r7 := RchN.step rfl (c7 text lim s (((seen.add 15).add 17).add 1) ((marks.setIfInBounds 0 (some s)).setIfInBounds 1 (some (s + n))) 5 s (s + n) first 0)
  exact ⟨_, (((((r1.trans r2).trans r3).trans r4).trans r5).trans r6).trans r7, rfl, rfl, rfl, ⟨marks, hm, rfl⟩, rfl⟩
theorem hit_digit (text : Array Nat) (lim s : Nat) (seen : Seen) (marks : Array (Option Nat)) (first : Bool) (hm : marks.size = 2) (hs : s < lim) (hl : lim ≤ 1000000) (hd : isD (text.getD s 0) = true) :
    ∃ m', RchN 8 (mB text lim s seen (marks.setIfInBounds 0 (some s)) first) m' ∧ Hit m' s (s + dig text s (lim - s)) := by
  obtain ⟨sn, er⟩ := run13 text (lim - s) s 0 ((seen.add 24).add 13)
  have hpos : 1 ≤ dig text s (lim - s) := by
    obtain ⟨k, hk⟩ : ∃ k, lim - s = k + 1 := ⟨lim - s - 1, by omega⟩
    rw [hk, dig, if_pos hd]; omega
  have e1 := stepB text lim s seen (marks.setIfInBounds 0 (some s)) first
  rw [if_neg (by omega), show min 4294967295 ((lim : Int) - s).toNat = lim - s by omega, er] at e1
  simp only [Nat.zero_add] at e1
  rw [if_neg (by omega), c0] at e1
  obtain ⟨m', r, h⟩ := c_hit text lim s (dig text s (lim - s)) sn marks first hm
  exact ⟨m', (RchN.step rfl e1).trans r, h⟩
end Mine
end
section
open PySem
set_option Elab.async false
set_option maxRecDepth 100000
set_option linter.unusedVariables false
namespace Mine
open PySem.Sre
def fB2 (s : Nat) (first : Bool) : Sre.Frame := { wait := .nextBranch, pc := 22, pos := s, outermost := first, kept := { lastmark := 0 } }
section
variable (text : Array Nat) (lim s : Nat) (seen : Seen) (marks : Array (Option Nat)) (first : Bool)
theorem d0 : (mB text lim s seen marks first).say false = mS text lim s 9 s s first marks 0 (-1) [fB s first, fr0 s first] 2 (some false) seen := rfl
theorem d1 : (mS text lim s 9 s s first marks 0 (-1) [fB s first, fr0 s first] 2 (some false) seen).step = mS text lim s 23 s s first marks 0 (-1) [fB2 s first, fr0 s first] 2 none seen := rfl
theorem d2 : (mS text lim s 23 s s first marks 0 (-1) [fB2 s first, fr0 s first] 2 none seen).step =
    if s ≥ lim then mS text lim s 23 s s first marks 0 (-1) [fB2 s first, fr0 s first] 2 (some false) (seen.add 13) else
    match accepts cod 23 (text.getD s 0) (seen.add 13) with
    | .error why => (mS text lim s 23 s s first marks 0 (-1) [fB2 s first, fr0 s first] 2 none (seen.add 13)).stick why
    | .ok (false, seen) => mS text lim s 23 s s first marks 0 (-1) [fB2 s first, fr0 s first] 2 (some false) seen
    | .ok (true, seen) => mS text lim s 35 (s + 1) s first marks 0 (-1) [fB2 s first, fr0 s first] 2 none seen := rfl
theorem d3 : (mS text lim s 23 s s first marks 0 (-1) [fB2 s first, fr0 s first] 2 (some false) seen).step = mS text lim s 22 s s first marks 0 (-1) [fr0 s first] 1 (some false) seen := rfl
theorem d4 (h : s < lim) : (mS text lim s 22 s s first marks 0 (-1) [fr0 s first] 1 (some false) seen).step = mA text lim (s + 1) seen marks false false := by
  have e : (mS text lim s 22 s s first marks 0 (-1) [fr0 s first] 1 (some false) seen).step = if s < lim then mA text lim (s + 1) seen marks false false else mS text lim s 5 s s first marks 0 (-1) [] 0 (some false) seen := rfl
  rw [e, if_pos h]
theorem d5 (h : ¬ s < lim) : (mS text lim s 22 s s first marks 0 (-1) [fr0 s first] 1 (some false) seen).step = mS text lim s 5 s s first marks 0 (-1) [] 0 (some false) seen := by
  have e : (mS text lim s 22 s s first marks 0 (-1) [fr0 s first] 1 (some false) seen).step = if s < lim then mA text lim (s + 1) seen marks false false else mS text lim s 5 s s first marks 0 (-1) [] 0 (some false) seen := rfl
  rw [e, if_neg h]
theorem d6 : (mS text lim s 5 s s first marks 0 (-1) [] 0 (some false) seen).step = { mS text lim s 5 s s first marks 0 (-1) [] 0 (some false) seen with outcome := some .failed } := rfl
theorem g1 (fs : List Sre.Frame) (w : Nat) : (mS text lim s 35 (s + 1) s first marks 0 (-1) fs w none seen).step = mS text lim s 38 (s + 1) s first marks 0 (-1) fs w none (seen.add 15) := rfl
theorem g2 (fs : List Sre.Frame) (w : Nat) : (mS text lim s 38 (s + 1) s first marks 0 (-1) fs w none seen).step = mS text lim s 40 (s + 1) s first (marks.setIfInBounds 1 (some (s + 1))) 1 1 fs w none (seen.add 17) := by
  have h : (mS text lim s 38 (s + 1) s first marks 0 (-1) fs w none seen).step = M.mark (mS text lim s 38 (s + 1) s first marks 0 (-1) fs w none (seen.add 17)) 1 := rfl
  rw [h]
  simp only [M.mark, mS]
  rfl
theorem g3 (fs : List Sre.Frame) (w : Nat) : (mS text lim s 40 (s + 1) s first marks 1 1 fs w none seen).step = mS text lim s 40 (s + 1) (s + 1) first marks 1 1 fs w (some true) (seen.add 1) := by cases first <;> rfl
theorem g5 (pc q p : Nat) (om : Bool) (fs : List Sre.Frame) (w : Nat) : (mS text lim s pc q p om marks 1 1 (fB2 s first :: fs) w (some true) seen).step = mS text lim s 22 s p first marks 1 1 fs (w - 1) (some true) seen := rfl
end
theorem g_hit (text : Array Nat) (lim s : Nat) (seen : Seen) (marks : Array (Option Nat)) (first : Bool) (hm : marks.size = 2) :
    ∃ m', RchN 6 (mS text lim s 35 (s + 1) s first (marks.setIfInBounds 0 (some s)) 0 (-1) [fB2 s first, fr0 s first] 2 none seen) m' ∧ Hit m' s (s + 1) := by
  have r1 := RchN.step rfl (g1 text lim s seen (marks.setIfInBounds 0 (some s)) first [fB2 s first, fr0 s first] 2)
  have r2 := RchN.step rfl (g2 text lim s (seen.add 15) (marks.setIfInBounds 0 (some s)) first [fB2 s first, fr0 s first] 2)
  have r3 := RchN.step rfl (g3 text lim s ((seen.add 15).add 17) ((marks.setIfInBounds 0 (some s)).setIfInBounds 1 (some (s + 1))) first [fB2 s first, fr0 s first] 2)
  have r5 := RchN.step rfl (g5 text lim s (((seen.add 15).add 17).add 1) ((marks.setIfInBounds 0 (some s)).setIfInBounds 1 (some (s + 1))) first 40 (s + 1) (s + 1) first [fr0 s first] 2)
  have r6 := RchN.step rfl (c6 text lim s (((seen.add 15).add 17).add 1) ((marks.setIfInBounds 0 (some s)).setIfInBounds 1 (some (s + 1))) first 22 s (s + 1) first [] 1)
  have r7 := RchN.step rfl (c7 text lim s (((seen.add 15).add 17).add 1) ((marks.setIfInBounds 0 (some s)).setIfInBounds 1 (some (s + 1))) 5 s (s + 1) first 0)
  exact ⟨_, ((((r1.trans r2).trans r3).trans r5).trans r6).trans r7, rfl, rfl, rfl, ⟨marks, hm, rfl⟩, rfl⟩
end Mine
end
section
open PySem
set_option Elab.async false
set_option maxRecDepth 100000
set_option linter.unusedVariables false
namespace Mine
open PySem.Sre
def fnd (text : Array Nat) (lim : Nat) : Nat → Nat → Option (Nat × Nat)
  | 0, _ => none
  | k + 1, s => if isD (text.getD s 0) then some (s, s + dig text s (lim - s)) else if isSep (text.getD s 0) then some (s, s + 1) else fnd text lim k (s + 1)
def Ends (m : M) : Option (Nat × Nat) → Prop
  | some (a, b) => Hit m a b
  | none => m.outcome = some .failed
theorem miss (text : Array Nat) (lim s : Nat) (seen : Seen) (marks : Array (Option Nat)) (first : Bool) (hl : lim ≤ 1000000) (hd : s < lim → isD (text.getD s 0) = false) :
    ∃ sn, RchN 4 (mA text lim s seen marks first false) (mS text lim s 23 s s first (marks.setIfInBounds 0 (some s)) 0 (-1) [fB2 s first, fr0 s first] 2 none sn) := by
  have e1 := stepB text lim s ((seen.add 17).add 7) (marks.setIfInBounds 0 (some s)) first
  have r0 : RchN 2 (mA text lim s seen marks first false) (mB text lim s ((seen.add 17).add 7) (marks.setIfInBounds 0 (some s)) first) := ⟨2, Nat.le_refl _, toB text lim s seen marks first⟩
  by_cases hs : s < lim
  · obtain ⟨sn, er⟩ := run13 text (lim - s) s 0 ((((seen.add 17).add 7).add 24).add 13)
    have h0 : dig text s (lim - s) = 0 := by
      obtain ⟨k, hk⟩ : ∃ k, lim - s = k + 1 := ⟨lim - s - 1, by omega⟩
      rw [hk, dig, if_neg (by rw [hd hs]; decide)]
    rw [if_neg (by omega), show min 4294967295 ((lim : Int) - s).toNat = lim - s by omega, er, h0] at e1
    simp only [Nat.zero_add] at e1
    rw [if_pos (by omega), d0] at e1
    exact ⟨sn, (r0.trans (RchN.step rfl e1)).trans (RchN.step rfl (d1 text lim s sn (marks.setIfInBounds 0 (some s)) first))⟩
  · rw [if_pos (by omega), d0] at e1
    exact ⟨_, (r0.trans (RchN.step rfl e1)).trans (RchN.step rfl (d1 text lim s _ (marks.setIfInBounds 0 (some s)) first))⟩
theorem search (text : Array Nat) (lim : Nat) (hl : lim ≤ 1000000) : ∀ (k s : Nat) (seen : Seen) (marks : Array (Option Nat)) (first : Bool), lim - s = k → s ≤ lim → marks.size = 2 →
    ∃ m', RchN (20 * (k + 1)) (mA text lim s seen marks first false) m' ∧ Ends m' (fnd text lim k s) := by
  intro k
  induction k with
  | zero =>
    intro s seen marks first hk hs hm
    obtain ⟨sn, r⟩ := miss text lim s seen marks first hl (fun h => by omega)
    have e2 := d2 text lim s sn (marks.setIfInBounds 0 (some s)) first
    rw [if_pos (by omega)] at e2
    have r2 := RchN.step rfl e2
    have r3 := RchN.step rfl (d3 text lim s (sn.add 13) (marks.setIfInBounds 0 (some s)) first)
    have r4 := RchN.step rfl (d5 text lim s (sn.add 13) (marks.setIfInBounds 0 (some s)) first (by omega))
    have r5 := RchN.step rfl (d6 text lim s (sn.add 13) (marks.setIfInBounds 0 (some s)) first)
    obtain ⟨n, hn, e⟩ := (((r.trans r2).trans r3).trans r4).trans r5
    exact ⟨_, ⟨n, by omega, e⟩, rfl⟩
  | succ k ih =>
    intro s seen marks first hk hs hm
    have hs' : s < lim := by omega
    have r0 : RchN 2 (mA text lim s seen marks first false) (mB text lim s ((seen.add 17).add 7) (marks.setIfInBounds 0 (some s)) first) := ⟨2, Nat.le_refl _, toB text lim s seen marks first⟩
    unfold fnd
    cases hd : isD (text.getD s 0) with
    | true =>
      obtain ⟨m', r, h⟩ := hit_digit text lim s ((seen.add 17).add 7) marks first hm hs' hl hd
      obtain ⟨n, hn, e⟩ := r0.trans r
      exact ⟨m', ⟨n, by omega, e⟩, h⟩
    | false =>
      obtain ⟨sn, r⟩ := miss text lim s seen marks first hl (fun _ => hd)
      have e2 := d2 text lim s sn (marks.setIfInBounds 0 (some s)) first
      obtain ⟨sn2, ea⟩ := acc23 (text.getD s 0) (sn.add 13)
      rw [if_neg (by omega), ea] at e2
      cases hp : isSep (text.getD s 0) with
      | true =>
        rw [hp] at e2
        obtain ⟨m', r2, h⟩ := g_hit text lim s sn2 marks first hm
        obtain ⟨n, hn, e⟩ := (r.trans (RchN.step rfl e2)).trans r2
        exact ⟨m', ⟨n, by omega, e⟩, h⟩
      | false =>
        rw [hp] at e2
        have r3 := RchN.step rfl (d3 text lim s sn2 (marks.setIfInBounds 0 (some s)) first)
        have r4 := RchN.step rfl (d4 text lim s sn2 (marks.setIfInBounds 0 (some s)) first hs')
        obtain ⟨m', r5, h⟩ := ih (s + 1) sn2 (marks.setIfInBounds 0 (some s)) false (by omega) (by omega) (by simpa using hm)
        obtain ⟨n, hn, e⟩ := (((r.trans (RchN.step rfl e2)).trans r3).trans r4).trans r5
        exact ⟨m', ⟨n, by omega, e⟩, h⟩
end Mine
end
section
open PySem PySem.W PyProof.Rows PySem.Calls
set_option Elab.async false
set_option maxRecDepth 100000
set_option linter.unusedVariables false
namespace Mine
section
variable {w : World} {A : Around} {E : Value → Shared → Prop} {s : Shared}
theorem drive_go {Q : Sre.M → Shared → Prop} : ∀ (turns n : Nat) (m m' : Sre.M), n ≤ 4 * turns → 0 < turns → Sre.M.runFor n m = m' → m'.outcome.isSome = true → Q m' s → wpAny (model PR w) A (Builtin.Re.reDrive turns m) Q E s
  | 0, n, m, m', h, h0, e, ho, q => absurd h0 (Nat.lt_irrefl _)
  | turns + 1, n, m, m', h, h0, e, ho, q => by
    rw [Builtin.Re.reDrive]
    show wpAny (model PR w) A (if (m.runFor 4).outcome.isSome = true then pure (m.runFor 4) else do rule "sre.turn"; Builtin.Re.reDrive turns (m.runFor 4)) Q E s
    by_cases hd : (m.runFor 4).outcome.isSome = true
    · rw [if_pos hd]
      refine wpAny_pure ?_
      have : m.runFor 4 = m' := by
        rcases Nat.le_total n 4 with h4 | h4
        · rw [show (4 : Nat) = n + (4 - n) by omega, runFor_add, e, runFor_done ho]
        · rw [← e, show n = 4 + (n - 4) by omega, runFor_add, runFor_done hd]
      rw [this]; exact q
    · rw [if_neg hd]
      refine wpAny_bind (wpAny_rule ?_)
      have hn : 4 < n := by
        rcases Nat.lt_or_ge 4 n with h4 | h4
        · exact h4
        · exfalso
          apply hd
          rw [show (4 : Nat) = n + (4 - n) by omega, runFor_add, e, runFor_done ho]
          exact ho
      refine drive_go turns (n - 4) (m.runFor 4) m' (by omega) (by omega) ?_ ho q
      rw [← runFor_add, show 4 + (n - 4) = n by omega, e]
theorem names_go {m : Sre.M} {Q : PUnit → Shared → Prop} : ∀ (l : List Nat), Q ⟨⟩ s → wpAny (model PR w) A (forIn l PUnit.unit fun i r => do
    if m.seen.has i = true then do rule (Sre.names.getD i ""); pure (ForInStep.yield PUnit.unit) else pure (ForInStep.yield PUnit.unit)) Q E s
  | [], q => wpAny_pure q
  | i :: l, q => by
    rw [List.forIn_cons]
    refine wpAny_bind ?_
    cases m.seen.has i with
    | true => exact wpAny_bind (wpAny_rule (wpAny_pure (names_go l q)))
    | false => exact wpAny_pure (names_go l q)
theorem run_end {m m' : Sre.M} {n : Nat} {r : Option (Nat × Nat)} {Q : Option Sre.M → Shared → Prop} (hn : n ≤ 2 ^ 64) (hr : RchN n m m') (he : Ends m' r) (q : Q (r.map fun _ => m') s) : wpAny (model PR w) A (Builtin.Re.reRunToEnd m) Q E s := by
  obtain ⟨k, hk, e⟩ := hr
  have ho : m'.outcome.isSome = true := by
    cases r with
    | none => have : m'.outcome = some .failed := he; rw [this]; rfl
    | some p => have := Hit.out (show Hit m' p.1 p.2 from he); rw [this]; rfl
  unfold Builtin.Re.reRunToEnd
  refine wpAny_bind (drive_go (2 ^ 64) k m m' (by omega) (by decide) e ho ?_)
  refine wpAny_bind (names_go _ ?_)
  cases r with
  | none => have h : m'.outcome = some .failed := he; rw [h]; exact wpAny_pure q
  | some p => have h := Hit.out (show Hit m' p.1 p.2 from he); rw [h]; exact wpAny_pure q
end
end Mine
end
section
open PySem PySem.W PyProof.Rows PySem.Calls
set_option Elab.async false
set_option maxRecDepth 100000
set_option linter.unusedVariables false
namespace Mine
/-- the cuts of a split, and where the last piece begins -/
def plan (text : Array Nat) (lim : Nat) : Nat → Nat → List (Nat × Nat) × Nat
  | 0, p => ([], p)
  | k + 1, p => match fnd text lim (lim - p) p with
    | none => ([], p)
    | some (a, b) => ((p, a) :: (a, b) :: (plan text lim k b).1, (plan text lim k b).2)
theorem fnd_range (text : Array Nat) (lim : Nat) : ∀ (k s a b : Nat), lim - s = k → fnd text lim k s = some (a, b) → s ≤ a ∧ a < b ∧ b ≤ lim := by
  intro k
  induction k with
  | zero => intro s a b _ h; cases h
  | succ k ih =>
    intro s a b hk h
    unfold fnd at h
    have hdig : ∀ n p, dig text p n ≤ n := by
      intro n
      induction n with
      | zero => intro p; exact Nat.le_refl _
      | succ n ih => intro p; unfold dig; split; have := ih (p + 1); omega; omega
    split at h
    · rename_i hd
      cases h
      have h1 := hdig (lim - s) s
      have h2 : 1 ≤ dig text s (lim - s) := by rw [hk, dig, if_pos hd]; omega
      omega
    · split at h
      · cases h; omega
      · have := ih (s + 1) a b (by omega) h; omega
def slice (text : Array Nat) (c : Nat × Nat) : Str := ⟨text.extract c.1 c.2⟩

open PySem.Sre in
theorem forSearch_lt (text : Array Nat) (lim p : Nat) (h : p < lim) : Sre.forSearch cod text 1 p lim false = mA text lim p (({} : Sre.Seen).add 14) (Array.replicate 2 none) true false := by
  have e : Sre.forSearch cod text 1 p lim false = if (decide (p > lim) || decide (lim - p < 1)) = true then (mS text lim p 5 p p true (Array.replicate 2 none) (-1) (-1) [] 0 (some false) (({} : Sre.Seen).add 14) |> fun m => { m with lastStart := 0 }) else mA text lim p (({} : Sre.Seen).add 14) (Array.replicate 2 none) true false := rfl
  rw [e, if_neg (by simp; omega)]
open PySem.Sre in
theorem forSearch_end (text : Array Nat) (lim : Nat) : ∃ m, Sre.forSearch cod text 1 lim lim false = m ∧ ∃ m', RchN 1 m m' ∧ m'.outcome = some .failed := by
  have e : Sre.forSearch cod text 1 lim lim false = if (decide (lim > lim) || decide (lim - lim < 1)) = true then (mS text lim lim 5 lim lim true (Array.replicate 2 none) (-1) (-1) [] 0 (some false) (({} : Sre.Seen).add 14) |> fun m => { m with lastStart := 0 }) else mA text lim lim (({} : Sre.Seen).add 14) (Array.replicate 2 none) true false := rfl
  rw [if_pos (by simp)] at e
  exact ⟨_, e, _, RchN.step rfl rfl, rfl⟩
end Mine
end
section
open PySem PySem.W PyProof.Rows PySem.Calls
set_option Elab.async false
set_option maxRecDepth 100000
set_option linter.unusedVariables false
namespace Mine
open Builtin.Re

def tg (x : Str) (t : Tok) : ReTarget := { pattern := .ref 36, string := .str x t, code := cod, text := x.cps, kind := 0, groups := 1, pos := 0, lim := x.cps.size }
abbrev SpSt := Array Value × Nat × Nat × Bool × Int × Bool
def spBody (a : ReTarget) : SpSt → Sem (ForInStep SpSt) := fun __s =>
  if (!__s.snd.snd.snd.snd.snd) = true then do
    let __do_lift ←
      if ((0 : Int) != 0 && decide (__s.snd.snd.snd.snd.fst ≥ 0)) = true then pure none
        else reNextFound a __s.snd.fst __s.snd.snd.snd.fst
    match __do_lift with
      | none =>
        pure
          (ForInStep.yield
            (__s.fst, __s.snd.fst, __s.snd.snd.fst, __s.snd.snd.snd.fst, __s.snd.snd.snd.snd.fst, true))
      | some m => do
        let __do_lift ← reSlice a.text a.kind __s.snd.snd.fst m.start
        let __s_1 ←
          forIn (List.range a.groups) (__s.fst.push __do_lift) fun g __s => do
              let __do_lift ← reMachineGroup a m (g + 1) (pure Value.none)
              pure (ForInStep.yield (__s.push __do_lift))
        pure
            (ForInStep.yield
              (__s_1, m.handed, m.handed, m.handed == m.start, __s.snd.snd.snd.snd.fst + 1,
                __s.snd.snd.snd.snd.snd))
  else
    pure
      (ForInStep.yield
        (__s.fst, __s.snd.fst, __s.snd.snd.fst, __s.snd.snd.snd.fst, __s.snd.snd.snd.snd.fst,
          __s.snd.snd.snd.snd.snd))

theorem spBody_over (a : ReTarget) (out : Array Value) (p l : Nat) (mu : Bool) (n : Int) : spBody a (out, p, l, mu, n, true) = pure (.yield (out, p, l, mu, n, true)) := rfl
theorem spBody_go (a : ReTarget) (out : Array Value) (p l : Nat) (mu : Bool) (n : Int) : spBody a (out, p, l, mu, n, false) = (do
    let r ← reNextFound a p mu
    match r with
      | none => pure (.yield (out, p, l, mu, n, true))
      | some m => do
        let v ← reSlice a.text a.kind l m.start
        let o ← forIn (List.range a.groups) (out.push v) fun g __s => do
              let __do_lift ← reMachineGroup a m (g + 1) (pure Value.none)
              pure (ForInStep.yield (__s.push __do_lift))
        pure (.yield (o, m.handed, m.handed, m.handed == m.start, n + 1, false))) := rfl
section
variable {w : World} {A : Around} {E : Value → Shared → Prop}
theorem sp_over {a : ReTarget} : ∀ (l : List Nat) (st : SpSt) {s : Shared} {Q : SpSt → Shared → Prop}, st.2.2.2.2.2 = true → Q st s → wpAny (model PR w) A (forIn l st fun _ b => spBody a b) Q E s
  | [], st, s, Q, h, q => wpAny_pure q
  | i :: l, (o, p, la, mu, n, ov), s, Q, h, q => by
    cases h
    rw [List.forIn_cons, spBody_over]
    exact wpAny_bind (wpAny_pure (sp_over l _ rfl q))

theorem found_go {x : Str} {t : Tok} {p : Nat} {s : Shared} {Q : Option Sre.M → Shared → Prop} (hl : x.cps.size ≤ 1000000) (hp : p ≤ x.cps.size)
    (q : ∀ m', Ends m' (fnd x.cps x.cps.size (x.cps.size - p) p) → Q ((fnd x.cps x.cps.size (x.cps.size - p) p).map fun _ => m') s) :
    wpAny (model PR w) A (reNextFound (tg x t) p false) Q E s := by
  show wpAny (model PR w) A (reRunToEnd (Sre.forSearch cod x.cps 1 p x.cps.size false)) Q E s
  rcases Nat.lt_or_eq_of_le hp with h | h
  · rw [forSearch_lt _ _ _ h]
    obtain ⟨m', r, e⟩ := search x.cps x.cps.size hl (x.cps.size - p) p (({} : Sre.Seen).add 14) (Array.replicate 2 none) true rfl hp (by simp)
    have h1 : 20 * (x.cps.size - p + 1) ≤ 20 * 1000001 := Nat.mul_le_mul_left _ (by omega)
    have h2 : 20 * 1000001 ≤ 2 ^ 64 := by decide
    have h3 := Nat.le_trans h1 h2
    clear h1 h2
    generalize 20 * (x.cps.size - p + 1) = N at r h3
    have q' := q m' e
    clear q
    generalize fnd x.cps x.cps.size (x.cps.size - p) p = R at e q'
    generalize mA x.cps x.cps.size p (({} : Sre.Seen).add 14) (Array.replicate 2 none) true false = M at r ⊢
    exact run_end h3 r e q'
  · subst h
    obtain ⟨m, e, m', r, ho⟩ := forSearch_end x.cps x.cps.size
    rw [e]
    have ee : fnd x.cps x.cps.size (x.cps.size - x.cps.size) x.cps.size = none := by rw [Nat.sub_self]; rfl
    rw [ee] at q
    exact run_end (r := none) (by decide) r ho (q m' ho)

theorem group_go {x : Str} {t : Tok} {m : Sre.M} {a b : Nat} {s : Shared} {Q : Array Value → Shared → Prop} {out : Array Value} (h : Hit m a b) (hab : a < b) (hl : x.cps.size ≤ 1000000)
    (q : Q (out.push (.str (slice x.cps (a, b)) s.toks)) { s with toks := s.toks + 1 }) :
    wpAny (model PR w) A (forIn (List.range (tg x t).groups) out fun g __s => do
              let __do_lift ← reMachineGroup (tg x t) m (g + 1) (pure Value.none)
              pure (ForInStep.yield (__s.push __do_lift))) Q E s := by
  show wpAny (model PR w) A (forIn [0] out fun g __s => do
              let __do_lift ← reMachineGroup (tg x t) m (g + 1) (pure Value.none)
              pure (ForInStep.yield (__s.push __do_lift))) Q E s
  rw [List.forIn_cons]
  refine wpAny_bind (wpAny_bind ?_)
  unfold reMachineGroup
  obtain ⟨mk, hs, e⟩ := h.mks
  have e0 : m.marks.getD 0 none = some a := by
    rw [e]; simp [Array.getD_eq_getD_getElem?, Array.getElem?_setIfInBounds, hs]
  have e1 : m.marks.getD 1 none = some b := by
    rw [e]; simp [Array.getD_eq_getD_getElem?, Array.getElem?_setIfInBounds, hs]
  rw [if_neg (by rw [h.lm]; decide)]
  show wpAny (model PR w) A (match m.marks.getD 0 none, m.marks.getD 1 none with
    | some b, some e => if e < b then reWrongSpan else reSlice (tg x t).text (tg x t).kind b e
    | _, _ => pure .none) _ E s
  rw [e0, e1]
  dsimp only
  rw [if_neg (by omega)]
  refine wpAny_mkStr ?_ ?_
  · exact wpAny_pure (wpAny_pure q)
  · show (x.cps.extract a b).size ≤ 16777216
    rw [Array.size_extract]; omega

theorem sp_loop {x : Str} {t : Tok} (hl : x.cps.size ≤ 1000000) : ∀ (l : List Nat) (p : Nat) (out : List (Str × Tok)) (n : Int) {s : Shared} {Q : SpSt → Shared → Prop}, p ≤ x.cps.size → x.cps.size - p < l.length →
    (∀ (l' : List (Str × Tok)) tk st m' n', l'.map (·.1) = (plan x.cps x.cps.size l.length p).1.map (slice x.cps) →
      Q ((strValues (out ++ l')).toArray, st, (plan x.cps x.cps.size l.length p).2, m', n', true) { s with toks := tk }) →
    wpAny (model PR w) A (forIn l ((strValues out).toArray, p, p, false, n, false) fun _ b => spBody (tg x t) b) Q E s
  | [], p, out, n, s, Q, hp, hk, q => absurd hk (Nat.not_lt_zero _)
  | i :: l, p, out, n, s, Q, hp, hk, q => by
    rw [List.forIn_cons, spBody_go]
    refine wpAny_bind (wpAny_bind ?_)
    refine found_go hl hp fun m' hm => ?_
    simp only [List.length_cons] at q hk
    cases hf : fnd x.cps x.cps.size (x.cps.size - p) p with
    | none =>
      rw [hf] at hm
      dsimp only [Option.map_none]
      refine wpAny_pure (sp_over l _ rfl ?_)
      have e : plan x.cps x.cps.size (l.length + 1) p = ([], p) := by rw [plan, hf]
      rw [e] at q
      have := q [] s.toks p false n rfl
      simpa using this
    | some ab =>
      obtain ⟨a, b⟩ := ab
      rw [hf] at hm
      obtain ⟨r1, r2, r3⟩ := fnd_range _ _ _ _ _ _ rfl hf
      have hm : Hit m' a b := hm
      dsimp only [Option.map_some]
      refine wpAny_bind ?_
      show wpAny (model PR w) A (mkStr ⟨x.cps.extract p m'.start⟩) _ E s
      rw [hm.st]
      refine wpAny_mkStr (wpAny_bind ?_) (by show (x.cps.extract p a).size ≤ 16777216; rw [Array.size_extract]; omega)
      refine group_go hm r2 hl (wpAny_pure ?_)
      have e : plan x.cps x.cps.size (l.length + 1) p = ((p, a) :: (a, b) :: (plan x.cps x.cps.size l.length b).1, (plan x.cps x.cps.size l.length b).2) := by rw [plan, hf]
      rw [e] at q
      rw [hm.hd]
      have hba : (b == a) = false := beq_eq_false_iff_ne.mpr (by omega)
      rw [hba]
      dsimp only
      have ea : (((strValues out).toArray.push (.str ⟨x.cps.extract p a⟩ s.toks)).push (.str (slice x.cps (a, b)) (s.toks + 1))) = (strValues (out ++ [(slice x.cps (p, a), s.toks), (slice x.cps (a, b), s.toks + 1)])).toArray := by
        simp [strValues, slice]
      rw [ea]
      refine sp_loop hl l b _ _ r3 (by omega) fun l' tk st m' n' hl' => ?_
      have := q ((slice x.cps (p, a), s.toks) :: (slice x.cps (a, b), s.toks + 1) :: l') tk st m' n' (by simp [hl'])
      simpa using this

def pieces (x : Str) : List Str := (plan x.cps x.cps.size (2 * x.cps.size + 3) 0).1.map (slice x.cps) ++ [slice x.cps ((plan x.cps x.cps.size (2 * x.cps.size + 3) 0).2, x.cps.size)]

theorem plan_len (text : Array Nat) (lim : Nat) : ∀ k p, lim ≤ 1000000 → p ≤ lim → (plan text lim k p).1.length ≤ 2 * (lim - p)
  | 0, p, _, _ => by simp [plan]
  | k + 1, p, h, hp => by
    rw [plan]
    cases hf : fnd text lim (lim - p) p with
    | none => simp
    | some ab =>
      obtain ⟨a, b⟩ := ab
      obtain ⟨r1, r2, r3⟩ := fnd_range _ _ _ _ _ _ rfl hf
      have := plan_len text lim k b h r3
      simp only [List.length_cons]
      omega

theorem raw_code : (#[Value.int 14 0, Value.int 4 0, Value.int 0 0, Value.int 1 0, Value.int 4294967295 0, Value.int 17 0,
                  Value.int 0 0, Value.int 7 0, Value.int 14 0, Value.int 24 0, Value.int 10 0, Value.int 1 0,
                  Value.int 4294967295 0, Value.int 13 0, Value.int 5 0, Value.int 22 0, Value.int 48 0, Value.int 57 0,
                  Value.int 0 0, Value.int 1 0, Value.int 15 0, Value.int 17 0, Value.int 15 0, Value.int 13 0,
                  Value.int 11 0, Value.int 9 0, Value.int 0 0, Value.int 26624 0, Value.int 2147483648 0,
                  Value.int 0 0, Value.int 0 0, Value.int 0 0, Value.int 0 0, Value.int 0 0, Value.int 0 0,
                  Value.int 15 0, Value.int 2 0, Value.int 0 0, Value.int 17 0, Value.int 1 0, Value.int 1 0].map reRawOf).map (·.toNat) = cod := by decide +kernel

theorem target_go {x : Str} {t : Tok} {s : Shared} {Q : ReTarget → Shared → Prop} (hK : (KF w).In s.heap) (q : Q (tg x t) s) : wpAny (model PR w) A (reWholeTarget (.ref 36) (.str x t)) Q E s := by
  unfold reWholeTarget
  refine wpAny_bind (wpAny_fieldsOf (hK 36 _ rfl) rfl ?_)
  refine wpAny_bind (wpAny_pure (a := (x.cps, 0)) ?_)
  dsimp only
  simp only [reRawNat]
  refine wpAny_bind (m := reNoCollectionInside (.str x t) 0) (wpAny_pure (a := ()) ?_)
  refine wpAny_bind (wpAny_bind (wpAny_seqItems (hK 35 _ rfl) rfl (wpAny_pure ?_)))
  refine wpAny_pure ?_
  have e := raw_code
  unfold reRawOf at e ⊢
  dsimp only [Option.getD_some]
  rw [e]
  exact q

theorem split_go {s : Shared} {Q : Fin → Shared → Prop} {x : Str} {t : Tok} (hK : (KF w).In s.heap) (hl : x.cps.size ≤ 1000000)
    (q : ∀ (l : List (Str × Tok)) tk, l.map (·.1) = pieces x → Q (.done (.ret (.ref s.heap.objs.size))) { s with toks := tk, heap := s.heap.push { cls := .type "list", data := .seq (strValues l).toArray } }) :
    wpAny (model PR w) A (Builtin.«re.Pattern.split» ⟨[.ref 36, .str x t], []⟩) Q E s := by
  unfold Builtin.«re.Pattern.split»
  dsimp only
  refine wpAny_bind ?_
  have e : reNamed "re.Pattern.split" "split" ["string", "maxsplit"] 1 [.str x t] [] = pure [some (.str x t), none] := rfl
  rw [e]
  refine wpAny_pure ?_
  dsimp only
  refine wpAny_bind (wpAny_pure ?_)
  refine wpAny_bind (target_go hK ?_)
  refine wpAny_bind ?_
  have hm : reMostMatches (tg x t) = 2 * x.cps.size + 3 := rfl
  rw [hm]
  refine sp_loop (l := List.range (2 * x.cps.size + 3)) (out := []) (p := 0) (n := 0) hl (Nat.zero_le _) (by rw [List.length_range]; omega) fun l' tk st m' n' hl' => ?_
  rw [List.length_range] at hl' ⊢
  simp only [Bool.not_true, Bool.false_eq_true, if_false]
  refine wpAny_bind ?_
  show wpAny (model PR w) A (mkStr ⟨x.cps.extract (plan x.cps x.cps.size (2 * x.cps.size + 3) 0).2 x.cps.size⟩) _ E _
  refine wpAny_mkStr (wpAny_bind ?_) (by show (x.cps.extract _ _).size ≤ 16777216; rw [Array.size_extract]; omega)
  have hlen := plan_len x.cps x.cps.size (2 * x.cps.size + 3) 0 hl (Nat.zero_le _)
  have hlen' : l'.length = (plan x.cps x.cps.size (2 * x.cps.size + 3) 0).1.length := by have := congrArg List.length hl'; simpa using this
  refine wpAny_newList (wpAny_pure ?_) ?_
  · have := q (l' ++ [(slice x.cps ((plan x.cps x.cps.size (2 * x.cps.size + 3) 0).2, x.cps.size), tk)]) (tk + 1) (by simp [hl', pieces])
    simpa [strValues, slice] using this
  · show _ ≤ 16777216
    simp [strValues]
    omega
end
end Mine
end
section
open PySem PySem.W PyProof.Rows PySem.Calls
set_option Elab.async false
set_option maxRecDepth 100000
set_option linter.unusedVariables false
namespace Mine
theorem plainAttrs_pat : PlainAttrs "re.Pattern" :=
  ⟨⟨"object.__getattribute__", by rw [typeLookup_type, builtinLookup_eq_fast]; kernel_rfl, by decide +kernel⟩, by rw [typeLookup_type, builtinLookup_eq_fast]; kernel_rfl⟩
theorem slot_pat_split : Slot "re.Pattern" "split" "re.Pattern.split" :=
  .of (owner := "re.Pattern") (n := "split") (by rw [typeLookup_type, builtinLookup_eq_fast]; kernel_rfl) (by decide +kernel) (by decide +kernel) (by decide +kernel)
    (by first | exact .inl (by decide +kernel) | exact .inr (by decide +kernel)) (by rw [isSubtype_type]; kernel_rfl)
theorem type_pat_split : typeOf (.builtin "re.Pattern.split") = pure (.type "method_descriptor") := by show builtinType _ = _; rw [builtinType_eq_fast]; kernel_rfl
theorem entry_pat_split : entryFor table "re.Pattern.split" = some Builtin.«re.Pattern.split» := entryFor_of_tree (by kernel_rfl)
theorem args_pat_split (a b : Value) : argsOk "re.Pattern.split" ⟨[a, b], []⟩ := by
  unfold argsOk; kernel_rfl

section
variable {X : Cx} {ρ : Str → Option D} {J : Side}
theorem ev_obj {x : Str} {pos : Pos} {a : Addr} (h : EvV X ρ J (.Name x pos) (.ref a)) : Ev X ρ J (.Name x pos) (.obj a) :=
  ⟨fun s Q E S q => h.go s Q E S fun s' n => q _ s' n (.obj a)⟩
theorem ev_resplit {o e : Expr} {apos pos : Pos} {x : Str} (ho : Ev X ρ J o (.obj 36)) (he : Ev X ρ J e (.str x)) (hz : x.cps.size ≤ 1000000)
    (hs : notStar e = true := by rfl) (hbase : plainBase o = true := by rfl) (hline : (apos.endLine == pos.line) = true := by rfl) (hp : allPlain [e] = true := by rfl) :
    Ev X ρ J (.Call (.Attribute o "split" apos) [e] [] pos) (.lst ((pieces x).map .str)) := by
  refine ev_of fun s Q E S q => ?_
  refine wpAny_Call_method_lateS (attrBase_plain hbase) (few_plain hp (Nat.lt_of_sub_eq_succ rfl)) hline (ho.go s _ _ S fun ov s₁ n₁ r₁ => ?_)
  cases r₁.isObj
  have S₁ := S.next n₁
  have K₁ := S₁.rd.hg.kin S₁.rd.B
  refine ⟨"re.Pattern", "re.Pattern.split", plainAttrs_pat, slot_pat_split, type_pat_split, ⟨_, K₁ 36 _ rfl, rfl⟩, (fun a' e' => by cases e'; exact ⟨_, K₁ 36 _ rfl, rfl⟩), callWith_builtin (backTo_any (es := [e]) (by simp [allPlain, hs])) ?_⟩
  refine args_evs (evs_one he hs) hs S₁ fun vs s₂ n₂ r₂ => ?_
  obtain ⟨v, rfl, r'⟩ := r₂.one
  obtain ⟨t, rfl⟩ := r'.isStr
  have S₂ := S₁.next n₂
  have K₂ := S₂.rd.hg.kin S₂.rd.B
  show wpAny _ _ (call (.builtin "re.Pattern.split") [.ref 36, .str x t]) _ _ _
  refine wpAny_call (codeAny_call_builtin slot_pat_split.plain entry_pat_split (slot_pat_split.check _ _ _ _ _ _ _ _ ⟨_, K₂ 36 _ rfl, rfl⟩ (args_pat_split _ _) ?_))
  refine split_go K₂ hz fun l tk hl => ?_
  refine q _ _ ((n₁.trans n₂).toNx0.trans (.of_keep fun b o e => Heap.get?_push_of_some _ e)) ?_
  rw [← hl]
  exact .lst S₂.live.new (Heap.get?_push_size _ rfl) (strs_reps l)
end
end Mine
end
section
open PySem PySem.W PyProof.Rows PySem.Calls PySem.NumText
open Sem (wp)
set_option Elab.async false
set_option maxRecDepth 100000
set_option linter.unusedVariables false
namespace Mine
local macro_rules | `(tactic| walk_at "look") => `(tactic| first | exact upd_here | exact upd_there (by decide +kernel) (by walk_at "look") | assumption)
section
variable {X : Cx} {ρ : Str → Option D} {J : Side} {Φ : Flow → Shared → Prop} {rest : List Stmt}
theorem ssc_weakJ {J' : Side} {sts : List Stmt} (h : ∀ h, J.P h → J'.P h) (hN : ∀ a, J'.N a → J.N a) (hs : SsC X ρ J' sts Φ) : SsC X ρ J sts Φ :=
  ⟨fun s E S => hs.go s E (S.weak (fun _ _ e => e) (h _ S.side) fun n => S.off (hN _ n))⟩
end

/-- what a piece of a split version counts -/
def rk (v : Str) : List D :=
  if v == "" || v == "." || v == "_" || v == "+" || v == "-" then [] else
  match PySem.intText? v with
  | some n => [.int 100, .int n]
  | none => if v == "rc" then [.int 50, .str v] else if v == "pl" then [.int 200, .str v] else [.int 0, .str v]
def isIn (v : Str) : Bool := !(Builtin.Str.occurrences "._+-" v 0 (Str.length "._+-") 1).isEmpty
structure TokA (v : Str) : Prop where
  i : isIn v = true
  r : rk v = []
structure TokB (v : Str) (n : Int) : Prop where
  i : isIn v = false
  l : v.length ≤ 640
  e : PySem.intText? v = some n
  r : rk v = [.int 100, .int n]
structure TokC (v : Str) (n : Int) : Prop where
  i : isIn v = false
  l : v.length ≤ 640
  e : PySem.intText? v = none
  rp : (reprText v).length ≤ 1000
  r : rk v = [.int n, .str v]
  st : ∃ x, (∀ w, nsIn (KF w) 37 v = some x) ∧ ((x = none ∧ n = 0) ∨ ∃ t, x = some (.int n t))
def TokOk (v : Str) : Prop := TokA v ∨ (∃ n, TokB v n) ∨ ∃ n, TokC v n
def seps : List Str := ["", ".", "_", "+", "-"]
def nums : List (Str × Int) := [("5", 5), ("08", 8), ("12", 12), ("60", 60), ("0", 0), ("2", 2), ("57", 57), ("8", 8)]
def wrds : List (Str × Int) := [("rc", 50), ("pl", 200), ("SunOS", 0), ("Linux", 0), ("Solaris", 0), ("Windows", 0)]
def tokL : List Str := seps ++ nums.map (·.1) ++ wrds.map (·.1)
theorem tok_seps : ∀ v ∈ seps, TokA v := by
  intro v hv
  have h1 : ∀ v ∈ seps, isIn v = true := by decide +kernel
  have h2 : ∀ v ∈ seps, (v == "" || v == "." || v == "_" || v == "+" || v == "-") = true := by decide +kernel
  exact ⟨h1 v hv, by unfold rk; rw [if_pos (h2 v hv)]⟩
theorem tok_nums : ∀ p ∈ nums, TokB p.1 p.2 := by
  intro p hp
  have h1 : ∀ p ∈ nums, isIn p.1 = false := by decide +kernel
  have h2 : ∀ p ∈ nums, (p.1 == "" || p.1 == "." || p.1 == "_" || p.1 == "+" || p.1 == "-") = false := by decide +kernel
  have h3 : ∀ p ∈ nums, p.1.length ≤ 640 := by decide +kernel
  have h4 : ∀ p ∈ nums, PySem.intText? p.1 = some p.2 := by decide +kernel
  exact ⟨h1 p hp, h3 p hp, h4 p hp, by unfold rk; rw [if_neg (by rw [h2 p hp]; decide), h4 p hp]⟩
theorem tok_wrds : ∀ p ∈ wrds, TokC p.1 p.2 := by
  intro p hp
  have h1 : ∀ p ∈ wrds, isIn p.1 = false := by decide +kernel
  have h2 : ∀ p ∈ wrds, (p.1 == "" || p.1 == "." || p.1 == "_" || p.1 == "+" || p.1 == "-") = false := by decide +kernel
  have h3 : ∀ p ∈ wrds, p.1.length ≤ 640 := by decide +kernel
  have h4 : ∀ p ∈ wrds, PySem.intText? p.1 = none := by decide +kernel
  have h5 : ∀ p ∈ wrds, (reprText p.1).length ≤ 1000 := by decide +kernel
  have h6 : ∀ p ∈ wrds, (if p.1 == "rc" then (50 : Int) else if p.1 == "pl" then 200 else 0) = p.2 := by decide +kernel
  refine ⟨h1 p hp, h3 p hp, h4 p hp, h5 p hp, ?_, ?_⟩
  · unfold rk
    rw [if_neg (by rw [h2 p hp]; decide), h4 p hp]
    have := h6 p hp
    revert this
    cases p.1 == ("rc" : Str) <;> cases p.1 == ("pl" : Str) <;> simp <;> rintro rfl <;> rfl
  · simp only [wrds, List.mem_cons, List.not_mem_nil, or_false] at hp
    rcases hp with rfl | rfl | rfl | rfl | rfl | rfl
    · exact ⟨some (.int 50 346), fun w => by kernel_rfl, .inr ⟨_, rfl⟩⟩
    · exact ⟨some (.int 200 348), fun w => by kernel_rfl, .inr ⟨_, rfl⟩⟩
    all_goals exact ⟨none, fun w => by kernel_rfl, .inl ⟨rfl, rfl⟩⟩
theorem tok_ok {v : Str} (h : v ∈ tokL) : TokOk v := by
  unfold tokL at h
  simp only [List.mem_append, List.mem_map] at h
  rcases h with (h | ⟨p, h, rfl⟩) | ⟨p, h, rfl⟩
  · exact .inl (tok_seps v h)
  · exact .inr (.inl ⟨_, tok_nums p h⟩)
  · exact .inr (.inr ⟨_, tok_wrds p h⟩)

/-- the stages' dict, read in a handler -/
theorem stage_go {X : Cx} {ρ : Str → Option D} {J : Side} {A' : Around} {s : Shared} {Q : Value → Shared → Prop} {E : Value → Shared → Prop} {v : Str} {n : Int} {np ap vp kp cp : Pos} {k : Nat} (h : TokC v n) (S : St X ρ J s) (hv : ρ (Str.ofString "v") = some (.str v))
    (hg : nsIn (KF X.w) mainGlobals (Str.ofString "_ver_stages") = some (some (.ref 37))) (hx : X.env.kindOf (Str.ofString "_ver_stages") = some .globalImplicit) (hline : (ap.endLine == cp.line) = true)
    (hvl : X.env.kindOf (Str.ofString "v") = some .local)
    (q : ∀ t tk, s.toks ≤ tk → Q (.int n t) { s with toks := tk }) :
    wpAny (model PR X.w) A' (eval (.Call (.Attribute (.Name (Str.ofString "_ver_stages") np) (Str.ofString "get") ap) [.Name (Str.ofString "v") vp, .Constant (.int 0) k kp] [] cp) X.env) Q E s := by
  obtain ⟨mg, g⟩ := S.rd.B.g
  have g' : s.heap.Ns X.env.globals mg := by rw [S.eg]; exact ns_hg g S.rd.hg (by decide)
  refine wpAny_Call_method_lateS (attrBase_plain rfl) (few_plain rfl (Nat.lt_of_sub_eq_succ rfl)) hline (Name_function_global S.ek hx (loadGlobal_global g' (mg_of S.rd.B.K g hg) ?_) (by decide +kernel))
  have K := S.rd.hg.kin S.rd.B
  have hM := mapOf_K (prog := PR) (w := X.w) (a := 37) K rfl (by repeat (first | exact trivial | refine ⟨⟨_, _, rfl, rfl⟩, ?_⟩))
  refine ⟨"dict", "dict.get", F.plainAttrs_dict, F.slot_dict_get, F.type_dict_get, hM.typeIs, hM.noDict, ?_⟩
  refine wpAny_dict_get2 (knd := PySem.strKind PR X.w) (by decide +kernel) ?_
  obtain ⟨mv, ns, vs⟩ := S.vars
  obtain ⟨val, hval, r⟩ := vs _ _ hv
  obtain ⟨t, rfl⟩ := r.isStr
  rcases hval with ⟨_, e⟩ | ⟨k | k, _⟩
  · refine wpAny_Name (wpAny_loadName_local S.ek hvl ns e (wpAny_Constant_int (k := k) (pos := kp) ?_)) (by decide +kernel)
    obtain ⟨x, hx, hc⟩ := h.st
    refine ⟨v, _, strKind_is _ _ _ _, hM, ?_⟩
    dsimp only
    rw [find_K (K := KF X.w) (a := 37) rfl (hx X.w)]
    rcases hc with ⟨rfl, rfl⟩ | ⟨u, rfl⟩
    · exact q _ _ (by omega)
    · exact q _ _ (by omega)
  · rw [hvl] at k; cases k
  · rw [hvl] at k; cases k
end Mine
end
section
open PySem PySem.W PyProof.Rows PySem.Calls PySem.NumText
open Sem (wp)
set_option Elab.async false
set_option maxRecDepth 100000
set_option linter.unusedVariables false
namespace Mine
local macro_rules | `(tactic| walk_at "look") => `(tactic| first | exact upd_here | exact upd_there (by decide +kernel) (by walk_at "look") | assumption)
theorem rk_len (v : Str) : (rk v).length ≤ 2 := by
  unfold rk
  split
  · simp
  · split
    · simp
    · split
      · simp
      · split <;> simp
theorem flat_len {α : Type} (f : α → List D) (h : ∀ x, (f x).length ≤ 2) : ∀ l : List α, (l.flatMap f).length ≤ 2 * l.length
  | [] => by simp
  | a :: l => by
    have := flat_len f h l
    have := h a
    simp only [List.flatMap_cons, List.length_append, List.length_cons]
    omega

theorem St.reown {X : Cx} {ρ : Str → Option D} {K : Side} {s : Shared} {a : Addr} {pre post : List D} (S : St X ρ ((Own X.F a pre).and K) s) (e : pre = post) : St X ρ (((Own X.F a post).and .triv).and K) s := by
  subst e
  exact S.weak (fun _ _ e => e) ⟨⟨S.side.1, trivial⟩, S.side.2⟩ fun n => S.off (n.elim (fun n => n.elim .inl fun n => n.elim) .inr)

theorem fn_cv (w : World) (H₀ : Heap) (x : Str) (hx : x.cps.size ≤ 100000) (hp : (pieces x).length ≤ 300000) (ht : ∀ v ∈ pieces x, TokOk v) :
    FnC w H₀ (.ref 44) 1 [.str x] (.lst ((pieces x).flatMap rk)) := by
  refine fnc_body (k := 0) [Str.ofString "version"] (fun _ => .triv) rfl rfl rfl ⟨_, _, _, _, rfl, rfl, rfl, rfl⟩ rfl rfl rfl rfl rfl rfl rfl (fun vs h => ?_) (fun _ _ => trivial) (fun A sE F _ _ n hn => ?_) (fun A sE F hE hF => ?_)
  · match vs, h with
    | [v], _ => kernel_rfl
  · simp only [List.mem_singleton] at hn
    subst hn
    exact stores_local (by kernel_rfl)
  · dsimp only [bindAll, List.zip, List.zipWith]
    refine ssc_assign (evc_of (ev_obj (a := 36) (evv_glob (by kernel_rfl) (by kernel_rfl)))) ?_
    refine ssc_own evn_nil (fun a ha hE1 hE2 hJ => ?_)
    refine ssc_for (ds := (pieces x).map .str) (fun i ρ' J' => J' = (Own (fun b => F b ∨ b = a) a (((pieces x).take i).flatMap rk)).and .triv ∧ ρ' (Str.ofString "result") = some (.obj a))
      (evit_lst (ev_resplit (ev_var (by walk_at "look")) (ev_var (by walk_at "look")) (by omega))) ⟨rfl, upd_here⟩ (fun i ρ' J' h b n => by cases h.1; exact n) ?_ ?_
    · rintro i d ρ' J' K hM hN hd ⟨rfl, hR⟩
      rw [List.getElem?_map] at hd
      cases hv : (pieces x)[i]? with
      | none => rw [hv] at hd; cases hd
      | some v =>
        rw [hv] at hd
        cases hd
        have hmem := List.mem_of_getElem? hv
        have htake : (pieces x).take (i + 1) = (pieces x).take i ++ [v] := by rw [List.take_add_one, hv]; rfl
        have hlen : (((pieces x).take i).flatMap rk).length ≤ 1000000 := by
          have := flat_len rk rk_len ((pieces x).take i)
          rw [List.length_take] at this
          omega
        refine ⟨_, as_name (by kernel_rfl), ?_⟩
        refine ssc_weakJ (J' := (Own (fun b => F b ∨ b = a) a (((pieces x).take i).flatMap rk)).and K) (fun h p => ⟨p.1.1, p.2⟩) (fun b n => n.elim (fun n => .inl (.inl n)) .inr) ?_
        have fin : ∀ (o : List D), rk v = o → ((pieces x).take i).flatMap rk ++ o = ((pieces x).take (i + 1)).flatMap rk := by
          rintro o rfl
          rw [htake, List.flatMap_append]
          simp
        refine ssc_if (tr_compare (ev_var (by walk_at "look")) ev_str cm_notin_str) (fun h => ?_) (fun h => ?_)
        · rcases ht v hmem with t | ⟨n, t⟩ | ⟨n, t⟩
          · have := t.i; unfold isIn at this; rw [this] at h; cases h
          · refine ssc_try_ok (ssc_assign (evc_of (ev_int_text2 (evv_builtin (by kernel_rfl) (by kernel_rfl) (by kernel_rfl)) (ev_var (by walk_at "look")) ev_int t.l t.e)) (ssc_assign (evc_of ev_int) (ssc_nil fun s S => ⟨rfl, S⟩))) (ssc_nil fun s S => ⟨rfl, S⟩) ?_
            refine ssc_extend (by walk_at "look") (ev_tuple (evs_cons (ev_var (by walk_at "look")) (evs_cons (ev_var (by walk_at "look")) evs_nil)) (Nat.le_of_ble_eq_true rfl)) hlen (Nat.le_of_ble_eq_true rfl) (.inr rfl) hE1 hE2 (hM a (.inr rfl)) (hN a (.inr rfl)) ?_
            exact ssc_nil fun s S => ⟨_, _, ⟨rfl, by walk_at "look"⟩, S.reown (fin _ t.r)⟩
          · refine ssc_try_fail ⟨_, rfl⟩ rfl (by kernel_rfl) (by kernel_rfl) (by kernel_rfl) (fails_assign (failsE_int2 (evv_builtin (by kernel_rfl) (by kernel_rfl) (by kernel_rfl)) (ev_var (by walk_at "look")) ev_int t.l t.e t.rp)) (ρ₂ := upd (upd ρ' (Str.ofString "v") (.str v)) (Str.ofString "t") (.int n))
              (fun A' s Q E S q => ?_) ?_
            · refine wpAny_execs_cons (wpAny_Assign_Name (stage_go t S upd_here (by kernel_rfl) (by kernel_rfl) (by rfl) (by kernel_rfl) fun u tk htk => ?_) (swaps_plain rfl))
              exact store_local (S.next ⟨⟨.refl _ _, rfl, id⟩, htk⟩) (.int n u) (by kernel_rfl) fun s₂ S₂ _ => wpAny_execs_nil (q s₂ S₂)
            · refine ssc_extend (by walk_at "look") (ev_tuple (evs_cons (ev_var (by walk_at "look")) (evs_cons (ev_var (by walk_at "look")) evs_nil)) (Nat.le_of_ble_eq_true rfl)) hlen (Nat.le_of_ble_eq_true rfl) (.inr rfl) hE1 hE2 (hM a (.inr rfl)) (hN a (.inr rfl)) ?_
              exact ssc_nil fun s S => ⟨_, _, ⟨rfl, by walk_at "look"⟩, S.reown (fin _ t.r)⟩
        · have h0 : rk v = [] := by
            rcases ht v hmem with t | ⟨n, t⟩ | ⟨n, t⟩
            · exact t.r
            · have := t.i; unfold isIn at this; rw [this] at h; cases h
            · have := t.i; unfold isIn at this; rw [this] at h; cases h
          refine ssc_nil fun s S => ⟨_, _, ⟨rfl, by walk_at "look"⟩, S.reown (by rw [← fin [] h0, List.append_nil])⟩
    · rintro ρ' J' ⟨rfl, hR⟩
      refine ssc_disown ha hR ?_
      refine ssc_ret (evc_of (ev_var ?_))
      have e : (pieces x).take ((pieces x).map D.str).length = pieces x := by rw [List.length_map, List.take_length]
      rw [e]
      exact upd_here
end Mine
end
section
open PySem PySem.W PyProof.Rows PySem.Calls PySem.NumText
open Sem (wp)
set_option Elab.async false
set_option maxRecDepth 100000
set_option linter.unusedVariables false
namespace Mine
/-! facts of map and filter -/
theorem mro_map : mroOf (.type "map") = pure [.type "map", .type "object"] := by rw [mroOf_type]; kernel_rfl
theorem lookup_map_new : typeLookup (.type "map") "__new__" = pure (some (.builtin "map.__new__")) := by rw [typeLookup_type, builtinLookup_eq_fast]; kernel_rfl
theorem slot_map_init : Slot "map" "__init__" "object.__init__" :=
  .of (owner := "object") (n := "__init__") (by rw [typeLookup_type, builtinLookup_eq_fast]; kernel_rfl) (by decide +kernel) (by decide +kernel) (by decide +kernel)
    (by first | exact .inl (by decide +kernel) | exact .inr (by decide +kernel)) (by rw [isSubtype_type]; kernel_rfl)
theorem slot_map_iter : Slot "map" "__iter__" "map.__iter__" :=
  .of (owner := "map") (n := "__iter__") (by rw [typeLookup_type, builtinLookup_eq_fast]; kernel_rfl) (by decide +kernel) (by decide +kernel) (by decide +kernel)
    (by first | exact .inl (by decide +kernel) | exact .inr (by decide +kernel)) (by rw [isSubtype_type]; kernel_rfl)
theorem slot_map_next : Slot "map" "__next__" "map.__next__" :=
  .of (owner := "map") (n := "__next__") (by rw [typeLookup_type, builtinLookup_eq_fast]; kernel_rfl) (by decide +kernel) (by decide +kernel) (by decide +kernel)
    (by first | exact .inl (by decide +kernel) | exact .inr (by decide +kernel)) (by rw [isSubtype_type]; kernel_rfl)
theorem called_map : TypeCalled "map" "map.__new__" "object.__init__" :=
  ⟨by decide +kernel, by decide +kernel, ⟨_, _, mro_map⟩, madeBy_type mro_map lookup_map_new (by decide +kernel), by decide +kernel, by rw [isSubtype_type]; kernel_rfl, slot_map_init⟩
theorem sub_map : isSubtype (.type "map") (.type "map") = pure true := by rw [isSubtype_type]; kernel_rfl
theorem typeCall_map_2 (a b : Value) : checkTypeCall "map" ⟨[a, b], []⟩ = pure () := by kernel_rfl
theorem newCall_map_2 (a b : Value) : checkBuiltinCall "map.__new__" ⟨[.type "map", a, b], []⟩ = pure () := by kernel_rfl
theorem entry_map_new : entryFor table "map.__new__" = some Builtin.«map.__new__» := entryFor_of_tree (by kernel_rfl)
theorem entry_map_next : entryFor table "map.__next__" = some Builtin.«map.__next__» := entryFor_of_tree (by kernel_rfl)
theorem entry_map_iter : entryFor table "map.__iter__" = some Builtin.«dict_keyiterator.__iter__» :=
  entryFor_alias (id' := "dict_keyiterator.__iter__") (by kernel_rfl) (by first | rfl | decide +kernel | (unfold String.splitOn; simp +decide [String.splitOnAux])) (by decide +kernel) (by kernel_rfl)
theorem args_map_iter_1 (a : Value) : argsOk "map.__iter__" ⟨[a], []⟩ := by unfold argsOk; kernel_rfl
theorem args_map_next_1 (a : Value) : argsOk "map.__next__" ⟨[a], []⟩ := by unfold argsOk; kernel_rfl
theorem map_no_len : typeLookup (.type "map") "__len__" = pure none := by rw [typeLookup_type, builtinLookup_eq_fast]; kernel_rfl
theorem map_no_hint : typeLookup (.type "map") "__length_hint__" = pure none := by rw [typeLookup_type, builtinLookup_eq_fast]; kernel_rfl

theorem mro_filter : mroOf (.type "filter") = pure [.type "filter", .type "object"] := by rw [mroOf_type]; kernel_rfl
theorem lookup_filter_new : typeLookup (.type "filter") "__new__" = pure (some (.builtin "filter.__new__")) := by rw [typeLookup_type, builtinLookup_eq_fast]; kernel_rfl
theorem slot_filter_init : Slot "filter" "__init__" "object.__init__" :=
  .of (owner := "object") (n := "__init__") (by rw [typeLookup_type, builtinLookup_eq_fast]; kernel_rfl) (by decide +kernel) (by decide +kernel) (by decide +kernel)
    (by first | exact .inl (by decide +kernel) | exact .inr (by decide +kernel)) (by rw [isSubtype_type]; kernel_rfl)
theorem slot_filter_iter : Slot "filter" "__iter__" "filter.__iter__" :=
  .of (owner := "filter") (n := "__iter__") (by rw [typeLookup_type, builtinLookup_eq_fast]; kernel_rfl) (by decide +kernel) (by decide +kernel) (by decide +kernel)
    (by first | exact .inl (by decide +kernel) | exact .inr (by decide +kernel)) (by rw [isSubtype_type]; kernel_rfl)
theorem slot_filter_next : Slot "filter" "__next__" "filter.__next__" :=
  .of (owner := "filter") (n := "__next__") (by rw [typeLookup_type, builtinLookup_eq_fast]; kernel_rfl) (by decide +kernel) (by decide +kernel) (by decide +kernel)
    (by first | exact .inl (by decide +kernel) | exact .inr (by decide +kernel)) (by rw [isSubtype_type]; kernel_rfl)
theorem called_filter : TypeCalled "filter" "filter.__new__" "object.__init__" :=
  ⟨by decide +kernel, by decide +kernel, ⟨_, _, mro_filter⟩, madeBy_type mro_filter lookup_filter_new (by decide +kernel), by decide +kernel, by rw [isSubtype_type]; kernel_rfl, slot_filter_init⟩
theorem sub_filter : isSubtype (.type "filter") (.type "filter") = pure true := by rw [isSubtype_type]; kernel_rfl
theorem typeCall_filter_2 (a b : Value) : checkTypeCall "filter" ⟨[a, b], []⟩ = pure () := by kernel_rfl
theorem newCall_filter_2 (a b : Value) : checkBuiltinCall "filter.__new__" ⟨[.type "filter", a, b], []⟩ = pure () := by kernel_rfl
theorem entry_filter_new : entryFor table "filter.__new__" = some Builtin.«filter.__new__» := entryFor_of_tree (by kernel_rfl)
theorem entry_filter_next : entryFor table "filter.__next__" = some Builtin.«filter.__next__» := entryFor_of_tree (by kernel_rfl)
theorem entry_filter_iter : entryFor table "filter.__iter__" = some Builtin.«dict_keyiterator.__iter__» :=
  entryFor_alias (id' := "dict_keyiterator.__iter__") (by kernel_rfl) (by first | rfl | decide +kernel | (unfold String.splitOn; simp +decide [String.splitOnAux])) (by decide +kernel) (by kernel_rfl)
theorem args_filter_iter_1 (a : Value) : argsOk "filter.__iter__" ⟨[a], []⟩ := by unfold argsOk; kernel_rfl
theorem args_filter_next_1 (a : Value) : argsOk "filter.__next__" ⟨[a], []⟩ := by unfold argsOk; kernel_rfl

theorem call_new {w : World} {A : Around} {E : Value → Shared → Prop} {s : Shared} {T newId : String} {Bn : Builtin} {args : List Value} {Q : Value → Shared → Prop} (ft : TypeCalled T newId "object.__init__")
    (hne : (some newId != some "object.__new__") = true) (hct : checkTypeCall T ⟨args, []⟩ = pure ()) (hcn : checkBuiltinCall newId ⟨.type T :: args, []⟩ = pure ())
    (hok : ∀ obj, argsOk "object.__init__" ⟨obj :: args, []⟩) (entryN : entryFor table newId = some Bn)
    (h : wpAny (model PR w) A.in1.in1 (Bn ⟨.type T :: args, []⟩) (fun fin s' => ∃ v, fin = .done (.ret v) ∧ s'.TypeIs v T ∧ Q v s') E s) : wpAny (model PR w) A (call (.type T) args) Q E s := by
  refine callType_codes (Q₁ := fun obj s₁ => s₁.TypeIs obj T ∧ Q obj s₁) ft hct F.entry_object_init (codeAny_call_builtin ft.plain entryN (wpAny_of_eq hcn (wpAny_mono h (fun fin s' h' => ?_) fun _ _ x => x))) fun obj s₁ hq => ?_
  · obtain ⟨v, rfl, h1, h2⟩ := h'
    exact ⟨h1, h2⟩
  · exact ⟨hq.1, hok obj, object_init_meets ft.init.lookup ft.made hne PR w A.in1 (wants (fun r s₂ => r = .none ∧ Q obj s₂) E) s₁ ⟨hq.1, rfl, hq.2⟩⟩
end Mine
end
section
open PySem PySem.W PyProof.Rows PySem.Calls PySem.NumText
open Sem (wp)
set_option Elab.async false
set_option maxRecDepth 100000
set_option linter.unusedVariables false
namespace Mine
section
variable {w : World} {A : Around} {E : Value → Shared → Prop} {s : Shared}
abbrev mapO (T : Addr) (f : Value) : Obj := { cls := .type "map", data := .fields #[.ref T, f] }
theorem pyIter_map {M T : Addr} {f : Value} {Q : Value → Shared → Prop} (hM : s.heap.get? M = some (mapO T f)) (h : Q (.ref M) s) : wpAny (model PR w) A (pyIter (.ref M)) Q E s := by
  have hT : s.TypeIs (.ref M) "map" := ⟨_, hM, rfl⟩
  refine wpAny_pyIter_slot hT slot_map_iter (wpAny_call_entry slot_map_iter hT entry_map_iter ?_ (args_map_iter_1 _))
  show wpAny _ _ (ret (.ref M)) _ _ s
  exact wpAny_pure ⟨_, rfl, "map", _, hT, slot_map_next.lookup, h⟩
theorem newClass_map (l : List Value) : Builtin.SmallTypes.newClass "map" ⟨.type "map" :: l, []⟩ = pure (.type "map", l) := by
  unfold Builtin.SmallTypes.newClass
  dsimp only [isType]
  simp only [pure_bind, sub_map, Bool.not_true, Bool.false_eq_true, if_false]
theorem map_new {f x : Value} {Q : Value → Shared → Prop}
    (h : wpAny (model PR w) A (pyIter x) (fun it s₁ => Q (.ref (s₁.heap.objs.size + 1)) { s₁ with heap := (s₁.heap.push { cls := .type "tuple", data := .seq #[it] }).push (mapO s₁.heap.objs.size f) }) E s) :
    wpAny (model PR w) A (Builtin.«map.__new__» ⟨[.type "map", f, x], []⟩) (fun fin s' => ∃ v, fin = .done (.ret v) ∧ s'.TypeIs v "map" ∧ Q v s') E s := by
  unfold Builtin.«map.__new__»
  refine wpAny_bind (wpAny_of_eq (newClass_map _) ?_)
  dsimp only
  refine wpAny_bind (m := Builtin.SmallTypes.refuseKeywords "map" (.type "map") _) (wpAny_pure (a := ()) ?_)
  rw [if_neg (by simp)]
  simp only [List.drop_succ_cons, List.drop_zero, List.headD_cons]
  refine wpAny_bind (m := Builtin.SmallTypes.iterAll [x]) ?_
  unfold Builtin.SmallTypes.iterAll
  simp only [List.forIn_cons, List.forIn_nil]
  refine wpAny_bind (wpAny_bind (wpAny_bind (wpAny_holding (wpAny_mono h (fun it s₁ h₁ => wpAny_pure ?_) fun _ _ x => x))))
  refine wpAny_pure (wpAny_pure ?_)
  refine wpAny_bind (wpAny_newObj_type ?_ (by show (1 : Nat) ≤ 16777216; decide))
  unfold Builtin.SmallTypes.newRecord
  refine wpAny_bind (wpAny_newObj_type ?_ (by size_fits))
  refine wpAny_pure ⟨_, rfl, ⟨_, Heap.get?_push_size _ rfl, rfl⟩, ?_⟩
  rw [← show (s₁.heap.push { cls := .type "tuple", data := .seq #[it] }).objs.size = s₁.heap.objs.size + 1 from Heap.size_push ..] at h₁
  exact h₁

theorem wpC_callSpecial?_slot {M : Model} {self : Value} {T : String} {name : Str} {id : String} {args : List Value} {kw : List (Str × Value)}
    {Q : Option Value → Shared → Prop} (hT : s.TypeIs self T) (h : Slot T name id)
    (hc : wpC M A (call (.builtin id) (self :: args) kw) (fun v => Q (some v)) E s) : wpC M A (callSpecial? self name args kw) Q E s := by
  simp only [callSpecial?]
  refine wpC_bindA (wpAny_specialOf hT h.lookup ?_)
  simp only [h.bind]
  exact wpC_holding (wpC_bindA (wpAny_pure (wpC_bind (wpC_mono hc (fun v s' h' => wpC_pure h') fun _ _ h' => h'))))
theorem wpC_call_entry {T : String} {name : Str}
    {id : String} {b : Builtin} {self : Value} {rest : List Value} {Q : Value → Shared → Prop} (h : Slot T name id) (hT : s.TypeIs self T)
    (hb : entryFor table id = some b)
    (hc : wpC (model PR w) A.in1 (b ⟨self :: rest, []⟩) (fun fin s' => ∃ v, fin = .done (.ret v) ∧ Q v s') E s)
    (ha : argsOk id ⟨self :: rest, []⟩ := by rfl) :
    wpC (model PR w) A (call (.builtin id) (self :: rest)) Q E s := by
  refine wpC_call (codeC_of_tree ?_)
  show wpC _ _ (do checkBuiltinCall id ⟨self :: rest, []⟩; again (.builtin id ⟨self :: rest, []⟩)) _ _ s
  refine wpC_bindA (h.check _ _ _ _ _ _ _ _ hT ha (wpC_pure (And.intro (plainId_quiet h.plain _) (codeC_builtin hb ?_))))
  rw [Around.under_plainId h.plain _]
  refine wpC_mono hc (fun fin s' h' => ?_) fun _ _ h' => h'
  obtain ⟨v, rfl, hv⟩ := h'; exact hv

abbrev mapT (it : Addr) (n : Nat) : Obj := { cls := .type "tuple", data := .seq #[.ref it] n }
/-- one draw of a map -/
theorem map_next {M T it : Addr} {f : Value} {n : Nat} {Q : Value → Shared → Prop} (hM : s.heap.get? M = some (mapO T f)) (hT : s.heap.get? T = some (mapT it n))
    (h : wpC (model PR w) A.in1 (Builtin.SmallTypes.nextOf (.ref it)) (fun v s₁ => s₁.heap.get? M = some (mapO T f) ∧ wpC (model PR w) A.in1 (call f [v]) Q E s₁) E s) :
    wpC (model PR w) A (callSpecial? (.ref M) "__next__") (fun r s' => ∃ v, r = some v ∧ Q v s') E s := by
  have hTy : s.TypeIs (.ref M) "map" := ⟨_, hM, rfl⟩
  refine wpC_callSpecial?_slot (name := Str.ofString "__next__") hTy slot_map_next (wpC_call_entry slot_map_next hTy entry_map_next ?_ (args_map_next_1 _))
  show wpC _ _ (field (.ref M) 0 >>= _) _ _ s
  refine wpC_bindA (wpAny_field hM rfl (x := .ref T) rfl ?_)
  refine wpC_bindA (wpAny_seqItems hT rfl ?_)
  dsimp only
  rw [← Array.forIn_toList]
  simp only [List.forIn_cons, List.forIn_nil]
  refine wpC_bind (wpC_bind (wpC_bind (wpC_holding (wpC_mono h (fun v s₁ h₁ => ?_) fun _ _ x => x))))
  refine wpC_pure (wpC_pure ?_)
  refine wpC_bindA (wpAny_field h₁.1 rfl (x := f) rfl ?_)
  show wpC _ _ (do let result ← holding [v] (call f [v]); letGo [v] [result]; ret result) _ _ s₁
  refine wpC_bind (wpC_holding (wpC_mono h₁.2 (fun r s₂ h₂ => ?_) fun _ _ x => x))
  exact wpC_bindA (wpAny_letGo (wpC_pure ⟨_, rfl, _, rfl, h₂⟩))
theorem nextOf_map {M T it : Addr} {f : Value} {n : Nat} {Q : Value → Shared → Prop} (hM : s.heap.get? M = some (mapO T f)) (hT : s.heap.get? T = some (mapT it n))
    (h : wpC (model PR w) A.in1 (Builtin.SmallTypes.nextOf (.ref it)) (fun v s₁ => s₁.heap.get? M = some (mapO T f) ∧ wpC (model PR w) A.in1 (call f [v]) Q E s₁) E s) :
    wpC (model PR w) A (Builtin.SmallTypes.nextOf (.ref M)) Q E s := by
  unfold Builtin.SmallTypes.nextOf
  refine wpC_bind (wpC_mono (map_next hM hT h) (fun r s₁ h₁ => ?_) fun _ _ x => x)
  obtain ⟨v, rfl, h₁⟩ := h₁
  exact wpC_pure h₁
theorem sub_stop_ve : isSubtype (.type "ValueError") (.type "StopIteration") = pure false := by rw [isSubtype_type]; kernel_rfl
theorem pyNext_map {M T it : Addr} {f : Value} {n : Nat} {Q : Option Value → Shared → Prop} (hM : s.heap.get? M = some (mapO T f)) (hT : s.heap.get? T = some (mapT it n))
    (h : wpC (model PR w) A.in1 (Builtin.SmallTypes.nextOf (.ref it)) (fun v s₁ => s₁.heap.get? M = some (mapO T f) ∧ wpC (model PR w) A.in1 (call f [v]) (fun r s₂ => Q (some r) s₂) (fun e s' => ∃ a o, e = .ref a ∧ s'.heap.get? a = some o ∧ ((o.cls = .type "StopIteration" ∧ Q none s') ∨ (o.cls = .type "ValueError" ∧ E e s'))) s₁)
      (fun e s' => ∃ a o, e = .ref a ∧ s'.heap.get? a = some o ∧ ((o.cls = .type "StopIteration" ∧ Q none s') ∨ (o.cls = .type "ValueError" ∧ E e s'))) s) :
    wpC (model PR w) A (pyNext (.ref M)) Q E s := by
  unfold pyNext
  refine wpC_bind (wpC_attempt (wpC_mono (map_next hM hT h) (fun r s₁ h₁ => ?_) fun e s₁ h₁ => ?_))
  · obtain ⟨v, rfl, h₁⟩ := h₁
    exact wpC_pure h₁
  · obtain ⟨a, o, rfl, ho, hc | hc⟩ := h₁
    · exact wpC_of (wpAny_bind (wpAny_isInstance (T := "StopIteration") (b := true) ⟨o, ho, hc.1⟩ isSubtype_stop (wpAny_pure hc.2)))
    · exact wpC_of (wpAny_bind (wpAny_isInstance (T := "ValueError") (b := false) ⟨o, ho, hc.1⟩ sub_stop_ve (wpAny_throw hc.2)))
end
end Mine
end
section
open PySem PySem.W PyProof.Rows PySem.Calls PySem.NumText
open Sem (wp)
set_option Elab.async false
set_option maxRecDepth 100000
set_option linter.unusedVariables false
namespace Mine
section
variable {w : World} {A : Around} {E : Value → Shared → Prop} {s : Shared} {R : Result → Shared → Prop}
/-- a draw of a tuple's iterator -/
theorem special_tup_item {it t : Addr} {i : Nat} {items : Array Value} {x : Value} {n : Nat} {Q : Option Value → Shared → Prop} (hit : s.heap.IsTupleIter it t i)
    (ht : s.heap.get? t = some { cls := .type "tuple", data := .seq items n }) (hx : items[i]? = some x)
    (hQ : ∀ h', h'.IsTupleIter it t (i + 1) → Heap.SameBut it s.heap h' → Q (some x) { s with heap := h' }) :
    wpAny (model PR w) A (callSpecial? (.ref it) (Str.ofString "__next__")) Q E s := by
  obtain ⟨o, ho, hc, hd⟩ := id hit
  refine wpAny_callSpecial?_slot (name := Str.ofString "__next__") hit.typeIs slot_tupleiter_next
    (wpAny_call_entry slot_tupleiter_next hit.typeIs entry_tupleiter_next ?_ (args_tupleiter_next _))
  show wpAny _ _ (field (.ref it) 0 >>= _) _ _ s
  refine wpAny_bind (wpAny_field ho hd (x := .ref t) rfl ?_)
  show wpAny _ _ (if (Value.ref t == Value.none) = true then _ else _) _ _ s
  rw [if_neg (show ¬ ((Value.ref t == Value.none) = true) from Bool.false_ne_true)]
  show wpAny _ _ (field (.ref it) 1 >>= _) _ _ s
  refine wpAny_bind (wpAny_field ho hd (x := .int i 0) rfl ?_)
  show wpAny _ _ (seqItems? (.ref t) >>= _) _ _ s
  refine wpAny_bind (wpAny_seqItems ht rfl ?_)
  simp only [Int.toNat_natCast, hx]
  refine wpAny_bind (wpAny_setField ho hd (by simp) (wpAny_pure ⟨x, rfl, hQ _ ?_ (Heap.SameBut.update ..)⟩))
  exact ⟨_, Heap.get?_update_self _ ho (Obj.isFreed_of_fields (Obj.data_mapFields hd _)), (Obj.cls_mapFields ..).trans hc, by
    rw [Obj.data_mapFields hd]; simp [rawInt]⟩
theorem special_tup_end {it t : Addr} {i : Nat} {items : Array Value} {n : Nat} {Q : Option Value → Shared → Prop} (hh : A.handled = none)
    (hit : s.heap.IsTupleIter it t i) (ht : s.heap.get? t = some { cls := .type "tuple", data := .seq items n }) (hx : items[i]? = none)
    (hE : ∀ h' e, Heap.ExtBut it s.heap h' → (∃ o, h'.get? e = some o ∧ o.cls = .type "StopIteration") → E (.ref e) { s with heap := h' }) :
    wpAny (model PR w) A (callSpecial? (.ref it) (Str.ofString "__next__")) Q E s := by
  obtain ⟨o, ho, hc, hd⟩ := id hit
  refine wpAny_callSpecial?_slot (name := Str.ofString "__next__") hit.typeIs slot_tupleiter_next
    (wpAny_call_entry slot_tupleiter_next hit.typeIs entry_tupleiter_next ?_ (args_tupleiter_next _))
  show wpAny _ _ (field (.ref it) 0 >>= _) _ _ s
  refine wpAny_bind (wpAny_field ho hd (x := .ref t) rfl ?_)
  show wpAny _ _ (if (Value.ref t == Value.none) = true then _ else _) _ _ s
  rw [if_neg (show ¬ ((Value.ref t == Value.none) = true) from Bool.false_ne_true)]
  show wpAny _ _ (field (.ref it) 1 >>= _) _ _ s
  refine wpAny_bind (wpAny_field ho hd (x := .int i 0) rfl ?_)
  show wpAny _ _ (seqItems? (.ref t) >>= _) _ _ s
  refine wpAny_bind (wpAny_seqItems ht rfl ?_)
  simp only [Int.toNat_natCast, hx]
  refine wpAny_bind (wpAny_rule (wpAny_bind (wpAny_setField ho hd (by simp) ?_)))
  show wpAny _ _ (newExc (.type "StopIteration") [] >>= _) _ _ _
  refine wpAny_bind ?_
  simp only [newExc, newTuple]
  refine wpAny_bind (wpAny_newObj_type ?_ (by size_fits))
  refine wpAny_bind (m := firstArgMember _ _) (wpAny_of_eq (a := Value.none) (by first | rfl | (simp only [firstArgMember]; rfl)) ?_)
  refine wpAny_newObj_type ?_ (by size_fits)
  simp only [raiseNew]
  refine wpAny_bind (wpAny_handled ?_)
  first | rw [show A.in1.handled = none from hh] | rw [hh]
  refine wpAny_bind (wpAny_pure (wpAny_throw ?_))
  exact hE _ _ (((Heap.SameBut.update ..).extBut.push _).push _) ⟨_, Heap.get?_push_size _ rfl, rfl⟩

abbrev filO (L : Addr) : Obj := { cls := .type "filter", data := .fields #[.builtin "len", .ref L] }
structure FilSt (h : Heap) (F L t : Addr) (vs : List Value) (i : Nat) : Prop where
  f : h.get? F = some (filO L)
  it : h.IsTupleIter L t i
  tp : ∃ n, h.get? t = some { cls := .type "tuple", data := .seq vs.toArray n }
theorem FilSt.ne {h : Heap} {F L t : Addr} {vs : List Value} {i : Nat} (m : FilSt h F L t vs i) : F ≠ L ∧ t ≠ L := by
  obtain ⟨o, ho, hc, hd⟩ := m.it
  obtain ⟨n, ht⟩ := m.tp
  refine ⟨?_, ?_⟩ <;> rintro rfl
  · have := m.f; rw [ho] at this; cases this; exact absurd hc (show ¬ (Value.type "filter" = Value.type "tuple_iterator") by decide)
  · rw [ho] at ht; cases ht; exact absurd hc (show ¬ (Value.type "tuple" = Value.type "tuple_iterator") by decide)
theorem FilSt.keep {h h' : Heap} {F L t : Addr} {vs : List Value} {i : Nat} (m : FilSt h F L t vs i) (k : ∀ b o, b = F ∨ b = L ∨ b = t → h.get? b = some o → h'.get? b = some o) : FilSt h' F L t vs i where
  f := k _ _ (by simp) m.f
  it := m.it.at fun o e => k _ _ (by simp) e
  tp := let ⟨n, e⟩ := m.tp; ⟨n, k _ _ (by simp) e⟩
theorem FilSt.step {h h' : Heap} {F L t : Addr} {vs : List Value} {i j : Nat} (m : FilSt h F L t vs i) (it : h'.IsTupleIter L t j) (k : Heap.ExtBut L h h') : FilSt h' F L t vs j :=
  let ⟨a, b⟩ := m.ne
  { f := k _ _ a m.f, it := it, tp := let ⟨n, x⟩ := m.tp; ⟨n, k _ _ b x⟩ }

/-- one call of a filter's next -/
theorem filter_code {F L t : Addr} {ts : List (Str × Tok)} (hl : ∀ x ∈ ts, x.1.length ≤ 16777216) : ∀ (k j : Nat) (A : Around) (R : Result → Shared → Prop) (s : Shared), A.handled = none → ts.length - j = k → j ≤ ts.length → FilSt s.heap F L t (strValues ts) j →
    (∀ m x u h' tk, ts[m]? = some (x, u) → x.length ≠ 0 → j ≤ m → ((ts.drop j).take (m - j)).all (fun p => p.1.length == 0) = true → FilSt h' F L t (strValues ts) (m + 1) → Heap.ExtBut L s.heap h' → R (.ok (.ret (.str x u))) { s with heap := h', toks := tk }) →
    (∀ h' tk e, (ts.drop j).all (fun p => p.1.length == 0) = true → Heap.ExtBut L s.heap h' → (∃ o, h'.get? e = some o ∧ o.cls = .type "StopIteration") → R (.error (.ref e)) { s with heap := h', toks := tk }) →
    codeAny (model PR w) A (.builtin "filter.__next__" ⟨[.ref F], []⟩) R s := by
  have plain : plainId "filter.__next__" = true := by decide +kernel
  intro k
  induction k with
  | zero =>
    intro j A R s hA hk hj m item ending
    have hjn : j = ts.length := by omega
    subst hjn
    obtain ⟨n, ht⟩ := m.tp
    refine codeAny_builtin entry_filter_next ?_
    rw [Around.under_plainId plain _]
    show wpAny _ A.in1 (field (.ref F) 0 >>= _) _ _ s
    refine wpAny_bind (wpAny_field m.f rfl (x := .builtin "len") rfl ?_)
    show wpAny _ A.in1 (field (.ref F) 1 >>= _) _ _ s
    refine wpAny_bind (wpAny_field m.f rfl (x := .ref L) rfl ?_)
    refine wpAny_bind (special_tup_end hA m.it ht (by simp [strValues]) fun h' e x he => ?_)
    exact ending h' s.toks e (by simp) x he
  | succ k ih =>
    intro j A R s hA hk hj m item ending
    have hlt : j < ts.length := by omega
    obtain ⟨n, ht⟩ := m.tp
    obtain ⟨⟨x, u⟩, hx⟩ : ∃ t, ts[j]? = some t := ⟨_, List.getElem?_eq_getElem hlt⟩
    have hv : (strValues ts).toArray[j]? = some (.str x u) := by simp [strValues, hx]
    have hxl : x.length ≤ 16777216 := hl (x, u) (List.mem_of_getElem? hx)
    refine codeAny_builtin entry_filter_next ?_
    rw [Around.under_plainId plain _]
    show wpAny _ A.in1 (field (.ref F) 0 >>= _) _ _ s
    refine wpAny_bind (wpAny_field m.f rfl (x := .builtin "len") rfl ?_)
    show wpAny _ A.in1 (field (.ref F) 1 >>= _) _ _ s
    refine wpAny_bind (wpAny_field m.f rfl (x := .ref L) rfl ?_)
    refine wpAny_bind (special_tup_item m.it ht hv fun h₁ it₁ sb => ?_)
    have m₁ := m.step it₁ sb.extBut
    dsimp only
    refine wpAny_bind (wpAny_holding ?_)
    rw [if_neg (by decide)]
    refine wpAny_bind (PyProof.Rows.len_str (by omega) (wpAny_holding (PyProof.Rows.truthy_int ?_)))
    have hdrop : ts.drop j = (x, u) :: ts.drop (j + 1) := by
      rw [List.drop_eq_getElem_cons hlt]
      have := List.getElem?_eq_getElem hlt
      rw [hx] at this
      rw [← Option.some.inj this]
    rcases Nat.eq_zero_or_pos x.length with h0 | h0
    · have e : ((x.length : Int) != 0) = false := by rw [h0]; rfl
      rw [e]
      refine wpAny_pure ⟨plainId_quiet plain _, ih (j + 1) A R _ hA (by omega) hlt m₁ (fun m' x' u' h' tk hm hx0 hle hall st ext => ?_) (fun h' tk e' hall ext he => ?_)⟩
      · refine item m' x' u' h' tk hm hx0 (by omega) ?_ st fun b o hb e => ext b o hb (sb.extBut b o hb e)
        rw [hdrop, show m' - j = (m' - (j + 1)) + 1 by omega, List.take_succ_cons, List.all_cons, hall]
        simp [h0]
      · refine ending h' tk e' ?_ (fun b o hb e => ext b o hb (sb.extBut b o hb e)) he
        rw [hdrop, List.all_cons, hall]
        simp [h0]
    · have e : ((x.length : Int) != 0) = true := by rw [bne_iff_ne]; omega
      rw [e]
      exact wpAny_pure (item j x u h₁ _ hx (by omega) (Nat.le_refl _) (by simp) m₁ sb.extBut)
end
end Mine
end
section
open PySem PySem.W PyProof.Rows PySem.Calls PySem.NumText
open Sem (wp)
set_option Elab.async false
set_option maxRecDepth 100000
set_option linter.unusedVariables false
namespace Mine
def shown (t : Str) : Str := Str.ofString (toString ((PySem.intText? t).getD 0))
structure MapSt (h : Heap) (M2 T2 M1 T1 L l : Addr) (vs : List Value) (i : Nat) : Prop where
  m2 : h.get? M2 = some (mapO T2 (.type "str"))
  t2 : h.get? T2 = some (mapT M1 0)
  m1 : h.get? M1 = some (mapO T1 (.type "int"))
  t1 : h.get? T1 = some (mapT L 0)
  it : h.IsListIter L l i
  ls : ∃ n, h.get? l = some { cls := .type "list", data := .seq vs.toArray n }
theorem MapSt.ne {h : Heap} {M2 T2 M1 T1 L l : Addr} {vs : List Value} {i : Nat} (m : MapSt h M2 T2 M1 T1 L l vs i) : M2 ≠ L ∧ T2 ≠ L ∧ M1 ≠ L ∧ T1 ≠ L ∧ l ≠ L := by
  obtain ⟨o, ho, hc, hd⟩ := m.it
  obtain ⟨n, hl⟩ := m.ls
  refine ⟨?_, ?_, ?_, ?_, ?_⟩ <;> rintro rfl
  · have := m.m2; rw [ho] at this; cases this; exact absurd hc (show ¬ (Value.type "map" = Value.type "list_iterator") by decide)
  · have := m.t2; rw [ho] at this; cases this; exact absurd hc (show ¬ (Value.type "tuple" = Value.type "list_iterator") by decide)
  · have := m.m1; rw [ho] at this; cases this; exact absurd hc (show ¬ (Value.type "map" = Value.type "list_iterator") by decide)
  · have := m.t1; rw [ho] at this; cases this; exact absurd hc (show ¬ (Value.type "tuple" = Value.type "list_iterator") by decide)
  · rw [ho] at hl; cases hl; exact absurd hc (show ¬ (Value.type "list" = Value.type "list_iterator") by decide)
theorem MapSt.keep {h h' : Heap} {M2 T2 M1 T1 L l : Addr} {vs : List Value} {i : Nat} (m : MapSt h M2 T2 M1 T1 L l vs i) (k : ∀ b o, b = M2 ∨ b = T2 ∨ b = M1 ∨ b = T1 ∨ b = L ∨ b = l → h.get? b = some o → h'.get? b = some o) : MapSt h' M2 T2 M1 T1 L l vs i where
  m2 := k _ _ (by simp) m.m2
  t2 := k _ _ (by simp) m.t2
  m1 := k _ _ (by simp) m.m1
  t1 := k _ _ (by simp) m.t1
  it := m.it.at fun o e => k _ _ (by simp) e
  ls := let ⟨n, e⟩ := m.ls; ⟨n, k _ _ (by simp) e⟩
theorem MapSt.step {h h' : Heap} {M2 T2 M1 T1 L l : Addr} {vs : List Value} {i j : Nat} (m : MapSt h M2 T2 M1 T1 L l vs i) (it : h'.IsListIter L l j) (k : Heap.SameBut L h h') : MapSt h' M2 T2 M1 T1 L l vs j :=
  let ⟨a, b, c, d, e⟩ := m.ne
  { m2 := k.extBut _ _ a m.m2, t2 := k.extBut _ _ b m.t2, m1 := k.extBut _ _ c m.m1, t1 := k.extBut _ _ d m.t1, it := it, ls := let ⟨n, x⟩ := m.ls; ⟨n, k.extBut _ _ e x⟩ }
structure KeptBut (S L : Addr) (s s' : Shared) : Prop where
  heap : ∀ b o, b ≠ S → b ≠ L → s.heap.get? b = some o → s'.heap.get? b = some o
  os : s'.os = s.os
  gens : s'.gens = s.gens
  toks : s.toks ≤ s'.toks
theorem KeptBut.trans {S L : Addr} {s s' s'' : Shared} (x : KeptBut S L s s') (y : KeptBut S L s' s'') : KeptBut S L s s'' :=
  ⟨fun b o p q e => y.heap b o p q (x.heap b o p q e), y.os.trans x.os, y.gens.trans x.gens, Nat.le_trans x.toks y.toks⟩

theorem map_draw {w : World} {M2 T2 M1 T1 L l : Addr} {ts : List (Str × Tok)} (hl : ∀ t ∈ ts, t.1.length ≤ 640) (hrp : ∀ t ∈ ts, (reprText t.1).length ≤ 1000)
    (hsm : ∀ t ∈ ts, ∀ n, PySem.intText? t.1 = some n → (if n < 0 then 0 - n else n) < 1000000000) {i : Nat} {A : Around} {s : Shared} {Q : Option Value → Shared → Prop} {E : Value → Shared → Prop} (hA : A.handled = none) (hi : i ≤ ts.length)
    (m : MapSt s.heap M2 T2 M1 T1 L l (strValues ts) i) (ending : i = ts.length → ∀ h', Heap.ExtBut L s.heap h' → Q none { s with heap := h' })
    (item : ∀ x t n h', ts[i]? = some (x, t) → PySem.intText? x = some n → MapSt h' M2 T2 M1 T1 L l (strValues ts) (i + 1) → Heap.SameBut L s.heap h' → Q (some (.str (Str.ofString (toString n)) (s.toks + 1))) { s with heap := h', toks := s.toks + 2 })
    (bad : ∀ x t h' h'' tk e, ts[i]? = some (x, t) → PySem.intText? x = none → Heap.SameBut L s.heap h' → Heap.NewExc h' h'' e "ValueError" → s.toks ≤ tk → E (.ref e) { s with heap := h'', toks := tk }) :
    wpC (model PR w) A (pyNext (.ref M2)) Q E s := by
  obtain ⟨nl, hls⟩ := m.ls
  rcases Nat.lt_or_eq_of_le hi with hlt | rfl
  · obtain ⟨⟨x, t⟩, hx⟩ : ∃ t, ts[i]? = some t := ⟨_, List.getElem?_eq_getElem hlt⟩
    have hmem := List.mem_of_getElem? hx
    have hv : (strValues ts).toArray[i]? = some (.str x t) := by simp [strValues, hx]
    refine pyNext_map m.m2 m.t2 (nextOf_map m.m1 m.t1 (wpC_of (wpAny_nextOf_list_item m.it (isList_of hls) hv fun h₁ it₁ sb => ?_)))
    have m₁ := m.step it₁ sb
    have item := item x t
    have bad := bad x t h₁
    have hlx : x.length ≤ 640 := hl (x, t) hmem
    have hrx : (reprText x).length ≤ 1000 := hrp (x, t) hmem
    have hsx : ∀ n, PySem.intText? x = some n → (if n < 0 then 0 - n else n) < 1000000000 := hsm (x, t) hmem
    have hsn : (numSeenOf x).length ≤ 640 := Nat.le_trans (seen_length x) hlx
    have hA1 : A.handled = none := hA
    clear hl hrp hsm ending hls hmem hv
    refine ⟨m₁.m1, ?_⟩
    cases hn' : PySem.intText? x with
    | none =>
      have bad := fun h'' tk e => bad h'' tk e hx hn' sb
      refine wpC_with_toks (Nat.le_refl s.toks) (call_fail (show A.handled = none from hA1) (F.typeCall_int_1 _) (F.newCall_int_1 _) fun A' Q' hA' => fail_new hA' hsn hn' hrx fun h' tk e ne htk => ?_)
      obtain ⟨oe, u, he, hc, _⟩ := ne.there
      exact ⟨e, oe, rfl, he, .inr ⟨hc, bad h' tk e ne htk⟩⟩
    | some n =>
      have item := item n h₁ hx hn' m₁ sb
      refine wpC_of (KIN.call_text hn' hlx ?_)
      refine ⟨m₁.m2, wpC_of (str_of_int_fit (hsx n hn') (by decide) fun _ => ?_)⟩
      exact item
  · refine pyNext_map m.m2 m.t2 (nextOf_map m.m1 m.t1 (wpC_of (wpAny_nextOf_list_end hA m.it (isList_of hls) (by simp [strValues]) fun h' e x he => ?_)))
    obtain ⟨o, ho, hc⟩ := he
    exact ⟨e, o, rfl, ho, .inl ⟨hc, ending rfl h' x⟩⟩
theorem map_loop {w : World} {M2 T2 M1 T1 L l S : Addr} {ts : List (Str × Tok)} {res : Value} (hres : res = .none) (hn : ts.length ≤ 100000) (hl : ∀ t ∈ ts, t.1.length ≤ 640) (hrp : ∀ t ∈ ts, (reprText t.1).length ≤ 1000)
    (hsm : ∀ t ∈ ts, ∀ n, PySem.intText? t.1 = some n → (if n < 0 then 0 - n else n) < 1000000000) (hSa : ∀ b, b = M2 ∨ b = T2 ∨ b = M1 ∨ b = T1 ∨ b = L ∨ b = l → b ≠ S) :
    ∀ (k i : Nat) (A : Around) (R : Result → Shared → Prop) (s : Shared) (acc : List (Str × Tok)), A.handled = none → ts.length - i = k → i ≤ ts.length → MapSt s.heap M2 T2 M1 T1 L l (strValues ts) i → (∃ c, s.heap.get? S = some { cls := .type "list", dict := none, data := .seq (strValues acc).toArray c, slots := #[] }) →
    acc.map (·.1) = (ts.take i).map (fun t => shown t.1) → (∀ t ∈ ts.take i, (PySem.intText? t.1).isSome = true) →
    (∀ s' acc' c', (∀ t ∈ ts, (PySem.intText? t.1).isSome = true) → KeptBut S L s s' → s'.heap.get? S = some { cls := .type "list", dict := none, data := .seq (strValues acc').toArray c', slots := #[] } → acc'.map (·.1) = ts.map (fun t => shown t.1) → R (.ok (.ret res)) s') →
    (∀ s₁ s' e, (∃ t ∈ ts, PySem.intText? t.1 = none) → KeptBut S L s s₁ → Heap.NewExc s₁.heap s'.heap e "ValueError" → s'.os = s₁.os → s'.gens = s₁.gens → s₁.toks ≤ s'.toks → R (.error (.ref e)) s') →
    codeC (model PR w) A (.builtin "list.extend.loop" ⟨[.ref S, .ref M2, res], []⟩) R s := by
  subst hres
  intro k
  induction k with
  | zero =>
    intro i A R s acc hA hk hi m ⟨c, hS⟩ hacc hgood ok bad
    have hin : i = ts.length := by omega
    subst hin
    refine codeC_builtin F.entry_extend_loop ?_
    rw [Around.under_plainId F.plain_extend_loop _]
    show wpC _ A.in1 (pyNext (.ref M2) >>= _) _ _ s
    refine wpC_bind (map_draw hl hrp hsm hA (Nat.le_refl _) m (fun _ h' x => wpC_pure ?_) (fun x t n h' hx => by simp at hx) (fun x t h' h'' tk e hx => by simp at hx))
    rw [List.take_length] at hacc hgood
    exact ok _ acc c hgood ⟨fun b o _ hb e => x b o hb e, rfl, rfl, Nat.le_refl _⟩ (x _ _ (Ne.symm (hSa L (by simp))) hS) hacc
  | succ k ih =>
    intro i A R s acc hA hk hi m ⟨c, hS⟩ hacc hgood ok bad
    have hlt : i < ts.length := by omega
    refine codeC_builtin F.entry_extend_loop ?_
    rw [Around.under_plainId F.plain_extend_loop _]
    show wpC _ A.in1 (pyNext (.ref M2) >>= _) _ _ s
    have hSL : S ≠ L := Ne.symm (hSa L (by simp))
    have hlen : acc.length = i := by have := congrArg List.length hacc; simp at this; omega
    refine wpC_bind (map_draw hl hrp hsm hA hi m (fun h => absurd h (Nat.ne_of_lt hlt)) (fun x t n h₁ hx hn' m₁ sb => ?_) (fun x t h' h'' tk e hx hn' sb ne htk => ?_))
    · have hS₁ := sb.extBut _ _ hSL hS
      show wpC _ A.in1 (updateSeq S (·.push _) >>= _) _ _ _
      refine wpC_bindA ?_
      have htake : ts.take (i + 1) = ts.take i ++ [(x, t)] := by rw [List.take_add_one, hx]; rfl
      have kb0 : KeptBut S L s { s with heap := h₁.update S (Obj.mapSeq fun x => x.push (Value.str (Str.ofString (toString n)) (s.toks + 1))), toks := s.toks + 2 } :=
        ⟨fun b o hb hb2 e => (Heap.get?_update_other _ _ (Ne.symm hb)).trans (sb.extBut b o hb2 e), rfl, rfl, Nat.le_add_right _ _⟩
      refine wpAny_updateSeq hS₁ rfl (wpC_pure ⟨plainId_quiet F.plain_extend_loop _, ih (i + 1) A R _ (acc ++ [(Str.ofString (toString n), s.toks + 1)]) hA (by omega) hlt (m₁.keep fun b o hb e => ?_) ?_ ?_ ?_ ?_ ?_⟩) ?_ ?_
      · exact (Heap.get?_update_other _ _ (Ne.symm (hSa b hb))).trans e
      · have e := Heap.get?_update_self (Obj.mapSeq (·.push (Value.str (Str.ofString (toString n)) (s.toks + 1)))) hS₁ rfl
        have e2 : (strValues (acc ++ [(Str.ofString (toString n), s.toks + 1)])).toArray = (strValues acc).toArray.push (Value.str (Str.ofString (toString n)) (s.toks + 1)) := by simp [strValues]
        rw [e2]
        exact ⟨_, e⟩
      · rw [htake, List.map_append, List.map_append, hacc]
        simp [shown, hn']
      · rw [htake]
        intro q hq
        rcases List.mem_append.mp hq with hq | hq
        · exact hgood q hq
        · rw [List.mem_singleton.mp hq]; simp [hn']
      · intro s' acc' c' g kb hS' ha
        refine ok s' acc' c' g (KeptBut.trans kb0 kb) hS' ha
      · intro s₁ s' e hb kb ne h1 h2 h3
        exact bad s₁ s' e hb (KeptBut.trans kb0 kb) ne h1 h2 h3
      · simp only [List.size_toArray, strValues, List.length_map, hlen]; show i ≤ 16777216; omega
      · simp only [Array.size_push, List.size_toArray, strValues, List.length_map, hlen]; show i + 1 ≤ 16777216 + 1; omega
    · exact bad { s with heap := h' } _ e ⟨_, List.mem_of_getElem? hx, hn'⟩ ⟨fun b o _ hb e => sb.extBut b o hb e, rfl, rfl, Nat.le_refl _⟩ ne rfl rfl htk
end Mine
end
section
open PySem PySem.W PyProof.Rows PySem.Calls PySem.NumText
open Sem (wp)
set_option Elab.async false
set_option maxRecDepth 100000
set_option linter.unusedVariables false
namespace Mine
section
variable {w : World} {A : Around} {E : Value → Shared → Prop} {s : Shared} {R : Result → Shared → Prop}
theorem codeC_call_slot {T : String} {name : Str} {id : String} {b : Builtin} {self : Value} {rest : List Value} (h : Slot T name id) (hT : s.TypeIs self T)
    (hb : entryFor table id = some b) (ha : argsOk id ⟨self :: rest, []⟩)
    (hc : wpC (model PR w) A.in1 (b ⟨self :: rest, []⟩) (fun fin s' => match fin with | .done f => R (.ok f) s' | .again c' => c'.quiet = true ∧ codeC (model PR w) A c' R s') (fun e s' => R (.error e) s') s) :
    codeC (model PR w) A (.call (.builtin id) ⟨self :: rest, []⟩) R s := by
  refine codeC_of_tree ?_
  show wpC _ _ (do checkBuiltinCall id ⟨self :: rest, []⟩; again (.builtin id ⟨self :: rest, []⟩)) _ _ s
  refine wpC_bindA (h.check _ _ _ _ _ _ _ _ hT ha (wpC_pure (And.intro (plainId_quiet h.plain _) (codeC_builtin hb ?_))))
  rw [Around.under_plainId h.plain _]
  exact hc
abbrev lstO (xs : Array Value) : Obj := { cls := .type "list", data := .seq xs }
theorem callC_list {a : Value} {Q : Value → Shared → Prop} (hA : A.handled = none)
    (hinit : ∀ (A' : Around) (R' : Result → Shared → Prop), A'.handled = none → (∀ s', Q (.ref s.heap.objs.size) s' → R' (.ok (.ret .none)) s') → (∀ e s', E e s' → R' (.error e) s') →
      codeC (model PR w) A' (.call (.builtin "list.__init__") ⟨[.ref s.heap.objs.size, a], []⟩) R' { s with heap := s.heap.push (lstO #[]) }) :
    wpC (model PR w) A (call (.type "list") [a]) Q E s := by
  obtain ⟨c, tl, hmro⟩ := F.called_list.mro
  have hmade := F.called_list.made
  have h2 := F.called_list.canCreate
  have key : codeC (model PR w) A (.builtin "type.__call__" ⟨.type "list" :: [a], []⟩) (fun r s' => match r with | .ok (.ret v) => Q v s' | .ok _ => False | .error e => E e s') s := by
    refine codeC_builtin F.entry_type_call ?_
    generalize hB : A.under (.builtin "type.__call__" ⟨.type "list" :: [a], []⟩) = B
    have hBh : B.handled = none := by rw [← hB]; exact hA
    unfold Builtin.«type.__call__»
    dsimp only
    rw [if_neg (by decide)]
    rw [if_neg (by rw [h2]; decide)]
    rw [F.typeCall_list_1]
    refine wpC_bindA (wpAny_pure ?_)
    rw [hmro]
    refine wpC_bindA (wpAny_pure ?_)
    rw [if_neg (by simp)]
    rw [hmade]
    refine wpC_bindA (wpAny_pure ?_)
    dsimp only
    refine wpC_bindA (wpAny_pure ?_)
    refine wpC_bindA (wpAny_holding (wpAny_call ?_))
    refine code_list_new a ?_
    have hS : (s.heap.push (lstO #[])).get? s.heap.objs.size = some (lstO #[]) := Heap.get?_push_size _ rfl
    refine wpC_bindA (wpAny_isInstance (T := "list") (b := true) ⟨_, hS, rfl⟩ sub_list_self ?_)
    simp only [Bool.not_true, Bool.false_eq_true, if_false]
    refine wpC_bind (wpC_holding (wpC_callSpecial?_slot (name := Str.ofString "__init__") ⟨_, hS, rfl⟩ F.called_list.init (wpC_call ?_)))
    refine hinit B _ hBh (fun s' q => ?_) (fun e s' h => h)
    exact wpC_pure q
  refine wpC_call (codeC_of_tree ?_)
  show wpC _ _ (pure (Fin.again (.builtin "type.__call__" ⟨.type "list" :: [a], []⟩))) _ _ _
  exact wpC_pure (And.intro (Code.quiet_builtin _ (by decide +kernel)) key)

theorem list_map {M2 T2 M1 T1 L l : Addr} {ts : List (Str × Tok)} {Q : Value → Shared → Prop} (hA : A.handled = none) (hn : ts.length ≤ 100000) (hl : ∀ t ∈ ts, t.1.length ≤ 640) (hrp : ∀ t ∈ ts, (reprText t.1).length ≤ 1000)
    (hsm : ∀ t ∈ ts, ∀ n, PySem.intText? t.1 = some n → (if n < 0 then 0 - n else n) < 1000000000) (m : MapSt s.heap M2 T2 M1 T1 L l (strValues ts) 0)
    (ok : ∀ s' acc' c', (∀ t ∈ ts, (PySem.intText? t.1).isSome = true) → KeptBut s.heap.objs.size L s s' → s'.heap.get? s.heap.objs.size = some { cls := .type "list", dict := none, data := .seq (strValues acc').toArray c', slots := #[] } → acc'.map (·.1) = ts.map (fun t => shown t.1) → Q (.ref s.heap.objs.size) s')
    (bad : ∀ s₁ s' e, (∃ t ∈ ts, PySem.intText? t.1 = none) → KeptBut s.heap.objs.size L s s₁ → Heap.NewExc s₁.heap s'.heap e "ValueError" → s'.os = s₁.os → s'.gens = s₁.gens → s₁.toks ≤ s'.toks → E (.ref e) s') :
    wpC (model PR w) A (call (.type "list") [.ref M2]) Q E s := by
  have live : ∀ b, b = M2 ∨ b = T2 ∨ b = M1 ∨ b = T1 ∨ b = L ∨ b = l → b ≠ s.heap.objs.size := by
    intro b hb
    have : ∃ o, s.heap.get? b = some o := by
      rcases hb with rfl | rfl | rfl | rfl | rfl | rfl
      · exact ⟨_, m.m2⟩
      · exact ⟨_, m.t2⟩
      · exact ⟨_, m.m1⟩
      · exact ⟨_, m.t1⟩
      · obtain ⟨o, ho, _⟩ := m.it; exact ⟨o, ho⟩
      · obtain ⟨_, ho⟩ := m.ls; exact ⟨_, ho⟩
    obtain ⟨o, ho⟩ := this
    exact Nat.ne_of_lt (Heap.lt_size ho)
  refine callC_list hA fun A' R' hA' hok hbad => ?_
  have hS0 : (s.heap.push (lstO #[])).get? s.heap.objs.size = some (lstO #[]) := Heap.get?_push_size _ rfl
  have hlt : ∀ b o, s.heap.get? b = some o → b ≠ s.heap.objs.size := fun b o e => Nat.ne_of_lt (Heap.lt_size e)
  have up : ∀ b o, s.heap.get? b = some o → (s.heap.push (lstO #[])).get? b = some o := fun b o e => Heap.get?_push_of_some _ e
  generalize s.heap.objs.size = S at *
  generalize s.heap.push (lstO #[]) = H at *
  refine codeC_call_slot F.called_list.init ⟨_, hS0, rfl⟩ F.entry_list_init (F.args_list_init_2 _ _) ?_
  show wpC _ A'.in1 (do let old ← Builtin.List.listItems (.ref S); Builtin.List.listUpdate (.ref S) (fun _ => #[]); letGo old.toList.reverse; Builtin.List.listExtendWith (.ref S) (.ref M2) .none) _ _ _
  refine wpC_bindA ?_
  unfold Builtin.List.listItems
  refine wpAny_bind (wpAny_seqItems hS0 rfl (wpAny_pure ?_))
  show wpC _ A'.in1 (updateSeq S (fun _ => #[]) >>= fun _ => letGo (#[] : Array Value).toList.reverse >>= fun _ => Builtin.List.listExtendWith (.ref S) (.ref M2) .none) _ _ _
  refine wpC_bindA (wpAny_updateSeq hS0 rfl ?_)
  have hS₁ := Heap.get?_update_self (Obj.mapSeq (fun _ => (#[] : Array Value))) hS0 rfl
  have oth₁ : ∀ b o, b ≠ S → s.heap.get? b = some o → (H.update S (Obj.mapSeq (fun _ => (#[] : Array Value)))).get? b = some o :=
    fun b o hb e => (Heap.get?_update_other _ _ (Ne.symm hb)).trans (up b o e)
  generalize H.update S (Obj.mapSeq (fun _ => (#[] : Array Value))) = H₁ at *
  refine wpC_bindA (wpAny_letGo ?_)
  have hT : ({ s with heap := H₁ } : Shared).TypeIs (.ref M2) "map" := ⟨_, oth₁ _ _ (live _ (by simp)) m.m2, rfl⟩
  unfold Builtin.List.listExtendWith
  refine wpC_bindA (wpAny_typeOf hT ?_)
  have h1 : Builtin.List.listSameRef (.ref S) (.ref M2) = false := by simp [Builtin.List.listSameRef, Ne.symm (live M2 (by simp))]
  have h2 : (Value.type "map" == Value.type "list") = false := by decide
  have h3 : (Value.type "map" == Value.type "tuple") = false := by decide
  simp only [h1, h2, h3, Bool.or_false, Bool.false_eq_true, if_false]
  refine wpC_bindA (pyIter_map (oth₁ _ _ (live _ (by simp)) m.m2) ?_)
  refine wpC_bindA (wpAny_holding ?_)
  unfold Builtin.List.listLengthHint
  refine wpAny_bind (wpAny_specialOf hT map_no_len ?_)
  show wpAny _ A'.in1 (specialOf (Value.ref M2) (Str.ofString "__length_hint__") >>= _) _ _ _
  refine wpAny_bind (wpAny_specialOf hT map_no_hint ?_)
  refine wpAny_pure ?_
  show wpC _ A'.in1 (rule "list.extend.makes-room" >>= fun _ => Builtin.List.listTouch (.ref S) >>= fun _ =>
    again (.builtin "list.extend.loop" ⟨[.ref S, .ref M2, .none], []⟩)) _ _ _
  refine wpC_bindA (wpAny_rule ?_)
  refine wpC_bindA ?_
  show wpAny _ A'.in1 (updateSeq S (·.push .none) >>= fun _ => updateSeq S (·.pop)) _ _ _
  refine wpAny_bind (wpAny_updateSeq hS₁ rfl ?_)
  have hS₂ := Heap.get?_update_self (Obj.mapSeq (·.push Value.none)) hS₁ rfl
  refine wpAny_updateSeq (hz := by seq_fits) hS₂ rfl ?_
  have hS₃ := Heap.get?_update_self (Obj.mapSeq (·.pop)) hS₂ rfl
  have oth : ∀ b o, b ≠ S → s.heap.get? b = some o → ((H₁.update S (Obj.mapSeq (·.push Value.none))).update S (Obj.mapSeq (·.pop))).get? b = some o :=
    fun b o hb e => (Heap.get?_update_other _ _ (Ne.symm hb)).trans ((Heap.get?_update_other _ _ (Ne.symm hb)).trans (oth₁ b o hb e))
  have kb : KeptBut S L s { s with heap := (H₁.update S (Obj.mapSeq (·.push Value.none))).update S (Obj.mapSeq (·.pop)) } := ⟨fun b o hb _ e => oth b o hb e, rfl, rfl, Nat.le_refl _⟩
  refine wpC_pure ⟨plainId_quiet F.plain_extend_loop _, map_loop (S := S) (L := L) (acc := []) rfl hn hl hrp hsm live ts.length 0 A' R' _ hA' rfl (Nat.zero_le _) (m.keep fun b o hb e => oth b o (live b hb) e) ⟨_, hS₃⟩ rfl (fun t ht => by simp at ht) ?_ ?_⟩
  · exact fun s' acc' c' g k h1 h2 => hok s' (ok s' acc' c' g (kb.trans k) h1 h2)
  · exact fun s₁ s' e h1 k ne h2 h3 h4 => hbad _ s' (bad s₁ s' e h1 (kb.trans k) ne h2 h3 h4)
end
end Mine
end
section
open PySem PySem.W PyProof.Rows PySem.Calls PySem.NumText
open Sem (wp)
set_option Elab.async false
set_option maxRecDepth 100000
set_option linter.unusedVariables false
namespace Mine
/-- as fnc_body, where the binding is a walk of its own -/
theorem fnc_body2 {w : World} {H₀ : Heap} {f : Addr} {o : Obj} {fd : FuncData} {body : List Stmt} {k : Nat} {args : List D} {r : D} (names : List Str) (args' : List D) (J : Addr → Side)
    (ho : (KF w).lookup f = some o) (hd : o.data = .func fd) (hb : fd.body = .stmts body)
    (hcd : ∃ c oc vs t, fd.code = .ref c ∧ (KF w).lookup c = some oc ∧ oc.data = .fields vs ∧ vs[1]? = some (.str fd.qualname t))
    (hco : fd.scope.isCoroutine = false) (hgen : fd.scope.isGenerator = false) (hk : fd.scope.kind = .function) (hclo : fd.closure = []) (hgl : fd.globals = mainGlobals) (hbt : fd.builtins = builtinsNs)
    (hlen : names.length = args'.length)
    (hbind : ∀ (A : Around) (F : Addr → Prop) (s : Shared) (vs : List Value) (Q : List (Str × Value) → Shared → Prop) (E : Value → Shared → Prop), (KF w).In s.heap → Live F s.heap → Reps F s.heap vs args →
      (∀ ws h', (∀ b o, s.heap.get? b = some o → h'.get? b = some o) → Reps F h' ws args' → Q (names.zip ws) { s with heap := h' }) → wpAny (model PR w) A (bindArgs fd ⟨vs, []⟩) Q E s)
    (hJ : ∀ s : Shared, HG H₀ s.heap → (J s.heap.objs.size).P (pushCells (s.heap.push { cls := .type "frame", data := .dict #[] }) fd.scope.names))
    (hsto : ∀ (A : Around) (sE : Shared) (F : Addr → Prop), HG H₀ sE.heap → Live F sE.heap → ∀ n ∈ names, Stores (fX w H₀ k fd f A sE F) (J sE.heap.objs.size) n)
    (h : ∀ (A : Around) (sE : Shared) (F : Addr → Prop), HG H₀ sE.heap → Live F sE.heap → SsC (fX w H₀ k fd f A sE F) (bindAll (fun _ => none) (names.zip args')) (J sE.heap.objs.size) body (Ret F H₀ sE r)) (hoff : ∀ L, ¬ (J L).N L := by intro _ h; exact h) :
    FnC w H₀ (.ref f) (k + 1) args r := by
  refine fnc_of0 fun F A s₀ vs Q E fl₀ R₀ rp₀ q₀ => ?_
  have hkin₀ := R₀.hg.kin R₀.B
  obtain ⟨c, oc, vc, tc, e1, e2, e3, e4⟩ := hcd
  have hcd' : s₀.heap.CodeRec fd.code fd.qualname := ⟨c, oc, vc, tc, e1, hkin₀ _ _ e2, e3, e4⟩
  refine wpC_call (codeC_call_function R₀.rm.room (hkin₀ _ _ ho) hd hco hgen hb hcd' ?_)
  refine hbind _ F s₀ vs _ _ hkin₀ fl₀ rp₀ fun ws h₁ hkeep rp => ?_
  have n₀ : Nx H₀ s₀ { s₀ with heap := h₁ } := ⟨⟨.of_keep hkeep, rfl, id⟩, Nat.le_refl _⟩
  have R := R₀.next n₀
  have fl : Live F h₁ := fl₀.next n₀.kp R₀.hg.tab
  have q : ∀ v s', Nx0 H₀ { s₀ with heap := h₁ } s' → Rep F s'.heap v r → Q v s' := fun v s' n r => q₀ v s' (n₀.toNx0.trans n) r
  generalize hs : ({ s₀ with heap := h₁ } : Shared) = s at *
  have hh : s.heap = h₁ := by rw [← hs]
  rw [← hh] at rp fl
  clear q₀ n₀ hs hh R₀ rp₀ fl₀ hkin₀ hcd' hkeep
  rw [hclo]
  simp only [newFunctionEnv, Option.isSome_none, Bool.false_eq_true, if_false]
  refine wpAny_bind (wpAny_alloc ?_)
  refine wpAny_bind (wpAny_layCells _ (fun name kind cells => by cases hkc : kind == NameKind.cell <;> simp [hkc]) _ _ _ _ ?_)
  rw [show ({ s with heap := s.heap.push { cls := .type "frame", data := .dict #[] } } : Shared).heap.objs.size = s.heap.objs.size + 1 from Heap.size_push ..]
  have keep : ∀ b o, s.heap.get? b = some o → (pushCells (s.heap.push { cls := .type "frame", data := .dict #[] }) fd.scope.names).get? b = some o :=
    fun b o e => pushCells_keeps _ _ b o (Heap.get?_push_of_some _ e)
  have hL : (pushCells (s.heap.push { cls := .type "frame", data := .dict #[] }) fd.scope.names).get? s.heap.objs.size = some { cls := .type "frame", data := .dict #[] } :=
    pushCells_keeps _ _ _ _ (Heap.get?_push_size _ rfl)
  have hnew := R.hg.new
  have S₀ : St (fX w H₀ k fd f A s F) (fun _ => none) (J s.heap.objs.size) { s with heap := pushCells (s.heap.push { cls := .type "frame", data := .dict #[] }) fd.scope.names } := {
    rd := ⟨R.B, R.hg.next (.of_keep keep), by
      obtain ⟨l, e, y⟩ := R.fr.next (.of_keep keep)
      refine ⟨callEnvC fd s.heap.objs.size f :: l, by show A.frames.map _ = _; rw [e]; rfl, fun z hz => ?_⟩
      rcases List.mem_cons.mp hz with rfl | hz
      · exact ⟨by show fd.scope.kind ≠ _; rw [hk]; decide, s.heap.objs.size, _, rfl, hnew.2, hnew.1, hL, rfl, _, _, rfl⟩
      · exact y z hz, R.gens, R.rm.deeper _, R.tk⟩
    nx := ⟨.of_keep keep, rfl, id⟩
    fresh := none_of_size
    lnew := hnew.1
    lpl := hnew.2
    ek := hk
    eg := hgl
    eb := hbt
    lcls := ⟨_, hL⟩
    vars := ⟨fun _ => none, ⟨_, #[], 0, hL, rfl, fun e he => by simp at he, fun _ => rfl⟩, fun x d e => by cases e⟩
    side := hJ s R.hg
    off := hoff _
    live := fl.next (Kp.of_keep (H₀ := H₀) keep) R.hg.tab }
  refine wpAny_bind (bind_loop (X := fX w H₀ k fd f A s F) (J := J s.heap.objs.size) (fun _ _ _ => rfl) names ws args' (fun _ => none) _ (by rw [hlen, rp.length]) (hsto A s F R.hg fl) S₀ (rp.next (Kp.of_keep (H₀ := H₀) keep) R.hg.tab) fun s' S' => wpAny_pure ?_)
  refine ⟨?_, codeC_func (wpC_mono ((h A s F R.hg fl).go s' (fun _ _ => False) S') (fun fl s'' hr => ?_) fun _ _ x => x)⟩
  · obtain ⟨mc, a, b⟩ := R.B.nolimit
    exact ⟨mc, ns_hg a S'.rd.hg (by decide), b⟩
  · obtain ⟨v, rfl, rv, nv⟩ := hr
    exact q v s'' nv rv
section
variable {X : Cx} {ρ : Str → Option D} {J : Side} {Φ : Flow → Shared → Prop} {rest : List Stmt}

theorem eval_map_go {x f : Str} {F : String} {np fp pos : Pos} {e : Expr} {s : Shared} {Q E : Value → Shared → Prop} (hm : EvV X ρ J (.Name x np) (.type "map")) (hf : EvV X ρ J (.Name f fp) (.type F)) (S : St X ρ J s)
    (he : ∀ s₁, Nx X.H₀ s s₁ → wpAny (model PR X.w) X.A (eval e X.env) (fun v s₂ => wpAny (model PR X.w) X.A.in1.in1 (pyIter v) (fun it s₃ => ∀ M T h', (∀ b o, s₃.heap.get? b = some o → h'.get? b = some o) → h'.get? T = some { cls := .type "tuple", data := .seq #[it] } → h'.get? M = some (mapO T (.type F)) → Q (.ref M) { s₃ with heap := h' }) E s₂) E s₁)
    (hs : notStar e = true := by rfl) :
    wpAny (model PR X.w) X.A (eval (.Call (.Name x np) [.Name f fp, e] [] pos) X.env) Q E s := by
  refine wpAny_Call_NameR (hm.go s _ _ S fun s₁ n₁ => PySem.callWith_type (backTo_any (es := [.Name f fp, e]) (by simp only [allPlain, hs]; rfl)) (evalArgs_plain (wpAny_items_cons (hf.go s₁ _ _ (S.next n₁) fun s₂ n₂ => wpAny_items_cons (wpAny_mono (he s₂ (n₁.trans n₂)) (fun v s₃ h₃ => wpAny_items_nil ?_) fun _ _ x => x) (starEach_cons hs)) (starEach_cons rfl))))
  refine call_new called_map (by decide) (typeCall_map_2 _ _) (newCall_map_2 _ _) (fun obj => init_int_2 obj _ _) entry_map_new (map_new (wpAny_mono h₃ (fun it s₄ h₄ => ?_) fun _ _ x => x))
  have e1 := Heap.get?_push_size s₄.heap (o := { cls := .type "tuple", data := .seq #[it] }) rfl
  have e2 := Heap.get?_push_size (s₄.heap.push { cls := .type "tuple", data := .seq #[it] }) (o := mapO s₄.heap.objs.size (.type F)) rfl
  rw [Heap.size_push] at e2
  exact h₄ _ s₄.heap.objs.size _ (fun b o e => Heap.get?_push_of_some _ (Heap.get?_push_of_some _ e)) (Heap.get?_push_of_some _ e1) e2
end
end Mine
end
section
open PySem PySem.W PyProof.Rows PySem.Calls PySem.NumText
open Sem (wp)
set_option Elab.async false
set_option maxRecDepth 100000
set_option linter.unusedVariables false
namespace Mine
local macro_rules | `(tactic| walk_at "look") => `(tactic| first | exact upd_here | exact upd_there (by decide +kernel) (by walk_at "look") | assumption)
/-- a text that int and str take -/
structure SmallT (t : Str) : Prop where
  l : t.length ≤ 640
  rp : (reprText t).length ≤ 1000
  sm : ∀ n, PySem.intText? t = some n → (if n < 0 then 0 - n else n) < 1000000000
section
variable {X : Cx} {ρ : Str → Option D} {J : Side} {Φ : Flow → Shared → Prop} {rest : List Stmt}
theorem listmap_go {lx mx sx nx : Str} {lp mp sp mp2 np lpos mpos mpos2 : Pos} {e : Expr} {ts : List Str} {s : Shared} {Q E : Value → Shared → Prop} (S : St X ρ J s)
    (hl : EvV X ρ J (.Name lx lp) (.type "list")) (hm : EvV X ρ J (.Name mx mp) (.type "map")) (hs : EvV X ρ J (.Name sx sp) (.type "str")) (hm2 : EvV X ρ J (.Name mx mp2) (.type "map")) (hn : EvV X ρ J (.Name nx np) (.type "int"))
    (he : Ev X ρ J e (.lst (ts.map .str))) (hlen : ts.length ≤ 100000) (hsm : ∀ t ∈ ts, SmallT t)
    (ok : (∀ t ∈ ts, (PySem.intText? t).isSome = true) → ∀ v s', Nx0 X.H₀ s s' → Rep X.F s'.heap v (.lst ((ts.map shown).map .str)) → Q v s')
    (bad : (∃ t ∈ ts, PySem.intText? t = none) → ∀ s₀ s' e, Nx X.H₀ s s₀ → Heap.NewExc s₀.heap s'.heap e "ValueError" → s'.os = s₀.os → s'.gens = s₀.gens → s₀.toks ≤ s'.toks → E (.ref e) s')
    (hse : notStar e = true := by rfl) :
    wpC (model PR X.w) X.A (eval (.Call (.Name lx lp) [.Call (.Name mx mp) [.Name sx sp, .Call (.Name mx mp2) [.Name nx np, e] [] mpos2] [] mpos] [] lpos) X.env) Q E s := by
  refine wpC_Call_Name (hl.go s _ _ S fun s₁ n₁ => wpC_callWith_type (by rfl) (evalArgs_plain (wpAny_items_cons (eval_map_go hm hs (S.next n₁) (fun s₂ n₂ => eval_map_go hm2 hn ((S.next n₁).next n₂) (fun s₃ n₃ => he.go s₃ _ _ (((S.next n₁).next n₂).next n₃) fun v s₄ n₄ r₄ => ?_) hse) rfl) (starEach_cons rfl))))
  have nn := ((n₁.trans n₂).trans n₃).trans n₄
  have S₄ := S.next nn
  clear n₁ n₂ n₃ n₄
  obtain ⟨a, vs, n, rfl, hF, ea, ra⟩ := r₄.isLstF
  obtain ⟨l, rfl, hl2⟩ := reps_strs ra
  have S₄L := S₄.rd.hg.new.2
  refine wpAny_pyIter_list (isList_of ea) fun M1 T1 h₁ k₁ t1 m1 => pyIter_map m1 fun M2 T2 h₂ k₂ t2 m2 => wpAny_items_nil ?_
  have k0 : ∀ b o, s₄.heap.get? b = some o → h₂.get? b = some o := fun b o e => k₂ b o (k₁ b o (Heap.get?_push_of_some _ e))
  have hL : s₄.heap.get? s₄.heap.objs.size = none := none_of_size
  have mst : MapSt h₂ M2 T2 M1 T1 s₄.heap.objs.size a (strValues l) 0 :=
    { m2 := m2, t2 := t2, m1 := k₂ _ _ m1, t1 := k₂ _ _ t1, it := ⟨_, k₂ _ _ (k₁ _ _ (Heap.get?_push_size _ rfl)), rfl, rfl⟩, ls := ⟨n, k0 _ _ ea⟩ }
  generalize s₄.heap.objs.size = L at *
  have hlen' : l.length ≤ 100000 := by have := congrArg List.length hl2; simp at this; omega
  have hsm' : ∀ t ∈ l, SmallT t.1 := fun t ht => hsm t.1 (by rw [← hl2]; exact List.mem_map.mpr ⟨t, ht, rfl⟩)
  have kp : ∀ s' : Shared, KeptBut h₂.objs.size L { s₄ with heap := h₂ } s' → Nx X.H₀ s s' := fun s' k => nn.trans ⟨⟨.of_keep fun b o e => k.heap b o (fun hb => by
      subst hb; exact absurd (Heap.lt_size (k0 _ _ e)) (Nat.lt_irrefl _)) (fun hb => by subst hb; rw [hL] at e; cases e) (k0 b o e), k.os, fun g => by rw [k.gens]; exact g⟩, k.toks⟩
  refine list_map S.rd.rm.hh hlen' (fun t ht => (hsm' t ht).l) (fun t ht => (hsm' t ht).rp) (fun t ht => (hsm' t ht).sm) mst (fun s' acc' c' g k hS hacc => ?_) (fun s₁ s' e hb k ne h1 h2 h3 => ?_)
  · refine ok (fun t ht => ?_) _ s' (kp s' k).toNx0 (.lst (n := c') ?_ hS ?_)
    · rw [← hl2] at ht
      obtain ⟨q, hq, rfl⟩ := List.mem_map.mp ht
      exact g q hq
    · intro f
      obtain ⟨o, e⟩ := S₄.live _ f
      exact absurd (Heap.lt_size (k0 _ _ e)) (Nat.lt_irrefl _)
    · have e : ts.map shown = acc'.map (·.1) := by rw [hacc, ← hl2, List.map_map]; rfl
      rw [e]
      exact strs_reps acc'
  · refine bad ?_ s₁ s' e (kp s₁ k) ne h1 h2 h3
    obtain ⟨q, hq, hn⟩ := hb
    exact ⟨q.1, by rw [← hl2]; exact List.mem_map.mpr ⟨q, hq, rfl⟩, hn⟩
end
end Mine
end
section
open PySem PySem.W PyProof.Rows PySem.Calls PySem.NumText
open Sem (wp)
set_option Elab.async false
set_option maxRecDepth 100000
set_option linter.unusedVariables false
namespace Mine
local macro_rules | `(tactic| walk_at "look") => `(tactic| first | exact upd_here | exact upd_there (by decide +kernel) (by walk_at "look") | assumption)
section
variable {X : Cx} {ρ : Str → Option D} {J : Side} {Φ : Flow → Shared → Prop} {rest : List Stmt}
theorem evc_listmap {lx mx sx nx : Str} {lp mp sp mp2 np lpos mpos mpos2 : Pos} {e : Expr} {ts : List Str}
    (hl : EvV X ρ J (.Name lx lp) (.type "list")) (hm : EvV X ρ J (.Name mx mp) (.type "map")) (hs : EvV X ρ J (.Name sx sp) (.type "str")) (hm2 : EvV X ρ J (.Name mx mp2) (.type "map")) (hn : EvV X ρ J (.Name nx np) (.type "int"))
    (he : Ev X ρ J e (.lst (ts.map .str))) (hlen : ts.length ≤ 100000) (hsm : ∀ t ∈ ts, SmallT t) (hg : ts.all (fun t => (PySem.intText? t).isSome) = true) (hse : notStar e = true := by rfl) :
    EvC X ρ J (.Call (.Name lx lp) [.Call (.Name mx mp) [.Name sx sp, .Call (.Name mx mp2) [.Name nx np, e] [] mpos2] [] mpos] [] lpos) (.lst ((ts.map shown).map .str)) :=
  evc_of0 fun s Q E S q => listmap_go S hl hm hs hm2 hn he hlen hsm (fun _ => q) (fun ⟨t, ht, hb⟩ => by
    have := List.all_eq_true.mp hg t ht; rw [hb] at this; cases this) hse
theorem fails_listmap {lx mx sx nx : Str} {lp mp sp mp2 np lpos mpos mpos2 : Pos} {e : Expr} {ts : List Str}
    (hl : EvV X ρ J (.Name lx lp) (.type "list")) (hm : EvV X ρ J (.Name mx mp) (.type "map")) (hs : EvV X ρ J (.Name sx sp) (.type "str")) (hm2 : EvV X ρ J (.Name mx mp2) (.type "map")) (hn : EvV X ρ J (.Name nx np) (.type "int"))
    (he : Ev X ρ J e (.lst (ts.map .str))) (hlen : ts.length ≤ 100000) (hsm : ∀ t ∈ ts, SmallT t) (hg : ts.all (fun t => (PySem.intText? t).isSome) = false) (hse : notStar e = true := by rfl) :
    FailsE X ρ J (.Call (.Name lx lp) [.Call (.Name mx mp) [.Name sx sp, .Call (.Name mx mp2) [.Name nx np, e] [] mpos2] [] mpos] [] lpos) :=
  ⟨fun s Q E S q => listmap_go S hl hm hs hm2 hn he hlen hsm (fun h => by
    have : ts.all (fun t => (PySem.intText? t).isSome) = true := List.all_eq_true.mpr h
    rw [hg] at this; cases this) (fun _ => q) hse⟩
theorem ssc_try_fail_name {body orelse : List Stmt} {y z : Str} {yp zp ap tp hpos pos : Pos} {d : D} {L : Addr} (hA : ∃ A₀ : Around, X.A = A₀.deeper X.env) (hf : X.env.frame = some L)
    (hV : nsIn (KF X.w) mainGlobals (Str.ofString "ValueError") = some none) (hv : bootBuiltins (Str.ofString "ValueError") = some (.type "ValueError")) (hk : X.env.kindOf (Str.ofString "ValueError") = some .globalImplicit)
    (hb : Fails X ρ J body) (hz : ρ z = some d) (hzk : X.env.kindOf z = some .local) (hyk : X.env.kindOf y = some .local) (hr : SsC X (upd ρ y d) J rest Φ)
    (hd : (z == ("__debug__" : Str)) = false := by decide +kernel) :
    SsC X ρ J (.Try body [.ExceptHandler (some (.Name (Str.ofString "ValueError") tp)) none [.Assign [.Name y yp] (.Name z zp) ap] hpos] orelse [] pos :: rest) Φ := by
  refine ssc_try_fail hA hf hV hv hk hb (fun A' s Q E S q => ?_) hr
  obtain ⟨mv, n, v⟩ := S.vars
  obtain ⟨v, hv, r⟩ := v z d hz
  refine wpAny_execs_cons (wpAny_Assign_Name (wpAny_Name ?_ hd) (swaps_plain rfl))
  rcases hv with ⟨k, e⟩ | ⟨k | k, c, e1, e2⟩
  · exact wpAny_loadName_local S.ek k n e (store_local S r hyk fun s₂ S₂ _ => wpAny_execs_nil (q s₂ S₂))
  · rw [hzk] at k; cases k
  · rw [hzk] at k; cases k
theorem ssc_if_append {t : Expr} {x : Str} {np ap cp pos pos2 : Pos} {e : Expr} {a : Addr} {ds : List D} {d : D} {c : Bool} (ht : Tr X ρ ((Own X.F a ds).and J) t c) (hx : ρ x = some (.obj a)) (hv : Ev X ρ ((Own X.F a ds).and J) e d) (hz : ds.length ≤ 1000000)
    (hF : X.F a) (hE : X.sE.heap.get? a = none) (h0 : X.H₀.get? a = none) (hM : J.M a) (hN : ¬ J.N a) (h : SsC X ρ ((Own X.F a (ds ++ if c then [d] else [])).and J) rest Φ)
    (hd : (x == ("__debug__" : Str)) = false := by decide +kernel) (hc : (x == ("__classdict__" : Str)) = false := by decide +kernel) (hs : notStar e = true := by rfl)
    (hline : (ap.endLine == cp.line) = true := by rfl) (hi : interactive X.env = false := by rfl) :
    SsC X ρ ((Own X.F a ds).and J) (.If t [.Expr (.Call (.Attribute (.Name x np) "append" ap) [e] [] cp) pos] [] pos2 :: rest) Φ := by
  refine ssc_if ht (fun hc' => ?_) (fun hc' => ?_)
  · rw [if_pos hc'] at h
    exact ssc_append hx hv hz hF hE h0 hM hN h hd hc hs hline hi
  · rw [if_neg (by rw [hc']; decide), List.append_nil] at h
    exact h
end
theorem cutL_take {α : Type} (l : List α) (n : Nat) (h : (n : Int) ≤ 1000) : cutL l none (some n) = l.take n := by
  unfold cutL
  simp only [Option.elim, List.drop_zero, Nat.sub_zero]
  have e : clipAt l.length ((n : Nat) : Int) = min n l.length := by unfold clipAt; omega
  rw [e]
  rcases Nat.le_total n l.length with h1 | h1
  · rw [Nat.min_eq_left h1]
  · rw [Nat.min_eq_right h1, List.take_length, List.take_of_length_le h1]
def normL (ts : List Str) : List Str := if ts.all (fun t => (PySem.intText? t).isSome) then ts.map shown else ts
def normOf (ts : List Str) : Str := Txt.join "." ((normL ts).take 3)

theorem bind2 {w : World} {A : Around} {s : Shared} {Q : List (Str × Value) → Shared → Prop} {E : Value → Shared → Prop} {fd : FuncData} {o : Obj} (hK : (KF w).In s.heap) (ho : (KF w).lookup 52 = some o) (hd : o.data = .func fd) {a b : Value}
    (q : Q [(Str.ofString "version", a), (Str.ofString "build", b)] s) : wpAny (model PR w) A (bindArgs fd ⟨[a, b], []⟩) Q E s := by
  obtain rfl : o = _ := (Option.some.inj (ho.symm.trans rfl))
  cases hd
  unfold bindArgs
  simp only [List.forIn_nil, pure_bind]
  refine wpAny_bind (wpAny_seqItems (hK 45 _ rfl) rfl ?_)
  exact wpAny_of_eq (a := [(Str.ofString "version", a), (Str.ofString "build", b)]) (by kernel_rfl) q

structure NormOk (ver build : Str) : Prop where
  vl : ver.length ≤ 100000
  len : (Txt.split ver ".").length ≤ 90000
  sm : ∀ t ∈ Txt.split ver ".", SmallT t
  bs : SmallT build
  jo : JoinOk "." ((normL (Txt.split ver "." ++ (if build.length != 0 then [build] else []))).take 3) = true

theorem fn_norm (w : World) (H₀ : Heap) (ver build : Str) (hok : NormOk ver build) :
    FnC w H₀ (.ref 52) 1 [.str ver, .str build] (.str (normOf (Txt.split ver "." ++ (if build.length != 0 then [build] else [])))) := by
  refine fnc_body2 (k := 0) [Str.ofString "version", Str.ofString "build"] [.str ver, .str build] (fun _ => .triv) rfl rfl rfl ⟨_, _, _, _, rfl, rfl, rfl, rfl⟩ rfl rfl rfl rfl rfl rfl rfl (fun A F s vs Q E hK fl rp q => ?_) (fun _ _ => trivial) (fun A sE F _ _ n hn => ?_) (fun A sE F hE hF => ?_)
  · obtain ⟨a, b, rfl, ra, rb⟩ := rp.two
    exact bind2 hK rfl rfl (q [a, b] s.heap (fun _ _ e => e) rp)
  · simp only [List.mem_cons, List.not_mem_nil, or_false] at hn
    rcases hn with rfl | rfl <;> exact stores_local (by kernel_rfl)
  · dsimp only [bindAll, List.zip, List.zipWith]
    refine ssc_own (evn_split (ev_var (by walk_at "look")) ev_str (by decide +kernel) (Nat.le_trans hok.vl (by decide))) (fun a ha hE1 hE2 hJ => ?_)
    have hb : build.length ≤ 16777216 := Nat.le_trans hok.bs.l (by decide)
    refine ssc_if_append (J := .triv) (tr_val (d := .str build) (ev_var (by walk_at "look")) hb) upd_here (ev_var (by walk_at "look")) (by rw [List.length_map]; exact Nat.le_trans hok.len (by decide)) (.inr rfl) hE1 hE2 trivial hJ ?_
    have e1 : (Txt.split ver ".").map D.str ++ (if (D.str build).truth then [D.str build] else []) = (Txt.split ver "." ++ (if build.length != 0 then [build] else [])).map D.str := by
      rw [List.map_append]
      show _ ++ (if build.length != 0 then [D.str build] else []) = _
      split <;> rfl
    rw [e1]
    have hl : (Txt.split ver "." ++ (if build.length != 0 then [build] else [])).length ≤ 100000 := by
      have := hok.len
      rw [List.length_append]
      split <;> simp <;> omega
    have hs : ∀ t ∈ Txt.split ver "." ++ (if build.length != 0 then [build] else []), SmallT t := by
      intro t ht
      rcases List.mem_append.mp ht with ht | ht
      · exact hok.sm t ht
      · split at ht
        · rw [List.mem_singleton.mp ht]; exact hok.bs
        · cases ht
    have hjo := hok.jo
    generalize Txt.split ver "." ++ (if build.length != 0 then [build] else []) = ts at *
    refine ssc_disown ha upd_here ?_
    have hn : (normL ts).length ≤ 100000 := by unfold normL; split <;> simpa using hl
    have cut : ∀ l : List Str, l = normL ts → cutL (l.map D.str) none (some 3) = ((normL ts).take 3).map D.str := by
      rintro l rfl
      rw [show (some (3 : Int)) = some ((3 : Nat) : Int) from rfl, cutL_take _ 3 (by decide), List.map_take]
    cases hg : ts.all (fun t => (PySem.intText? t).isSome) with
    | true =>
      have e : ts.map shown = normL ts := by unfold normL; rw [if_pos hg]
      refine ssc_try_ok (ssc_assign (evc_listmap (evv_builtin (by kernel_rfl) (by kernel_rfl) (by kernel_rfl)) (evv_builtin (by kernel_rfl) (by kernel_rfl) (by kernel_rfl)) (evv_builtin (by kernel_rfl) (by kernel_rfl) (by kernel_rfl)) (evv_builtin (by kernel_rfl) (by kernel_rfl) (by kernel_rfl)) (evv_builtin (by kernel_rfl) (by kernel_rfl) (by kernel_rfl)) (ev_var (by walk_at "look")) hl hs hg) (ssc_nil fun s S => ⟨rfl, S⟩)) (ssc_nil fun s S => ⟨rfl, S⟩) ?_
      refine ssc_assign (evc_of (ev_join_lst (ts := (normL ts).take 3) ev_str ?_ hjo)) (ssc_ret (evc_of (ev_var (by walk_at "look"))))
      rw [← cut _ e]
      exact ev_cut_lst (ev_var (by walk_at "look")) trivial ev_int (by rw [List.length_map, e]; exact Nat.le_trans hn (by decide))
    | false =>
      have e : ts = normL ts := by unfold normL; rw [if_neg (by rw [hg]; decide)]
      refine ssc_try_fail_name ⟨_, rfl⟩ rfl (by kernel_rfl) (by kernel_rfl) (by kernel_rfl) (fails_assign (fails_listmap (evv_builtin (by kernel_rfl) (by kernel_rfl) (by kernel_rfl)) (evv_builtin (by kernel_rfl) (by kernel_rfl) (by kernel_rfl)) (evv_builtin (by kernel_rfl) (by kernel_rfl) (by kernel_rfl)) (evv_builtin (by kernel_rfl) (by kernel_rfl) (by kernel_rfl)) (evv_builtin (by kernel_rfl) (by kernel_rfl) (by kernel_rfl)) (ev_var (by walk_at "look")) hl hs hg)) upd_here (by kernel_rfl) (by kernel_rfl) ?_
      refine ssc_assign (evc_of (ev_join_lst (ts := (normL ts).take 3) ev_str ?_ hjo)) (ssc_ret (evc_of (ev_var (by walk_at "look"))))
      rw [← cut _ e]
      exact ev_cut_lst (ev_var (by walk_at "look")) trivial ev_int (by rw [List.length_map, e]; exact Nat.le_trans hn (by decide))
end Mine
end
section
open PySem PySem.W PyProof.Rows PySem.Calls PySem.NumText
open Sem (wp)
set_option Elab.async false
set_option maxRecDepth 100000
set_option linter.unusedVariables false
namespace Mine
abbrev ne0 (p : Str × Tok) : Bool := p.1.length != 0
theorem filter_empty {l : List (Str × Tok)} (h : l.all (fun p => p.1.length == 0) = true) : l.filter ne0 = [] := by
  rw [List.filter_eq_nil_iff]
  intro a ha
  have := List.all_eq_true.mp h a ha
  simp only [beq_iff_eq] at this
  simp [ne0, this]
section
variable {w : World} {A : Around} {E : Value → Shared → Prop} {s : Shared} {R : Result → Shared → Prop}
theorem pyIter_filter {F L : Addr} {Q : Value → Shared → Prop} (hM : s.heap.get? F = some (filO L)) (h : Q (.ref F) s) : wpAny (model PR w) A (pyIter (.ref F)) Q E s := by
  have hT : s.TypeIs (.ref F) "filter" := ⟨_, hM, rfl⟩
  refine wpAny_pyIter_slot hT slot_filter_iter (wpAny_call_entry slot_filter_iter hT entry_filter_iter ?_ (args_filter_iter_1 _))
  show wpAny _ _ (ret (.ref F)) _ _ s
  exact wpAny_pure ⟨_, rfl, "filter", _, hT, slot_filter_next.lookup, h⟩

theorem pyNext_filter {F L t : Addr} {ts : List (Str × Tok)} {j : Nat} {Q : Option Value → Shared → Prop} (hA : A.handled = none) (hl : ∀ x ∈ ts, x.1.length ≤ 16777216) (hj : j ≤ ts.length) (m : FilSt s.heap F L t (strValues ts) j)
    (item : ∀ m x u h' tk, ts[m]? = some (x, u) → x.length ≠ 0 → j ≤ m → ((ts.drop j).take (m - j)).all (fun p => p.1.length == 0) = true → FilSt h' F L t (strValues ts) (m + 1) → Heap.ExtBut L s.heap h' → Q (some (.str x u)) { s with heap := h', toks := tk })
    (ending : ∀ h' tk, (ts.drop j).all (fun p => p.1.length == 0) = true → Heap.ExtBut L s.heap h' → Q none { s with heap := h', toks := tk }) :
    wpAny (model PR w) A (pyNext (.ref F)) Q E s := by
  have hT : s.TypeIs (.ref F) "filter" := ⟨_, m.f, rfl⟩
  unfold pyNext
  refine wpAny_bind (wpAny_attempt (wpAny_callSpecial?_slot (name := Str.ofString "__next__") hT slot_filter_next (wpAny_call (codeAny_of_tree ?_))))
  show wpAny _ _ (do checkBuiltinCall "filter.__next__" ⟨[.ref F], []⟩; again (.builtin "filter.__next__" ⟨[.ref F], []⟩)) _ _ s
  refine wpAny_bind (slot_filter_next.check _ _ _ _ _ _ _ _ hT (args_filter_next_1 _) (wpAny_pure ⟨plainId_quiet (by decide +kernel) _, filter_code hl (ts.length - j) j _ _ _ hA rfl hj m (fun m x u h' tk h1 h2 h3 h4 h5 h6 => ?_) (fun h' tk e h1 h2 h3 => ?_)⟩))
  · exact wpAny_pure (item m x u h' tk h1 h2 h3 h4 h5 h6)
  · obtain ⟨o, ho, hc⟩ := h3
    exact wpAny_bind (wpAny_isInstance (T := "StopIteration") (b := true) ⟨o, ho, hc⟩ isSubtype_stop (wpAny_pure (ending h' tk h1 h2)))
end
theorem walks_filter {w : World} {A : Around} (hA : A.handled = none) {F L t : Addr} {ts : List (Str × Tok)} (hl : ∀ x ∈ ts, x.1.length ≤ 16777216) :
    Walks PR w A F [F, L, t] [L] (ts.filter ne0).length (fun i v => ∃ p, (ts.filter ne0)[i]? = some p ∧ v = .str p.1 p.2)
      (fun i h => ∃ j, j ≤ ts.length ∧ ((ts.take j).filter ne0).length = i ∧ FilSt h F L t (strValues ts) j) where
  sub := fun b hb => by simp at hb; simp [hb]
  frame := fun i h h' ⟨j, hj, hi, st⟩ hk => ⟨j, hj, hi, st.keep fun b o hb e => hk b (by simpa using hb) o e⟩
  item := fun i s Q E hi ⟨j, hj, hji, st⟩ hQ => by
    refine pyNext_filter hA hl hj st (fun m x u h' tk hm hx hle hall st' ext => ?_) (fun h' tk hall ext => ?_)
    · have hlt : m < ts.length := (List.getElem?_eq_some_iff.mp hm).1
      have e1 : (ts.take m).filter ne0 = (ts.take j).filter ne0 := by
        have : ts.take m = ts.take j ++ (ts.drop j).take (m - j) := by
          rw [← List.take_add, show j + (m - j) = m by omega]
        rw [this, List.filter_append, filter_empty hall, List.append_nil]
      have hp : ne0 (x, u) = true := by simp [ne0, hx]
      have e2 : ts.filter ne0 = (ts.take m).filter ne0 ++ (x, u) :: (ts.drop (m + 1)).filter ne0 := by
        conv => lhs; rw [← List.take_append_drop m ts]
        rw [List.filter_append]
        congr 1
        rw [List.drop_eq_getElem_cons hlt]
        have := List.getElem?_eq_getElem hlt
        rw [hm] at this
        rw [← Option.some.inj this, List.filter_cons, if_pos hp]
      refine hQ _ h' tk ⟨(x, u), ?_, rfl⟩ ⟨m + 1, hlt, ?_, st'⟩ fun b o hb e => ext b o (by simpa using hb) e
      · rw [e2, e1, List.getElem?_append_right (by omega), hji, Nat.sub_self]; rfl
      · rw [List.take_add_one, hm, List.filter_append, e1, List.length_append, hji]
        simp [hx]
    · exfalso
      have e2 : ts.filter ne0 = (ts.take j).filter ne0 := by
        conv => lhs; rw [← List.take_append_drop j ts]
        rw [List.filter_append, filter_empty hall, List.append_nil]
      rw [e2, hji] at hi
      exact Nat.lt_irrefl _ hi
  done := fun s Q E ⟨j, hj, hji, st⟩ hQ => by
    refine pyNext_filter hA hl hj st (fun m x u h' tk hm hx hle hall st' ext => ?_) (fun h' tk hall ext => hQ h' tk fun b o hb e => ext b o (by simpa using hb) e)
    exfalso
    have hlt : m < ts.length := (List.getElem?_eq_some_iff.mp hm).1
    have e1 : (ts.take m).filter ne0 = (ts.take j).filter ne0 := by
      have : ts.take m = ts.take j ++ (ts.drop j).take (m - j) := by
        rw [← List.take_add, show j + (m - j) = m by omega]
      rw [this, List.filter_append, filter_empty hall, List.append_nil]
    have hp : ne0 (x, u) = true := by simp [ne0, hx]
    have e2 : ts.filter ne0 = (ts.take m).filter ne0 ++ (x, u) :: (ts.drop (m + 1)).filter ne0 := by
      conv => lhs; rw [← List.take_append_drop m ts]
      rw [List.filter_append]
      congr 1
      rw [List.drop_eq_getElem_cons hlt]
      have := List.getElem?_eq_getElem hlt
      rw [hm] at this
      rw [← Option.some.inj this, List.filter_cons, if_pos hp]
    rw [e1] at e2
    have := congrArg List.length e2
    rw [List.length_append, hji, List.length_cons] at this
    omega
  self := fun i s Q E ⟨j, hj, hji, st⟩ hQ => pyIter_filter st.f hQ
end Mine
end
section
open PySem PySem.W PyProof.Rows PySem.Calls PySem.NumText
open Sem (wp)
set_option Elab.async false
set_option maxRecDepth 100000
set_option linter.unusedVariables false
namespace Mine
section
variable {w : World} {A : Around} {E : Value → Shared → Prop} {s : Shared}
theorem newClass_filter (l : List Value) : Builtin.SmallTypes.newClass "filter" ⟨.type "filter" :: l, []⟩ = pure (.type "filter", l) := by
  unfold Builtin.SmallTypes.newClass
  dsimp only [isType]
  simp only [pure_bind, sub_filter, Bool.not_true, Bool.false_eq_true, if_false]
theorem filter_new {f x : Value} {Q : Value → Shared → Prop}
    (h : wpAny (model PR w) A (pyIter x) (fun it s₁ => Q (.ref s₁.heap.objs.size) { s₁ with heap := s₁.heap.push { cls := .type "filter", data := .fields #[f, it] } }) E s) :
    wpAny (model PR w) A (Builtin.«filter.__new__» ⟨[.type "filter", f, x], []⟩) (fun fin s' => ∃ v, fin = .done (.ret v) ∧ s'.TypeIs v "filter" ∧ Q v s') E s := by
  unfold Builtin.«filter.__new__»
  refine wpAny_bind (wpAny_of_eq (newClass_filter _) ?_)
  dsimp only
  refine wpAny_bind (m := Builtin.SmallTypes.refuseKeywords "filter" (.type "filter") _) (wpAny_pure (a := ()) ?_)
  refine wpAny_bind (m := checkCount "filter" 2 2 2) (wpAny_pure (a := ()) ?_)
  refine wpAny_bind (wpAny_mono h (fun it s₁ h₁ => ?_) fun _ _ x => x)
  unfold Builtin.SmallTypes.newRecord
  refine wpAny_bind (wpAny_newObj_type ?_ (by size_fits))
  exact wpAny_pure ⟨_, rfl, ⟨_, Heap.get?_push_size _ rfl, rfl⟩, h₁⟩
end
section
variable {X : Cx} {ρ : Str → Option D} {J : Side}
theorem eval_filter_go {x f : Str} {np fp pos : Pos} {e : Expr} {ts : List Str} {s : Shared} {Q E : Value → Shared → Prop} (hm : EvV X ρ J (.Name x np) (.type "filter")) (hf : EvV X ρ J (.Name f fp) (.builtin "len")) (S : St X ρ J s)
    (he : Ev X ρ J e (.tup (ts.map .str)))
    (q : ∀ F L t l s', Nx X.H₀ s s' → FilSt s'.heap F L t (strValues l) 0 → l.map (·.1) = ts → s.heap.get? F = none → s.heap.get? L = none → L ≠ PL → F ≠ PL → t ≠ PL → Q (.ref F) s')
    (hs : notStar e = true := by rfl) :
    wpAny (model PR X.w) X.A (eval (.Call (.Name x np) [.Name f fp, e] [] pos) X.env) Q E s := by
  refine wpAny_Call_NameR (hm.go s _ _ S fun s₁ n₁ => PySem.callWith_type (backTo_any (es := [.Name f fp, e]) (by simp only [allPlain, hs]; rfl)) (evalArgs_plain (wpAny_items_cons (hf.go s₁ _ _ (S.next n₁) fun s₂ n₂ => wpAny_items_cons (he.go s₂ _ _ ((S.next n₁).next n₂) fun v s₃ n₃ r₃ => wpAny_items_nil ?_) (starEach_cons hs)) (starEach_cons rfl))))
  have n := (n₁.trans n₂).trans n₃
  have S₃ := S.next n
  clear n₁ n₂ n₃
  obtain ⟨a, vs, m, rfl, hF, ea, ra⟩ := r₃.isTupF
  obtain ⟨l, rfl, hl⟩ := reps_strs ra
  have hpl : ∀ b, s₃.heap.objs.size ≤ b → b ≠ PL := by
    rintro b hb rfl
    obtain ⟨ps, e'⟩ := S₃.rd.hg.tab.tabne
    exact absurd (Heap.lt_size e') (Nat.not_lt.mpr hb)
  have hnone : ∀ b, s₃.heap.objs.size ≤ b → s.heap.get? b = none := fun b hb => by
    cases h : s.heap.get? b with
    | none => rfl
    | some o =>
      obtain ⟨o', e', _⟩ := n.kp.frm _ o h (hpl b hb)
      exact absurd (Heap.lt_size e') (Nat.not_lt.mpr hb)
  refine call_new called_filter (by decide) (typeCall_filter_2 _ _) (newCall_filter_2 _ _) (fun obj => init_int_2 obj _ _) entry_filter_new (filter_new (wpAny_pyIter_tuple ⟨_, ea, rfl, m, rfl⟩ ?_))
  have e1 := Heap.get?_push_size s₃.heap (o := { cls := .type "tuple_iterator", data := .fields #[.ref a, .int 0 0] }) rfl
  refine q _ s₃.heap.objs.size a l _ (n.trans ⟨⟨.of_keep fun b o e => Heap.get?_push_of_some _ (Heap.get?_push_of_some _ e), rfl, id⟩, Nat.le_refl _⟩) ⟨Heap.get?_push_size _ rfl, ⟨_, Heap.get?_push_of_some _ e1, rfl, rfl⟩, ⟨m, Heap.get?_push_of_some _ (Heap.get?_push_of_some _ ea)⟩⟩ hl ?_ (hnone _ (Nat.le_refl _)) (hpl _ (Nat.le_refl _)) ?_ ?_
  · exact hnone _ (by show _ ≤ (s₃.heap.push _).objs.size; rw [Heap.size_push]; exact Nat.le_succ _)
  · exact hpl _ (by show _ ≤ (s₃.heap.push _).objs.size; rw [Heap.size_push]; exact Nat.le_succ _)
  · rintro rfl
    obtain ⟨ps, e'⟩ := S₃.rd.hg.tab.tabne
    rw [ea] at e'; cases e'
theorem code_go {w : World} {H₀ : Heap} {A : Around} {E : Value → Shared → Prop} {s : Shared} {env : Env} {pos : Pos} {qn : Str} {scope : Scope} {Q : Value → Shared → Prop} (B : Base w H₀) (hg : HG H₀ s.heap) (hc : env.code = .ref PC) (hp : pos.line = 49 ∧ pos.col = 24)
    (q : ∀ c h' tk, Heap.ExtBut PL s.heap h' → Tab h' → s.heap.objs.size ≤ h'.objs.size → Q c { s with heap := h', toks := tk }) : wpAny (model PR w) A (genexprCode env pos qn scope) Q E s := by
  obtain ⟨ps, t1, t2, t3⟩ := id hg.tab
  rcases t3 with rfl | ⟨c, rfl⟩
  · refine wpAny_genexprCodeX hc t1 t2 rfl fun c' h' tk hx hge hlt hcode' hrec htab' hex => q _ h' tk hx ⟨_, hcode', htab', .inr ⟨c', ?_⟩⟩ (by omega)
    rw [hp.1, hp.2]; rfl
  · refine wpAny_genexprCode_hit hc t1 (c' := .ref c) ?_ (q _ s.heap s.toks (Heap.ExtBut.refl _ _) hg.tab (Nat.le_refl _))
    show codeAmong pos [.int 49 0, .int 24 0, .ref c] = _
    simp [codeAmong, hp.1, hp.2]
end
end Mine
end
section
open PySem PySem.W PyProof.Rows PySem.Calls PySem.NumText
open Sem (wp)
set_option Elab.async false
set_option maxRecDepth 100000
set_option linter.unusedVariables false
namespace Mine
section
variable {X : Cx} {ρ : Str → Option D} {J : Side}
abbrev gscope : Scope := { kind := .function, names := [(Str.ofString ".0", .local), (Str.ofString "x", .local)], isGenerator := true, isCoroutine := false }
theorem quiet_strip {w : World} {env : Env} {L' : Addr} {code : Value} {bi : Addr} {p1 p2 p3 : Pos} {fp wr : List Addr} {ls : List (Str × Tok)} {href : Heap} {Dm U : Nat} (hl : ∀ x ∈ ls, x.1.length ≤ 16777216) (hline : (p2.endLine == p3.line) = true) :
    QuietGenD PR w (genEnv gscope [] L' code bi env) (Str.ofString "x") [] (.Call (.Attribute (.Name (Str.ofString "x") p1) "strip" p2) [] [] p3) fp wr (fun i v => ∃ p, (ls.filter ne0)[i]? = some p ∧ v = .str p.1 p.2) (fun _ => true)
      (fun i v => ∃ p, (ls.filter ne0)[i]? = some p ∧ ∃ u, v = .str (Txt.strip p.1) u) href Dm U where
  tests := fun A' E' i v s₂ m₂ hA _ _ hP hn hm _ => wpAny_tests_nil ⟨rfl, s₂.heap, s₂.toks, rfl, fun _ _ e => e⟩
  elt := fun A' E' i v s₂ m₂ hA _ _ hP _ hn hm _ => by
    obtain ⟨p, hp, rfl⟩ := hP
    refine wpAny_Call_method_lateS (attrBase_plain rfl) rfl hline (wpAny_Name (wpAny_loadName_local rfl (by show gscope.names.lookup _ = _; kernel_rfl) hn hm ?_) (by decide +kernel))
    refine ⟨"str", "str.strip", F.plainAttrs_str, F.slot_str_strip, F.type_str_strip, typeIs_str _ _ _, (fun _ e => nomatch e), callWith_builtin rfl (PySem.evalArgs_none (SC.strip (fun t' k => ⟨⟨p, hp, t', rfl⟩, s₂.heap, k, rfl, fun _ _ e => e⟩) ?_))⟩
    exact hl p (List.mem_filter.mp (List.mem_of_getElem? hp)).1
theorem passing_all (n : Nat) : passing (fun _ => true) n 0 = List.range n := by
  unfold passing
  simp

theorem ev_join_gen {cp ap pos p1 p2 p3 tp fp np gp ip : Pos} {ck : Nat} {e : Expr} {ts : List Str} (hcode : X.env.code = .ref PC) (hgp : gp.line = 49 ∧ gp.col = 24)
    (hf : EvV X ρ J (.Name (Str.ofString "filter") fp) (.type "filter")) (hlen : EvV X ρ J (.Name (Str.ofString "len") np) (.builtin "len")) (he : Ev X ρ J e (.tup (ts.map .str)))
    (hl : ∀ x ∈ ts, x.length ≤ 1000000) (hz : ts.length ≤ 1000000)
    (hok : JoinOk "-" ((ts.filter fun x => x.length != 0).map Txt.strip) = true) (hline : (p2.endLine == p3.line) = true := by rfl) (hse : notStar e = true := by rfl) (hj : (ap.endLine == pos.line) = true := by rfl) :
    Ev X ρ J (.Call (.Attribute (.Constant (.str "-") ck cp) "join" ap) [.GeneratorExp (.Call (.Attribute (.Name (Str.ofString "x") p1) "strip" p2) [] [] p3)
      [⟨.Name (Str.ofString "x") tp, .Call (.Name (Str.ofString "filter") fp) [.Name (Str.ofString "len") np, e] [] ip, [], 0⟩] gscope gp] [] pos) (.str (Txt.join "-" ((ts.filter fun x => x.length != 0).map Txt.strip))) := by
  refine ev_of fun s Q E S q => ?_
  refine wpAny_Call_method_lateS (attrBase_plain rfl) rfl hj (ev_str.go s _ _ S fun ov s₁ n₁ r₁ => ?_)
  obtain ⟨tk, rfl⟩ := r₁.isStr
  refine ⟨"str", "str.join", F.plainAttrs_str, F.slot_str_join, F.type_str_join, typeIs_str _ _ _, (fun _ e => nomatch e), callWith_builtin rfl (evalArgs_plain (spliced_cons ?_))⟩
  simp only [Bool.false_eq_true, if_false]
  have S₁ := S.next n₁
  refine wpAny_GeneratorExp_walksQD S.rd.rm.hh rfl (closureFor_none (by decide +kernel)) (by decide +kernel) (by kernel_rfl) (by kernel_rfl) rfl S.rd.rm.room ?_ (fun _ => rfl)
  refine eval_filter_go hf hlen S₁ he (fun F L t l s₂ n₂ fil hlts hF0 hL0 hLp hFp htp => ?_) hse
  refine pyIter_filter fil.f ?_
  have S₂ := S₁.next n₂
  have hlim : s₂.heap.NoLimit := by
    obtain ⟨mc, a, b⟩ := S₂.rd.B.nolimit
    exact ⟨mc, ns_hg a S₂.rd.hg (by decide), b⟩
  refine ⟨hlim, code_go S₂.rd.B S₂.rd.hg hcode hgp fun c h₃ tk₃ hx₃ tab₃ hsz₃ => ?_⟩
  obtain ⟨mg, bm, ob, M⟩ := S₂.rd.B.bm
  obtain ⟨ps, tabe⟩ := S₂.rd.B.tab.tabne
  have hbm : bm ≠ PL := by rintro rfl; have := M.obj; rw [tabe] at this; cases this; exact absurd M.cls (show ¬ (Value.none = Value.type "module") by decide)
  have hgm : mainGlobals ≠ PL := by decide
  have up₃ : ∀ b o, X.H₀.get? b = some o → b ≠ PL → h₃.get? b = some o := fun b o e hb => hx₃ b o hb (S₂.rd.hg.old b o e hb)
  have M₃ : BMod h₃ X.env.globals mg bm ob := by
    rw [S.eg]
    exact ⟨M.ns.at' fun o e => up₃ _ o e hgm, M.name, M.ne, up₃ _ _ M.obj hbm, M.cls, M.dict, M.data⟩
  refine wpAny_builtinsFor M₃.ns M₃.name M₃.ne M₃.obj M₃.cls M₃.dict M₃.data ?_
  have hls : ∀ x ∈ l, x.1.length ≤ 16777216 := fun x hx => Nat.le_trans (hl x.1 (by rw [← hlts]; exact List.mem_map.mpr ⟨x, hx, rfl⟩)) (by decide)
  have fil₃ : FilSt h₃ F L t (strValues l) 0 := fil.keep fun b o hb e => hx₃ b o (by rcases hb with rfl | rfl | rfl <;> assumption) e
  have hlim₃ : h₃.NoLimit := by
    obtain ⟨mc, a, b⟩ := hlim
    exact ⟨mc, a.at' fun o e => hx₃ _ o (by decide) e, b⟩
  have hcs : cStatics ≠ L := by
    rintro rfl
    obtain ⟨mc, ⟨o, _, _, e, _⟩, _⟩ := S.rd.B.nolimit
    have := S₁.rd.hg.old _ o e (by decide)
    rw [hL0] at this; cases this
  refine ⟨F, [F, L, t], [L], (l.filter ne0).length, _, _, fun _ => true, _, rfl, fun A' hA' => walks_filter hA' hls, ⟨0, Nat.zero_le _, by simp, fil₃⟩, ?_, hlim₃, by simpa using hcs, fun href _ => quiet_strip hls hline, fun a h₅ tk gs hgb hag hsz₅ hk₅ W hat => ?_⟩
  · intro b hb
    have : ∃ o, h₃.get? b = some o := by
      simp only [List.mem_cons, List.not_mem_nil, or_false] at hb
      rcases hb with rfl | rfl | rfl
      · exact ⟨_, fil₃.f⟩
      · obtain ⟨o, e, _⟩ := fil₃.it; exact ⟨o, e⟩
      · obtain ⟨_, e⟩ := fil₃.tp; exact ⟨_, e⟩
    obtain ⟨o, e⟩ := this
    exact Heap.lt_size e
  · refine spliced_nil ?_
    show wpAny _ _ (call (.builtin "str.join") [.str (Str.ofString "-") _, .ref a]) _ _ _
    refine SC.joinGen W.in4_2 (fun i s' st => st.1.typeIs) hat ?_ List.mem_cons_self (fun i v hv => ?_) (fun s' lt hm hacc => ?_) ?_
    · intro b hb
      show b < h₅.objs.size
      rw [hsz₅]
      rcases List.mem_cons.mp hb with rfl | hb
      · exact Nat.lt_succ_self _
      · rcases List.mem_cons.mp hb with rfl | hb
        · exact Nat.lt_succ_of_lt hag
        · exact Nat.lt_succ_of_lt (Nat.lt_trans (List.mem_range.mp hb) hag)
    · obtain ⟨j, _, p, _, u, rfl⟩ := hv
      exact ⟨_, u, rfl⟩
    · rw [passing_all] at hacc
      have hlt : lt.map (·.1) = (ts.filter fun x => x.length != 0).map Txt.strip := by
        have e1 : (ts.filter fun x => x.length != 0).map Txt.strip = (l.filter ne0).map fun p => Txt.strip p.1 := by
          rw [← hlts, List.filter_map, List.map_map]; rfl
        rw [e1]
        have hszl : lt.length = (l.filter ne0).length := by simpa [strValues] using hacc.1
        apply List.ext_getElem?
        intro j
        by_cases hj : j < lt.length
        · obtain ⟨i, hi, p, hp, u, hv⟩ := hacc.2 j (.str lt[j].1 lt[j].2) (by simp [strValues, List.getElem?_eq_getElem hj])
          rw [List.getElem?_range (by omega)] at hi
          cases hi
          injection hv with h1 _
          simp [List.getElem?_eq_getElem hj, hp, h1]
        · rw [List.getElem?_eq_none (by simpa using hj), List.getElem?_eq_none (by simp only [List.length_map]; omega)]
      rw [hlt]
      refine ⟨hok, fun t' k => q _ _ (n₁.toNx0.trans ?_) (.str _ _)⟩
      have away : ∀ b o, s₁.heap.get? b = some o → b ≠ L := by rintro b o e rfl; rw [hL0] at e; cases e
      have fin : ∀ b o, h₃.get? b = some o → b ≠ L → s'.heap.get? b = some o := fun b o e hb => hm.heap b o (fun hmem => by
        rcases List.mem_cons.mp hmem with rfl | hmem
        · exact Nat.lt_irrefl _ (Heap.lt_size e)
        · exact hb (List.mem_singleton.mp hmem)) (hk₅ b o e)
      refine ⟨⟨fun b o e p c => fin b o (hx₃ b o p (n₂.kp.keep b o e p c)) (away b o e), fun b o e p => ?_, fun b o a p e => fin b o (hx₃ b o p (n₂.kp.old b o a p e)) (away b o e), fun _ => tab₃.of2 fun b o hb e => fin b o e ?_⟩, hm.os.trans n₂.os, fun g => ?_⟩
      · obtain ⟨o', e', r'⟩ := n₂.kp.frm b o e p
        exact ⟨o', fin b o' (hx₃ b o' p e') (away b o e), r'⟩
      · rcases hb with rfl | rfl
        · obtain ⟨o, e⟩ := S.rd.B.pc
          exact away _ _ (S₁.rd.hg.old _ _ e (by decide))
        · exact Ne.symm hLp
      · exact AllBare.movedS (s := { s₂ with gens := s₂.gens.push gs, toks := tk, heap := h₅ }) (s' := s') ((n₂.gens g).push hgb) hm
    · rw [passing_all, List.length_range]
      have := List.length_filter_le ne0 l
      have e := congrArg List.length hlts
      simp only [List.length_map] at e
      show _ ≤ 16777216
      omega
end
end Mine
end
section
open PySem PySem.W PyProof.Rows PySem.Calls
open PySem.Builtin PySem.Builtin.Str PySem.StrLaws
set_option Elab.async false
set_option maxRecDepth 100000
set_option linter.unusedVariables false
namespace Mine
abbrev toL (x : Str) : List Nat := x.cps.toList
def ofL (l : List Nat) : Str := ⟨l.toArray⟩
theorem toL_ofL (l : List Nat) : toL (ofL l) = l := by simp [toL, ofL]
theorem ofL_toL (x : Str) : ofL (toL x) = x := by cases x; simp [toL, ofL]
theorem toL_inj {x y : Str} (h : toL x = toL y) : x = y := by rw [← ofL_toL x, ← ofL_toL y, h]
theorem toL_append (x y : Str) : toL (x ++ y) = toL x ++ toL y := by simp [toL, Str.cps_append]
theorem toL_length (x : Str) : (toL x).length = x.length := by simp [toL, Str.length]

/-- replace, on lists; s signs are passed over -/
def repS (y z : List Nat) : Nat → List Nat → List Nat
  | _, [] => []
  | s + 1, c :: r => repS y z s r
  | 0, c :: r => if y.isPrefixOf (c :: r) then z ++ repS y z (y.length - 1) r else c :: repS y z 0 r

def cutsF (x y : Str) : Nat → Nat → Nat → List Nat
  | 0, _, _ => []
  | k + 1, i, free => if (decide (free ≤ i) && decide (i + y.length ≤ x.length) && subAt x y i) = true then i :: cutsF x y k (i + 1) (i + y.length) else cutsF x y k (i + 1) free
theorem occ_cuts (x y : Str) (limit : Nat) : ∀ (k i free : Nat) (found : Array Nat), found.size + k ≤ limit →
    (forIn (List.range' i k) (found, free) (occBody x y x.length limit)).run.fst.toList = found.toList ++ cutsF x y k i free
  | 0, i, free, found, h => by simp [cutsF]
  | k + 1, i, free, found, h => by
    rw [List.range'_succ, List.forIn_cons]
    have e : occBody x y x.length limit i (found, free) = pure (.yield (if (decide (free ≤ i) && decide (i + y.length ≤ x.length) && subAt x y i) = true then (found.push i, i + y.length) else (found, free))) := by
      unfold occBody
      have hlt : decide (found.size < limit) = true := decide_eq_true (by omega)
      by_cases hc : (decide (free ≤ i) && decide (i + y.length ≤ x.length) && subAt x y i) = true
      · rw [if_pos hc]
        simp only [Bool.and_eq_true, decide_eq_true_eq] at hc
        rw [if_pos ⟨⟨⟨by show found.size < limit; omega, hc.1.1⟩, hc.1.2⟩, hc.2⟩]
      · rw [if_neg hc, if_neg]
        rintro ⟨⟨⟨_, h1⟩, h2⟩, h3⟩
        exact hc (by simp [h1, h2, h3])
    rw [e]
    show (forIn (List.range' (i + 1) k) (if _ then _ else _) (occBody x y x.length limit)).run.fst.toList = _
    rw [cutsF]
    split
    · rw [occ_cuts x y limit k (i + 1) (i + y.length) (found.push i) (by simp; omega)]
      simp
    · rw [occ_cuts x y limit k (i + 1) free found (by omega)]
theorem occ_all (x y : Str) : occurrences x y 0 x.length (x.length + 1) = cutsF x y (x.length + 1) 0 0 := by
  rw [occ_eq]
  have := occ_cuts x y (x.length + 1) (x.length + 1) 0 0 #[] (by simp)
  simpa using this
theorem join_parts_cons (x z : Str) (w a c : Nat) (r : List Nat) : toL (Str.join z (partsFrom x w a (c :: r))) = ((toL x).drop a).take (c - a) ++ toL z ++ toL (Str.join z (partsFrom x w (c + w) r)) := by
  obtain ⟨p, q, e⟩ := partsFrom_ne x w (c + w) r
  show toL (Str.join z (strSub x a c :: partsFrom x w (c + w) r)) = _
  rw [e]
  show toL (strSub x a c ++ z ++ Str.join z (p :: q)) = _
  rw [toL_append, toL_append, toL, strSub_toList]
theorem join_parts_nil (x z : Str) (w a : Nat) : toL (Str.join z (partsFrom x w a [])) = (toL x).drop a := by
  show toL (strSub x a x.length) = _
  rw [toL, strSub_toList]
  exact List.take_of_length_le (by simp [Str.length])
theorem subAt_prefix (x y : Str) (i : Nat) (hy : 1 ≤ y.length) : (decide (i + y.length ≤ x.length) && subAt x y i) = (toL y).isPrefixOf ((toL x).drop i) := by
  rw [subAt_eq, Bool.eq_iff_iff, Bool.and_eq_true, decide_eq_true_eq, beq_iff_eq, List.isPrefixOf_iff_prefix]
  constructor
  · rintro ⟨h1, h2⟩
    rw [← show ((toL x).drop i).take y.length = toL y from h2]
    exact List.take_prefix _ _
  · rintro h
    have hl := h.length_le
    have h3 := List.prefix_iff_eq_take.mp h
    rw [toL_length] at h3
    refine ⟨?_, h3.symm⟩
    rw [toL_length, List.length_drop, toL_length] at hl
    omega
/-- the found places, glued anew -/
theorem glue_cuts (x y z : Str) (hy : 1 ≤ y.length) : ∀ (k i free : Nat), i + k = x.length + 1 →
    (∀ a, free ≤ i → a ≤ i → toL (Str.join z (partsFrom x y.length a (cutsF x y k i free))) = ((toL x).drop a).take (i - a) ++ repS (toL y) (toL z) 0 ((toL x).drop i)) ∧
    (i < free → free ≤ x.length → toL (Str.join z (partsFrom x y.length free (cutsF x y k i free))) = repS (toL y) (toL z) (free - i) ((toL x).drop i))
  | 0, i, free, hk => by
    have hlen := toL_length x
    refine ⟨fun a h1 h2 => ?_, fun h1 h2 => by omega⟩
    rw [cutsF, join_parts_nil, List.drop_of_length_le (show (toL x).length ≤ i by omega)]
    simp only [repS, List.append_nil]
    rw [List.take_of_length_le]
    simp only [List.length_drop]
    omega
  | k + 1, i, free, hk => by
    have hlen := toL_length x
    rw [cutsF]
    have hp := subAt_prefix x y i hy
    constructor
    · intro a h1 h2
      have e1 : (decide (free ≤ i) && decide (i + y.length ≤ x.length) && subAt x y i) = (toL y).isPrefixOf ((toL x).drop i) := by
        rw [← hp, decide_eq_true h1, Bool.true_and]
      rw [e1]
      rcases Nat.lt_or_ge i x.length with hi | hi
      · have hd : (toL x).drop i = (toL x)[i]'(by omega) :: (toL x).drop (i + 1) := List.drop_eq_getElem_cons (by omega)
        cases hpf : (toL y).isPrefixOf ((toL x).drop i) with
        | true =>
          rw [if_pos rfl, join_parts_cons]
          rw [hpf, Bool.and_eq_true, decide_eq_true_eq] at hp
          have := (glue_cuts x y z hy k (i + 1) (i + y.length) (by omega))
          have e2 : toL (Str.join z (partsFrom x y.length (i + y.length) (cutsF x y k (i + 1) (i + y.length)))) = repS (toL y) (toL z) (y.length - 1) ((toL x).drop (i + 1)) := by
            rcases Nat.lt_or_ge (i + 1) (i + y.length) with h | h
            · rw [this.2 h hp.1, show i + y.length - (i + 1) = y.length - 1 by omega]
            · have hy1 : y.length = 1 := by omega
              have := this.1 (i + y.length) (by omega) (by omega)
              rw [this, hy1]
              simp
          rw [e2]
          conv => rhs; rw [hd]
          rw [hd] at hpf
          rw [repS, if_pos hpf, toL_length, List.append_assoc]
        | false =>
          rw [if_neg Bool.false_ne_true, (glue_cuts x y z hy k (i + 1) free (by omega)).1 a (by omega) (by omega)]
          conv => rhs; rw [hd]
          rw [hd] at hpf
          rw [repS, if_neg (by rw [hpf]; decide)]
          have e3 : ((toL x).drop a).take (i + 1 - a) = ((toL x).drop a).take (i - a) ++ [(toL x)[i]'(by omega)] := by
            rw [show i + 1 - a = (i - a) + 1 by omega, List.take_add_one, List.getElem?_drop, show a + (i - a) = i by omega, List.getElem?_eq_getElem (by omega)]
            rfl
          rw [e3, List.append_assoc]
          rfl
      · have hnp : (toL y).isPrefixOf ((toL x).drop i) = false := by
          rw [List.drop_of_length_le (show (toL x).length ≤ i by omega)]
          rw [Bool.eq_false_iff]
          intro h
          have := (List.isPrefixOf_iff_prefix.mp h).length_le
          rw [toL_length] at this
          simp at this
          omega
        rw [hnp, if_neg Bool.false_ne_true, (glue_cuts x y z hy k (i + 1) free (by omega)).1 a (by omega) (by omega)]
        rw [List.drop_of_length_le (show (toL x).length ≤ i by omega), List.drop_of_length_le (show (toL x).length ≤ i + 1 by omega)]
        rw [List.take_of_length_le (by simp only [List.length_drop]; omega), List.take_of_length_le (by simp only [List.length_drop]; omega)]
    · intro h1 h2
      rw [if_neg (by rw [decide_eq_false (by omega)]; simp)]
      have hd : (toL x).drop i = (toL x)[i]'(by omega) :: (toL x).drop (i + 1) := List.drop_eq_getElem_cons (by omega)
      rw [hd, show free - i = (free - (i + 1)) + 1 by omega, repS]
      rcases Nat.lt_or_ge (i + 1) free with h | h
      · exact (glue_cuts x y z hy k (i + 1) free (by omega)).2 h h2
      · have : free = i + 1 := by omega
        subst this
        rw [(glue_cuts x y z hy k (i + 1) (i + 1) (by omega)).1 (i + 1) (Nat.le_refl _) (Nat.le_refl _)]
        simp
theorem replace_repS (x y z : Str) (hy : 1 ≤ y.length) : toL (Txt.replace x y z) = repS (toL y) (toL z) 0 (toL x) := by
  have h := (glue_cuts x y z hy (x.length + 1) 0 0 (by omega)).1 0 (Nat.le_refl _) (Nat.le_refl _)
  simp only [List.drop_zero, Nat.sub_self, List.take_zero, List.nil_append] at h
  unfold Txt.replace
  have h0 : (y.length == 0) = false := beq_eq_false_iff_ne.mpr (by omega)
  rw [h0, Bool.false_and, Bool.or_false, occ_all]
  cases hc : (cutsF x y (x.length + 1) 0 0) with
  | nil =>
    rw [hc, join_parts_nil] at h
    rw [if_pos (show ([] : List Nat).isEmpty = true from rfl), ← h]
    simp
  | cons a r =>
    rw [if_neg (by simp), glued_eq_join, partsBetween_eq, ← hc]
    exact h

theorem repS_one (c d : Nat) : ∀ l : List Nat, repS [c] [d] 0 l = l.map fun a => if a = c then d else a
  | [] => rfl
  | a :: r => by
    rw [repS, List.map_cons, List.isPrefixOf_cons₂, List.isPrefixOf_nil_left, Bool.and_true]
    by_cases h : a = c
    · rw [if_pos (by simp [h]), if_pos h]
      show d :: repS [c] [d] 0 r = _
      rw [repS_one c d r]
    · rw [if_neg (by simp; exact fun e => h e.symm), if_neg h, repS_one c d r]
def colP : Bool → List Nat → List Nat
  | _, [] => []
  | p, c :: r => if c = 45 then (if p then colP true r else 45 :: colP true r) else c :: colP false r
abbrev colR (l : List Nat) : List Nat := repS [45, 45] [45] 0 l
theorem colR_dd (r : List Nat) : colR (45 :: 45 :: r) = 45 :: colR r := by
  show (if ([45, 45] : List Nat).isPrefixOf (45 :: 45 :: r) = true then [45] ++ repS [45, 45] [45] 1 (45 :: r) else _) = _
  rw [if_pos (by simp [List.isPrefixOf])]
  rfl
theorem colR_other (c : Nat) (r : List Nat) (h : ¬ (c = 45 ∧ r.head? = some 45)) : colR (c :: r) = c :: colR r := by
  show (if ([45, 45] : List Nat).isPrefixOf (c :: r) = true then _ else c :: repS [45, 45] [45] 0 r) = _
  rw [if_neg]
  intro hp
  apply h
  cases r with
  | nil => simp [List.isPrefixOf] at hp
  | cons d r =>
    simp [List.isPrefixOf] at hp
    exact ⟨hp.1.symm, by rw [← hp.2]; rfl⟩
theorem colR_spec : ∀ (n : Nat) (l : List Nat), l.length ≤ n → (∀ p, colP p (colR l) = colP p l) ∧ (colR l).length ≤ l.length ∧ ((colR l).length = l.length → colR l = l ∧ ∀ p, (p = true → l.head? ≠ some 45) → colP p l = l)
  | n, [], _ => ⟨fun _ => rfl, Nat.le_refl _, fun _ => ⟨rfl, fun _ _ => rfl⟩⟩
  | 0, c :: r, h => absurd h (by simp)
  | n + 1, c :: r, h => by
    simp only [List.length_cons] at h
    by_cases hd : c = 45 ∧ r.head? = some 45
    · obtain ⟨rfl, hr⟩ := hd
      cases r with
      | nil => cases hr
      | cons d r =>
        cases hr
        simp only [List.length_cons] at h
        obtain ⟨h1, h2, _⟩ := colR_spec n r (by omega)
        rw [colR_dd]
        refine ⟨fun p => ?_, by simp only [List.length_cons]; omega, fun he => ?_⟩
        · cases p <;> simp [colP, h1]
        · simp only [List.length_cons] at he; omega
    · obtain ⟨h1, h2, h3⟩ := colR_spec n r (by omega)
      rw [colR_other c r hd]
      refine ⟨fun p => ?_, by simp only [List.length_cons]; omega, fun he => ?_⟩
      · unfold colP
        rw [h1, h1]
      · simp only [List.length_cons] at he
        obtain ⟨e1, e2⟩ := h3 (by omega)
        refine ⟨by rw [e1], fun p hp => ?_⟩
        unfold colP
        by_cases hc : c = 45
        · subst hc
          have : p = false := by
            cases p with
            | false => rfl
            | true => exact absurd rfl (hp rfl)
          subst this
          rw [if_pos rfl, if_neg Bool.false_ne_true, e2 true fun _ hh => hd ⟨rfl, hh⟩]
        · rw [if_neg hc, e2 false (fun h => by cases h)]
theorem colP_colR (l : List Nat) : colP false (colR l) = colP false l := (colR_spec l.length l (Nat.le_refl _)).1 false
theorem colR_lt (l : List Nat) (h : colR l ≠ l) : (colR l).length < l.length := by
  obtain ⟨_, h2, h3⟩ := colR_spec l.length l (Nat.le_refl _)
  rcases Nat.lt_or_eq_of_le h2 with h4 | h4
  · exact h4
  · exact absurd (h3 h4).1 h
theorem colP_fix (l : List Nat) (h : colR l = l) : colP false l = l := by
  obtain ⟨_, _, h3⟩ := colR_spec l.length l (Nat.le_refl _)
  exact (h3 (by rw [h])).2 false (fun h => by cases h)
def endL (l : List Nat) : List Nat := (l.reverse.dropWhile (· == 45)).reverse
theorem endL_snoc (l : List Nat) : endL (l ++ [45]) = endL l := by simp [endL]
theorem endL_fix (l : List Nat) (h : l.getLast? ≠ some 45) : endL l = l := by
  unfold endL
  cases hl : l.reverse with
  | nil => rw [List.reverse_eq_nil_iff] at hl; subst hl; rfl
  | cons c r =>
    have e : l = r.reverse ++ [c] := by
      have := congrArg List.reverse hl
      simpa using this
    subst e
    have hc : ¬ c = 45 := fun hc => h (by simp [hc])
    rw [List.dropWhile_cons, if_neg (by simpa using hc)]
    simp
end Mine
end
section
open PySem PySem.W PyProof.Rows PySem.Calls PySem.NumText
open Sem (wp)
set_option Elab.async false
set_option maxRecDepth 100000
set_option linter.unusedVariables false
namespace Mine
local macro_rules | `(tactic| walk_at "look") => `(tactic| first | exact upd_here | exact upd_there (by decide +kernel) (by walk_at "look") | assumption)
theorem rep1_len (x y z : Str) (hy : y.length = 1) (hz : z.length = 1) : (Txt.replace x y z).length = x.length := by
  have h := replace_repS x y z (by omega)
  obtain ⟨c, hc⟩ := List.length_eq_one_iff.mp (by rw [toL_length]; exact hy : (toL y).length = 1)
  obtain ⟨d, hd⟩ := List.length_eq_one_iff.mp (by rw [toL_length]; exact hz : (toL z).length = 1)
  rw [hc, hd, repS_one] at h
  rw [← toL_length, h, List.length_map, toL_length]
theorem repS_nil_len (y : List Nat) : ∀ (l : List Nat) (s : Nat), (repS y [] s l).length ≤ l.length
  | [], s => by cases s <;> simp [repS]
  | c :: r, s + 1 => by
    have := repS_nil_len y r s
    simp only [repS, List.length_cons]; omega
  | c :: r, 0 => by
    have h1 := repS_nil_len y r (y.length - 1)
    have h2 := repS_nil_len y r 0
    rw [repS]
    split <;> simp <;> omega
theorem rep0_len (x y z : Str) (hy : 1 ≤ y.length) (hz : z.length = 0) : (Txt.replace x y z).length ≤ x.length := by
  have h := replace_repS x y z hy
  have hz' : toL z = [] := List.length_eq_zero_iff.mp (by rw [toL_length]; exact hz)
  rw [hz'] at h
  have := repS_nil_len (toL y) (toL x) 0
  rw [← h, toL_length, toL_length] at this
  exact this
def plat0 (ts : List Str) : Str := Txt.join "-" ((ts.filter fun x => x.length != 0).map Txt.strip)
def plat1 (x : Str) : Str :=
  Txt.replace (Txt.replace (Txt.replace (Txt.replace (Txt.replace (Txt.replace (Txt.replace (Txt.replace x " " "_") "/" "-") "\\" "-") ":" "-") ";" "-") "\"" "-") "(" "-") ")" "-"
def plat2 (x : Str) : Str := Txt.replace (plat1 x) "unknown" ""
def tidy (x : Str) : Str := ofL (endL (colP false (toL x)))
def platOf (ts : List Str) : Str := tidy (plat2 (plat0 ts))
theorem plat1_len (x : Str) : (plat1 x).length = x.length := by
  unfold plat1
  rw [rep1_len _ _ _ (by decide +kernel) (by decide +kernel), rep1_len _ _ _ (by decide +kernel) (by decide +kernel), rep1_len _ _ _ (by decide +kernel) (by decide +kernel), rep1_len _ _ _ (by decide +kernel) (by decide +kernel), rep1_len _ _ _ (by decide +kernel) (by decide +kernel), rep1_len _ _ _ (by decide +kernel) (by decide +kernel), rep1_len _ _ _ (by decide +kernel) (by decide +kernel), rep1_len _ _ _ (by decide +kernel) (by decide +kernel)]
theorem plat2_len (x : Str) : (plat2 x).length ≤ x.length := by
  have := rep0_len (plat1 x) "unknown" "" (by decide +kernel) (by decide +kernel)
  rw [plat1_len] at this
  exact this
section
variable {X : Cx} {ρ : Str → Option D} {J : Side}
theorem ev_rep1 {o e₁ e₂ : Expr} {apos pos : Pos} {k₁ k₂ : Nat} {p₁ p₂ : Pos} {x y z : Str} (ho : Ev X ρ J o (.str x)) (h₁ : e₁ = .Constant (.str y) k₁ p₁) (h₂ : e₂ = .Constant (.str z) k₂ p₂)
    (hx : x.length ≤ 1000000) (hyz : (y == z) = false := by decide +kernel) (hz : z.length ≤ 1 := by decide +kernel)
    (hbase : plainBase o = true := by rfl) (hline : (apos.endLine == pos.line) = true := by rfl) :
    Ev X ρ J (.Call (.Attribute o "replace" apos) [e₁, e₂] [] pos) (.str (Txt.replace x y z)) :=
  ev_replace ho h₁ h₂ hyz (by
    have h1 : (x.length + 1) * z.length ≤ (x.length + 1) * 1 := Nat.mul_le_mul_left _ hz
    omega) hbase hline
theorem ev_neg1 {k : Nat} {p pos : Pos} : Ev X ρ J (.UnaryOp .USub (.Constant (.int 1) k p) pos) (.int (-1)) :=
  ev_of fun s Q E S q => UnaryOp_ (wpAny_Constant_int (PyProof.Rows.neg_int (q _ _ .toks (.int _ _))))
end
theorem last_item (x : Str) (h : x.length ≠ 0) : (Txt.charAt x (-1)).isSome = true ∧ (toL (Txt.item x (-1)) = [45] ↔ (toL x).getLast? = some 45) := by
  have h1 : seqIndex? (-1) x.length = some (x.length - 1) := by
    rw [StrLaws.seqIndex_neg (by decide) (by omega)]
    congr 1
    omega
  have h2 : Txt.charAt x (-1) = (toL x).getLast? := by
    unfold Txt.charAt
    rw [h1]
    show x.cps[x.length - 1]? = _
    rw [List.getLast?_eq_getElem?, toL_length]
    simp [toL]
  have h3 : ∃ c, (toL x).getLast? = some c := by
    cases hc : (toL x).getLast? with
    | some c => exact ⟨c, rfl⟩
    | none =>
      rw [List.getLast?_eq_none_iff] at hc
      exact absurd (by rw [← toL_length, hc]; rfl) h
  obtain ⟨c, hc⟩ := h3
  refine ⟨by rw [h2, hc]; rfl, ?_⟩
  unfold Txt.item
  rw [h2, hc]
  simp [toL]
theorem cut_last (x : Str) (h : x.length ≠ 0) : toL (Txt.slice x none (some (-1))) = (toL x).dropLast := by
  have := StrLaws.sliceText_to_neg (x := x) (j := -1) (by decide) (by omega)
  show toL (StrLaws.sliceText x none (some (-1))) = _
  rw [this]
  show ((toL x).drop 0).take _ = _
  rw [List.drop_zero, List.dropLast_eq_take, toL_length]
  congr 1
  omega
end Mine
end
section
open PySem PySem.W PyProof.Rows PySem.Calls PySem.NumText
open Sem (wp)
set_option Elab.async false
set_option maxRecDepth 100000
set_option linter.unusedVariables false
namespace Mine
local macro_rules | `(tactic| walk_at "look") => `(tactic| first | exact upd_here | exact upd_there (by decide +kernel) (by walk_at "look") | assumption)
theorem bind66 {w : World} {A : Around} {s : Shared} {Q : List (Str × Value) → Shared → Prop} {E : Value → Shared → Prop} {fd : FuncData} {o : Obj} (ho : (KF w).lookup 66 = some o) (hd : o.data = .func fd) {vs : List Value} (hz : vs.length ≤ 16777216)
    (q : Q [(Str.ofString "args", .ref s.heap.objs.size)] { s with heap := s.heap.push { cls := .type "tuple", data := .seq vs.toArray } }) : wpAny (model PR w) A (bindArgs fd ⟨vs, []⟩) Q E s := by
  have e : bindArgs fd ⟨vs, []⟩ = (newTuple vs >>= fun t => pure [(Str.ofString "args", t)]) := by
    obtain rfl : o = _ := (Option.some.inj (ho.symm.trans rfl))
    cases hd
    cases vs with
    | nil => kernel_rfl
    | cons v vs => kernel_rfl
  rw [e]
  exact wpAny_bind (wpAny_newObj_type (wpAny_pure q) (by show vs.toArray.size ≤ 16777216; simpa using hz))

structure PlatOk (ts : List Str) : Prop where
  l : ∀ x ∈ ts, x.length ≤ 1000000
  n : ts.length ≤ 1000000
  jo : JoinOk "-" ((ts.filter fun x => x.length != 0).map Txt.strip) = true
  z : (plat0 ts).length ≤ 1000000

theorem fn_plat (w : World) (H₀ : Heap) (ts : List Str) (hok : PlatOk ts) : FnC w H₀ (.ref 66) 1 (ts.map .str) (.str (platOf ts)) := by
  refine fnc_body2 (k := 0) [Str.ofString "args"] [.tup (ts.map .str)] (fun _ => .triv) rfl rfl rfl ⟨_, _, _, _, rfl, rfl, rfl, rfl⟩ rfl rfl rfl rfl rfl rfl rfl (fun A F s vs Q E hK fl rp q => ?_) (fun _ _ => trivial) (fun A sE F _ _ n hn => ?_) (fun A sE F hE hF => ?_)
  · refine bind66 rfl rfl (by have := rp.length; have := hok.n; simp at *; omega) ?_
    refine q [.ref s.heap.objs.size] _ (fun b o e => Heap.get?_push_of_some _ e) (.cons (.tup (fl.new) (Heap.get?_push_size _ rfl) (rp.same fun b o e f c x => ⟨Heap.get?_push_of_some _ e, f⟩)) .nil)
  · simp only [List.mem_singleton] at hn
    subst hn
    exact stores_local (by kernel_rfl)
  · dsimp only [bindAll, List.zip, List.zipWith]
    refine ssc_of ?_
    have hz0 := hok.z
    refine ss_assign (d := .str (plat0 ts)) (ev_join_gen rfl ⟨rfl, rfl⟩ (evv_builtin (by kernel_rfl) (by kernel_rfl) (by kernel_rfl)) (evv_builtin (by kernel_rfl) (by kernel_rfl) (by kernel_rfl)) (ev_var (by walk_at "look")) hok.l hok.n hok.jo) ?_
    refine ss_assign (ev_rep1 (ev_var (by walk_at "look")) rfl rfl hz0) ?_
    refine ss_assign (ev_rep1 (ev_var (by walk_at "look")) rfl rfl (by rw [rep1_len _ _ _ (by decide +kernel) (by decide +kernel)]; exact hz0)) ?_
    refine ss_assign (ev_rep1 (ev_var (by walk_at "look")) rfl rfl (by rw [rep1_len _ _ _ (by decide +kernel) (by decide +kernel), rep1_len _ _ _ (by decide +kernel) (by decide +kernel)]; exact hz0)) ?_
    refine ss_assign (ev_rep1 (ev_var (by walk_at "look")) rfl rfl (by rw [rep1_len _ _ _ (by decide +kernel) (by decide +kernel), rep1_len _ _ _ (by decide +kernel) (by decide +kernel), rep1_len _ _ _ (by decide +kernel) (by decide +kernel)]; exact hz0)) ?_
    refine ss_assign (ev_rep1 (ev_var (by walk_at "look")) rfl rfl (by rw [rep1_len _ _ _ (by decide +kernel) (by decide +kernel), rep1_len _ _ _ (by decide +kernel) (by decide +kernel), rep1_len _ _ _ (by decide +kernel) (by decide +kernel), rep1_len _ _ _ (by decide +kernel) (by decide +kernel)]; exact hz0)) ?_
    refine ss_assign (ev_rep1 (ev_var (by walk_at "look")) rfl rfl (by rw [rep1_len _ _ _ (by decide +kernel) (by decide +kernel), rep1_len _ _ _ (by decide +kernel) (by decide +kernel), rep1_len _ _ _ (by decide +kernel) (by decide +kernel), rep1_len _ _ _ (by decide +kernel) (by decide +kernel), rep1_len _ _ _ (by decide +kernel) (by decide +kernel)]; exact hz0)) ?_
    refine ss_assign (ev_rep1 (ev_var (by walk_at "look")) rfl rfl (by rw [rep1_len _ _ _ (by decide +kernel) (by decide +kernel), rep1_len _ _ _ (by decide +kernel) (by decide +kernel), rep1_len _ _ _ (by decide +kernel) (by decide +kernel), rep1_len _ _ _ (by decide +kernel) (by decide +kernel), rep1_len _ _ _ (by decide +kernel) (by decide +kernel), rep1_len _ _ _ (by decide +kernel) (by decide +kernel)]; exact hz0)) ?_
    refine ss_assign (ev_rep1 (ev_var (by walk_at "look")) rfl rfl (by rw [rep1_len _ _ _ (by decide +kernel) (by decide +kernel), rep1_len _ _ _ (by decide +kernel) (by decide +kernel), rep1_len _ _ _ (by decide +kernel) (by decide +kernel), rep1_len _ _ _ (by decide +kernel) (by decide +kernel), rep1_len _ _ _ (by decide +kernel) (by decide +kernel), rep1_len _ _ _ (by decide +kernel) (by decide +kernel), rep1_len _ _ _ (by decide +kernel) (by decide +kernel)]; exact hz0)) ?_
    refine ss_assign (d := .str (plat2 (plat0 ts))) (ev_rep1 (x := plat1 (plat0 ts)) (ev_var (by walk_at "look")) rfl rfl (by rw [plat1_len]; exact hz0)) ?_
    have hz2 : (plat2 (plat0 ts)).length ≤ 1000000 := Nat.le_trans (plat2_len _) hz0
    generalize hx : plat2 (plat0 ts) = x0 at hz2
    have hres : platOf ts = tidy x0 := by unfold platOf; rw [hx]
    rw [hres]
    refine ss_while (fun n ρ' => ∃ x, ρ' (Str.ofString "platform") = some (.str x) ∧ colP false (toL x) = colP false (toL x0) ∧ x.length = n ∧ x.length ≤ 1000000)
      (fun ρ' => ∃ x, ρ' (Str.ofString "platform") = some (.str x) ∧ toL x = colP false (toL x0) ∧ x.length ≤ 1000000) _ ⟨x0, upd_here, rfl, rfl, hz2⟩ (fun n ρ' hI => ?_) (fun ρ' hF => ?_)
    · obtain ⟨x, hx, hc, rfl, hl⟩ := hI
      refine ⟨true, tr_val ev_bool trivial, (fun h => by cases h), fun _ => ?_⟩
      refine ss_assign (ev_rep1 (ev_var hx) rfl rfl hl) ?_
      have hr : toL (Txt.replace x "--" "-") = colR (toL x) := replace_repS x "--" "-" (by decide +kernel)
      refine ss_if (tr_compare (ev_var (by walk_at "look")) (ev_var (by walk_at "look")) cm_eq_str) (fun h => ?_) (fun h => ?_)
      · refine ss_break fun s S => ⟨_, ⟨x, by walk_at "look", ?_, hl⟩, S⟩
        have e : Txt.replace x "--" "-" = x := by simpa using h
        rw [e] at hr
        rw [← hc, colP_fix _ hr.symm]
      · refine ss_assign (ev_var (by walk_at "look")) (ss_nil fun s S => ?_)
        have hne : colR (toL x) ≠ toL x := fun e => by
          have : Txt.replace x "--" "-" = x := toL_inj (hr.trans e)
          rw [this] at h
          simp at h
        have hlt := colR_lt _ hne
        rw [← hr, toL_length, toL_length] at hlt
        exact ⟨(Txt.replace x "--" "-").length, hlt, _, ⟨_, upd_here, by rw [hr, colP_colR, hc], rfl, by omega⟩, S⟩
    · obtain ⟨x1, hx1, hc1, hl1⟩ := hF
      refine ss_while (fun n ρ' => ∃ x, ρ' (Str.ofString "platform") = some (.str x) ∧ endL (toL x) = endL (toL x1) ∧ x.length = n ∧ x.length ≤ 1000000)
        (fun ρ' => ∃ x, ρ' (Str.ofString "platform") = some (.str x) ∧ toL x = endL (toL x1)) _ ⟨x1, hx1, rfl, rfl, hl1⟩ (fun n ρ' hI => ?_) (fun ρ' hF => ?_)
      · obtain ⟨x, hx, hc, rfl, hl⟩ := hI
        refine ⟨(x.length != 0) && (Txt.item x (-1) == "-"), tr_and2 (a := x.length != 0) (tr_val (d := .str x) (ev_var hx) (show x.length ≤ 16777216 by omega)) (fun h => ?_), (fun h => ?_), fun h => ?_⟩
        · have h0 : x.length ≠ 0 := by simpa using h
          exact tr_compare (ev_item_str (ev_var hx) ev_neg1 (by decide) (last_item x h0).1) ev_str cm_eq_str
        · refine ⟨x, hx, ?_⟩
          rw [← hc, endL_fix]
          by_cases h0 : x.length = 0
          · have : toL x = [] := List.length_eq_zero_iff.mp (by rw [toL_length]; exact h0)
            rw [this]; simp
          · have hb : (x.length != 0) = true := by simpa using h0
            rw [hb, Bool.true_and] at h
            intro hl
            have := (last_item x h0).2.mpr hl
            have e : Txt.item x (-1) = "-" := toL_inj (this.trans (by decide +kernel))
            rw [e] at h
            exact absurd h (by decide +kernel)
        · rw [Bool.and_eq_true] at h
          have h0 : x.length ≠ 0 := by simpa using h.1
          have e : Txt.item x (-1) = "-" := by simpa using h.2
          have hlast := (last_item x h0).2.mp (by rw [e]; decide +kernel)
          have hcut := cut_last x h0
          refine ss_assign (ev_cut_str (kl := none) (kh := some (-1)) (ev_var hx) trivial ev_neg1 (show x.length ≤ 16777216 by omega)) (ss_nil fun s S => ?_)
          have hxl : toL x = (toL x).dropLast ++ [45] := by
            have hne : toL x ≠ [] := by intro h; rw [h] at hlast; cases hlast
            have := List.dropLast_concat_getLast hne
            rw [List.getLast?_eq_some_getLast hne] at hlast
            rw [Option.some.inj hlast] at this
            exact this.symm
          have hlen : (Txt.slice x none (some (-1))).length + 1 = x.length := by
            rw [← toL_length, hcut, List.length_dropLast, toL_length]; omega
          refine ⟨(Txt.slice x none (some (-1))).length, by omega, _, ⟨_, upd_here, ?_, rfl, by omega⟩, S⟩
          rw [hcut, ← hc]
          conv => rhs; rw [hxl]
          rw [endL_snoc]
      · obtain ⟨x, hx, hc⟩ := hF
        refine ss_ret (ev_var ?_)
        have e : tidy x0 = x := toL_inj (by unfold tidy; rw [toL_ofL, ← hc1, hc])
        rw [e]
        exact hx
end Mine
end
section
open PySem PySem.W PyProof.Rows PySem.Calls
open Sem (wp)
set_option Elab.async false
set_option maxRecDepth 100000
set_option linter.unusedVariables false
namespace Mine
/-- the frame's own cells -/
def CellsAt (cs : List Addr) : Side where
  P h := ∀ c ∈ cs, ∃ v, h.IsCell c v
  N b := b ∈ cs
  M _ := True
  ok h b p n := by
    obtain ⟨v, o, e, d⟩ := p b n
    exact ⟨o, e, .inr fun fs h => by rw [d] at h; cases h⟩
  ext h h' p n _ := fun c hc => by
    obtain ⟨v, o, e, d⟩ := p c hc
    obtain ⟨_, o', e', _, d'⟩ := n c o e hc
    exact ⟨v, o', e', d'.trans d⟩
section
variable {X : Cx} {ρ : Str → Option D} {J : Side} {Φ : Flow → Shared → Prop} {rest : List Stmt}
/-- a cell of the frame's own is stored -/
theorem store_cell2 {A' : Around} {x : Str} {c : Addr} {d : D} {v : Value} {s : Shared} {Q : Unit → Shared → Prop} {E : Value → Shared → Prop} {v₀ : Option Value} (S : St X ρ J s) (r : Rep X.F s.heap v d) (hx : X.env.kindOf x = some .cell)
    (hc : X.env.cells.lookup x = some c) (hv : s.heap.IsCell c v₀) (hf : X.sE.heap.get? c = none) (hf0 : X.H₀.get? c = none) (hi : ∀ y, X.env.cells.lookup y = some c → y = x)
    (hJ : ∀ h', Heap.SameBut c s.heap h' → h'.IsCell c (some v) → J.P h')
    (q : ∀ s', St X (upd ρ x d) J s' → (∀ u e, Rep X.F s.heap u e → Rep X.F s'.heap u e) → Q () s') : wpAny (model PR X.w) A' (storeName X.env x v) Q E s := by
  obtain ⟨mv, n, hvs⟩ := id S.vars
  refine wpAny_storeName_cell S.ek hx hc hv fun h' hc' sb => ?_
  · have ne : ∀ b o, X.sE.heap.get? b = some o → b ≠ c := by rintro b o e rfl; rw [hf] at e; cases e
    have ne0 : ∀ b o, X.H₀.get? b = some o → b ≠ c := by rintro b o e rfl; rw [hf0] at e; cases e
    have tab' := S.rd.hg.tab.same' hv sb
    obtain ⟨oc, eo, do_⟩ := id hv
    have hcL : X.env.locals ≠ c := by
      rintro rfl
      obtain ⟨on, es, ep, e3, e4, _⟩ := n
      rw [eo] at e3; cases e3; rw [do_] at e4; cases e4
    have keepSeq : ∀ {u : Value} {e : D}, Rep X.F s.heap u e → Rep X.F h' u e := by
      intro u e r
      refine r.same ?_
      rintro b ob e hF _ ⟨xs, k, dd⟩
      refine ⟨(sb.2 b ?_).trans e, hF⟩
      rintro rfl
      rw [eo] at e; cases e; rw [dd] at do_; cases do_
    refine q _ ?_ fun u e r => keepSeq r
    exact {
      rd := ⟨S.rd.B, ⟨fun b o e p => (sb.2 b (ne0 b o e)).trans (S.rd.hg.old b o e p), tab'⟩, by
        obtain ⟨l, e, y⟩ := S.rd.fr
        refine ⟨l, e, fun z hz => ?_⟩
        obtain ⟨a, f, of, b, cc, dd, e, g, es, n, k⟩ := y z hz
        refine ⟨a, f, of, b, cc, dd, (sb.2 f ?_).trans e, g, es, n, k⟩
        rintro rfl
        rw [eo] at e; cases e; rw [k] at do_; (cases do_), S.rd.gens, S.rd.rm, S.rd.tk⟩
      nx := ⟨⟨fun b o e p c => (sb.2 b (ne b o e)).trans (S.nx.kp.keep b o e p c), fun b o e p => by
          obtain ⟨o₁, e₁, r₁⟩ := S.nx.kp.frm b o e p
          exact ⟨o₁, (sb.2 b (ne b o e)).trans e₁, r₁⟩, fun b o a p e => (sb.2 b (ne0 b o a)).trans (S.nx.kp.old b o a p e), fun _ => tab'⟩, S.nx.os, S.nx.gens⟩
      fresh := S.fresh
      lnew := S.lnew
      lpl := S.lpl
      ek := S.ek
      eg := S.eg
      eb := S.eb
      lcls := by
        obtain ⟨o, e⟩ := S.lcls
        exact ⟨o, (sb.2 _ hcL).trans e⟩
      vars := by
        refine ⟨mv, n.sameBut sb hcL, fun y d' hy => ?_⟩
        unfold upd at hy
        by_cases hyx : y = x
        · subst hyx
          rw [if_pos rfl] at hy; cases hy
          exact ⟨v, .inr ⟨.inl hx, c, hc, hc'⟩, keepSeq r⟩
        · rw [if_neg hyx] at hy
          obtain ⟨u, hu, ru⟩ := hvs y d' hy
          refine ⟨u, ?_, keepSeq ru⟩
          rcases hu with ⟨a, b⟩ | ⟨a, c', b, cc⟩
          · exact .inl ⟨a, b⟩
          · exact .inr ⟨a, c', b, cc.sameBut sb (by rintro rfl; exact hyx (hi y b))⟩
      side := hJ _ sb hc'
      off := S.off
      live := fun a f => by
        by_cases hf : a = c
        · subst hf; obtain ⟨o', e', _⟩ := hc'; exact ⟨o', e'⟩
        · obtain ⟨oa, ea⟩ := S.live a f
          exact ⟨oa, (sb.2 a hf).trans ea⟩ }
/-- what a frame says of a cell's name -/
structure CellIs (X : Cx) (cs : List Addr) (x : Str) (c : Addr) : Prop where
  k : X.env.kindOf x = some .cell
  l : X.env.cells.lookup x = some c
  m : c ∈ cs
  f : X.sE.heap.get? c = none
  f0 : X.H₀.get? c = none
  i : ∀ y, X.env.cells.lookup y = some c → y = x
theorem stores_cell {cs : List Addr} {x : Str} {c : Addr} (I : CellIs X cs x c) : Stores X (CellsAt cs) x := fun A' ρ d v s Q E S r q => by
  obtain ⟨v₀, hv⟩ := S.side c I.m
  refine store_cell2 S r I.k I.l hv I.f I.f0 I.i (fun h' sb hc' c' hm => ?_) q
  by_cases hcc : c' = c
  · subst hcc; exact ⟨_, hc'⟩
  · obtain ⟨v', hv'⟩ := S.side c' hm
    exact ⟨v', hv'.sameBut sb hcc⟩
theorem ssc_assign_cell {cs : List Addr} {x : Str} {c : Addr} {p pos : Pos} {e : Expr} {d : D} (I : CellIs X cs x c) (he : EvC X ρ (CellsAt cs) e d) (h : SsC X (upd ρ x d) (CellsAt cs) rest Φ)
    (hs : notComp e = true := by rfl) : SsC X ρ (CellsAt cs) (.Assign [.Name x p] e pos :: rest) Φ := by
  refine ssc_exec fun s E S => ?_
  rw [exec_Assign_Name X.env _ _ _ _ (swaps_plain hs)]
  refine wpC_bind (wpC_standAt (wpC_bind (he.go s _ _ S fun v s₁ n₁ r₁ => wpC_bind (wpC_standAt (wpC_bindA (wpAny_bindName (stores_cell I _ _ _ _ _ _ _ (S.next n₁) r₁ fun s₂ S₂ _ => ?_)))))))
  exact wpC_pure (h.go s₂ E S₂)
end
theorem none_above {h : Heap} {a : Addr} (ha : h.objs.size ≤ a) : h.get? a = none := by
  cases e : h.get? a with
  | none => rfl
  | some o => exact absurd (Heap.lt_size e) (Nat.not_lt.mpr ha)
theorem HG.above {H₀ h : Heap} (x : HG H₀ h) {a : Addr} (ha : h.objs.size ≤ a) : H₀.get? a = none := by
  cases e : H₀.get? a with
  | none => rfl
  | some o =>
    by_cases hp : a = PL
    · subst hp
      obtain ⟨ps, e'⟩ := x.tab.tabne
      exact absurd (Heap.lt_size e') (Nat.not_lt.mpr ha)
    · exact absurd (Heap.lt_size (x.old a o e hp)) (Nat.not_lt.mpr ha)
end Mine
end
section
open PySem PySem.W PyProof.Rows PySem.Calls
open Sem (wp)
set_option Elab.async false
set_option maxRecDepth 100000
set_option linter.unusedVariables false
namespace Mine
section
variable {X : Cx} {ρ : Str → Option D} {J : Side}
theorem Reps.three {F : Addr → Prop} {h : Heap} {vs : List Value} {d e f : D} (r : Reps F h vs [d, e, f]) : ∃ v w u, vs = [v, w, u] ∧ Rep F h v d ∧ Rep F h w e ∧ Rep F h u f := by
  cases r with | cons a b => cases b with | cons b c => cases c with | cons c k => cases k; exact ⟨_, _, _, rfl, a, b, c⟩
theorem range_go {s s₁ : Shared} {r : Addr} {a b c : Int} {t u v : Tok} {n : Nat} {Q E : Value → Shared → Prop} (S : St X ρ J s) (n₁ : Nx X.H₀ s s₁) (hr : IsRange s₁.heap r a b c t u v) (hsm : Builtin.Range.small a b c = true) (hn : Builtin.Range.rangeSize a b c = n)
    (q : ∀ I s', Nx X.H₀ s s' → s.heap.get? I = none → X.sE.heap.get? I = none → X.H₀.get? I = none → ¬ X.F I → ¬ J.N I → (∀ F' : Addr → Prop, (∀ a, F' a → X.F a ∨ s'.heap.get? a = none) → ∃ T, Wk X.w X.A F' I ((List.range n).map fun i : Nat => .int (a + i * c)) T ∧ T 0 s'.heap) → Q (.ref I) s') :
    wpAny (model PR X.w) X.A (pyIter (.ref r)) Q E s₁ := by
  have S₁ := S.next n₁
  obtain ⟨b1, b2, b3, b4⟩ := S₁.newSize
  refine wpAny_pyIter_range hr hsm ?_
  have k : Kp X.H₀ s₁.heap (s₁.heap.push { cls := .type "range_iterator", data := .fields #[rawInt a, rawInt (Builtin.Range.rangeSize a b c), rawInt c] }) := .push _ _ _
  refine q s₁.heap.objs.size _ (n₁.trans ⟨⟨k, rfl, id⟩, Nat.le_refl _⟩) (n₁.none none_of_size S₁.rd.hg.new.2) b1 b2 b3 b4 fun F' hF' => ?_
  refine ⟨_, wk_range S₁.rd.rm.hh, ?_⟩
  show Heap.get? _ _ = _
  have e := Heap.get?_push_size s₁.heap (o := { cls := .type "range_iterator", data := .fields #[rawInt a, rawInt (Builtin.Range.rangeSize a b c), rawInt c] }) rfl
  rw [hn] at e ⊢
  simpa using e
theorem size_c (n c : Nat) (hc : 0 < c) : Builtin.Range.rangeSize 0 n c = ((n + (c - 1)) / c : Nat) := by
  unfold Builtin.Range.rangeSize
  rw [if_pos (show (c : Int) > 0 by omega)]
  by_cases h : (0 : Int) < n
  · rw [if_pos h]
    have e : (n : Int) - 0 - 1 = ((n - 1 : Nat) : Int) := by omega
    rw [e, ← Int.natCast_ediv]
    have e2 : n + (c - 1) = (n - 1) + c := by omega
    rw [e2, Nat.add_div_right _ hc]
    rfl
  · rw [if_neg h]
    have : n = 0 := by omega
    subst this
    rw [Nat.zero_add, Nat.div_eq_of_lt (by omega)]
    rfl
theorem small_c (n c : Nat) (hc : 0 < c) (hn : n ≤ 100000) (hc2 : c ≤ 100000) : Builtin.Range.small 0 n c = true := by
  have h : (n + (c - 1)) / c ≤ n + (c - 1) := Nat.div_le_self _ _
  unfold Builtin.Range.small
  rw [size_c n c hc, if_pos (show (c : Int) > 0 by omega)]
  generalize (n + (c - 1)) / c = m at h
  unfold Builtin.Range.rangeFitsLong
  simp only [Bool.and_eq_true, Bool.or_eq_true, decide_eq_true_eq]
  refine ⟨⟨⟨⟨⟨by decide, by decide⟩, by omega, by omega⟩, by omega, by omega⟩, by omega, by omega⟩, .inr ⟨by omega, by omega⟩⟩
theorem evit_range1 {x : Str} {np pos : Pos} {e : Expr} {n : Nat} (hf : EvV X ρ J (.Name x np) (.type "range")) (he : Ev X ρ J e (.int n)) (hn : n ≤ 100000) (hs : notStar e = true := by rfl) (hp : allPlain [e] = true := by rfl) :
    EvIt X ρ J (.Call (.Name x np) [e] [] pos) ((List.range n).map fun i : Nat => .int i) := by
  refine ⟨fun s Q E S q => wpAny_Call_NameR (hf.go s _ _ S fun s₁ n₁ => PySem.callWith_type (backTo_any hp) (args_evs (evs_one he hs) hs (S.next n₁) fun vs s₂ n₂ r₂ => ?_))⟩
  obtain ⟨v, rfl, r'⟩ := r₂.one
  obtain ⟨t, rfl⟩ := r'.isInt
  refine call_range_1 ?_
  have hsz := size_c n 1 (by decide)
  rw [Nat.div_one, Nat.sub_self, Nat.add_zero] at hsz
  refine range_go (n := n) S ((n₁.trans n₂).trans (s'' := { s₂ with heap := s₂.heap.push { cls := .type "range", data := .fields #[.int 0 s₂.toks, .int n t, .int 1 (s₂.toks + 1)] }, toks := s₂.toks + 1 + 1 }) ⟨.of_keep fun b o e => Heap.get?_push_of_some _ e, by show s₂.toks ≤ s₂.toks + 1 + 1; omega⟩) (Heap.get?_push_size _ rfl) (small_c n 1 (by decide) hn (by decide)) hsz ?_
  simpa using q
theorem evit_range3 {x : Str} {np pos : Pos} {e f g : Expr} {n c : Nat} (hf : EvV X ρ J (.Name x np) (.type "range")) (he : Ev X ρ J e (.int 0)) (hf' : Ev X ρ J f (.int n)) (hg : Ev X ρ J g (.int c)) (hc : 0 < c) (hn : n ≤ 100000) (hc2 : c ≤ 100000)
    (hs : notStar e = true := by rfl) (hsf : notStar f = true := by rfl) (hsg : notStar g = true := by rfl) (hp : allPlain [e, f, g] = true := by rfl) :
    EvIt X ρ J (.Call (.Name x np) [e, f, g] [] pos) ((List.range ((n + (c - 1)) / c)).map fun i : Nat => .int (0 + i * c)) := by
  refine ⟨fun s Q E S q => wpAny_Call_NameR (hf.go s _ _ S fun s₁ n₁ => PySem.callWith_type (backTo_any hp) (args_evs (evs_cons he (evs_cons hf' (evs_one hg hsg) hsf) hs) hs (S.next n₁) fun vs s₂ n₂ r₂ => ?_))⟩
  obtain ⟨v, v2, v3, rfl, r1, r2, r3⟩ := r₂.three
  obtain ⟨t, rfl⟩ := r1.isInt
  obtain ⟨t2, rfl⟩ := r2.isInt
  obtain ⟨t3, rfl⟩ := r3.isInt
  refine call_range_3 (by omega) ?_ (.inl (PyProof.noPylong_small (by omega)))
  exact range_go S ((n₁.trans n₂).trans (s'' := { s₂ with heap := s₂.heap.push { cls := .type "range", data := .fields #[.int 0 t, .int n t2, .int c t3] }, toks := s₂.toks }) ⟨.of_keep fun b o e => Heap.get?_push_of_some _ e, Nat.le_refl _⟩) (Heap.get?_push_size _ rfl) (small_c n c hc hn hc2) (size_c n c hc) q
end
end Mine
end
section
open PySem PySem.W PyProof.Rows PySem.Calls
open PySem.Builtin PySem.Builtin.Str PySem.StrLaws
set_option Elab.async false
set_option maxRecDepth 100000
set_option linter.unusedVariables false
namespace Mine
def joinL (s : List Nat) : List (List Nat) → List Nat
  | [] => []
  | [p] => p
  | p :: q :: r => p ++ s ++ joinL s (q :: r)
theorem toL_sjoin (sep : Str) : ∀ ts : List Str, toL (Str.join sep ts) = joinL (toL sep) (ts.map toL)
  | [] => rfl
  | [p] => rfl
  | p :: q :: r => by
    show toL (p ++ sep ++ Str.join sep (q :: r)) = _
    rw [toL_append, toL_append, toL_sjoin sep (q :: r)]
    rfl
theorem toL_join (sep : Str) (ts : List Str) : toL (Txt.join sep ts) = joinL (toL sep) (ts.map toL) := by
  unfold Txt.join
  rw [glued_eq_join, toL_sjoin]
def splL (c : Nat) : List Nat → List (List Nat)
  | [] => [[]]
  | a :: r => if a = c then [] :: splL c r else match splL c r with
    | [] => [[a]]
    | p :: ps => (a :: p) :: ps
theorem splL_free (c : Nat) : ∀ p : List Nat, c ∉ p → splL c p = [p]
  | [], _ => rfl
  | a :: r, h => by
    have h1 : ¬ a = c := fun e => h (e ▸ List.mem_cons_self)
    rw [splL, if_neg h1, splL_free c r fun m => h (List.mem_cons_of_mem _ m)]
theorem splL_cut (c : Nat) (b : List Nat) : ∀ p : List Nat, c ∉ p → splL c (p ++ c :: b) = p :: splL c b
  | [], _ => by rw [List.nil_append, splL, if_pos rfl]
  | a :: r, h => by
    have h1 : ¬ a = c := fun e => h (e ▸ List.mem_cons_self)
    rw [List.cons_append, splL, if_neg h1, splL_cut c b r fun m => h (List.mem_cons_of_mem _ m)]
theorem splL_join (c : Nat) : ∀ ps : List (List Nat), ps ≠ [] → (∀ p ∈ ps, c ∉ p) → splL c (joinL [c] ps) = ps
  | [], h, _ => absurd rfl h
  | [p], _, h => splL_free c p (h p (List.mem_singleton.mpr rfl))
  | p :: q :: r, _, h => by
    show splL c (p ++ [c] ++ joinL [c] (q :: r)) = _
    rw [List.append_assoc, List.singleton_append, splL_cut c _ p (h p List.mem_cons_self), splL_join c (q :: r) (by simp) fun a ha => h a (List.mem_cons_of_mem _ ha)]
theorem split_ne (x y : Str) : Txt.split x y ≠ [] := by
  unfold Txt.split
  split
  · simp
  · split
    · simp
    · rw [partsBetween_eq]
      obtain ⟨p, r, e⟩ := partsFrom_ne x y.length 0 (occurrences x y 0 x.length (x.length + 1))
      rw [e]; simp
theorem split_splL (x : Str) (c : Nat) : (Txt.split x ⟨#[c]⟩).map toL = splL c (toL x) := by
  have h := congrArg toL (join_split x ⟨#[c]⟩)
  rw [toL_sjoin] at h
  rw [← h]
  refine (splL_join c _ (by simpa using split_ne x _) ?_).symm
  intro p hp
  obtain ⟨q, hq, rfl⟩ := List.mem_map.mp hp
  exact split_free x c q hq
theorem map_toL_inj : ∀ {a b : List Str}, a.map toL = b.map toL → a = b
  | [], [], _ => rfl
  | [], _ :: _, h => by simp at h
  | _ :: _, [], h => by simp at h
  | x :: a, y :: b, h => by
    simp only [List.map_cons, List.cons.injEq] at h
    rw [toL_inj h.1, map_toL_inj h.2]
theorem split_join (ps : List Str) (c : Nat) (h : ps ≠ []) (hf : ∀ p ∈ ps, c ∉ toL p) : Txt.split (Txt.join ⟨#[c]⟩ ps) ⟨#[c]⟩ = ps := by
  refine map_toL_inj ?_
  rw [split_splL, toL_join]
  show splL c (joinL [c] (ps.map toL)) = _
  refine splL_join c _ (by simpa using h) fun p hp => ?_
  obtain ⟨q, hq, rfl⟩ := List.mem_map.mp hp
  exact hf q hq
theorem dot_eq : ("." : Str) = ⟨#[46]⟩ := by decide +kernel
theorem dash_eq : ("-" : Str) = ⟨#[45]⟩ := by decide +kernel
end Mine
end
section
open PySem PySem.W PyProof.Rows PySem.Calls
open Sem (wp)
set_option Elab.async false
set_option maxRecDepth 100000
set_option linter.unusedVariables false
namespace Mine
structure Item where
  text : Str
  flag : Bool
  seen : Str
  ranks : List D
def dTold (i : Item) : D := .tup [.bool i.flag, .str i.seen, .lst i.ranks]
def dItem (i : Item) : D := .tup [.str i.text, dTold i]

structure Mach where
  kind : Str
  o1 : Part
  o2 : List Part
  new : List Part
  more : List Part
  ahead : Str
  first : Part
  middle : Str
  second : Part
  behind : Str
def kinds : List Str := ["SunOS", "win32", "Linux", "unknown", "win16"]
def ends : List Str := ["", " ", ".", "_", "+", "-", "/", "\\", ":", ";", "\"", "(", ")"]
def machOf (one two three : Int) : Mach where
  kind := kinds.getD (one.fmod 5).toNat ""
  o1 := pt (one.fdiv 5)
  o2 := if ((one.fdiv 40).fmod 9) != 0 then [pt ((one.fdiv 40).fmod 9 - 1)] else []
  new := (List.range (1 + (two.fdiv 9).fmod 4).toNat).map fun p => pt ((two.fdiv 36).fdiv (8 ^ p))
  more := if two.fmod 9 != 0 then [pt (two.fmod 9 - 1)] else []
  ahead := ends.getD (three.fmod 13).toNat ""
  first := pt (three.fdiv 13)
  middle := ends.getD (1 + (three.fdiv 104).fmod 12).toNat ""
  second := pt (three.fdiv 1248)
  behind := ends.getD ((three.fdiv 9984).fmod 13).toNat ""

def allParts : List Part := parts8 ++ [(("" : Str), none), (("8" : Str), some 8), (("2" : Str), some 2), (("57" : Str), some 57)]
structure MachOk (m : Mach) : Prop where
  kind : m.kind ∈ kinds
  o1 : m.o1 ∈ parts8
  o2 : m.o2.length ≤ 1 ∧ ∀ p ∈ m.o2, p ∈ parts8
  new : 1 ≤ m.new.length ∧ m.new.length ≤ 4 ∧ ∀ p ∈ m.new, p ∈ parts8
  more : m.more.length ≤ 1 ∧ ∀ p ∈ m.more, p ∈ parts8
  ahead : m.ahead ∈ ends
  first : m.first ∈ parts8
  middle : m.middle ∈ ends.drop 1
  second : m.second ∈ parts8
  behind : m.behind ∈ ends
theorem pt_mem (n : Int) : pt n ∈ parts8 := by
  unfold pt
  have h0 := Int.fmod_nonneg_of_pos n (show (0 : Int) < 8 by decide)
  have h1 := Int.fmod_lt_of_pos n (show (0 : Int) < 8 by decide)
  rw [List.getD_eq_getElem?_getD, List.getElem?_eq_getElem (by show (n.fmod 8).toNat < 8; omega)]
  exact List.getElem_mem _
theorem getD_mem {α : Type} (l : List α) (i : Nat) (d : α) (h : i < l.length) : l.getD i d ∈ l := by
  rw [List.getD_eq_getElem?_getD, List.getElem?_eq_getElem h]
  exact List.getElem_mem _
theorem fmod_range (n k : Int) (hk : 0 < k) : 0 ≤ n.fmod k ∧ n.fmod k < k := ⟨Int.fmod_nonneg_of_pos n hk, Int.fmod_lt_of_pos n hk⟩
theorem machOk (one two three : Int) : MachOk (machOf one two three) where
  kind := getD_mem _ _ _ (by have := fmod_range one 5 (by decide); show (one.fmod 5).toNat < 5; omega)
  o1 := pt_mem _
  o2 := by unfold machOf; dsimp only; split <;> simp [pt_mem]
  new := by
    have := fmod_range (two.fdiv 9) 4 (by decide)
    unfold machOf; dsimp only
    refine ⟨by simp; omega, by simp; omega, fun p hp => ?_⟩
    obtain ⟨i, _, rfl⟩ := List.mem_map.mp hp
    exact pt_mem _
  more := by unfold machOf; dsimp only; split <;> simp [pt_mem]
  ahead := getD_mem _ _ _ (by have := fmod_range three 13 (by decide); show (three.fmod 13).toNat < 13; omega)
  first := pt_mem _
  middle := by
    have := fmod_range (three.fdiv 104) 12 (by decide)
    unfold machOf; dsimp only
    have e : ends.getD (1 + (three.fdiv 104).fmod 12).toNat "" = (ends.drop 1).getD ((three.fdiv 104).fmod 12).toNat "" := by
      rw [show (1 + (three.fdiv 104).fmod 12).toNat = ((three.fdiv 104).fmod 12).toNat + 1 by omega]; rfl
    rw [e]
    exact getD_mem _ _ _ (by show ((three.fdiv 104).fmod 12).toNat < 12; omega)
  second := pt_mem _
  behind := getD_mem _ _ _ (by have := fmod_range (three.fdiv 9984) 13 (by decide); show ((three.fdiv 9984).fmod 13).toNat < 13; omega)

def ub (x : Str) : Str := if x == "unknown" then "" else x
def whole (ps : List Part) : Str := Txt.join "." (ps.map (·.1))
def seenL (ps : List Part) : Str := Txt.join "." (ps.map seenOf)
namespace Mach
variable (m : Mach)
def old : List Part := m.o1 :: m.o2
def rel : Str := whole m.old
def gave : Str × Str := aliasOf (ub m.kind) m.rel m.o1.1 (m.o2.map (·.1))
def newB : List Part := if m.new == [(("unknown" : Str), none)] then [(("" : Str), none)] else m.new
def gt4 : Bool := m.kind == "SunOS" && decide ((Str.ofString "4").cps.toList < (Txt.slice m.o1.1 none (some 1)).cps.toList)
def word : Str := if m.gt4 then "Solaris" else getD2 [("SunOS", "SunOS"), ("Linux", "Linux"), ("unknown", "")] m.kind "Windows"
def old2 : List Part := if m.gt4 then match m.o1.2 with
    | some v => (Str.ofString (toString (v - 3)), some (v - 3)) :: m.o2
    | none => m.old else m.old
def allInt (ps : List Part) : Bool := ps.all fun p => p.2.isSome
def shownP (p : Part) : Part := match p.2 with
  | some v => (Str.ofString (toString v), some v)
  | none => p
def new2 : List Part := if allInt (m.newB ++ m.more) then (m.newB ++ m.more).map shownP else m.newB ++ m.more
def new3 : List Part := m.new2.take 3
def sg (x : Str) : Str := getD2 [("", ""), (" ", "_"), (".", "."), ("_", "_"), ("+", "+")] x "-"
def seen : Str := (((if m.ahead == (" " : Str) then ("" : Str) else sg m.ahead) ++ seenL [m.first]) ++ sg m.middle ++ seenL [m.second]) ++ (if m.behind == (" " : Str) then ("" : Str) else sg m.behind)
def build : Str := whole m.more
def norm : Str := normOf (Txt.split (ub (whole m.new)) "." ++ (if m.build.length != 0 then [m.build] else []))
def remark : Str := m.ahead ++ m.first.1 ++ m.middle ++ m.second.1 ++ m.behind
def items : List Item := [
  ⟨m.gave.1, m.word != "", m.word, if m.word.length != 0 then [.int 0, .str m.word] else []⟩,
  ⟨m.gave.2, whole m.old2 != "", seenL m.old2, ranksOf m.old2⟩,
  ⟨m.norm, whole m.new3 != "", seenL m.new3, ranksOf m.new3⟩,
  ⟨m.remark, true, m.seen, ranksOf [m.first, m.second]⟩]
end Mach
end Mine
end
section
open PySem PySem.W PyProof.Rows PySem.Calls PySem.NumText
open Sem (wp)
set_option Elab.async false
set_option maxRecDepth 100000
set_option linter.unusedVariables false
namespace Mine
theorem joinOk_small (ts : List Str) (hl : ∀ t ∈ ts, t.length ≤ 20) (hn : ts.length ≤ 100) : JoinOk "." ts = true := by
  unfold JoinOk
  rw [StrLaws.joinFits (B := 20) hl ?_]; rfl
  have : ("." : Str).length = 1 := by decide +kernel
  rw [this]
  omega
theorem join_len (c : Nat) (ts : List Str) (B : Nat) (hl : ∀ t ∈ ts, t.length ≤ B) : (Txt.join ⟨#[c]⟩ ts).length ≤ (B + 1) * ts.length := by
  unfold Txt.join
  rw [StrLaws.glued_eq_join]
  have h1 := StrLaws.join_length_le ⟨#[c]⟩ ts
  have h2 := StrLaws.sumLen_le ts hl
  have h3 : (⟨#[c]⟩ : Str).length = 1 := rfl
  rw [h3] at h1
  rw [Nat.add_mul, Nat.mul_comm B, Nat.one_mul]
  omega
structure PF (p : Part) : Prop where
  len : p.1.length ≤ 7
  ok : PyData.strOk p.1 = true
  dot : 46 ∉ toL p.1
  iv : PySem.intText? p.1 = p.2
  rp : (reprText p.1).length ≤ 1000
  vb : ∀ v, p.2 = some v → 0 ≤ v ∧ v ≤ 60
  sl : (seenOf p).length ≤ 7
theorem pf {p : Part} (h : p ∈ allParts) : PF p := by
  have h1 : ∀ p ∈ allParts, p.1.length ≤ 7 := by decide +kernel
  have h2 : ∀ p ∈ allParts, PyData.strOk p.1 = true := by decide +kernel
  have h3 : ∀ p ∈ allParts, 46 ∉ toL p.1 := by decide +kernel
  have h4 : ∀ p ∈ allParts, PySem.intText? p.1 = p.2 := by decide +kernel
  have h5 : ∀ p ∈ allParts, (reprText p.1).length ≤ 1000 := by decide +kernel
  have h6 : ∀ p ∈ allParts, (match p.2 with | some v => decide (0 ≤ v) && decide (v ≤ 60) | none => true) = true := by decide +kernel
  have h7 : ∀ p ∈ allParts, (seenOf p).length ≤ 7 := by decide +kernel
  refine ⟨h1 p h, h2 p h, h3 p h, h4 p h, h5 p h, fun v hv => ?_, h7 p h⟩
  have := h6 p h
  rw [hv] at this
  simpa using this
theorem mem8 {p : Part} (h : p ∈ parts8) : p ∈ allParts := List.mem_append_left _ h
theorem PF.small {p : Part} (h : PF p) : SmallT p.1 where
  l := Nat.le_trans h.len (by decide)
  rp := h.rp
  sm n hn := by
    rw [h.iv] at hn
    obtain ⟨a, b⟩ := h.vb n hn
    split <;> omega
/-- a short row of known parts -/
structure PS (ps : List Part) : Prop where
  n : ps.length ≤ 10
  m : ∀ p ∈ ps, p ∈ allParts
theorem PS.jo {ps : List Part} (h : PS ps) : JoinOk "." (ps.map (·.1)) = true := joinOk_small _ (fun t ht => by
  obtain ⟨p, hp, rfl⟩ := List.mem_map.mp ht
  have := (pf (h.m p hp)).len; omega) (by have := h.n; simp; omega)
theorem PS.jos {ps : List Part} (h : PS ps) : JoinOk "." (ps.map seenOf) = true := joinOk_small _ (fun t ht => by
  obtain ⟨p, hp, rfl⟩ := List.mem_map.mp ht
  have := (pf (h.m p hp)).sl; omega) (by have := h.n; simp; omega)
theorem PS.len {ps : List Part} (h : PS ps) : (whole ps).length ≤ 80 := by
  unfold whole
  rw [dot_eq]
  have := join_len 46 (ps.map (·.1)) 7 (fun t ht => by
    obtain ⟨p, hp, rfl⟩ := List.mem_map.mp ht
    exact (pf (h.m p hp)).len)
  have := h.n
  rw [List.length_map] at *
  omega
theorem PS.lens {ps : List Part} (h : PS ps) : (seenL ps).length ≤ 80 := by
  unfold seenL
  rw [dot_eq]
  have := join_len 46 (ps.map seenOf) 7 (fun t ht => by
    obtain ⟨p, hp, rfl⟩ := List.mem_map.mp ht
    exact (pf (h.m p hp)).sl)
  have := h.n
  rw [List.length_map] at *
  omega
theorem PS.split {ps : List Part} (h : PS ps) (h0 : ps ≠ []) : Txt.split (whole ps) "." = ps.map (·.1) := by
  unfold whole
  rw [dot_eq]
  refine split_join _ 46 (by simpa using h0) fun t ht => ?_
  obtain ⟨p, hp, rfl⟩ := List.mem_map.mp ht
  exact (pf (h.m p hp)).dot
theorem shown_in {p : Part} (h : p ∈ allParts) : Mach.shownP p ∈ allParts := by
  have : ∀ p ∈ allParts, Mach.shownP p ∈ allParts := by decide +kernel
  exact this p h
namespace MachOk
variable {m : Mach} (h : MachOk m)
include h
theorem old : PS m.old := ⟨by have := h.o2.1; unfold Mach.old; simp; omega, fun p hp => by
  unfold Mach.old at hp
  rcases List.mem_cons.mp hp with rfl | hp
  · exact mem8 h.o1
  · exact mem8 (h.o2.2 p hp)⟩
theorem pnew : PS m.new := ⟨by have := h.new.2.1; omega, fun p hp => mem8 (h.new.2.2 p hp)⟩
theorem pmore : PS m.more := ⟨by have := h.more.1; omega, fun p hp => mem8 (h.more.2 p hp)⟩
theorem newB : PS m.newB ∧ m.newB.length ≤ 4 ∧ m.newB ≠ [] := by
  unfold Mach.newB
  split
  · exact ⟨⟨by simp, fun p hp => by simp at hp; subst hp; decide +kernel⟩, by simp, by simp⟩
  · exact ⟨h.pnew, h.new.2.1, fun e => by have := h.new.1; rw [e] at this; simp at this⟩
theorem new1 : PS (m.newB ++ m.more) := ⟨by have := h.newB.2.1; have := h.more.1; simp; omega, fun p hp => by
  rcases List.mem_append.mp hp with hp | hp
  · exact h.newB.1.m p hp
  · exact h.pmore.m p hp⟩
theorem new2 : PS m.new2 := by
  unfold Mach.new2
  split
  · exact ⟨by simpa using h.new1.n, fun p hp => by
      obtain ⟨q, hq, rfl⟩ := List.mem_map.mp hp
      exact shown_in (h.new1.m q hq)⟩
  · exact h.new1
theorem new3 : PS m.new3 := ⟨by have := h.new2.n; unfold Mach.new3; rw [List.length_take]; omega, fun p hp => h.new2.m p (List.mem_of_mem_take hp)⟩
theorem old2 : PS m.old2 := by
  unfold Mach.old2
  split
  · have : ∀ p ∈ parts8, (p.2 = some 5 ∨ p.2 = some 60 ∨ p.2 = none ∨ p.2 = some 8 ∨ p.2 = some 12 ∨ p.2 = some 0) := by decide +kernel
    have h5 : Mach.gt4 m = true := by assumption
    have hg : ∀ p ∈ parts8, decide ((Str.ofString "4").cps.toList < (Txt.slice p.1 none (some 1)).cps.toList) = true → p.2 = some 5 ∨ p.2 = some 60 ∨ p.2 = none := by decide +kernel
    unfold Mach.gt4 at h5
    rw [Bool.and_eq_true] at h5
    have tl : m.o2.length ≤ 1 ∧ ∀ p ∈ m.o2, p ∈ allParts := ⟨h.o2.1, fun p hp => mem8 (h.o2.2 p hp)⟩
    have mk : ∀ q ∈ allParts, PS (q :: m.o2) := fun q hq => ⟨by have := tl.1; simp; omega, fun p hp => by
      rcases List.mem_cons.mp hp with rfl | hp
      · exact hq
      · exact tl.2 p hp⟩
    rcases hg m.o1 h.o1 h5.2 with e | e | e
    · rw [e]; exact mk _ (by decide +kernel)
    · rw [e]; exact mk _ (by decide +kernel)
    · rw [e]; exact h.old
  · exact h.old
end MachOk
end Mine
end
section
open PySem PySem.W PyProof.Rows PySem.Calls PySem.NumText
open Sem (wp)
set_option Elab.async false
set_option maxRecDepth 100000
set_option linter.unusedVariables false
namespace Mine
local macro_rules | `(tactic| walk_at "look") => `(tactic| first | exact upd_here | exact upd_there (by decide +kernel) (by walk_at "look") | assumption)
local macro_rules | `(tactic| walk_at "sz") => `(tactic| (show _ ≤ (16777216 : Nat); simp only [List.length_cons, List.length_nil, List.length_append, List.length_map]; omega))
local macro_rules | `(tactic| walk_at "gl") => `(tactic| exact evv_glob (by kernel_rfl) (by kernel_rfl))
local macro_rules | `(tactic| walk_at "bi") => `(tactic| exact evv_builtin (by kernel_rfl) (by kernel_rfl) (by kernel_rfl))
local macro_rules | `(tactic| walk_at "ev") => `(tactic| first
  | exact ev_int | exact ev_str | exact ev_none | exact ev_bool
  | exact ev_var (by walk_at "look")
  | exact ev_tuple (by walk_at "evs") (by walk_at "sz")
  | exact ev_list (by walk_at "evs") (by walk_at "sz"))
local macro_rules | `(tactic| walk_at "evs") => `(tactic| first
  | exact evs_nil
  | exact evs_cons (by walk_at "ev") (by walk_at "evs"))
theorem upd_same {ρ : Str → Option D} {x : Str} {d : D} (h : ρ x = some d) : ∀ y e, upd ρ x d y = some e → ρ y = some e := by
  intro y e hy
  unfold upd at hy
  by_cases hyx : y = x
  · subst hyx; rw [if_pos rfl] at hy; rw [h]; exact hy
  · rw [if_neg hyx] at hy; exact hy
theorem upd_upd {ρ : Str → Option D} {x : Str} {a b : D} : upd (upd ρ x a) x b = upd ρ x b := by
  funext y
  unfold upd
  by_cases hyx : y = x
  · rw [if_pos hyx, if_pos hyx]
  · rw [if_neg hyx, if_neg hyx, if_neg hyx]
section
variable {X : Cx} {ρ : Str → Option D} {J : Side} {Φ : Flow → Shared → Prop} {rest : List Stmt}
/-- an if without else that stores one name -/
theorem ssc_if_upd {t e : Expr} {x : Str} {p pos pos2 : Pos} {c : Bool} {d : D} (ht : Tr X ρ J t c) (he : c = true → Ev X ρ J e d) (hb : c = false → ρ x = some d) (hr : SsC X (upd ρ x d) J rest Φ)
    (hx : X.env.kindOf x = some .local := by kernel_rfl) (hs : notComp e = true := by rfl) : SsC X ρ J (.If t [.Assign [.Name x p] e pos] [] pos2 :: rest) Φ := by
  refine ssc_plain (ρ' := upd ρ x d) (J' := J) (fun Ψ q => ss_if ht (fun hc => ?_) (fun hc => ?_)) hr
  · exact ss_assign (he hc) (ss_nil q) hx hs
  · exact ss_nil fun s S => q s (S.weak (upd_same (hb hc)) S.side S.off)
theorem ssc_if_upd_comp {t : Expr} {x : Str} {p spos pos2 : Pos} {c : Bool} {elt target iter : Expr} {ifs : List Expr} {gens : List Comprehension} {scope : Scope} {pos : Pos} {res : List D} {d : D} (ht : Tr X ρ J t c)
    (he : c = true → Cp X ρ J elt target iter ifs gens scope pos res ∧ d = .lst res) (hb : c = false → ρ x = some d) (hr : SsC X (upd ρ x d) J rest Φ)
    (hsw : swapsWith (.ListComp elt (⟨target, iter, ifs, 0⟩ :: gens) scope pos) (some (.Name x p)) spos.line X.env = pure true) (hx : X.env.kindOf x = some .local) :
    SsC X ρ J (.If t [.Assign [.Name x p] (.ListComp elt (⟨target, iter, ifs, 0⟩ :: gens) scope pos) spos] [] pos2 :: rest) Φ := by
  refine ssc_plain (ρ' := upd ρ x d) (J' := J) (fun Ψ q => ss_if ht (fun hc => ?_) (fun hc => ?_)) hr
  · obtain ⟨h1, rfl⟩ := he hc
    exact ss_assign_comp h1 hsw hx (ss_nil q)
  · exact ss_nil fun s S => q s (S.weak (upd_same (hb hc)) S.side S.off)
theorem ssc_assign_comp {y : Str} {p spos : Pos} {elt target iter : Expr} {ifs : List Expr} {gens : List Comprehension} {scope : Scope} {pos : Pos} {res : List D} (h : Cp X ρ J elt target iter ifs gens scope pos res)
    (hsw : swapsWith (.ListComp elt (⟨target, iter, ifs, 0⟩ :: gens) scope pos) (some (.Name y p)) spos.line X.env = pure true) (hy : X.env.kindOf y = some .local)
    (hr : SsC X (upd ρ y (.lst res)) J rest Φ) : SsC X ρ J (.Assign [.Name y p] (.ListComp elt (⟨target, iter, ifs, 0⟩ :: gens) scope pos) spos :: rest) Φ :=
  ssc_plain (fun Ψ q => ss_assign_comp h hsw hy (ss_nil q)) hr
end
theorem lookup_mem {y : Str} {c : Addr} : ∀ {l : List (Str × Addr)}, l.lookup y = some c → (y, c) ∈ l
  | [], h => by cases h
  | (a, b) :: l, h => by
    rw [List.lookup_cons] at h
    cases hq : (y == a) with
    | true =>
      rw [hq] at h
      cases h
      rw [beq_iff_eq] at hq
      subst hq
      exact List.mem_cons_self
    | false =>
      rw [hq] at h
      exact List.mem_cons_of_mem _ (lookup_mem h)
theorem lookup_inj {l : List (Str × Addr)} (nd : (l.map (·.2)).Nodup) {x y : Str} {c : Addr} (hx : l.lookup x = some c) (hy : l.lookup y = some c) : y = x := by
  have h1 := lookup_mem hx
  have h2 := lookup_mem hy
  clear hx hy
  induction l with
  | nil => cases h1
  | cons a l ih =>
    rw [List.map_cons, List.nodup_cons] at nd
    rcases List.mem_cons.mp h1 with e1 | h1 <;> rcases List.mem_cons.mp h2 with e2 | h2
    · rw [← e1] at e2; cases e2; rfl
    · exact absurd (List.mem_map.mpr ⟨_, h2, by rw [← e1]⟩) nd.1
    · exact absurd (List.mem_map.mpr ⟨_, h1, by rw [← e2]⟩) nd.1
    · exact ih nd.2 h1 h2
theorem three_cells {H : Heap} {L : Addr} (hL : H.objs.size = L + 1) : (CellsAt [L + 1, L + 1 + 1, L + 1 + 1 + 1]).P (((H.push { cls := .type "cell", data := .cell none }).push { cls := .type "cell", data := .cell none }).push { cls := .type "cell", data := .cell none }) := by
  have s1 : (H.push { cls := .type "cell", data := .cell none }).objs.size = L + 1 + 1 := by rw [Heap.size_push, hL]
  have s2 : ((H.push { cls := .type "cell", data := .cell none }).push { cls := .type "cell", data := .cell none }).objs.size = L + 1 + 1 + 1 := by rw [Heap.size_push, s1]
  have e1 := Heap.get?_push_size H (o := { cls := .type "cell", data := .cell none }) rfl
  have e2 := Heap.get?_push_size (H.push { cls := .type "cell", data := .cell none }) (o := { cls := .type "cell", data := .cell none }) rfl
  have e3 := Heap.get?_push_size ((H.push { cls := .type "cell", data := .cell none }).push { cls := .type "cell", data := .cell none }) (o := { cls := .type "cell", data := .cell none }) rfl
  rw [hL] at e1
  rw [s1] at e2
  rw [s2] at e3
  intro c hc
  simp only [List.mem_cons, List.not_mem_nil, or_false] at hc
  rcases hc with rfl | rfl | rfl
  · exact ⟨none, _, Heap.get?_push_of_some _ (Heap.get?_push_of_some _ e1), rfl⟩
  · exact ⟨none, _, Heap.get?_push_of_some _ e2, rfl⟩
  · exact ⟨none, _, e3, rfl⟩
theorem cellIs_new {X : Cx} {cs : List Addr} {x : Str} {c L : Addr} (hL : X.sE.heap.objs.size = L) (hc : L < c) (hg : HG X.H₀ X.sE.heap) (nd : (X.env.cells.map (·.2)).Nodup) (hm : c ∈ cs) (hl : X.env.cells.lookup x = some c) (hk : X.env.kindOf x = some .cell) : CellIs X cs x c where
  k := hk
  l := hl
  m := hm
  f := none_above (by rw [hL]; exact Nat.le_of_lt hc)
  f0 := hg.above (by rw [hL]; exact Nat.le_of_lt hc)
  i := fun y hy => lookup_inj nd hl hy
end Mine
end
section
open PySem PySem.W PyProof.Rows PySem.Calls PySem.NumText
open Sem (wp)
set_option Elab.async false
set_option maxRecDepth 100000
set_option linter.unusedVariables false
namespace Mine
theorem noObj_part (p : Part) : (dPart p).noObj = true := by
  obtain ⟨x, v⟩ := p
  cases v <;> simp [dPart, D.noObj, D.noObjs]
theorem noObj_parts : ∀ ps : List Part, D.noObjs (ps.map dPart) = true
  | [] => rfl
  | p :: ps => by simp [D.noObjs, noObj_part, noObj_parts ps]
theorem lay_part (p : Part) (h : PyData.strOk p.1 = true) : (dPart p).py.canLay0 = true := by
  obtain ⟨x, v⟩ := p
  cases v <;> simp [dPart, D.py, D.pys, PyData.canLay0, PyData.canLayAll0, h] <;> exact h
theorem lay_parts : ∀ ps : List Part, (∀ p ∈ ps, PyData.strOk p.1 = true) → PyData.canLayAll0 (D.pys (ps.map dPart)) = true
  | [], _ => rfl
  | p :: ps, h => by
    simp only [List.map_cons, D.pys, PyData.canLayAll0, Bool.and_eq_true]
    exact ⟨lay_part p (h p List.mem_cons_self), lay_parts ps fun q hq => h q (List.mem_cons_of_mem _ hq)⟩
theorem depth_part (p : Part) : (dPart p).py.depth ≤ 1 := by
  obtain ⟨x, v⟩ := p
  cases v <;> simp [dPart, D.py, D.pys, PyData.depth, PyData.depthAll]
theorem depth_parts : ∀ ps : List Part, PyData.depthAll (D.pys (ps.map dPart)) ≤ 1
  | [] => by simp [D.pys, PyData.depthAll]
  | p :: ps => by
    simp only [List.map_cons, D.pys, PyData.depthAll]
    have := depth_part p
    have := depth_parts ps
    omega
theorem eqv_part (p q : Part) : PyData.eqv (dPart p).py (dPart q).py = (p == q) := by
  obtain ⟨x, v⟩ := p
  obtain ⟨y, u⟩ := q
  rw [Bool.eq_iff_iff]
  cases v <;> cases u <;> simp [dPart, D.py, D.pys, PyData.eqv, PyData.eqvAll]
theorem eqv_parts : ∀ ps qs : List Part, PyData.eqvAll (D.pys (ps.map dPart)) (D.pys (qs.map dPart)) = (ps == qs)
  | [], [] => rfl
  | [], _ :: _ => rfl
  | _ :: _, [] => rfl
  | p :: ps, q :: qs => by
    simp only [List.map_cons, D.pys, PyData.eqvAll, eqv_part, eqv_parts ps qs]
    rfl
theorem cm_parts {X : Cx} {ρ : Str → Option D} {J : Side} (ps qs : List Part) (h1 : ∀ p ∈ ps, PyData.strOk p.1 = true) (h2 : ∀ p ∈ qs, PyData.strOk p.1 = true) : Cm X ρ J .Eq (.lst (ps.map dPart)) (.lst (qs.map dPart)) (ps == qs) := by
  have := cm_eq (X := X) (ρ := ρ) (J := J) (d := .lst (ps.map dPart)) (e := .lst (qs.map dPart)) (by simpa [D.noObj] using noObj_parts ps) (by simpa [D.noObj] using noObj_parts qs)
    (by simpa [D.py, PyData.canLay0] using lay_parts ps h1) (by simpa [D.py, PyData.canLay0] using lay_parts qs h2) (by have := depth_parts ps; simp only [D.py, PyData.depth]; omega)
  rw [show PyData.eqv (D.lst (ps.map dPart)).py (D.lst (qs.map dPart)).py = (ps == qs) from by rw [← eqv_parts]; simp [D.py, PyData.eqv]] at this
  exact this
def valD (p : Part) : D := match p.2 with | some i => .int i | none => .none
theorem dPart_eq (p : Part) : dPart p = .tup [.str p.1, valD p] := rfl
theorem vals_none : ∀ ps : List Part, (D.pys (ps.map valD)).any (fun y => PyData.eqv y D.none.py) = ps.any fun p => p.2.isNone
  | [] => rfl
  | (x, v) :: ps => by
    simp only [List.map_cons, D.pys, List.any_cons, vals_none ps]
    congr 1
    cases v <;> simp [valD, D.py, PyData.eqv]
theorem vals_ok : ∀ ps : List Part, D.noObjs (ps.map valD) = true ∧ PyData.canLayAll0 (D.pys (ps.map valD)) = true
  | [] => ⟨rfl, rfl⟩
  | (x, v) :: ps => by
    obtain ⟨a, b⟩ := vals_ok ps
    cases v <;> simp [valD, D.noObj, D.noObjs, D.py, D.pys, PyData.canLay0, PyData.canLayAll0, a, b]
theorem cm_nonone {X : Cx} {ρ : Str → Option D} {J : Side} (ps : List Part) : Cm X ρ J .NotIn .none (.lst (ps.map valD)) (Mach.allInt ps) := by
  have := cm_notin_lst (X := X) (ρ := ρ) (J := J) (d := .none) (es := ps.map valD) rfl (vals_ok ps).1 rfl (vals_ok ps).2 (by simp [D.py, PyData.depth])
  have e : (!(D.pys (ps.map valD)).any fun y => PyData.eqv y D.none.py) = Mach.allInt ps := by
    rw [vals_none]
    unfold Mach.allInt
    induction ps with
    | nil => rfl
    | cons p ps ih =>
      simp only [List.any_cons, List.all_cons, Bool.not_or]
      rw [ih (cm_notin_lst rfl (vals_ok ps).1 rfl (vals_ok ps).2 (by simp [D.py, PyData.depth]))]
      cases p.2 <;> rfl
  rw [e] at this
  exact this
def undPart : D → Part
  | .tup [.str x, .int v] => (x, some v)
  | .tup [.str x, _] => (x, none)
  | _ => ("", none)
theorem undPart_d (p : Part) : undPart (dPart p) = p := by
  obtain ⟨x, v⟩ := p
  cases v <;> rfl
theorem undParts (ps : List Part) : (ps.map dPart).map undPart = ps := by
  rw [List.map_map]
  conv => rhs; rw [← List.map_id ps]
  exact List.map_congr_left fun p _ => undPart_d p
theorem ssc_if_upd2 {X : Cx} {ρ : Str → Option D} {J : Side} {Φ : Flow → Shared → Prop} {rest body : List Stmt} {t : Expr} {pos : Pos} {x y : Str} {a b : D} {c : Bool} (ht : Tr X ρ J t c)
    (hbody : c = true → ∀ Ψ : Flow → Shared → Prop, (∀ s, St X (upd (upd ρ x a) y b) J s → Ψ .next s) → Ss X ρ J (body ++ []) Ψ) (hb : c = false → ρ x = some a ∧ ρ y = some b ∧ y ≠ x) (hr : SsC X (upd (upd ρ x a) y b) J rest Φ) :
    SsC X ρ J (.If t body [] pos :: rest) Φ := by
  refine ssc_plain (ρ' := upd (upd ρ x a) y b) (J' := J) (fun Ψ q => ss_if ht (fun hc => hbody hc Ψ q) (fun hc => ?_)) hr
  obtain ⟨h1, h2, h3⟩ := hb hc
  exact ss_nil fun s S => q s (S.weak (fun z e hz => upd_same h1 z e (upd_same (upd_there h3 h2) z e hz)) S.side S.off)
theorem cutL_drop {α : Type} (l : List α) (n : Nat) (h : (n : Int) ≤ 1000) : cutL l (some n) none = l.drop n := by
  unfold cutL
  simp only [Option.elim]
  have e : clipAt l.length ((n : Nat) : Int) = min n l.length := by unfold clipAt; omega
  rw [e]
  rcases Nat.le_total n l.length with h1 | h1
  · rw [Nat.min_eq_left h1, List.take_of_length_le (by simp)]
  · rw [Nat.min_eq_right h1, List.drop_length, List.drop_of_length_le h1, List.take_nil]
end Mine
end
section
open PySem PySem.W PyProof.Rows PySem.Calls PySem.NumText
open Sem (wp)
set_option Elab.async false
set_option maxRecDepth 100000
set_option linter.unusedVariables false
namespace Mine
theorem whole_one (p : Part) : whole [p] = p.1 := by
  unfold whole
  show Txt.join "." [p.1] = p.1
  refine toL_inj ?_
  rw [toL_join]; rfl
theorem whole_nil : whole [] = "" := by decide +kernel
namespace MachOk
variable {m : Mach} (h : MachOk m)
include h
theorem buildL : (if m.build.length != 0 then [m.build] else []) = m.more.map (·.1) := by
  unfold Mach.build
  have h1 := h.more.1
  cases hm : m.more with
  | nil => rw [whole_nil]; decide +kernel
  | cons p r =>
    rw [hm] at h1
    have hr : r = [] := List.length_eq_zero_iff.mp (by simp at h1; simpa using h1)
    subst hr
    rw [whole_one]
    have : ∀ p ∈ parts8, (p.1.length != 0) = true := by decide +kernel
    rw [if_pos (this p (h.more.2 p (by rw [hm]; exact List.mem_cons_self)))]
    rfl
theorem verL : Txt.split (ub (whole m.new)) "." = m.newB.map (·.1) := by
  unfold Mach.newB
  by_cases hn : (m.new == [(("unknown" : Str), none)]) = true
  · rw [if_pos hn]
    rw [beq_iff_eq] at hn
    rw [hn, whole_one]
    have e : ub (("unknown" : Str), (none : Option Int)).1 = "" := by decide +kernel
    rw [e]
    have := (PS.split (ps := [(("" : Str), none)]) ⟨by simp, fun p hp => by simp at hp; subst hp; decide +kernel⟩ (by simp))
    rw [whole_one] at this
    exact this
  · rw [if_neg hn]
    have hne : m.new ≠ [] := fun e => by have := h.new.1; rw [e] at this; simp at this
    have hsp := h.pnew.split hne
    have : ub (whole m.new) = whole m.new := by
      unfold ub
      rw [if_neg]
      intro hu
      rw [beq_iff_eq] at hu
      apply hn
      rw [hu] at hsp
      have h1 : Txt.split "unknown" "." = [("unknown" : Str)] := by
        have := (PS.split (ps := [(("unknown" : Str), none)]) ⟨by simp, fun p hp => by simp at hp; subst hp; decide +kernel⟩ (by simp))
        rw [whole_one] at this
        exact this
      rw [h1] at hsp
      cases hnew : m.new with
      | nil => exact absurd hnew hne
      | cons p r =>
        rw [hnew] at hsp
        simp only [List.map_cons, List.cons.injEq] at hsp
        have hr : r = [] := by
          have := congrArg List.length hsp.2
          simp at this
          exact List.length_eq_zero_iff.mp this.symm
        subst hr
        have h8 : ∀ p ∈ parts8, p.1 = "unknown" → p = (("unknown" : Str), none) := by decide +kernel
        rw [h8 p (h.new.2.2 p (by rw [hnew]; exact List.mem_cons_self)) hsp.1.symm]
        exact beq_self_eq_true _
    rw [this]
    exact hsp
theorem normL_eq : Txt.split (ub (whole m.new)) "." ++ (if m.build.length != 0 then [m.build] else []) = (m.newB ++ m.more).map (·.1) := by
  rw [h.verL, h.buildL, List.map_append]
end MachOk
theorem normL_parts (ps : List Part) (h : ∀ p ∈ ps, p ∈ allParts) : normL (ps.map (·.1)) = (if Mach.allInt ps then ps.map Mach.shownP else ps).map (·.1) := by
  have e1 : (ps.map (·.1)).all (fun t => (PySem.intText? t).isSome) = Mach.allInt ps := by
    unfold Mach.allInt
    rw [List.all_map]
    induction ps with
    | nil => rfl
    | cons p ps ih =>
      simp only [List.all_cons, Function.comp_apply]
      rw [(pf (h p List.mem_cons_self)).iv]
      congr 1
      exact ih fun q hq => h q (List.mem_cons_of_mem _ hq)
  unfold normL
  rw [e1]
  cases hc : Mach.allInt ps with
  | false => simp
  | true =>
    rw [if_pos rfl, if_pos rfl, List.map_map, List.map_map]
    refine List.map_congr_left fun p hp => ?_
    have hs : p.2.isSome = true := List.all_eq_true.mp hc p hp
    obtain ⟨v, hv⟩ := Option.isSome_iff_exists.mp hs
    have hi := (pf (h p hp)).iv
    obtain ⟨x, y⟩ := p
    simp only at hv hi
    subst hv
    simp only [Function.comp_apply, shown, hi, Option.getD_some, Mach.shownP]
theorem MachOk.norm_eq {m : Mach} (h : MachOk m) : m.norm = whole m.new3 := by
  unfold Mach.norm normOf
  rw [h.normL_eq, normL_parts _ h.new1.m]
  unfold whole Mach.new3 Mach.new2
  rw [List.map_take]
theorem MachOk.normOk {m : Mach} (h : MachOk m) : NormOk (ub (whole m.new)) m.build where
  vl := by
    have := h.pnew.len
    unfold ub
    split
    · decide +kernel
    · omega
  len := by
    rw [h.verL, List.length_map]
    have := h.newB.2.1; omega
  sm t ht := by
    rw [h.verL] at ht
    obtain ⟨p, hp, rfl⟩ := List.mem_map.mp ht
    exact (pf (h.newB.1.m p hp)).small
  bs := by
    unfold Mach.build
    cases hm : m.more with
    | nil =>
      rw [whole_nil]
      exact (pf (p := (("" : Str), none)) (by decide +kernel)).small
    | cons p r =>
      have h1 := h.more.1
      rw [hm] at h1
      have hr : r = [] := List.length_eq_zero_iff.mp (by simp at h1; simpa using h1)
      subst hr
      rw [whole_one]
      exact (pf (mem8 (h.more.2 p (by rw [hm]; exact List.mem_cons_self)))).small
  jo := by
    rw [h.normL_eq, normL_parts _ h.new1.m, ← List.map_take]
    exact h.new3.jo
end Mine
end
section
open PySem PySem.W PyProof.Rows PySem.Calls PySem.NumText
open Sem (wp)
set_option Elab.async false
set_option maxRecDepth 100000
set_option linter.unusedVariables false
namespace Mine
local macro_rules | `(tactic| walk_at "look") => `(tactic| first | exact upd_here | exact upd_there (by decide +kernel) (by walk_at "look") | assumption)
local macro_rules | `(tactic| walk_at "sz") => `(tactic| (show _ ≤ (16777216 : Nat); simp only [List.length_cons, List.length_nil, List.length_append, List.length_map]; omega))
local macro_rules | `(tactic| walk_at "sl") => `(tactic| (show _ ≤ (16777216 : Nat); (try simp only [Str.length_append]); omega))
local macro_rules | `(tactic| walk_at "gl") => `(tactic| exact evv_glob (by kernel_rfl) (by kernel_rfl))
local macro_rules | `(tactic| walk_at "bi") => `(tactic| exact evv_builtin (by kernel_rfl) (by kernel_rfl) (by kernel_rfl))
local macro_rules | `(tactic| walk_at "ev") => `(tactic| exact ev_var (by walk_at "look"))
noncomputable def fdAt (w : World) (a : Addr) : FuncData := match (KF w).lookup a with
  | some ⟨_, _, .func fd, _⟩ => fd
  | _ => default
noncomputable def stm (w : World) (a : Addr) (n : Nat) : List Stmt := match (fdAt w a).body with
  | .stmts b => b.drop n
  | _ => []
theorem int_at' {n i : Nat} {d : D} (h : ((List.range n).map fun i : Nat => D.int i)[i]? = some d) : ∃ k : Nat, k < n ∧ d = .int k := by
  rw [List.getElem?_map] at h
  cases e : (List.range n)[i]? with
  | none => rw [e] at h; cases h
  | some k =>
    rw [e] at h; cases h
    exact ⟨k, List.mem_range.mp (List.mem_of_getElem? e), rfl⟩
def outV : D → List D
  | .tup [_, v] => [v]
  | _ => []
theorem outV_parts : ∀ ps : List Part, (ps.map dPart).flatMap outV = ps.map valD
  | [] => rfl
  | p :: ps => by simp only [List.map_cons, List.flatMap_cons, outV_parts ps]; rfl
def outS : D → List D
  | .tup [_, .int v] => [dPart (Str.ofString (toString v), some v)]
  | _ => []
theorem outS_parts : ∀ ps : List Part, Mach.allInt ps = true → (ps.map dPart).flatMap outS = (ps.map Mach.shownP).map dPart
  | [], _ => rfl
  | (x, none) :: ps, h => by simp [Mach.allInt] at h
  | (x, some v) :: ps, h => by
    have : Mach.allInt ps = true := by unfold Mach.allInt at h ⊢; rw [List.all_cons, Bool.and_eq_true] at h; exact h.2
    simp only [List.map_cons, List.flatMap_cons, outS_parts ps this]; rfl
def outT : D → List D
  | .lst l => [dTold ⟨"", whole (l.map undPart) != "", seenL (l.map undPart), ranksOf (l.map undPart)⟩]
  | _ => []
theorem outT_parts (ps : List Part) : outT (.lst (ps.map dPart)) = [dTold ⟨"", whole ps != "", seenL ps, ranksOf ps⟩] := by
  unfold outT
  dsimp only
  rw [undParts]
def outI (its : List Item) : D → List D
  | .int i => (its[i.toNat]?).toList.map dItem
  | _ => []
theorem upd_none2 {x y z : Str} {d e f : D} (h : upd (upd (fun _ => none) x d) y e z = some f) : (z = y ∧ f = e) ∨ (z = x ∧ f = d) := by
  unfold upd at h
  by_cases hy : z = y
  · rw [if_pos hy] at h; cases h; exact .inl ⟨hy, rfl⟩
  · rw [if_neg hy] at h
    by_cases hx : z = x
    · rw [if_pos hx] at h; cases h; exact .inr ⟨hx, rfl⟩
    · rw [if_neg hx] at h; cases h
theorem nodup3' (L : Nat) : ([L + 1 + 1 + 1, L + 1 + 1, L + 1] : List Nat).Nodup := by simp; omega
theorem PS.n1 {ps : List Part} (h : PS ps) : ps.length ≤ sizeLine := by have := h.n; show _ ≤ 16777216; omega
theorem PS.n2 {ps : List Part} (h : PS ps) : ps.length ≤ 1000 := by have := h.n; omega
noncomputable abbrev mX (w : World) (H₀ : Heap) (A : Around) (sE : Shared) (F : Addr → Prop) : Cx := fX w H₀ 1 (fdAt w 102) 102 A sE F
abbrev mCs (sE : Shared) : List Addr := [sE.heap.objs.size + 1, sE.heap.objs.size + 1 + 1, sE.heap.objs.size + 1 + 1 + 1]
set_option maxHeartbeats 4000000 in
theorem mach_tail (w : World) (H₀ : Heap) (A : Around) (sE : Shared) (F : Addr → Prop) (hE : HG H₀ sE.heap) (m : Mach) (ok : MachOk m) (ρ : Str → Option D)
    (h1 : ρ (Str.ofString "new") = some (.lst (m.newB.map dPart))) (h2 : ρ (Str.ofString "more") = some (.lst (m.more.map dPart))) (h3 : ρ (Str.ofString "old") = some (.lst (m.old2.map dPart))) (h4 : ρ (Str.ofString "word") = some (.str m.word))
    (h5 : ρ (Str.ofString "ahead") = some (.str m.ahead)) (h6 : ρ (Str.ofString "first") = some (dPart m.first)) (h7 : ρ (Str.ofString "middle") = some (.str m.middle)) (h8 : ρ (Str.ofString "second") = some (dPart m.second)) (h9 : ρ (Str.ofString "behind") = some (.str m.behind))
    (h10 : ρ (Str.ofString "texts") = some (.lst [.str m.gave.1, .str m.gave.2, .str m.norm, .str m.remark])) :
    SsC (mX w H₀ A sE F) ρ (CellsAt (mCs sE)) (stm w 102 16) (Ret F H₀ sE (.lst (m.items.map dItem))) := by
  have l1 := ok.new1.n
  rw [List.length_append] at l1
  refine ssc_assign (d := .lst ((m.newB ++ m.more).map dPart)) (evc_of ?_) ?_
  · rw [List.map_append]
    exact ev_add_lst (by walk_at "ev") (by walk_at "ev") (by show _ ≤ (16777216 : Nat); simp only [List.length_map]; omega)
  have lz : ((m.newB ++ m.more).map dPart).length ≤ 16777216 := by simp only [List.length_map, List.length_append]; omega
  refine ssc_if_upd_comp (d := .lst (m.new2.map dPart)) (res := ((m.newB ++ m.more).map Mach.shownP).map dPart) (tr_compare ev_none (ev_comp (cp_plain outV (evit_lst (by walk_at "ev")) (outV_parts _) (by show _ ≤ (16777216 : Nat); simpa using lz) (fun sC acc C i d hd => ?_) (by decide +kernel) (by decide +kernel) rfl (by decide +kernel))) (cm_nonone (m.newB ++ m.more))) (fun h => ?_) (fun h => ?_) ?_ (by kernel_rfl) (by kernel_rfl)
  · obtain ⟨p, _, rfl⟩ := part_at hd
    exact ⟨_, true, fun J => as_pair (by kernel_rfl) (by kernel_rfl), fun J => ts_nil, fun _ => ⟨valD p, rfl, fun J => ev_var upd_here⟩, fun h => by cases h⟩
  · refine ⟨cp_plain outS (evit_lst (by walk_at "ev")) (outS_parts _ h) (by show _ ≤ (16777216 : Nat); simpa using lz) (fun sC acc C i d hd => ?_) (by decide +kernel) (by decide +kernel) rfl (by decide +kernel), ?_⟩
    · obtain ⟨p, hp, rfl⟩ := part_at hd
      have hs : p.2.isSome = true := List.all_eq_true.mp h p hp
      have hb := (pf (ok.new1.m p hp)).vb
      obtain ⟨x, v⟩ := p
      cases v with
      | none => cases hs
      | some v =>
        have := hb v rfl
        refine ⟨_, true, fun J => as_pair (by kernel_rfl) (by kernel_rfl), fun J => ts_nil, fun _ => ⟨dPart (Str.ofString (toString v), some v), rfl, fun J => ?_⟩, fun h => by cases h⟩
        exact ev_tuple (evs_cons (ev_str_int (by walk_at "bi") (ev_var upd_here) (by split <;> omega)) (evs_cons (ev_var upd_here) evs_nil)) (by walk_at "sz")
    · unfold Mach.new2; rw [if_pos h]
  · have e : m.new2 = m.newB ++ m.more := by unfold Mach.new2; rw [if_neg (by rw [h]; decide)]
    rw [e]
    exact upd_here
  have l2 := ok.new2.n
  refine ssc_assign (d := .lst (m.new3.map dPart)) (evc_of ?_) ?_
  · have e : m.new3.map dPart = cutL (m.new2.map dPart) none (some 3) := by
      rw [show (some (3 : Int)) = some ((3 : Nat) : Int) from rfl, cutL_take _ 3 (by decide)]
      unfold Mach.new3
      rw [List.map_take]
    rw [e]
    exact ev_cut_lst (by walk_at "ev") trivial ev_int (by show _ ≤ (16777216 : Nat); simp only [List.length_map]; omega)
  refine ssc_dict (ks := [("", ""), (" ", "_"), (".", "."), ("_", "_"), ("+", "+")]) (.cons (.cons (.cons (.cons (.cons .nil))))) (by simp) (by decide) (by decide +kernel) (fun a ha => ?_)
  refine ssc_assign (d := .str (if m.ahead == (" " : Str) then ("" : Str) else Mach.sg m.ahead)) (evc_of (ev_ifexp (tr_compare (by walk_at "ev") ev_str cm_eq_str) (fun h => ?_) (fun h => ?_))) ?_
  · rw [h]; exact ev_str
  · rw [h]; exact ev_get (by walk_at "look") ha (by walk_at "ev") ev_str
  have lg : ∀ x ∈ ends, (Mach.sg x).length ≤ 1 := by decide +kernel
  have g1 := lg _ (List.mem_of_mem_drop ok.middle)
  have g2 := lg _ ok.ahead
  have g3 := lg _ ok.behind
  have p1 : PS [m.first] := ⟨by simp, fun p hp => by rw [List.mem_singleton.mp hp]; exact mem8 ok.first⟩
  have p2 : PS [m.second] := ⟨by simp, fun p hp => by rw [List.mem_singleton.mp hp]; exact mem8 ok.second⟩
  have p12 : PS [m.first, m.second] := ⟨by simp, fun p hp => by
    rcases List.mem_cons.mp hp with rfl | hp
    · exact mem8 ok.first
    · rw [List.mem_singleton.mp hp]; exact mem8 ok.second⟩
  have s1 := p1.lens
  have s2 := p2.lens
  have s1' : (Txt.join "." ([m.first].map seenOf)).length ≤ 80 := s1
  have s2' : (Txt.join "." ([m.second].map seenOf)).length ≤ 80 := s2
  have e0 : (("" : Str)).length = 0 := by decide +kernel
  have a0 : (if m.ahead == (" " : Str) then ("" : Str) else Mach.sg m.ahead).length ≤ 1 := by split <;> omega
  have b0 : (if m.behind == (" " : Str) then ("" : Str) else Mach.sg m.behind).length ≤ 1 := by split <;> omega
  refine ssc_assign (d := .str ((if m.ahead == (" " : Str) then ("" : Str) else Mach.sg m.ahead) ++ seenL [m.first] ++ Mach.sg m.middle ++ seenL [m.second])) (evc_of (ev_add_str (ev_add_str (ev_add_str (by walk_at "ev")
    (ev_call (by walk_at "gl") (evs_one (ev_list (evs_one (by walk_at "ev")) (by walk_at "sz"))) (fn_seen w H₀ [m.first] p1.jos p1.n1) (Nat.le_refl _) ⟨_, _, rfl, rfl⟩) (by walk_at "sl"))
    (ev_get (by walk_at "look") ha (by walk_at "ev") ev_str) (by walk_at "sl"))
    (ev_call (by walk_at "gl") (evs_one (ev_list (evs_one (by walk_at "ev")) (by walk_at "sz"))) (fn_seen w H₀ [m.second] p2.jos p2.n1) (Nat.le_refl _) ⟨_, _, rfl, rfl⟩) (by walk_at "sl"))) ?_
  refine ssc_assign (d := .str m.seen) (evc_of (ev_add_str (by walk_at "ev") (ev_ifexp (d := .str (if m.behind == (" " : Str) then ("" : Str) else Mach.sg m.behind)) (tr_compare (by walk_at "ev") ev_str cm_eq_str) (fun h => ?_) (fun h => ?_)) (by walk_at "sl"))) ?_
  · rw [h]; exact ev_str
  · rw [h]; exact ev_get (by walk_at "look") ha (by walk_at "ev") ev_str
  refine ssc_weakJ (J' := CellsAt (mCs sE)) (fun h p => p.2) (fun a n => .inr n) ?_
  have ct : CellIs (mX w H₀ A sE F) (mCs sE) (Str.ofString "told") (sE.heap.objs.size + 1 + 1 + 1) := cellIs_new rfl (Nat.lt_succ_of_lt (Nat.lt_succ_of_lt (Nat.lt_succ_self _))) hE (nodup3' _) (by simp) (by kernel_rfl) (by kernel_rfl)
  have lr1 := ranksOf_len m.old2
  have w4 : m.word.length ≤ 16777216 := by
    have h : ∀ k ∈ kinds, (getD2 [("SunOS", "SunOS"), ("Linux", "Linux"), ("unknown", "")] k "Windows").length ≤ 10 := by decide +kernel
    have h2 : (("Solaris" : Str)).length ≤ 10 := by decide +kernel
    have := h _ ok.kind
    unfold Mach.word
    split <;> omega
  let t0 : Item := ⟨m.gave.1, m.word != "", m.word, if m.word.length != 0 then [.int 0, .str m.word] else []⟩
  let t1 : Item := ⟨"", whole m.old2 != "", seenL m.old2, ranksOf m.old2⟩
  let t2 : Item := ⟨"", whole m.new3 != "", seenL m.new3, ranksOf m.new3⟩
  let t3 : Item := ⟨"", true, m.seen, ranksOf [m.first, m.second]⟩
  refine ssc_assign_cell (d := .lst [dTold t0]) ct (evc_of (ev_list (evs_one (ev_tuple (evs_cons (ev_compare (by walk_at "ev") ev_str cm_ne_str) (evs_cons (by walk_at "ev") (evs_one (ev_ifexp (d := .lst (if m.word.length != 0 then [.int 0, .str m.word] else [])) (tr_val (d := .str m.word) (by walk_at "ev") w4) (fun h => ?_) (fun h => ?_))))) (by walk_at "sz"))) (by walk_at "sz"))) ?_
  · have h' : (m.word.length != 0) = true := h
    rw [if_pos h']; exact ev_list (evs_cons ev_int (evs_one (by walk_at "ev"))) (by walk_at "sz")
  · have h' : (m.word.length != 0) = false := h
    rw [if_neg (show ¬ ((m.word.length != 0) = true) by rw [h']; decide)]; exact ev_list evs_nil (by walk_at "sz")
  refine ssc_assign_cell (d := .lst ([dTold t0] ++ [dTold t1, dTold t2])) ct (evc_of (ev_add_lst (by walk_at "ev") (ev_comp (cp_plain (ds := [.lst (m.old2.map dPart), .lst (m.new3.map dPart)]) outT (evit_tup (ev_tuple (evs_cons (by walk_at "ev") (evs_one (by walk_at "ev"))) (by walk_at "sz"))) ?_ (by show _ ≤ (16777216 : Nat); simp) (fun sC acc C i d hd => ?_) (by decide +kernel) (by decide +kernel) rfl (by decide +kernel))) (by show _ ≤ (16777216 : Nat); simp))) ?_
  · simp only [List.flatMap_cons, List.flatMap_nil, outT_parts]; rfl
  · obtain ⟨ps, hps, rfl⟩ : ∃ ps, PS ps ∧ d = .lst (ps.map dPart) := by
      match i, hd with
      | 0, hd => cases hd; exact ⟨_, ok.old2, rfl⟩
      | 1, hd => cases hd; exact ⟨_, ok.new3, rfl⟩
      | i + 2, hd => simp at hd
    refine ⟨upd (fun _ => none) (Str.ofString "parts") (.lst (ps.map dPart)), true, fun J => as_name (by kernel_rfl), fun J => ts_nil, fun _ => ⟨_, outT_parts ps, fun J => ?_⟩, fun h => by cases h⟩
    exact ev_tuple (evs_cons (ev_compare (ev_call (by walk_at "gl") (evs_one (by walk_at "ev")) (fn_whole w H₀ ps hps.jo hps.n1) (Nat.le_refl _) ⟨_, _, rfl, rfl⟩) ev_str cm_ne_str)
      (evs_cons (ev_call (by walk_at "gl") (evs_one (by walk_at "ev")) (fn_seen w H₀ ps hps.jos hps.n1) (Nat.le_refl _) ⟨_, _, rfl, rfl⟩)
        (evs_one (ev_call (by walk_at "gl") (evs_one (by walk_at "ev")) (fn_ranks w H₀ ps (fun p hp => (pf (hps.m p hp)).ok) hps.n2) (Nat.le_refl _) ⟨_, _, rfl, rfl⟩)))) (by walk_at "sz")
  refine ssc_assign_cell (d := .lst ([dTold t0] ++ [dTold t1, dTold t2] ++ [dTold t3])) ct (evc_of (ev_add_lst (by walk_at "ev") (ev_list (evs_one (ev_tuple (evs_cons ev_bool (evs_cons (by walk_at "ev") (evs_one
    (ev_call (by walk_at "gl") (evs_one (ev_list (evs_cons (by walk_at "ev") (evs_one (by walk_at "ev"))) (by walk_at "sz"))) (fn_ranks w H₀ [m.first, m.second] (fun p hp => (pf (p12.m p hp)).ok) p12.n2) (Nat.le_refl _) ⟨_, _, rfl, rfl⟩)))) (by walk_at "sz"))) (by walk_at "sz")) (by show _ ≤ (16777216 : Nat); simp))) ?_
  refine ssc_ret (evc_of (ev_comp (cp_one (ds := (List.range 4).map fun i : Nat => .int i) (outI m.items) (upd (upd (fun _ => none) (Str.ofString "texts") (.lst [.str m.gave.1, .str m.gave.2, .str m.norm, .str m.remark])) (Str.ofString "told") (.lst ([dTold t0] ++ [dTold t1, dTold t2] ++ [dTold t3])))
    [(Str.ofString "told", sE.heap.objs.size + 1 + 1 + 1), (Str.ofString "texts", sE.heap.objs.size + 1 + 1)] (evit_range1 (by walk_at "bi") ev_int (by decide)) rfl (by show _ ≤ (16777216 : Nat); simp [Mach.items]) (fun sC acc C i d hd => ?_) (fun x d hx => ?_) (by kernel_rfl) (by decide +kernel) rfl (by decide +kernel) (fun _ => rfl))))
  · obtain ⟨k, hk, rfl⟩ := int_at' hd
    refine ⟨upd (upd (upd (fun _ => none) (Str.ofString "texts") (.lst [.str m.gave.1, .str m.gave.2, .str m.norm, .str m.remark])) (Str.ofString "told") (.lst ([dTold t0] ++ [dTold t1, dTold t2] ++ [dTold t3]))) (Str.ofString "place") (.int k), true,
      fun J => as_name (by kernel_rfl), fun J => ts_nil, fun x d hx => ?_, fun _ => ?_, fun h => by cases h⟩
    · rcases upd_none2 hx with ⟨rfl, rfl⟩ | ⟨rfl, rfl⟩
      · walk_at "look"
      · walk_at "look"
    · have hk4 : k = 0 ∨ k = 1 ∨ k = 2 ∨ k = 3 := by omega
      rcases hk4 with rfl | rfl | rfl | rfl
      · exact ⟨_, rfl, fun J => ev_tuple (evs_cons (ev_item_lst (by walk_at "ev") (by walk_at "ev") (by decide) (by decide) rfl) (evs_one (ev_item_lst (by walk_at "ev") (by walk_at "ev") (by decide) (by decide) rfl))) (by walk_at "sz")⟩
      · exact ⟨_, rfl, fun J => ev_tuple (evs_cons (ev_item_lst (by walk_at "ev") (by walk_at "ev") (by decide) (by decide) rfl) (evs_one (ev_item_lst (by walk_at "ev") (by walk_at "ev") (by decide) (by decide) rfl))) (by walk_at "sz")⟩
      · exact ⟨_, rfl, fun J => ev_tuple (evs_cons (ev_item_lst (by walk_at "ev") (by walk_at "ev") (by decide) (by decide) rfl) (evs_one (ev_item_lst (by walk_at "ev") (by walk_at "ev") (by decide) (by decide) rfl))) (by walk_at "sz")⟩
      · exact ⟨_, rfl, fun J => ev_tuple (evs_cons (ev_item_lst (by walk_at "ev") (by walk_at "ev") (by decide) (by decide) rfl) (evs_one (ev_item_lst (by walk_at "ev") (by walk_at "ev") (by decide) (by decide) rfl))) (by walk_at "sz")⟩
  · rcases upd_none2 hx with ⟨rfl, rfl⟩ | ⟨rfl, rfl⟩
    · exact ⟨by walk_at "look", by kernel_rfl, fun C => by kernel_rfl, by kernel_rfl⟩
    · exact ⟨by walk_at "look", by kernel_rfl, fun C => by kernel_rfl, by kernel_rfl⟩
end Mine
end
section
open PySem PySem.W PyProof.Rows PySem.Calls PySem.NumText
open Sem (wp)
set_option Elab.async false
set_option maxRecDepth 100000
set_option linter.unusedVariables false
namespace Mine
local macro_rules | `(tactic| walk_at "look") => `(tactic| first | exact upd_here | exact upd_there (by decide +kernel) (by walk_at "look") | assumption)
local macro_rules | `(tactic| walk_at "sz") => `(tactic| (show _ ≤ (16777216 : Nat); simp only [List.length_cons, List.length_nil, List.length_append, List.length_map]; omega))
local macro_rules | `(tactic| walk_at "sl") => `(tactic| (show _ ≤ (16777216 : Nat); (try simp only [Str.length_append]); omega))
local macro_rules | `(tactic| walk_at "gl") => `(tactic| exact evv_glob (by kernel_rfl) (by kernel_rfl))
local macro_rules | `(tactic| walk_at "bi") => `(tactic| exact evv_builtin (by kernel_rfl) (by kernel_rfl) (by kernel_rfl))
local macro_rules | `(tactic| walk_at "ev") => `(tactic| first
  | exact ev_int | exact ev_str | exact ev_none | exact ev_bool
  | exact ev_var (by walk_at "look")
  | exact ev_tuple (by walk_at "evs") (by walk_at "sz")
  | exact ev_list (by walk_at "evs") (by walk_at "sz"))
local macro_rules | `(tactic| walk_at "evs") => `(tactic| first
  | exact evs_nil
  | exact evs_cons (by walk_at "ev") (by walk_at "evs"))
section
variable {X : Cx} {ρ : Str → Option D} {J : Side}
theorem ev_part0 {e : Expr} {p : Part} {k : Nat} {cp pos : Pos} (h : Ev X ρ J e (dPart p)) : Ev X ρ J (.Subscript e (.Constant (.int 0) k cp) pos) (.str p.1) := ev_item_tup h ev_int (by decide) (by decide) rfl
theorem ev_part1 {e : Expr} {p : Part} {k : Nat} {cp pos : Pos} (h : Ev X ρ J e (dPart p)) : Ev X ρ J (.Subscript e (.Constant (.int 1) k cp) pos) (valD p) := ev_item_tup h ev_int (by decide) (by decide) rfl
end
theorem strs_at (l : List Str) (i : Nat) (h : i < l.length) : (l.map D.str)[i]? = some (.str (l.getD i "")) := by
  rw [List.getElem?_map, List.getD_eq_getElem?_getD, List.getElem?_eq_getElem h]
  rfl
theorem truth_int (i : Int) : (D.int i).truth = (i != 0) := rfl

theorem flat_one {α : Type} {outs : D → List D} {f g : α → D} (l : List α) (h : ∀ x ∈ l, outs (f x) = [g x]) : (l.map f).flatMap outs = l.map g := by
  induction l with
  | nil => rfl
  | cons a l ih =>
    simp only [List.map_cons, List.flatMap_cons]
    rw [h a List.mem_cons_self, ih fun x hx => h x (List.mem_cons_of_mem _ hx)]
    rfl
theorem upd_none {x y : Str} {d e : D} (h : upd (fun _ => none) x d y = some e) : y = x ∧ e = d := by
  unfold upd at h
  by_cases hy : y = x
  · rw [if_pos hy] at h; cases h; exact ⟨hy, rfl⟩
  · rw [if_neg hy] at h; cases h
def outNew (two : Int) : D → List D
  | .int i => [dPart (pt ((two.fdiv 36).fdiv (8 ^ i.toNat)))]
  | _ => []
theorem not_cell (L : Nat) (h : L ∈ ([L + 1, L + 1 + 1, L + 1 + 1 + 1] : List Nat)) : False := by simp at h; omega
theorem int_at {n i : Nat} {d : D} (h : ((List.range n).map fun i : Nat => D.int i)[i]? = some d) : ∃ k : Nat, k < n ∧ d = .int k := by
  rw [List.getElem?_map] at h
  cases e : (List.range n)[i]? with
  | none => rw [e] at h; cases h
  | some k =>
    rw [e] at h; cases h
    exact ⟨k, List.mem_range.mp (List.mem_of_getElem? e), rfl⟩
theorem nodup3 (L : Nat) : ([L + 1 + 1 + 1, L + 1 + 1, L + 1] : List Nat).Nodup := by simp; omega
theorem PS.nz {ps : List Part} (h : PS ps) : ps.length ≤ sizeLine := by have := h.n; show _ ≤ 16777216; omega
structure AliasOk (m : Mach) : Prop where
  ok : PyData.strOk (ub m.kind) = true
  sp : Txt.split m.rel "." = m.o1.1 :: m.o2.map (·.1)
  l : m.rel.length ≤ 600
  r : (m.o2.map (·.1)).length ≤ 600
  f : m.o1.1.length ≤ 640
  rp : (reprText m.o1.1).length ≤ 1000
  hm : ∀ v, PySem.intText? m.o1.1 = some v → (if v - 3 < 0 then 0 - (v - 3) else v - 3) < 1000000000
  hj : ∀ v, PySem.intText? m.o1.1 = some v → JoinOk "." (Str.ofString (toString (v - 3)) :: m.o2.map (·.1)) = true
theorem MachOk.alias {m : Mach} (h : MachOk m) : AliasOk m where
  ok := by
    have : ∀ k ∈ kinds, PyData.strOk (ub k) = true := by decide +kernel
    exact this _ h.kind
  sp := h.old.split (by simp [Mach.old])
  l := Nat.le_trans h.old.len (by decide)
  r := by have := h.o2.1; rw [List.length_map]; omega
  f := Nat.le_trans (pf (mem8 h.o1)).len (by decide)
  rp := (pf (mem8 h.o1)).rp
  hm v hv := by
    rw [(pf (mem8 h.o1)).iv] at hv
    obtain ⟨a, b⟩ := (pf (mem8 h.o1)).vb v hv
    split <;> omega
  hj v hv := by
    have h1 : ∀ p ∈ parts8, (match PySem.intText? p.1 with | some v => decide ((Str.ofString (toString (v - 3))).length ≤ 20) | none => true) = true := by decide +kernel
    have h2 := h1 _ h.o1
    rw [hv] at h2
    refine joinOk_small _ (fun t ht => ?_) (by have := h.o2.1; simp; omega)
    rcases List.mem_cons.mp ht with rfl | ht
    · simpa using h2
    · obtain ⟨p, hp, rfl⟩ := List.mem_map.mp ht
      have := (pf (mem8 (h.o2.2 p hp))).len; omega
set_option maxHeartbeats 4000000 in
theorem fn_machine (w : World) (H₀ : Heap) (one two three : Int) : FnC w H₀ (.ref 102) 2 [.int one, .int two, .int three] (.lst ((machOf one two three).items.map dItem)) := by
  refine fnc_body (k := 1) [Str.ofString "one", Str.ofString "two", Str.ofString "three"] (fun L => CellsAt [L + 1, L + 1 + 1, L + 1 + 1 + 1]) rfl rfl rfl ⟨_, _, _, _, rfl, rfl, rfl, rfl⟩ rfl rfl rfl rfl rfl rfl rfl (fun vs h => ?_) (fun s hg => ?_) (fun A sE F hg hF n hn => ?_) (fun A sE F hE hF => ?_) (fun L h => ?_)
  · match vs, h with
    | [a, b, c], _ => kernel_rfl
  · exact three_cells (Heap.size_push ..)
  · simp only [List.mem_cons, List.not_mem_nil, or_false] at hn
    rcases hn with rfl | rfl | rfl
    · exact stores_local (by kernel_rfl)
    · exact stores_cell (c := sE.heap.objs.size + 1) (cellIs_new rfl (Nat.lt_succ_self _) hg (nodup3 _) (by simp) (by kernel_rfl) (by kernel_rfl))
    · exact stores_local (by kernel_rfl)
  · dsimp only [bindAll, List.zip, List.zipWith]
    have ok := machOk one two three
    have r5 := fmod_range one 5 (by decide)
    have r9 := fmod_range (one.fdiv 40) 9 (by decide)
    have r4 := fmod_range (two.fdiv 9) 4 (by decide)
    have r13 := fmod_range three 13 (by decide)
    have r12 := fmod_range (three.fdiv 104) 12 (by decide)
    have r13b := fmod_range (three.fdiv 9984) 13 (by decide)
    have hm : machOf one two three = machOf one two three := rfl
    generalize hM : machOf one two three = m at ok ⊢
    have hkind : m.kind = kinds.getD (one.fmod 5).toNat "" := by rw [← hM]; rfl
    refine ssc_assign (d := .str m.kind) (evc_of (ev_item_tup (by walk_at "ev") (ev_mod_int (by walk_at "ev") ev_int (by decide)) r5.1 (by omega) (by rw [hkind]; exact strs_at kinds _ (by show (one.fmod 5).toNat < 5; omega)))) ?_
    refine ssc_assign (d := .lst [dPart m.o1]) (evc_of (ev_list (evs_one (ev_call (by walk_at "gl") (evs_one (ev_floordiv_int (by walk_at "ev") ev_int (by decide) (by decide))) (by rw [← hM]; exact fn_part w H₀ _) (Nat.le_refl _) ⟨_, _, rfl, rfl⟩)) (by walk_at "sz"))) ?_
    refine ssc_if_upd (d := .lst (m.old.map dPart)) (tr_val (ev_mod_int (ev_floordiv_int (by walk_at "ev") ev_int (by decide) (by decide)) ev_int (by decide)) trivial) (fun h => ?_) (fun h => ?_) ?_
    · have h' : ((one.fdiv 40).fmod 9 != 0) = true := h
      have e : m.o2 = [pt ((one.fdiv 40).fmod 9 - 1)] := by rw [← hM]; unfold machOf; dsimp only; rw [if_pos h']
      have e2 : m.old.map dPart = [dPart m.o1] ++ [dPart (pt ((one.fdiv 40).fmod 9 - 1))] := by unfold Mach.old; rw [e]; rfl
      rw [e2]
      exact ev_add_lst (by walk_at "ev") (ev_list (evs_one (ev_call (by walk_at "gl") (evs_one (ev_sub_int (ev_mod_int (ev_floordiv_int (by walk_at "ev") ev_int (by decide) (by decide)) ev_int (by decide)) ev_int)) (fn_part w H₀ _) (Nat.le_refl _) ⟨_, _, rfl, rfl⟩)) (by walk_at "sz")) (by walk_at "sz")
    · have h' : ((one.fdiv 40).fmod 9 != 0) = false := h
      have e : m.o2 = [] := by rw [← hM]; unfold machOf; dsimp only; rw [if_neg (by rw [h']; decide)]
      have e2 : m.old.map dPart = [dPart m.o1] := by unfold Mach.old; rw [e]; rfl
      rw [e2]
      exact upd_here
    rw [upd_upd]
    have hnew : m.new = (List.range (1 + (two.fdiv 9).fmod 4).toNat).map fun p => pt ((two.fdiv 36).fdiv (8 ^ p)) := by rw [← hM]; rfl
    refine ssc_assign_comp (res := m.new.map dPart) (cp_one (ds := (List.range (1 + (two.fdiv 9).fmod 4).toNat).map fun i : Nat => .int i) (outNew two) (upd (fun _ => none) (Str.ofString "two") (.int two)) [(Str.ofString "two", sE.heap.objs.size + 1)]
      (evit_range1 (by walk_at "bi") ?_ (by omega)) ?_ ?_ (fun sC acc C i d hd => ?_) (fun x d hx => ?_) (by kernel_rfl) (by decide +kernel) rfl (by decide +kernel) (fun _ => rfl)) (by kernel_rfl) (by kernel_rfl) ?_
    · rw [Int.toNat_of_nonneg (by omega)]
      exact ev_add_int ev_int (ev_mod_int (ev_floordiv_int (by walk_at "ev") ev_int (by decide) (by decide)) ev_int (by decide))
    · rw [hnew, List.map_map]
      exact flat_one _ fun x hx => by simp [outNew]
    · rw [List.length_map]
      have := ok.new.2.1
      show m.new.length ≤ 16777216
      omega
    · obtain ⟨k, hk, rfl⟩ := int_at hd
      have hk4 : k = 0 ∨ k = 1 ∨ k = 2 ∨ k = 3 := by omega
      refine ⟨upd (upd (fun _ => none) (Str.ofString "two") (.int two)) (Str.ofString "place") (.int k), true, fun J => as_name (by kernel_rfl), fun J => ts_nil, fun x d hx => ?_, fun _ => ⟨_, rfl, fun J => ?_⟩, fun h => by cases h⟩
      · obtain ⟨rfl, rfl⟩ := upd_none hx
        walk_at "look"
      · refine ev_call (by walk_at "gl") (evs_one (ev_floordiv_int (ev_floordiv_int (by walk_at "ev") ev_int (by decide) (by decide)) (ev_pow_int ev_int (by walk_at "ev") (by omega) (by omega) (by decide)) ?_ ?_)) (fn_part w H₀ _) (Nat.le_refl _) ⟨_, _, rfl, rfl⟩
        · rcases hk4 with rfl | rfl | rfl | rfl <;> decide
        · rcases hk4 with rfl | rfl | rfl | rfl <;> decide
    · obtain ⟨rfl, rfl⟩ := upd_none hx
      exact ⟨by walk_at "look", by kernel_rfl, fun C => by kernel_rfl, by kernel_rfl⟩
    refine ssc_assign (d := .lst (m.more.map dPart)) (evc_of (ev_ifexp (tr_val (ev_mod_int (by walk_at "ev") ev_int (by decide)) trivial) (fun h => ?_) (fun h => ?_))) ?_
    · have h' : (two.fmod 9 != 0) = true := h
      have e : m.more = [pt (two.fmod 9 - 1)] := by rw [← hM]; unfold machOf; dsimp only; rw [if_pos h']
      rw [e]
      exact ev_list (evs_one (ev_call (by walk_at "gl") (evs_one (ev_sub_int (ev_mod_int (by walk_at "ev") ev_int (by decide)) ev_int)) (fn_part w H₀ _) (Nat.le_refl _) ⟨_, _, rfl, rfl⟩)) (by walk_at "sz")
    · have h' : (two.fmod 9 != 0) = false := h
      have e : m.more = [] := by rw [← hM]; unfold machOf; dsimp only; rw [if_neg (by rw [h']; decide)]
      rw [e]
      exact ev_list evs_nil (by walk_at "sz")
    have hahead : m.ahead = ends.getD (three.fmod 13).toNat "" := by rw [← hM]; rfl
    have hmiddle : m.middle = ends.getD (1 + (three.fdiv 104).fmod 12).toNat "" := by rw [← hM]; rfl
    have hbehind : m.behind = ends.getD ((three.fdiv 9984).fmod 13).toNat "" := by rw [← hM]; rfl
    refine ssc_assign (evc_of (by walk_at "ev")) ?_
    refine ssc_assign (d := .str m.ahead) (evc_of (ev_item_tup (by walk_at "ev") (ev_mod_int (by walk_at "ev") ev_int (by decide)) r13.1 (by omega) (by rw [hahead]; exact strs_at ends _ (by show (three.fmod 13).toNat < 13; omega)))) ?_
    refine ssc_assign (d := dPart m.first) (evc_of (ev_call (by walk_at "gl") (evs_one (ev_floordiv_int (by walk_at "ev") ev_int (by decide) (by decide))) (by rw [← hM]; exact fn_part w H₀ _) (Nat.le_refl _) ⟨_, _, rfl, rfl⟩)) ?_
    refine ssc_assign (d := .str m.middle) (evc_of (ev_item_tup (by walk_at "ev") (ev_add_int ev_int (ev_mod_int (ev_floordiv_int (by walk_at "ev") ev_int (by decide) (by decide)) ev_int (by decide))) (by omega) (by omega) (by rw [hmiddle]; exact strs_at ends _ (by show (1 + (three.fdiv 104).fmod 12).toNat < 13; omega)))) ?_
    refine ssc_assign (d := dPart m.second) (evc_of (ev_call (by walk_at "gl") (evs_one (ev_floordiv_int (by walk_at "ev") ev_int (by decide) (by decide))) (by rw [← hM]; exact fn_part w H₀ _) (Nat.le_refl _) ⟨_, _, rfl, rfl⟩)) ?_
    refine ssc_assign (d := .str m.behind) (evc_of (ev_item_tup (by walk_at "ev") (ev_mod_int (ev_floordiv_int (by walk_at "ev") ev_int (by decide) (by decide)) ev_int (by decide)) r13b.1 (by omega) (by rw [hbehind]; exact strs_at ends _ (by show ((three.fdiv 9984).fmod 13).toNat < 13; omega)))) ?_
    have hub : ∀ x, (if (x == ("unknown" : Str)) = true then ("" : Str) else x) = ub x := fun x => rfl
    have hal := ok.alias
    refine ssc_assign (d := .tup [.str m.gave.1, .str m.gave.2, .str (ub (whole m.new))]) (evc_call (by walk_at "gl") (evs_cons (ev_call (by walk_at "gl") (evs_one (by walk_at "ev")) (fn_unk w H₀ m.kind) (Nat.le_refl _) ⟨_, _, rfl, rfl⟩)
      (evs_cons (ev_call (by walk_at "gl") (evs_one (by walk_at "ev")) (fn_whole w H₀ m.old ok.old.jo ok.old.nz) (Nat.le_refl _) ⟨_, _, rfl, rfl⟩)
        (evs_cons (ev_call (by walk_at "gl") (evs_one (ev_call (by walk_at "gl") (evs_one (by walk_at "ev")) (fn_whole w H₀ m.new ok.pnew.jo ok.pnew.nz) (Nat.le_refl _) ⟨_, _, rfl, rfl⟩)) (fn_unk w H₀ (whole m.new)) (Nat.le_refl _) ⟨_, _, rfl, rfl⟩) evs_nil)))
      (fn_alias w H₀ (ub m.kind) m.rel (ub (whole m.new)) m.o1.1 (m.o2.map (·.1)) hal.ok hal.sp hal.l hal.r hal.f hal.rp hal.hm hal.hj) (Nat.le_refl _) ⟨_, _, rfl, rfl⟩) ?_
    have la : m.ahead.length ≤ 1 ∧ m.middle.length ≤ 1 ∧ m.behind.length ≤ 1 := by
      have h1 : ∀ x ∈ ends, x.length ≤ 1 := by decide +kernel
      exact ⟨h1 _ ok.ahead, h1 _ (List.mem_of_mem_drop ok.middle), h1 _ ok.behind⟩
    have lf := (pf (mem8 ok.first)).len
    have lsn := (pf (mem8 ok.second)).len
    refine ssc_assign_cell (c := sE.heap.objs.size + 1 + 1) (d := .lst [.str m.gave.1, .str m.gave.2, .str m.norm, .str m.remark]) (cellIs_new rfl (Nat.lt_succ_of_lt (Nat.lt_succ_self _)) hE (nodup3 _) (by simp) (by kernel_rfl) (by kernel_rfl))
      (evc_list (evsc_cons (evc_of (ev_item_tup (by walk_at "ev") ev_int (by decide) (by decide) rfl)) (evsc_cons (evc_of (ev_item_tup (by walk_at "ev") ev_int (by decide) (by decide) rfl))
        (evsc_cons (evc_call (by walk_at "gl") (evs_cons (ev_item_tup (by walk_at "ev") ev_int (by decide) (by decide) rfl) (evs_one (ev_call (by walk_at "gl") (evs_one (by walk_at "ev")) (fn_whole w H₀ m.more ok.pmore.jo ok.pmore.nz) (Nat.le_refl _) ⟨_, _, rfl, rfl⟩)))
          (fn_norm w H₀ (ub (whole m.new)) m.build ok.normOk) (Nat.le_refl _) ⟨_, _, rfl, rfl⟩)
          (evsc_cons (evc_of (ev_add_str (ev_add_str (ev_add_str (ev_add_str (by walk_at "ev") (ev_part0 (p := m.first) (by walk_at "ev")) (by walk_at "sl")) (by walk_at "ev") (by walk_at "sl")) (ev_part0 (p := m.second) (by walk_at "ev")) (by walk_at "sl")) (by walk_at "ev") (by walk_at "sl"))) evsc_nil)))) (by walk_at "sz")) ?_
    refine ssc_if_upd (d := .lst (m.newB.map dPart)) (tr_compare (by walk_at "ev") (ev_list (evs_one (ev_tuple (evs_cons ev_str (evs_cons ev_none evs_nil)) (by walk_at "sz"))) (by walk_at "sz")) (cm_parts m.new [(("unknown" : Str), none)] (fun p hp => (pf (ok.pnew.m p hp)).ok) (by decide +kernel))) (fun h => ?_) (fun h => ?_) ?_
    · have e : m.newB = [(("" : Str), none)] := by unfold Mach.newB; rw [if_pos h]
      rw [e]
      exact ev_list (evs_one (ev_tuple (evs_cons ev_str (evs_cons ev_none evs_nil)) (by walk_at "sz"))) (by walk_at "sz")
    · have e : m.newB = m.new := by unfold Mach.newB; rw [if_neg (by rw [h]; decide)]
      rw [e]
      walk_at "look"
    refine ssc_assign (d := .str (getD2 [("SunOS", "SunOS"), ("Linux", "Linux"), ("unknown", "")] m.kind "Windows")) (evc_of (ev_dict_get (ks := [("SunOS", "SunOS"), ("Linux", "Linux"), ("unknown", "")]) (.cons (.cons (.cons .nil))) (by simp) (by decide) (by decide +kernel) (fun J => by walk_at "ev") (fun J => ev_str))) ?_
    have lo := (pf (mem8 ok.o1)).len
    have hgt : ((m.kind == ("SunOS" : Str)) && decide ((Str.ofString "4").cps.toList < (Txt.slice m.o1.1 none (some 1)).cps.toList)) = m.gt4 := rfl
    have hold : m.old.map dPart = dPart m.o1 :: m.o2.map dPart := rfl
    have l2 := ok.o2.1
    refine ssc_if_upd2 (x := Str.ofString "word") (y := Str.ofString "old") (a := .str m.word) (b := .lst (m.old2.map dPart)) (tr_and2 (tr_compare (by walk_at "ev") ev_str cm_eq_str) (fun _ => tr_compare (ev_cut_str (kl := none) (kh := some 1) (ev_part0 (p := m.o1) (ev_item_lst (by walk_at "ev") ev_int (by decide) (by decide) rfl)) trivial ev_int (by show _ ≤ (16777216 : Nat); omega)) ev_str cm_gt_str)) (fun hc Ψ q => ?_) (fun hc => ?_) ?_
    · rw [hgt] at hc
      have ew : m.word = "Solaris" := by unfold Mach.word; rw [if_pos hc]
      rw [ew] at q
      refine ss_assign ev_str ?_
      cases hv : m.o1.2 with
      | none =>
        have eo : m.old2 = m.old := by unfold Mach.old2; rw [if_pos hc, hv]
        rw [eo] at q
        refine ss_if (c := false) (tr_compare (dl := .none) (ev_item_tup (ds := [.str m.o1.1, valD m.o1]) (ev_item_lst (by walk_at "ev") ev_int (by decide) (by decide) rfl) ev_int (by decide) (by decide) (by unfold valD; rw [hv]; rfl)) ev_none cm_isnot_none) (fun h => by cases h) (fun _ => ?_)
        exact ss_nil fun s S => q s (S.weak (upd_same (by walk_at "look")) S.side S.off)
      | some v =>
        have eo : m.old2.map dPart = [.tup [.str (Str.ofString (toString (v - 3))), .int (v - 3)]] ++ m.o2.map dPart := by unfold Mach.old2; rw [if_pos hc, hv]; rfl
        rw [eo] at q
        have hb := (pf (mem8 ok.o1)).vb v hv
        refine ss_if (c := true) (tr_compare (dl := .int v) (ev_item_tup (ds := [.str m.o1.1, valD m.o1]) (ev_item_lst (by walk_at "ev") ev_int (by decide) (by decide) rfl) ev_int (by decide) (by decide) (by unfold valD; rw [hv]; rfl)) ev_none cm_isnot_none) (fun _ => ?_) (fun h => by cases h)
        have ecut : cutL (m.old.map dPart) (some 1) none = m.o2.map dPart := by
          rw [show (some (1 : Int)) = some ((1 : Nat) : Int) from rfl, cutL_drop _ 1 (by decide)]; rfl
        have lt : ((m.old.map dPart).length : Nat) ≤ 2 := by rw [hold]; simp; omega
        refine ss_assign (d := .lst ([.tup [.str (Str.ofString (toString (v - 3))), .int (v - 3)]] ++ m.o2.map dPart)) ?_ (ss_nil q)
        rw [← ecut]
        exact ev_add_lst (ev_list (evs_one (ev_tuple (evs_cons (ev_str_int (by walk_at "bi") (ev_sub_int (a := v) (ev_item_tup (ds := [.str m.o1.1, valD m.o1]) (ev_item_lst (by walk_at "ev") ev_int (by decide) (by decide) rfl) ev_int (by decide) (by decide) (by unfold valD; rw [hv]; rfl)) ev_int) (by split <;> omega)) (evs_cons (ev_sub_int (a := v) (ev_item_tup (ds := [.str m.o1.1, valD m.o1]) (ev_item_lst (by walk_at "ev") ev_int (by decide) (by decide) rfl) ev_int (by decide) (by decide) (by unfold valD; rw [hv]; rfl)) ev_int) evs_nil)) (by walk_at "sz"))) (by walk_at "sz"))
          (ev_cut_lst (kl := some 1) (kh := none) (by walk_at "ev") ev_int trivial (by show _ ≤ (16777216 : Nat); omega)) (by rw [ecut]; show _ ≤ (16777216 : Nat); simp; omega)
    · rw [hgt] at hc
      have ew : m.word = getD2 [("SunOS", "SunOS"), ("Linux", "Linux"), ("unknown", "")] m.kind "Windows" := by unfold Mach.word; rw [if_neg (by rw [hc]; decide)]
      have eo : m.old2 = m.old := by unfold Mach.old2; rw [if_neg (by rw [hc]; decide)]
      rw [ew, eo]
      exact ⟨upd_here, by walk_at "look", by decide +kernel⟩
    · exact mach_tail w H₀ A sE F hE m ok _ (by walk_at "look") (by walk_at "look") (by walk_at "look") (by walk_at "look") (by walk_at "look") (by walk_at "look") (by walk_at "look") (by walk_at "look") (by walk_at "look") (by walk_at "look")
  · exact not_cell L h
end Mine
end
section
open PySem PySem.W PyProof.Rows PySem.Calls
open Sem (wp)
set_option Elab.async false
set_option maxRecDepth 100000
set_option linter.unusedVariables false
namespace Mine
section
variable {X : Cx} {ρ : Str → Option D} {J : Side}
theorem args_star {f : Value} {env : Env} {pos sp : Pos} {e : Expr} {s : Shared} {A : Around} {w : World} {Q : Args → Shared → Prop} {E : Value → Shared → Prop}
    (h : wpAny (model PR w) A (eval e env) (fun v s₁ => ∃ a vs n, v = .ref a ∧ s₁.heap.get? a = some { cls := .type "list", data := .seq vs.toArray n } ∧ vs.length ≤ 16777216 ∧ ∀ h', (∀ b o, s₁.heap.get? b = some o → h'.get? b = some o) → Q ⟨vs, []⟩ { s₁ with heap := h' }) E s) :
    wpAny (model PR w) A (evalArgs f true (backTo pos (starEach [.Starred e sp] env)) []) Q E s := by
  show wpAny (model PR w) A (evalArgs f true [(true, do let v ← eval e env; standAt pos; pure v)] []) Q E s
  unfold evalArgs
  dsimp only
  refine wpAny_bind (wpAny_bind (wpAny_mono h (fun v s₁ h₁ => wpAny_bind (wpAny_standAt (wpAny_pure (wpAny_bind (wpAny_pure ?_))))) fun _ _ x => x))
  obtain ⟨a, vs, n, rfl, ea, hz, q⟩ := h₁
  dsimp only
  refine wpAny_holding ?_
  rw [if_pos (by rfl)]
  refine wpAny_bind (m := evalAll []) (wpAny_pure (a := []) ?_)
  refine wpAny_bind (wpAny_bind ?_)
  unfold notIterableAtAll
  refine wpAny_bind (wpAny_specialOf (isList_of ea).typeIs F.slot_list_iter.lookup ?_)
  rw [if_pos (by rfl)]
  refine wpAny_pure ?_
  rw [if_neg (by decide)]
  refine wpAny_holding (wpAny_collect_seq a (.inl rfl) ea rfl rfl (fun h' k => wpAny_pure ?_) (by show vs.toArray.size ≤ 16777216; simpa using hz))
  simpa using q h' k
theorem evc_call_star {x : Str} {np sp pos : Pos} {e : Expr} {a : Addr} {k : Nat} {ds : List D} {d : D} (hf : EvV X ρ J (.Name x np) (.ref a)) (he : Ev X ρ J e (.lst ds)) (hz : ds.length ≤ 1000000)
    (hc : FnC X.w X.H₀ (.ref a) k ds d) (hk : k ≤ X.k) (ho : ∃ o fd, (KF X.w).lookup a = some o ∧ o.data = .func fd) : EvC X ρ J (.Call (.Name x np) [.Starred e sp] [] pos) d := by
  refine evc_of0 fun s Q E S q => ?_
  obtain ⟨o, fd, ho, hd⟩ := ho
  refine wpC_Call_Name (hf.go s _ _ S fun s₁ n₁ => wpC_callWith (o := o) (fd := fd) (args_star (he.go s₁ _ _ (S.next n₁) fun v s₂ n₂ r₂ => ?_)))
  have S₂ := (S.next n₁).next n₂
  obtain ⟨b, vs, n, rfl, hF, eb, rb⟩ := r₂.isLstF
  refine ⟨b, vs, n, rfl, eb, by have := rb.length; omega, fun h' hk' => ?_⟩
  have n₃ : Nx X.H₀ s₂ { s₂ with heap := h' } := ⟨⟨.of_keep hk', rfl, id⟩, Nat.le_refl _⟩
  have S₃ := S₂.next n₃
  exact ⟨⟨S₃.rd.hg.kin S₃.rd.B _ _ ho, hd⟩, hc.go X.F X.A _ vs Q E S₃.live (S₃.rd.mono hk) (rb.next n₃.kp S₂.rd.hg.tab) fun v s' n r => q v s' (((n₁.trans n₂).trans n₃).trans n).toNx0 r⟩
end
end Mine
end
section
open PySem PySem.W PyProof.Rows PySem.Calls
open Sem (wp)
set_option Elab.async false
set_option maxRecDepth 100000
set_option linter.unusedVariables false
namespace Mine
theorem emit_nest {X : Cx} {ρ ρ₀ : Str → Option D} {acc : Addr} {K : Side} {elt target iter : Expr} {ifs : List Expr} {g0 : Comprehension} {scope : Scope} {pos : Pos} {ds : List D} {outs : D → List D}
    (hρ : ∀ x d, ρ₀ x = some d → ρ x = some d) (hK : ∀ a, X.F a → K.M a ∧ ¬ K.N a) (hi : ∀ J, EvIt X ρ J iter ds)
    (turn : ∀ (i : Nat) d (K' : Side), (∀ a, X.F a → K'.M a ∧ ¬ K'.N a) → ds[i]? = some d → ∃ ρ' b, (∀ J, As X ρ J target d ρ') ∧ (∀ J, Ts X ρ' J ifs b) ∧ (∀ x d, ρ x = some d → ρ' x = some d) ∧
      (b = true → Emit X ρ' ρ acc K' (do let _ ← call (.builtin "list.append") [.ref acc, ← eval elt X.env]) (outs d)) ∧ (b = false → outs d = []))
    (hs : ∀ x, foldedSetIterable iter X.env x = pure x := by intro _; rfl) :
    Emit X ρ ρ₀ acc K (do
      let x ← eval iter X.env
      standAt iter.pos
      let x ← foldedSetIterable iter X.env x
      let _ ← runOwn (.compStart (.ListComp elt [g0, ⟨target, iter, ifs, 0⟩] scope pos) 1 (← holding [x] (pyIter x)) (.ref acc) X.env) X.env) (ds.flatMap outs) := by
  refine ⟨fun pre s Q E hz S q => ?_⟩
  refine wpAny_bind (wpAny_mono ((hi _).go s (fun it s₁ => wpAny (model PR X.w) X.A (runOwn (.compStart (.ListComp elt [g0, ⟨target, iter, ifs, 0⟩] scope pos) 1 it (.ref acc) X.env) X.env) (fun _ s' => Q () s') E s₁) E S fun I s₁ n₁ hIn hE h0 hF hN hW => ?_) (fun x s₁ h₁ => ?_) fun _ _ x => x)
  · obtain ⟨T, W, t0⟩ := hW X.F fun a f => .inl f
    unfold runOwn
    refine wpAny_onRaise (wpAny_run ?_)
    have S₁ : St X ρ (((Own X.F acc pre).and K).and (W.side 0)) s₁ := (S.next n₁).weak (fun _ _ e => e) ⟨(S.next n₁).side, t0⟩ fun h => h.elim S.off fun h => by
      obtain ⟨o, e⟩ := S.lcls
      have h : X.env.locals = I := h
      rw [h, hIn] at e; cases e
    have loop : codeAny (model PR X.w) (X.A.mark none) (.compLoop (.ListComp elt [g0, ⟨target, iter, ifs, 0⟩] scope pos) 1 (.ref I) (.ref acc) X.env) (fun r s' => match r with | .ok f => Q () s' | .error e => False) s₁ := by
      refine comp_loop (K := K) (pre := pre) (ρ₀ := ρ) (outs := outs) (inner := do let _ ← call (.builtin "list.append") [.ref acc, ← eval elt X.env]) rfl W hE h0 hF (fun h => hN (.inr h)) (fun h => hN (.inl h)) hK turn hz S₁ fun s' S' => ?_
      exact q s' (S'.weak hρ S'.side S'.off)
    refine codeAny_mono (compStart_any (g := ⟨target, iter, ifs, 0⟩) rfl rfl loop (W.self 0 s₁ _ _ t0 loop)) fun r s' h => ?_
    cases r with
    | ok f => exact h
    | error e => exact h.elim
  · refine wpAny_bind (wpAny_standAt ?_)
    rw [hs x]
    exact wpAny_bind (wpAny_pure (wpAny_bind (wpAny_holding (wpAny_mono h₁ (fun it s₂ h₂ => wpAny_bind (wpAny_mono h₂ (fun _ _ h => wpAny_pure h) fun _ _ x => x)) fun _ _ x => x))))

/-- two clauses, no free names -/
theorem cp_two {X : Cx} {ρ : Str → Option D} {J : Side} {elt target iter target2 iter2 : Expr} {ifs ifs2 : List Expr} {scope : Scope} {pos : Pos} {ds res : List D} (outs : D → List D) (hi : EvIt X ρ J iter ds) (hres : ds.flatMap outs = res) (hz : res.length ≤ sizeLine)
    (turn : ∀ (sC : Shared) acc C, sC.heap.get? acc = none → X.H₀.get? acc = none → ∀ (i : Nat) d (K' : Side), (∀ a, X.F a ∨ a = acc → K'.M a ∧ ¬ K'.N a) → ds[i]? = some d →
      ∃ ρ' b, (∀ J, As (cX X scope [] sC acc C) (fun _ => none) J target d ρ') ∧ (∀ J, Ts (cX X scope [] sC acc C) ρ' J ifs b) ∧
        (b = true → ∃ (ds' : List D) (outs' : D → List D), outs d = ds'.flatMap outs' ∧ (∀ J, EvIt (cX X scope [] sC acc C) ρ' J iter2 ds') ∧
          ∀ (i : Nat) d', ds'[i]? = some d' → ∃ ρ'' b', (∀ J, As (cX X scope [] sC acc C) ρ' J target2 d' ρ'') ∧ (∀ J, Ts (cX X scope [] sC acc C) ρ'' J ifs2 b') ∧ (∀ x d, ρ' x = some d → ρ'' x = some d) ∧
            (b' = true → ∃ e, outs' d' = [e] ∧ ∀ J, Ev (cX X scope [] sC acc C) ρ'' J elt e) ∧ (b' = false → outs' d' = [])) ∧ (b = false → outs d = []))
    (hfree : ∀ y ∈ scope.names, y.2 ≠ .free) (hcell : ∀ y ∈ scope.names, y.2 ≠ .cell) (hkind : scope.kind = .function) (hnames : ∀ x ∈ scope.names, x.2 = .local → scope.names.lookup x.1 = some .local) (hs : ∀ x, foldedSetIterable iter X.env x = pure x := by intro _; rfl)
    (hs2 : ∀ env x, foldedSetIterable iter2 env x = pure x := by intro _ _; rfl) :
    Cp X ρ J elt target iter ifs [⟨target2, iter2, ifs2, 0⟩] scope pos res := by
  refine ⟨[], ds, outs, fun _ => none, fun acc C => (do
      let x ← eval iter2 (compEnvC scope [] C X.env)
      standAt iter2.pos
      let x ← foldedSetIterable iter2 (compEnvC scope [] C X.env) x
      let _ ← runOwn (.compStart (.ListComp elt [⟨target, iter, ifs, 0⟩, ⟨target2, iter2, ifs2, 0⟩] scope pos) 1 (← holding [x] (pyIter x)) (.ref acc) (compEnvC scope [] C X.env)) (compEnvC scope [] C X.env)),
    closureFor_none hfree, hi, hres, fun I acc C => (by unfold compTurn; simp only [bind_assoc, pure_bind]; rfl), hcell, hkind, hnames, hs, (fun x d e => by cases e), ?_, hz⟩
  intro sC acc C hacc hH hC i d K' hK hd
  obtain ⟨ρ', b, ha, ht, h1, h2⟩ := turn sC acc C hacc hH i d K' hK hd
  refine ⟨ρ', b, ha, ht, fun x d e => (by cases e), fun hb => ?_, h2⟩
  obtain ⟨ds', outs', e, hi', t'⟩ := h1 hb
  rw [e]
  refine emit_nest (X := cX X scope [] sC acc C) (g0 := ⟨target, iter, ifs, 0⟩) (fun x d e => by cases e) hK hi' (fun i d' K'' hK'' hd' => ?_) (hs2 _)
  obtain ⟨ρ'', b', ha', ht', hm', h1', h2'⟩ := t' i d' hd'
  refine ⟨ρ'', b', ha', ht', hm', fun hb' => ?_, h2'⟩
  obtain ⟨f, e', h⟩ := h1' hb'
  rw [e']
  exact emit_elt (X := cX X scope [] sC acc C) (.inr rfl) hacc hH (hK'' acc (.inr rfl)).1 (hK'' acc (.inr rfl)).2 hm' h
end Mine
end
section
open PySem PySem.W PyProof.Rows PySem.Calls
open Sem (wp)
set_option Elab.async false
set_option maxRecDepth 100000
set_option linter.unusedVariables false
namespace Mine
local macro_rules | `(tactic| walk_at "look") => `(tactic| first | exact upd_here | exact upd_there (by decide +kernel) (by walk_at "look") | assumption)
local macro_rules | `(tactic| walk_at "sz") => `(tactic| (show _ ≤ (16777216 : Nat); simp only [List.length_cons, List.length_nil, List.length_append, List.length_map]; omega))
local macro_rules | `(tactic| walk_at "gl") => `(tactic| exact evv_glob (by kernel_rfl) (by kernel_rfl))
local macro_rules | `(tactic| walk_at "ev") => `(tactic| exact ev_var (by walk_at "look"))
def wordsOf (x : Str) : List Str := (Txt.split x "-").filter fun t => t.length != 0
def wholeOf (l : List Item) : Str := Txt.join "-" ((l.filter (·.flag)).map (·.seen))
def leadOf (x : Str) : Str := if (!(wordsOf x).isEmpty) && (Txt.item x 0 == "-") then "-" else ""
def toldOf (l : List Item) : Str := leadOf (wholeOf l) ++ Txt.join "-" (wordsOf (wholeOf l))
def readOf (l : List Item) : List D := l.flatMap (·.ranks)
def knotOf (l : List Item) : Item := ⟨platOf (l.map (·.text)), toldOf l != "", toldOf l, readOf l⟩
def RankD (d : D) : Prop := (∃ i, d = .int i) ∨ ∃ x, d = .str x ∧ PyData.strOk x = true
structure KnotOk (l : List Item) : Prop where
  plat : PlatOk (l.map (·.text))
  n : l.length ≤ 1000
  jo : JoinOk "-" ((l.filter (·.flag)).map (·.seen)) = true
  wl : (wholeOf l).length ≤ 100000
  jw : JoinOk "-" (wordsOf (wholeOf l)) = true
  tl : (leadOf (wholeOf l)).length + (Txt.join "-" (wordsOf (wholeOf l))).length ≤ 1000000
  rl : (readOf l).length ≤ 1000000
  eq : platOf (l.map (·.text)) = toldOf l
  sz : (platOf (l.map (·.text))).cps.size ≤ 100000
  pl : (pieces (platOf (l.map (·.text)))).length ≤ 300000
  tok : ∀ v ∈ pieces (platOf (l.map (·.text))), TokOk v
  cv : (pieces (platOf (l.map (·.text)))).flatMap rk = readOf l
  fl : ∀ d ∈ readOf l, RankD d

theorem ranks_ok : ∀ l : List D, (∀ d ∈ l, RankD d) → D.noObjs l = true ∧ PyData.canLayAll0 (D.pys l) = true ∧ PyData.depthAll (D.pys l) = 0 ∧ PyData.eqvAll (D.pys l) (D.pys l) = true
  | [], _ => ⟨rfl, rfl, rfl, rfl⟩
  | d :: l, h => by
    obtain ⟨a, b, c, e⟩ := ranks_ok l fun x hx => h x (List.mem_cons_of_mem _ hx)
    rcases h d List.mem_cons_self with ⟨i, rfl⟩ | ⟨x, rfl, hx⟩
    · simp [D.noObj, D.noObjs, D.py, D.pys, PyData.canLay0, PyData.canLayAll0, PyData.depth, PyData.depthAll, PyData.eqv, PyData.eqvAll, a, b, c, e]
    · simp [D.noObj, D.noObjs, D.py, D.pys, PyData.canLay0, PyData.canLayAll0, PyData.depth, PyData.depthAll, PyData.eqv, PyData.eqvAll, a, b, c, e]
      exact hx
theorem cm_ranks {X : Cx} {ρ : Str → Option D} {J : Side} (l : List D) (h : ∀ d ∈ l, RankD d) : Cm X ρ J .Eq (.lst l) (.lst l) true := by
  obtain ⟨a, b, c, e⟩ := ranks_ok l h
  have := cm_eq (X := X) (ρ := ρ) (J := J) (d := .lst l) (e := .lst l) (by simpa [D.noObj] using a) (by simpa [D.noObj] using a) (by simpa [D.py, PyData.canLay0] using b) (by simpa [D.py, PyData.canLay0] using b) (by simp only [D.py, PyData.depth]; omega)
  rw [show PyData.eqv (D.lst l).py (D.lst l).py = true from by simp only [D.py, PyData.eqv]; exact e] at this
  exact this
def outX : D → List D
  | .tup [a, _] => [a]
  | _ => []
theorem outX_items : ∀ l : List Item, (l.map dItem).flatMap outX = (l.map (·.text)).map .str
  | [] => rfl
  | i :: l => by simp only [List.map_cons, List.flatMap_cons, outX_items l]; rfl
def outW : D → List D
  | .tup [_, .tup [.bool f, s, _]] => if f then [s] else []
  | _ => []
theorem outW_items : ∀ l : List Item, (l.map dItem).flatMap outW = ((l.filter (·.flag)).map (·.seen)).map .str
  | [] => rfl
  | i :: l => by
    simp only [List.map_cons, List.flatMap_cons, outW_items l]
    cases h : i.flag <;> simp [dItem, dTold, outW, h]
def outN : D → List D
  | .str x => if x.length != 0 then [.str x] else []
  | _ => []
theorem outN_strs : ∀ l : List Str, (l.map D.str).flatMap outN = (l.filter fun t => t.length != 0).map .str
  | [] => rfl
  | x :: l => by
    simp only [List.map_cons, List.flatMap_cons, outN_strs l, outN]
    cases h : (x.length != 0) <;> simp [h]
def outR : D → List D
  | .tup [_, .tup [_, _, .lst r]] => r
  | _ => []
theorem outR_items : ∀ l : List Item, (l.map dItem).flatMap outR = l.flatMap (·.ranks)
  | [] => rfl
  | i :: l => by simp only [List.map_cons, List.flatMap_cons, outR_items l]; rfl
theorem item_at {l : List Item} {i : Nat} {d : D} (h : (l.map dItem)[i]? = some d) : ∃ p ∈ l, d = dItem p := by
  rw [List.getElem?_map] at h
  cases e : l[i]? with
  | none => rw [e] at h; cases h
  | some p => rw [e] at h; cases h; exact ⟨p, List.mem_of_getElem? e, rfl⟩
theorem str_at {l : List Str} {i : Nat} {d : D} (h : (l.map D.str)[i]? = some d) : ∃ p ∈ l, d = .str p := by
  rw [List.getElem?_map] at h
  cases e : l[i]? with
  | none => rw [e] at h; cases h
  | some p => rw [e] at h; cases h; exact ⟨p, List.mem_of_getElem? e, rfl⟩
theorem words_len (x : Str) : (wordsOf x).length ≤ (Txt.split x "-").length := List.length_filter_le _ _
theorem words_some {x : Str} (h : (!(wordsOf x).isEmpty) = true) : (Txt.charAt x 0).isSome = true := by
  have hx : x.length ≠ 0 := by
    intro h0
    have e0 : toL x = [] := List.length_eq_zero_iff.mp (by rw [toL_length]; exact h0)
    have e : x = "" := toL_inj (by rw [e0]; decide +kernel)
    subst e
    exact absurd h (by decide +kernel)
  unfold Txt.charAt
  rw [StrLaws.seqIndex_nonneg (by decide) (by omega)]
  show (x.cps[0]?).isSome = true
  rw [Array.getElem?_eq_getElem (show 0 < x.cps.size from Nat.pos_of_ne_zero hx)]
  rfl
theorem splL_len (c : Nat) : ∀ (l q : List Nat), q ∈ splL c l → q.length ≤ l.length
  | [], q, h => by rw [splL, List.mem_singleton] at h; subst h; simp
  | a :: r, q, h => by
    rw [splL] at h
    have ih := splL_len c r
    simp only [List.length_cons]
    split at h
    · rcases List.mem_cons.mp h with rfl | h
      · simp
      · have := ih q h; omega
    · cases hs : splL c r with
      | nil => rw [hs] at h; simp at h; subst h; simp
      | cons p ps =>
        rw [hs] at h ih
        rcases List.mem_cons.mp h with rfl | h
        · have := ih p List.mem_cons_self; simp only [List.length_cons]; omega
        · have := ih q (List.mem_cons_of_mem _ h); omega
theorem upd_two {x y z : Str} {d e f : D} (h : upd (upd (fun _ => none) x d) y e z = some f) : (z = y ∧ f = e) ∨ (z = x ∧ f = d) := by
  unfold upd at h
  by_cases hy : z = y
  · rw [if_pos hy] at h; cases h; exact .inl ⟨hy, rfl⟩
  · rw [if_neg hy] at h
    by_cases hx : z = x
    · rw [if_pos hx] at h; cases h; exact .inr ⟨hx, rfl⟩
    · rw [if_neg hx] at h; cases h
theorem evc_and_tt {X : Cx} {ρ : Str → Option D} {J : Side} {x y : Expr} {pos : Pos} {b : D} (hx : EvC X ρ J x (.bool true)) (hy : EvC X ρ J y b) : EvC X ρ J (.BoolOp .And [x, y] pos) b := by
  have := evc_and2 (pos := pos) hx (show (D.bool true).fits from trivial) (fun _ => hy)
  rw [show (D.bool true).truth = true from rfl, if_pos rfl] at this
  exact this
theorem knot_cv (w : World) (H₀ : Heap) (l : List Item) (ok : KnotOk l) : FnC w H₀ (.ref 44) 1 [.str (platOf (l.map (·.text)))] (.lst (readOf l)) := by
  have h1 := ok.sz
  have h2 := ok.pl
  have h3 := ok.tok
  have h4 := ok.cv
  revert h1 h2 h3 h4
  generalize platOf (l.map (·.text)) = lab
  intro h1 h2 h3 h4
  rw [← h4]
  exact fn_cv w H₀ lab h1 h2 h3
theorem flat_self (l : List D) : l.flatMap (fun e => [e]) = l := by
  induction l with
  | nil => rfl
  | cons a l ih => rw [List.flatMap_cons, ih]; rfl
set_option maxHeartbeats 4000000 in
theorem fn_knot (w : World) (H₀ : Heap) (l : List Item) (ok : KnotOk l) : FnC w H₀ (.ref 107) 2 [.lst (l.map dItem)] (.tup [.bool true, dItem (knotOf l)]) := by
  refine fnc_body (k := 1) [Str.ofString "some"] (fun _ => .triv) rfl rfl rfl ⟨_, _, _, _, rfl, rfl, rfl, rfl⟩ rfl rfl rfl rfl rfl rfl rfl (fun vs h => ?_) (fun _ _ => trivial) (fun A sE F _ _ n hn => ?_) (fun A sE F hE hF => ?_)
  · match vs, h with
    | [v], _ => kernel_rfl
  · simp only [List.mem_singleton] at hn
    subst hn
    exact stores_local (by kernel_rfl)
  · dsimp only [bindAll, List.zip, List.zipWith]
    have hn := ok.n
    have lm : (l.map dItem).length ≤ 16777216 := by rw [List.length_map]; omega
    refine ssc_assign (d := .str (platOf (l.map (·.text)))) (evc_call_star (ds := (l.map (·.text)).map .str) (by walk_at "gl") (ev_comp (cp_plain outX (evit_lst (by walk_at "ev")) (outX_items l) (by show _ ≤ (16777216 : Nat); simp only [List.length_map]; omega) (fun sC acc C i d hd => ?_) (by decide +kernel) (by decide +kernel) rfl (by decide +kernel))) (by simp only [List.length_map]; omega) (fn_plat w H₀ (l.map (·.text)) ok.plat) (Nat.le_refl _) ⟨_, _, rfl, rfl⟩) ?_
    · obtain ⟨p, _, rfl⟩ := item_at hd
      exact ⟨_, true, fun J => as_pair (by kernel_rfl) (by kernel_rfl), fun J => ts_nil, fun _ => ⟨_, rfl, fun J => ev_var (by walk_at "look")⟩, fun h => by cases h⟩
    have lf : (l.filter (·.flag)).length ≤ 1000 := Nat.le_trans (List.length_filter_le _ _) hn
    refine ssc_assign (d := .str (wholeOf l)) (evc_of (ev_join_lst (ts := (l.filter (·.flag)).map (·.seen)) ev_str (ev_comp (cp_plain outW (evit_lst (by walk_at "ev")) (outW_items l) (by show _ ≤ (16777216 : Nat); simp only [List.length_map]; omega) (fun sC acc C i d hd => ?_) (by decide +kernel) (by decide +kernel) rfl (by decide +kernel))) ok.jo)) ?_
    · obtain ⟨p, _, rfl⟩ := item_at hd
      refine ⟨upd (upd (fun _ => none) (Str.ofString "text") (.str p.text)) (Str.ofString "item") (dTold p), p.flag, fun J => as_pair (by kernel_rfl) (by kernel_rfl), fun J => ts_one (tr_val (d := .bool p.flag) (ev_item_tup (ds := [.bool p.flag, .str p.seen, .lst p.ranks]) (by walk_at "ev") ev_int (by decide) (by decide) rfl) trivial), fun hb => ⟨.str p.seen, ?_, fun J => ?_⟩, fun hb => ?_⟩
      · simp [dItem, dTold, outW, hb]
      · exact ev_item_tup (ds := [.bool p.flag, .str p.seen, .lst p.ranks]) (by walk_at "ev") ev_int (by decide) (by decide) rfl
      · simp [dItem, dTold, outW, hb]
    have hwl := ok.wl
    have hsl : (Txt.split (wholeOf l) "-").length ≤ 16777216 := by
      have h : (Txt.split (wholeOf l) "-").length ≤ (wholeOf l).length + 2 := by
        unfold Txt.split
        split
        · simp
        · split
          · simp
          · rw [PyProof.Rows.len_partsBetween]
            have := StrLaws.occ_length_le (wholeOf l) "-" 0 (wholeOf l).length ((wholeOf l).length + 1)
            omega
      omega
    refine ssc_assign_comp (res := (wordsOf (wholeOf l)).map .str) (cp_plain (ds := (Txt.split (wholeOf l) "-").map .str) outN (evit_lst (ev_split (by walk_at "ev") ev_str (by decide +kernel) (by omega))) (outN_strs _) (by show _ ≤ (16777216 : Nat); rw [List.length_map]; have := words_len (wholeOf l); omega) (fun sC acc C i d hd => ?_) (by decide +kernel) (by decide +kernel) rfl (by decide +kernel)) (by kernel_rfl) (by kernel_rfl) ?_
    · obtain ⟨p, hpm, rfl⟩ := str_at hd
      have hpl : p.length ≤ 16777216 := by
        have h1 : toL p ∈ splL 45 (toL (wholeOf l)) := by
          rw [← split_splL, ← dash_eq]
          exact List.mem_map.mpr ⟨p, by assumption, rfl⟩
        have h2 := splL_len 45 _ _ h1
        rw [toL_length, toL_length] at h2
        omega
      refine ⟨upd (fun _ => none) (Str.ofString "word") (.str p), p.length != 0, fun J => as_name (by kernel_rfl), fun J => ts_one (tr_val (d := .str p) (by walk_at "ev") hpl), fun hb => ⟨.str p, ?_, fun J => (by walk_at "ev")⟩, fun hb => ?_⟩
      · simp [outN, hb]
      · simp [outN, hb]
    have htl := ok.tl
    have hww := words_len (wholeOf l)
    refine ssc_assign (d := .str (toldOf l)) (evc_of (ev_add_str (ev_ifexp (d := .str (leadOf (wholeOf l))) (tr_and2 (tr_val (d := .lst ((wordsOf (wholeOf l)).map .str)) (by walk_at "ev") (by show _ ≤ (16777216 : Nat); rw [List.length_map]; omega)) (fun h => tr_compare (ev_item_str (by walk_at "ev") ev_int (by decide) (words_some (by simpa [D.truth] using h))) ev_str cm_eq_str)) (fun h => ?_) (fun h => ?_)) (ev_join_lst (ts := wordsOf (wholeOf l)) ev_str (by walk_at "ev") ok.jw) (by show _ ≤ (16777216 : Nat); omega))) ?_
    · have e : leadOf (wholeOf l) = "-" := by unfold leadOf; rw [if_pos (by simpa [D.truth] using h)]
      rw [e]; exact ev_str
    · have e : leadOf (wholeOf l) = "" := by
        unfold leadOf
        rw [if_neg]
        intro h2
        have h3 : (D.lst ((wordsOf (wholeOf l)).map .str)).truth = !(wordsOf (wholeOf l)).isEmpty := by simp [D.truth]
        rw [h3] at h
        rw [h] at h2
        cases h2
      rw [e]; exact ev_str
    have hrl := ok.rl
    refine ssc_assign_comp (res := readOf l) (cp_two outR (evit_lst (by walk_at "ev")) (outR_items l) (by show _ ≤ (16777216 : Nat); omega) (fun sC acc C hacc hH i d K' hK' hd => ?_) (by decide +kernel) (by decide +kernel) rfl (by decide +kernel)) (by kernel_rfl) (by kernel_rfl) ?_
    · obtain ⟨p, _, rfl⟩ := item_at hd
      refine ⟨upd (upd (fun _ => none) (Str.ofString "text") (.str p.text)) (Str.ofString "item") (dTold p), true, fun J => as_pair (by kernel_rfl) (by kernel_rfl), fun J => ts_nil, fun _ => ⟨p.ranks, fun e => [e], (flat_self p.ranks).symm, fun J => evit_lst (ev_item_tup (ds := [.bool p.flag, .str p.seen, .lst p.ranks]) (by walk_at "ev") ev_int (by decide) (by decide) rfl), fun i d' hd' => ?_⟩, fun h => by cases h⟩
      refine ⟨upd (upd (upd (fun _ => none) (Str.ofString "text") (.str p.text)) (Str.ofString "item") (dTold p)) (Str.ofString "rank") d', true, fun J => as_name (by kernel_rfl), fun J => ts_nil, fun x d hx => ?_, fun _ => ⟨d', rfl, fun J => ev_var upd_here⟩, fun h => by cases h⟩
      rcases upd_two hx with ⟨rfl, rfl⟩ | ⟨rfl, rfl⟩
      · walk_at "look"
      · walk_at "look"
    have hb : (platOf (l.map (·.text)) == toldOf l) = true := by rw [ok.eq]; exact beq_self_eq_true _
    refine ssc_ret (evc_tuple (ds := [.bool true, dItem (knotOf l)]) (evsc_cons ?_ (evsc_cons (evc_of ?_) evsc_nil)) (by walk_at "sz"))
    · have c1 : ∀ (X : Cx) (ρ : Str → Option D) (J : Side), Cm X ρ J .Eq (.str (platOf (l.map (·.text)))) (.str (toldOf l)) true := fun X ρ J => by
        have := cm_eq_str (X := X) (ρ := ρ) (J := J) (x := platOf (l.map (·.text))) (y := toldOf l)
        rw [hb] at this
        exact this
      have cv := knot_cv w H₀ l ok
      exact evc_and_tt (evc_of (ev_compare (by walk_at "ev") (by walk_at "ev") (c1 _ _ _))) (evc_compare (dl := .lst (readOf l)) (dr := .lst (readOf l)) (evc_call (by walk_at "gl") (evs_one (by walk_at "ev")) cv (Nat.le_refl _) ⟨_, _, rfl, rfl⟩) (evc_of (by walk_at "ev")) (cm_ranks (readOf l) ok.fl))
    · exact ev_tuple (evs_cons (by walk_at "ev") (evs_one (ev_tuple (evs_cons (ev_compare (by walk_at "ev") ev_str cm_ne_str) (evs_cons (by walk_at "ev") (evs_one (by walk_at "ev")))) (by walk_at "sz")))) (by walk_at "sz")
end Mine
end
section
open PySem PySem.W PyProof.Rows PySem.Calls
open Sem (wp)
set_option Elab.async false
set_option maxRecDepth 100000
set_option linter.unusedVariables false
namespace Mine
/-- the contract of the claim's own call, from a state whose count of tokens is not known -/
structure TopC (w : World) (H₀ : Heap) (f : Value) (k : Nat) (arg : D) (r : D) : Prop where
  go : ∀ (F : Addr → Prop) (A : Around) (s : Shared) (v : Value) (Q E : Value → Shared → Prop), Live F s.heap → Rd w H₀ A k { s with toks := 1 } → Rep F s.heap v arg → (∀ v s', Nx0 H₀ s s' → Rep F s'.heap v r → Q v s') → wpC (model PR w) A (call f [v]) Q E s
section
variable {X : Cx} {ρ : Str → Option D} {J : Side}
theorem store_first {A' : Around} {x : Str} {d : D} {v : Value} {s : Shared} {Q : Unit → Shared → Prop} {E : Value → Shared → Prop} (S : St X ρ J { s with toks := 1 }) (r : Rep X.F s.heap v d) (hx : X.env.kindOf x = some .local)
    (q : ∀ s', St X (upd ρ x d) J s' → (∀ u e, Rep X.F s.heap u e → Rep X.F s'.heap u e) → (∀ b o, b ≠ X.env.locals → s.heap.get? b = some o → s'.heap.get? b = some o) → Q () s') : wpAny (model PR X.w) A' (storeName X.env x v) Q E s := by
  obtain ⟨mv, n, hv⟩ := id S.vars
  obtain ⟨o, ho⟩ := id S.lcls
  rw [storeName_local hx (by rw [S.ek]; rfl)]
  refine nsSet_c n ho fun h' o' n' sb e' c' => ?_
  have ne : ∀ b o, X.sE.heap.get? b = some o → b ≠ X.env.locals := by rintro b o e rfl; rw [S.fresh] at e; cases e
  have ne0 : ∀ b o, X.H₀.get? b = some o → b ≠ X.env.locals := by rintro b o e rfl; rw [S.lnew] at e; cases e
  have tab' := S.rd.hg.tab.same n S.lpl sb
  have keepSeq : ∀ b o, s.heap.get? b = some o → ¬ X.F b → o.cls = .type "tuple" ∨ o.cls = .type "list" → (∃ xs n, o.data = .seq xs n) → h'.get? b = some o ∧ ¬ X.F b := by
    rintro b ob e hF _ ⟨xs, k, dd⟩
    refine ⟨(sb.2 b ?_).trans e, hF⟩
    rintro rfl
    obtain ⟨on, es, ep, e3, e4, _⟩ := n
    rw [e] at e3; cases e3; rw [dd] at e4; cases e4
  refine q _ ?_ (fun u e r => r.same keepSeq) fun b o hb e => (sb.2 b hb).trans e
  exact {
    rd := ⟨S.rd.B, ⟨fun b o e p => (sb.2 b (ne0 b o e)).trans (S.rd.hg.old b o e p), tab'⟩, by
      obtain ⟨l, e, y⟩ := S.rd.fr
      refine ⟨l, e, fun z hz => ?_⟩
      obtain ⟨a, f, of, b, c, dd, e, g, k⟩ := y z hz
      by_cases hf : f = X.env.locals
      · subst hf
        rw [ho] at e; cases e
        obtain ⟨on, es, ep, e3, e4, _⟩ := n'
        rw [e'] at e3; cases e3
        exact ⟨a, _, o', b, c, dd, e', c'.trans g, es, ep, e4⟩
      · exact ⟨a, f, of, b, c, dd, (sb.2 f hf).trans e, g, k⟩, S.rd.gens, S.rd.rm, Nat.succ_ne_zero _⟩
    nx := ⟨⟨fun b o e p c => (sb.2 b (ne b o e)).trans (S.nx.kp.keep b o e p c), fun b o e p => by
        obtain ⟨o₁, e₁, r₁⟩ := S.nx.kp.frm b o e p
        exact ⟨o₁, (sb.2 b (ne b o e)).trans e₁, r₁⟩, fun b o a p e => (sb.2 b (ne0 b o a)).trans (S.nx.kp.old b o a p e), fun _ => tab'⟩, S.nx.os, S.nx.gens⟩
    fresh := S.fresh
    lnew := S.lnew
    lpl := S.lpl
    ek := S.ek
    eg := S.eg
    eb := S.eb
    lcls := ⟨o', e'⟩
    vars := by
      refine ⟨_, n', fun y d' hy => ?_⟩
      unfold upd at hy
      by_cases hyx : y = x
      · subst hyx
        rw [if_pos rfl] at hy; cases hy
        exact ⟨v, .inl ⟨hx, if_pos rfl⟩, r.same keepSeq⟩
      · rw [if_neg hyx] at hy
        obtain ⟨u, hu, ru⟩ := hv y d' hy
        refine ⟨u, ?_, ru.same keepSeq⟩
        rcases hu with ⟨a, b⟩ | ⟨a, c, b, cc⟩
        · exact .inl ⟨a, by show (if y = x then some v else mv y) = some u; rw [if_neg hyx]; exact b⟩
        · refine .inr ⟨a, c, b, cc.sameBut sb ?_⟩
          rintro rfl
          obtain ⟨oc, e1, e2⟩ := cc
          obtain ⟨on, es, ep, e3, e4, _⟩ := n
          rw [e1] at e3; cases e3; rw [e2] at e4; cases e4
    side := J.same ⟨_, n⟩ S.off sb S.side
    off := S.off
    live := fun a f => by
      by_cases hf : a = X.env.locals
      · subst hf; exact ⟨o', e'⟩
      · obtain ⟨oa, ea⟩ := S.live a f
        exact ⟨oa, (sb.2 a hf).trans ea⟩ }


end
theorem topc_body {w : World} {H₀ : Heap} {f : Addr} {o : Obj} {fd : FuncData} {body : List Stmt} {k : Nat} {arg : D} {r : D} (name : Str)
    (ho : (KF w).lookup f = some o) (hd : o.data = .func fd) (hb : fd.body = .stmts body)
    (hcd : ∃ c oc vs t, fd.code = .ref c ∧ (KF w).lookup c = some oc ∧ oc.data = .fields vs ∧ vs[1]? = some (.str fd.qualname t))
    (hco : fd.scope.isCoroutine = false) (hgen : fd.scope.isGenerator = false) (hk : fd.scope.kind = .function) (hclo : fd.closure = []) (hgl : fd.globals = mainGlobals) (hbt : fd.builtins = builtinsNs)
    (hbind : ∀ v : Value, bindArgs fd ⟨[v], []⟩ = pure [(name, v)])
    (hkd : ∀ (A : Around) (sE : Shared) (F : Addr → Prop), (fX w H₀ k fd f A sE F).env.kindOf name = some .local)
    (h : ∀ (A : Around) (sE : Shared) (F : Addr → Prop), HG H₀ sE.heap → Live F sE.heap → SsC (fX w H₀ k fd f A sE F) (upd (fun _ => none) name arg) .triv body (Ret F H₀ sE r)) :
    TopC w H₀ (.ref f) (k + 1) arg r := by
  refine ⟨fun F A s val Q E fl R rp q => ?_⟩
  have hkin := R.hg.kin R.B
  obtain ⟨c, oc, vc, tc, e1, e2, e3, e4⟩ := hcd
  have hcd' : s.heap.CodeRec fd.code fd.qualname := ⟨c, oc, vc, tc, e1, hkin _ _ e2, e3, e4⟩
  refine wpC_call (codeC_call_function R.rm.room (hkin _ _ ho) hd hco hgen hb hcd' ?_)
  rw [hbind val, hclo]
  refine wpAny_pure ?_
  simp only [newFunctionEnv, Option.isSome_none, Bool.false_eq_true, if_false]
  refine wpAny_bind (wpAny_alloc ?_)
  refine wpAny_bind (wpAny_layCells _ (fun name kind cells => by cases hkc : kind == NameKind.cell <;> simp [hkc]) _ _ _ _ ?_)
  rw [show ({ s with heap := s.heap.push { cls := .type "frame", data := .dict #[] } } : Shared).heap.objs.size = s.heap.objs.size + 1 from Heap.size_push ..]
  have keep : ∀ b o, s.heap.get? b = some o → (pushCells (s.heap.push { cls := .type "frame", data := .dict #[] }) fd.scope.names).get? b = some o :=
    fun b o e => pushCells_keeps _ _ b o (Heap.get?_push_of_some _ e)
  have hL : (pushCells (s.heap.push { cls := .type "frame", data := .dict #[] }) fd.scope.names).get? s.heap.objs.size = some { cls := .type "frame", data := .dict #[] } :=
    pushCells_keeps _ _ _ _ (Heap.get?_push_size _ rfl)
  have hnew := R.hg.new
  have S₀ : St (fX w H₀ k fd f A s F) (fun _ => none) .triv { s with heap := pushCells (s.heap.push { cls := .type "frame", data := .dict #[] }) fd.scope.names, toks := 1 } := {
    rd := ⟨R.B, R.hg.next (.of_keep keep), by
      obtain ⟨l, e, y⟩ := R.fr.next (.of_keep keep)
      refine ⟨callEnvC fd s.heap.objs.size f :: l, by show A.frames.map _ = _; rw [e]; rfl, fun z hz => ?_⟩
      rcases List.mem_cons.mp hz with rfl | hz
      · exact ⟨by show fd.scope.kind ≠ _; rw [hk]; decide, s.heap.objs.size, _, rfl, hnew.2, hnew.1, hL, rfl, _, _, rfl⟩
      · exact y z hz, R.gens, R.rm.deeper _, R.tk⟩
    nx := ⟨.of_keep keep, rfl, id⟩
    fresh := none_of_size
    lnew := hnew.1
    lpl := hnew.2
    ek := hk
    eg := hgl
    eb := hbt
    lcls := ⟨_, hL⟩
    vars := ⟨fun _ => none, ⟨_, #[], 0, hL, rfl, fun e he => by simp at he, fun _ => rfl⟩, fun x d e => by cases e⟩
    side := trivial
    off := id
    live := fl.next (Kp.of_keep (H₀ := H₀) keep) R.hg.tab }
  refine wpAny_bind ?_
  rw [List.forIn_cons]
  refine wpAny_bind (wpAny_bind (store_first (X := fX w H₀ k fd f A s F) (J := .triv) (s := { s with heap := pushCells (s.heap.push { cls := .type "frame", data := .dict #[] }) fd.scope.names }) S₀ (rp.next (Kp.of_keep (H₀ := H₀) keep) R.hg.tab) (hkd A s F) fun s' S' _ _ => wpAny_pure ?_))
  dsimp only
  rw [List.forIn_nil]
  refine wpAny_pure (wpAny_pure ?_)
  refine ⟨?_, codeC_func (wpC_mono ((h A s F R.hg fl).go s' (fun _ _ => False) S') (fun fl s'' hr => ?_) fun _ _ x => x)⟩
  · obtain ⟨mc, a, b⟩ := R.B.nolimit
    exact ⟨mc, ns_hg a S'.rd.hg (by decide), b⟩
  · obtain ⟨v, rfl, rv, nv⟩ := hr
    exact q v s'' nv rv


end Mine
end
section
open PySem PySem.W PyProof.Rows PySem.Calls
open Sem (wp)
set_option Elab.async false
set_option maxRecDepth 100000
set_option linter.unusedVariables false
namespace Mine
local macro_rules | `(tactic| walk_at "look") => `(tactic| first | exact upd_here | exact upd_there (by decide +kernel) (by walk_at "look") | assumption)
local macro_rules | `(tactic| walk_at "sz") => `(tactic| (show _ ≤ (16777216 : Nat); simp only [List.length_cons, List.length_nil, List.length_append, List.length_map, List.length_take, List.length_drop]; omega))
local macro_rules | `(tactic| walk_at "gl") => `(tactic| exact evv_glob (by kernel_rfl) (by kernel_rfl))
local macro_rules | `(tactic| walk_at "bi") => `(tactic| exact evv_builtin (by kernel_rfl) (by kernel_rfl) (by kernel_rfl))
local macro_rules | `(tactic| walk_at "ev") => `(tactic| exact ev_var (by walk_at "look"))
section
variable {X : Cx} {ρ : Str → Option D} {J : Side} {Φ : Flow → Shared → Prop} {rest : List Stmt}
theorem evp_eq {e : Expr} {a k : Int} (h : Ev X ρ J e (.int a)) (hk : a = k) : EvP X ρ J (some e) (some k) := by subst hk; exact h
theorem ev_and_tt {x y : Expr} {pos : Pos} {b : D} (hx : Ev X ρ J x (.bool true)) (hy : Ev X ρ J y b) : Ev X ρ J (.BoolOp .And [x, y] pos) b := by
  have := ev_and2 (pos := pos) hx (show (D.bool true).fits from trivial) (fun _ => hy)
  rw [show (D.bool true).truth = true from rfl, if_pos rfl] at this
  exact this
theorem evc_and3_tt {x y z : Expr} {pos : Pos} {b : D} (hx : EvC X ρ J x (.bool true)) (hy : EvC X ρ J y (.bool true)) (hz : EvC X ρ J z b) : EvC X ρ J (.BoolOp .And [x, y, z] pos) b := by
  refine evc_of0 fun s Q E S q => ?_
  show wpC (model PR X.w) X.A (do
    let v ← eval x X.env
    standAt pos
    let t ← holding [v] (truthy v)
    match BoolOp.And, t with
    | .And, false | .Or, true => pure v
    | _, _ => boolOp pos .And [eval y X.env, eval z X.env]) Q E s
  refine wpC_bind (hx.go s _ _ S fun v s₁ n₁ r₁ => wpC_bind (wpC_standAt (wpC_bindA (wpAny_holding (wpAny_with_toks (Nat.le_refl s₁.toks) (truthy_rep r₁ (show (D.bool true).fits from trivial) fun s₂ n₂ htk => ?_))))))
  have n₂' : Nx X.H₀ s₁ s₂ := ⟨n₂, htk⟩
  show wpC (model PR X.w) X.A (eval (.BoolOp .And [y, z] pos) X.env) Q E s₂
  exact (evc_and_tt hy hz).go s₂ _ _ ((S.next n₁).next n₂') fun w s₃ n₃ r₃ => q w s₃ ((n₁.trans n₂').trans n₃).toNx0 r₃
theorem ssc_assign_tup {elts : List Expr} {k : Nat} {tpos pos : Pos} {e : Expr} {d : D} {ρ' : Str → Option D} (he : EvC X ρ J e d) (ha : As X ρ J (.Tuple elts k tpos) d ρ') (h : SsC X ρ' J rest Φ)
    (hs : swapsWithSole [.Tuple elts k tpos] e pos.line X.env = pure false := by rfl)
    (hw : swappedStores [.Tuple elts k tpos] e X.env = pure none := by rfl) : SsC X ρ J (.Assign [.Tuple elts k tpos] e pos :: rest) Φ := by
  refine ssc_exec fun s E S => ?_
  rw [PyProof.Rows.exec_Assign]
  refine wpC_bind (wpC_standAt ?_)
  rw [hs]
  refine wpC_bind (wpC_pure ?_)
  rw [if_neg (by decide)]
  refine wpC_bind (he.go s _ _ S fun v s₁ n₁ r₁ => ?_)
  rw [hw]
  refine wpC_bind (wpC_pure ?_)
  show wpC (model PR X.w) X.A (do assignAll v [assign (.Tuple elts k tpos) X.env]; pure Flow.next) _ E s₁
  exact wpC_bindA (ha.go s₁ v _ _ (S.next n₁) r₁ fun s' S' => wpC_pure (h.go s' E S'))
end
theorem cutL_mid {α : Type} (l : List α) (i k : Nat) (h : ((i + k : Nat) : Int) ≤ 100000) : cutL l (some (i : Int)) (some ((i + k : Nat) : Int)) = (l.drop i).take k := by
  unfold cutL
  simp only [Option.elim]
  have e1 : clipAt l.length ((i : Nat) : Int) = min i l.length := by unfold clipAt; omega
  have e2 : clipAt l.length ((i + k : Nat) : Int) = min (i + k) l.length := by unfold clipAt; omega
  rw [e1, e2]
  rcases Nat.le_total i l.length with h1 | h1
  · rw [Nat.min_eq_left h1]
    rcases Nat.le_total (i + k) l.length with h2 | h2
    · rw [Nat.min_eq_left h2, Nat.add_sub_cancel_left]
    · rw [Nat.min_eq_right h2, List.take_of_length_le (by simp), List.take_of_length_le (by simp; omega)]
  · rw [Nat.min_eq_right h1, List.drop_length, List.drop_of_length_le h1, List.take_nil, List.take_nil]
def law_s (xs : List Int) : List Int := (xs.length : Int) :: xs.take 8
def rowAt (s : List Int) : Nat → List Item
  | 0 => []
  | i + 1 => rowAt s i ++ (machOf (s.getD (3 * i) 0) (s.getD (3 * i + 1) 0) (s.getD (3 * i + 2) 0)).items
def flatOf (s : List Int) : List Item := rowAt s ((s.length + (3 - 1)) / 3)
structure RowR (R : List Item → Prop) : Prop where
  len : ∀ l, R l → 1 ≤ l.length ∧ l.length ≤ 900
  knot : ∀ l, R l → ∀ i k, i < l.length → KnotOk ((l.drop i).take (k + 1))
  step : ∀ l, R l → ∀ i k, i < l.length → R (l.take i ++ [knotOf ((l.drop i).take (k + 1))] ++ l.drop (i + ((l.drop i).take (k + 1)).length))
theorem RowR.all {R : List Item → Prop} (h : RowR R) {l : List Item} (r : R l) : KnotOk l := by
  obtain ⟨h1, h2⟩ := h.len l r
  have := h.knot l r 0 l.length (by omega)
  rwa [List.drop_zero, List.take_of_length_le (by omega)] at this
theorem rowAt_len (s : List Int) : ∀ i, (rowAt s i).length = 4 * i
  | 0 => rfl
  | i + 1 => by
    rw [rowAt, List.length_append, rowAt_len s i]
    show _ + 4 = _
    omega
theorem three_at (s : List Int) (i j : Nat) (hi : i < s.length) (hj : j < 3) : ((cutL (s.map D.int) (some (i : Int)) (some ((i + 3 : Nat) : Int))) ++ [.int 0, .int 0])[j]? = some (.int (s.getD (i + j) 0)) ∨ 90000 < i := by
  by_cases hb : 90000 < i
  · exact .inr hb
  left
  rw [cutL_mid _ i 3 (by omega), ← List.map_drop, ← List.map_take]
  have e : ∀ j, s.getD (i + j) 0 = (s.drop i).getD j 0 := fun j => by simp [List.getD_eq_getElem?_getD]
  rw [e]
  have hl : (s.drop i).length ≠ 0 := by rw [List.length_drop]; omega
  generalize s.drop i = t at hl
  match t, hl with
  | [], hl => exact absurd rfl hl
  | [a], _ => match j, hj with | 0, _ => rfl | 1, _ => rfl | 2, _ => rfl
  | [a, b], _ => match j, hj with | 0, _ => rfl | 1, _ => rfl | 2, _ => rfl
  | a :: b :: c :: _, _ => match j, hj with | 0, _ => rfl | 1, _ => rfl | 2, _ => rfl
set_option maxHeartbeats 4000000 in
theorem fn_law (w : World) (H₀ : Heap) (R : List Item → Prop) (hR : RowR R) (xs : List Int) (hx : xs.length ≤ 1000) (h0 : R (flatOf (law_s xs))) : TopC w H₀ (.ref 114) 3 (.lst (xs.map .int)) (.bool true) := by
  refine topc_body (k := 2) (Str.ofString "script") rfl rfl rfl ⟨_, _, _, _, rfl, rfl, rfl, rfl⟩ rfl rfl rfl rfl rfl rfl (fun v => by kernel_rfl) (fun A sE F => by kernel_rfl) (fun A sE F hE hF => ?_)
  · skip
    have e8 : cutL (xs.map D.int) none (some 8) = (xs.take 8).map .int := by
      rw [show (some (8 : Int)) = some ((8 : Nat) : Int) from rfl, cutL_take _ 8 (by decide), List.map_take]
    have es : [D.int ((xs.map D.int).length : Int)] ++ cutL (xs.map D.int) none (some 8) = (law_s xs).map .int := by
      rw [e8, List.length_map]; rfl
    refine ssc_assign (d := .lst ((law_s xs).map .int)) ?_ ?_
    · rw [← es]
      exact evc_of (ev_add_lst (ev_list (evs_one (ev_len_lst (by walk_at "bi") (by walk_at "ev") (by walk_at "sz"))) (by walk_at "sz")) (ev_cut_lst (kl := none) (kh := some 8) (by walk_at "ev") trivial ev_int (by walk_at "sz")) (by rw [e8]; walk_at "sz"))
    have hsl : (law_s xs).length ≤ 9 := by unfold law_s; simp; omega
    have hflat : flatOf (law_s xs) = rowAt (law_s xs) (((law_s xs).length + (3 - 1)) / 3) := rfl
    generalize law_s xs = s at hsl h0 hflat ⊢
    refine ssc_assign (d := .lst ((rowAt s 0).map dItem)) (evc_of (ev_list evs_nil (Nat.zero_le _))) ?_
    refine ssc_for (ds := (List.range ((s.length + (3 - 1)) / 3)).map fun i : Nat => .int (0 + i * 3)) (fun i ρ' J' => J' = .triv ∧ ρ' (Str.ofString "s") = some (.lst (s.map .int)) ∧ ρ' (Str.ofString "row") = some (.lst ((rowAt s i).map dItem)))
      (evit_range3 (n := s.length) (c := 3) (by walk_at "bi") ev_int ?_ ev_int (by decide) (by omega) (by decide)) ⟨rfl, by walk_at "look", upd_here⟩ (fun i ρ' J' h b n => by cases h.1; exact n) ?_ ?_
    · have hl : (s.map D.int).length = s.length := List.length_map ..
      rw [← hl]
      refine ev_len_lst (by walk_at "bi") (by walk_at "ev") (by rw [hl]; show _ ≤ (16777216 : Nat); omega)
    · rintro i d ρ' J' K hM hN hd ⟨rfl, hS, hRow⟩
      obtain ⟨rfl, hlt⟩ : d = .int ((3 * i : Nat) : Int) ∧ 3 * i < s.length := by
        rw [List.getElem?_map] at hd
        cases e : (List.range ((s.length + (3 - 1)) / 3))[i]? with
        | none => rw [e] at hd; cases hd
        | some k =>
          rw [e] at hd; cases hd
          obtain ⟨h1, h2⟩ := List.getElem?_eq_some_iff.mp e
          rw [List.getElem_range] at h2
          rw [List.length_range] at h1
          subst h2
          refine ⟨?_, ?_⟩
          · rw [show (3 * i : Nat) = i * 3 from Nat.mul_comm _ _, Int.natCast_mul, ← Int.zero_add ((i : Int) * ((3 : Nat) : Int))]
            rfl
          · generalize hq : (s.length + (3 - 1)) / 3 = q at h1
            omega
      have t0 := (three_at s (3 * i) 0 hlt (by decide)).resolve_right (by omega)
      have t1 := (three_at s (3 * i) 1 hlt (by decide)).resolve_right (by omega)
      have t2 := (three_at s (3 * i) 2 hlt (by decide)).resolve_right (by omega)
      have hcl : (cutL (s.map D.int) (some ((3 * i : Nat) : Int)) (some ((3 * i + 3 : Nat) : Int))).length ≤ 3 := by
        rw [cutL_mid _ _ 3 (by omega), List.length_take]; omega
      refine ⟨_, as_name (by kernel_rfl), ?_⟩
      refine ssc_assign (d := .lst (cutL (s.map D.int) (some ((3 * i : Nat) : Int)) (some ((3 * i + 3 : Nat) : Int)) ++ [.int 0, .int 0])) (evc_of (ev_add_lst (ev_cut_lst (kl := some ((3 * i : Nat) : Int)) (kh := some ((3 * i + 3 : Nat) : Int)) (by walk_at "ev") (by walk_at "ev") (evp_eq (ev_add_int (a := ((3 * i : Nat) : Int)) (b := 3) (by walk_at "ev") ev_int) (by omega)) (by rw [List.length_map]; show _ ≤ (16777216 : Nat); omega)) (ev_list (evs_cons ev_int (evs_one ev_int)) (by walk_at "sz")) (by show _ ≤ (16777216 : Nat); simp only [List.length_cons, List.length_nil]; omega))) ?_
      have hm := fn_machine w H₀ (s.getD (3 * i) 0) (s.getD (3 * i + 1) 0) (s.getD (3 * i + 2) 0)
      have e4 : (rowAt s (i + 1)).map dItem = (rowAt s i).map dItem ++ (machOf (s.getD (3 * i) 0) (s.getD (3 * i + 1) 0) (s.getD (3 * i + 2) 0)).items.map dItem := by rw [rowAt, List.map_append]
      have h4 := rowAt_len s i
      have h4' := rowAt_len s (i + 1)
      generalize machOf (s.getD (3 * i) 0) (s.getD (3 * i + 1) 0) (s.getD (3 * i + 2) 0) = m at hm e4
      have hml : m.items.length = 4 := rfl
      refine ssc_assign (d := .lst ((rowAt s (i + 1)).map dItem)) ?_ (ssc_nil fun s' S' => ⟨_, .triv, ⟨rfl, by walk_at "look", upd_here⟩, S'⟩)
      rw [e4]
      refine evc_add_lst (evc_of (by walk_at "ev")) (evc_call (by walk_at "gl") (evs_cons (ev_item_lst (by walk_at "ev") ev_int (by decide) (by decide) t0) (evs_cons (ev_item_lst (by walk_at "ev") ev_int (by decide) (by decide) t1) (evs_one (ev_item_lst (by walk_at "ev") ev_int (by decide) (by decide) t2)))) hm (Nat.le_refl _) ⟨_, _, rfl, rfl⟩) (by rw [List.length_map, List.length_map, h4, hml]; show _ ≤ (16777216 : Nat); omega)
    rintro ρ' J' ⟨rfl, hS, hRow⟩
    rw [List.length_map, List.length_range, ← hflat] at hRow
    generalize flatOf s = flat at h0 hRow
    refine ssc_assign (d := .lst (flat.map dItem)) (evc_of (by walk_at "ev")) ?_
    refine ssc_assign (d := .bool true) (evc_of ev_bool) ?_
    refine ssc_for (ds := s.map .int) (fun i ρ' J' => J' = .triv ∧ ρ' (Str.ofString "flat") = some (.lst (flat.map dItem)) ∧ ρ' (Str.ofString "ok") = some (.bool true) ∧ ∃ row, R row ∧ ρ' (Str.ofString "row") = some (.lst (row.map dItem)))
      (evit_lst (by walk_at "ev")) ⟨rfl, by walk_at "look", upd_here, flat, h0, by walk_at "look"⟩ (fun i ρ' J' h b n => by cases h.1; exact n) ?_ ?_
    · rintro i d ρ₁ J₁ K hM hN hd ⟨rfl, hF, hO, row, hr, hW⟩
      obtain ⟨n, rfl⟩ : ∃ n, d = .int n := by
        rw [List.getElem?_map] at hd
        cases e : s[i]? with
        | none => rw [e] at hd; cases hd
        | some k => rw [e] at hd; cases hd; exact ⟨k, rfl⟩
      obtain ⟨l1, l2⟩ := hR.len row hr
      have hlr : (row.map dItem).length = row.length := List.length_map ..
      have rp := fmod_range n (row.length : Int) (by omega)
      have rk := fmod_range (n.fdiv 7) 4 (by decide)
      obtain ⟨p, hp⟩ : ∃ p : Nat, n.fmod row.length = p := ⟨_, (Int.toNat_of_nonneg rp.1).symm⟩
      obtain ⟨k, hk⟩ : ∃ k : Nat, (n.fdiv 7).fmod 4 = k := ⟨_, (Int.toNat_of_nonneg rk.1).symm⟩
      have hpl : p < row.length := by omega
      have hk4 : k < 4 := by omega
      have kn := hR.knot row hr p k hpl
      have st := hR.step row hr p k hpl
      have ec : cutL (row.map dItem) (some (p : Int)) (some ((p + (k + 1) : Nat) : Int)) = ((row.drop p).take (k + 1)).map dItem := by
        rw [cutL_mid _ _ _ (by omega), ← List.map_drop, ← List.map_take]
      refine ⟨_, as_name (by kernel_rfl), ?_⟩
      refine ssc_assign (d := .int p) (evc_of ?_) ?_
      · rw [← hp, ← hlr]
        exact ev_mod_int (by walk_at "ev") (ev_len_lst (by walk_at "bi") (by walk_at "ev") (by rw [hlr]; show _ ≤ (16777216 : Nat); omega)) (by rw [hlr]; omega)
      refine ssc_assign (d := .lst (((row.drop p).take (k + 1)).map dItem)) (evc_of ?_) ?_
      · rw [← ec]
        exact ev_cut_lst (kl := some (p : Int)) (kh := some ((p + (k + 1) : Nat) : Int)) (by walk_at "ev") (by walk_at "ev") (evp_eq (ev_add_int (ev_add_int (by walk_at "ev") ev_int) (ev_mod_int (ev_floordiv_int (by walk_at "ev") ev_int (by decide) (by decide)) ev_int (by decide))) (by rw [hk]; omega)) (by rw [hlr]; show _ ≤ (16777216 : Nat); omega)
      have hcut : ((row.drop p).take (k + 1)).length ≤ 4 := by rw [List.length_take]; omega
      generalize (row.drop p).take (k + 1) = c at kn st hcut ⊢
      refine ssc_assign_tup (d := .tup [.bool true, dItem (knotOf c)]) (evc_call (by walk_at "gl") (evs_one (by walk_at "ev")) (fn_knot w H₀ c kn) (Nat.le_refl _) ⟨_, _, rfl, rfl⟩) (as_pair (by kernel_rfl) (by kernel_rfl)) ?_
      refine ssc_assign (d := .bool true) (evc_of (ev_and_tt (by walk_at "ev") (by walk_at "ev"))) ?_
      have et : (row.take p ++ [knotOf c] ++ row.drop (p + c.length)).map dItem = cutL (row.map dItem) none (some (p : Int)) ++ [dItem (knotOf c)] ++ cutL (row.map dItem) (some ((p + c.length : Nat) : Int)) none := by
        rw [cutL_take _ _ (by omega), cutL_drop _ _ (by omega), List.map_append, List.map_append, List.map_take, List.map_drop]
        rfl
      have hcl : (c.map dItem).length = c.length := List.length_map ..
      have hz1 : (cutL (row.map dItem) none (some (p : Int))).length ≤ 1000 := by rw [cutL_take _ _ (by omega), List.length_take, hlr]; omega
      have hz2 : (cutL (row.map dItem) (some ((p + c.length : Nat) : Int)) none).length ≤ 1000 := by rw [cutL_drop _ _ (by omega), List.length_drop, hlr]; omega
      have evl : ∀ (X : Cx) (ρ : Str → Option D) (J : Side) (e : Expr), Ev X ρ J e (.int ((c.map dItem).length : Int)) → Ev X ρ J e (.int (c.length : Int)) := fun X ρ J e h => by rw [hcl] at h; exact h
      refine ssc_assign (d := .lst ((row.take p ++ [knotOf c] ++ row.drop (p + c.length)).map dItem)) (evc_of ?_) (ssc_nil fun s' S' => ⟨_, .triv, ⟨rfl, by walk_at "look", by walk_at "look", _, st, upd_here⟩, S'⟩)
      rw [et]
      refine ev_add_lst (ev_add_lst (ev_cut_lst (kl := none) (kh := some (p : Int)) (by walk_at "ev") trivial (by walk_at "ev") (by rw [hlr]; show _ ≤ (16777216 : Nat); omega)) (ev_list (evs_one (by walk_at "ev")) (by walk_at "sz")) (by show _ ≤ (16777216 : Nat); simp only [List.length_cons, List.length_nil]; omega))
        (ev_cut_lst (kl := some ((p + c.length : Nat) : Int)) (kh := none) (by walk_at "ev") (evp_eq (ev_add_int (a := (p : Int)) (b := (c.length : Int)) (by walk_at "ev") (evl _ _ _ _ (ev_len_lst (by walk_at "bi") (by walk_at "ev") (by rw [hcl]; show _ ≤ (16777216 : Nat); omega)))) (by omega)) trivial (by rw [hlr]; show _ ≤ (16777216 : Nat); omega))
        (by show _ ≤ (16777216 : Nat); simp only [List.length_append, List.length_cons, List.length_nil]; omega)
    · rintro ρ₁ J₁ ⟨rfl, hF, hO, row, hr, hW⟩
      have k1 := hR.all hr
      have k2 := hR.all h0
      exact ssc_ret (evc_and3_tt (evc_of (by walk_at "ev"))
        (evc_item_tup (ds := [.bool true, dItem (knotOf row)]) (evc_call (by walk_at "gl") (evs_one (by walk_at "ev")) (fn_knot w H₀ row k1) (Nat.le_refl _) ⟨_, _, rfl, rfl⟩) ev_int (by decide) (by decide) rfl)
        (evc_item_tup (ds := [.bool true, dItem (knotOf flat)]) (evc_call (by walk_at "gl") (evs_one (by walk_at "ev")) (fn_knot w H₀ flat k2) (Nat.le_refl _) ⟨_, _, rfl, rfl⟩) ev_int (by decide) (by decide) rfl))
end Mine
end
section
open PySem PySem.W PyProof.Rows PySem.Calls
open PySem.Builtin PySem.Builtin.Str PySem.StrLaws
set_option Elab.async false
set_option maxRecDepth 100000
set_option linter.unusedVariables false
namespace Mine
def unkL : List Nat := [117, 110, 107, 110, 111, 119, 110]
theorem unkL_eq : toL "unknown" = unkL := by decide +kernel
def dl (l : List Nat) : List Nat := repS unkL [] 0 l
theorem pref_cut (y : List Nat) (c : Nat) (hc : c ∉ y) (a b : List Nat) : y.isPrefixOf (a ++ c :: b) = y.isPrefixOf a := by
  rw [Bool.eq_iff_iff, List.isPrefixOf_iff_prefix, List.isPrefixOf_iff_prefix]
  constructor
  · intro h
    rcases Nat.lt_or_ge a.length y.length with hl | hl
    · have h2 : (a ++ [c]) <+: (a ++ c :: b) := ⟨b, by simp⟩
      have h3 := List.prefix_of_prefix_length_le h2 h (by simp; omega)
      exact absurd (h3.subset (by simp)) hc
    · exact List.prefix_of_prefix_length_le h (List.prefix_append _ _) hl
  · intro h
    exact h.trans (List.prefix_append _ _)
theorem repS_cut (y z : List Nat) (c : Nat) (hc : c ∉ y) (hy : y ≠ []) (b : List Nat) : ∀ (a : List Nat) (s : Nat), s ≤ a.length → repS y z s (a ++ c :: b) = repS y z s a ++ c :: repS y z 0 b
  | [], 0, _ => by
    have h := pref_cut y c hc [] b
    rw [List.nil_append] at h ⊢
    have h2 : y.isPrefixOf ([] : List Nat) = false := by cases y with
      | nil => exact absurd rfl hy
      | cons => rfl
    have e : repS y z 0 (c :: b) = c :: repS y z 0 b := by rw [repS, if_neg (by rw [h, h2]; decide)]
    exact e
  | [], s + 1, h => absurd h (by simp)
  | x :: a, s + 1, h => by
    rw [List.cons_append, repS, repS_cut y z c hc hy b a s (by simpa using h)]
    rfl
  | x :: a, 0, _ => by
    have h := pref_cut y c hc (x :: a) b
    rw [List.cons_append] at h ⊢
    rw [repS, h]
    cases hp : y.isPrefixOf (x :: a) with
    | true =>
      have hl := (List.isPrefixOf_iff_prefix.mp hp).length_le
      simp only [List.length_cons] at hl
      rw [if_pos rfl, repS_cut y z c hc hy b a _ (by omega)]
      conv => rhs; rw [repS, if_pos hp]
      rw [List.append_assoc]
    | false =>
      rw [if_neg (by decide), repS_cut y z c hc hy b a 0 (Nat.zero_le _)]
      conv => rhs; rw [repS, if_neg (by rw [hp]; decide)]
      rfl
theorem dl_nil : dl [] = [] := rfl
theorem dl_cut {c : Nat} (hc : c ∉ unkL) (a b : List Nat) : dl (a ++ c :: b) = dl a ++ c :: dl b := repS_cut unkL [] c hc (by decide) b a 0 (Nat.zero_le _)
theorem dl_cons {c : Nat} (hc : c ∉ unkL) (b : List Nat) : dl (c :: b) = c :: dl b := dl_cut hc [] b
theorem dl_snoc {c : Nat} (hc : c ∉ unkL) (a : List Nat) : dl (a ++ [c]) = dl a ++ [c] := dl_cut hc a []
theorem dl_join {c : Nat} (hc : c ∉ unkL) : ∀ ps : List (List Nat), dl (joinL [c] ps) = joinL [c] (ps.map dl)
  | [] => rfl
  | [p] => rfl
  | p :: q :: r => by
    show dl (p ++ [c] ++ joinL [c] (q :: r)) = dl p ++ [c] ++ joinL [c] ((q :: r).map dl)
    rw [List.append_assoc, List.singleton_append, dl_cut hc, dl_join hc (q :: r), List.append_assoc, List.singleton_append]
theorem map_joinL (f : Nat → Nat) (s : List Nat) : ∀ ps : List (List Nat), (joinL s ps).map f = joinL (s.map f) (ps.map (List.map f))
  | [] => rfl
  | [p] => rfl
  | p :: q :: r => by
    show (p ++ s ++ joinL s (q :: r)).map f = p.map f ++ s.map f ++ joinL (s.map f) ((q :: r).map (List.map f))
    rw [List.map_append, List.map_append, map_joinL f s (q :: r)]
theorem joinL_cons (s : List Nat) (c : Nat) (p : List Nat) : ∀ F : List (List Nat), joinL s ((c :: p) :: F) = c :: joinL s (p :: F)
  | [] => rfl
  | q :: r => rfl
theorem joinL_cons2 (s p : List Nat) {F : List (List Nat)} (h : F ≠ []) : joinL s (p :: F) = p ++ s ++ joinL s F := by
  cases F with
  | nil => exact absurd rfl h
  | cons q r => rfl
theorem joinL_ne (s : List Nat) : ∀ ps : List (List Nat), ps ≠ [] → (∀ p ∈ ps, p ≠ []) → joinL s ps ≠ []
  | [], h, _ => absurd rfl h
  | [p], _, h => h p (by simp)
  | p :: q :: r, _, h => by
    show p ++ s ++ _ ≠ []
    have := h p (by simp)
    cases p with
    | nil => exact absurd rfl this
    | cons => simp
theorem splL_ne (c : Nat) : ∀ l, splL c l ≠ []
  | [] => by simp [splL]
  | a :: r => by
    rw [splL]
    split
    · simp
    · split <;> simp
theorem join_splL (c : Nat) : ∀ l, joinL [c] (splL c l) = l
  | [] => rfl
  | a :: r => by
    have ih := join_splL c r
    have hne := splL_ne c r
    rw [splL]
    split
    · next h =>
      subst h
      rw [joinL_cons2 _ _ hne, ih]
      rfl
    · cases hs : splL c r with
      | nil => exact absurd hs hne
      | cons p ps =>
        rw [hs] at ih
        show joinL [c] ((a :: p) :: ps) = _
        rw [joinL_cons, ih]
theorem splL_app (c : Nat) (b : List Nat) : ∀ a, splL c (a ++ c :: b) = splL c a ++ splL c b
  | [] => by
    have e : splL c (c :: b) = [] :: splL c b := by rw [splL, if_pos rfl]
    exact e
  | x :: a => by
    have ih := splL_app c b a
    have hne := splL_ne c a
    rw [List.cons_append, splL, splL]
    by_cases h : x = c
    · rw [if_pos h, if_pos h, ih]; rfl
    · rw [if_neg h, if_neg h, ih]
      cases hs : splL c a with
      | nil => exact absurd hs hne
      | cons p ps => rfl
theorem splL_joins (c : Nat) : ∀ ps : List (List Nat), ps ≠ [] → splL c (joinL [c] ps) = ps.flatMap (splL c)
  | [], h => absurd rfl h
  | [p], _ => by simp [joinL]
  | p :: q :: r, _ => by
    show splL c (p ++ [c] ++ joinL [c] (q :: r)) = _
    rw [List.append_assoc, List.singleton_append, splL_app, splL_joins c (q :: r) (by simp)]
    rfl
theorem splL_free2 (c : Nat) : ∀ l, ∀ p ∈ splL c l, c ∉ p
  | [], p, h => by rw [splL, List.mem_singleton] at h; subst h; simp
  | a :: r, p, h => by
    have ih := splL_free2 c r
    rw [splL] at h
    split at h
    · rcases List.mem_cons.mp h with rfl | h
      · simp
      · exact ih p h
    · next hac =>
      cases hs : splL c r with
      | nil => exact absurd hs (splL_ne c r)
      | cons q qs =>
        rw [hs] at h ih
        rcases List.mem_cons.mp h with rfl | h
        · simp only [List.mem_cons, not_or]
          exact ⟨fun e => hac e.symm, ih q List.mem_cons_self⟩
        · exact ih p (List.mem_cons_of_mem _ h)
theorem splL_sub (c : Nat) : ∀ l, ∀ p ∈ splL c l, ∀ x ∈ p, x ∈ l
  | [], p, h, x, hx => by rw [splL, List.mem_singleton] at h; subst h; simp at hx
  | a :: r, p, h, x, hx => by
    have ih := splL_sub c r
    rw [splL] at h
    split at h
    · rcases List.mem_cons.mp h with rfl | h
      · simp at hx
      · exact List.mem_cons_of_mem _ (ih p h x hx)
    · cases hs : splL c r with
      | nil => exact absurd hs (splL_ne c r)
      | cons q qs =>
        rw [hs] at h ih
        rcases List.mem_cons.mp h with rfl | h
        · rcases List.mem_cons.mp hx with rfl | hx
          · exact List.mem_cons_self
          · exact List.mem_cons_of_mem _ (ih q List.mem_cons_self x hx)
        · exact List.mem_cons_of_mem _ (ih p (List.mem_cons_of_mem _ h) x hx)
/-! tidy -/
def wl (l : List Nat) : List (List Nat) := (splL 45 l).filter fun p => !p.isEmpty
theorem wl_ne (l : List Nat) : ∀ p ∈ wl l, p ≠ [] := fun p hp => by
  have := (List.mem_filter.mp hp).2
  cases p with
  | nil => cases this
  | cons => simp
def leadL (l : List Nat) : List Nat := if (!(wl l).isEmpty) && l.head? == some 45 then [45] else []
theorem endL_cons (c : Nat) (r : List Nat) : endL (c :: r) = if c = 45 ∧ endL r = [] then [] else c :: endL r := by
  unfold endL
  rw [List.reverse_cons, List.dropWhile_append]
  by_cases h : (r.reverse.dropWhile (· == 45)).isEmpty = true
  · rw [if_pos h]
    rw [List.isEmpty_iff] at h
    rw [h]
    by_cases hc : c = 45
    · rw [if_pos ⟨hc, rfl⟩]; simp [hc]
    · rw [if_neg (fun x => hc x.1)]; simp [hc]
  · rw [if_neg h, if_neg]
    · simp
    · rintro ⟨_, h2⟩
      rw [List.reverse_eq_nil_iff] at h2
      rw [h2] at h
      exact h rfl
theorem tidyL : ∀ l : List Nat, endL (colP true l) = joinL [45] (wl l) ∧ endL (colP false l) = leadL l ++ joinL [45] (wl l)
  | [] => ⟨rfl, rfl⟩
  | c :: r => by
    obtain ⟨i1, i2⟩ := tidyL r
    have hne := splL_ne 45 r
    by_cases hc : c = 45
    · subst hc
      have hw : wl (45 :: r) = wl r := by unfold wl; rw [splL, if_pos rfl]; rfl
      rw [hw]
      refine ⟨i1, ?_⟩
      show endL (45 :: colP true r) = _
      rw [endL_cons, i1]
      unfold leadL
      rw [hw]
      cases hr : wl r with
      | nil => rfl
      | cons p ps =>
        have := joinL_ne [45] (wl r) (by rw [hr]; simp) (wl_ne r)
        rw [hr] at this
        rw [if_neg (fun x => this x.2)]
        rfl
    · have e : ∀ p, colP p (c :: r) = c :: colP false r := fun p => by rw [colP, if_neg hc]
      have hl : leadL (c :: r) = [] := by
        unfold leadL
        rw [if_neg]
        rw [Bool.and_eq_true]
        rintro ⟨_, h⟩
        exact hc (by simpa using h)
      have key : c :: (leadL r ++ joinL [45] (wl r)) = joinL [45] (wl (c :: r)) := by
        cases hs : splL 45 r with
        | nil => exact absurd hs hne
        | cons p ps =>
          have hw : wl (c :: r) = (c :: p) :: ps.filter fun p => !p.isEmpty := by
            unfold wl; rw [splL, if_neg hc, hs]; rfl
          have hw2 : wl r = (p :: ps).filter fun p => !p.isEmpty := by unfold wl; rw [hs]
          rw [hw]
          cases r with
          | nil =>
            rw [splL] at hs
            cases hs
            rfl
          | cons d r =>
            rw [splL] at hs
            by_cases hd : d = 45
            · rw [if_pos hd] at hs
              cases hs
              have hf : wl (d :: r) = (splL 45 r).filter fun p => !p.isEmpty := hw2
              rw [← hf]
              unfold leadL
              cases hx : wl (d :: r) with
              | nil => rfl
              | cons q qs =>
                rw [if_pos (by simp [hd])]
                rfl
            · rw [if_neg hd] at hs
              have hp : ∃ p', p = d :: p' := by
                split at hs
                · cases hs; exact ⟨_, rfl⟩
                · cases hs; exact ⟨_, rfl⟩
              obtain ⟨p', rfl⟩ := hp
              have hf : wl (d :: r) = (d :: p') :: ps.filter fun p => !p.isEmpty := hw2
              have hl2 : leadL (d :: r) = [] := by
                unfold leadL
                rw [if_neg]
                rw [Bool.and_eq_true]
                rintro ⟨_, h⟩
                exact hd (by simpa using h)
              rw [hl2, hf, List.nil_append, joinL_cons [45] c]
      rw [e, e, endL_cons, if_neg (fun x => hc x.1), i2, hl, key]
      exact ⟨rfl, rfl⟩
end Mine
end
section
open PySem PySem.W PyProof.Rows PySem.Calls
open PySem.Builtin PySem.Builtin.Str PySem.StrLaws
set_option Elab.async false
set_option maxRecDepth 100000
set_option linter.unusedVariables false
namespace Mine
/-- the words and numbers of a version -/
def tk : List Nat → List (List Nat)
  | [] => []
  | c :: r => if isSep c then tk r else match r with
    | [] => [[c]]
    | d :: _ => if isSep d || isD c != isD d then [c] :: tk r else match tk r with
      | [] => [[c]]
      | t :: ts => (c :: t) :: ts
theorem tk_one (c : Nat) : tk [c] = if isSep c then [] else [[c]] := by rw [tk]; rfl
theorem tk_two (c d : Nat) (r : List Nat) : tk (c :: d :: r) = if isSep c then tk (d :: r) else if isSep d || isD c != isD d then [c] :: tk (d :: r) else match tk (d :: r) with
      | [] => [[c]]
      | t :: ts => (c :: t) :: ts := by rw [tk]
theorem tk_sep {c : Nat} (h : isSep c = true) (r : List Nat) : tk (c :: r) = tk r := by
  cases r with
  | nil => rw [tk_one, if_pos h]; rfl
  | cons d r => rw [tk_two, if_pos h]
theorem tk_ne {d : Nat} (h : isSep d = false) (r : List Nat) : tk (d :: r) ≠ [] := by
  cases r with
  | nil => rw [tk_one, if_neg (by rw [h]; decide)]; simp
  | cons e r =>
    rw [tk_two, if_neg (by rw [h]; decide)]
    split
    · simp
    · split <;> simp
theorem tk_cut {c : Nat} (h : isSep c = true) (b : List Nat) : ∀ a, tk (a ++ c :: b) = tk a ++ tk b
  | [] => tk_sep h b
  | [x] => by
    show tk (x :: c :: b) = _
    rw [tk_two, tk_sep h, tk_one]
    cases hx : isSep x with
    | true => rw [if_pos rfl, if_pos rfl]; rfl
    | false =>
      rw [if_neg Bool.false_ne_true, if_neg Bool.false_ne_true, h, Bool.true_or, if_pos rfl]
      rfl
  | x :: y :: a => by
    have ih := tk_cut h b (y :: a)
    rw [List.cons_append] at ih
    show tk (x :: y :: (a ++ c :: b)) = _
    rw [tk_two, tk_two, ih]
    cases hx : isSep x with
    | true => rw [if_pos rfl, if_pos rfl]
    | false =>
      rw [if_neg Bool.false_ne_true, if_neg Bool.false_ne_true]
      cases hy : (isSep y || isD x != isD y) with
      | true => rw [if_pos rfl, if_pos rfl]; rfl
      | false =>
        rw [if_neg Bool.false_ne_true, if_neg Bool.false_ne_true]
        have hne := tk_ne (show isSep y = false from by
          cases hs : isSep y with
          | false => rfl
          | true => rw [hs, Bool.true_or] at hy; cases hy) a
        cases ht : tk (y :: a) with
        | nil => exact absurd ht hne
        | cons t ts => rfl
theorem tk_join {c : Nat} (h : isSep c = true) : ∀ ps : List (List Nat), tk (joinL [c] ps) = ps.flatMap tk
  | [] => rfl
  | [p] => by simp [joinL]
  | p :: q :: r => by
    show tk (p ++ [c] ++ joinL [c] (q :: r)) = _
    rw [List.append_assoc, List.singleton_append, tk_cut h, tk_join h (q :: r)]
    rfl
theorem tk_len : ∀ l, (tk l).length ≤ l.length
  | [] => Nat.le_refl _
  | [c] => by rw [tk_one]; split <;> simp
  | c :: d :: r => by
    have := tk_len (d :: r)
    rw [tk_two]
    simp only [List.length_cons] at this ⊢
    split
    · omega
    · split
      · simp only [List.length_cons]; omega
      · split
        · simp
        · next h => rw [h] at this; simp only [List.length_cons] at this ⊢; omega

def nz (v : List Nat) : List (List Nat) := match v with
  | [] => []
  | [c] => if isSep c then [] else [[c]]
  | v => [v]
def oth (c : Nat) : Bool := !isD c && !isSep c
theorem tk_run (P : Nat → Bool) (h1 : ∀ c, P c = true → isSep c = false) (h2 : ∀ c d, P c = true → (isSep d || isD c != isD d) = !P d) : ∀ l, tk l = nz (l.takeWhile P) ++ tk (l.dropWhile P)
  | [] => rfl
  | c :: r => by
    have ih := tk_run P h1 h2 r
    cases hc : P c with
    | false => rw [List.takeWhile_cons, List.dropWhile_cons, hc]; rfl
    | true =>
      have hs := h1 c hc
      rw [List.takeWhile_cons, List.dropWhile_cons, hc, if_pos rfl, if_pos rfl]
      cases r with
      | nil => rw [tk_one, if_neg (by rw [hs]; decide)]; simp [nz, hs, tk]
      | cons d r =>
        rw [tk_two, if_neg (by rw [hs]; decide), h2 c d hc]
        cases hd : P d with
        | false =>
          rw [List.takeWhile_cons, List.dropWhile_cons, hd]
          simp [nz, hs]
        | true =>
          rw [ih]
          rw [List.takeWhile_cons, List.dropWhile_cons, hd]
          simp only [if_true, Bool.not_true, Bool.false_eq_true, if_false]
          have e : ∀ q, nz (d :: q) = [d :: q] := fun q => by
            cases q with
            | nil => simp [nz, h1 d hd]
            | cons => rfl
          rw [e]
          rfl
theorem isD_sep (c : Nat) (h : isD c = true) : isSep c = false := by
  unfold isD at h
  rw [Bool.and_eq_true, decide_eq_true_eq, decide_eq_true_eq] at h
  have : ∀ c < 58, 48 ≤ c → isSep c = false := by decide +kernel
  exact this c (by omega) h.1
theorem tk_oth (l : List Nat) : tk l = nz (l.takeWhile oth) ++ tk (l.dropWhile oth) := by
  refine tk_run oth (fun c h => ?_) (fun c d h => ?_) l
  · unfold oth at h; rw [Bool.and_eq_true] at h; simpa using h.2
  · unfold oth at h ⊢
    rw [Bool.and_eq_true] at h
    have h1 : isD c = false := by simpa using h.1
    rw [h1]
    cases isSep d <;> cases isD d <;> rfl
theorem tk_dig (l : List Nat) : tk l = nz (l.takeWhile isD) ++ tk (l.dropWhile isD) := by
  refine tk_run isD isD_sep (fun c d h => ?_) l
  rw [h]
  cases hd : isD d with
  | false => cases isSep d <;> rfl
  | true => rw [isD_sep d hd]; rfl
theorem getD_drop (text : Array Nat) {s : Nat} (h : s < text.size) : text.toList.drop s = text.getD s 0 :: text.toList.drop (s + 1) := by
  rw [List.drop_eq_getElem_cons (by simpa using h)]
  congr 1
  simp [Array.getD, h]
theorem dig_list (text : Array Nat) : ∀ (k s : Nat), s + k = text.size → dig text s k = ((text.toList.drop s).takeWhile isD).length
  | 0, s, h => by rw [dig, List.drop_of_length_le (by simp; omega)]; rfl
  | k + 1, s, h => by
    rw [getD_drop text (by omega), List.takeWhile_cons, dig, dig_list text k (s + 1) (by omega)]
    split <;> simp
theorem fnd_list (text : Array Nat) : ∀ (k s : Nat), s + k = text.size → fnd text text.size k s = match (text.toList.drop s).dropWhile oth with
    | [] => none
    | c :: q => some (s + ((text.toList.drop s).takeWhile oth).length, s + ((text.toList.drop s).takeWhile oth).length + (if isD c then ((c :: q).takeWhile isD).length else 1))
  | 0, s, h => by rw [fnd, List.drop_of_length_le (by simp; omega)]; rfl
  | k + 1, s, h => by
    have ih := fnd_list text k (s + 1) (by omega)
    have hg := getD_drop text (s := s) (by omega)
    have hd := dig_list text (text.size - s) s (by omega)
    rw [hg] at hd ⊢
    generalize text.getD s 0 = c at hg hd ⊢
    rw [fnd]
    have hgc : text.getD s 0 = c := by
      have := getD_drop text (s := s) (by omega)
      rw [this] at hg
      exact (List.cons.inj hg).1
    rw [hgc, List.takeWhile_cons, List.dropWhile_cons]
    cases h1 : isD c with
    | true =>
      have ho : oth c = false := by unfold oth; rw [h1]; rfl
      rw [ho]
      simp only [if_true, Bool.false_eq_true, if_false, h1]
      rw [hd]
      rfl
    | false =>
      cases h2 : isSep c with
      | true =>
        have ho : oth c = false := by unfold oth; rw [h1, h2]; rfl
        rw [ho]
        simp [h1]
      | false =>
        have ho : oth c = true := by unfold oth; rw [h1, h2]; rfl
        rw [ho, if_pos rfl, if_pos rfl, if_neg (by decide), if_neg (by decide), ih]
        cases (text.toList.drop (s + 1)).dropWhile oth with
        | nil => rfl
        | cons c q =>
          dsimp only [List.length_cons]
          congr 2
          · omega
          · omega
theorem take_tw (P : Nat → Bool) (l : List Nat) : l.take (l.takeWhile P).length = l.takeWhile P := (List.prefix_iff_eq_take.mp (List.takeWhile_prefix P)).symm
theorem drop_tw (P : Nat → Bool) (l : List Nat) : l.drop (l.takeWhile P).length = l.dropWhile P := by
  have h := List.takeWhile_append_dropWhile (p := P) (l := l)
  conv => lhs; rw [← h]
  have : ∀ a b : List Nat, (a ++ b).drop a.length = b := fun a b => by simp
  have e : (List.takeWhile P (l.takeWhile P ++ l.dropWhile P)) = l.takeWhile P := by rw [h]
  rw [e]
  exact this _ _
def slL (l : List Nat) (c : Nat × Nat) : List Nat := (l.drop c.1).take (c.2 - c.1)
theorem toL_slice (text : Array Nat) (c : Nat × Nat) : toL (slice text c) = slL text.toList c := by
  show (text.extract c.1 c.2).toList = _
  rw [Array.toList_extract, List.extract_eq_take_drop]
  rfl
theorem plan_list (text : Array Nat) : ∀ (k p : Nat), p ≤ text.size → text.size - p < k →
    ((plan text text.size k p).1.map (slL text.toList) ++ [slL text.toList ((plan text text.size k p).2, text.size)]).flatMap nz = tk (text.toList.drop p)
  | 0, p, _, h => absurd h (by omega)
  | k + 1, p, hp, h => by
    have hf := fnd_list text (text.size - p) p (by omega)
    have ho := tk_oth (text.toList.drop p)
    have e1 := take_tw oth (text.toList.drop p)
    have e2 := drop_tw oth (text.toList.drop p)
    have hlen : ((text.toList.drop p).takeWhile oth).length ≤ text.size - p := by
      have := (List.takeWhile_prefix oth (l := text.toList.drop p)).length_le
      simpa using this
    rw [plan, hf]
    cases hq : (text.toList.drop p).dropWhile oth with
    | nil =>
      rw [hq] at ho
      dsimp only
      have e3 : (text.toList.drop p).takeWhile oth = text.toList.drop p := by
        have := List.takeWhile_append_dropWhile (p := oth) (l := text.toList.drop p)
        rw [hq, List.append_nil] at this
        exact this
      have e4 : slL text.toList (p, text.size) = text.toList.drop p := by
        unfold slL
        exact List.take_of_length_le (by simp)
      rw [e3] at ho
      rw [ho, e4]
      simp [tk]
    | cons c q =>
      dsimp only
      rw [hq] at ho e2
      generalize hn : ((text.toList.drop p).takeWhile oth).length = n at e1 e2 hlen
      have hc : oth c = false := by
        have := List.head?_dropWhile_not oth (text.toList.drop p)
        rw [hq] at this
        simpa using this
      have hsub : text.toList.drop (p + n) = c :: q := by rw [← List.drop_drop, e2]
      have hlq : (c :: q).length = text.size - (p + n) := by rw [← hsub]; simp
      have hm1 : 1 ≤ (if isD c then ((c :: q).takeWhile isD).length else 1) := by
        cases h1 : isD c with
        | false => exact Nat.le_refl _
        | true => rw [if_pos rfl, List.takeWhile_cons, h1]; simp
      have hm2 : (if isD c then ((c :: q).takeWhile isD).length else 1) ≤ (c :: q).length := by
        split
        · exact (List.takeWhile_prefix isD).length_le
        · simp
      have htq : tk (c :: q) = nz ((c :: q).take (if isD c then ((c :: q).takeWhile isD).length else 1)) ++ tk ((c :: q).drop (if isD c then ((c :: q).takeWhile isD).length else 1)) := by
        cases h1 : isD c with
        | true =>
          rw [if_pos rfl, take_tw, drop_tw]
          exact tk_dig _
        | false =>
          have hs : isSep c = true := by
            unfold oth at hc
            rw [h1] at hc
            simpa using hc
          rw [if_neg (by decide)]
          show tk (c :: q) = nz [c] ++ tk q
          rw [tk_sep hs]
          simp [nz, hs]
      generalize (if isD c then ((c :: q).takeWhile isD).length else 1) = m at hm1 hm2 htq ⊢
      have ih := plan_list text k (p + n + m) (by omega) (by omega)
      rw [List.map_cons, List.map_cons, List.cons_append, List.cons_append, List.flatMap_cons, List.flatMap_cons, ih]
      have s1 : slL text.toList (p, p + n) = (text.toList.drop p).takeWhile oth := by
        unfold slL
        rw [show p + n - p = n by omega]
        exact e1
      have s2 : slL text.toList (p + n, p + n + m) = (c :: q).take m := by
        unfold slL
        dsimp only
        rw [hsub, show p + n + m - (p + n) = m by omega]
      have s3 : text.toList.drop (p + n + m) = (c :: q).drop m := by rw [← List.drop_drop, hsub]
      rw [s1, s2, s3, ho, htq]
theorem pieces_tk (x : Str) : ((pieces x).map toL).flatMap nz = tk (toL x) := by
  have h := plan_list x.cps (2 * x.cps.size + 3) 0 (Nat.zero_le _) (by omega)
  rw [List.drop_zero] at h
  rw [← h]
  unfold pieces
  rw [List.map_append, List.map_map]
  congr 2
  · exact List.map_congr_left fun c _ => toL_slice x.cps c
  · show [toL (slice x.cps _)] = _
    rw [toL_slice]
theorem sep_in (c : Nat) (h : isSep c = true) : (⟨#[c]⟩ : Str) ∈ seps ∧ rk ⟨#[c]⟩ = [] := by
  have h256 : c < 256 := by
    unfold isSep at h
    rw [Bool.and_eq_true, decide_eq_true_eq] at h
    exact h.1
  have : ∀ c < 256, isSep c = true → (⟨#[c]⟩ : Str) ∈ seps := by decide +kernel
  exact ⟨this c h256 h, (tok_seps _ (this c h256 h)).r⟩
theorem nz_cases (v : Str) : (nz (toL v) = [toL v]) ∨ (nz (toL v) = [] ∧ v ∈ seps ∧ rk v = []) := by
  cases h : toL v with
  | nil =>
    refine .inr ⟨rfl, ?_⟩
    have : v = "" := toL_inj (by rw [h]; decide +kernel)
    subst this
    exact ⟨by decide +kernel, by decide +kernel⟩
  | cons c r =>
    cases r with
    | nil =>
      cases hs : isSep c with
      | false => left; simp [nz, hs]
      | true =>
        have : v = ⟨#[c]⟩ := toL_inj h
        subst this
        exact .inr ⟨by simp [nz, hs], sep_in c hs⟩
    | cons d r => exact .inl rfl
theorem pieces_tok (x : Str) (h : ∀ t ∈ tk (toL x), ofL t ∈ tokL) : ∀ v ∈ pieces x, TokOk v := by
  intro v hv
  rcases nz_cases v with e | ⟨_, e, _⟩
  · have : toL v ∈ tk (toL x) := by
      rw [← pieces_tk]
      exact List.mem_flatMap.mpr ⟨toL v, List.mem_map.mpr ⟨v, hv, rfl⟩, by rw [e]; simp⟩
    have := h _ this
    rw [ofL_toL] at this
    exact tok_ok this
  · exact .inl (tok_seps v e)
theorem pieces_rk (x : Str) : (pieces x).flatMap rk = (tk (toL x)).flatMap fun t => rk (ofL t) := by
  rw [← pieces_tk]
  generalize pieces x = l
  induction l with
  | nil => rfl
  | cons v l ih =>
    rw [List.flatMap_cons, ih, List.map_cons, List.flatMap_cons, List.flatMap_append]
    congr 1
    rcases nz_cases v with e | ⟨e, _, e2⟩
    · rw [e]; simp [ofL_toL]
    · rw [e, e2]; rfl
end Mine
end
section
open PySem PySem.W PyProof.Rows PySem.Calls
open PySem.Builtin PySem.Builtin.Str PySem.StrLaws
set_option Elab.async false
set_option maxRecDepth 100000
set_option linter.unusedVariables false
namespace Mine
/-! signs -/
def m1 (c d a : Nat) : Nat := if a = c then d else a
def mp (a : Nat) : Nat := m1 41 45 (m1 40 45 (m1 34 45 (m1 59 45 (m1 58 45 (m1 92 45 (m1 47 45 (m1 32 95 a)))))))
theorem rep_map (x y z : Str) (c d : Nat) (hy : toL y = [c]) (hz : toL z = [d]) : toL (Txt.replace x y z) = (toL x).map (m1 c d) := by
  have hl : 1 ≤ y.length := by rw [← toL_length, hy]; exact Nat.le_refl _
  rw [replace_repS x y z hl, hy, hz, repS_one]
  rfl
theorem toL_plat1 (x : Str) : toL (plat1 x) = (toL x).map mp := by
  unfold plat1
  rw [rep_map _ ")" "-" 41 45 (by decide +kernel) (by decide +kernel), rep_map _ "(" "-" 40 45 (by decide +kernel) (by decide +kernel), rep_map _ "\"" "-" 34 45 (by decide +kernel) (by decide +kernel),
    rep_map _ ";" "-" 59 45 (by decide +kernel) (by decide +kernel), rep_map _ ":" "-" 58 45 (by decide +kernel) (by decide +kernel), rep_map _ "\\" "-" 92 45 (by decide +kernel) (by decide +kernel),
    rep_map _ "/" "-" 47 45 (by decide +kernel) (by decide +kernel), rep_map _ " " "_" 32 95 (by decide +kernel) (by decide +kernel)]
  simp only [List.map_map]
  rfl
theorem toL_plat2 (x : Str) : toL (plat2 x) = dl ((toL x).map mp) := by
  unfold plat2
  rw [replace_repS _ _ _ (by decide +kernel), toL_plat1, unkL_eq]
  rfl
def wc (c : Nat) : Bool := (decide (48 ≤ c) && decide (c ≤ 57)) || (decide (65 ≤ c) && decide (c ≤ 90)) || (decide (97 ≤ c) && decide (c ≤ 122)) || c == 46 || c == 95 || c == 43 || c == 45
theorem wc_facts {c : Nat} (h : wc c = true) : mp c = c ∧ Unicode.isSpace c = false := by
  have hl : c < 123 := by
    unfold wc at h
    simp only [Bool.or_eq_true, Bool.and_eq_true, decide_eq_true_eq, beq_iff_eq] at h
    omega
  have : ∀ c < 123, wc c = true → mp c = c ∧ Unicode.isSpace c = false := by decide +kernel
  exact this c hl h
theorem map_mp_id {l : List Nat} (h : ∀ c ∈ l, wc c = true) : l.map mp = l := by
  conv => rhs; rw [← List.map_id l]
  exact List.map_congr_left fun c hc => (wc_facts (h c hc)).1
/-! strip -/
def stripL (l : List Nat) : List Nat := ((l.dropWhile Unicode.isSpace).reverse.dropWhile Unicode.isSpace).reverse
theorem toL_strip (x : Str) : toL (Txt.strip x) = stripL (toL x) := by
  unfold Txt.strip
  rw [PyProof.Rows.stripBy_eq, toL, strSub_toList]
  simp only [stripLo, stripHi, if_true]
  show ((toL x).drop ((toL x).takeWhile Unicode.isSpace).length).take _ = _
  rw [drop_tw]
  unfold stripL
  generalize hd : (toL x).dropWhile Unicode.isSpace = d
  have hl : x.length - ((toL x).takeWhile Unicode.isSpace).length = d.length := by
    have := congrArg List.length (List.takeWhile_append_dropWhile (p := Unicode.isSpace) (l := toL x))
    rw [hd, List.length_append, toL_length] at this
    omega
  rw [← drop_tw, List.drop_reverse, List.reverse_reverse]
  have hl' : x.length - (List.takeWhile Unicode.isSpace x.cps.toList).length = d.length := hl
  congr 1
  omega
theorem dw_head {P : Nat → Bool} {l : List Nat} (h : ∀ c, l.head? = some c → P c = false) : l.dropWhile P = l := by
  cases l with
  | nil => rfl
  | cons c r => rw [List.dropWhile_cons, h c rfl]; rfl
theorem stripL_core {l : List Nat} (h1 : ∀ c, l.head? = some c → Unicode.isSpace c = false) (h2 : ∀ c, l.getLast? = some c → Unicode.isSpace c = false) : stripL l = l := by
  unfold stripL
  rw [dw_head h1, dw_head (l := l.reverse) fun c hc => h2 c (by rwa [List.head?_reverse] at hc), List.reverse_reverse]
theorem stripL_id {l : List Nat} (h : ∀ c ∈ l, Unicode.isSpace c = false) : stripL l = l :=
  stripL_core (fun c hc => h c (List.mem_of_head? hc)) fun c hc => h c (List.mem_of_getLast? hc)
theorem stripL_front (l : List Nat) : stripL (32 :: l) = stripL l := by
  unfold stripL
  rw [List.dropWhile_cons, if_pos (by decide +kernel)]
theorem stripL_back {l : List Nat} (h1 : ∀ c, l.head? = some c → Unicode.isSpace c = false) (h0 : l ≠ []) : stripL (l ++ [32]) = stripL l := by
  unfold stripL
  rw [dw_head h1, dw_head (l := l ++ [32]) fun c hc => h1 c (by
    cases l with
    | nil => exact absurd rfl h0
    | cons a r => exact hc), List.reverse_append]
  show (List.dropWhile Unicode.isSpace (32 :: l.reverse)).reverse = _
  rw [List.dropWhile_cons, if_pos (by decide +kernel)]
theorem stripL_len (l : List Nat) : (stripL l).length ≤ l.length := by
  unfold stripL
  rw [List.length_reverse]
  have h1 := (List.dropWhile_suffix Unicode.isSpace (l := (l.dropWhile Unicode.isSpace).reverse)).length_le
  have h2 := (List.dropWhile_suffix Unicode.isSpace (l := l)).length_le
  rw [List.length_reverse] at h1
  omega
theorem dl_len (l : List Nat) : (dl l).length ≤ l.length := repS_nil_len unkL l 0
/-! joins -/
theorem mem_joinL {c : Nat} : ∀ {ps : List (List Nat)}, c ∈ joinL [45] ps → c = 45 ∨ ∃ p ∈ ps, c ∈ p
  | [], h => by simp [joinL] at h
  | [p], h => .inr ⟨p, by simp, h⟩
  | p :: q :: r, h => by
    have h' : c ∈ p ++ [45] ++ joinL [45] (q :: r) := h
    rw [List.mem_append, List.mem_append] at h'
    rcases h' with (h' | h') | h'
    · exact .inr ⟨p, by simp, h'⟩
    · exact .inl (by simpa using h')
    · rcases mem_joinL h' with e | ⟨t, ht, e⟩
      · exact .inl e
      · exact .inr ⟨t, List.mem_cons_of_mem _ ht, e⟩
theorem joinL_len : ∀ ps : List (List Nat), ps ≠ [] → (joinL [45] ps).length + 1 = (ps.map fun p => p.length + 1).sum
  | [], h => absurd rfl h
  | [p], _ => by simp [joinL]
  | p :: q :: r, _ => by
    have ih := joinL_len (q :: r) (by simp)
    show (p ++ [45] ++ joinL [45] (q :: r)).length + 1 = _
    rw [List.map_cons, List.sum_cons, ← ih]
    simp only [List.length_append, List.length_cons, List.length_nil]
    omega
theorem colP_len : ∀ (l : List Nat) (p : Bool), (colP p l).length ≤ l.length
  | [], p => by cases p <;> simp [colP]
  | c :: r, p => by
    have h1 := colP_len r true
    have h2 := colP_len r false
    rw [colP]
    simp only [List.length_cons]
    split
    · split
      · omega
      · simp only [List.length_cons]; omega
    · simp only [List.length_cons]; omega
theorem endL_len (l : List Nat) : (endL l).length ≤ l.length := by
  unfold endL
  rw [List.length_reverse]
  have h1 := (List.dropWhile_suffix (· == 45) (l := l.reverse)).length_le
  rw [List.length_reverse] at h1
  exact h1
/-! items -/
structure Good (i : Item) : Prop where
  flag : i.flag = (i.text.length != 0)
  seen : toL i.seen = dl ((stripL (toL i.text)).map mp)
  chr : ∀ c ∈ toL i.seen, wc c = true
  nu : ∀ p ∈ splL 45 (toL i.seen), dl p = p
  tok : ∀ t ∈ tk (toL i.seen), ofL t ∈ tokL
  rk : i.ranks = (tk (toL i.seen)).flatMap fun t => rk (ofL t)
theorem Good.len {i : Item} (h : Good i) : i.seen.length ≤ i.text.length := by
  have h1 := dl_len ((stripL (toL i.text)).map mp)
  have h2 := stripL_len (toL i.text)
  rw [← h.seen, List.length_map, toL_length] at h1
  rw [toL_length] at h2
  omega
theorem Good.unflag {i : Item} (h : Good i) (hf : i.flag = false) : toL i.seen = [] ∧ i.ranks = [] := by
  have h0 : i.text.length = 0 := by
    have := h.flag
    rw [hf] at this
    simpa using this.symm
  have h1 : toL i.seen = [] := List.length_eq_zero_iff.mp (by have := h.len; rw [toL_length]; omega)
  exact ⟨h1, by rw [h.rk, h1]; rfl⟩
theorem Good.flen {i : Item} (h : Good i) : i.ranks.length ≤ 2 * i.text.length := by
  rw [h.rk]
  have h1 := flat_len (α := List Nat) (fun t => Mine.rk (ofL t)) (fun t => rk_len _) (tk (toL i.seen))
  have h2 := tk_len (toL i.seen)
  have h3 := h.len
  rw [toL_length] at h2
  omega
def rankB : D → Bool
  | .int _ => true
  | .str x => PyData.strOk x
  | _ => false
theorem rank_of {d : D} (h : rankB d = true) : RankD d := by
  cases d with
  | int i => exact .inl ⟨i, rfl⟩
  | str x => exact .inr ⟨x, rfl, h⟩
  | _ => cases h
theorem Good.fl {i : Item} (h : Good i) : ∀ d ∈ i.ranks, RankD d := by
  intro d hd
  rw [h.rk] at hd
  obtain ⟨t, ht, hd⟩ := List.mem_flatMap.mp hd
  have h1 : ∀ v ∈ tokL, (Mine.rk v).all rankB = true := by decide +kernel
  exact rank_of (List.all_eq_true.mp (h1 _ (h.tok t ht)) d hd)
def wt (i : Item) : Nat := i.text.length + 1
def wts (l : List Item) : Nat := (l.map wt).sum
theorem wts_app (a b : List Item) : wts (a ++ b) = wts a + wts b := by unfold wts; rw [List.map_append, List.sum_append]
theorem wts_mem {l : List Item} {i : Item} (h : i ∈ l) : wt i ≤ wts l := by
  induction l with
  | nil => cases h
  | cons a l ih =>
    have e : wts (a :: l) = wt a + wts l := rfl
    rcases List.mem_cons.mp h with rfl | h
    · omega
    · have := ih h; omega
theorem wts_len (l : List Item) : l.length ≤ wts l := by
  induction l with
  | nil => exact Nat.le_refl _
  | cons a l ih =>
    have e : wts (a :: l) = wt a + wts l := rfl
    have : 1 ≤ wt a := by unfold wt; omega
    simp only [List.length_cons]
    omega
theorem wts_sub (f : Item → List Nat) (P : Item → Bool) (l : List Item) (h : ∀ i ∈ l, (f i).length ≤ i.text.length) : (((l.filter P).map f).map fun p => p.length + 1).sum ≤ wts l := by
  induction l with
  | nil => exact Nat.le_refl _
  | cons a l ih =>
    have e : wts (a :: l) = wt a + wts l := rfl
    have := ih fun i hi => h i (List.mem_cons_of_mem _ hi)
    have ha := h a List.mem_cons_self
    rw [List.filter_cons]
    unfold wt at e
    split
    · simp only [List.map_cons, List.sum_cons]; omega
    · omega
theorem join_bound (f : Item → List Nat) (P : Item → Bool) (l : List Item) (h : ∀ i ∈ l, (f i).length ≤ i.text.length) (h0 : l ≠ []) : (joinL [45] ((l.filter P).map f)).length + 1 ≤ wts l := by
  cases hf : (l.filter P).map f with
  | nil =>
    have := wts_len l
    have : 1 ≤ l.length := List.length_pos_iff.mpr h0
    show 0 + 1 ≤ _
    omega
  | cons p ps =>
    have := wts_sub f P l h
    rw [hf] at this
    have := joinL_len (p :: ps) (by simp)
    omega
end Mine
end
section
open PySem PySem.W PyProof.Rows PySem.Calls
open PySem.Builtin PySem.Builtin.Str PySem.StrLaws
set_option Elab.async false
set_option maxRecDepth 100000
set_option linter.unusedVariables false
namespace Mine
theorem dash_l : toL "-" = [45] := by decide +kernel
theorem toL_dash (ts : List Str) : toL (Txt.join "-" ts) = joinL [45] (ts.map toL) := by rw [toL_join, dash_l]
theorem toL_whole (l : List Item) : toL (wholeOf l) = joinL [45] ((l.filter (·.flag)).map fun i => toL i.seen) := by
  unfold wholeOf
  rw [toL_dash, List.map_map]
  rfl
theorem toL_words (x : Str) : (wordsOf x).map toL = wl (toL x) := by
  unfold wordsOf wl
  rw [dash_eq, ← split_splL, List.filter_map]
  congr 1
  refine List.filter_congr fun t _ => ?_
  show (t.length != 0) = !(toL t).isEmpty
  rw [← toL_length]
  cases toL t <;> rfl
theorem item0 (x : Str) (h : x.length ≠ 0) : (Txt.item x 0 == "-") = ((toL x).head? == some 45) := by
  have e1 : Txt.charAt x 0 = (toL x).head? := by
    unfold Txt.charAt
    rw [StrLaws.seqIndex_nonneg (by decide) (by omega)]
    show x.cps[0]? = _
    rw [List.head?_eq_getElem?]
    simp [toL]
  unfold Txt.item
  rw [e1]
  cases hx : toL x with
  | nil => exact absurd (by rw [← toL_length, hx]; rfl) h
  | cons c r =>
    show ((⟨#[c]⟩ : Str) == "-") = (some c == some 45)
    rw [dash_eq, Bool.eq_iff_iff, beq_iff_eq, beq_iff_eq]
    constructor
    · intro e
      have := congrArg toL e
      simpa [toL] using this
    · intro e
      cases e
      rfl
theorem toL_lead (x : Str) : toL (leadOf x) = leadL (toL x) := by
  unfold leadOf leadL
  have hw : (wordsOf x).isEmpty = (wl (toL x)).isEmpty := by rw [← toL_words]; cases wordsOf x <;> rfl
  rw [hw]
  by_cases h0 : x.length = 0
  · have e0 : toL x = [] := List.length_eq_zero_iff.mp (by rw [toL_length]; exact h0)
    rw [e0]
    have : wl [] = [] := rfl
    rw [this]
    rfl
  · rw [item0 x h0]
    split
    · exact dash_l
    · rfl
theorem toL_told (l : List Item) : toL (toldOf l) = leadL (toL (wholeOf l)) ++ joinL [45] (wl (toL (wholeOf l))) := by
  unfold toldOf
  rw [toL_append, toL_lead, toL_dash, toL_words]
/-! a row's part -/
structure Part1 (l : List Item) : Prop where
  g : ∀ i ∈ l, Good i
  n : l ≠ []
  n2 : l.length ≤ 900
  w : wts l ≤ 2000
section
variable {l : List Item} (h : Part1 l)
include h
theorem p_plat0 : toL (plat0 (l.map (·.text))) = joinL [45] ((l.filter (·.flag)).map fun i => stripL (toL i.text)) := by
  unfold plat0
  rw [toL_dash, List.filter_map, List.map_map, List.map_map]
  have e : l.filter ((fun x : Str => x.length != 0) ∘ fun i : Item => i.text) = l.filter (·.flag) := List.filter_congr fun i hi => ((h.g i hi).flag).symm
  rw [e]
  congr 1
  exact List.map_congr_left fun i _ => toL_strip i.text
theorem p_plat2 : toL (plat2 (plat0 (l.map (·.text)))) = toL (wholeOf l) := by
  rw [toL_plat2, p_plat0 h, map_joinL, toL_whole]
  have : ([45] : List Nat).map mp = [45] := by decide +kernel
  rw [this, dl_join (by decide), List.map_map, List.map_map]
  congr 1
  exact List.map_congr_left fun i hi => ((h.g i (List.mem_filter.mp hi).1).seen).symm
theorem p_eq : platOf (l.map (·.text)) = toldOf l := by
  refine toL_inj ?_
  unfold platOf tidy
  rw [toL_ofL, p_plat2 h, (tidyL _).2, toL_told]
theorem p_tk : tk (toL (toldOf l)) = (l.filter (·.flag)).flatMap fun i => tk (toL i.seen) := by
  have hs : isSep 45 = true := by decide +kernel
  have h1 : tk (toL (toldOf l)) = (wl (toL (wholeOf l))).flatMap tk := by
    rw [toL_told]
    have : tk (leadL (toL (wholeOf l)) ++ joinL [45] (wl (toL (wholeOf l)))) = tk (joinL [45] (wl (toL (wholeOf l)))) := by
      unfold leadL
      split
      · exact tk_sep hs _
      · rfl
    rw [this, tk_join hs]
  have h2 : (wl (toL (wholeOf l))).flatMap tk = tk (toL (wholeOf l)) := by
    have e : tk (toL (wholeOf l)) = (splL 45 (toL (wholeOf l))).flatMap tk := by
      conv => lhs; rw [← join_splL 45 (toL (wholeOf l))]
      exact tk_join hs _
    rw [e]
    unfold wl
    generalize splL 45 (toL (wholeOf l)) = ps
    induction ps with
    | nil => rfl
    | cons p ps ih =>
      rw [List.filter_cons]
      cases p with
      | nil => rw [if_neg (by decide), ih]; rfl
      | cons c p => rw [if_pos (by rfl), List.flatMap_cons, List.flatMap_cons, ih]
  rw [h1, h2, toL_whole, tk_join hs, List.flatMap_map]
theorem p_ranks : readOf l = (tk (toL (toldOf l))).flatMap fun t => rk (ofL t) := by
  rw [p_tk h, List.flatMap_assoc]
  unfold readOf
  have hg := h.g
  clear h
  induction l with
  | nil => rfl
  | cons a l ih =>
    have ha := hg a List.mem_cons_self
    rw [List.flatMap_cons, ih fun i hi => hg i (List.mem_cons_of_mem _ hi), List.filter_cons]
    cases hf : a.flag with
    | true => rw [if_pos rfl, List.flatMap_cons, ha.rk]
    | false => rw [if_neg (by decide), (ha.unflag hf).2]; rfl
theorem p_wlen : (toL (wholeOf l)).length + 1 ≤ wts l := by
  rw [toL_whole]
  exact join_bound _ _ l (fun i hi => by rw [toL_length]; exact (h.g i hi).len) h.n
theorem p_tlen : (toL (toldOf l)).length ≤ (toL (wholeOf l)).length := by
  rw [toL_told, ← (tidyL _).2]
  exact Nat.le_trans (endL_len _) (colP_len _ _)
theorem p_chr : ∀ c ∈ toL (toldOf l), wc c = true := by
  have hw : ∀ c ∈ toL (wholeOf l), wc c = true := by
    intro c hc
    rw [toL_whole] at hc
    rcases mem_joinL hc with rfl | ⟨p, hp, hc⟩
    · decide +kernel
    · obtain ⟨i, hi, rfl⟩ := List.mem_map.mp hp
      exact (h.g i (List.mem_filter.mp hi).1).chr c hc
  intro c hc
  rw [toL_told] at hc
  rcases List.mem_append.mp hc with hc | hc
  · unfold leadL at hc
    split at hc
    · have : c = 45 := by simpa using hc
      subst this
      decide +kernel
    · simp at hc
  · rcases mem_joinL hc with rfl | ⟨p, hp, hc⟩
    · decide +kernel
    · exact hw c (splL_sub 45 _ p (List.mem_filter.mp hp).1 c hc)
theorem p_nu : ∀ p ∈ splL 45 (toL (toldOf l)), dl p = p := by
  have hw : ∀ p ∈ splL 45 (toL (wholeOf l)), dl p = p := by
    rw [toL_whole]
    intro p hp
    by_cases hn : ((l.filter (·.flag)).map fun i => toL i.seen) = []
    · rw [hn] at hp
      have : p = [] := by simpa [joinL, splL] using hp
      subst this
      rfl
    · rw [splL_joins 45 _ hn] at hp
      obtain ⟨q, hq, hp⟩ := List.mem_flatMap.mp hp
      obtain ⟨i, hi, rfl⟩ := List.mem_map.mp hq
      exact (h.g i (List.mem_filter.mp hi).1).nu p hp
  have hwl : ∀ p ∈ wl (toL (wholeOf l)), dl p = p := fun p hp => hw p (List.mem_filter.mp hp).1
  have hj : ∀ p ∈ splL 45 (joinL [45] (wl (toL (wholeOf l)))), dl p = p := by
    intro p hp
    by_cases hn : wl (toL (wholeOf l)) = []
    · rw [hn] at hp
      have : p = [] := by simpa [joinL, splL] using hp
      subst this
      rfl
    · rw [splL_join 45 _ hn fun q hq => splL_free2 45 _ q (List.mem_filter.mp hq).1] at hp
      exact hwl p hp
  intro p hp
  rw [toL_told] at hp
  unfold leadL at hp
  split at hp
  · have e : splL 45 ([45] ++ joinL [45] (wl (toL (wholeOf l)))) = [] :: splL 45 (joinL [45] (wl (toL (wholeOf l)))) := by
      have e0 : ∀ X : List Nat, splL 45 (45 :: X) = [] :: splL 45 X := fun X => by rw [splL, if_pos rfl]
      exact e0 _
    rw [e] at hp
    rcases List.mem_cons.mp hp with rfl | hp
    · rfl
    · exact hj p hp
  · exact hj p hp
theorem p_tok : ∀ t ∈ tk (toL (toldOf l)), ofL t ∈ tokL := by
  rw [p_tk h]
  intro t ht
  obtain ⟨i, hi, ht⟩ := List.mem_flatMap.mp ht
  exact (h.g i (List.mem_filter.mp hi).1).tok t ht
theorem good_knot : Good (knotOf l) where
  flag := by
    show (toldOf l != "") = ((platOf (l.map (·.text))).length != 0)
    rw [p_eq h, Bool.eq_iff_iff, bne_iff_ne, bne_iff_ne]
    constructor
    · intro hne h0
      exact hne (toL_inj (by
        have : toL (toldOf l) = [] := List.length_eq_zero_iff.mp (by rw [toL_length]; exact h0)
        rw [this]; decide +kernel))
    · intro h0 he
      exact h0 (by rw [he]; decide +kernel)
  seen := by
    show toL (toldOf l) = dl ((stripL (toL (platOf (l.map (·.text))))).map mp)
    rw [p_eq h, stripL_id fun c hc => (wc_facts (p_chr h c hc)).2, map_mp_id (p_chr h)]
    conv => rhs; rw [← join_splL 45 (toL (toldOf l))]
    rw [dl_join (by decide)]
    have : (splL 45 (toL (toldOf l))).map dl = splL 45 (toL (toldOf l)) := by
      conv => rhs; rw [← List.map_id (splL 45 (toL (toldOf l)))]
      exact List.map_congr_left fun p hp => p_nu h p hp
    rw [this, join_splL]
  chr := p_chr h
  nu := p_nu h
  tok := p_tok h
  rk := p_ranks h
theorem wt_knot : wt (knotOf l) ≤ wts l := by
  have h1 := p_wlen h
  have h2 := p_tlen h
  have e : wt (knotOf l) = (toL (toldOf l)).length + 1 := by
    show (platOf (l.map (·.text))).length + 1 = _
    rw [p_eq h, toL_length]
  omega
theorem joinOk_2000 (ts : List Str) (hl : ∀ t ∈ ts, t.length ≤ 2000) (hn : ts.length ≤ 2001) : JoinOk "-" ts = true := by
  unfold JoinOk
  rw [StrLaws.joinFits (B := 2000) hl ?_]; rfl
  have : ("-" : Str).length = 1 := by decide +kernel
  rw [this]
  omega
theorem knot_ok : KnotOk l := by
  have hw := h.w
  have h1 := p_wlen h
  have h2 := p_tlen h
  have hn := wts_len l
  have hit : ∀ i ∈ l, i.text.length ≤ 2000 := fun i hi => by have := wts_mem hi; unfold wt at this; omega
  have hfl : (l.filter (·.flag)).length ≤ l.length := List.length_filter_le _ _
  have hsz : (platOf (l.map (·.text))).cps.size = (toL (toldOf l)).length := by rw [p_eq h, toL_length]; rfl
  refine {
    plat := ⟨fun x hx => ?_, by rw [List.length_map]; omega, joinOk_2000 h _ (fun t ht => ?_) ?_, ?_⟩
    n := by have := h.n2; omega
    jo := joinOk_2000 h _ (fun t ht => ?_) (by rw [List.length_map]; omega)
    wl := by rw [← toL_length]; omega
    jw := joinOk_2000 h _ (fun t ht => ?_) ?_
    tl := ?_
    rl := ?_
    eq := p_eq h
    sz := by rw [hsz]; omega
    pl := ?_
    tok := by rw [p_eq h]; exact pieces_tok _ (p_tok h)
    cv := by rw [p_eq h, pieces_rk]; exact (p_ranks h).symm
    fl := fun d hd => ?_ }
  · obtain ⟨i, hi, rfl⟩ := List.mem_map.mp hx
    have := hit i hi
    omega
  · obtain ⟨y, hy, rfl⟩ := List.mem_map.mp ht
    obtain ⟨i, hi, rfl⟩ := List.mem_map.mp (List.mem_filter.mp hy).1
    exact Nat.le_trans (len_strip _) (hit i hi)
  · rw [List.length_map]
    have := List.length_filter_le (fun x : Str => x.length != 0) (l.map (·.text))
    rw [List.length_map] at this
    omega
  · rw [← toL_length, p_plat0 h]
    have := join_bound (fun i => stripL (toL i.text)) (·.flag) l (fun i hi => by have := stripL_len (toL i.text); rwa [toL_length] at this) h.n
    omega
  · obtain ⟨i, hi, rfl⟩ := List.mem_map.mp ht
    have := (h.g i (List.mem_filter.mp hi).1).len
    have := hit i (List.mem_filter.mp hi).1
    omega
  · have : toL t ∈ wl (toL (wholeOf l)) := by rw [← toL_words]; exact List.mem_map.mpr ⟨t, ht, rfl⟩
    have := splL_len 45 _ _ (List.mem_filter.mp this).1
    rw [toL_length] at this
    omega
  · have e : (wordsOf (wholeOf l)).length = (wl (toL (wholeOf l))).length := by rw [← toL_words, List.length_map]
    have e2 : (wl (toL (wholeOf l))).length ≤ (splL 45 (toL (wholeOf l))).length := List.length_filter_le _ _
    have e3 : ∀ x : List Nat, (splL 45 x).length ≤ x.length + 1 := by
      intro x
      induction x with
      | nil => exact Nat.le_refl _
      | cons a r ih =>
        rw [splL]
        simp only [List.length_cons]
        split
        · simp only [List.length_cons]; omega
        · split
          · simp
          · next hs => rw [hs] at ih; simp only [List.length_cons] at ih ⊢; omega
    have := e3 (toL (wholeOf l))
    omega
  · have : (leadOf (wholeOf l)).length + (Txt.join "-" (wordsOf (wholeOf l))).length = (toL (toldOf l)).length := by
      rw [← toL_length, ← toL_length, ← List.length_append, ← toL_append]
      rfl
    omega
  · rw [p_ranks h]
    have h3 := flat_len (α := List Nat) (fun t => Mine.rk (ofL t)) (fun t => rk_len _) (tk (toL (toldOf l)))
    have h4 := tk_len (toL (toldOf l))
    omega
  · have h5 : (pieces (platOf (l.map (·.text)))).length ≤ 2 * (platOf (l.map (·.text))).cps.size + 1 := by
      have hb : (platOf (l.map (·.text))).cps.size ≤ 1000000 := by rw [hsz]; omega
      generalize platOf (l.map (·.text)) = x at hb
      unfold pieces
      have := plan_len x.cps x.cps.size (2 * x.cps.size + 3) 0 hb (Nat.zero_le _)
      simp only [List.length_append, List.length_map, List.length_cons, List.length_nil]
      omega
    rw [hsz] at h5
    omega
  · unfold readOf at hd
    obtain ⟨i, hi, hd⟩ := List.mem_flatMap.mp hd
    exact (h.g i hi).fl d hd
end
def RowG (l : List Item) : Prop := Part1 l
theorem Part1.cut {l : List Item} (h : Part1 l) (i k : Nat) (hi : i < l.length) : Part1 ((l.drop i).take (k + 1)) := by
  refine ⟨fun x hx => h.g x (List.mem_of_mem_drop (List.mem_of_mem_take hx)), fun e => ?_, ?_, ?_⟩
  · have := congrArg List.length e
    rw [List.length_take, List.length_drop] at this
    simp at this
    omega
  · have := h.n2
    rw [List.length_take, List.length_drop]
    omega
  · have h1 : wts l = wts (l.take i) + (wts ((l.drop i).take (k + 1)) + wts ((l.drop i).drop (k + 1))) := by
      rw [← wts_app, List.take_append_drop, ← wts_app, List.take_append_drop]
    have := h.w
    omega
theorem row_ok : RowR RowG where
  len l h := ⟨List.length_pos_iff.mpr h.n, h.n2⟩
  knot l h i k hi := knot_ok (Part1.cut h i k hi)
  step l h i k hi := by
    have hc := Part1.cut h i k hi
    have hl : 1 ≤ ((l.drop i).take (k + 1)).length := List.length_pos_iff.mpr hc.n
    have hd : l.drop (i + ((l.drop i).take (k + 1)).length) = (l.drop i).drop (k + 1) := by
      rw [← List.drop_drop]
      rw [List.length_take]
      rcases Nat.le_total (k + 1) (l.drop i).length with h1 | h1
      · rw [Nat.min_eq_left h1]
      · rw [Nat.min_eq_right h1, List.drop_length, List.drop_of_length_le h1]
    have h1 : wts l = wts (l.take i) + (wts ((l.drop i).take (k + 1)) + wts ((l.drop i).drop (k + 1))) := by
      rw [← wts_app, List.take_append_drop, ← wts_app, List.take_append_drop]
    have hk := wt_knot hc
    refine ⟨fun x hx => ?_, by simp, ?_, ?_⟩
    · rcases List.mem_append.mp hx with hx | hx
      · rcases List.mem_append.mp hx with hx | hx
        · exact h.g x (List.mem_of_mem_take hx)
        · rw [List.mem_singleton] at hx
          subst hx
          exact good_knot hc
      · exact h.g x (List.mem_of_mem_drop hx)
    · have := h.n2
      simp only [List.length_append, List.length_cons, List.length_nil, List.length_drop]
      have : (l.take i).length ≤ i := by rw [List.length_take]; omega
      omega
    · rw [hd, wts_app, wts_app]
      have e : wts [knotOf ((l.drop i).take (k + 1))] = wt (knotOf ((l.drop i).take (k + 1))) := by
        show wt _ + 0 = _
        omega
      rw [e]
      have := h.w
      omega
end Mine
end
section
open PySem PySem.W PyProof.Rows PySem.Calls
open PySem.Builtin PySem.Builtin.Str PySem.StrLaws
set_option Elab.async false
set_option maxRecDepth 100000
set_option linter.unusedVariables false
namespace Mine
theorem repS_sub (y : List Nat) : ∀ (l : List Nat) (s c : Nat), c ∈ repS y [] s l → c ∈ l
  | [], s, c, h => by cases s <;> simp [repS] at h
  | a :: r, s + 1, c, h => List.mem_cons_of_mem _ (repS_sub y r s c (by rwa [repS] at h))
  | a :: r, 0, c, h => by
    rw [repS] at h
    split at h
    · exact List.mem_cons_of_mem _ (repS_sub y r _ c (by simpa using h))
    · rcases List.mem_cons.mp h with rfl | h
      · exact List.mem_cons_self
      · exact List.mem_cons_of_mem _ (repS_sub y r 0 c h)
theorem map_fix {f : List Nat → List Nat} : ∀ {l : List (List Nat)}, l.map f = l → ∀ p ∈ l, f p = p
  | [], _, p, h => by simp at h
  | a :: l, e, p, h => by
    simp only [List.map_cons, List.cons.injEq] at e
    rcases List.mem_cons.mp h with rfl | h
    · exact e.1
    · exact map_fix e.2 p h
theorem nu_of_dl {l : List Nat} (h : dl l = l) : ∀ p ∈ splL 45 l, dl p = p := by
  refine map_fix (l := splL 45 l) ?_
  have h1 : dl l = joinL [45] ((splL 45 l).map dl) := by
    conv => lhs; rw [← join_splL 45 l]
    exact dl_join (by decide) _
  rw [h] at h1
  have h2 := splL_join 45 ((splL 45 l).map dl) (by simpa using splL_ne 45 l) (fun p hp => by
    obtain ⟨q, hq, rfl⟩ := List.mem_map.mp hp
    exact fun hc => splL_free2 45 l q hq (repS_sub unkL q 0 45 hc))
  rw [← h1] at h2
  exact h2.symm
theorem mem_joinS {c : Nat} {s : List Nat} : ∀ {ps : List (List Nat)}, c ∈ joinL s ps → c ∈ s ∨ ∃ p ∈ ps, c ∈ p
  | [], h => by simp [joinL] at h
  | [p], h => .inr ⟨p, by simp, h⟩
  | p :: q :: r, h => by
    have h' : c ∈ p ++ s ++ joinL s (q :: r) := h
    rw [List.mem_append, List.mem_append] at h'
    rcases h' with (h' | h') | h'
    · exact .inr ⟨p, by simp, h'⟩
    · exact .inl h'
    · rcases mem_joinS h' with e | ⟨t, ht, e⟩
      · exact .inl e
      · exact .inr ⟨t, List.mem_cons_of_mem _ ht, e⟩
theorem ne_len (x : Str) : (x != "") = (x.length != 0) := by
  rw [Bool.eq_iff_iff, bne_iff_ne, bne_iff_ne]
  constructor
  · intro hne h0
    exact hne (toL_inj (by
      have : toL x = [] := List.length_eq_zero_iff.mp (by rw [toL_length]; exact h0)
      rw [this]; decide +kernel))
  · intro h0 he
    exact h0 (by rw [he]; decide +kernel)
structure PG (p : Part) : Prop where
  a : dl (toL p.1) = toL (seenOf p)
  b : ∀ c ∈ toL p.1, wc c = true
  c : ∀ c ∈ toL (seenOf p), wc c = true
  d : dl (toL (seenOf p)) = toL (seenOf p)
  e : ∀ t ∈ tk (toL (seenOf p)), ofL t ∈ tokL
  f : rank1 p = (tk (toL (seenOf p))).flatMap fun t => rk (ofL t)
theorem pg {p : Part} (h : p ∈ allParts) : PG p := by
  have h1 : ∀ p ∈ allParts, dl (toL p.1) = toL (seenOf p) := by decide +kernel
  have h2 : ∀ p ∈ allParts, ∀ c ∈ toL p.1, wc c = true := by decide +kernel
  have h3 : ∀ p ∈ allParts, ∀ c ∈ toL (seenOf p), wc c = true := by decide +kernel
  have h4 : ∀ p ∈ allParts, dl (toL (seenOf p)) = toL (seenOf p) := by decide +kernel
  have h5 : ∀ p ∈ allParts, ∀ t ∈ tk (toL (seenOf p)), ofL t ∈ tokL := by decide +kernel
  refine ⟨h1 p h, h2 p h, h3 p h, h4 p h, h5 p h, ?_⟩
  simp only [allParts, parts8, List.mem_cons, List.mem_append, List.not_mem_nil, or_false] at h
  rcases h with (rfl | rfl | rfl | rfl | rfl | rfl | rfl | rfl) | rfl | rfl | rfl | rfl <;> kernel_rfl
theorem dot_l : toL "." = [46] := by decide +kernel
theorem toL_wholeP (ps : List Part) : toL (whole ps) = joinL [46] (ps.map fun p => toL p.1) := by
  unfold whole
  rw [toL_join, dot_l, List.map_map]
  rfl
theorem toL_seenP (ps : List Part) : toL (seenL ps) = joinL [46] (ps.map fun p => toL (seenOf p)) := by
  unfold seenL
  rw [toL_join, dot_l, List.map_map]
  rfl
theorem sep46 : isSep 46 = true := by decide +kernel
theorem good_parts (ps : List Part) (h : ∀ p ∈ ps, p ∈ allParts) : Good ⟨whole ps, whole ps != "", seenL ps, ranksOf ps⟩ := by
  have hw : ∀ c ∈ toL (whole ps), wc c = true := fun c hc => by
    rw [toL_wholeP] at hc
    rcases mem_joinS hc with hc | ⟨q, hq, hc⟩
    · have : c = 46 := by simpa using hc
      subst this
      decide +kernel
    · obtain ⟨p, hp, rfl⟩ := List.mem_map.mp hq
      exact (pg (h p hp)).b c hc
  refine ⟨ne_len _, ?_, fun c hc => ?_, nu_of_dl ?_, fun t ht => ?_, ?_⟩
  · show toL (seenL ps) = dl ((stripL (toL (whole ps))).map mp)
    rw [stripL_id fun c hc => (wc_facts (hw c hc)).2, map_mp_id hw, toL_wholeP, dl_join (by decide), toL_seenP, List.map_map]
    congr 1
    exact List.map_congr_left fun p hp => ((pg (h p hp)).a).symm
  · have hc' : c ∈ toL (seenL ps) := hc
    rw [toL_seenP] at hc'
    rcases mem_joinS hc' with hc' | ⟨q, hq, hc'⟩
    · have : c = 46 := by simpa using hc'
      subst this
      decide +kernel
    · obtain ⟨p, hp, rfl⟩ := List.mem_map.mp hq
      exact (pg (h p hp)).c c hc'
  · show dl (toL (seenL ps)) = toL (seenL ps)
    rw [toL_seenP, dl_join (by decide), List.map_map]
    congr 1
    exact List.map_congr_left fun p hp => (pg (h p hp)).d
  · have ht' : t ∈ tk (toL (seenL ps)) := ht
    rw [toL_seenP, tk_join sep46, List.flatMap_map] at ht'
    obtain ⟨p, hp, ht'⟩ := List.mem_flatMap.mp ht'
    exact (pg (h p hp)).e t ht'
  · show ranksOf ps = (tk (toL (seenL ps))).flatMap _
    rw [toL_seenP, tk_join sep46, List.flatMap_map, List.flatMap_assoc]
    unfold ranksOf
    have h' := h
    clear hw h
    induction ps with
    | nil => rfl
    | cons p ps ih =>
      rw [List.flatMap_cons, List.flatMap_cons, ih fun q hq => h' q (List.mem_cons_of_mem _ hq), (pg (h' p List.mem_cons_self)).f]
/-! the alias -/
def gt4F (k : Str) (a : Part) : Bool := k == "SunOS" && decide ((Str.ofString "4").cps.toList < (Txt.slice a.1 none (some 1)).cps.toList)
def wordF (k : Str) (a : Part) : Str := if gt4F k a then "Solaris" else getD2 [("SunOS", "SunOS"), ("Linux", "Linux"), ("unknown", "")] k "Windows"
def old2F (k : Str) (a : Part) (o2 : List Part) : List Part := if gt4F k a then match a.2 with
    | some v => (Str.ofString (toString (v - 3)), some (v - 3)) :: o2
    | none => a :: o2 else a :: o2
def words5 : List Str := ["SunOS", "Solaris", "Windows", "Linux", ""]
def chk (k : Str) (a : Part) (o2 : List Part) : Bool :=
  (aliasOf (ub k) (whole (a :: o2)) a.1 (o2.map (·.1))).1 == wordF k a && (aliasOf (ub k) (whole (a :: o2)) a.1 (o2.map (·.1))).2 == whole (old2F k a o2) && words5.contains (wordF k a)
theorem chk_all : ∀ k ∈ kinds, ∀ a ∈ parts8, ∀ o2 ∈ ([] :: parts8.map fun p => [p]), chk k a o2 = true := by decide +kernel
theorem o2_mem {o2 : List Part} (h : o2.length ≤ 1 ∧ ∀ p ∈ o2, p ∈ parts8) : o2 ∈ ([] :: parts8.map fun p => [p]) := by
  match o2, h with
  | [], _ => exact List.mem_cons_self
  | [p], h => exact List.mem_cons_of_mem _ (List.mem_map.mpr ⟨p, h.2 p (by simp), rfl⟩)
  | _ :: _ :: _, h => exact absurd h.1 (by simp)
theorem good_word (x : Str) (h : x ∈ words5) : Good ⟨x, x != "", x, if x.length != 0 then [.int 0, .str x] else []⟩ := by
  have h1 : ∀ x ∈ words5, toL x = dl ((stripL (toL x)).map mp) := by decide +kernel
  have h2 : ∀ x ∈ words5, ∀ c ∈ toL x, wc c = true := by decide +kernel
  have h3 : ∀ x ∈ words5, ∀ p ∈ splL 45 (toL x), dl p = p := by decide +kernel
  have h4 : ∀ x ∈ words5, ∀ t ∈ tk (toL x), ofL t ∈ tokL := by decide +kernel
  refine ⟨ne_len x, h1 x h, h2 x h, h3 x h, h4 x h, ?_⟩
  simp only [words5, List.mem_cons, List.not_mem_nil, or_false] at h
  rcases h with rfl | rfl | rfl | rfl | rfl <;> kernel_rfl
/-! the remark -/
def effE (e : Str) : Str := if e == (" " : Str) then ("" : Str) else Mach.sg e
structure EG (e : Str) : Prop where
  c : toL (effE e) = [] ∨ ∃ c, toL (effE e) = [c] ∧ c ∉ unkL ∧ isSep c = true ∧ wc c = true
  t : toL e = [32] ∧ toL (effE e) = [] ∨ ((∀ c ∈ toL e, Unicode.isSpace c = false) ∧ (toL e).map mp = toL (effE e))
  l : e.length ≤ 1
def egB (e : Str) : Bool := (match toL (effE e) with
    | [] => true
    | [c] => !unkL.contains c && isSep c && wc c
    | _ => false) && ((toL e == [32] && toL (effE e) == []) || ((toL e).all (fun c => !Unicode.isSpace c) && (toL e).map mp == toL (effE e))) && decide (e.length ≤ 1)
theorem eg {e : Str} (h : e ∈ ends) : EG e := by
  have h1 : ∀ e ∈ ends, egB e = true := by decide +kernel
  have h2 := h1 e h
  unfold egB at h2
  rw [Bool.and_eq_true, Bool.and_eq_true] at h2
  obtain ⟨⟨h3, h4⟩, h5⟩ := h2
  refine ⟨?_, ?_, by simpa using h5⟩
  · revert h3
    cases toL (effE e) with
    | nil => exact fun _ => .inl rfl
    | cons c r =>
      cases r with
      | cons => intro h; cases h
      | nil =>
        intro h
        refine .inr ⟨c, rfl, ?_⟩
        simpa [and_assoc] using h
  · rw [Bool.or_eq_true] at h4
    rcases h4 with h4 | h4
    · left; simpa using h4
    · right
      rw [Bool.and_eq_true, List.all_eq_true, beq_iff_eq] at h4
      exact ⟨fun c hc => by simpa using h4.1 c hc, h4.2⟩
structure MG (e : Str) : Prop where
  c : ∃ a c, toL e = [a] ∧ mp a = c ∧ toL (Mach.sg e) = [c] ∧ c ∉ unkL ∧ isSep c = true ∧ wc c = true
theorem mg {e : Str} (h : e ∈ ends.drop 1) : MG e := by
  have h1 : ∀ e ∈ ends.drop 1, (match toL e, toL (Mach.sg e) with
    | [a], [c] => mp a == c && !unkL.contains c && isSep c && wc c
    | _, _ => false) = true := by decide +kernel
  have h2 := h1 e h
  revert h2
  cases h3 : toL e with
  | nil => intro h; cases h
  | cons a r =>
    cases r with
    | cons => intro h; simp at h
    | nil =>
      cases h4 : toL (Mach.sg e) with
      | nil => intro h; cases h
      | cons c r =>
        cases r with
        | cons => intro h; simp at h
        | nil =>
          intro h
          refine ⟨a, c, h3, ?_⟩
          simpa [and_assoc, h4] using h
theorem head_app {P Q : List Nat} (h : P ≠ []) : (P ++ Q).head? = P.head? := by
  cases P with
  | nil => exact absurd rfl h
  | cons => rfl
theorem last_app {P Q : List Nat} (h : Q ≠ []) : (P ++ Q).getLast? = Q.getLast? := by
  rw [← List.head?_reverse, List.reverse_append, head_app (by simpa using h), List.head?_reverse]
theorem strip_remark {A B F M S : List Nat} {A' B' : List Nat} (hA : A = [32] ∧ A' = [] ∨ (∀ c ∈ A, Unicode.isSpace c = false) ∧ A' = A) (hB : B = [32] ∧ B' = [] ∨ (∀ c ∈ B, Unicode.isSpace c = false) ∧ B' = B)
    (hF : ∀ c ∈ F, Unicode.isSpace c = false) (hS : ∀ c ∈ S, Unicode.isSpace c = false) (hF0 : F ≠ []) (hS0 : S ≠ []) : stripL (A ++ F ++ M ++ S ++ B) = (A' ++ F) ++ M ++ (S ++ B') := by
  have hA' : ∀ c ∈ A', Unicode.isSpace c = false := by
    rcases hA with ⟨_, rfl⟩ | ⟨h, rfl⟩
    · simp
    · exact h
  have hB' : ∀ c ∈ B', Unicode.isSpace c = false := by
    rcases hB with ⟨_, rfl⟩ | ⟨h, rfl⟩
    · simp
    · exact h
  have hP0 : A' ++ F ≠ [] := by simp [hF0]
  have hQ0 : S ++ B' ≠ [] := by simp [hS0]
  generalize hX : (A' ++ F) ++ M ++ (S ++ B') = X
  have h1 : ∀ c, X.head? = some c → Unicode.isSpace c = false := by
    intro c hc
    rw [← hX, List.append_assoc, head_app hP0] at hc
    rcases List.mem_append.mp (List.mem_of_head? hc) with h | h
    · exact hA' c h
    · exact hF c h
  have h2 : ∀ c, X.getLast? = some c → Unicode.isSpace c = false := by
    intro c hc
    rw [← hX, last_app hQ0] at hc
    rcases List.mem_append.mp (List.mem_of_getLast? hc) with h | h
    · exact hS c h
    · exact hB' c h
  have h0 : X ≠ [] := by rw [← hX]; simp [hF0]
  have hc := stripL_core h1 h2
  have back : stripL (X ++ [32]) = X := by rw [stripL_back h1 h0, hc]
  rcases hA with ⟨rfl, rfl⟩ | ⟨_, rfl⟩ <;> rcases hB with ⟨rfl, rfl⟩ | ⟨_, rfl⟩
  · have e : [32] ++ F ++ M ++ S ++ [32] = 32 :: (X ++ [32]) := by rw [← hX]; simp
    rw [e, stripL_front, back]
  · have e : [32] ++ F ++ M ++ S ++ B' = 32 :: X := by rw [← hX]; simp
    rw [e, stripL_front, hc]
  · have e : A' ++ F ++ M ++ S ++ [32] = X ++ [32] := by rw [← hX]; simp
    rw [e, back]
  · have e : A' ++ F ++ M ++ S ++ B' = X := by rw [← hX]; simp
    rw [e, hc]
theorem seenL_one (p : Part) : toL (seenL [p]) = toL (seenOf p) := by rw [toL_seenP]; rfl
theorem good_remark (m : Mach) (h : MachOk m) : Good ⟨m.remark, true, m.seen, ranksOf [m.first, m.second]⟩ := by
  have ga := eg h.ahead
  have gb := eg h.behind
  obtain ⟨ma, mc, e1, e2, e3, e4, e5, e6⟩ := (mg h.middle).c
  have gf := pg (mem8 h.first)
  have gs := pg (mem8 h.second)
  have n8 : ∀ p ∈ parts8, toL p.1 ≠ [] := by decide +kernel
  have hF0 := n8 _ h.first
  have hS0 := n8 _ h.second
  have hsp : ∀ {p : Part}, PG p → ∀ c ∈ toL p.1, Unicode.isSpace c = false := fun g c hc => (wc_facts (g.b c hc)).2
  have hr : toL m.remark = toL m.ahead ++ toL m.first.1 ++ toL m.middle ++ toL m.second.1 ++ toL m.behind := by
    unfold Mach.remark
    simp only [toL_append]
  have hs : toL m.seen = (toL (effE m.ahead) ++ toL (seenOf m.first)) ++ mc :: (toL (seenOf m.second) ++ toL (effE m.behind)) := by
    unfold Mach.seen
    simp only [toL_append, seenL_one, e3]
    unfold effE
    simp
  obtain ⟨A', hA1, hA2⟩ : ∃ A', (toL m.ahead = [32] ∧ A' = [] ∨ (∀ c ∈ toL m.ahead, Unicode.isSpace c = false) ∧ A' = toL m.ahead) ∧ A'.map mp = toL (effE m.ahead) := by
    rcases ga.t with ⟨h1, h2⟩ | ⟨h1, h2⟩
    · exact ⟨[], .inl ⟨h1, rfl⟩, h2.symm⟩
    · exact ⟨_, .inr ⟨h1, rfl⟩, h2⟩
  obtain ⟨B', hB1, hB2⟩ : ∃ B', (toL m.behind = [32] ∧ B' = [] ∨ (∀ c ∈ toL m.behind, Unicode.isSpace c = false) ∧ B' = toL m.behind) ∧ B'.map mp = toL (effE m.behind) := by
    rcases gb.t with ⟨h1, h2⟩ | ⟨h1, h2⟩
    · exact ⟨[], .inl ⟨h1, rfl⟩, h2.symm⟩
    · exact ⟨_, .inr ⟨h1, rfl⟩, h2⟩
  have dA : ∀ X, dl (toL (effE m.ahead) ++ X) = toL (effE m.ahead) ++ dl X := fun X => by
    rcases ga.c with e | ⟨c, e, u, _, _⟩
    · rw [e]; rfl
    · rw [e]; exact dl_cons u X
  have dB : ∀ X, dl (X ++ toL (effE m.behind)) = dl X ++ toL (effE m.behind) := fun X => by
    rcases gb.c with e | ⟨c, e, u, _, _⟩
    · rw [e, List.append_nil, List.append_nil]
    · rw [e]; exact dl_snoc u X
  have tA : ∀ X, tk (toL (effE m.ahead) ++ X) = tk X := fun X => by
    rcases ga.c with e | ⟨c, e, _, u, _⟩
    · rw [e]; rfl
    · rw [e]; exact tk_sep u X
  have tB : ∀ X, tk (X ++ toL (effE m.behind)) = tk X := fun X => by
    rcases gb.c with e | ⟨c, e, _, u, _⟩
    · rw [e, List.append_nil]
    · rw [e, tk_cut u]; exact List.append_nil _
  have ht : tk (toL m.seen) = tk (toL (seenOf m.first)) ++ tk (toL (seenOf m.second)) := by rw [hs, tk_cut e5, tA, tB]
  refine ⟨?_, ?_, ?_, nu_of_dl ?_, ?_, ?_⟩
  · show true = (m.remark.length != 0)
    have : 1 ≤ (toL m.remark).length := by
      rw [hr]
      have := List.length_pos_iff.mpr hF0
      simp only [List.length_append]
      omega
    rw [toL_length] at this
    exact (bne_iff_ne.mpr (by omega)).symm
  · show toL m.seen = dl ((stripL (toL m.remark)).map mp)
    rw [hr, strip_remark hA1 hB1 (hsp gf) (hsp gs) hF0 hS0]
    simp only [List.map_append]
    rw [hA2, hB2, map_mp_id gf.b, map_mp_id gs.b, e1, List.map_singleton, e2, List.append_assoc (_ ++ _) [mc], List.singleton_append, dl_cut e4, dA, dB, gf.a, gs.a, hs]
  · show ∀ c ∈ toL m.seen, wc c = true
    intro c hc
    rw [hs] at hc
    have wE : ∀ {e : Str}, EG e → ∀ c ∈ toL (effE e), wc c = true := fun g c hc => by
      rcases g.c with e | ⟨x, e, _, _, u⟩
      · rw [e] at hc; simp at hc
      · rw [e] at hc
        have : c = x := by simpa using hc
        subst this
        exact u
    rcases List.mem_append.mp hc with hc | hc
    · rcases List.mem_append.mp hc with hc | hc
      · exact wE ga c hc
      · exact gf.c c hc
    · rcases List.mem_cons.mp hc with rfl | hc
      · exact e6
      · rcases List.mem_append.mp hc with hc | hc
        · exact gs.c c hc
        · exact wE gb c hc
  · show dl (toL m.seen) = toL m.seen
    rw [hs, dl_cut e4, dA, dB, gf.d, gs.d]
  · show ∀ t ∈ tk (toL m.seen), ofL t ∈ tokL
    intro t h'
    rw [ht] at h'
    rcases List.mem_append.mp h' with h' | h'
    · exact gf.e t h'
    · exact gs.e t h'
  · show ranksOf [m.first, m.second] = (tk (toL m.seen)).flatMap _
    rw [ht, List.flatMap_append, ← gf.f, ← gs.f]
    unfold ranksOf
    simp
/-! a machine's items -/
theorem good_items (m : Mach) (h : MachOk m) : (∀ i ∈ m.items, Good i) ∧ wts m.items ≤ 200 := by
  have hc := chk_all m.kind h.kind m.o1 h.o1 m.o2 (o2_mem h.o2)
  unfold chk at hc
  rw [Bool.and_eq_true, Bool.and_eq_true, beq_iff_eq, beq_iff_eq] at hc
  obtain ⟨⟨h1, h2⟩, h3⟩ := hc
  have g1 : m.gave.1 = m.word := h1
  have g2 : m.gave.2 = whole m.old2 := h2
  have g3 : m.word ∈ words5 := by
    have : words5.contains m.word = true := h3
    simpa using this
  have hn := h.norm_eq
  unfold Mach.items
  rw [g1, g2, hn]
  constructor
  · intro i hi
    simp only [List.mem_cons, List.not_mem_nil, or_false] at hi
    rcases hi with rfl | rfl | rfl | rfl
    · exact good_word _ g3
    · exact good_parts _ h.old2.m
    · exact good_parts _ h.new3.m
    · exact good_remark m h
  · have l1 : ∀ x ∈ words5, x.length ≤ 7 := by decide +kernel
    have := l1 _ g3
    have l2 := h.old2.len
    have l3 := h.new3.len
    have l4 := (pf (mem8 h.first)).len
    have l5 := (pf (mem8 h.second)).len
    have l6 := (eg h.ahead).l
    have l7 := (eg h.behind).l
    have l8 := (eg (List.mem_of_mem_drop h.middle)).l
    have l9 : m.remark.length ≤ 17 := by
      unfold Mach.remark
      simp only [Str.length_append]
      omega
    show wt _ + (wt _ + (wt _ + (wt _ + 0))) ≤ 200
    unfold wt
    dsimp only
    omega
theorem row_good (s : List Int) : ∀ i, (∀ x ∈ rowAt s i, Good x) ∧ wts (rowAt s i) ≤ 200 * i
  | 0 => ⟨fun x hx => by simp [rowAt] at hx, Nat.le_refl _⟩
  | i + 1 => by
    obtain ⟨a, b⟩ := row_good s i
    obtain ⟨c, d⟩ := good_items (machOf (s.getD (3 * i) 0) (s.getD (3 * i + 1) 0) (s.getD (3 * i + 2) 0)) (machOk _ _ _)
    rw [rowAt]
    refine ⟨fun x hx => ?_, by rw [wts_app]; omega⟩
    rcases List.mem_append.mp hx with hx | hx
    · exact a x hx
    · exact c x hx
theorem flat_good (xs : List Int) : RowG (flatOf (law_s xs)) := by
  have hl : 1 ≤ (law_s xs).length ∧ (law_s xs).length ≤ 9 := by unfold law_s; simp; omega
  unfold flatOf
  generalize hk : ((law_s xs).length + (3 - 1)) / 3 = k
  have hk2 : 1 ≤ k ∧ k ≤ 3 := by omega
  obtain ⟨a, b⟩ := row_good (law_s xs) k
  have hn := rowAt_len (law_s xs) k
  exact ⟨a, fun e => by rw [e] at hn; simp at hn; omega, by omega, by omega⟩
end Mine
end
section
open PySem PySem.W PyProof.Rows PySem.Calls
set_option Elab.async false
set_option maxRecDepth 100000
set_option linter.unusedVariables false
namespace Mine
theorem items_int {R : WRecords} : ∀ xs : List WData, WShape.hasItems R xs .int = true → ∃ ns : List Int, xs = ns.map .int
  | [], _ => ⟨[], rfl⟩
  | d :: xs, h => by
    rw [WShape.hasItems, Bool.and_eq_true] at h
    obtain ⟨ns, rfl⟩ := items_int xs h.2
    have h1 := h.1
    cases d <;> simp [WShape.has, WShape.arms] at h1
    exact ⟨_ :: ns, rfl⟩
theorem args_list {R : WRecords} {args : List WData} (h : WShape.hasAll R args [.list .int] = true) : ∃ ns : List Int, args = [.list (ns.map .int)] := by
  match args, h with
  | [], h => simp [WShape.hasAll] at h
  | [d], h =>
    simp only [WShape.hasAll, Bool.and_eq_true] at h
    have h1 := h.1
    cases d <;> simp [WShape.has, WShape.arms] at h1
    obtain ⟨ns, rfl⟩ := items_int _ h1
    exact ⟨ns, rfl⟩
  | d :: e :: r, h => simp [WShape.hasAll] at h
theorem lay_ints {R : WRecords} {cl : Str → Option Addr} {P : Params} {ord : List DictEntry → List DictEntry} : ∀ (ns : List Int) (s : Shared) (r : List Value × Shared), layAllW R cl P ord (ns.map .int) s = some r →
    ∀ (F : Addr → Prop) (h : Heap), Reps F h r.1 (ns.map .int)
  | [], s, r, e, F, h => by
    have e' : some (([] : List Value), s) = some r := e
    cases e'
    exact .nil
  | n :: ns, s, r, e, F, h => by
    rw [List.map_cons, layAllW, layW] at e
    dsimp only at e
    cases e2 : layAllW R cl P ord (ns.map .int) { s with toks := s.toks + 1 } with
    | none => rw [e2] at e; cases e
    | some r2 =>
      rw [e2] at e
      cases e
      exact .cons (.int _ _) (lay_ints ns _ r2 e2 F h)
theorem lay_list {R : WRecords} {cl : Str → Option Addr} {P : Params} {ord : List DictEntry → List DictEntry} (ns : List Int) (s : Shared) (vals : List Value) (s₁ : Shared) (e : layAllW R cl P ord [.list (ns.map .int)] s = some (vals, s₁)) :
    ∃ v, vals = [v] ∧ Rep (fun _ => False) s₁.heap v (.lst (ns.map .int)) := by
  rw [layAllW, layW] at e
  cases e2 : layAllW R cl P ord (ns.map .int) s with
  | none => rw [e2] at e; cases e
  | some r =>
    rw [e2] at e
    dsimp only at e
    rw [layAllW] at e
    cases e
    exact ⟨_, rfl, .lst id (Heap.get?_push_size _ rfl) (lay_ints ns s r e2 _ _)⟩
theorem tab_of {h : Heap} {w : World} (K : (KF w).In h) {q : Program} {loose : List Str} {mean : ExcName → Option Value} {mg mb : Str → Option Value} (T : Top q loose mean mg mb h) (hq : ((recsOf q).any fun d => d.name == Str.ofString "_platform") = true) :
    h.IsCode PC PL #[] ∧ h.TableAt PC PL #[] := by
  obtain ⟨d, hd, hn⟩ := List.any_eq_true.mp hq
  rw [beq_iff_eq] at hn
  obtain ⟨a, o, fd, c, P, h1, h2, h3, h4, h5, h6⟩ := T.tab d hd
  rw [hn, mg_of K T.g (n := Str.ofString "_platform") (v := .ref 66) (by kernel_rfl)] at h1
  cases h1
  have k1 := K 66 _ rfl
  rw [k1] at h2
  cases h2
  cases h3
  cases h4
  have k2 := K 65 _ rfl
  obtain ⟨o, vs, file, tf, flags, tg, inF, text, tt, op, a1, a2, a3, _⟩ := id h5
  rw [k2] at a1
  cases a1
  cases a2
  cases a3
  exact ⟨h5, h6⟩
theorem pre_len {ns : List Int} (h : (PySem.Challenge.rw_rl0147_01.row.toRowW.claim.pre [.list (ns.map .int)]) = true) : ns.length ≤ 63 := by
  have hcond := (pre_splitW h).2
  w_cond hcond
  simp only [List.length_map] at *
  omega
theorem walk_main : PySem.Challenge.rw_rl0147_01.Holds := by
  refine hd ?_
  intro w s₀ s₁ mg mb G Y a o pm cd doc dV kV ho hdat hcd hD hmg hgens args vals as hpre hlay hrd hlaid hwl hlo
  have K : (KF w).In s₁.heap := kIn_of Y
  have T := G.T
  obtain ⟨ns, rfl⟩ := args_list (pre_splitW hpre).1
  have hlen := pre_len hpre
  obtain ⟨ord, sL, hlaid⟩ := hlaid
  obtain ⟨v, rfl, rv⟩ := lay_list ns sL vals s₁ hlaid
  have ha : a = 114 := by
    have h2 := mg_of K T.g (n := Str.ofString "law") (v := .ref 114) (by kernel_rfl)
    have h3 := hmg.symm.trans h2
    cases h3
    rfl
  subst ha
  obtain ⟨t1, t2⟩ := tab_of K T (by kernel_rfl)
  have htab : Tab s₁.heap := ⟨#[], t1, t2, .inl rfl⟩
  have B : Base w s₁.heap := {
    K := K
    g := ⟨mg, T.g⟩
    b := ⟨mb, T.b, T.builtins⟩
    nolimit := T.nolimit
    nodigits := T.nodigits
    tab := htab
    bm := by obtain ⟨bm, ob, M⟩ := bmod_of_top T; exact ⟨mg, bm, ob, M⟩ }
  have R : Rd w s₁.heap callerA 3 { s₁ with toks := 1 } := {
    B := B
    hg := ⟨fun b o e _ => e, htab⟩
    fr := ⟨[], rfl, fun e he => by simp at he⟩
    gens := .of_eq hgens
    rm := ⟨rfl, by decide, by decide⟩
    tk := Nat.one_ne_zero }
  refine (fn_law w s₁.heap RowG row_ok ns (by omega) (flat_good ns)).go (fun _ => False) callerA s₁ v _ _ (Live.none _) R rv fun v' s' n r => ?_
  obtain rfl := r.isBool
  refine ⟨.inl ⟨_, .bool true, [], rfl, fun _ => rfl, .bool true, ?_, fun _ => ⟨List.nodup_nil, fun a ha => by simp at ha⟩⟩, ⟨fun b o e => ?_, fun b o e => ?_⟩, n.os, n.gens (.of_eq hgens)⟩
  · first
      | rfl
      | wrow_post
  · by_cases hb : b = PL
    · subst hb
      obtain ⟨ps, _, q, _⟩ := n.kp.tab htab
      have := t2.2
      rw [e] at this
      cases this
      exact .inr (.inl ⟨t2.isCodeTable, rfl, #[], ps, rfl, by rw [Array.empty_append]; exact q.2⟩)
    · exact .inl (n.kp.old b o e hb e)
  · by_cases hb : b = PL
    · subst hb
      obtain ⟨ps, _, q, _⟩ := n.kp.tab htab
      exact ⟨_, q.2⟩
    · exact ⟨o, n.kp.old b o e hb e⟩
end Mine
end
set_option maxRecDepth 100000 in
set_option maxHeartbeats 8000000 in
theorem PySem.Challenge.cw_rl0147_01_holds : PySem.Challenge.rw_rl0147_01.Holds := by
  exact Mine.walk_main
