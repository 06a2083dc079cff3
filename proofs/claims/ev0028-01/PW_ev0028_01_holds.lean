import PyProof.Rows.All
import Wide.All
import OpenK.AllK
import Wide.FinOn
import PySem.Challenge.RW_ev0028_01
set_option Elab.async false
set_option linter.unusedVariables false
section
open PySem PySem.W PySem.Calls PyProof.Rows
open PySem.Sem (wp)
namespace Mine

/-- built-ins that hold a bytearray while they stand on the stack -/
def holdIds : List String := Builtin.Bytes.decodersThatHold ++ ["bytearray.__contains__", "bytearray.__mod__", "bytearray.__rmod__", "_struct.pack_into.held", "bytearray.find.held"]
def holdsB : Code → Bool
  | .builtin id _ => holdIds.contains id
  | _ => false
def CleanB (l : List (Code × Pos)) : Prop := ∀ x ∈ l, holdsB x.1 = false
def Clean (Γ : Ctx) : Prop := holdsB Γ.code = false ∧ CleanB Γ.below

/-- wpAny over clean contexts alone -/
def wpC {α : Type} (M : Model) (A : Around) (t : Sem α) (Q : α → Shared → Prop) (E : Value → Shared → Prop) (s : Shared) : Prop :=
  ∀ Γ p, Γ.In A → Clean Γ → wp M Γ t (fun a _ s' => Q a s') (fun e _ s' => E e s') p s
def codeC (M : Model) (A : Around) (c : Code) (R : Result → Shared → Prop) (s : Shared) : Prop :=
  ∀ Γ p, Γ.code = c → Γ.Below A → CleanB Γ.below → wpCode M Γ R p s

section
variable {α β : Type} {M : Model} {A : Around} {E : Value → Shared → Prop} {s : Shared}
theorem wpC_any {t : Sem α} {Q : α → Shared → Prop} (h : wpAny M A t Q E s) : wpC M A t Q E s := fun Γ p i _ => h Γ p i
theorem wpC_pure {a : α} {Q : α → Shared → Prop} (h : Q a s) : wpC M A (pure a) Q E s := fun _ _ _ _ => h
theorem wpC_mono {t : Sem α} {Q Q' : α → Shared → Prop} {E' : Value → Shared → Prop} (h : wpC M A t Q E s)
    (hQ : ∀ a s, Q a s → Q' a s) (hE : ∀ e s, E e s → E' e s) : wpC M A t Q' E' s :=
  fun Γ p i c => Sem.wp_mono M Γ t (fun a _ s => hQ a s) (fun e _ s => hE e s) p s (h Γ p i c)
theorem wpC_bind {m : Sem α} {f : α → Sem β} {Q : β → Shared → Prop} (h : wpC M A m (fun a s' => wpC M A (f a) Q E s') E s) :
    wpC M A (m >>= f) Q E s := fun Γ p i c => by
  rw [Sem.wp_bind']
  exact Sem.wp_mono M Γ m (fun a p' s' h' => h' Γ p' i c) (fun _ _ _ h' => h') p s (h Γ p i c)
theorem wpC_onRaise {m : Sem α} {k : Value → Sem Unit} {Q : α → Shared → Prop}
    (h : wpC M A m Q (fun e s' => wpC M A (k e) (fun _ s'' => E e s'') E s') s) : wpC M A (m.onRaise k) Q E s := fun Γ p i c => by
  rw [Sem.wp_onRaise]
  exact Sem.wp_mono M Γ m (fun _ _ _ h' => h') (fun e p' s' h' => h' Γ p' i c) p s (h Γ p i c)
theorem wpC_attempt {m : Sem α} {Q : Except Value α → Shared → Prop} (h : wpC M A m (fun a => Q (.ok a)) (fun e => Q (.error e)) s) :
    wpC M A m.attempt Q E s := fun Γ p i c => by rw [Sem.wp_attempt]; exact h Γ p i c
theorem wpC_holding {vs : List Value} {m : Sem α} {Q : α → Shared → Prop} (h : wpC M A m Q E s) : wpC M A (holding vs m) Q E s :=
  fun Γ p i c => by rw [Sem.wp_holding]; exact h Γ p i c
theorem codeC_any {c : Code} {R : Result → Shared → Prop} (h : codeAny M A c R s) : codeC M A c R s := fun Γ p e b _ => h Γ p e b
theorem codeC_mono {c : Code} {R R' : Result → Shared → Prop} (h : codeC M A c R s) (hR : ∀ r s, R r s → R' r s) : codeC M A c R' s :=
  fun Γ p e b k => wpCode_mono hR (h Γ p e b k)
theorem cleanB_enter {Γ : Ctx} (c : Clean Γ) (d : Code) (h : Option Value) (p : Pos) : CleanB (Γ.enter d h p).below := fun x hx => by
  rcases List.mem_cons.mp hx with rfl | hx
  · exact c.1
  · exact c.2 x hx
theorem wpC_run {c : Code} {h : Option Value} {Q : Flow → Shared → Prop}
    (hc : codeC M (A.mark h) c (fun r s' => match r with | .ok f => Q f s' | .error e => E e s') s) (hnb : h ≠ some byPass := by intro x; cases x) :
    wpC M A (run c h) Q E s :=
  fun Γ p i k => by rw [Sem.wp_run]; exact hc _ p rfl (i.enter c h p hnb) (cleanB_enter k c h p)
theorem wpC_runValue {c : Code} {Q : Value → Shared → Prop}
    (hc : codeC M A c (fun r s' => match r with | .ok (.ret v) => Q v s' | .ok _ => False | .error e => E e s') s) :
    wpC M A (runValue c) Q E s := fun Γ p i k => by rw [Sem.wp_runValue]; exact hc _ p rfl (i.enter c none p (by intro x; cases x)) (cleanB_enter k c none p)
theorem wpC_call {f : Value} {pos : List Value} {kw : List (Str × Value)} {Q : Value → Shared → Prop}
    (hc : codeC M A (.call f ⟨pos, kw⟩) (fun r s' => match r with | .ok (.ret v) => Q v s' | .ok _ => False | .error e => E e s') s) :
    wpC M A (call f pos kw) Q E s := wpC_runValue hc
theorem codeC_of_tree {c : Code} {R : Result → Shared → Prop} (hn : holdsB c = false)
    (h : wpC M (A.under c) (M.den c) (fun fin s' => match fin with | .done f => R (.ok f) s' | .again c' => c'.quiet = true ∧ codeC M A c' R s')
      (fun e s' => R (.error e) s') s) : codeC M A c R s := fun Γ p hc hΓ hk => by
  rw [wpCode_iff_wp, hc]
  refine Sem.wp_mono M Γ _ (fun fin p' s' h' => ?_) (fun _ _ _ h' => h') p s (h Γ p (hc ▸ hΓ.in) ⟨hc ▸ hn, hk⟩)
  cases fin with
  | done f => exact h'
  | again c' => exact ⟨h'.1, h'.2 (Γ.goto c') p' rfl (hΓ.goto c') hk⟩
theorem codeC_loop {c : Code} {R : Result → Shared → Prop} (hn : holdsB c = false) (hq : c.quiet = true) (I : Nat → Shared → Prop)
    (turn : ∀ n s, I n s → wpC M (A.under c) (M.den c)
      (fun fin s' => match fin with | .done f => R (.ok f) s' | .again c' => c' = c ∧ ∃ m, m < n ∧ I m s') (fun e s' => R (.error e) s') s)
    (n : Nat) (h : I n s) : codeC M A c R s := by
  induction n using Nat.strongRecOn generalizing s with
  | ind n ih =>
    refine codeC_of_tree hn (wpC_mono (turn n s h) (fun fin s' hf => ?_) fun _ _ h' => h')
    cases fin with
    | done f => exact hf
    | again c' => obtain ⟨rfl, m, hm, hI⟩ := hf; exact ⟨hq, ih m hm hI⟩
end

/-! ## the head over clean contexts -/
theorem caller_clean : Clean (⟨.builtin "claim.caller" {}, none, none, [], none⟩ : Ctx) := ⟨by decide +kernel, fun _ h => (nomatch h)⟩

theorem thread_endsC {prog : Program} {w : World} {t : Sem Fin} {s : Shared} {R : Result → Shared → Prop} (hreg : s.asleep)
    (h : wpC (model prog w) callerA t (fun fin s' => ∃ f, fin = .done f ∧ (R (.ok f) s' ∧ leftWithCleanup s'.gens = false)) (fun e s' => R (.error e) s' ∧ leftWithCleanup s'.gens = false) s) :
    ∃ n r s' s'', runN (denote table) prog w n s ⟨t, .builtin "claim.caller" {}, default, []⟩ = .halted (outcomeOf r) s' ∧
      schedN (denote table) prog w n (.single s ⟨t, .builtin "claim.caller" {}, default, []⟩) = .halted (outcomeOf r) s' ∧ s'.forget = s''.forget ∧ R r s'' := by
  have hw := h _ default caller_in caller_clean
  obtain ⟨n, r, s₁, s₂, hs, hn, hfo, hR⟩ := wp_halts_full (M := model prog w) (R := R) hreg (c := .builtin "claim.caller" {}) (t := t) (p := default)
    (Sem.wp_mono _ _ t (fun fin p' s' h' => by obtain ⟨f, rfl, hf⟩ := h'; exact hf) (fun _ _ _ h' => h') _ _ hw)
  exact ⟨n, r, s₂, s₁, hn, hs, hfo, hR⟩

abbrev WalkP (q : Program) (loose : List Str) (XP : (Str → Option Value) → Heap → Prop) (YP : World → Heap → Prop) (r : RowW) (d : DefRec) (kwd : List (Str × Expr)) : Prop :=
  ∀ (w : World) (s₀ s₁ : Shared) (mg mb : Str → Option Value), Ground q loose r.records XP w s₀ mg mb s₁.heap → YP w s₁.heap → ∀ (a : Addr) (o : Obj) (pm cd doc dV kV : Value), s₁.heap.get? a = some o →
    o.data = .func { docDef d.name d.params d.body d.scope pm cd doc with defaults := dV, kwdefaults := kV } → s₁.heap.CodeRec cd d.name → Dflts mg s₁.heap d.params kwd dV kV → mg d.name = some (.ref a) → s₁.gens = #[] →
    ∀ (args : List WData) (vals : List Value) (as : List Addr), r.claim.pre args = true → WData.layableAll args = true → ReadsAllW r.records (classAt s₀.heap) s₁.heap vals args as → WellAll w.params s₁.heap vals args → (∀ a ∈ as, (a == sysModules) = false) →
      wpC (model r.prog w) callerA (PySem.call (.ref a) vals) (fun v s' => GoodWG r.claim (classAt s₀.heap) (ExcName.means s₀.heap) args s₁ (.ok (.ret v)) s')
        (fun e s' => GoodWG r.claim (classAt s₀.heap) (ExcName.means s₀.heap) args s₁ (.error e) s') s₁

theorem callFromC {c : ClaimW} {tree : List Value → Sem Fin} {w : World} {s : Shared} {free : Addr → Prop} {gens : Prop} {kept : Heap → Prop} (hz : s.asleep) (hgens : s.gens = #[])
    (hspec : ∀ args, c.pre args = true → WData.layableAll args = true →
      ∀ ord : List DictEntry → List DictEntry, (∀ l, (ord l).Perm l) →
      ∃ vs s₁, layAllW c.records (classAt s.heap) w.params ord args s = some (vs, s₁) ∧
        wpC (model c.prog w) callerA (tree vs) (fun fin s' => ∃ f, fin = .done f ∧ (c.Ends s args vs s₁ (.ok f) s' ∧ s'.os = s.os ∧ AllBare s'.gens ∧ kept s'.heap))
          (fun e s' => c.Ends s args vs s₁ (.error e) s' ∧ s'.os = s.os ∧ AllBare s'.gens ∧ kept s'.heap) s₁) :
    c.CallFrom (fun vs => ⟨tree vs, .builtin "claim.caller" {}, default, []⟩) w free gens kept s := by
  intro args hpre hlay ord hord
  obtain ⟨vs, s₁, hlaid, hcode⟩ := hspec args hpre hlay ord hord
  have hal := layAllW_rest _ _ _ hlaid
  obtain ⟨k, r, s', s'', hrun, hsched, hfo, hcase, hos, hkp⟩ := thread_endsC (prog := c.prog) (w := w) (t := tree vs) (s := s₁)
    (R := fun r s' => c.Ends s args vs s₁ r s' ∧ s'.os = s.os ∧ kept s'.heap)
    (Shared.asleep_of_life hal.2.2.2 hz)
    (wpC_mono hcode
      (fun _ _ h => let ⟨f, e, h1, h2, h3, h4⟩ := h; ⟨f, e, ⟨h1, h2, h4⟩, leftWithCleanup_false_of_bare h3⟩)
      (fun _ _ h => let ⟨h1, h2, h3, h4⟩ := h; ⟨⟨h1, h2, h4⟩, leftWithCleanup_false_of_bare h3⟩))
  obtain ⟨eh, _, _, eo, _⟩ := Shared.forget_eq hfo
  have hcase := hcase.congr eh
  have hkp' : kept s'.heap := by rw [eh]; exact hkp
  have hos' : s'.os = s.os := eo.trans hos
  have hlife : s'.heap.life = s.heap.life := (runN_life _ _ _ hrun).trans hal.2.2.2
  refine ⟨vs, s₁, hlaid, k, _, s', hsched, ?_, (fun _ i x hx => by rw [hgens] at hx; simp at hx), hkp', by rw [hlife], Shared.rest_eq hos'⟩
  rcases hcase with ⟨v, rfl, d1, d2, d3, d4, d5⟩ | ⟨e, ob, cls, rfl, d1, d2, d3, d4, d5⟩
  · exact .inl ⟨v, rfl, d1, d2, d3, fun b o y _ => d4 b o y, d5⟩
  · exact .inr ⟨e, ob, cls, rfl, d1, d2, d3, d4, fun b o y _ => d5 b o y⟩

theorem PySem.W.holds_open {r : OpenRow} {q : Program} {loose : List Str} {Xt : Shared → Bool} {XP : (Str → Option Value) → Heap → Prop} {α : Type} {Yf : Shared → α} {Ya : World → α} {YP : World → Heap → Prop} {d : DefRec} {kwd : List (Str × Expr)} {N : Nat}
    (left : LeftO r.prog q loose Xt Yf Ya N) (hY : ∀ w s, Yf s = Ya w → YP w s.heap) (hYk : ∀ w h h', YP w h → (∀ b o, h.get? b = some o → h'.get? b = some o) → YP w h')
    (hX : ∀ s, Xt s = true → XP (s.heap.nsMap mainGlobals) s.heap) (hXk : ∀ mg h h', XP mg h → (∀ b o, h.get? b = some o → h'.get? b = some o) → XP mg h')
    (hdef : defOf q r.name = some (d, kwd)) (hp : r.prog.theDef r.name = some (d.params, d.body, d.scope)) (hk : kwWritten? d.params.kwonlyargs d.params.kw_defaults = some kwd) (hRf : ∀ s, Xt s = true → RecFacts r.records s.heap) (hwr : (!r.writes || r.records.isEmpty) = true)
    (k1 : r.wellSaid = true) (ok : (chainsOk q && opensWell r.prog && (frees r.toRowW && r.within.isEmpty)) = true) (hb : r.prog.bare) (hw : r.toRowW.promised)
    (call : WalkP q loose XP YP r.toRowW d kwd) : r.Holds := by
  obtain ⟨ok1, k5⟩ := Bool.and_eq_true_iff.mp ok
  obtain ⟨hch, o1⟩ := Bool.and_eq_true_iff.mp ok1
  obtain ⟨k5, k6⟩ := Bool.and_eq_true_iff.mp k5
  obtain ⟨hsame, hu, ha, hap, hm⟩ := frees_parts k5
  refine ⟨k1, hw, ⟨⟨hb, o1, by show r.makers.map _ = []; rw [hm]; rfl⟩, hw.witness, fun w => ⟨(left.behind hX hch w).1, fun s' hs' => ?_⟩⟩⟩
  obtain ⟨s₀, hf, hg0, s, hT, hz, hgens, hg, G00, y⟩ := (left.behind (XP := fun mg h => XP mg h ∧ RecFacts r.records h) (fun s hs => ⟨hX s hs, hRf s hs⟩) hch w).2 s' hs'
  have G0 : Ground q loose [] XP w s (s.heap.nsMap mainGlobals) (s.heap.nsMap builtinsNs) s.heap := ⟨G00.T, G00.B, G00.D, G00.TE, G00.TD, G00.W, G00.X.1, G00.cls, G00.has, G00.apart, G00.once, G00.K⟩
  have RF := G00.X.2
  refine ⟨s₀, hf, hg0, s, hT, (fun n hn => ?_), RF.1, RF.2.1, ?_⟩
  · obtain rfl : n = r.name := by split at hn <;> simp_all
    exact pinned_of_view hg G0 hdef hp hk
  have hgens : s.gens = #[] := Array.eq_empty_of_size_eq_zero (beq_iff_eq.mp hgens)
  have G : Ground q loose r.records XP w s _ _ s.heap := RF.ground G0
  refine callFromC (c := r.toRowW.claim) hz hgens fun args hpre hlay ord hord => ?_
  obtain ⟨⟨vs, s₁⟩, hlaid⟩ := Option.isSome_iff_exists.mp (layAllW_isSome (P := w.params) (ord := ord) G.has args r.args s (pre_splitW hpre).1)
  have keeps := layAllW_keeps _ _ _ hlaid
  have hal := layAllW_rest _ _ _ hlaid
  obtain ⟨as, hrd, hin, hold⟩ := reads_layAllW hord _ _ _ hlaid hlay s₁.heap (fun _ _ e => e)
  have Ld : Laid r.records w s s₁ args vs as := ⟨⟨ord, hord, hlaid⟩, hrd, hin, hold, keeps, hal.1.trans hgens, hal.2.2.1⟩
  have G₁ := G.keeps hXk keeps
  obtain ⟨a, o, pm, cd, doc, dV, kV, h1, h2, h3, h4, h5⟩ := G₁.fn hdef
  have hcall := call w s s₁ _ _ G₁ (hYk _ _ _ (hY w s y) keeps) a o pm cd doc dV kV h2 h3 h4 h5 (defOf_name hdef ▸ h1) Ld.gens args vs as hpre hlay Ld.reads Ld.well (Ld.low G.low)
  have hi := ident_freeW (r := r.toRowW) hu ha hap
  have hwi : r.toRowW.claim.within = [] := List.isEmpty_iff.mp k6
  refine ⟨vs, s₁, hlaid, ?_⟩
  show wpC (model r.prog w) callerA (do match ← nsGet mainNs r.name with
      | some f => do ret (← PySem.call f vs)
      | none => unsupported "claim.caller:no-such-global") _ _ s₁
  refine wpC_bind (wpC_any (wpAny_nsGet G₁.T.g ?_))
  rw [h1]
  refine wpC_bind (wpC_mono hcall (fun v s' g => wpC_pure ⟨_, rfl, ?_⟩) fun e s' g => ?_)
  · have z := g.laid (c := r.toRowW.claim) hsame hwi hi Ld
    exact ⟨z.1, z.2.1, z.2.2, fun q => ⟨namesKept_of hT hg _ keeps g.2.1.old, noTable hwr q⟩⟩
  · have z := g.laid (c := r.toRowW.claim) hsame hwi hi Ld
    exact ⟨z.1, z.2.1, z.2.2, fun q => ⟨namesKept_of hT hg _ keeps g.2.1.old, noTable hwr q⟩⟩

end Mine
end
section
open PySem PySem.W PySem.Calls PyProof.Rows
open PySem.Sem (wp)
namespace Mine
set_option maxRecDepth 100000 in
set_option maxHeartbeats 8000000 in
open_top hd for PySem.Challenge.rw_ev0028_01
end Mine
end
section
open PySem PySem.W PySem.Calls PyProof.Rows
namespace Mine
/-! the text's own pieces, read off the given program -/
def clsStmts : List Stmt := match PySem.Challenge.pw_ev0028_01.main.body with
  | _ :: .ClassDef _ _ _ body _ _ _ _ _ _ _ :: _ => body
  | _ => []
def defAt (l : List Stmt) (n : Nat) : List Stmt × Scope := match l[n]? with
  | some (.FunctionDef _ _ body _ _ _ scope _ _ _) => (body, scope)
  | _ => ([], default)
def whileAt (l : List Stmt) (n : Nat) : Expr × List Stmt := match l[n]? with
  | some (.While t b _ _) => (t, b)
  | _ => (default, [])
def rlBody : List Stmt := by
  have h : {x : List Stmt // x = (defAt clsStmts 1).1} := ⟨_, by conv => rhs; whnf⟩
  exact h.1
def rlScope : Scope := by
  have h : {x : Scope // x = (defAt clsStmts 1).2} := ⟨_, by conv => rhs; whnf⟩
  exact h.1
def rlLoop : List Stmt := by
  have h : {x : List Stmt // x = (whileAt rlBody 2).2} := ⟨_, by conv => rhs; whnf⟩
  exact h.1
end Mine
end
section
open PySem PySem.W PySem.Calls PyProof.Rows
namespace Mine
def mainStmts : List Stmt := PySem.Challenge.pw_ev0028_01.main.body
def forAt (l : List Stmt) (n : Nat) : Expr × Expr × List Stmt := match l[n]? with
  | some (.For t i b _ _) => (t, i, b)
  | _ => (default, default, [])
def ifAt (l : List Stmt) (n : Nat) : Expr × List Stmt × List Stmt := match l[n]? with
  | some (.If t b e _) => (t, b, e)
  | _ => (default, [], [])
def retAt (l : List Stmt) (n : Nat) : Expr := match l[n]? with
  | some (.Return (some e) _) => e
  | _ => default
def iniBody : List Stmt := by
  have h : {x : List Stmt // x = (defAt clsStmts 0).1} := ⟨_, by conv => rhs; whnf⟩
  exact h.1
def iniScope : Scope := by
  have h : {x : Scope // x = (defAt clsStmts 0).2} := ⟨_, by conv => rhs; whnf⟩
  exact h.1
def reBody : List Stmt := by
  have h : {x : List Stmt // x = (defAt clsStmts 2).1} := ⟨_, by conv => rhs; whnf⟩
  exact h.1
def reScope : Scope := by
  have h : {x : Scope // x = (defAt clsStmts 2).2} := ⟨_, by conv => rhs; whnf⟩
  exact h.1
def rtBody : List Stmt := by
  have h : {x : List Stmt // x = (defAt clsStmts 3).1} := ⟨_, by conv => rhs; whnf⟩
  exact h.1
def rtScope : Scope := by
  have h : {x : Scope // x = (defAt clsStmts 3).2} := ⟨_, by conv => rhs; whnf⟩
  exact h.1
def aeBody : List Stmt := by
  have h : {x : List Stmt // x = (defAt clsStmts 4).1} := ⟨_, by conv => rhs; whnf⟩
  exact h.1
def aeScope : Scope := by
  have h : {x : Scope // x = (defAt clsStmts 4).2} := ⟨_, by conv => rhs; whnf⟩
  exact h.1
def fdBody : List Stmt := by
  have h : {x : List Stmt // x = (defAt clsStmts 5).1} := ⟨_, by conv => rhs; whnf⟩
  exact h.1
def fdScope : Scope := by
  have h : {x : Scope // x = (defAt clsStmts 5).2} := ⟨_, by conv => rhs; whnf⟩
  exact h.1
def feBody : List Stmt := by
  have h : {x : List Stmt // x = (defAt clsStmts 6).1} := ⟨_, by conv => rhs; whnf⟩
  exact h.1
def feScope : Scope := by
  have h : {x : Scope // x = (defAt clsStmts 6).2} := ⟨_, by conv => rhs; whnf⟩
  exact h.1
def diBody : List Stmt := by
  have h : {x : List Stmt // x = (defAt clsStmts 7).1} := ⟨_, by conv => rhs; whnf⟩
  exact h.1
def diScope : Scope := by
  have h : {x : Scope // x = (defAt clsStmts 7).2} := ⟨_, by conv => rhs; whnf⟩
  exact h.1
def nxBody : List Stmt := by
  have h : {x : List Stmt // x = (defAt mainStmts 4).1} := ⟨_, by conv => rhs; whnf⟩
  exact h.1
def nxScope : Scope := by
  have h : {x : Scope // x = (defAt mainStmts 4).2} := ⟨_, by conv => rhs; whnf⟩
  exact h.1
def stpBody : List Stmt := by
  have h : {x : List Stmt // x = (defAt mainStmts 6).1} := ⟨_, by conv => rhs; whnf⟩
  exact h.1
def stpScope : Scope := by
  have h : {x : Scope // x = (defAt mainStmts 6).2} := ⟨_, by conv => rhs; whnf⟩
  exact h.1
def dueBody : List Stmt := by
  have h : {x : List Stmt // x = (defAt mainStmts 7).1} := ⟨_, by conv => rhs; whnf⟩
  exact h.1
def dueScope : Scope := by
  have h : {x : Scope // x = (defAt mainStmts 7).2} := ⟨_, by conv => rhs; whnf⟩
  exact h.1
def fedBody : List Stmt := by
  have h : {x : List Stmt // x = (defAt mainStmts 8).1} := ⟨_, by conv => rhs; whnf⟩
  exact h.1
def fedScope : Scope := by
  have h : {x : Scope // x = (defAt mainStmts 8).2} := ⟨_, by conv => rhs; whnf⟩
  exact h.1
def endBody : List Stmt := by
  have h : {x : List Stmt // x = (defAt mainStmts 9).1} := ⟨_, by conv => rhs; whnf⟩
  exact h.1
def endScope : Scope := by
  have h : {x : Scope // x = (defAt mainStmts 9).2} := ⟨_, by conv => rhs; whnf⟩
  exact h.1
def lawBody : List Stmt := by
  have h : {x : List Stmt // x = (defAt mainStmts 10).1} := ⟨_, by conv => rhs; whnf⟩
  exact h.1
def lawScope : Scope := by
  have h : {x : Scope // x = (defAt mainStmts 10).2} := ⟨_, by conv => rhs; whnf⟩
  exact h.1
def rlTest : Expr := by
  have h : {x : Expr // x = (whileAt rlBody 2).1} := ⟨_, by conv => rhs; whnf⟩
  exact h.1
def reLoop : List Stmt := by
  have h : {x : List Stmt // x = (whileAt reBody 1).2} := ⟨_, by conv => rhs; whnf⟩
  exact h.1
def reTest : Expr := by
  have h : {x : Expr // x = (whileAt reBody 1).1} := ⟨_, by conv => rhs; whnf⟩
  exact h.1
def rtLoop : List Stmt := by
  have h : {x : List Stmt // x = (whileAt rtBody 0).2} := ⟨_, by conv => rhs; whnf⟩
  exact h.1
def rtTest : Expr := by
  have h : {x : Expr // x = (whileAt rtBody 0).1} := ⟨_, by conv => rhs; whnf⟩
  exact h.1
def aeLoop : List Stmt := by
  have h : {x : List Stmt // x = (whileAt aeBody 0).2} := ⟨_, by conv => rhs; whnf⟩
  exact h.1
def aeTest : Expr := by
  have h : {x : Expr // x = (whileAt aeBody 0).1} := ⟨_, by conv => rhs; whnf⟩
  exact h.1
def outTarget : Expr := by
  have h : {x : Expr // x = (forAt lawBody 4).1} := ⟨_, by conv => rhs; whnf⟩
  exact h.1
def outIter : Expr := by
  have h : {x : Expr // x = (forAt lawBody 4).2.1} := ⟨_, by conv => rhs; whnf⟩
  exact h.1
def outBody : List Stmt := by
  have h : {x : List Stmt // x = (forAt lawBody 4).2.2} := ⟨_, by conv => rhs; whnf⟩
  exact h.1
def inTest : Expr := by
  have h : {x : Expr // x = (whileAt outBody 8).1} := ⟨_, by conv => rhs; whnf⟩
  exact h.1
def inBody : List Stmt := by
  have h : {x : List Stmt // x = (whileAt outBody 8).2} := ⟨_, by conv => rhs; whnf⟩
  exact h.1
def finExpr : Expr := by
  have h : {x : Expr // x = retAt lawBody 5} := ⟨_, by conv => rhs; whnf⟩
  exact h.1
def rlB0 : Stmt := by
  have h : {x : Stmt // x = (rlBody.getD 0 default)} := ⟨_, by conv => rhs; whnf⟩
  exact h.1
def rlB1 : Stmt := by
  have h : {x : Stmt // x = (rlBody.getD 1 default)} := ⟨_, by conv => rhs; whnf⟩
  exact h.1
def rlB2 : Stmt := by
  have h : {x : Stmt // x = (rlBody.getD 2 default)} := ⟨_, by conv => rhs; whnf⟩
  exact h.1
def rlB3 : Stmt := by
  have h : {x : Stmt // x = (rlBody.getD 3 default)} := ⟨_, by conv => rhs; whnf⟩
  exact h.1
def rlB4 : Stmt := by
  have h : {x : Stmt // x = (rlBody.getD 4 default)} := ⟨_, by conv => rhs; whnf⟩
  exact h.1
def rlB5 : Stmt := by
  have h : {x : Stmt // x = (rlBody.getD 5 default)} := ⟨_, by conv => rhs; whnf⟩
  exact h.1
def rlB6 : Stmt := by
  have h : {x : Stmt // x = (rlBody.getD 6 default)} := ⟨_, by conv => rhs; whnf⟩
  exact h.1
def rlL0 : Stmt := by
  have h : {x : Stmt // x = (rlLoop.getD 0 default)} := ⟨_, by conv => rhs; whnf⟩
  exact h.1
def rlL1 : Stmt := by
  have h : {x : Stmt // x = (rlLoop.getD 1 default)} := ⟨_, by conv => rhs; whnf⟩
  exact h.1
def rlL2 : Stmt := by
  have h : {x : Stmt // x = (rlLoop.getD 2 default)} := ⟨_, by conv => rhs; whnf⟩
  exact h.1
def rlL3 : Stmt := by
  have h : {x : Stmt // x = (rlLoop.getD 3 default)} := ⟨_, by conv => rhs; whnf⟩
  exact h.1
def rlL4 : Stmt := by
  have h : {x : Stmt // x = (rlLoop.getD 4 default)} := ⟨_, by conv => rhs; whnf⟩
  exact h.1
def rlL5 : Stmt := by
  have h : {x : Stmt // x = (rlLoop.getD 5 default)} := ⟨_, by conv => rhs; whnf⟩
  exact h.1
def reB0 : Stmt := by
  have h : {x : Stmt // x = (reBody.getD 0 default)} := ⟨_, by conv => rhs; whnf⟩
  exact h.1
def reB1 : Stmt := by
  have h : {x : Stmt // x = (reBody.getD 1 default)} := ⟨_, by conv => rhs; whnf⟩
  exact h.1
def reB2 : Stmt := by
  have h : {x : Stmt // x = (reBody.getD 2 default)} := ⟨_, by conv => rhs; whnf⟩
  exact h.1
def reB3 : Stmt := by
  have h : {x : Stmt // x = (reBody.getD 3 default)} := ⟨_, by conv => rhs; whnf⟩
  exact h.1
def reB4 : Stmt := by
  have h : {x : Stmt // x = (reBody.getD 4 default)} := ⟨_, by conv => rhs; whnf⟩
  exact h.1
def reL0 : Stmt := by
  have h : {x : Stmt // x = (reLoop.getD 0 default)} := ⟨_, by conv => rhs; whnf⟩
  exact h.1
def reL1 : Stmt := by
  have h : {x : Stmt // x = (reLoop.getD 1 default)} := ⟨_, by conv => rhs; whnf⟩
  exact h.1
def rtB0 : Stmt := by
  have h : {x : Stmt // x = (rtBody.getD 0 default)} := ⟨_, by conv => rhs; whnf⟩
  exact h.1
def rtB1 : Stmt := by
  have h : {x : Stmt // x = (rtBody.getD 1 default)} := ⟨_, by conv => rhs; whnf⟩
  exact h.1
def rtB2 : Stmt := by
  have h : {x : Stmt // x = (rtBody.getD 2 default)} := ⟨_, by conv => rhs; whnf⟩
  exact h.1
def rtB3 : Stmt := by
  have h : {x : Stmt // x = (rtBody.getD 3 default)} := ⟨_, by conv => rhs; whnf⟩
  exact h.1
def rtL0 : Stmt := by
  have h : {x : Stmt // x = (rtLoop.getD 0 default)} := ⟨_, by conv => rhs; whnf⟩
  exact h.1
def rtL1 : Stmt := by
  have h : {x : Stmt // x = (rtLoop.getD 1 default)} := ⟨_, by conv => rhs; whnf⟩
  exact h.1
def rtL2 : Stmt := by
  have h : {x : Stmt // x = (rtLoop.getD 2 default)} := ⟨_, by conv => rhs; whnf⟩
  exact h.1
def aeB0 : Stmt := by
  have h : {x : Stmt // x = (aeBody.getD 0 default)} := ⟨_, by conv => rhs; whnf⟩
  exact h.1
def aeL0 : Stmt := by
  have h : {x : Stmt // x = (aeLoop.getD 0 default)} := ⟨_, by conv => rhs; whnf⟩
  exact h.1
def aeL1 : Stmt := by
  have h : {x : Stmt // x = (aeLoop.getD 1 default)} := ⟨_, by conv => rhs; whnf⟩
  exact h.1
def aeL2 : Stmt := by
  have h : {x : Stmt // x = (aeLoop.getD 2 default)} := ⟨_, by conv => rhs; whnf⟩
  exact h.1
def lawS0 : Stmt := by
  have h : {x : Stmt // x = (lawBody.getD 0 default)} := ⟨_, by conv => rhs; whnf⟩
  exact h.1
def lawS1 : Stmt := by
  have h : {x : Stmt // x = (lawBody.getD 1 default)} := ⟨_, by conv => rhs; whnf⟩
  exact h.1
def lawS2 : Stmt := by
  have h : {x : Stmt // x = (lawBody.getD 2 default)} := ⟨_, by conv => rhs; whnf⟩
  exact h.1
def lawS3 : Stmt := by
  have h : {x : Stmt // x = (lawBody.getD 3 default)} := ⟨_, by conv => rhs; whnf⟩
  exact h.1
def lawS4 : Stmt := by
  have h : {x : Stmt // x = (lawBody.getD 4 default)} := ⟨_, by conv => rhs; whnf⟩
  exact h.1
def lawS5 : Stmt := by
  have h : {x : Stmt // x = (lawBody.getD 5 default)} := ⟨_, by conv => rhs; whnf⟩
  exact h.1
def outS0 : Stmt := by
  have h : {x : Stmt // x = (outBody.getD 0 default)} := ⟨_, by conv => rhs; whnf⟩
  exact h.1
def outS1 : Stmt := by
  have h : {x : Stmt // x = (outBody.getD 1 default)} := ⟨_, by conv => rhs; whnf⟩
  exact h.1
def outS2 : Stmt := by
  have h : {x : Stmt // x = (outBody.getD 2 default)} := ⟨_, by conv => rhs; whnf⟩
  exact h.1
def outS3 : Stmt := by
  have h : {x : Stmt // x = (outBody.getD 3 default)} := ⟨_, by conv => rhs; whnf⟩
  exact h.1
def outS4 : Stmt := by
  have h : {x : Stmt // x = (outBody.getD 4 default)} := ⟨_, by conv => rhs; whnf⟩
  exact h.1
def outS5 : Stmt := by
  have h : {x : Stmt // x = (outBody.getD 5 default)} := ⟨_, by conv => rhs; whnf⟩
  exact h.1
def outS6 : Stmt := by
  have h : {x : Stmt // x = (outBody.getD 6 default)} := ⟨_, by conv => rhs; whnf⟩
  exact h.1
def outS7 : Stmt := by
  have h : {x : Stmt // x = (outBody.getD 7 default)} := ⟨_, by conv => rhs; whnf⟩
  exact h.1
def outS8 : Stmt := by
  have h : {x : Stmt // x = (outBody.getD 8 default)} := ⟨_, by conv => rhs; whnf⟩
  exact h.1
def inS0 : Stmt := by
  have h : {x : Stmt // x = (inBody.getD 0 default)} := ⟨_, by conv => rhs; whnf⟩
  exact h.1
def inS1 : Stmt := by
  have h : {x : Stmt // x = (inBody.getD 1 default)} := ⟨_, by conv => rhs; whnf⟩
  exact h.1
def inS2 : Stmt := by
  have h : {x : Stmt // x = (inBody.getD 2 default)} := ⟨_, by conv => rhs; whnf⟩
  exact h.1
def inS3 : Stmt := by
  have h : {x : Stmt // x = (inBody.getD 3 default)} := ⟨_, by conv => rhs; whnf⟩
  exact h.1
def inS4 : Stmt := by
  have h : {x : Stmt // x = (inBody.getD 4 default)} := ⟨_, by conv => rhs; whnf⟩
  exact h.1
def inS5 : Stmt := by
  have h : {x : Stmt // x = (inBody.getD 5 default)} := ⟨_, by conv => rhs; whnf⟩
  exact h.1
def inS6 : Stmt := by
  have h : {x : Stmt // x = (inBody.getD 6 default)} := ⟨_, by conv => rhs; whnf⟩
  exact h.1
def iniS0 : Stmt := by
  have h : {x : Stmt // x = (iniBody.getD 0 default)} := ⟨_, by conv => rhs; whnf⟩
  exact h.1
def iniS1 : Stmt := by
  have h : {x : Stmt // x = (iniBody.getD 1 default)} := ⟨_, by conv => rhs; whnf⟩
  exact h.1
def fdS0 : Stmt := by
  have h : {x : Stmt // x = (fdBody.getD 0 default)} := ⟨_, by conv => rhs; whnf⟩
  exact h.1
def fdS1 : Stmt := by
  have h : {x : Stmt // x = (fdBody.getD 1 default)} := ⟨_, by conv => rhs; whnf⟩
  exact h.1
def feS0 : Stmt := by
  have h : {x : Stmt // x = (feBody.getD 0 default)} := ⟨_, by conv => rhs; whnf⟩
  exact h.1
def feS1 : Stmt := by
  have h : {x : Stmt // x = (feBody.getD 1 default)} := ⟨_, by conv => rhs; whnf⟩
  exact h.1
def diS0 : Stmt := by
  have h : {x : Stmt // x = (diBody.getD 0 default)} := ⟨_, by conv => rhs; whnf⟩
  exact h.1
def stpS0 : Stmt := by
  have h : {x : Stmt // x = (stpBody.getD 0 default)} := ⟨_, by conv => rhs; whnf⟩
  exact h.1
def fedS0 : Stmt := by
  have h : {x : Stmt // x = (fedBody.getD 0 default)} := ⟨_, by conv => rhs; whnf⟩
  exact h.1
def endS0 : Stmt := by
  have h : {x : Stmt // x = (endBody.getD 0 default)} := ⟨_, by conv => rhs; whnf⟩
  exact h.1

theorem rlBody_eq : rlBody = [rlB0, rlB1, rlB2, rlB3, rlB4, rlB5, rlB6] := rfl
theorem rlLoop_eq : rlLoop = [rlL0, rlL1, rlL2, rlL3, rlL4, rlL5] := rfl
theorem reBody_eq : reBody = [reB0, reB1, reB2, reB3, reB4] := rfl
theorem reLoop_eq : reLoop = [reL0, reL1] := rfl
theorem rtBody_eq : rtBody = [rtB0, rtB1, rtB2, rtB3] := rfl
theorem rtLoop_eq : rtLoop = [rtL0, rtL1, rtL2] := rfl
theorem aeBody_eq : aeBody = [aeB0] := rfl
theorem aeLoop_eq : aeLoop = [aeL0, aeL1, aeL2] := rfl
theorem lawBody_eq : lawBody = [lawS0, lawS1, lawS2, lawS3, lawS4, lawS5] := rfl
theorem outBody_eq : outBody = [outS0, outS1, outS2, outS3, outS4, outS5, outS6, outS7, outS8] := rfl
theorem inBody_eq : inBody = [inS0, inS1, inS2, inS3, inS4, inS5, inS6] := rfl
theorem iniBody_eq : iniBody = [iniS0, iniS1] := rfl
theorem fdBody_eq : fdBody = [fdS0, fdS1] := rfl
theorem feBody_eq : feBody = [feS0, feS1] := rfl
end Mine
end
section
open PySem PySem.W PySem.Calls PyProof.Rows
namespace Mine
def tryAt (st : Stmt) : List Stmt × List ExceptHandler := match st with
  | .Try b h _ _ _ => (b, h)
  | _ => ([], [])
def fedTry : List Stmt := by
  have h : {x : List Stmt // x = (tryAt fedS0).1} := ⟨_, by conv => rhs; whnf⟩
  exact h.1
def fedHs : List ExceptHandler := by
  have h : {x : List ExceptHandler // x = (tryAt fedS0).2} := ⟨_, by conv => rhs; whnf⟩
  exact h.1
def endTry : List Stmt := by
  have h : {x : List Stmt // x = (tryAt endS0).1} := ⟨_, by conv => rhs; whnf⟩
  exact h.1
def endHs : List ExceptHandler := by
  have h : {x : List ExceptHandler // x = (tryAt endS0).2} := ⟨_, by conv => rhs; whnf⟩
  exact h.1
def stpTry : List Stmt := by
  have h : {x : List Stmt // x = (tryAt stpS0).1} := ⟨_, by conv => rhs; whnf⟩
  exact h.1
def stpHs : List ExceptHandler := by
  have h : {x : List ExceptHandler // x = (tryAt stpS0).2} := ⟨_, by conv => rhs; whnf⟩
  exact h.1
def fedT0 : Stmt := by
  have h : {x : Stmt // x = (fedTry.getD 0 default)} := ⟨_, by conv => rhs; whnf⟩
  exact h.1
def fedT1 : Stmt := by
  have h : {x : Stmt // x = (fedTry.getD 1 default)} := ⟨_, by conv => rhs; whnf⟩
  exact h.1
def endT0 : Stmt := by
  have h : {x : Stmt // x = (endTry.getD 0 default)} := ⟨_, by conv => rhs; whnf⟩
  exact h.1
def endT1 : Stmt := by
  have h : {x : Stmt // x = (endTry.getD 1 default)} := ⟨_, by conv => rhs; whnf⟩
  exact h.1
def stpT0 : Stmt := by
  have h : {x : Stmt // x = (stpTry.getD 0 default)} := ⟨_, by conv => rhs; whnf⟩
  exact h.1
def stpT1 : Stmt := by
  have h : {x : Stmt // x = (stpTry.getD 1 default)} := ⟨_, by conv => rhs; whnf⟩
  exact h.1
def suiteAt (l : List ExceptHandler) (n : Nat) : Stmt := match l[n]? with
  | some (.ExceptHandler _ _ (st :: _) _) => st
  | _ => default
def stpX0 : Stmt := by
  have h : {x : Stmt // x = (suiteAt stpHs 0)} := ⟨_, by conv => rhs; whnf⟩
  exact h.1
def stpX1 : Stmt := by
  have h : {x : Stmt // x = (suiteAt stpHs 1)} := ⟨_, by conv => rhs; whnf⟩
  exact h.1
def stpX2 : Stmt := by
  have h : {x : Stmt // x = (suiteAt stpHs 2)} := ⟨_, by conv => rhs; whnf⟩
  exact h.1
def stpX3 : Stmt := by
  have h : {x : Stmt // x = (suiteAt stpHs 3)} := ⟨_, by conv => rhs; whnf⟩
  exact h.1

theorem fedTry_eq : fedTry = [fedT0, fedT1] := rfl
theorem endTry_eq : endTry = [endT0, endT1] := rfl
theorem stpTry_eq : stpTry = [stpT0, stpT1] := rfl
end Mine
end
section
open PySem PySem.W PySem.Calls PyProof.Rows
namespace Mine
def o0Test : Expr := by
  have h : {x : Expr // x = (ifAt outBody 0).1} := ⟨_, by conv => rhs; whnf⟩
  exact h.1
def o0Body : List Stmt := by
  have h : {x : List Stmt // x = (ifAt outBody 0).2.1} := ⟨_, by conv => rhs; whnf⟩
  exact h.1
def o0S0 : Stmt := by
  have h : {x : Stmt // x = (o0Body.getD 0 default)} := ⟨_, by conv => rhs; whnf⟩
  exact h.1
def o0S1 : Stmt := by
  have h : {x : Stmt // x = (o0Body.getD 1 default)} := ⟨_, by conv => rhs; whnf⟩
  exact h.1
def o0S2 : Stmt := by
  have h : {x : Stmt // x = (o0Body.getD 2 default)} := ⟨_, by conv => rhs; whnf⟩
  exact h.1
def o1Test : Expr := by
  have h : {x : Expr // x = (ifAt outBody 1).1} := ⟨_, by conv => rhs; whnf⟩
  exact h.1
def o1Body : List Stmt := by
  have h : {x : List Stmt // x = (ifAt outBody 1).2.1} := ⟨_, by conv => rhs; whnf⟩
  exact h.1
def o1S0 : Stmt := by
  have h : {x : Stmt // x = (o1Body.getD 0 default)} := ⟨_, by conv => rhs; whnf⟩
  exact h.1
def o1S1 : Stmt := by
  have h : {x : Stmt // x = (o1Body.getD 1 default)} := ⟨_, by conv => rhs; whnf⟩
  exact h.1
def o4Test : Expr := by
  have h : {x : Expr // x = (ifAt outBody 4).1} := ⟨_, by conv => rhs; whnf⟩
  exact h.1
def o4Body : List Stmt := by
  have h : {x : List Stmt // x = (ifAt outBody 4).2.1} := ⟨_, by conv => rhs; whnf⟩
  exact h.1
def i2Test : Expr := by
  have h : {x : Expr // x = (ifAt inBody 2).1} := ⟨_, by conv => rhs; whnf⟩
  exact h.1
def i2Body : List Stmt := by
  have h : {x : List Stmt // x = (ifAt inBody 2).2.1} := ⟨_, by conv => rhs; whnf⟩
  exact h.1
def i5Test : Expr := by
  have h : {x : Expr // x = (ifAt inBody 5).1} := ⟨_, by conv => rhs; whnf⟩
  exact h.1
def i5Body : List Stmt := by
  have h : {x : List Stmt // x = (ifAt inBody 5).2.1} := ⟨_, by conv => rhs; whnf⟩
  exact h.1
def i6Test : Expr := by
  have h : {x : Expr // x = (ifAt inBody 6).1} := ⟨_, by conv => rhs; whnf⟩
  exact h.1
def i6Body : List Stmt := by
  have h : {x : List Stmt // x = (ifAt inBody 6).2.1} := ⟨_, by conv => rhs; whnf⟩
  exact h.1
def i6S0 : Stmt := by
  have h : {x : Stmt // x = (i6Body.getD 0 default)} := ⟨_, by conv => rhs; whnf⟩
  exact h.1
def i6S1 : Stmt := by
  have h : {x : Stmt // x = (i6Body.getD 1 default)} := ⟨_, by conv => rhs; whnf⟩
  exact h.1
def i7Test : Expr := by
  have h : {x : Expr // x = (ifAt i6Body 1).1} := ⟨_, by conv => rhs; whnf⟩
  exact h.1
def i7Body : List Stmt := by
  have h : {x : List Stmt // x = (ifAt i6Body 1).2.1} := ⟨_, by conv => rhs; whnf⟩
  exact h.1
def i7Else : List Stmt := by
  have h : {x : List Stmt // x = (ifAt i6Body 1).2.2} := ⟨_, by conv => rhs; whnf⟩
  exact h.1
def i7B0 : Stmt := by
  have h : {x : Stmt // x = (i7Body.getD 0 default)} := ⟨_, by conv => rhs; whnf⟩
  exact h.1
def i7B1 : Stmt := by
  have h : {x : Stmt // x = (i7Body.getD 1 default)} := ⟨_, by conv => rhs; whnf⟩
  exact h.1
def i7E0 : Stmt := by
  have h : {x : Stmt // x = (i7Else.getD 0 default)} := ⟨_, by conv => rhs; whnf⟩
  exact h.1
def i7E1 : Stmt := by
  have h : {x : Stmt // x = (i7Else.getD 1 default)} := ⟨_, by conv => rhs; whnf⟩
  exact h.1
def i7E2 : Stmt := by
  have h : {x : Stmt // x = (i7Else.getD 2 default)} := ⟨_, by conv => rhs; whnf⟩
  exact h.1
theorem o0Body_eq : o0Body = [o0S0, o0S1, o0S2] := rfl
theorem o1Body_eq : o1Body = [o1S0, o1S1] := rfl
theorem i6Body_eq : i6Body = [i6S0, i6S1] := rfl
theorem i7Body_eq : i7Body = [i7B0, i7B1] := rfl
theorem i7Else_eq : i7Else = [i7E0, i7E1, i7E2] := rfl
end Mine
end
section
open PySem PySem.W PySem.Calls PyProof.Rows
namespace Mine
def compAt (st : Stmt) : Expr × Scope := match st with
  | .Assign _ (.Call _ [.ListComp elt _ scope _] _ _) _ => (elt, scope)
  | _ => (default, default)
def elt1 : Expr := by
  have h : {x : Expr // x = (compAt o0S0).1} := ⟨_, by conv => rhs; whnf⟩
  exact h.1
def csc1 : Scope := by
  have h : {x : Scope // x = (compAt o0S0).2} := ⟨_, by conv => rhs; whnf⟩
  exact h.1
def elt2 : Expr := by
  have h : {x : Expr // x = (compAt i7E0).1} := ⟨_, by conv => rhs; whnf⟩
  exact h.1
def csc2 : Scope := by
  have h : {x : Scope // x = (compAt i7E0).2} := ⟨_, by conv => rhs; whnf⟩
  exact h.1
end Mine
end
section
open PySem PySem.W PySem.Calls PyProof.Rows
open PySem.Sem (wp)
namespace Mine

theorem exported_no (v : Value) : ∀ (c : Code) (p : Pos), holdsB c = false → (match (c, p) with
    | (.builtin "bytearray.__contains__" ⟨v' :: _, _⟩, _) | (.builtin "bytearray.__mod__" ⟨v' :: _, _⟩, _)
    | (.builtin "bytearray.__rmod__" ⟨_ :: v' :: _, _⟩, _) | (.builtin "_struct.pack_into.held" ⟨v' :: _, _⟩, _) => Builtin.Bytes.sameRef v' v
    | (.builtin "bytearray.find.held" ⟨_ :: _ :: held, _⟩, _) => held.any (Builtin.Bytes.sameRef v)
    | (.builtin id ⟨v' :: _, _⟩, _) => Builtin.Bytes.sameRef v' v && Builtin.Bytes.decodersThatHold.contains id
    | _ => false) = false := by
  intro c p h
  split
  · rename_i heq; cases heq; exact absurd h (by simp [holdsB, holdIds])
  · rename_i heq; cases heq; exact absurd h (by simp [holdsB, holdIds])
  · rename_i heq; cases heq; exact absurd h (by simp [holdsB, holdIds])
  · rename_i heq; cases heq; exact absurd h (by simp [holdsB, holdIds])
  · rename_i heq; cases heq; exact absurd h (by simp [holdsB, holdIds])
  · rename_i id v' t kw p' _ _ _ _ _ heq
    cases heq
    have h' : holdIds.contains id = false := h
    have : Builtin.Bytes.decodersThatHold.contains id = false := by
      simp only [holdIds, List.contains_append, Bool.or_eq_false_iff] at h'
      exact h'.1
    rw [this, Bool.and_false]
  · rfl

theorem any_clean {f : Code × Pos → Bool} (hf : ∀ c p, holdsB c = false → f (c, p) = false) {Γ : Ctx} {p : Pos} (c : Clean Γ) : ((Γ.code, p) :: Γ.below).any f = false := by
  rw [List.any_cons, hf _ _ c.1, Bool.false_or, List.any_eq_false]
  intro x hx
  rw [hf x.1 x.2 (c.2 x hx)]
  exact Bool.false_ne_true

theorem exported_C {M : Model} {A : Around} {E : Value → Shared → Prop} {s : Shared} {v : Value} {Q : Bool → Shared → Prop} (h : Q false s) : wpC M A (Builtin.Bytes.exported v) Q E s := by
  intro Γ p i c
  refine Eq.mpr (congrArg (fun b => Q b s) (any_clean (Γ := Γ) (p := p) (fun d q hd => ?_) c)) h
  exact exported_no v d q hd
end Mine
end
section
open PySem PySem.W PySem.Calls PyProof.Rows
open PySem.Sem (wp)
set_option maxRecDepth 100000
namespace Mine
/-! facts of the type bytearray -/
abbrev baObj (r : List UInt8) : Obj := { cls := .type "bytearray", data := .bytearray r.toArray }
theorem ba_slot_len : Slot "bytearray" "__len__" "bytearray.__len__" :=
  .of (owner := "bytearray") (n := "__len__") (by rw [typeLookup_type, builtinLookup_eq_fast]; kernel_rfl) (by decide +kernel) (by decide +kernel) (by decide +kernel)
    (by first | exact .inl (by decide +kernel) | exact .inr (by decide +kernel)) (by rw [isSubtype_type]; kernel_rfl)
theorem ba_entry_len : entryFor table "bytearray.__len__" = some Builtin.«bytearray.__len__» := entryFor_of_tree (by kernel_rfl)
theorem ba_args_len (a : Value) : argsOk "bytearray.__len__" ⟨[a], []⟩ := by unfold argsOk; kernel_rfl
theorem ba_slot_getitem : Slot "bytearray" "__getitem__" "bytearray.__getitem__" :=
  .of (owner := "bytearray") (n := "__getitem__") (by rw [typeLookup_type, builtinLookup_eq_fast]; kernel_rfl) (by decide +kernel) (by decide +kernel) (by decide +kernel)
    (by first | exact .inl (by decide +kernel) | exact .inr (by decide +kernel)) (by rw [isSubtype_type]; kernel_rfl)
theorem ba_entry_getitem : entryFor table "bytearray.__getitem__" = some Builtin.«bytearray.__getitem__» := entryFor_of_tree (by kernel_rfl)
theorem ba_args_getitem (a b : Value) : argsOk "bytearray.__getitem__" ⟨[a, b], []⟩ := by unfold argsOk; kernel_rfl
theorem ba_slot_delitem : Slot "bytearray" "__delitem__" "bytearray.__delitem__" :=
  .of (owner := "bytearray") (n := "__delitem__") (by rw [typeLookup_type, builtinLookup_eq_fast]; kernel_rfl) (by decide +kernel) (by decide +kernel) (by decide +kernel)
    (by first | exact .inl (by decide +kernel) | exact .inr (by decide +kernel)) (by rw [isSubtype_type]; kernel_rfl)
theorem ba_entry_delitem : entryFor table "bytearray.__delitem__" = some Builtin.«bytearray.__delitem__» := entryFor_of_tree (by kernel_rfl)
theorem ba_args_delitem (a b : Value) : argsOk "bytearray.__delitem__" ⟨[a, b], []⟩ := by unfold argsOk; kernel_rfl
theorem ba_slot_iadd : Slot "bytearray" "__iadd__" "bytearray.__iadd__" :=
  .of (owner := "bytearray") (n := "__iadd__") (by rw [typeLookup_type, builtinLookup_eq_fast]; kernel_rfl) (by decide +kernel) (by decide +kernel) (by decide +kernel)
    (by first | exact .inl (by decide +kernel) | exact .inr (by decide +kernel)) (by rw [isSubtype_type]; kernel_rfl)
theorem ba_entry_iadd : entryFor table "bytearray.__iadd__" = some Builtin.«bytearray.__iadd__» := entryFor_of_tree (by kernel_rfl)
theorem ba_args_iadd (a b : Value) : argsOk "bytearray.__iadd__" ⟨[a, b], []⟩ := by unfold argsOk; kernel_rfl
theorem ba_slot_init : Slot "bytearray" "__init__" "bytearray.__init__" :=
  .of (owner := "bytearray") (n := "__init__") (by rw [typeLookup_type, builtinLookup_eq_fast]; kernel_rfl) (by decide +kernel) (by decide +kernel) (by decide +kernel)
    (by first | exact .inl (by decide +kernel) | exact .inr (by decide +kernel)) (by rw [isSubtype_type]; kernel_rfl)
theorem ba_entry_init : entryFor table "bytearray.__init__" = some Builtin.«bytearray.__init__» := by first | exact entryFor_of_tree (by kernel_rfl) | exact entryFor_of_fast (by kernel_rfl)
theorem ba_args_init (a : Value) : argsOk "bytearray.__init__" ⟨[a], []⟩ := by unfold argsOk; kernel_rfl
theorem ba_slot_find : Slot "bytearray" "find" "bytearray.find" :=
  .of (owner := "bytearray") (n := "find") (by rw [typeLookup_type, builtinLookup_eq_fast]; kernel_rfl) (by decide +kernel) (by decide +kernel) (by decide +kernel)
    (by first | exact .inl (by decide +kernel) | exact .inr (by decide +kernel)) (by rw [isSubtype_type]; kernel_rfl)
theorem ba_type_find : typeOf (.builtin "bytearray.find") = pure (.type "method_descriptor") := by show builtinType _ = _; rw [builtinType_eq_fast]; kernel_rfl
theorem ba_entry_find : entryFor table "bytearray.find" = some Builtin.«bytearray.find» := by first | exact entryFor_of_tree (by kernel_rfl) | exact entryFor_of_fast (by kernel_rfl)
theorem ba_args_find (a b c : Value) : argsOk "bytearray.find" ⟨[a, b, c], []⟩ := by unfold argsOk; kernel_rfl
theorem ba_plainAttrs : PlainAttrs "bytearray" :=
  ⟨⟨"bytearray.__getattribute__", by rw [typeLookup_type, builtinLookup_eq_fast]; kernel_rfl, by decide +kernel⟩, by rw [typeLookup_type, builtinLookup_eq_fast]; kernel_rfl⟩
theorem ba_noBool : typeLookup (.type "bytearray") "__bool__" = pure none := by rw [typeLookup_type, builtinLookup_eq_fast]; kernel_rfl
theorem ba_noBytes : typeLookup (.type "bytearray") "__bytes__" = pure none := by rw [typeLookup_type, builtinLookup_eq_fast]; kernel_rfl
theorem ba_noIndex : typeLookup (.type "bytearray") "__index__" = pure none := by rw [typeLookup_type, builtinLookup_eq_fast]; kernel_rfl
theorem ba_look_buffer : typeLookup (.type "bytearray") "__buffer__" = pure (some (.builtin "bytearray.__buffer__")) := by rw [typeLookup_type, builtinLookup_eq_fast]; kernel_rfl
theorem ba_look_release : typeLookup (.type "bytearray") "__release_buffer__" = pure (some (.builtin "bytearray.__release_buffer__")) := by rw [typeLookup_type, builtinLookup_eq_fast]; kernel_rfl
theorem ba_sub : isSubtype (.type "bytearray") (.type "bytearray") = pure true := by rw [isSubtype_type]; kernel_rfl
theorem ba_sub_bool : isSubtype (.type "bytearray") (.type "bool") = pure false := by rw [isSubtype_type]; kernel_rfl
end Mine
end
section
open PySem PySem.W PySem.Calls PyProof.Rows
open PySem.Sem (wp)
set_option maxRecDepth 100000
namespace Mine
section
variable {prog : Program} {w : World} {A : Around} {E : Value → Shared → Prop} {s : Shared} {B : Addr} {r : List UInt8} {o : Obj}

theorem ba_payload {M : Model} {Q : Array UInt8 → Shared → Prop} (hB : s.heap.get? B = some o) (hd : o.data = .bytearray r.toArray) (h : Q r.toArray s) : wpAny M A (Builtin.Bytes.payload (.ref B)) Q E s := by
  unfold Builtin.Bytes.payload Builtin.Bytes.payload?
  refine wpAny_bind (wpAny_bind (wpAny_load hB ?_))
  rw [hd]
  exact wpAny_pure (wpAny_pure h)

theorem ba_len {Q : Value → Shared → Prop} (hB : s.heap.get? B = some (baObj r)) (hf : r.length ≤ 16777216)
    (h : Q (.int r.length (s.toks + 1)) { s with toks := s.toks + 1 + 1 }) : wpAny (model prog w) A (call (.builtin "len") [.ref B]) Q E s := by
  have hT : s.TypeIs (.ref B) "bytearray" := ⟨_, hB, rfl⟩
  refine call_len_meets (n := (r.length : Int)) (S := fun _ R s => s.heap.get? B = some (baObj r) ∧ R (.ok (.ret (.int r.length s.toks))) { s with toks := s.toks + 1 })
    hT ba_slot_len ba_entry_len (ba_args_len _) (.of_wp fun prog w A R s hS => ?_) (by omega) (by omega) (fun Q' q => ⟨hB, q⟩) h
  obtain ⟨hB, hS⟩ := hS
  show wpAny _ _ (Builtin.Bytes.payload (.ref B) >>= _) _ _ s
  refine wpAny_bind (ba_payload hB rfl ?_)
  refine wpAny_bind (wpAny_mkInt (wpAny_pure ⟨_, rfl, ?_⟩))
  simpa using hS

/-- len, as len() asks it inside bool() -/
theorem ba_truthy {Q : Bool → Shared → Prop} (hB : s.heap.get? B = some (baObj r)) (hf : r.length ≤ 16777216)
    (h : Q (!r.isEmpty) { s with toks := s.toks + 1 + 1 }) : wpAny (model prog w) A (truthy (.ref B)) Q E s := by
  have hT : s.TypeIs (.ref B) "bytearray" := ⟨_, hB, rfl⟩
  have hne : ((r.length : Int) != 0) = !r.isEmpty := by cases r <;> simp <;> omega
  have key : wpAny (model prog w) A (runValue (.builtin "len" ⟨[.ref B], []⟩)) (fun v s' => v = .int r.length (s.toks + 1) ∧ Q (!r.isEmpty) s') E s := by
    refine wpAny_runValue (codeAny_builtin entry_len ?_)
    rw [Around.under_plainId plain_len _]
    unfold Builtin.«len»
    refine wpAny_bind (m := oneArg "len" _) (wpAny_pure ?_)
    refine wpAny_bind (m := callSpecial? _ (Str.ofString "__len__")) (wpAny_callSpecial?_slot (name := Str.ofString "__len__") hT ba_slot_len (call_meets (S := fun _ R s => s.heap.get? B = some (baObj r) ∧ R (.ok (.ret (.int r.length s.toks))) { s with toks := s.toks + 1 }) ba_slot_len hT ba_entry_len (ba_args_len _) (.of_wp fun prog w A R s hS => ?_) ⟨hB, ?_⟩))
    · obtain ⟨hB, hS⟩ := hS
      show wpAny _ _ (Builtin.Bytes.payload (.ref B) >>= _) _ _ s
      refine wpAny_bind (ba_payload hB rfl ?_)
      refine wpAny_bind (wpAny_mkInt (wpAny_pure ⟨_, rfl, ?_⟩))
      simpa using hS
    · show wpAny _ _ _ _ _ { s with toks := s.toks + 1 }
      refine wpAny_bind (wpAny_holding (wpAny_pure ?_))
      refine wpAny_bind (wpAny_letGo ?_)
      show wpAny _ _ (if ((r.length : Nat) : Int) < 0 then _ else _) _ _ _
      rw [if_neg (by omega)]
      show wpAny _ _ (if ((r.length : Nat) : Int) ≥ 2 ^ 63 then _ else _) _ _ _
      rw [if_neg (by omega)]
      exact wpAny_bind (wpAny_mkInt (wpAny_pure ⟨rfl, h⟩))
  unfold truthy
  first
    | refine wpAny_bind (wpAny_callSpecial?_none (name := Str.ofString "__bool__") hT ba_noBool ?_)
    | refine wpAny_bind (wpAny_pure (wpAny_bind (wpAny_callSpecial?_none (name := Str.ofString "__bool__") hT ba_noBool ?_)))
  first
    | refine wpAny_bind (wpAny_specialOf (name := Str.ofString "__len__") hT ba_slot_len.lookup ?_)
    | refine wpAny_bind (wpAny_pure (wpAny_bind (wpAny_specialOf (name := Str.ofString "__len__") hT ba_slot_len.lookup ?_)))
  first
    | exact wpAny_bind (wpAny_mono key (fun v s' h' => by obtain ⟨rfl, hq⟩ := h'; exact wpAny_pure (hne ▸ hq)) fun _ _ e => e)
    | exact wpAny_bind (wpAny_pure (wpAny_bind (wpAny_mono key (fun v s' h' => by obtain ⟨rfl, hq⟩ := h'; exact wpAny_pure (hne ▸ hq)) fun _ _ e => e)))

theorem ba_getMethod_find {pl : Sem Bool} {Q : Value × List Value → Shared → Prop} (hB : s.heap.get? B = some (baObj r)) (h : Q (.builtin "bytearray.find", [.ref B]) s) :
    wpAny (model prog w) A (getMethod (.ref B) (Str.ofString "find") pl) Q E s :=
  getMethod_builtin (T := "bytearray") ⟨_, hB, rfl⟩ ba_plainAttrs ba_slot_find ba_type_find (fun a e => by cases e; exact ⟨_, hB, rfl⟩) h
end
end Mine
end
section
open PySem PySem.W PySem.Calls PyProof.Rows
open PySem.Sem (wp)
set_option maxRecDepth 100000
namespace Mine
/-- the first line feed at or behind p -/
def nlFrom (r : List UInt8) (p : Nat) : Option Nat := if 10 ∈ r.drop p then some (p + (r.drop p).idxOf 10) else none

theorem extract_one (r : List UInt8) (i : Nat) : ((r.toArray.extract i (i + 1) == #[10]) = true) ↔ r[i]? = some 10 := by
  rw [beq_iff_eq]
  constructor
  · intro h
    have h2 := congrArg Array.toList h
    simp [List.extract_eq_take_drop] at h2
    rw [List.take_one] at h2
    cases hd : (r.drop i).head? with
    | none => rw [hd] at h2; cases h2
    | some c =>
      rw [hd] at h2
      simp at h2
      rw [List.head?_drop] at hd
      rw [hd, h2]
  · intro h
    apply Array.toList_inj.mp
    simp [List.extract_eq_take_drop]
    rw [List.take_one, List.head?_drop, h]
    rfl

theorem find_nl (r : List UInt8) (p : Nat) (hp : p ≤ r.length) : Builtin.Bytes.find? r.toArray #[10] p r.length = nlFrom r p := by
  unfold Builtin.Bytes.find? nlFrom
  have hs : (#[(10 : UInt8)] : Array UInt8).size = 1 := rfl
  rw [hs]
  have hn : r.length + 1 - (p + 1) = r.length - p := by omega
  rw [hn]
  simp only [List.find?_map]
  have e : (fun i => r.toArray.extract i (i + 1) == #[10]) ∘ (fun x => x + p) = fun k => decide ((r.drop p)[k]? = some 10) := by
    funext k
    rw [Bool.eq_iff_iff]
    show ((r.toArray.extract (k + p) (k + p + 1) == #[10]) = true) ↔ _
    rw [extract_one, List.getElem?_drop, decide_eq_true_eq, Nat.add_comm]
  rw [e]
  generalize hd : r.drop p = d
  have hl : r.length - p = d.length := by rw [← hd, List.length_drop]
  rw [hl]
  clear hd hl e hn
  have key : ∀ d : List UInt8, (List.range d.length).find? (fun k => decide (d[k]? = some 10)) = if (10 : UInt8) ∈ d then some (d.idxOf 10) else none := by
    intro d
    induction d with
    | nil => rfl
    | cons c d ih =>
      rw [List.length_cons, List.range_succ_eq_map, List.find?_cons]
      by_cases hc : c = 10
      · subst hc
        simp
      · have h1 : decide ((c :: d)[0]? = some 10) = false := by simpa using hc
        rw [h1]
        simp only [List.find?_map]
        have e2 : (fun k => decide ((c :: d)[k]? = some 10)) ∘ Nat.succ = fun k => decide (d[k]? = some 10) := by
          funext k; simp
        rw [e2, ih]
        have hne : (10 : UInt8) ≠ c := fun h => hc h.symm
        by_cases hm : (10 : UInt8) ∈ d
        · have hb : (c == 10) = false := by simpa using hc
          simp [hm, List.idxOf_cons, hb]
        · simp [hm, hne]
  rw [key]
  split <;> simp [Nat.add_comm]

section
variable {prog : Program} {w : World} {A : Around} {E : Value → Shared → Prop} {s : Shared} {B : Addr} {r : List UInt8} {o : Obj}
def nlVal (r : List UInt8) (p : Nat) : Int := match nlFrom r p with | some i => (i : Int) | none => -1

theorem ba_find {Q : Value → Shared → Prop} {p : Nat} {t tp : Tok} (hB : s.heap.get? B = some (baObj r)) (hp : p ≤ r.length)
    (h : Q (.int (nlVal r p) s.toks) { s with toks := s.toks + 1 }) :
    wpAny (model prog w) A (call (.builtin "bytearray.find") [.ref B, .bytes [10].toArray t, .int p tp]) Q E s := by
  have hT : s.TypeIs (.ref B) "bytearray" := ⟨_, hB, rfl⟩
  refine call_meets (S := fun _ R s => s.heap.get? B = some (baObj r) ∧ R (.ok (.ret (.int (nlVal r p) s.toks))) { s with toks := s.toks + 1 }) ba_slot_find hT ba_entry_find (ba_args_find _ _ _) (.of_wp fun prog w A R s hS => ?_) ⟨hB, h⟩
  obtain ⟨hB, hS⟩ := hS
  unfold Builtin.«bytearray.find» Builtin.Bytes.searchM Builtin.Bytes.searchArgs
  refine wpAny_bind (wpAny_bind ?_)
  refine wpAny_of_eq (a := (Value.ref B, [Value.bytes [10].toArray t, Value.int p tp])) rfl ?_
  refine wpAny_bind ?_
  show wpAny _ _ (Builtin.Bytes.bound? (some (.int p tp))) _ _ _
  unfold Builtin.Bytes.bound?
  refine wpAny_bind (wpAny_specialOf (T := "int") (typeIs_int _ _ _) F.slot_int_index.lookup ?_)
  refine wpAny_ite (KBy.ite_no (show ¬ (Option.isNone (some _) = true) from Bool.false_ne_true) ?_)
  refine wpAny_bind (wpAny_of_eq rfl (wpAny_pure ?_))
  refine wpAny_bind (wpAny_of_eq (a := none) rfl ?_)
  refine wpAny_bind (wpAny_of_eq KBy.buffer_eq ?_)
  refine wpAny_bind (wpAny_pure ?_)
  refine wpAny_bind (ba_payload hB rfl ?_)
  refine wpAny_pure ?_
  have hw : Builtin.Bytes.window r.toArray.size (some (p : Int)) none = ((p : Int), (r.length : Int)) := by
    unfold Builtin.Bytes.window
    have h1 : ¬ (p : Int) < 0 := by omega
    have h2 : ¬ (r.toArray.size : Int) < 0 := by omega
    have h3 : ¬ (r.length : Int) < 0 := by omega
    simp only [Option.getD_some, Option.getD_none, h1, h3, if_false, List.size_toArray]
    simp
  show wpAny _ _ (match (Option.bind (if (Builtin.Bytes.window r.toArray.size (some (p : Int)) none).2 - (Builtin.Bytes.window r.toArray.size (some (p : Int)) none).1 < ((#[(10 : UInt8)] : Array UInt8).size : Int) then none else some ((Builtin.Bytes.window r.toArray.size (some (p : Int)) none).1.toNat, (Builtin.Bytes.window r.toArray.size (some (p : Int)) none).2.toNat)) (fun x => Builtin.Bytes.find? r.toArray #[10] x.1 x.2) : Option Nat) with | some i => retInt (i : Int) | none => (rule _ >>= fun _ => retInt (-1))) _ _ _
  rw [hw]
  by_cases hlt : (r.length : Int) - (p : Int) < ((#[(10 : UInt8)] : Array UInt8).size : Int)
  · rw [if_pos hlt]
    have hd : r.drop p = [] := by
      have : (#[(10 : UInt8)] : Array UInt8).size = 1 := rfl
      rw [this] at hlt
      apply List.drop_eq_nil_of_le; omega
    have hv : nlVal r p = -1 := by unfold nlVal nlFrom; rw [hd]; rfl
    rw [hv] at hS
    refine wpAny_bind (wpAny_rule ?_)
    exact wpAny_bind (wpAny_mkInt (wpAny_pure ⟨_, rfl, hS⟩))
  · rw [if_neg hlt]
    simp only [Option.bind_some, Int.toNat_natCast]
    rw [find_nl r p hp]
    unfold nlVal at hS
    cases hn : nlFrom r p with
    | some i =>
      rw [hn] at hS
      exact wpAny_bind (wpAny_mkInt (wpAny_pure ⟨_, rfl, hS⟩))
    | none =>
      rw [hn] at hS
      refine wpAny_bind (wpAny_rule ?_)
      exact wpAny_bind (wpAny_mkInt (wpAny_pure ⟨_, rfl, hS⟩))
end
end Mine
end
section
open PySem PySem.W PySem.Calls PyProof.Rows
open PySem.Sem (wp)
set_option maxRecDepth 100000
namespace Mine
/-! slices of a bytearray: [:n] and [:], read and deleted -/
inductive Cut : List UInt8 → Option Int → Nat → Prop where
  | upTo (r : List UInt8) (n : Nat) : n ≤ r.length → Cut r (some (n : Int)) n
  | all (r : List UInt8) : Cut r none r.length

theorem Cut.bounds {r : List UInt8} {hi : Option Int} {n : Nat} (c : Cut r hi n) : sliceBounds none hi none r.toArray.size = (0, (n : Int), 1) := by
  cases c with
  | upTo n h =>
    unfold sliceBounds
    have h1 : ¬ (n : Int) < 0 := by omega
    simp only [Option.getD_none, List.size_toArray, h1, if_false]
    simp
    omega
  | all => unfold sliceBounds; simp
theorem Cut.le {r : List UInt8} {hi : Option Int} {n : Nat} (c : Cut r hi n) : n ≤ r.length := by
  cases c with
  | upTo n h => exact h
  | all => exact Nat.le_refl _

theorem sliced_take (r : List UInt8) (n : Nat) (h : n ≤ r.length) : Builtin.Bytes.sliced r.toArray 0 (n : Int) 1 = (r.take n).toArray := by
  have e := KBc.picked_eq r.toArray none (some (n : Int))
  unfold KBy.picked at e
  rw [(Cut.upTo r n h).bounds] at e
  rw [e]
  have hc : clipAt r.toArray.size (n : Int) = n := by
    rw [clipAt_nat]; simp; omega
  simp only [Option.elim_none, Option.elim_some, List.drop_zero, Nat.sub_zero, hc]

theorem selects_one (n i : Nat) : Builtin.Bytes.selects 0 (n : Int) 1 i = decide (i < n) := by
  unfold Builtin.Bytes.selects
  simp

theorem del_take (r : List UInt8) (n : Nat) : ∀ i, ((r.zipIdx i).filterMap fun x => if Builtin.Bytes.selects 0 (n : Int) 1 x.2 = true then none else some x.1) = r.drop (n - i) := by
  induction r with
  | nil => intro i; simp
  | cons c r ih =>
    intro i
    rw [List.zipIdx_cons, List.filterMap_cons]
    simp only [selects_one, decide_eq_true_eq] at ih ⊢
    by_cases h : i < n
    · rw [if_pos h]
      have e : n - i = (n - (i + 1)) + 1 := by omega
      rw [e, List.drop_succ_cons]
      exact ih (i + 1)
    · rw [if_neg h]
      have e1 : n - i = 0 := by omega
      have e2 : n - (i + 1) = 0 := by omega
      rw [e1, List.drop_zero]
      have := ih (i + 1)
      rw [e2, List.drop_zero] at this
      simp only
      rw [this]

section
variable {prog : Program} {w : World} {A : Around} {E : Value → Shared → Prop} {s : Shared} {B a : Addr} {r : List UInt8} {o : Obj} {u : Value} {hi : Option Int} {n : Nat}

theorem ba_parts {Q : Value × Value × Value → Shared → Prop} (hS : s.heap.IsSliceOf a .none u .none) (hu : IsPart u hi)
    (h : Q (rawPart none, rawPart hi, rawPart none) s) : wpAny (model prog w) A (Builtin.Bytes.sliceParts (.ref a)) Q E s := by
  obtain ⟨os, ho, hc, hd⟩ := hS
  unfold Builtin.Bytes.sliceParts
  refine wpAny_bind (wpAny_field (x := .none) ho hd rfl ?_)
  kby_none
  refine wpAny_ite (KBy.ite_no (show ¬ ((Value.none == rawInt 0) = true) from Bool.false_ne_true) ?_)
  refine wpAny_bind (wpAny_field (x := .none) ho hd rfl ?_)
  kby_none
  refine wpAny_bind (wpAny_field (x := u) ho hd rfl ?_)
  cases hu <;> (first | kby_none | kby_int) <;> exact wpAny_pure h

theorem ba_getslice_meets (c : Cut r hi n) (hu : IsPart u hi) (hz : r.length ≤ 16777216) :
    Meets (Builtin.«bytearray.__getitem__» ⟨[.ref B, .ref a], []⟩) (fun _ R s => s.heap.IsSliceOf a .none u .none ∧ s.heap.get? B = some (baObj r) ∧
      R (.ok (.ret (.ref s.heap.objs.size))) { s with heap := s.heap.push (baObj (r.take n)) }) := by
  refine .of_wp fun prog w A R s hS => ?_
  obtain ⟨hsl, hB, h⟩ := hS
  have hT : s.TypeIs (.ref a) "slice" := let ⟨o, ho, hc, _⟩ := hsl; ⟨o, ho, hc⟩
  unfold Builtin.«bytearray.__getitem__»
  refine wpAny_bind (wpAny_of_eq (a := (Value.ref B, [Value.ref a])) rfl ?_)
  show wpAny _ _ (Builtin.Bytes.subscript? (.ref a) >>= fun r => _) _ _ s
  refine wpAny_bind ?_
  unfold Builtin.Bytes.subscript?
  refine wpAny_bind (wpAny_specialOf hT slice_no_index (wpAny_pure ?_))
  refine wpAny_bind (wpAny_typeOf hT ?_)
  show wpAny _ _ (Builtin.Bytes.sliceParts (.ref a) >>= fun r => _) _ _ s
  refine wpAny_bind (ba_parts hsl hu ?_)
  show wpAny _ _ (Builtin.Bytes.payload (.ref B) >>= fun r => _) _ _ s
  refine wpAny_bind (ba_payload hB rfl ?_)
  refine wpAny_bind (wpAny_of_eq (sliceIndices_raw none hi none r.toArray.size (fun e => nomatch e)) ?_)
  rw [c.bounds]
  show wpAny _ _ (Builtin.Bytes.newBytearray (Builtin.Bytes.sliced r.toArray 0 (n : Int) 1) >>= fun v => ret v) _ _ s
  rw [sliced_take r n c.le]
  refine wpAny_bind ?_
  unfold Builtin.Bytes.newBytearray
  refine wpAny_newObj_type (wpAny_pure ⟨_, rfl, h⟩) ?_
  show (r.take n).toArray.size ≤ sizeLine
  rw [sizeLine_eq]; simp; omega
end
end Mine
end
section
open PySem PySem.W PySem.Calls PyProof.Rows
open PySem.Sem (wp)
set_option maxRecDepth 100000
namespace Mine
section
variable {prog : Program} {w : World} {A : Around} {E : Value → Shared → Prop} {s : Shared} {B a : Addr} {r : List UInt8} {o : Obj} {u : Value} {hi : Option Int} {n : Nat}

/-- b[:n], b[:] -/
theorem ba_getslice {value slice : Expr} {Q : Value → Shared → Prop} (c : Cut r hi n) (hu : IsPart u hi) (hz : r.length ≤ 16777216) (hS : s.heap.IsSliceOf a .none u .none) (hB : s.heap.get? B = some (baObj r))
    (h : Q (.ref s.heap.objs.size) { s with heap := s.heap.push (baObj (r.take n)) })
    (hs : subscripted slice false (.ref B) (.ref a) = operate [.ref a, .ref B] (getItem (.ref B) (.ref a)) := by with_unfolding_all rfl) :
    wpAny (model prog w) A (subscriptTail value slice (.ref B) (.ref a)) Q E s :=
  tail_any (T := "bytearray") ⟨_, hB, rfl⟩ ba_slot_getitem.lookup
    (getItem_meets (T := "bytearray") ⟨_, hB, rfl⟩ (by decide) ba_slot_getitem ba_entry_getitem (ba_args_getitem _ _) (ba_getslice_meets c hu hz) ⟨hS, hB, h⟩) hs

theorem wpC_ite {α : Type} {M : Model} {c : Prop} [Decidable c] {x y : Sem α} {Q : α → Shared → Prop} (h1 : c → wpC M A x Q E s) (h2 : ¬ c → wpC M A y Q E s) : wpC M A (if c then x else y) Q E s := by
  split
  · exact h1 (by assumption)
  · exact h2 (by assumption)
theorem ba_exports {M : Model} {Q : Nat → Shared → Prop} (hB : s.heap.get? B = some (baObj r)) (h : Q 0 s) : wpAny M A (Builtin.Bytes.exportsOf (.ref B)) Q E s := by
  unfold Builtin.Bytes.exportsOf
  refine wpAny_bind (wpAny_load hB ?_)
  exact wpAny_pure h

theorem ba_checkResize {M : Model} {Q : Unit → Shared → Prop} (hB : s.heap.get? B = some (baObj r)) (h : Q () s) : wpC M A (Builtin.Bytes.checkResize (.ref B)) Q E s := by
  unfold Builtin.Bytes.checkResize
  refine wpC_bind ?_
  show wpC _ _ (Builtin.Bytes.exported (.ref B) >>= fun b => _) _ _ _
  refine wpC_bind (exported_C ?_)
  show wpC _ _ (Builtin.Bytes.exportsOf (.ref B) >>= fun n => pure (decide (n > 0))) _ _ _
  refine wpC_bind (wpC_any (ba_exports hB ?_))
  refine wpC_pure ?_
  exact wpC_pure h

theorem ba_write {M : Model} {Q : Unit → Shared → Prop} {f : Array UInt8 → Array UInt8} {r' : List UInt8} (hB : s.heap.get? B = some (baObj r)) (e : f r.toArray = r'.toArray) (hz : r'.length ≤ 16777216)
    (h : ∀ h', Heap.SameBut B s.heap h' → h'.get? B = some (baObj r') → Q () { s with heap := h' }) : wpAny M A (Builtin.Bytes.write (.ref B) f) Q E s := by
  unfold Builtin.Bytes.write updateBytearray
  refine wpAny_bind (wpAny_load hB ?_)
  show wpAny _ _ (update B (Obj.mapBytearray f) >>= fun _ => lookBehind B) _ _ _
  have hB' : (s.heap.update B (Obj.mapBytearray f)).get? B = some (baObj r') := by
    rw [show baObj r' = Obj.mapBytearray f (baObj r) from by show _ = ({ cls := _, data := .bytearray (f r.toArray) } : Obj); rw [e]]
    exact Heap.get?_update_self (Obj.mapBytearray f) hB (by show _ = false; rfl)
  refine wpAny_bind (wpAny_update hB (wpAny_lookBehind hB' ?_ ?_))
  · show (if r'.toArray.size > sizeLine then some "bytearray:memory" else none) = none
    rw [if_neg]
    rw [sizeLine_eq]; simp; exact hz
  · exact h _ (.update ..) hB'

theorem ba_del_body {Q : Fin → Shared → Prop} (c : Cut r hi n) (hu : IsPart u hi) (hz : r.length ≤ 16777216) (hS : s.heap.IsSliceOf a .none u .none) (hB : s.heap.get? B = some (baObj r))
    (h : ∀ h', Heap.SameBut B s.heap h' → h'.get? B = some (baObj (r.drop n)) → Q (.done (.ret .none)) { s with heap := h' }) :
    wpC (model prog w) A (Builtin.«bytearray.__delitem__» ⟨[.ref B, .ref a], []⟩) Q E s := by
  have hT : s.TypeIs (.ref a) "slice" := let ⟨o, ho, hc, _⟩ := hS; ⟨o, ho, hc⟩
  unfold Builtin.«bytearray.__delitem__»
  refine wpC_bind (wpC_any (wpAny_of_eq (a := (Value.ref B, [Value.ref a])) rfl ?_))
  show wpC _ _ (Builtin.Bytes.subscript? (.ref a) >>= fun r => _) _ _ s
  refine wpC_bind (wpC_any ?_)
  unfold Builtin.Bytes.subscript?
  refine wpAny_bind (wpAny_specialOf hT slice_no_index (wpAny_pure ?_))
  refine wpC_bind (wpC_any (wpAny_typeOf hT ?_))
  show wpC _ _ (Builtin.Bytes.sliceParts (.ref a) >>= fun r => _) _ _ s
  refine wpC_bind (wpC_any (ba_parts hS hu ?_))
  show wpC _ _ (Builtin.Bytes.payload (.ref B) >>= fun r => _) _ _ s
  refine wpC_bind (wpC_any (ba_payload hB rfl ?_))
  refine wpC_bind (wpC_any (wpAny_of_eq (sliceIndices_raw none hi none r.toArray.size (fun e => nomatch e)) ?_))
  rw [c.bounds]
  refine wpC_bind (wpC_any (wpAny_rule ?_))
  dsimp only
  refine wpC_ite (fun _ => wpC_bind (ba_checkResize hB ?_)) (fun _ => ?_)
  all_goals
    refine wpC_bind (wpC_any ?_)
    show wpAny _ _ (Builtin.Bytes.write (.ref B) _) _ _ _
    refine ba_write (r' := r.drop n) hB (congrArg List.toArray ((del_take r n 0).trans (by rw [Nat.sub_zero]))) (by simp; omega) (fun h' hs hb => ?_)
    exact wpC_pure (h h' hs hb)
end
end Mine
end
section
open PySem PySem.W PySem.Calls PyProof.Rows
open PySem.Sem (wp)
set_option maxRecDepth 100000
namespace Mine
/-! built-in calls over clean contexts -/
section
variable {prog : Program} {w : World} {A : Around} {E : Value → Shared → Prop} {s : Shared}

theorem codeC_builtin {R : Result → Shared → Prop} {id : String} {args : Args} {b : Builtin} (hn : holdsB (.builtin id args) = false) (hb : entryFor table id = some b)
    (h : wpC (model prog w) (A.under (.builtin id args)) (b args)
      (fun fin s' => match fin with | .done f => R (.ok f) s' | .again c' => c'.quiet = true ∧ codeC (model prog w) A c' R s') (fun e s' => R (.error e) s') s) :
    codeC (model prog w) A (.builtin id args) R s := by
  refine codeC_of_tree hn ?_
  show wpC _ _ (match entryFor table id with | some b => b args | none => unsupported ((withoutEnding? id "#data").getD id)) _ _ s
  rw [hb]; exact h

theorem wpC_call_slot {T : String} {name : Str} {id : String} {b : Builtin} {self : Value} {rest : List Value} {Q : Value → Shared → Prop} (slot : Slot T name id) (hn : holdsB (.builtin id ⟨self :: rest, []⟩) = false) (hT : s.TypeIs self T)
    (hb : entryFor table id = some b) (ha : argsOk id ⟨self :: rest, []⟩)
    (h : wpC (model prog w) A.in1 (b ⟨self :: rest, []⟩) (fun fin s' => ∃ v, fin = .done (.ret v) ∧ Q v s') E s) :
    wpC (model prog w) A (call (.builtin id) (self :: rest)) Q E s := by
  refine wpC_call (codeC_of_tree rfl ?_)
  show wpC _ A.in1 (do checkBuiltinCall id ⟨self :: rest, []⟩; again (.builtin id ⟨self :: rest, []⟩)) _ _ s
  refine wpC_bind (wpC_any (slot.check _ _ _ _ _ _ _ _ hT ha ?_))
  refine wpC_pure ⟨plainId_quiet slot.plain _, codeC_builtin hn hb ?_⟩
  rw [Around.under_plainId slot.plain _]
  refine wpC_mono h (fun fin s' hf => ?_) fun _ _ x => x
  obtain ⟨v, rfl, hv⟩ := hf
  exact hv

theorem wpC_callSpecial_slot {M : Model} {self : Value} {T : String} {name : Str} {id : String} {args : List Value}
    {Q : Option Value → Shared → Prop} (hT : s.TypeIs self T) (h : Slot T name id)
    (hc : wpC M A (call (.builtin id) (self :: args)) (fun v => Q (some v)) E s) : wpC M A (callSpecial? self name args) Q E s := by
  simp only [callSpecial?]
  refine wpC_bind (wpC_any (wpAny_specialOf hT h.lookup ?_))
  simp only [h.bind]
  exact wpC_holding (wpC_bind (wpC_pure (wpC_bind (wpC_mono hc (fun v s' h' => wpC_pure h') fun _ _ h' => h'))))

theorem wpC_delItem {o i : Value} {T id : String} {Q : Unit → Shared → Prop} (hT : s.TypeIs o T) (hn : seqItemTypes.contains T = false) (slot : Slot T "__delitem__" id)
    (hc : wpC (model prog w) A (call (.builtin id) [o, i]) (fun _ s' => Q () s') E s) : wpC (model prog w) A (delItem o i) Q E s := by
  unfold delItem
  refine wpC_holding ?_
  refine wpC_bind (wpC_any (wpAny_sequenceKey hT hn ?_))
  exact wpC_bind (wpC_callSpecial_slot hT slot (wpC_mono hc (fun v s' h' => wpC_pure h') fun _ _ e => e))

/-- del b[:n], del b[:] -/
theorem ba_delslice {B a : Addr} {r : List UInt8} {u : Value} {hi : Option Int} {n : Nat} {Q : Unit → Shared → Prop} (c : Cut r hi n) (hu : IsPart u hi) (hz : r.length ≤ 16777216) (hS : s.heap.IsSliceOf a .none u .none) (hB : s.heap.get? B = some (baObj r))
    (h : ∀ h', Heap.SameBut B s.heap h' → h'.get? B = some (baObj (r.drop n)) → Q () { s with heap := h' }) :
    wpC (model prog w) A (delItem (.ref B) (.ref a)) Q E s :=
  wpC_delItem (T := "bytearray") ⟨_, hB, rfl⟩ (by decide) ba_slot_delitem
    (wpC_call_slot (T := "bytearray") ba_slot_delitem rfl ⟨_, hB, rfl⟩ ba_entry_delitem (ba_args_delitem _ _)
      (ba_del_body c hu hz hS hB fun h' hs hb => ⟨_, rfl, h h' hs hb⟩))

theorem ba_fillI : fillsInplaceSlot (.type "bytearray") "add" true = pure false := by
  unfold fillsInplaceSlot
  show (typeLookup (.type "bytearray") (dunderI "add") >>= fun fi => pure (fi.isSome && !isSeqSlot fi)) = _
  rw [show typeLookup (.type "bytearray") (dunderI "add") = pure (some (.builtin "bytearray.__iadd__")) from by rw [typeLookup_type, builtinLookup_eq_fast]; kernel_rfl, pure_bind]
  kernel_rfl
theorem ba_fillN : fillsNumberSlot (.type "bytearray") "add" = pure false :=
  PySem.fillsNumberSlot_seq (id := "bytearray.__add__") (r := none) (by rw [typeLookup_type, builtinLookup_eq_fast]; kernel_rfl) (by decide +kernel) (by rw [typeLookup_type, builtinLookup_eq_fast]; kernel_rfl) rfl
theorem ba_seqI : seqSlot? (.type "bytearray") (dunderI "add") = pure (some (.builtin "bytearray.__iadd__")) :=
  PySem.seqSlot_of (by rw [typeLookup_type, builtinLookup_eq_fast]; kernel_rfl) (by decide +kernel)

theorem wpAny_binaryOp1_neither {M : Model} {a b : Value} {T U nm : String} {Q : Option Value → Shared → Prop} (hTU : (Value.type T == Value.type U) = false) (ha : s.TypeIs a T) (hb : s.TypeIs b U)
    (hfT : fillsNumberSlot (.type T) nm = pure false) (hfU : fillsNumberSlot (.type U) nm = pure false) (h : Q none s) : wpAny M A (binaryOp1 nm a b) Q E s := by
  simp only [binaryOp1]
  refine wpAny_bind (wpAny_typeOf ha (wpAny_bind (wpAny_typeOf hb (wpAny_bind (wpAny_of_eq hfT ?_)))))
  simp only [hTU, Bool.false_eq_true, if_false]
  refine wpAny_bind (wpAny_of_eq hfU ?_)
  simp only [pure_bind, Bool.false_and, Bool.and_false, Bool.false_eq_true, if_false]
  exact wpAny_pure h

theorem ba_take {M : Model} {id : String} {d : Array UInt8} {t : Tok} {Q : Option (Array UInt8 × Option Value) → Shared → Prop} (h : Q (some (d, none)) s) :
    wpAny M A (Builtin.Bytes.takeBufferQuiet? id (.bytes d t) 0) Q E s := by
  have e0 : ((0 : Int) == Builtin.Bytes.fullReadOnly) = false := by decide +kernel
  have e : Builtin.Bytes.takeBuffer? id (.bytes d t) 0 = pure (some (d, none)) := by
    unfold Builtin.Bytes.takeBuffer?
    rw [KBy.special_eq KBy.look_buffer, KBy.own_buffer]
    simp only [pure_bind, e0, Bool.not_true, Bool.false_eq_true, if_false]
    rw [KBy.buffer_eq]
    rfl
  unfold Builtin.Bytes.takeBufferQuiet?
  rw [e]
  exact wpAny_bind (wpAny_attempt (wpAny_pure (wpAny_pure h)))

/-- b += bytes -/
theorem ba_iadd {B : Addr} {r d : List UInt8} {t : Tok} {Q : Value → Shared → Prop} (hz : r.length + d.length ≤ 16777216) (hB : s.heap.get? B = some (baObj r))
    (h : ∀ h', Heap.SameBut B s.heap h' → h'.get? B = some (baObj (r ++ d)) → Q (.ref B) { s with heap := h' }) :
    wpC (model prog w) A (inplaceOp .Add (.ref B) (.bytes d.toArray t)) Q E s := by
  have hT : s.TypeIs (.ref B) "bytearray" := ⟨_, hB, rfl⟩
  unfold inplaceOp
  refine wpC_holding ?_
  refine wpC_bind (wpC_any (wpAny_typeOf hT ?_))
  refine wpC_bind (wpC_any (wpAny_of_eq ba_fillI ?_))
  refine wpC_ite (fun e => absurd e Bool.false_ne_true) fun _ => ?_
  refine wpC_bind (wpC_any (wpAny_binaryOp1_neither (nm := "add") (T := "bytearray") (U := "bytes") (by decide) hT (typeIs_bytes _ _ _) ba_fillN KBy.noFill_bytes_add ?_))
  refine wpC_bind (wpC_any (wpAny_of_eq ba_seqI ?_))
  refine wpC_bind (wpC_any (wpAny_rule ?_))
  refine wpC_call_slot (T := "bytearray") ba_slot_iadd rfl hT ba_entry_iadd (ba_args_iadd _ _) ?_
  unfold Builtin.«bytearray.__iadd__»
  refine wpC_bind (wpC_any (wpAny_of_eq (a := (Value.ref B, [Value.bytes d.toArray t])) rfl ?_))
  show wpC _ _ (Builtin.Bytes.takeBufferQuiet? "bytearray.__iadd__" (.bytes d.toArray t) 0 >>= fun r => _) _ _ _
  refine wpC_bind (wpC_any (ba_take ?_))
  unfold Builtin.Bytes.thenGiveBack
  dsimp only
  have fin : wpC (model prog w) A.in1 (Builtin.Bytes.payload (.ref B) >>= fun b => if Builtin.Bytes.tooLong (b.size + d.toArray.size) = true then unsupported "bytearray.__iadd__:memory" else Builtin.Bytes.write (.ref B) (fun x => x ++ d.toArray) >>= fun _ => ret (.ref B)) (fun fin s' => ∃ v, fin = .done (.ret v) ∧ Q v s') E s := by
    refine wpC_bind (wpC_any (ba_payload hB rfl ?_))
    rw [KBy.tooLong_not (by simp; exact hz)]
    refine wpC_ite (fun e => absurd e Bool.false_ne_true) fun _ => ?_
    refine wpC_bind (wpC_any (ba_write (r' := r ++ d) hB (by simp) (by simp; exact hz) fun h' hs hb => ?_))
    exact wpC_pure ⟨_, rfl, h h' hs hb⟩
  refine wpC_ite (fun _ => ?_) (fun _ => ?_)
  · refine wpC_ite (fun e => absurd e Bool.false_ne_true) fun _ => ?_
    exact wpC_bind (ba_checkResize hB fin)
  · exact fin
end
end Mine
end
section
open PySem PySem.W PySem.Calls PyProof.Rows
open PySem.Sem (wp)
set_option maxRecDepth 1000000
namespace Mine
/-! bytearray() -/
theorem ba_mro : mroOf (.type "bytearray") = pure [.type "bytearray", .type "object"] := by rw [mroOf_type]; kernel_rfl
theorem ba_lookup_new : typeLookup (.type "bytearray") "__new__" = pure (some (.builtin "bytearray.__new__")) := by rw [typeLookup_type, builtinLookup_eq_fast]; kernel_rfl
theorem ba_made : Bind.madeBy (.type "bytearray") = pure (some "bytearray.__new__") := madeBy_type ba_mro ba_lookup_new (by decide +kernel)
theorem ba_plain_new : plainId "bytearray.__new__" = true := by decide +kernel
theorem ba_entry_new : entryFor table "bytearray.__new__" = some Builtin.«list.__new__» := entryFor_alias (id' := "list.__new__") (by kernel_rfl) (by kernel_rfl) (by kernel_rfl) (by kernel_rfl)
theorem ba_typeCall : checkTypeCall "bytearray" ⟨[], []⟩ = pure () := by kernel_rfl
theorem ba_newCall : checkBuiltinCall "bytearray.__new__" ⟨[.type "bytearray"], []⟩ = pure () := by kernel_rfl
set_option maxHeartbeats 4000000 in
theorem ba_owner_new : ("bytearray.__new__".splitOn ".__new__").headD "" = "bytearray" := by simp +decide [String.splitOn, String.splitOnAux]
theorem ba_canCreate : ((Manifest.find? "bytearray").bind (·.mro.findSome? fun t => (Manifest.find? t).bind fun b => if b.noNew then some true else if b.attrs.any (·.1 == "__new__") then some false else none)).getD false = false := by decide +kernel
section
variable {prog : Program} {w : World} {A : Around} {E : Value → Shared → Prop} {s : Shared}

theorem ba_code_new {Q₁ : Value → Shared → Prop}
    (h : Q₁ (.ref s.heap.objs.size) { s with heap := s.heap.push (baObj []) }) :
    codeAny (model prog w) A (.call (.builtin "bytearray.__new__") ⟨[.type "bytearray"], []⟩) (wants Q₁ E) s := by
  refine codeAny_of_tree ?_
  show wpAny _ A.in1 (do checkBuiltinCall "bytearray.__new__" ⟨[.type "bytearray"], []⟩; again (.builtin "bytearray.__new__" ⟨[.type "bytearray"], []⟩)) _ _ s
  refine wpAny_bind (wpAny_of_eq ba_newCall (wpAny_pure ⟨plainId_quiet ba_plain_new _, codeAny_builtin_stack ba_entry_new rfl fun p st => ?_⟩))
  rw [Around.under_plainId ba_plain_new _]
  have hsub := ba_sub
  have hown := ba_owner_new
  obtain ⟨hp, g, d, tk, os⟩ := s
  simp only [hown]
  wp_walk
  exact h

theorem ba_init_body {B : Addr} {r : List UInt8} {Q : Fin → Shared → Prop} (hB : s.heap.get? B = some (baObj r))
    (h : ∀ h', Heap.SameBut B s.heap h' → h'.get? B = some (baObj []) → Q (.done (.ret .none)) { s with heap := h' }) :
    wpC (model prog w) A (Builtin.«bytearray.__init__» ⟨[.ref B], []⟩) Q E s := by
  have hT : s.TypeIs (.ref B) "bytearray" := ⟨_, hB, rfl⟩
  unfold Builtin.«bytearray.__init__»
  dsimp only
  refine wpC_bind (wpC_any ?_)
  unfold Builtin.Bytes.ownRelease Builtin.Bytes.slotIsOwn
  refine wpAny_bind (wpAny_bind (wpAny_specialOf hT ba_look_release ?_))
  dsimp only
  have e1 : ("bytearray.__release_buffer__".endsWith ("." ++ "__release_buffer__")) = true := by decide +kernel
  rw [e1]
  have e2 : "bytearray.__release_buffer__".dropRight ("__release_buffer__".length + 1) = "bytearray" := by decide +kernel
  rw [e2]
  refine wpAny_isInstance hT ba_sub ?_
  refine wpAny_pure ?_
  refine wpC_ite (fun e => absurd e (by decide)) fun _ => ?_
  refine wpC_bind (wpC_any (wpAny_of_eq (a := [none, none, none]) (by kernel_rfl) ?_))
  dsimp only
  refine wpC_bind (wpC_any (wpAny_of_eq (a := ()) rfl ?_))
  refine wpC_bind (wpC_any (wpAny_of_eq (a := ()) rfl ?_))
  show wpC _ _ ((Builtin.Bytes.exported (.ref B) <||> _) >>= fun b => _) _ _ _
  refine wpC_bind ?_
  show wpC _ _ (Builtin.Bytes.exported (.ref B) >>= fun b => _) _ _ _
  refine wpC_bind (exported_C ?_)
  show wpC _ _ (Builtin.Bytes.exportsOf (.ref B) >>= fun n => pure (decide (n > 0))) _ _ _
  refine wpC_bind (wpC_any (ba_exports hB ?_))
  refine wpC_pure ?_
  refine wpC_ite (fun e => absurd e (by decide)) fun _ => ?_
  refine wpC_bind (wpC_any (ba_write (r' := []) hB rfl (Nat.zero_le _) fun h' hs hb => ?_))
  exact wpC_any (wpAny_of_eq rfl (h h' hs hb))
end
end Mine
end
section
open PySem PySem.W PySem.Calls PyProof.Rows
open PySem.Sem (wp)
set_option maxRecDepth 100000
namespace Mine
section
variable {prog : Program} {w : World} {A : Around} {E : Value → Shared → Prop} {s : Shared}
theorem ba_new {Q : Value → Shared → Prop}
    (h : ∀ h' B, B = s.heap.objs.size → (∀ b o, s.heap.get? b = some o → h'.get? b = some o) → s.heap.get? B = none → h'.get? B = some (baObj []) → Q (.ref B) { s with heap := h' }) :
    wpC (model prog w) A (call (.type "bytearray") []) Q E s := by
  refine wpC_call (codeC_of_tree rfl ?_)
  show wpC _ _ (callAny (.type "bytearray") _) _ _ _
  refine wpC_pure ⟨Code.quiet_builtin _ (by decide +kernel), codeC_builtin rfl F.entry_type_call ?_⟩
  rw [Around.under_plain (weight_type_call_type "bytearray" [] []) rfl]
  unfold Builtin.«type.__call__»
  have h1 : (Value.type "bytearray" == Value.type "type") = false := by decide +kernel
  have h2 := ba_canCreate
  dsimp only
  refine wpC_ite (fun e => absurd (h1.symm.trans e) Bool.false_ne_true) fun _ => ?_
  refine wpC_ite (fun e => absurd (h2.symm.trans e) Bool.false_ne_true) fun _ => ?_
  refine wpC_bind (wpC_any (wpAny_of_eq ba_typeCall ?_))
  refine wpC_bind (wpC_any (wpAny_of_eq ba_mro ?_))
  refine wpC_ite (fun e => absurd e (by decide)) fun _ => ?_
  refine wpC_bind (wpC_any (wpAny_of_eq ba_made ?_))
  dsimp only
  refine wpC_bind (wpC_pure ?_)
  refine wpC_bind (wpC_holding (wpC_any (wpAny_call ?_)))
  refine codeAny_mono (ba_code_new (E := fun _ _ => False) (Q₁ := fun v s' => v = .ref s.heap.objs.size ∧ s' = { s with heap := s.heap.push (baObj []) }) ⟨rfl, rfl⟩) fun r s' hr => ?_
  rcases r with e | (v | _ | _ | _)
  · exact hr.elim
  · exact hr.elim
  · exact hr.elim
  · exact hr.elim
  rename_i v
  obtain ⟨rfl, rfl⟩ := hr
  have hB : (s.heap.push (baObj [])).get? s.heap.objs.size = some (baObj []) := Heap.get?_push_size _ rfl
  have hT : ({ s with heap := s.heap.push (baObj []) } : Shared).TypeIs (.ref s.heap.objs.size) "bytearray" := ⟨_, hB, rfl⟩
  refine wpC_bind (wpC_any (wpAny_isInstance hT ba_sub ?_))
  refine wpC_ite (fun e => absurd e (by decide)) fun _ => ?_
  refine wpC_bind (wpC_holding (wpC_callSpecial_slot hT ba_slot_init (wpC_call_slot ba_slot_init rfl hT ba_entry_init (ba_args_init _) (ba_init_body hB fun h' hs hb => ?_))))
  refine ⟨_, rfl, ?_⟩
  dsimp only
  refine wpC_ite (fun e => absurd e (by decide)) fun _ => ?_
  refine wpC_any (wpAny_pure ?_)
  refine h h' _ rfl (fun b o hb' => hs.extBut b o (Nat.ne_of_lt (Heap.lt_size hb')) (Heap.get?_push_of_some _ hb')) (Heap.get?_none_of_le (Nat.le_refl _)) hb
end
end Mine
end
section
open PySem PySem.W PySem.Calls PyProof.Rows
open PySem.Sem (wp)
set_option maxRecDepth 100000
namespace Mine
section
variable {prog : Program} {w : World} {A : Around} {E : Value → Shared → Prop} {s : Shared} {B : Addr} {r : List UInt8}
theorem ba_own_release {M : Model} {Q : Bool → Shared → Prop} (hB : s.heap.get? B = some (baObj r)) (h : Q false s) : wpAny M A (Builtin.Bytes.ownRelease (.ref B)) Q E s := by
  have hT : s.TypeIs (.ref B) "bytearray" := ⟨_, hB, rfl⟩
  unfold Builtin.Bytes.ownRelease Builtin.Bytes.slotIsOwn
  refine wpAny_bind (wpAny_bind (wpAny_specialOf hT ba_look_release ?_))
  dsimp only
  have e1 : ("bytearray.__release_buffer__".endsWith ("." ++ "__release_buffer__")) = true := by decide +kernel
  rw [e1]
  have e2 : "bytearray.__release_buffer__".dropRight ("__release_buffer__".length + 1) = "bytearray" := by decide +kernel
  rw [e2]
  refine wpAny_isInstance hT ba_sub ?_
  exact wpAny_pure h

theorem ba_buffer {M : Model} {id : String} {full : Bool} {Q : Option (Array UInt8) → Shared → Prop} (hB : s.heap.get? B = some (baObj r)) (h : Q (some r.toArray) s) : wpAny M A (Builtin.Bytes.buffer? id (.ref B) full) Q E s := by
  have hT : s.TypeIs (.ref B) "bytearray" := ⟨_, hB, rfl⟩
  unfold Builtin.Bytes.buffer?
  refine wpAny_bind (wpAny_specialOf hT ba_look_buffer ?_)
  dsimp only
  refine wpAny_bind ?_
  unfold Builtin.Bytes.slotIsOwn
  refine wpAny_bind (wpAny_specialOf hT ba_look_buffer ?_)
  dsimp only
  have e1 : ("bytearray.__buffer__".endsWith ("." ++ "__buffer__")) = true := by decide +kernel
  rw [e1]
  have e2 : "bytearray.__buffer__".dropRight ("__buffer__".length + 1) = "bytearray" := by decide +kernel
  rw [e2]
  refine wpAny_isInstance hT ba_sub ?_
  refine bm_if_false rfl ?_
  refine wpAny_bind (wpAny_specialOf hT ba_look_buffer ?_)
  show wpAny _ _ (Builtin.Bytes.ownRelease (.ref B) >>= fun b => _) _ _ _
  refine wpAny_bind (ba_own_release hB ?_)
  refine bm_if_false rfl ?_
  exact wpAny_bind (ba_payload hB rfl (wpAny_pure h))

theorem ba_bytes_new {Q : Value → Shared → Prop} (hB : s.heap.get? B = some (baObj r)) (hz : r.length ≤ 16777216)
    (hQ : Q (.bytes r.toArray s.toks) { s with toks := s.toks + 1 }) :
    codeAny (model prog w) A (.call (.builtin "bytes.__new__") ⟨[.type "bytes", .ref B], []⟩) (wants Q E) s := by
  refine codeAny_of_tree ?_
  show wpAny _ A.in1 (do checkBuiltinCall "bytes.__new__" ⟨[.type "bytes", .ref B], []⟩; again (.builtin "bytes.__new__" ⟨[.type "bytes", .ref B], []⟩)) _ _ s
  refine wpAny_bind (wpAny_of_eq (F.bm_newCall _) (wpAny_pure ⟨plainId_quiet F.bm_plain _, codeAny_builtin F.bm_entry ?_⟩))
  rw [Around.under_plainId F.bm_plain _]
  have hT : s.TypeIs (.ref B) "bytearray" := ⟨_, hB, rfl⟩
  unfold Builtin.«bytes.__new__»
  refine wpAny_bind (wpAny_of_eq (a := true) rfl ?_)
  refine bm_if_false rfl ?_
  refine wpAny_bind (wpAny_of_eq F.bm_sub ?_)
  refine bm_if_false rfl ?_
  refine wpAny_bind (wpAny_of_eq (F.bm_bind _) ?_)
  refine wpAny_bind (wpAny_of_eq (a := ()) rfl ?_)
  refine wpAny_bind (wpAny_of_eq (a := ()) rfl ?_)
  refine bm_if_false rfl ?_
  refine wpAny_bind (wpAny_specialOf hT ba_noBytes ?_)
  refine wpAny_bind (wpAny_bind ?_)
  show wpAny _ _ (load B >>= _) _ _ _
  refine wpAny_bind (wpAny_load hB ?_)
  refine wpAny_pure (wpAny_pure ?_)
  refine bm_if_false rfl ?_
  refine wpAny_bind (wpAny_specialOf hT ba_noIndex ?_)
  refine bm_if_true rfl ?_
  first
    | show wpAny _ _ (Builtin.Bytes.buffer? "bytes.__new__" (.ref B) true >>= _) _ _ _
    | (refine wpAny_bind ?_; show wpAny _ _ (Builtin.Bytes.buffer? "bytes.__new__" (.ref B) true >>= _) _ _ _)
  refine wpAny_bind (ba_buffer hB ?_)
  refine wpAny_bind (wpAny_rule ?_)
  refine wpAny_bind (wpAny_mkBytes ?_ (by simp [sizeLine_eq]; exact hz))
  show wpAny _ _ (if (Value.type "bytes" == Value.type "bytes") = true then _ else _) _ _ _
  refine bm_if_true (by decide) ?_
  first
    | exact wpAny_pure hQ
    | exact wpAny_bind (wpAny_pure (wpAny_pure hQ))
    | exact wpAny_pure (wpAny_pure hQ)

/-- bytes(b) of a bytearray -/
theorem ba_bytes {Q : Value → Shared → Prop} (hB : s.heap.get? B = some (baObj r)) (hz : r.length ≤ 16777216)
    (hQ : Q (.bytes r.toArray s.toks) { s with toks := s.toks + 1 }) : wpAny (model prog w) A (call (.type "bytes") [.ref B]) Q E s := by
  refine callType_codes (Q₁ := fun obj s₁ => s₁.TypeIs obj "bytes" ∧ Q obj s₁) F.bm_called (F.bm_typeCall _) F.entry_object_init
    (ba_bytes_new hB hz ⟨typeIs_bytes _ _ _, hQ⟩) fun obj s₁ h₁ => ?_
  exact ⟨h₁.1, F.args_object_init_2 obj _, object_init_meets F.bm_called.init.lookup F.bm_called.made (by decide) prog w A.in1 _ s₁ ⟨h₁.1, rfl, h₁.2⟩⟩
end
end Mine
end
section
open PySem PySem.W PySem.Calls PyProof.Rows
open PySem.Sem (wp)
set_option maxRecDepth 100000
namespace Mine
/-! list(b) of bytes -/
theorem by_len : typeLookup (.type "bytes") "__len__" = pure (some (.builtin "bytes.__len__")) := by rw [typeLookup_type, builtinLookup_eq_fast]; kernel_rfl
def ByteAt (b : Array UInt8) (i : Nat) (v : Value) : Prop := ∃ c u, b[i]? = some c ∧ v = .int (c.toNat : Int) u
section
variable {prog : Program} {w : World} {A : Around} {E : Value → Shared → Prop} {s : Shared}

theorem extend_bytes {R : Result → Shared → Prop} (hh : A.handled = none) (x : Array UInt8) (t : Tok) (S : Addr) (res : Value) (c₀ : Nat) (hS : s.heap.get? S = some { cls := .type "list", data := .seq #[] c₀ })
    (hR : ∀ h' tk acc' c', (∀ b o, b ≠ S → s.heap.get? b = some o → h'.get? b = some o) → h'.get? S = some { cls := .type "list", dict := none, data := .seq acc' c', slots := #[] } →
      ItemsOf (ByteAt x) acc' x.size → R (.ok (.ret res)) { s with heap := h', toks := tk }) (hn : x.size ≤ sizeLine) :
    wpAny (model prog w) A.in1 (Builtin.List.listExtendWith (.ref S) (.bytes x t) res)
      (fun fin s' => match fin with | .done f => R (.ok f) s' | .again c' => c'.quiet = true ∧ codeAny (model prog w) A c' R s') (fun e s' => R (.error e) s') s := by
  have hSI : S ≠ s.heap.objs.size := Nat.ne_of_lt (Heap.lt_size hS)
  have hSf : S ∉ [s.heap.objs.size] := fun hm => hSI (List.mem_singleton.mp hm)
  unfold Builtin.List.listExtendWith
  refine wpAny_bind (wpAny_typeOf (T := "bytes") (v := .bytes x t) rfl ?_)
  have h1 : Builtin.List.listSameRef (.ref S) (.bytes x t) = false := rfl
  have h2 : (Value.type "bytes" == Value.type "list") = false := by decide
  have h3 : (Value.type "bytes" == Value.type "tuple") = false := by decide
  simp only [h1, h2, h3, Bool.or_false, Bool.false_eq_true, if_false]
  refine wpAny_bind (KBw.pyIter_bytes ?_)
  refine wpAny_bind (wpAny_holding ?_)
  unfold Builtin.List.listLengthHint
  refine wpAny_bind (wpAny_specialOf (T := "bytes") (v := .bytes x t) rfl by_len ?_)
  wp_delta
  refine wpAny_bind (wpAny_isInstance (T := "bytes") (v := .bytes x t) (b := true) rfl (by rw [isSubtype_type]; kernel_rfl) ?_)
  show wpAny _ _ (typeOf (Value.bytes x t) >>= _) _ _ _
  refine wpAny_bind (wpAny_typeOf (T := "bytes") (v := .bytes x t) rfl ?_)
  refine wpAny_pure ?_
  rw [if_neg (by decide)]
  have W : Walks prog w A.in1 s.heap.objs.size [s.heap.objs.size] [s.heap.objs.size] x.size (ByteAt x) (fun i h => KBw.IsBytesIter h s.heap.objs.size x t i) := KBw.walks (A := A.in1) hh _ x t
  refine wpAny_pure ⟨plainId_quiet F.plain_extend_loop _, codeAny_extend_loopS W.toS hn _ hSf _ x.size 0 _ _ _ rfl (Nat.zero_le _) ⟨_, Heap.get?_push_size _ rfl, rfl, rfl⟩ (Heap.get?_push_of_some _ hS) (ItemsOf.nil _) fun s' acc' c' hm hS' hacc => ?_⟩
  rw [Moved.eq_with hm]
  refine hR s'.heap s'.toks acc' c' (fun b ob hb e => hm.heap b ob (fun hmem => ?_) (Heap.get?_push_of_some _ e)) hS' hacc
  rcases List.mem_cons.mp hmem with e' | hmem
  · exact hb e'
  · exact absurd (Heap.lt_size e) (by rw [List.mem_singleton.mp hmem]; exact Nat.lt_irrefl _)

theorem init_bytes {R : Result → Shared → Prop} (hh : A.handled = none) (x : Array UInt8) (t : Tok) (S : Addr) (hS : s.heap.get? S = some { cls := .type "list", data := .seq #[] })
    (hR : ∀ h' tk acc' c', (∀ b o, b ≠ S → s.heap.get? b = some o → h'.get? b = some o) → h'.get? S = some { cls := .type "list", dict := none, data := .seq acc' c', slots := #[] } →
      ItemsOf (ByteAt x) acc' x.size → R (.ok (.ret .none)) { s with heap := h', toks := tk }) (hn : x.size ≤ sizeLine) :
    wpAny (model prog w) A.in1 (Builtin.«list.__init__» ⟨[.ref S, .bytes x t], []⟩)
      (fun fin s' => match fin with | .done f => R (.ok f) s' | .again c' => c'.quiet = true ∧ codeAny (model prog w) A c' R s') (fun e s' => R (.error e) s') s := by
  show wpAny _ _ (do let old ← Builtin.List.listItems (.ref S); Builtin.List.listUpdate (.ref S) (fun _ => #[]); letGo old.toList.reverse; Builtin.List.listExtendWith (.ref S) (.bytes x t) .none) _ _ s
  refine wpAny_bind ?_
  unfold Builtin.List.listItems
  refine wpAny_bind (wpAny_seqItems hS rfl (wpAny_pure ?_))
  show wpAny _ _ (updateSeq S (fun _ => #[]) >>= fun _ => letGo (#[] : Array Value).toList.reverse >>= fun _ => Builtin.List.listExtendWith (.ref S) (.bytes x t) .none) _ _ s
  refine wpAny_bind (wpAny_updateSeq hS rfl ?_)
  have hS₂ := Heap.get?_update_self (Obj.mapSeq (fun _ => (#[] : Array Value))) hS rfl
  have oth : ∀ b o, b ≠ S → s.heap.get? b = some o → (s.heap.update S (Obj.mapSeq (fun _ => (#[] : Array Value)))).get? b = some o :=
    fun b o hb e => (Heap.get?_update_other _ _ (Ne.symm hb)).trans e
  refine wpAny_bind (wpAny_letGo ?_)
  refine extend_bytes (hn := hn) hh x t S .none _ hS₂ fun h' tk acc' c' hk hS' hacc => ?_
  exact hR h' tk acc' c' (fun b o hb e => hk b o hb (oth b o hb e)) hS' hacc

theorem list_bytes {Q : Value → Shared → Prop} (hh : A.handled = none) (x : Array UInt8) (t : Tok)
    (hQ : ∀ h' tk acc' c', (∀ b o, s.heap.get? b = some o → h'.get? b = some o) →
      h'.get? s.heap.objs.size = some { cls := .type "list", dict := none, data := .seq acc' c', slots := #[] } → ItemsOf (ByteAt x) acc' x.size → Q (.ref s.heap.objs.size) { s with heap := h', toks := tk }) (hn : x.size ≤ sizeLine) :
    wpAny (model prog w) A (call (.type "list") [.bytes x t]) Q E s := by
  refine callType_codes (Q₁ := fun obj s₁ => obj = .ref s.heap.objs.size ∧ s₁ = { s with heap := s.heap.push { cls := .type "list", data := .seq #[] } }) F.called_list (F.typeCall_list_1 _) F.entry_list_init
    (code_list_new _ ⟨rfl, rfl⟩) fun obj s₁ h₁ => ?_
  obtain ⟨rfl, rfl⟩ := h₁
  have hS : (s.heap.push { cls := .type "list", data := .seq #[] }).get? s.heap.objs.size = some { cls := .type "list", data := .seq #[] } := Heap.get?_push_size _ rfl
  refine ⟨⟨_, hS, rfl⟩, F.args_list_init_2 _ _, init_bytes (A := A.in1) (hn := hn) hh x t _ hS fun h' tk acc' c' hk hS' hacc => ?_⟩
  exact ⟨rfl, hQ h' tk acc' c' (fun b o e => hk b o (Nat.ne_of_lt (Heap.lt_size e)) (Heap.get?_push_of_some _ e)) hS' hacc⟩
end

/-- the ints of a row of octets -/
def rowInts (r : List UInt8) : List Int := r.map fun c => (c.toNat : Int)
theorem rowAre_of : ∀ (vs : List Value) (ns : List Int), vs.length = ns.length → (∀ (i : Nat) (v : Value), vs[i]? = some v → ∃ (n : Int) (u : Tok), ns[i]? = some n ∧ v = Value.int n u) → IntsAre vs ns
  | [], [], _, _ => .nil
  | [], _ :: _, h, _ => by cases h
  | _ :: _, [], h, _ => by cases h
  | v :: vs, n :: ns, h, g => by
    obtain ⟨k, u, hk, rfl⟩ := g 0 v rfl
    cases hk
    exact .cons _ _ (rowAre_of vs ns (by simpa using h) fun i w hw => by
      obtain ⟨k', u', a, b⟩ := g (i + 1) w (by simpa using hw)
      exact ⟨k', u', by simpa using a, b⟩)
theorem ints_are {r : List UInt8} {acc : Array Value} (h : ItemsOf (ByteAt r.toArray) acc r.toArray.size) : IntsAre acc.toList (rowInts r) := by
  refine rowAre_of _ _ (by rw [Array.length_toList, h.1]; simp [rowInts]) fun i v hv => ?_
  obtain ⟨c, u, hc, rfl⟩ := h.2 i v (by simpa using hv)
  refine ⟨_, u, ?_, rfl⟩
  have : r[i]? = some c := by simpa using hc
  simp [rowInts, this]
end Mine
end
section
open PySem PySem.W PySem.Calls PyProof.Rows
open PySem.Sem (wp)
set_option maxRecDepth 100000
namespace Mine
/-! generator frames over clean contexts: a run of a tree over saved frames, to its end or its next yield -/
def CleanF (fs : List Frame) : Prop := ∀ f ∈ fs, holdsB f.where_.1 = false
theorem CleanF.nil : CleanF [] := fun _ h => nomatch h
theorem CleanF.cons {f : Frame} {fs : List Frame} (h : holdsB f.where_.1 = false) (k : CleanF fs) : CleanF (f :: fs) := fun g hg => by
  rcases List.mem_cons.mp hg with rfl | hg
  · exact h
  · exact k g hg

def GoC (M : Model) (A : Around) (F : End → Shared → Prop) (c : Code) (t : Sem Fin) (fs : List Frame) (s : Shared) : Prop :=
  ∀ Γ p, Γ.code = c → Γ.Woken A → CleanB Γ.below → ∃ e s', Runs M Γ p t fs s e s' ∧ F e s'

section
variable {M : Model} {A : Around} {F : End → Shared → Prop} {c : Code} {fs : List Frame} {s : Shared}
theorem over_clean {Γ : Ctx} (hc : holdsB Γ.code = false) (hfs : CleanF fs) (hb : CleanB Γ.below) : Clean (Γ.over fs) := by
  refine ⟨hc, fun x hx => ?_⟩
  have hx' : x ∈ fs.map Frame.where_ ++ Γ.below := hx
  rcases List.mem_append.mp hx' with h | h
  · obtain ⟨f, hf, rfl⟩ := List.mem_map.mp h
    exact hfs f hf
  · exact hb x h

theorem goC_wrap {α : Type} {m : Sem α} {K : α → Sem Fin} {H : Value → Sem Fin} {gd lv} (hc : holdsB c = false) (hfs : CleanF fs)
    (h : wpC M (A.over c fs) m (fun a s' => GoC M A F c (K a) fs s') (fun x s' => GoC M A F c (H x) fs s') s) :
    GoC M A F c (m.wrap K H gd lv) fs s := by
  rintro Γ p rfl hΓ hb
  exact runs_wrap_of_wp (Φ := F) K H gd lv m (h (Γ.over fs) p (hΓ.over fs) (over_clean hc hfs hb)) (fun a p' s' h' => h' Γ p' rfl hΓ hb)
    (fun x p' s' h' => h' Γ p' rfl hΓ hb)

theorem goC_bind {α : Type} {m : Sem α} {K : α → Sem Fin} (hc : holdsB c = false) (hfs : CleanF fs)
    (h : wpC M (A.over c fs) m (fun a s' => GoC M A F c (K a) fs s') (fun x s' => GoC M A F c (.raise x) fs s') s) :
    GoC M A F c (m >>= K) fs s := by
  rw [Sem.bind_eq_wrap']; exact goC_wrap hc hfs h

theorem goC_at {p' : Pos} {k : Unit → Sem Fin} (h : GoC M A F c (k ()) fs s) : GoC M A F c (.at p' k) fs s := by
  rintro Γ p rfl hΓ hb
  obtain ⟨e, s', hr, he⟩ := h Γ p' rfl hΓ hb
  exact ⟨e, s', Runs.head' (fun _ _ x => .at x) hr, he⟩
theorem goC_point {l : List Value} {k : Unit → Sem Fin} (h : GoC M A F c (k ()) fs s) : GoC M A F c (.point l k) fs s := by
  rintro Γ p rfl hΓ hb
  obtain ⟨e, s', hr, he⟩ := h Γ p rfl hΓ hb
  exact ⟨e, s', Runs.head' (fun _ _ x => .point x) hr, he⟩
theorem goC_rule {tag : String} {k : Unit → Sem Fin} (h : GoC M A F c (k ()) fs s) : GoC M A F c (.rule tag k) fs s := by
  rintro Γ p rfl hΓ hb
  obtain ⟨e, s', hr, he⟩ := h Γ p rfl hΓ hb
  exact ⟨e, s', Runs.head' (fun _ _ x => .rule x) hr, he⟩

theorem goC_call {c' : Code} {h g l} {k : Result → Sem Fin} (hc : ∀ p, GoC M A F c' (M.den c') (.ret k h g l c p [] :: fs) s) :
    GoC M A F c (.call c' h g l k) fs s := by
  rintro Γ p rfl hΓ hb
  obtain ⟨e, s', hr, he⟩ := hc p (Γ.goto c') p rfl (hΓ.goto c') hb
  exact ⟨e, s', runs_call_seg hr, he⟩

theorem goC_leaf {k h g l c₁ p₁ kp} (r : Result) (hk : GoC M A F c₁ (k r) fs s) : GoC M A F c (leafOf r) (.ret k h g l c₁ p₁ kp :: fs) s := by
  rintro Γ p rfl hΓ hb
  obtain ⟨e, s', hr, he⟩ := hk (Γ.goto c₁) p₁ rfl (hΓ.goto c₁) hb
  exact ⟨e, s', Runs.pop r hr, he⟩

theorem goC_again {c' : Code} (hq : c'.quiet = true) (hc : GoC M A F c' (M.den c') fs s) : GoC M A F c (.pure (.again c')) fs s := by
  rintro Γ p rfl hΓ hb
  obtain ⟨e, s', hr, he⟩ := hc (Γ.goto c') p rfl (hΓ.goto c') hb
  exact ⟨e, s', Runs.head (c₁ := c') (fun _ _ x => .again hq x) hr, he⟩

theorem goC_end (r : Result) (h : F (.ret r) s) : GoC M A F c (leafOf r) [] s := by
  rintro Γ p rfl _ _
  exact ⟨.ret r, s, Runs.leaf r, h⟩

theorem goC_yield {v g l} {k : Resume → Sem Fin} (hfs : splitAtGen fs = none) (h : ∀ p, F (.susp v g l k c p fs) s) : GoC M A F c (.yield v g l k) fs s := by
  rintro Γ p rfl _ _
  exact ⟨_, s, Runs.yield' fs hfs, h p⟩
theorem goC_mono {F' : End → Shared → Prop} {t : Sem Fin} (h : GoC M A F c t fs s) (hF : ∀ e s', F e s' → F' e s') : GoC M A F' c t fs s := fun Γ p hc hΓ hb => by
  obtain ⟨e, s', hr, he⟩ := h Γ p hc hΓ hb
  exact ⟨e, s', hr, hF e s' he⟩
end

/-- a generator's state goes on when it is sent None -/
def GoesC (M : Model) (A : Around) (F : End → Shared → Prop) (gs : GenState) (s : Shared) : Prop :=
  match gs with
  | .fresh c => holdsB c = false ∧ GoC M A F c (M.den c) [] s
  | .suspended k _ c _ fs _ => GoC M A F c (k (.send .none)) fs s
  | _ => False

theorem wpC_resume {M : Model} {A : Around} {F : End → Shared → Prop} {E : Value → Shared → Prop} {s : Shared} {g : Nat} {gs : GenState} {l : List Value} {α : Type} {k : GenResult → Sem α} {Q : α → Shared → Prop}
    (hg : s.gens[g]? = some gs) (hgo : GoesC M A F gs (s.setGen g .running))
    (hk : ∀ e s₁, F e s₁ → e.quiet = true ∧ wpC M A (k e.result) Q E (s₁.setGen g e.genState)) :
    wpC M A (.resume g (.send .none) l k) Q E s := by
  intro Γ p hΓ hcl
  rw [Sem.wp_resume]
  have hb : CleanB ((Γ.code, p) :: Γ.below) := fun x hx => by
    rcases List.mem_cons.mp hx with rfl | hx
    · exact hcl.1
    · exact hcl.2 x hx
  cases gs with
  | fresh c =>
    obtain ⟨_, hs⟩ := hgo
    obtain ⟨e₁, s₁, hr, he⟩ := hs (Γ.wake c p) p rfl (hΓ.wake c p) hb
    obtain ⟨hq, hw⟩ := hk e₁ s₁ he
    exact ⟨_, _, by unfold Wakes; rw [hg]; exact ⟨e₁, s₁, hr, hq, rfl, rfl⟩, hw Γ p hΓ hcl⟩
  | suspended k₀ l₀ c₀ p₀ fs₀ cl =>
    obtain ⟨e₁, s₁, hr, he⟩ := hgo (Γ.wake c₀ p) p₀ rfl (hΓ.wake c₀ p) hb
    obtain ⟨hq, hw⟩ := hk e₁ s₁ he
    exact ⟨_, _, by unfold Wakes; rw [hg]; exact ⟨e₁, s₁, hr, hq, rfl, rfl⟩, hw Γ p hΓ hcl⟩
  | running => exact hgo.elim
  | finished => exact hgo.elim
end Mine
end
section
open PySem PySem.W PySem.Calls PyProof.Rows
open PySem.Sem (wp)
set_option maxRecDepth 100000
namespace Mine
section
variable {prog : Program} {w : World} {A : Around} {E : Value → Shared → Prop} {s : Shared}
theorem wpC_call_function {id : String} {b : Builtin} {args : List Value} {Q : Value → Shared → Prop} (hn : holdsB (.builtin id ⟨args, []⟩) = false) (hk : builtinKind id = none) (hp : plainId id = true)
    (hb : entryFor table id = some b) (ha : argsOk id ⟨args, []⟩)
    (hc : wpC (model prog w) A.in1 (b ⟨args, []⟩) (fun fin s' => ∃ v, fin = .done (.ret v) ∧ Q v s') E s) : wpC (model prog w) A (call (.builtin id) args) Q E s := by
  refine wpC_call (codeC_of_tree rfl ?_)
  show wpC _ A.in1 (do checkBuiltinCall id ⟨args, []⟩; again (.builtin id ⟨args, []⟩)) _ _ s
  have hchk : checkBuiltinCall id ⟨args, []⟩ = pure () := by
    simp only [checkBuiltinCall, hk]
    cases hsig : Manifest.signature? id with
    | none => rfl
    | some sig => simpa only [argsOk, hsig] using ha
  refine wpC_bind (wpC_any (wpAny_of_eq hchk ?_))
  refine wpC_pure ⟨plainId_quiet hp _, codeC_builtin hn hb ?_⟩
  rw [Around.under_plainId hp _]
  refine wpC_mono hc (fun fin s' hf => ?_) fun _ _ x => x
  obtain ⟨v, rfl, hv⟩ := hf
  exact hv

/-- the exception StopIteration(v), just made -/
structure StopExc (h h' : Heap) (e : Addr) (v : Value) : Prop where
  keeps : ∀ b o, h.get? b = some o → h'.get? b = some o
  new : h.get? e = none
  there : ∃ t, h'.get? e = some { cls := .type "StopIteration", data := .fields #[.ref t, .none, .none, .none, .bool false, v] } ∧ h.get? t = none

theorem newExc_stop {M : Model} {v : Value} {Q : Value → Shared → Prop} (h : ∀ h' e, StopExc s.heap h' e v → Q (.ref e) { s with heap := h' }) : wpAny M A (newExc (.type "StopIteration") [v]) Q E s := by
  unfold newExc newTuple
  refine wpAny_bind (wpAny_newObj_type ?_ (by size_fits))
  have e1 : firstArgMember (.type "StopIteration") [v] = pure v := by
    unfold firstArgMember
    have : ((Manifest.find? "StopIteration").elim false fun t => t.mro.contains "StopIteration" || t.mro.contains "SystemExit") = true := by decide +kernel
    simp only [this, pure_bind]
    rfl
  refine wpAny_bind (m := firstArgMember _ _) (wpAny_of_eq e1 ?_)
  have e2 : ownMembersOf (.type "StopIteration") [v] = #[] := by
    unfold ownMembersOf
    split <;> first | rfl | (rename_i h; revert h; decide) | simp_all
  rw [e2]
  refine wpAny_newObj_type (h _ _ ⟨fun b o hb => Heap.get?_push_of_some _ (Heap.get?_push_of_some _ hb), Heap.get?_none_of_le (by simp), s.heap.objs.size, ?_, Heap.get?_none_of_le (Nat.le_refl _)⟩) (by size_fits)
  exact Heap.get?_push_size _ rfl

theorem kind_next : builtinKind "next" = none := by decide +kernel
theorem plain_next : plainId "next" = true := by decide +kernel

theorem next_C {Gn : Addr} {g : Nat} {gs : GenState} {F : End → Shared → Prop} {Q : Value → Shared → Prop} (hl : s.heap.NoLimit) (hroom : A.depth < recursionLimit)
    (hg : s.heap.IsGen Gn g) (hgs : s.gens[g]? = some gs) (hgo : GoesC (model prog w) A.in1.in1 F gs (s.setGen g .running))
    (hy : ∀ v gd l k c p fs s₁, F (.susp v gd l k c p fs) s₁ → (End.susp v gd l k c p fs).quiet = true ∧ Q v (s₁.setGen g (End.susp v gd l k c p fs).genState))
    (hr : ∀ f s₁, F (.ret (.ok f)) s₁ → ∃ v, f = .ret v ∧ v ≠ .none ∧ ∀ h' e, StopExc s₁.heap h' e v → E (.ref e) { s₁.setGen g .finished with heap := h' })
    (he : ∀ x s₁, F (.ret (.error x)) s₁ → ∃ X o nm qn, s₁.heap.get? Gn = some o ∧ o.data = .fields #[.int g 0, nm, qn] ∧ s₁.TypeIs x X ∧ isSubtype (.type X) (.type "StopIteration") = pure false ∧ E x (s₁.setGen g .finished)) :
    wpC (model prog w) A (call (.builtin "next") [.ref Gn]) Q E s := by
  refine wpC_call_function rfl kind_next plain_next kdk_entry_next (kdk_args_next _) ?_
  unfold Builtin.«next»
  refine wpC_bind (wpC_any (wpAny_of_eq (a := [Value.ref Gn]) rfl ?_))
  dsimp only [List.headD_cons]
  refine wpC_bind (wpC_any (wpAny_specialOf hg.typeIs slot_gen_next.lookup ?_))
  refine wpC_ite (fun e => absurd e (by decide)) fun _ => ?_
  refine wpC_bind (wpC_callSpecial_slot hg.typeIs slot_gen_next (wpC_call_slot slot_gen_next rfl hg.typeIs entry_gen_next (args_gen_next _) ?_))
  show wpC _ A.in1.in1 (Builtin.Generator.genWake (.ref Gn) (.send .none)) _ _ s
  unfold Builtin.Generator.genWake
  refine wpC_bind (wpC_holding (wpC_any (wpAny_genNumber hg ?_)))
  refine wpC_bind (wpC_any (wpAny_genState hgs ?_))
  have main : wpC (model prog w) A.in1.in1 (.resume g (.send .none) [] fun r => (match r with
      | .yielded v => ret v
      | .returned v => do
        if v == .none then raiseNew (← newExc (.type "StopIteration") [])
        rule "generator.return-value"; throw (← newExc (.type "StopIteration") [v])
      | .raised e => Builtin.Generator.genLeft (.ref Gn) e
      | .running => do rule "generator.already-executing"; raiseError "ValueError" "generator already executing"
      | .justStarted => do rule "generator.send-to-fresh"; raiseError "TypeError" "can't send non-None value to a just-started generator"
      | .finished => do raiseNew (← newExc (.type "StopIteration") []) : Sem Fin)) (fun fin s' => ∃ v, fin = .done (.ret v) ∧ wpC (model prog w) A.in1 (ret v) (fun fin s' => ∃ v, fin = .done (.ret v) ∧ Q v s') E s') E s := by
    refine wpC_resume hgs hgo fun en s₁ hF => ?_
    cases en with
    | susp v gd l k c p fs =>
      obtain ⟨hq, hQ⟩ := hy v gd l k c p fs s₁ hF
      exact ⟨hq, wpC_pure ⟨v, rfl, wpC_pure ⟨v, rfl, hQ⟩⟩⟩
    | ret r =>
      refine ⟨rfl, ?_⟩
      cases r with
      | ok f =>
        obtain ⟨v, rfl, hv, hE⟩ := hr f s₁ hF
        show wpC _ _ (if (v == Value.none) = true then _ else _) _ _ _
        refine wpC_ite (fun e => absurd (eq_of_beq e) hv) fun _ => ?_
        refine wpC_bind (wpC_any (wpAny_rule ?_))
        refine wpC_any (wpAny_bind (newExc_stop fun h' e hx => wpAny_throw ?_))
        exact hE h' e hx
      | error x =>
        obtain ⟨X, o, nm, qn, ho, hd, hT, hs, hE⟩ := he x s₁ hF
        show wpC _ _ (Builtin.Generator.genLeft (.ref Gn) x) _ _ _
        unfold Builtin.Generator.genLeft Builtin.Generator.madeByALambda
        refine wpC_bind ?_
        refine wpC_any ?_
        have ho' : (s₁.setGen g .finished).heap.get? Gn = some o := ho
        have hT' : (s₁.setGen g .finished).TypeIs x X := hT
        refine wpAny_bind (wpAny_bind (wpAny_load ho' (wpAny_pure ?_)))
        rw [hd]
        have e1 : (o.cls == Value.type "generator" && (match (Data.fields #[Value.int (g : Int) 0, nm, qn]) with | .fields vs => vs[3]? == some (Value.bool true) | _ => false)) = false := by
          rw [Bool.and_eq_false_iff]; right; rfl
        rw [e1]
        refine wpAny_pure ?_
        refine wpC_bind (wpC_any (wpAny_isInstance hT' hs ?_))
        refine wpC_ite (fun e => absurd e (by decide)) fun _ => ?_
        dsimp only
        unfold Builtin.Generator.genEscaped
        refine wpC_bind (wpC_any (wpAny_isInstance hT' hs ?_))
        refine wpC_ite (fun _ => ?_) (fun e => absurd rfl e)
        exact wpC_any (wpAny_throw hE)
  cases gs with
  | running => exact hgo.elim
  | finished => exact hgo.elim
  | fresh c => exact wpC_bind (wpC_any (wpAny_roomToWake hl hroom main))
  | suspended k₀ l₀ c₀ p₀ fs₀ cl => exact wpC_bind (wpC_any (wpAny_roomToWake hl hroom main))
end
end Mine
end
section
open PySem PySem.W PySem.Calls PyProof.Rows
open PySem.Sem (wp)
set_option maxRecDepth 100000
namespace Mine
/-- what a generator's def does behind an exception -/
abbrev funcH (env : Env) : Value → Sem Fin := fun e => (leaving env e).wrap (fun _ => .raise e) .raise id id
abbrev funcK : Flow → Sem Fin := fun f => .pure (.done (.ret (match f with | .ret v => v | _ => .none)))
abbrev loopH (env : Env) : Value → Sem Fin := fun e => (do noteFrame e env; theTreesLotGoes e : Sem Unit).wrap (fun _ => .raise e) .raise id id
abbrev loopK (test : Expr) (body orelse : List Stmt) (env : Env) : Flow → Sem Fin := fun f => match f with
  | .next | .cont => .pure (.again (.whileLoop test body orelse env))
  | .brk => .pure (.done .next)
  | .ret v => .pure (.done (.ret v))
/-- behind the while's own code -/
abbrev backK (env : Env) (K : Flow → Sem Fin) (H : Value → Sem Fin) : Result → Sem Fin := fun r =>
  ((match r with | .ok f => (.pure f : Sem Flow) | .error e => .raise e).onRaise fun (x : Value) => do
        if (← field x 1) == Value.none then unsupported "frame.own-activation:exception-without-traceback"
        setFlight x env.frame).wrap K H id id
section
variable {prog : Program} {w : World} {A : Around} {F : End → Shared → Prop} {c : Code} {fs : List Frame} {s : Shared} {env : Env} {K : Flow → Sem Fin} {H : Value → Sem Fin}

theorem goC_func {body : List Stmt}
    (h : GoC (model prog w) A F (.func body env) ((execs body env).wrap funcK (funcH env) id id) fs s) :
    GoC (model prog w) A F (.func body env) ((model prog w).den (.func body env)) fs s := by
  show GoC _ A F _ (.point [] fun _ => ((execs body env).onRaise (leaving env)) >>= _) fs s
  refine goC_point ?_
  rw [Sem.onRaise_eq_wrap, Sem.bind_eq_wrap', Sem.wrap_wrap]
  rw [Sem.wrap_congr (execs body env) _ _ (K' := funcK) (H' := funcH env) (fun f => by cases f <;> rfl)
    (fun e => by rw [Sem.bind_eq_wrap, Sem.wrap_wrap]; rfl)]
  exact h

theorem goC_cons {M : Model} {st : Stmt} {rest : List Stmt} {gd : Bool → Bool} {lv : List Value → List Value}
    (h : GoC M A F c ((exec st env).wrap (fun f => match f with | .next => (execs rest env).wrap K H gd lv | f => K f) H gd lv) fs s) :
    GoC M A F c ((execs (st :: rest) env).wrap K H gd lv) fs s := by rw [execs_cons_wrap]; exact h

/-- a statement without a yield -/
theorem goC_stmt {M : Model} {st : Stmt} {rest : List Stmt} (hc : holdsB c = false) (hfs : CleanF fs)
    (h : wpC M (A.over c fs) (exec st env) (fun f s' => match f with | .next => GoC M A F c ((execs rest env).wrap K H id id) fs s' | f => GoC M A F c (K f) fs s') (fun x s' => GoC M A F c (H x) fs s') s) :
    GoC M A F c ((execs (st :: rest) env).wrap K H id id) fs s := by
  refine goC_cons (goC_wrap hc hfs (wpC_mono h (fun f s' hf => ?_) fun _ _ x => x))
  cases f <;> exact hf
/-- several statements without a yield -/
theorem goC_stmts {M : Model} {body : List Stmt} (hc : holdsB c = false) (hfs : CleanF fs)
    (h : wpC M (A.over c fs) (execs body env) (fun f s' => GoC M A F c (K f) fs s') (fun x s' => GoC M A F c (H x) fs s') s) :
    GoC M A F c ((execs body env).wrap K H id id) fs s := goC_wrap hc hfs h

theorem goC_While {M : Model} {test : Expr} {body orelse : List Stmt} {pos : Pos}
    (h : ∀ p, GoC M A F (.whileLoop test body orelse env) (M.den (.whileLoop test body orelse env)) (.ret (backK env K H) none false [] c p [] :: fs) s) :
    GoC M A F c ((exec (.While test body orelse pos) env).wrap K H id id) fs s :=
  goC_at (goC_call h)

theorem goC_whileLoop {test : Expr} {body orelse : List Stmt} (hfs : CleanF fs)
    (h : wpC (model prog w) (A.over (.whileLoop test body orelse env) fs) (isTrue test env (eval test env)) (fun b s' =>
        if b = true then
          GoC (model prog w) A F (.whileLoop test body orelse env) ((execs body env).wrap (loopK test body orelse env) (loopH env) id id) fs s'
        else GoC (model prog w) A F (.whileLoop test body orelse env) ((execs orelse env).wrap (fun f => .pure (.done f)) (loopH env) id id) fs s')
      (fun x s' => GoC (model prog w) A F (.whileLoop test body orelse env) (loopH env x) fs s') s) :
    GoC (model prog w) A F (.whileLoop test body orelse env) ((model prog w).den (.whileLoop test body orelse env)) fs s := by
  show GoC _ A F _ ((whileTurn test body orelse env).onRaise (fun x => do noteFrame x env; theTreesLotGoes x)) fs s
  unfold whileTurn
  rw [Sem.onRaise_eq_wrap, Sem.bind_eq_wrap', Sem.wrap_wrap]
  refine goC_wrap rfl hfs (wpC_mono h (fun b s' hb => ?_) fun x s' hx => ?_)
  · cases b with
    | true =>
      rw [if_pos rfl] at hb
      show GoC _ A F _ (Sem.wrap _ _ _ _ (if true = true then _ else _)) fs s'
      rw [if_pos rfl, Sem.bind_eq_wrap', Sem.wrap_wrap]
      rw [Sem.wrap_congr (execs body env) _ _ (K' := loopK test body orelse env) (H' := loopH env)
        (fun f => by cases f <;> rfl)
        (fun e => by first | exact Sem.bind_eq_wrap _ _ | (show (do noteFrame e env; theTreesLotGoes e : Sem Unit).bind (fun _ => .raise e) = _; rw [Sem.bind_eq_wrap]))]
      exact hb
    | false =>
      rw [if_neg Bool.false_ne_true] at hb
      show GoC _ A F _ (Sem.wrap _ _ _ _ (if false = true then _ else _)) fs s'
      rw [if_neg Bool.false_ne_true, Sem.bind_eq_wrap', Sem.wrap_wrap]
      rw [Sem.wrap_congr (execs orelse env) _ _ (K' := fun f => (.pure (.done f) : Sem Fin)) (H' := loopH env)
        (fun f => by rfl)
        (fun e => by first | exact Sem.bind_eq_wrap _ _ | (show (do noteFrame e env; theTreesLotGoes e : Sem Unit).bind (fun _ => .raise e) = _; rw [Sem.bind_eq_wrap]))]
      exact hb
  · first
      | (rw [← Sem.bind_eq_wrap] at hx; exact hx)
      | (show GoC _ A F _ ((do noteFrame x env; theTreesLotGoes x : Sem Unit).bind fun _ => .raise x) fs s'; rw [Sem.bind_eq_wrap]; exact hx)

/-- the statement «yield»: the run sleeps; sent None it goes on behind it -/
theorem goC_yield_stmt {M : Model} {ypos pos : Pos} (hfs : splitAtGen fs = none)
    (h : ∀ p l k, (∀ s', GoC M A F c ((execs [] env).wrap K H id id) fs s' → GoC M A F c (k (.send .none)) fs s') → F (.susp .none false l k c p fs) s)
    (hco : env.scope.isCoroutine = false := by rfl) (hi : interactive env = false := by rfl) (hs : swapsWith (.Yield none ypos) none pos.line env = pure false := by rfl) :
    GoC M A F c ((execs [.Expr (.Yield none ypos) pos] env).wrap K H id id) fs s := by
  rw [execs_cons_wrap, exec_Expr env _ pos hi hs]
  have hy : yieldOut env Value.none = yieldValue Value.none := by simp only [yieldOut, hco, Bool.false_eq_true, if_false]
  have e : eval (.Yield none ypos) env = (standAt ypos >>= fun _ => yieldValue Value.none) := by
    show (valueOrNone (evalOpt none env) >>= fun v => standAt ypos >>= fun _ => yieldOut env v) = _
    have : valueOrNone (evalOpt none env) = pure Value.none := rfl
    rw [this, pure_bind, hy]
  rw [e]
  refine goC_at (goC_at ?_)
  refine goC_yield hfs fun p => h p _ _ fun s' hk => ?_
  exact hk
end
end Mine
end
section
open PySem PySem.W PySem.Calls PyProof.Rows
open PySem.Sem (wp)
set_option maxRecDepth 100000
namespace Mine
/-! a raise within a generator's frame -/
section
variable {M : Model} {A : Around} {E : Value → Shared → Prop} {s : Shared}

/-- noteFrame at an exception that has no traceback yet -/
theorem noteFrame_fresh {base : Heap} {env : Env} {outer : List Env} {L e : Addr} {oe : Obj} {vs : Array Value} {a0 : Value} {Q : Unit → Shared → Prop}
    (hfr : A.frames = some (env :: outer)) (hl : s.heap.FunFrames base (env :: outer)) (hf : env.frame = some L)
    (he : s.heap.get? e = some oe) (hkb : base.StaysIn s.heap) (hen : base.get? e = none) (hd : oe.data = .fields vs) (h1 : vs[1]? = some .none) (h0 : vs[0]? = some a0)
    (h : ∀ h', Heap.HeldW base (env :: outer) e oe.cls a0 L h' → s.heap.UpToSlots h' → Q () { s with heap := h' }) : wpAny M A (noteFrame (.ref e) env) Q E s := by
  unfold noteFrame
  simp only [hf]
  refine wpAny_bind (wpAny_field he hd h1 ?_)
  rw [if_neg (by decide)]
  refine wpAny_entryW hfr hl hf he hkb hen hd (Array.getElem?_eq_some_iff.mp h1).1 h0 fun h' hN => ?_
  obtain ⟨k1, k2, k3, k4⟩ := hN
  exact h h' ⟨k1, hen, k2, k3⟩ k4

/-- a frame takes up again what came back to it -/
theorem setFlight_same {base : Heap} {l : List Env} {e L : Addr} {cls a0 : Value} {Q : Unit → Shared → Prop}
    (hh : Heap.HeldW base l e cls a0 L s.heap)
    (h : ∀ h', Heap.HeldW base l e cls a0 L h' → s.heap.UpToSlots h' → Q () { s with heap := h' }) :
    wpAny M A (setFlight (.ref e) (some L)) Q E s := by
  obtain ⟨hkb, hen, hl, oe, vs, T, oT, ts, he, hcls, hd, h1, hnT, hTe, hT, hdT, h3⟩ := hh
  have hsz3 : 3 < ts.size := (Array.getElem?_eq_some_iff.mp h3).1
  have other : ∀ b, b ≠ T → (s.heap.update T (Obj.mapFields (·.setIfInBounds 3 ((some L : Option Addr).elim Value.none fun f => rawInt f)))).get? b = s.heap.get? b :=
    fun b hb => Heap.get?_update_other _ _ (Ne.symm hb)
  have noRecord : ∀ b o, s.heap.get? b = some o → (∀ vs, o.data ≠ .fields vs) → b ≠ T := fun b o hb hnf q => by
    rw [q, hT] at hb; injection hb with hb; subst hb; exact hnf ts hdT
  unfold setFlight
  refine wpAny_bind (wpAny_field he hd h1 ?_)
  rw [if_pos (show (Value.ref T != Value.none) = true from by simp)]
  refine wpAny_setField hT hdT hsz3 (h _ ⟨fun b o hbo => (other b fun q => by rw [q, hnT] at hbo; cases hbo).trans (hkb b o hbo), hen,
    hl.of_keeps fun b o hb hnf => ⟨o, (other b (noRecord b o hb hnf)).trans hb, rfl⟩, ?_⟩ fun b o hb hnf => ⟨o.slots, (other b (noRecord b o hb hnf)).trans hb⟩)
  exact ⟨oe, vs, T, _, _, (other e (Ne.symm hTe)).trans he, hcls, hd, h1, hnT, hTe, Heap.get?_update_self _ hT (Obj.isFreed_of_fields (Obj.data_mapFields hdT _)), Obj.data_mapFields hdT _, by simp [hsz3]⟩

theorem field1_held {base : Heap} {l : List Env} {e L : Addr} {cls a0 : Value} {Q : Value → Shared → Prop} (hh : Heap.HeldW base l e cls a0 L s.heap)
    (h : ∀ T, Q (.ref T) s) : wpAny M A (field (.ref e) 1) Q E s := by
  obtain ⟨_, _, _, oe, vs, T, oT, ts, he, hcls, hd, h1, _⟩ := hh
  exact wpAny_field he hd h1 (h T)
end

section
variable {M : Model} {F : End → Shared → Prop} {s : Shared} {env : Env} {outer : List Env} {dp un : Nat} {gd : Option (List Code)} {L e : Addr} {base : Heap} {oe : Obj} {vs : Array Value} {a0 : Value} {body₀ : List Stmt}
/-- where a generator is woken -/
abbrev wakeA (dp un : Nat) (gd : Option (List Code)) (outer : List Env) : Around := { handled := none, depth := dp, frames := some outer, guards := gd, units := un }

/-- the last part: the def's frame is left by an exception that is held in it -/
theorem goC_leave_held (hf : env.frame = some L) (hh : Heap.HeldW base (env :: outer) e oe.cls a0 L s.heap)
    (h : ∀ h', Heap.FlyingW base outer e oe.cls a0 h' → s.heap.UpToSlots h' → F (.ret (.error (.ref e))) { s with heap := h' }) :
    GoC M (wakeA dp un gd outer) F (.func body₀ env) (funcH env (.ref e)) [] s := by
  refine goC_wrap rfl .nil (wpC_any ?_)
  unfold leaving
  refine wpAny_bind (wpAny_noteFrame_againW hf hh.2.2.2 ?_)
  refine wpAny_landsW hh fun h' hfl hup => ?_
  obtain ⟨k1, k2, ⟨_, _, k3⟩, k4⟩ := hfl
  exact goC_end (.error (.ref e)) (h h' ⟨k1, k2, k3, k4⟩ hup)

theorem goC_leave_fresh (hf : env.frame = some L) (hl : s.heap.FunFrames base (env :: outer)) (he : s.heap.get? e = some oe) (hkb : base.StaysIn s.heap) (hen : base.get? e = none) (hd : oe.data = .fields vs) (h1 : vs[1]? = some .none) (h0 : vs[0]? = some a0)
    (h : ∀ h', Heap.FlyingW base outer e oe.cls a0 h' → s.heap.UpToSlots h' → F (.ret (.error (.ref e))) { s with heap := h' }) :
    GoC M (wakeA dp un gd outer) F (.func body₀ env) (funcH env (.ref e)) [] s := by
  refine goC_wrap rfl .nil (wpC_any ?_)
  refine wpAny_leaving_firstW (base := base) (outer := outer) (L := L) rfl hl hf he hkb hen hd h1 h0 fun h' hL => ?_
  obtain ⟨k1, ⟨_, _, k2⟩, k3, k4⟩ := hL
  exact goC_end (.error (.ref e)) (h h' ⟨k1, hen, k2, k3⟩ k4)

theorem goC_loop_raise {test : Expr} {body orelse : List Stmt} {p : Pos} {K : Flow → Sem Fin} (hf : env.frame = some L) (hl : s.heap.FunFrames base (env :: outer)) (he : s.heap.get? e = some oe) (hkb : base.StaysIn s.heap) (hen : base.get? e = none) (hd : oe.data = .fields vs) (h1 : vs[1]? = some .none) (h0 : vs[0]? = some a0)
    (h : ∀ h', Heap.FlyingW base outer e oe.cls a0 h' → s.heap.UpToSlots h' → F (.ret (.error (.ref e))) { s with heap := h' }) :
    GoC M (wakeA dp un gd outer) F (.whileLoop test body orelse env) (loopH env (.ref e)) [.ret (backK env K (funcH env)) none false [] (.func body₀ env) p []] s := by
  refine goC_wrap rfl (.cons rfl .nil) (wpC_any ?_)
  refine wpAny_bind (noteFrame_fresh (base := base) (outer := outer) (L := L) rfl hl hf he hkb hen hd h1 h0 fun h₁ hh₁ up₁ => ?_)
  refine wpAny_theTreesLotGoes ?_
  refine goC_leaf (.error (.ref e)) ?_
  show GoC _ _ _ _ (((do
        if (← field (.ref e) 1) == Value.none then unsupported "frame.own-activation:exception-without-traceback"
        setFlight (.ref e) env.frame : Sem Unit).bind fun _ => (.raise (.ref e) : Sem Flow)).wrap K (funcH env) id id) [] _
  rw [Sem.bind_eq_wrap, Sem.wrap_wrap]
  refine goC_wrap rfl .nil (wpC_any ?_)
  refine wpAny_bind (field1_held (s := { s with heap := h₁ }) hh₁ fun T => ?_)
  show wpAny _ _ (setFlight (.ref e) env.frame) _ _ _
  rw [hf]
  refine setFlight_same (s := { s with heap := h₁ }) hh₁ fun h₂ hh₂ up₂ => ?_
  exact goC_leave_held (s := { s with heap := h₂ }) hf hh₂ fun h' hfl up₃ => h h' hfl ((up₁.trans up₂).trans up₃)
end
end Mine
end
section
open PySem PySem.W PySem.Calls PyProof.Rows
open PySem.Sem (wp)
set_option maxRecDepth 100000
namespace Mine
/-! statements and expressions over clean contexts -/
section
variable {α : Type} {M : Model} {A : Around} {E : Value → Shared → Prop} {s : Shared} {env : Env}
theorem wpC_operate {vs : List Value} {m : Sem Value} {Q : Value → Shared → Prop} (h : wpC M A m Q E s) : wpC M A (operate vs m) Q E s :=
  fun Γ p i c => by rw [Sem.wp_operate]; exact h Γ p i c
theorem wpC_keep {vs : List Value} {m : Sem α} {Q : α → Shared → Prop} (h : wpC M A m Q E s) : wpC M A (m.keep vs) Q E s :=
  fun Γ p i c => by rw [Sem.wp_keep]; exact h Γ p i c
theorem wpC_stand {pos : Pos} {k : Unit → Sem α} {Q : α → Shared → Prop} (h : wpC M A (k ()) Q E s) : wpC M A (standAt pos >>= k) Q E s :=
  wpC_bind (wpC_any (wpAny_standAt h))
/-- an any-piece first -/
theorem wpC_anyBind {β : Type} {m : Sem α} {k : α → Sem β} {Q : β → Shared → Prop} (h : wpAny M A m (fun a s' => wpC M A (k a) Q E s') E s) : wpC M A (m >>= k) Q E s :=
  wpC_bind (wpC_any h)

def ThenC (M : Model) (A : Around) (rest : List Stmt) (env : Env) (Q : Flow → Shared → Prop) (E : Value → Shared → Prop) (f : Flow) (s : Shared) : Prop :=
  match f with
  | .next => wpC M A (execs rest env) Q E s
  | f => Q f s
theorem wpC_execs_nil {Q : Flow → Shared → Prop} (h : Q .next s) : wpC M A (execs [] env) Q E s := wpC_pure h
theorem wpC_cons {st : Stmt} {rest : List Stmt} {Q : Flow → Shared → Prop} (h : wpC M A (exec st env) (ThenC M A rest env Q E) E s) : wpC M A (execs (st :: rest) env) Q E s := by
  rw [execs_cons]
  refine wpC_bind (wpC_mono h (fun f s' h' => ?_) fun _ _ x => x)
  cases f <;> first | exact h' | exact wpC_pure h'
/-- a walked statement first -/
theorem wpC_walk {st : Stmt} {rest : List Stmt} {Q : Flow → Shared → Prop} (h : wpAny M A (execs [st] env) (ThenC M A rest env Q E) E s) : wpC M A (execs (st :: rest) env) Q E s := by
  refine wpC_cons (wpC_any fun Γ p hΓ => ?_)
  have := h Γ p hΓ
  rw [execs_cons, Sem.wp_bind'] at this
  refine Sem.wp_mono M Γ _ (fun f p' s' h' => ?_) (fun _ _ _ h' => h') _ _ this
  cases f <;> exact h'
theorem wpC_If {test body orelse pos} {Q : Flow → Shared → Prop}
    (h : wpC M A (isTrue test env (eval test env)) (fun b s₂ => if b = true then wpC M A (execs body env) Q E s₂ else wpC M A (execs orelse env) Q E s₂) E s) :
    wpC M A (exec (.If test body orelse pos) env) Q E s := by
  rw [exec_If]
  refine wpC_stand (wpC_bind (wpC_mono h (fun b s₂ h₂ => ?_) fun _ _ x => x))
  cases b <;> exact h₂
theorem wpC_isTrue_Compare1 {l op r pos whole} {Q : Bool → Shared → Prop}
    (h : wpC M A (eval l env) (fun a s₁ => wpC M A (eval r env) (fun b s₂ => wpC M A (compareOp op a b) (fun c s₃ => wpC M A (truthy c) Q E s₃) E s₂) E s₁) E s)
    (hm : behindInMarks op r = false := by with_unfolding_all rfl) : wpC M A (isTrue (.Compare l [op] [r] pos) env whole) Q E s := by
  rw [isTrue_Compare1, markedBehindIn_of_false hm]
  refine wpC_bind (wpC_mono h (fun a s₁ h₁ => wpC_bind (wpC_holding (wpC_mono h₁ (fun b s₂ h₂ => ?_) fun _ _ x => x))) fun _ _ x => x)
  exact wpC_stand (wpC_bind (wpC_operate (wpC_mono h₂ (fun c s₃ h₃ => wpC_holding h₃) fun _ _ x => x)))
theorem wpC_Compare1 {l op r pos} {Q : Value → Shared → Prop}
    (h : wpC M A (eval l env) (fun a s₁ => wpC M A (eval r env) (fun b s₂ => wpC M A (compareOp op a b) Q E s₂) E s₁) E s)
    (hm : behindInMarks op r = false := by with_unfolding_all rfl) : wpC M A (eval (.Compare l [op] [r] pos) env) Q E s := by
  rw [eval_Compare1, markedBehindIn_of_false hm]
  refine wpC_bind (wpC_mono h (fun a s₁ h₁ => wpC_bind (wpC_holding (wpC_mono h₁ (fun b s₂ h₂ => ?_) fun _ _ x => x))) fun _ _ x => x)
  exact wpC_stand (wpC_operate h₂)
theorem wpC_Expr {e pos} {Q : Flow → Shared → Prop} (h : wpC M A (eval e env) (fun v s' => match v with | .ref _ => False | _ => Q .next s') E s)
    (hi : interactive env = false := by rfl) (hs : swapsWith e none pos.line env = pure false := by rfl) : wpC M A (exec (.Expr e pos) env) Q E s := by
  rw [exec_Expr env e pos hi hs]
  refine wpC_stand (wpC_bind (wpC_mono h (fun v s' h' => ?_) fun _ _ x => x))
  have hv : ∀ a, v ≠ .ref a := fun a hva => by subst hva; exact h'
  rw [dropValue_plain hv]
  refine wpC_pure ?_
  cases v <;> first | exact h' | exact (hv _ rfl).elim
theorem wpC_Assign {x pos' value pos} {Q : Flow → Shared → Prop}
    (h : wpC M A (eval value env) (fun v s₁ => wpAny M A (storeName env x v) (fun _ => Q .next) E s₁) E s)
    (hs : swapsWith value (some (.Name x pos')) pos.line env = pure false := by rfl) : wpC M A (exec (.Assign [.Name x pos'] value pos) env) Q E s := by
  rw [exec_Assign_Name env x pos' value pos hs]
  refine wpC_stand (wpC_bind (wpC_mono h (fun v s₁ h₁ => wpC_stand (wpC_anyBind (wpAny_bindName (wpAny_mono h₁ (fun _ s₂ h₂ => wpC_pure h₂) fun _ _ x => x)))) fun _ _ x => x))
theorem wpC_Return {e pos} {Q : Flow → Shared → Prop} (h : wpC M A (eval e env) (fun v => Q (.ret v)) E s) : wpC M A (exec (.Return (some e) pos) env) Q E s := by
  rw [exec_Return_some]
  exact wpC_stand (wpC_bind (wpC_mono h (fun v s' h' => wpC_pure h') fun _ _ x => x))
theorem wpC_runOwn {c : Code} {h : Option Value} {Q : Flow → Shared → Prop}
    (hc : codeC M (A.mark h) c (fun r s' => match r with | .ok f => Q f s' | .error e => cameBackBy M A env E e s') s) (hnb : h ≠ some byPass := by intro x; cases x) :
    wpC M A (runOwn c env h) Q E s := by
  unfold runOwn
  refine wpC_onRaise (wpC_run (codeC_mono hc fun r s' hr => ?_) hnb)
  cases r with
  | ok f => exact hr
  | error e => exact wpC_any hr
theorem wpC_While {test body orelse pos} {Q : Flow → Shared → Prop}
    (h : codeC M A (.whileLoop test body orelse env) (fun r s' => match r with | .ok f => Q f s' | .error e => cameBackBy M A env E e s') s) :
    wpC M A (exec (.While test body orelse pos) env) Q E s := by
  rw [exec_While]; exact wpC_stand (wpC_runOwn h)
theorem wpC_For {target iter body orelse pos} {Q : Flow → Shared → Prop}
    (h : wpC M A (eval iter env) (fun x s₁ => wpC M A (pyIter x) (fun it s₂ =>
      codeC M A (.forLoop target it body orelse env) (fun r s' => match r with | .ok f => Q f s' | .error e => cameBackBy M A env E e s') s₂) E s₁) E s)
    (hs : ∀ x, foldedSetIterable iter env x = pure x := by intro _; rfl) : wpC M A (exec (.For target iter body orelse pos) env) Q E s := by
  rw [exec_For]
  refine wpC_stand (wpC_bind (wpC_mono h (fun x s₁ h₁ => wpC_anyBind (wpAny_of_eq (hs x) (wpC_stand (wpC_bind (wpC_holding (wpC_mono h₁ (fun it s₂ h₂ => wpC_runOwn h₂) fun _ _ h' => h')))))) fun _ _ h' => h'))
end

section
variable {prog : Program} {w : World} {A : Around} {E : Value → Shared → Prop} {R : Result → Shared → Prop} {s : Shared}
theorem codeC_func {body env}
    (h : wpC (model prog w) (A.deeper env) (execs body env) (fun f s' => R (.ok (.ret (match f with | .ret v => v | _ => .none))) s')
      (fun e s' => wpAny (model prog w) (A.deeper env) (leaving env e) (fun _ s'' => R (.error e) s'') (fun e' s'' => R (.error e') s'') s') s) :
    codeC (model prog w) A (.func body env) R s := by
  refine codeC_of_tree rfl ?_
  show wpC _ (A.deeper env) (do point; match ← (execs body env).onRaise (leaving env) with | .ret v => ret v | _ => ret .none) _ _ s
  refine wpC_anyBind (wpAny_point (wpC_bind (wpC_onRaise (wpC_mono h (fun f s' h' => ?_) fun e s' h' => wpC_any h'))))
  cases f <;> exact wpC_pure h'

theorem wpC_callWith_of {P : Heap → Prop} {env : Env} {pos : Pos} {f : Value} {first : List Value} {Q : Value → Shared → Prop} {M : Model} {args : List (Bool × Sem Value)} {keywords : List (Option Str × Sem Value)} (hplain : (args.any (·.1) || keywords.any (·.1.isNone)) = false)
    (hk : ∀ h, P h → ∃ k, (k = Keeper.frame ∨ k = Keeper.machine ∨ k = Keeper.boundFrame) ∧ Looks M h (keeperOf f) k)
    (h : wpAny M A (evalArgs f true args keywords) (fun a s₁ => P s₁.heap ∧ wpC M A (call f (first ++ a.pos) a.kw) Q E s₁) E s) : wpC M A (callWith pos f first args keywords) Q E s := by
  unfold callWith
  refine wpC_bind (wpC_holding (wpC_any (wpAny_mono h (fun a s₁ h₁ => wpC_stand ?_) fun _ _ x => x)))
  obtain ⟨k, hk', L⟩ := hk _ h₁.1
  simp only [hplain]
  refine wpC_anyBind (L.here ?_)
  have tail : ∀ {t : Sem Value}, wpC M A t Q E s₁ → wpC M A (t >>= fun r => holding [r] point >>= fun _ => pure r) Q E s₁ :=
    fun ht => wpC_bind (wpC_mono ht (fun r s₂ hr => wpC_anyBind (wpAny_holding (wpAny_point (wpC_pure hr)))) fun _ _ x => x)
  have marked (mk : Value) : wpC M A (callMarked mk f (first ++ a.pos) a.kw) Q E s₁ := by unfold callMarked; exact wpC_keep h₁.2
  rcases hk' with rfl | rfl | rfl <;> dsimp only <;> first | exact tail h₁.2 | (split <;> first | exact tail h₁.2 | exact tail (marked _))
theorem wpC_callWith_K {M : Model} {K : Frag} {h₀ : Heap} {env : Env} {pos : Pos} {f : Value} {first : List Value} {Q : Value → Shared → Prop} {e : Expr} {rest : List Expr} (hk : keepIn K f = true) (h : wpAny M A (spliced (backTo pos (starEach (e :: rest) env))) (fun vs s₁ => K.In s₁.heap ∧ wpC M A (call f (first ++ vs)) Q E s₁) E s)
    (he : starEach (e :: rest) env = (false, eval e env) :: starEach rest env := by rfl) (hplain : (backTo pos (starEach rest env)).any (·.1) = false := by rfl) :
    wpC M A (callWith pos f first (backTo pos (starEach (e :: rest) env)) []) Q E s := by
  rw [he] at h ⊢
  exact wpC_callWith_of (env := env) (by show ((false || (backTo pos (starEach rest env)).any (·.1)) || false) = false; rw [hplain]; rfl) (keeps_K hk) (evalArgs_plain h)
theorem wpC_callWith_K0 {M : Model} {K : Frag} {env : Env} {pos : Pos} {f : Value} {first : List Value} {Q : Value → Shared → Prop} (X : K.In s.heap) (hk : keepIn K f = true) (h : wpC M A (call f (first ++ [])) Q E s) : wpC M A (callWith pos f first (backTo pos (starEach [] env)) []) Q E s :=
  wpC_callWith_of (env := env) rfl (keeps_K hk) (evalArgs_nil3 ⟨X, h⟩)
theorem wpC_callWith_builtin {M : Model} {pos : Pos} {id : String} {first : List Value} {args : List (Bool × Sem Value)} {Q : Value → Shared → Prop} (hplain : args.any (·.1) = false)
    (h : wpAny M A (evalArgs (.builtin id) true args []) (fun a s₁ => wpC M A (call (.builtin id) (first ++ a.pos) a.kw) Q E s₁) E s) :
    wpC M A (callWith pos (.builtin id) first args []) Q E s := by
  unfold callWith
  refine wpC_bind (wpC_holding (wpC_any (wpAny_mono h (fun a s₁ h₁ => wpC_stand ?_) fun _ _ x => x)))
  simp only [hplain, List.any_nil, Bool.or_false]
  refine wpC_bind (wpC_pure ?_)
  exact wpC_bind (wpC_mono h₁ (fun r s₂ hr => wpC_anyBind (wpAny_holding (wpAny_point (wpC_pure hr)))) fun _ _ x => x)
theorem wpC_Call_Name {M : Model} {env : Env} {id : Str} {p pos : Pos} {args : List Expr} {keywords : List Keyword} {Q : Value → Shared → Prop}
    (h : wpAny M A (eval (.Name id p) env) (fun f s₁ => wpC M A (callWith pos f [] (backTo pos (starEach args env)) (backToKw pos (keywordEach keywords env))) Q E s₁) E s) :
    wpC M A (eval (.Call (.Name id p) args keywords pos) env) Q E s := by
  rw [arm_eval_Call_Name']
  exact wpC_anyBind h
theorem wpC_methodCall {M : Model} {env : Env} {o : Expr} {name : Str} {apos pos : Pos} {args : List Expr} {pl : Sem Bool} {Q : Value → Shared → Prop}
    (h : wpAny M A (eval o env) (fun ov s₁ => wpAny M A (getMethod ov name pl) (fun fx s₂ => wpC M A (callWith pos fx.1 fx.2 (backTo pos (starEach args env)) []) Q E s₂) E s₁) E s)
    (he : eval (.Call (.Attribute o name apos) args [] pos) env = (do
      let ov ← eval o env
      standAt apos.atName
      let (f, first) ← holding [ov] (getMethod ov name pl)
      callWith pos f first (backTo pos (starEach args env)) []) := by rfl) :
    wpC M A (eval (.Call (.Attribute o name apos) args [] pos) env) Q E s := by
  rw [he]
  refine wpC_anyBind (wpAny_mono h (fun ov s₁ h₁ => wpC_stand (wpC_anyBind (wpAny_holding (wpAny_mono h₁ (fun fx s₂ h₂ => ?_) fun _ _ x => x)))) fun _ _ x => x)
  exact h₂
end
end Mine
end
section
open PySem PySem.W PySem.Calls PyProof.Rows
namespace Mine
local macro_rules | `(tactic| walk_at "setItem ref int") => `(tactic| (k_here; k_dflt (refine' ki_set ?F ?N ?a ?b ?e (Upd.head ?U) ?_; (case F => k_asm); (case N => k_asm); (case U => assumption); (case a => decide); (case b => decide); (case e => rfl)); ki_rest))
/-- the law's own state list -/
abbrev stObj (D : Addr) (place lcg : Int) (tp tl : Tok) (c : Nat) : Obj := listOf [.ref D, .int place tp, .int lcg tl].toArray c
theorem fmod_lo {a n : Int} (hn : 0 < n) : 0 ≤ a.fmod n := Int.fmod_nonneg_of_pos a hn
theorem fmod_hi {a n : Int} (hn : 0 < n) : a.fmod n < n := Int.fmod_lt_of_pos a hn
set_option maxRecDepth 100000 in
set_option maxHeartbeats 0 in
/-- _law_next(state, n): some int below n; the state list alone changes -/
theorem next_law {w : World} {s : Shared} {A₀ : Around} {base h₀ : Heap} {L S D dp un a : Nat} {cn : Str} {cs : Scope} {ccd : Value} {cl : List (Str × Addr)} {gd : Option (List Code)} {outer : List Env} {m mg mb : Str → Option Value} {mean : ExcName → Option Value} {Q E : Value → Shared → Prop}
  {place lcg n : Int} {tp tl tn : Tok} {vs : List Value} {ns : List Int} {c1 c2 : Nat} {X : List (Addr × Obj)}
  (KX : (hd.heap_39 w.params).In h₀) (T : Top hd.view_39 (looseW hd.view_39 [Str.ofString "StreamReader"]) mean mg mb h₀) (B : Below A₀ base outer h₀)
  (hk : cs.kind = .function) (F : Fr h₀ L s.heap m) (N : News h₀ L s.heap ((S, stObj D place lcg tp tl c1) :: (D, listOf vs.toArray c2) :: X)) (hi : IntsAre vs ns)
  (hS : ∀ p ∈ (D, listOf vs.toArray c2) :: X, p.1 ≠ S) (hp : 0 ≤ place) (hl : 0 ≤ lcg) (hl2 : lcg < 65537) (hlen : ns.length ≤ 60) (hn : 0 < n) (hn2 : n < 1000) (hd : dp + 5 < recursionLimit) (hu : un + 40 < cLine)
  (hQ : ∀ h' tk v tv place' lcg' tp' tl', Fr h₀ L h' m → News h₀ L h' ((S, stObj D place' lcg' tp' tl' c1) :: (D, listOf vs.toArray c2) :: X) → 0 ≤ v → v < n → 0 ≤ place' → 0 ≤ lcg' → lcg' < 65537 →
    Q (.int v tv) { s with heap := h', toks := tk }) :
  wpAny (model Challenge.rw_ev0028_01.row.prog w) (ktrTop dp un gd cn cs L a ccd cl outer) (call (.ref 98) [.ref S, .int n tn]) Q E s := by
  revert KX; k_fill; intro KX
  w_strict (refine wpAny_call ?_; k_dflt ktr_enter; k_steps)
  · exact hQ _ _ _ _ _ _ _ _ (by assumption) (by assumption) (fmod_lo hn) (fmod_hi hn) (by omega) hl hl2
  · exact hQ _ _ _ _ _ _ _ _ (by assumption) (by assumption) (fmod_lo hn) (fmod_hi hn) (by omega) (fmod_lo (by decide)) (fmod_hi (by decide))
end Mine
end
section
open PySem PySem.W PySem.Calls PyProof.Rows
set_option maxRecDepth 100000
namespace Mine
theorem exc_EOF : ExcClass "EOFError" "EOFError.__new__" "EOFError.__init__" where
  boot := by decide +kernel
  notType := by decide +kernel
  canNew := by decide +kernel
  typeCall := fun _ => by kernel_rfl
  mroFast := by kernel_rfl
  madeBy := by kernel_rfl
  newCheck := fun _ => by kernel_rfl
  newEntry := entryFor_alias (id' := "BaseException.__new__") (by kernel_rfl) (by first | rfl | (unfold String.splitOn; simp +decide [String.splitOnAux])) (by decide +kernel) (by kernel_rfl)
  newPlain := by decide +kernel
  newEnds := by decide +kernel
  subOwner := by rw [isSubtype_type]; kernel_rfl
  madeHere := by kernel_rfl
  notAttr := by rw [isSubtype_type]; kernel_rfl
  notName := by rw [isSubtype_type]; kernel_rfl
  self := by rw [isSubtype_type]; kernel_rfl
  init := .of (owner := "EOFError") (n := "__init__") (by rw [typeLookup_type, builtinLookup_eq_fast]; kernel_rfl) (by decide +kernel) (by decide +kernel) (by decide +kernel)
    (by first | exact .inl (by decide +kernel) | exact .inr (by decide +kernel)) (by rw [isSubtype_type]; kernel_rfl)
  initEntry := entryFor_alias (id' := "BaseException.__init__") (by kernel_rfl) (by first | rfl | (unfold String.splitOn; simp +decide [String.splitOnAux])) (by decide +kernel) (by kernel_rfl)
  initKind := by decide +kernel
  initSplit := by decide +kernel
  initSig := by kernel_rfl
  notStar := by decide +kernel
  base := by rw [isSubtype_type]; kernel_rfl
  metaType := by decide +kernel
  noFirst := by decide +kernel
  noOwn := fun _ => by
    unfold ownMembersOf
    split <;> first | rfl | (rename_i h; revert h; decide) | simp_all
/-- the exceptions of the program, by their names -/
inductive Exc3 : String → Prop where
  | run : Exc3 "RuntimeError"
  | val : Exc3 "ValueError"
  | eof : Exc3 "EOFError"
theorem Exc3.cls {X : String} (h : Exc3 X) : ∃ N I, ExcClass X N I := by
  cases h
  · exact ⟨_, _, excClass_RuntimeError⟩
  · exact ⟨_, _, excClass_ValueError⟩
  · exact ⟨_, _, exc_EOF⟩
section
variable {A : Around} {s : Shared} {E : Value → Shared → Prop}
theorem raise3 {prog : Program} {w : World} {X : String} (hc : Exc3 X) {rest : List Value}
    (h : ∀ h' e, Heap.NewExc s.heap h' e X → E (.ref e) { s with heap := h' }) (hrest : rest.length ≤ sizeLine := by size_fits) : wpAny (model prog w) A (call (.type X) rest) (Raisable E) E s := by
  obtain ⟨N, I, hx⟩ := hc.cls
  exact call_exc_raise hx h hrest
end
/-- frames' facts, as a chain that names what is wanted -/
theorem frAs {h₀ h : Heap} {L : Addr} {m m' : Str → Option Value} (F : Fr h₀ L h m) (e : ∀ y, m y = m' y) : Fr h₀ L h m' := (funext e) ▸ F
theorem chain1 {m : Str → Option Value} {x : Str} {v : Value} (h : m x = some v) (y : Str) : m y = if y = x then some v else m y := by
  split
  · subst_vars; exact h
  · rfl
theorem newsSub {h₀ h : Heap} {L : Addr} {l l' : List (Addr × Obj)} (N : News h₀ L h l) (hs : ∀ p ∈ l', p ∈ l) : News h₀ L h l' := fun p hp => N p (hs p hp)
def ThenG (M : Model) (A : Around) (F : End → Shared → Prop) (c : Code) (fs : List Frame) (K : Flow → Sem Fin) (H : Value → Sem Fin) (rest : List Stmt) (env : Env) (f : Flow) (s : Shared) : Prop :=
  match f with
  | .next => GoC M A F c ((execs rest env).wrap K H id id) fs s
  | f => GoC M A F c (K f) fs s
theorem goC_walk {M : Model} {A : Around} {F : End → Shared → Prop} {c : Code} {fs : List Frame} {K : Flow → Sem Fin} {H : Value → Sem Fin} {st : Stmt} {rest : List Stmt} {env : Env} {s : Shared} (hc : holdsB c = false) (hfs : CleanF fs)
    (h : wpAny M (A.over c fs) (execs [st] env) (ThenG M A F c fs K H rest env) (fun x s' => GoC M A F c (H x) fs s') s) :
    GoC M A F c ((execs (st :: rest) env).wrap K H id id) fs s := by
  refine goC_stmt hc hfs (wpC_any fun Γ p hΓ => ?_)
  have := h Γ p hΓ
  rw [execs_cons, Sem.wp_bind'] at this
  refine Sem.wp_mono M Γ _ (fun f p' s' h' => ?_) (fun _ _ _ h' => h') _ _ this
  cases f <;> exact h'
end Mine
namespace Mine
/-- what a frame's names hold -/
def Has (u : Str → Option Value) : List (Str × Value) → Prop
  | [] => True
  | p :: r => u p.1 = some p.2 ∧ Has u r
def chainTo (u : Str → Option Value) : List (Str × Value) → Str → Option Value
  | [] => u
  | p :: r => fun y => if y = p.1 then some p.2 else chainTo u r y
theorem Has.chain {u : Str → Option Value} : ∀ {l : List (Str × Value)}, Has u l → ∀ y, u y = chainTo u l y
  | [], _, _ => rfl
  | p :: r, h, y => by
    show u y = if y = p.1 then some p.2 else chainTo u r y
    split
    · subst_vars; exact h.1
    · exact Has.chain h.2 y
theorem frHas {h₀ h : Heap} {L : Addr} {u : Str → Option Value} {l : List (Str × Value)} (F : Fr h₀ L h u) (H : Has u l) : Fr h₀ L h (chainTo u l) := frAs F H.chain
end Mine
namespace Mine
theorem notTrue {e : Bool} (h : ¬ e = true) : e = false := Bool.eq_false_iff.mpr h
end Mine
namespace Mine
theorem eofText {p : Nat} (hp : p ≤ 1000) : (Str.empty ++ Str.ofString "stream ends after " ++ Str.ofString (toString (p : Int)) ++ Str.ofString " bytes, before end of line").length ≤ sizeLine := by
  refine Nat.le_trans (KT.len_app (KT.len_app (KT.len_app (Nat.le_refl _) (Nat.le_refl _)) (KT.len_num (by omega) (by omega))) (Nat.le_refl _)) ?_
  exact Nat.le_of_ble_eq_true (by kernel_rfl)
theorem eofText2 {p : Nat} {n : Int} (hp : p ≤ 1000) (h0 : 0 ≤ n) (h1 : n < 10) : (Str.empty ++ Str.ofString "stream ends after " ++ Str.ofString (toString (p : Int)) ++ Str.ofString " bytes, expected " ++ Str.ofString (toString n) ++ Str.ofString " bytes").length ≤ sizeLine := by
  refine Nat.le_trans (KT.len_app (KT.len_app (KT.len_app (KT.len_app (KT.len_app (Nat.le_refl _) (Nat.le_refl _)) (KT.len_num (by omega) (by omega))) (Nat.le_refl _)) (KT.len_num (by omega) (by omega))) (Nat.le_refl _)) ?_
  exact Nat.le_of_ble_eq_true (by kernel_rfl)
end Mine
namespace Mine
theorem readText {p n : Int} (h0 : 0 ≤ p) (h1 : p ≤ 1000) (h2 : 0 ≤ n) (h3 : n < 10) : (Str.empty ++ Str.ofString "read " ++ Str.ofString (toString p) ++ Str.ofString " bytes, expected no more than " ++ Str.ofString (toString n) ++ Str.ofString " bytes").length ≤ sizeLine := by
  refine Nat.le_trans (KT.len_app (KT.len_app (KT.len_app (KT.len_app (KT.len_app (Nat.le_refl _) (Nat.le_refl _)) (KT.len_num (by omega) (by omega))) (Nat.le_refl _)) (KT.len_num (by omega) (by omega))) (Nat.le_refl _)) ?_
  exact Nat.le_of_ble_eq_true (by kernel_rfl)
/-- b[:n], b[:] with the ledger -/
theorem ba_cut_K {prog : Program} {w : World} {A : Around} {E : Value → Shared → Prop} {s : Shared} {h₀ : Heap} {L B : Addr} {m : Str → Option Value} {news : List (Addr × Obj)}
    {r : List UInt8} {u : Value} {hi : Option Int} {n : Nat} {value slice : Expr} {Q : Value → Shared → Prop}
    (F : Fr h₀ L s.heap m) (N : News h₀ L s.heap news) (hm : (B, baObj r) ∈ news) (c : Cut r hi n) (hu : IsPart u hi) (hz : r.length ≤ 16777216)
    (h : ∀ h' D, Fr h₀ L h' m → News h₀ L h' ((D, baObj (r.take n)) :: news) → (∀ p ∈ news, p.1 < D) → s.heap.objs.size ≤ D → Q (.ref D) { s with heap := h' })
    (hs : subscripted slice false (.ref B) (.ref s.heap.objs.size) = operate [.ref s.heap.objs.size, .ref B] (getItem (.ref B) (.ref s.heap.objs.size)) := by with_unfolding_all rfl) :
    wpAny (model prog w) A (subscriptTail value slice (.ref B) (.ref s.heap.objs.size)) Q E { s with heap := s.heap.push { cls := .type "slice", data := .fields #[.none, u, .none] } } := by
  have F₁ : Fr h₀ L (s.heap.push { cls := .type "slice", data := .fields #[.none, u, .none] }) m := F.push _
  have N₁ : News h₀ L (s.heap.push { cls := .type "slice", data := .fields #[.none, u, .none] }) news := fun p hp' => ⟨Heap.get?_push_of_some _ (N p hp').1, (N p hp').2⟩
  have le : s.heap.objs.size ≤ (s.heap.push { cls := .type "slice", data := .fields #[.none, u, .none] }).objs.size := by simp [Heap.push]
  refine ba_getslice c hu hz (Heap.IsSliceOf.new ..) (N₁ _ hm).1 ?_ hs
  refine h _ _ (F₁.push _) (News.push F₁ N₁ _) (fun p hp' => Heap.lt_size (N₁ p hp').1) le
end Mine
end
section
open PySem PySem.W PySem.Calls PyProof.Rows
set_option maxRecDepth 100000
namespace Mine
theorem wpC_DelSlice {M : Model} {A : Around} {E : Value → Shared → Prop} {s : Shared} {env : Env} {o : Expr} {hi : Option Expr} {sp p pos : Pos} {Q : Flow → Shared → Prop}
    (h : wpAny M A (eval o env) (fun ov s₁ => wpAny M A (evalPart hi env) (fun vu s₂ => wpC M A (delItem ov (.ref s₂.heap.objs.size)) (fun _ s₃ => Q .next s₃) E
      { s₂ with heap := s₂.heap.push { cls := .type "slice", data := .fields #[.none, vu, .none] } }) E s₁) E s) :
    wpC M A (exec (.Delete [.Subscript o (.Slice none hi none sp) p] pos) env) Q E s := by
  rw [arm_exec_Delete, arm_deleteEach_cons, arm_delete_Subscript]
  refine wpC_stand (wpC_bind (wpC_bind (wpC_anyBind (wpAny_mono h (fun ov s₁ h₁ => ?_) fun _ _ x => x))))
  refine wpC_anyBind (wpAny_holding (wpAny_Slice ?_))
  rw [evalPart_none]
  refine wpAny_pure (wpAny_mono h₁ (fun vu s₂ h₂ => ?_) fun _ _ x => x)
  refine wpAny_pure ?_
  refine wpC_stand (wpC_bind (wpC_holding (wpC_mono h₂ (fun _ s₃ h₃ => ?_) fun _ _ x => x)))
  refine fun Γ pp i c => ?_
  rw [Sem.wp_release]
  show wpC M A (deleteEach [] env) _ _ _
  rw [arm_deleteEach_nil]
  exact wpC_pure (wpC_pure h₃)
theorem del_cut {prog : Program} {w : World} {A : Around} {E : Value → Shared → Prop} {Q : Unit → Shared → Prop} {h₀ hp : Heap} {g : Array GenState} {d : Drawn} {tk : Nat} {os : _} {L B : Addr} {m : Str → Option Value} {pre post : List (Addr × Obj)} {row : List UInt8} {v : Value} {hi : Option Int} {k : Nat}
    (F : Fr h₀ L hp m) (N : News h₀ L hp (pre ++ (B, baObj row) :: post)) (h1 : ∀ p ∈ pre, p.1 ≠ B) (h2 : ∀ p ∈ post, p.1 ≠ B) (c : Cut row hi k) (hu : IsPart v hi) (hz : row.length ≤ 16777216)
    (h : ∀ h', Fr h₀ L h' m → News h₀ L h' (pre ++ (B, baObj (row.drop k)) :: post) → Q () ⟨h', g, d, tk, os⟩) :
    wpC (model prog w) A (delItem (.ref B) (.ref hp.objs.size)) Q E ⟨hp.push { cls := .type "slice", data := .fields #[.none, v, .none] }, g, d, tk, os⟩ := by
  have F₁ : Fr h₀ L (hp.push { cls := .type "slice", data := .fields #[.none, v, .none] }) m := F.push _
  have N₁ : News h₀ L (hp.push { cls := .type "slice", data := .fields #[.none, v, .none] }) (pre ++ (B, baObj row) :: post) := fun p hp' => ⟨Heap.get?_push_of_some _ (N p hp').1, (N p hp').2⟩
  have z := N₁ (B, baObj row) (List.mem_append.mpr (.inr (.head _)))
  exact ba_delslice c hu hz (Heap.IsSliceOf.new ..) z.1 fun h' hs hb => h h' (F₁.change hs z.2.1 z.2.2) (N₁.setAt h1 h2 hs hb)
end Mine
namespace Mine
/-- the reader, its dict, its buffer; the rest of the ledger -/
abbrev led (R Rd B : Addr) (hb he : Int) (tb te : Tok) (cn : Nat) (e : Bool) (row : List UInt8) (X : List (Addr × Obj)) : List (Addr × Obj) :=
  (R, instObj 82 Rd) :: (Rd, dictOf [⟨hb, .str (Str.ofString "buffer") tb, .ref B⟩, ⟨he, .str (Str.ofString "eof") te, .bool e⟩] cn) :: (B, baObj row) :: X
end Mine
end
section
open PySem PySem.W PySem.Calls PyProof.Rows
set_option maxRecDepth 100000
namespace Mine
local macro_rules | `(tactic| walk_at "getMethod ref") => `(tactic| (k_here; (with_reducible show wpAny _ _ (getMethod (Value.ref _) (PySem.Str.ofString "find") _) _ _ _); k_dflt (refine' ba_getMethod_find (News.get ?k1 ?k2) ?_; (case k1 => k_asm); (case k2 => k_mem); k_whole)))
local macro_rules | `(tactic| walk_at "call builtin:bytearray.find") => `(tactic| (k_here; k_dflt (refine' ba_find (News.get ?k1 ?k2) ?k3 ?_; (case k1 => k_asm); (case k2 => k_mem); (case k3 => first | assumption | omega); k_whole)))
local macro_rules | `(tactic| walk_at "call builtin:len") => `(tactic| (k_here; (with_reducible show wpAny _ _ (call (Value.builtin "len") [Value.ref _]) _ _ _); k_dflt (refine' ba_len (News.get ?k1 ?k2) ?k3 ?_; (case k1 => k_asm); (case k2 => k_mem); (case k3 => first | assumption | omega); k_whole)))
local macro_rules | `(tactic| walk_at "subscriptTail") => `(tactic| (k_here; (with_reducible show wpAny _ _ (subscriptTail _ (Expr.Slice _ _ _ _) (Value.ref _) (Value.ref _)) _ _ _); k_dflt (refine' ba_cut_K ?F ?N ?m ?c ?p ?z ?_ ?sub; (case F => k_asm); (case N => k_asm); (case m => k_mem); (case c => assumption); (case p => first | exact IsPart.none | constructor); (case z => omega); (case sub => with_unfolding_all rfl)); intro _ _ _ _ _ _))
local macro_rules | `(tactic| walk_at "call type:EOFError") => `(tactic| (refine raise3 .eof ?_; intro _ _ _))
local macro_rules | `(tactic| walk_at "joinParts") => `(tactic| (k_here; (first | (with_reducible show wpAny _ _ (joinParts _ []) _ _ _) | (with_reducible show wpAny _ _ (joinParts _ (evalEach [] _)) _ _ _)); k_dflt (refine' joinParts_nil ?_ ?hz; (case hz => first | with_reducible exact readText (by omega) (by omega) (by omega) (by omega) | with_reducible exact eofText (by omega) | with_reducible exact eofText2 (by omega) (by omega) (by omega)))))
local macro_rules | `(tactic| walk_at "truthy ref") => `(tactic| (k_here; k_dflt (refine' ba_truthy (News.get ?k1 ?k2) ?k3 ?_; (case k1 => k_asm); (case k2 => k_mem); (case k3 => first | assumption | omega); k_whole)))
section
variable {w : World} {s : Shared} {h₀ : Heap} {Lg R Rd B dp un : Nat} {gd : Option (List Code)} {outer : List Env} {u mg mb : Str → Option Value} {mean : ExcName → Option Value} {Q : Flow → Shared → Prop} {E : Value → Shared → Prop}
  {lim : Int} {p : Nat} {n : Int} {tm tp tn tb te : Tok} {hb he : Int} {cn : Nat} {e : Bool} {row r : List UInt8} {cls : String} {X : List (Addr × Obj)}

set_option maxHeartbeats 0 in
theorem rl_L0 (KX : (hd.heap_39 w.params).In h₀) (T : Top hd.view_39 (looseW hd.view_39 [Str.ofString "StreamReader"]) mean mg mb h₀)
  (F : Fr h₀ Lg s.heap u) (H : Has u [(Str.ofString "self", .ref R), (Str.ofString "m", .int lim tm), (Str.ofString "too_long_exc_type", .type cls), (Str.ofString "p", .int p tp)]) (N : News h₀ Lg s.heap (led R Rd B hb he tb te cn e row X)) (hz : row.length ≤ 1000) (hp : p ≤ row.length)
  (hQ : ∀ h' tk (t : Tok) u', Fr h₀ Lg h' u' → Has u' [(Str.ofString "n", .int (nlVal row p + 1) t), (Str.ofString "self", .ref R), (Str.ofString "m", .int lim tm), (Str.ofString "too_long_exc_type", .type cls), (Str.ofString "p", .int p tp)] → News h₀ Lg h' (led R Rd B hb he tb te cn e row X) → Q .next { s with heap := h', toks := tk })  :
  wpAny (model Challenge.rw_ev0028_01.row.prog w) (ktrTop dp un gd (Str.ofString "StreamReader.read_line") rlScope Lg 36 (.ref 35) [] outer) (execs [rlL0] (envOf (Str.ofString "StreamReader.read_line") rlScope Lg 36 (.ref 35))) Q E s := by
  dsimp only [led] at N
  replace F := frHas F H
  dsimp only [chainTo] at F
  unfold rlL0
  dsimp only
  revert KX; k_fill; intro KX
  w_strict (k_steps)
  · (refine' hQ  _ _ _ _ ?a ?b ?c; (case a => assumption); (case b => exact ⟨by with_unfolding_all exact rfl, by with_unfolding_all exact rfl, by with_unfolding_all exact rfl, by with_unfolding_all exact rfl, by with_unfolding_all exact rfl, trivial⟩); (case c => assumption))


set_option maxHeartbeats 0 in
theorem rl_L1 (KX : (hd.heap_39 w.params).In h₀) (T : Top hd.view_39 (looseW hd.view_39 [Str.ofString "StreamReader"]) mean mg mb h₀)
  (F : Fr h₀ Lg s.heap u) (H : Has u [(Str.ofString "n", .int n tn), (Str.ofString "self", .ref R), (Str.ofString "m", .int lim tm), (Str.ofString "too_long_exc_type", .type cls), (Str.ofString "p", .int p tp)]) (N : News h₀ Lg s.heap (led R Rd B hb he tb te cn e row X)) (hz : row.length ≤ 1000) 
  (hQ1 : n > 0 → ∀ h' tk (t : Tok) u', Fr h₀ Lg h' u' → Has u' [(Str.ofString "n", .int n tn), (Str.ofString "self", .ref R), (Str.ofString "m", .int lim tm), (Str.ofString "too_long_exc_type", .type cls), (Str.ofString "p", .int p tp)] → News h₀ Lg h' (led R Rd B hb he tb te cn e row X) → Q .brk { s with heap := h', toks := tk }) (hQ2 : ¬ n > 0 → ∀ h' tk (t : Tok) u', Fr h₀ Lg h' u' → Has u' [(Str.ofString "n", .int n tn), (Str.ofString "self", .ref R), (Str.ofString "m", .int lim tm), (Str.ofString "too_long_exc_type", .type cls), (Str.ofString "p", .int p tp)] → News h₀ Lg h' (led R Rd B hb he tb te cn e row X) → Q .next { s with heap := h', toks := tk })  :
  wpAny (model Challenge.rw_ev0028_01.row.prog w) (ktrTop dp un gd (Str.ofString "StreamReader.read_line") rlScope Lg 36 (.ref 35) [] outer) (execs [rlL1] (envOf (Str.ofString "StreamReader.read_line") rlScope Lg 36 (.ref 35))) Q E s := by
  dsimp only [led] at N
  replace F := frHas F H
  dsimp only [chainTo] at F
  unfold rlL1
  dsimp only
  revert KX; k_fill; intro KX
  w_strict (k_steps)
  · (refine' hQ1 (by omega) _ _ 0 _ ?a ?b ?c; (case a => assumption); (case b => exact ⟨by with_unfolding_all exact rfl, by with_unfolding_all exact rfl, by with_unfolding_all exact rfl, by with_unfolding_all exact rfl, by with_unfolding_all exact rfl, trivial⟩); (case c => assumption))
  · (refine' hQ2 (by omega) _ _ 0 _ ?a ?b ?c; (case a => assumption); (case b => exact ⟨by with_unfolding_all exact rfl, by with_unfolding_all exact rfl, by with_unfolding_all exact rfl, by with_unfolding_all exact rfl, by with_unfolding_all exact rfl, trivial⟩); (case c => assumption))


set_option maxHeartbeats 0 in
theorem rl_L2 (KX : (hd.heap_39 w.params).In h₀) (T : Top hd.view_39 (looseW hd.view_39 [Str.ofString "StreamReader"]) mean mg mb h₀)
  (F : Fr h₀ Lg s.heap u) (H : Has u [(Str.ofString "n", .int n tn), (Str.ofString "self", .ref R), (Str.ofString "m", .int lim tm), (Str.ofString "too_long_exc_type", .type cls), (Str.ofString "p", .int p tp)]) (N : News h₀ Lg s.heap (led R Rd B hb he tb te cn e row X)) (hz : row.length ≤ 1000) 
  (hQ : ∀ h' tk (t : Tok) u', Fr h₀ Lg h' u' → Has u' [(Str.ofString "p", .int row.length t), (Str.ofString "n", .int n tn), (Str.ofString "self", .ref R), (Str.ofString "m", .int lim tm), (Str.ofString "too_long_exc_type", .type cls)] → News h₀ Lg h' (led R Rd B hb he tb te cn e row X) → Q .next { s with heap := h', toks := tk })  :
  wpAny (model Challenge.rw_ev0028_01.row.prog w) (ktrTop dp un gd (Str.ofString "StreamReader.read_line") rlScope Lg 36 (.ref 35) [] outer) (execs [rlL2] (envOf (Str.ofString "StreamReader.read_line") rlScope Lg 36 (.ref 35))) Q E s := by
  dsimp only [led] at N
  replace F := frHas F H
  dsimp only [chainTo] at F
  unfold rlL2
  dsimp only
  revert KX; k_fill; intro KX
  w_strict (k_steps)
  · (refine' hQ  _ _ _ _ ?a ?b ?c; (case a => assumption); (case b => exact ⟨by with_unfolding_all exact rfl, by with_unfolding_all exact rfl, by with_unfolding_all exact rfl, by with_unfolding_all exact rfl, by with_unfolding_all exact rfl, trivial⟩); (case c => assumption))


set_option maxHeartbeats 0 in
theorem rl_L3 (KX : (hd.heap_39 w.params).In h₀) (T : Top hd.view_39 (looseW hd.view_39 [Str.ofString "StreamReader"]) mean mg mb h₀)
  (F : Fr h₀ Lg s.heap u) (H : Has u [(Str.ofString "n", .int n tn), (Str.ofString "self", .ref R), (Str.ofString "m", .int lim tm), (Str.ofString "too_long_exc_type", .type cls), (Str.ofString "p", .int p tp)]) (N : News h₀ Lg s.heap (led R Rd B hb he tb te cn e row X)) (hz : row.length ≤ 1000) (hx : Exc3 cls) (hp : p ≤ row.length) (hl0 : 0 ≤ lim) (hl9 : lim < 10)
  (hQ : ¬ (p : Int) > lim → ∀ h' tk (t : Tok) u', Fr h₀ Lg h' u' → Has u' [(Str.ofString "n", .int n tn), (Str.ofString "self", .ref R), (Str.ofString "m", .int lim tm), (Str.ofString "too_long_exc_type", .type cls), (Str.ofString "p", .int p tp)] → News h₀ Lg h' (led R Rd B hb he tb te cn e row X) → Q .next { s with heap := h', toks := tk }) (hE1 : (p : Int) > lim → ∀ hb' h' tk x u', Fr h₀ Lg hb' u' → News h₀ Lg hb' (led R Rd B hb he tb te cn e row X) → Heap.NewExc hb' h' x cls → E (.ref x) { s with heap := h', toks := tk })  :
  wpAny (model Challenge.rw_ev0028_01.row.prog w) (ktrTop dp un gd (Str.ofString "StreamReader.read_line") rlScope Lg 36 (.ref 35) [] outer) (execs [rlL3] (envOf (Str.ofString "StreamReader.read_line") rlScope Lg 36 (.ref 35))) Q E s := by
  dsimp only [led] at N
  replace F := frHas F H
  dsimp only [chainTo] at F
  unfold rlL3
  dsimp only
  revert KX; k_fill; intro KX
  w_strict (k_steps)
  · (refine raise3 hx fun h' x hx' => ?_; refine' hE1 (by omega) _ _ _ _ _ ?a ?b ?c; (case a => assumption); (case b => assumption); (case c => exact hx'))
  · (refine' hQ (by omega) _ _ 0 _ ?a ?b ?c; (case a => assumption); (case b => exact ⟨by with_unfolding_all exact rfl, by with_unfolding_all exact rfl, by with_unfolding_all exact rfl, by with_unfolding_all exact rfl, by with_unfolding_all exact rfl, trivial⟩); (case c => assumption))


set_option maxHeartbeats 0 in
theorem rl_L4 (KX : (hd.heap_39 w.params).In h₀) (T : Top hd.view_39 (looseW hd.view_39 [Str.ofString "StreamReader"]) mean mg mb h₀)
  (F : Fr h₀ Lg s.heap u) (H : Has u [(Str.ofString "n", .int n tn), (Str.ofString "self", .ref R), (Str.ofString "m", .int lim tm), (Str.ofString "too_long_exc_type", .type cls), (Str.ofString "p", .int p tp)]) (N : News h₀ Lg s.heap (led R Rd B hb he tb te cn e row X)) (hz : row.length ≤ 1000) (hp : p ≤ row.length) (hl0 : 0 ≤ lim) (hl9 : lim < 10)
  (hQ : e = false → ∀ h' tk (t : Tok) u', Fr h₀ Lg h' u' → Has u' [(Str.ofString "n", .int n tn), (Str.ofString "self", .ref R), (Str.ofString "m", .int lim tm), (Str.ofString "too_long_exc_type", .type cls), (Str.ofString "p", .int p tp)] → News h₀ Lg h' (led R Rd B hb he tb te cn e row X) → Q .next { s with heap := h', toks := tk }) (hE1 : e = true → ∀ hb' h' tk x u', Fr h₀ Lg hb' u' → News h₀ Lg hb' (led R Rd B hb he tb te cn e row X) → Heap.NewExc hb' h' x "EOFError" → E (.ref x) { s with heap := h', toks := tk })  :
  wpAny (model Challenge.rw_ev0028_01.row.prog w) (ktrTop dp un gd (Str.ofString "StreamReader.read_line") rlScope Lg 36 (.ref 35) [] outer) (execs [rlL4] (envOf (Str.ofString "StreamReader.read_line") rlScope Lg 36 (.ref 35))) Q E s := by
  dsimp only [led] at N
  replace F := frHas F H
  dsimp only [chainTo] at F
  unfold rlL4
  dsimp only
  revert KX; k_fill; intro KX
  w_strict (k_steps)
  · (refine' hE1 (by assumption) _ _ _ _ _ ?a ?b ?c; (case a => assumption); (case b => assumption); (case c => assumption))
  · (refine' hQ (by first | assumption | exact notTrue (by assumption)) _ _ 0 _ ?a ?b ?c; (case a => assumption); (case b => exact ⟨by with_unfolding_all exact rfl, by with_unfolding_all exact rfl, by with_unfolding_all exact rfl, by with_unfolding_all exact rfl, by with_unfolding_all exact rfl, trivial⟩); (case c => assumption))


set_option maxHeartbeats 0 in
theorem rl_B0 (KX : (hd.heap_39 w.params).In h₀) (T : Top hd.view_39 (looseW hd.view_39 [Str.ofString "StreamReader"]) mean mg mb h₀)
  (F : Fr h₀ Lg s.heap u) (H : Has u [(Str.ofString "self", .ref R), (Str.ofString "m", .int lim tm), (Str.ofString "too_long_exc_type", .type cls)]) (N : News h₀ Lg s.heap (led R Rd B hb he tb te cn e row X)) (hz : row.length ≤ 1000) 
  (hQ : ∀ h' tk (t : Tok) u', Fr h₀ Lg h' u' → Has u' [(Str.ofString "n", .int 0 t), (Str.ofString "self", .ref R), (Str.ofString "m", .int lim tm), (Str.ofString "too_long_exc_type", .type cls)] → News h₀ Lg h' (led R Rd B hb he tb te cn e row X) → Q .next { s with heap := h', toks := tk })  :
  wpAny (model Challenge.rw_ev0028_01.row.prog w) (ktrTop dp un gd (Str.ofString "StreamReader.read_line") rlScope Lg 36 (.ref 35) [] outer) (execs [rlB0] (envOf (Str.ofString "StreamReader.read_line") rlScope Lg 36 (.ref 35))) Q E s := by
  dsimp only [led] at N
  replace F := frHas F H
  dsimp only [chainTo] at F
  unfold rlB0
  dsimp only
  revert KX; k_fill; intro KX
  w_strict (k_steps)
  · (refine' hQ  _ _ _ _ ?a ?b ?c; (case a => assumption); (case b => exact ⟨by with_unfolding_all exact rfl, by with_unfolding_all exact rfl, by with_unfolding_all exact rfl, by with_unfolding_all exact rfl, trivial⟩); (case c => assumption))


set_option maxHeartbeats 0 in
theorem rl_B1 (KX : (hd.heap_39 w.params).In h₀) (T : Top hd.view_39 (looseW hd.view_39 [Str.ofString "StreamReader"]) mean mg mb h₀)
  (F : Fr h₀ Lg s.heap u) (H : Has u [(Str.ofString "self", .ref R), (Str.ofString "m", .int lim tm), (Str.ofString "too_long_exc_type", .type cls)]) (N : News h₀ Lg s.heap (led R Rd B hb he tb te cn e row X)) (hz : row.length ≤ 1000) 
  (hQ : ∀ h' tk (t : Tok) u', Fr h₀ Lg h' u' → Has u' [(Str.ofString "p", .int 0 t), (Str.ofString "self", .ref R), (Str.ofString "m", .int lim tm), (Str.ofString "too_long_exc_type", .type cls)] → News h₀ Lg h' (led R Rd B hb he tb te cn e row X) → Q .next { s with heap := h', toks := tk })  :
  wpAny (model Challenge.rw_ev0028_01.row.prog w) (ktrTop dp un gd (Str.ofString "StreamReader.read_line") rlScope Lg 36 (.ref 35) [] outer) (execs [rlB1] (envOf (Str.ofString "StreamReader.read_line") rlScope Lg 36 (.ref 35))) Q E s := by
  dsimp only [led] at N
  replace F := frHas F H
  dsimp only [chainTo] at F
  unfold rlB1
  dsimp only
  revert KX; k_fill; intro KX
  w_strict (k_steps)
  · (refine' hQ  _ _ _ _ ?a ?b ?c; (case a => assumption); (case b => exact ⟨by with_unfolding_all exact rfl, by with_unfolding_all exact rfl, by with_unfolding_all exact rfl, by with_unfolding_all exact rfl, trivial⟩); (case c => assumption))


set_option maxHeartbeats 0 in
theorem rl_T {QB : Bool → Shared → Prop} (KX : (hd.heap_39 w.params).In h₀) (T : Top hd.view_39 (looseW hd.view_39 [Str.ofString "StreamReader"]) mean mg mb h₀)
  (F : Fr h₀ Lg s.heap u) (H : Has u [(Str.ofString "self", .ref R), (Str.ofString "m", .int lim tm), (Str.ofString "too_long_exc_type", .type cls), (Str.ofString "p", .int p tp)]) (N : News h₀ Lg s.heap (led R Rd B hb he tb te cn e row X)) (hz : row.length ≤ 1000) 
  (hQ : ∀ h' tk (t : Tok) u', Fr h₀ Lg h' u' → Has u' [(Str.ofString "self", .ref R), (Str.ofString "m", .int lim tm), (Str.ofString "too_long_exc_type", .type cls), (Str.ofString "p", .int p tp)] → News h₀ Lg h' (led R Rd B hb he tb te cn e row X) → QB true { s with heap := h', toks := tk })  :
  wpAny (model Challenge.rw_ev0028_01.row.prog w) (ktrTop dp un gd (Str.ofString "StreamReader.read_line") rlScope Lg 36 (.ref 35) [] outer) (isTrue rlTest (envOf (Str.ofString "StreamReader.read_line") rlScope Lg 36 (.ref 35)) (eval rlTest (envOf (Str.ofString "StreamReader.read_line") rlScope Lg 36 (.ref 35)))) QB E s := by
  dsimp only [led] at N
  replace F := frHas F H
  dsimp only [chainTo] at F
  unfold rlTest
  dsimp only
  skip
  revert KX; k_fill; intro KX
  w_strict (k_steps)
  · (refine' hQ  _ _ 0 _ ?a ?b ?c; (case a => assumption); (case b => exact ⟨by with_unfolding_all exact rfl, by with_unfolding_all exact rfl, by with_unfolding_all exact rfl, by with_unfolding_all exact rfl, trivial⟩); (case c => assumption))


set_option maxHeartbeats 0 in
theorem rl_B3 (KX : (hd.heap_39 w.params).In h₀) (T : Top hd.view_39 (looseW hd.view_39 [Str.ofString "StreamReader"]) mean mg mb h₀)
  (F : Fr h₀ Lg s.heap u) (H : Has u [(Str.ofString "n", .int n tn), (Str.ofString "self", .ref R), (Str.ofString "m", .int lim tm), (Str.ofString "too_long_exc_type", .type cls)]) (N : News h₀ Lg s.heap (led R Rd B hb he tb te cn e row X)) (hz : row.length ≤ 1000) (hx : Exc3 cls) (hn : n ≤ row.length) (hn0 : 0 ≤ n) (hl0 : 0 ≤ lim) (hl9 : lim < 10)
  (hQ : ¬ n > lim → ∀ h' tk (t : Tok) u', Fr h₀ Lg h' u' → Has u' [(Str.ofString "n", .int n tn), (Str.ofString "self", .ref R), (Str.ofString "m", .int lim tm), (Str.ofString "too_long_exc_type", .type cls)] → News h₀ Lg h' (led R Rd B hb he tb te cn e row X) → Q .next { s with heap := h', toks := tk }) (hE1 : n > lim → ∀ hb' h' tk x u', Fr h₀ Lg hb' u' → News h₀ Lg hb' (led R Rd B hb he tb te cn e row X) → Heap.NewExc hb' h' x cls → E (.ref x) { s with heap := h', toks := tk })  :
  wpAny (model Challenge.rw_ev0028_01.row.prog w) (ktrTop dp un gd (Str.ofString "StreamReader.read_line") rlScope Lg 36 (.ref 35) [] outer) (execs [rlB3] (envOf (Str.ofString "StreamReader.read_line") rlScope Lg 36 (.ref 35))) Q E s := by
  dsimp only [led] at N
  replace F := frHas F H
  dsimp only [chainTo] at F
  unfold rlB3
  dsimp only
  revert KX; k_fill; intro KX
  w_strict (k_steps)
  · (refine raise3 hx fun h' x hx' => ?_; refine' hE1 (by omega) _ _ _ _ _ ?a ?b ?c; (case a => assumption); (case b => assumption); (case c => exact hx'))
  · (refine' hQ (by omega) _ _ 0 _ ?a ?b ?c; (case a => assumption); (case b => exact ⟨by with_unfolding_all exact rfl, by with_unfolding_all exact rfl, by with_unfolding_all exact rfl, by with_unfolding_all exact rfl, trivial⟩); (case c => assumption))


set_option maxHeartbeats 0 in
theorem rl_B4 (KX : (hd.heap_39 w.params).In h₀) (T : Top hd.view_39 (looseW hd.view_39 [Str.ofString "StreamReader"]) mean mg mb h₀)
  (F : Fr h₀ Lg s.heap u) (H : Has u [(Str.ofString "n", .int n tn), (Str.ofString "self", .ref R), (Str.ofString "m", .int lim tm), (Str.ofString "too_long_exc_type", .type cls)]) (N : News h₀ Lg s.heap (led R Rd B hb he tb te cn e row X)) (hz : row.length ≤ 1000) {k : Nat} (c : Cut row (some n) k)
  (hQ : ∀ h' tk D u', Fr h₀ Lg h' u' → Has u' [(Str.ofString "r", .ref D), (Str.ofString "n", .int n tn), (Str.ofString "self", .ref R), (Str.ofString "m", .int lim tm), (Str.ofString "too_long_exc_type", .type cls)] → News h₀ Lg h' ((D, baObj (row.take k)) :: led R Rd B hb he tb te cn e row X) → (∀ p ∈ led R Rd B hb he tb te cn e row X, p.1 < D) → s.heap.objs.size ≤ D → Q .next { s with heap := h', toks := tk })  :
  wpAny (model Challenge.rw_ev0028_01.row.prog w) (ktrTop dp un gd (Str.ofString "StreamReader.read_line") rlScope Lg 36 (.ref 35) [] outer) (execs [rlB4] (envOf (Str.ofString "StreamReader.read_line") rlScope Lg 36 (.ref 35))) Q E s := by
  dsimp only [led] at N
  replace F := frHas F H
  dsimp only [chainTo] at F
  unfold rlB4
  dsimp only
  revert KX; k_fill; intro KX
  w_strict (k_steps)
  · (refine' hQ _ _ _ _ ?a ?b ?c ?d ?e; (case a => assumption); (case b => exact ⟨by with_unfolding_all exact rfl, by with_unfolding_all exact rfl, by with_unfolding_all exact rfl, by with_unfolding_all exact rfl, by with_unfolding_all exact rfl, trivial⟩); (case c => assumption); (case d => assumption); (case e => assumption))


set_option maxHeartbeats 0 in
theorem rl_B5  (KX : (hd.heap_39 w.params).In h₀) (T : Top hd.view_39 (looseW hd.view_39 [Str.ofString "StreamReader"]) mean mg mb h₀)
  (F : Fr h₀ Lg s.heap u) (H : Has u [(Str.ofString "r", .ref p), (Str.ofString "n", .int n tn), (Str.ofString "self", .ref R), (Str.ofString "m", .int lim tm), (Str.ofString "too_long_exc_type", .type cls)]) (N : News h₀ Lg s.heap (led R Rd B hb he tb te cn e row X)) (hz : row.length ≤ 1000) {k : Nat} (c : Cut row (some n) k) (hB : ∀ p ∈ (R, instObj 82 Rd) :: (Rd, dictOf [⟨hb, .str (Str.ofString "buffer") tb, .ref B⟩, ⟨he, .str (Str.ofString "eof") te, .bool e⟩] cn) :: X, p.1 ≠ B)
  (hQ : ∀ h' tk u', Fr h₀ Lg h' u' → Has u' [(Str.ofString "r", .ref p), (Str.ofString "n", .int n tn), (Str.ofString "self", .ref R), (Str.ofString "m", .int lim tm), (Str.ofString "too_long_exc_type", .type cls)] → News h₀ Lg h' (led R Rd B hb he tb te cn e (row.drop k) X) → Q .next { s with heap := h', toks := tk }) :
  wpC (model Challenge.rw_ev0028_01.row.prog w) (ktrTop dp un gd (Str.ofString "StreamReader.read_line") rlScope Lg 36 (.ref 35) [] outer) (exec rlB5 (envOf (Str.ofString "StreamReader.read_line") rlScope Lg 36 (.ref 35))) Q E s := by
  dsimp only [led] at N
  replace F := frHas F H
  dsimp only [chainTo] at F
  unfold rlB5
  dsimp only
  refine wpC_DelSlice ?_
  revert KX; k_fill; intro KX
  w_strict (k_steps)
  · refine del_cut (pre := [_, _]) (by assumption) (by assumption) (fun p hp => hB p (List.mem_append_left X hp)) (fun p hp => hB p (.tail _ (.tail _ hp))) c (.int _ _) (by omega) fun h' F' N' => ?_
    refine' hQ _ _ _ ?a ?b ?c; (case a => assumption); (case b => exact ⟨by with_unfolding_all exact rfl, by with_unfolding_all exact rfl, by with_unfolding_all exact rfl, by with_unfolding_all exact rfl, by with_unfolding_all exact rfl, trivial⟩); (case c => assumption)


set_option maxHeartbeats 0 in
theorem rl_B6 (KX : (hd.heap_39 w.params).In h₀) (T : Top hd.view_39 (looseW hd.view_39 [Str.ofString "StreamReader"]) mean mg mb h₀)
  (F : Fr h₀ Lg s.heap u) (H : Has u [(Str.ofString "r", .ref p), (Str.ofString "n", .int n tn), (Str.ofString "self", .ref R), (Str.ofString "m", .int lim tm), (Str.ofString "too_long_exc_type", .type cls)]) (N : News h₀ Lg s.heap (led R Rd B hb he tb te cn e row X)) (hz : row.length ≤ 1000) 
  (hQ : Q (.ret (.ref p)) s) :
  wpAny (model Challenge.rw_ev0028_01.row.prog w) (ktrTop dp un gd (Str.ofString "StreamReader.read_line") rlScope Lg 36 (.ref 35) [] outer) (execs [rlB6] (envOf (Str.ofString "StreamReader.read_line") rlScope Lg 36 (.ref 35))) Q E s := by
  dsimp only [led] at N
  replace F := frHas F H
  dsimp only [chainTo] at F
  unfold rlB6
  dsimp only
  revert KX; k_fill; intro KX
  w_strict (k_steps)
  · exact hQ

end
end Mine
end
section
open PySem PySem.W PySem.Calls PyProof.Rows
set_option maxRecDepth 100000
namespace Mine
local macro_rules | `(tactic| walk_at "getMethod ref") => `(tactic| (k_here; (with_reducible show wpAny _ _ (getMethod (Value.ref _) (PySem.Str.ofString "find") _) _ _ _); k_dflt (refine' ba_getMethod_find (News.get ?k1 ?k2) ?_; (case k1 => k_asm); (case k2 => k_mem); k_whole)))
local macro_rules | `(tactic| walk_at "call builtin:bytearray.find") => `(tactic| (k_here; k_dflt (refine' ba_find (News.get ?k1 ?k2) ?k3 ?_; (case k1 => k_asm); (case k2 => k_mem); (case k3 => first | assumption | omega); k_whole)))
local macro_rules | `(tactic| walk_at "call builtin:len") => `(tactic| (k_here; (with_reducible show wpAny _ _ (call (Value.builtin "len") [Value.ref _]) _ _ _); k_dflt (refine' ba_len (News.get ?k1 ?k2) ?k3 ?_; (case k1 => k_asm); (case k2 => k_mem); (case k3 => first | assumption | omega); k_whole)))
local macro_rules | `(tactic| walk_at "subscriptTail") => `(tactic| (k_here; (with_reducible show wpAny _ _ (subscriptTail _ (Expr.Slice _ _ _ _) (Value.ref _) (Value.ref _)) _ _ _); k_dflt (refine' ba_cut_K ?F ?N ?m ?c ?p ?z ?_ ?sub; (case F => k_asm); (case N => k_asm); (case m => k_mem); (case c => assumption); (case p => first | exact IsPart.none | constructor); (case z => omega); (case sub => with_unfolding_all rfl)); intro _ _ _ _ _ _))
local macro_rules | `(tactic| walk_at "call type:EOFError") => `(tactic| (refine raise3 .eof ?_; intro _ _ _))
local macro_rules | `(tactic| walk_at "joinParts") => `(tactic| (k_here; (first | (with_reducible show wpAny _ _ (joinParts _ []) _ _ _) | (with_reducible show wpAny _ _ (joinParts _ (evalEach [] _)) _ _ _)); k_dflt (refine' joinParts_nil ?_ ?hz; (case hz => first | with_reducible exact readText (by omega) (by omega) (by omega) (by omega) | with_reducible exact eofText (by omega) | with_reducible exact eofText2 (by omega) (by omega) (by omega)))))
local macro_rules | `(tactic| walk_at "truthy ref") => `(tactic| (k_here; k_dflt (refine' ba_truthy (News.get ?k1 ?k2) ?k3 ?_; (case k1 => k_asm); (case k2 => k_mem); (case k3 => first | assumption | omega); k_whole)))
section
variable {w : World} {s : Shared} {h₀ : Heap} {Lg R Rd B dp un : Nat} {gd : Option (List Code)} {outer : List Env} {u mg mb : Str → Option Value} {mean : ExcName → Option Value} {Q : Flow → Shared → Prop} {E : Value → Shared → Prop}
  {lim : Int} {p : Nat} {n : Int} {tm tp tn tb te : Tok} {hb he : Int} {cn : Nat} {e : Bool} {row r : List UInt8} {cls : String} {X : List (Addr × Obj)}

set_option maxHeartbeats 0 in
theorem re_B0 (KX : (hd.heap_39 w.params).In h₀) (T : Top hd.view_39 (looseW hd.view_39 [Str.ofString "StreamReader"]) mean mg mb h₀)
  (F : Fr h₀ Lg s.heap u) (H : Has u [(Str.ofString "self", .ref R), (Str.ofString "n", .int lim tm)]) (N : News h₀ Lg s.heap (led R Rd B hb he tb te cn e row X)) (hz : row.length ≤ 1000) (hl0 : 0 ≤ lim) (hl9 : lim < 10)
  (hQ : ∀ h' tk (t : Tok) u', Fr h₀ Lg h' u' → Has u' [(Str.ofString "self", .ref R), (Str.ofString "n", .int lim tm)] → News h₀ Lg h' (led R Rd B hb he tb te cn e row X) → Q .next { s with heap := h', toks := tk })  :
  wpAny (model Challenge.rw_ev0028_01.row.prog w) (ktrTop dp un gd (Str.ofString "StreamReader.read_exact") reScope Lg 43 (.ref 42) [] outer) (execs [reB0] (envOf (Str.ofString "StreamReader.read_exact") reScope Lg 43 (.ref 42))) Q E s := by
  dsimp only [led] at N
  replace F := frHas F H
  dsimp only [chainTo] at F
  unfold reB0
  dsimp only
  revert KX; k_fill; intro KX
  w_strict (k_steps)
  · (refine' hQ  _ _ 0 _ ?a ?b ?c; (case a => assumption); (case b => exact ⟨by with_unfolding_all exact rfl, by with_unfolding_all exact rfl, trivial⟩); (case c => assumption))


set_option maxHeartbeats 0 in
theorem re_T {QB : Bool → Shared → Prop} (KX : (hd.heap_39 w.params).In h₀) (T : Top hd.view_39 (looseW hd.view_39 [Str.ofString "StreamReader"]) mean mg mb h₀)
  (F : Fr h₀ Lg s.heap u) (H : Has u [(Str.ofString "self", .ref R), (Str.ofString "n", .int lim tm)]) (N : News h₀ Lg s.heap (led R Rd B hb he tb te cn e row X)) (hz : row.length ≤ 1000) 
  (hQ : ∀ h' tk (t : Tok) u', Fr h₀ Lg h' u' → Has u' [(Str.ofString "self", .ref R), (Str.ofString "n", .int lim tm)] → News h₀ Lg h' (led R Rd B hb he tb te cn e row X) → QB (decide ((row.length : Int) < lim)) { s with heap := h', toks := tk })  :
  wpAny (model Challenge.rw_ev0028_01.row.prog w) (ktrTop dp un gd (Str.ofString "StreamReader.read_exact") reScope Lg 43 (.ref 42) [] outer) (isTrue reTest (envOf (Str.ofString "StreamReader.read_exact") reScope Lg 43 (.ref 42)) (eval reTest (envOf (Str.ofString "StreamReader.read_exact") reScope Lg 43 (.ref 42)))) QB E s := by
  dsimp only [led] at N
  replace F := frHas F H
  dsimp only [chainTo] at F
  unfold reTest
  dsimp only
  skip
  revert KX; k_fill; intro KX
  w_strict (k_steps)
  · (refine' hQ  _ _ 0 _ ?a ?b ?c; (case a => assumption); (case b => exact ⟨by with_unfolding_all exact rfl, by with_unfolding_all exact rfl, trivial⟩); (case c => assumption))


set_option maxHeartbeats 0 in
theorem re_L0 (KX : (hd.heap_39 w.params).In h₀) (T : Top hd.view_39 (looseW hd.view_39 [Str.ofString "StreamReader"]) mean mg mb h₀)
  (F : Fr h₀ Lg s.heap u) (H : Has u [(Str.ofString "self", .ref R), (Str.ofString "n", .int lim tm)]) (N : News h₀ Lg s.heap (led R Rd B hb he tb te cn e row X)) (hz : row.length ≤ 1000) (hl0 : 0 ≤ lim) (hl9 : lim < 10)
  (hQ : e = false → ∀ h' tk (t : Tok) u', Fr h₀ Lg h' u' → Has u' [(Str.ofString "self", .ref R), (Str.ofString "n", .int lim tm)] → News h₀ Lg h' (led R Rd B hb he tb te cn e row X) → Q .next { s with heap := h', toks := tk }) (hE1 : e = true → ∀ hb' h' tk x u', Fr h₀ Lg hb' u' → News h₀ Lg hb' (led R Rd B hb he tb te cn e row X) → Heap.NewExc hb' h' x "EOFError" → E (.ref x) { s with heap := h', toks := tk })  :
  wpAny (model Challenge.rw_ev0028_01.row.prog w) (ktrTop dp un gd (Str.ofString "StreamReader.read_exact") reScope Lg 43 (.ref 42) [] outer) (execs [reL0] (envOf (Str.ofString "StreamReader.read_exact") reScope Lg 43 (.ref 42))) Q E s := by
  dsimp only [led] at N
  replace F := frHas F H
  dsimp only [chainTo] at F
  unfold reL0
  dsimp only
  revert KX; k_fill; intro KX
  w_strict (k_steps)
  · (refine' hE1 (by assumption) _ _ _ _ _ ?a ?b ?c; (case a => assumption); (case b => assumption); (case c => assumption))
  · (refine' hQ (by first | assumption | exact notTrue (by assumption)) _ _ 0 _ ?a ?b ?c; (case a => assumption); (case b => exact ⟨by with_unfolding_all exact rfl, by with_unfolding_all exact rfl, trivial⟩); (case c => assumption))


set_option maxHeartbeats 0 in
theorem re_B2 (KX : (hd.heap_39 w.params).In h₀) (T : Top hd.view_39 (looseW hd.view_39 [Str.ofString "StreamReader"]) mean mg mb h₀)
  (F : Fr h₀ Lg s.heap u) (H : Has u [(Str.ofString "self", .ref R), (Str.ofString "n", .int lim tm)]) (N : News h₀ Lg s.heap (led R Rd B hb he tb te cn e row X)) (hz : row.length ≤ 1000) {k : Nat} (c : Cut row (some lim) k)
  (hQ : ∀ h' tk D u', Fr h₀ Lg h' u' → Has u' [(Str.ofString "r", .ref D), (Str.ofString "self", .ref R), (Str.ofString "n", .int lim tm)] → News h₀ Lg h' ((D, baObj (row.take k)) :: led R Rd B hb he tb te cn e row X) → (∀ p ∈ led R Rd B hb he tb te cn e row X, p.1 < D) → s.heap.objs.size ≤ D → Q .next { s with heap := h', toks := tk })  :
  wpAny (model Challenge.rw_ev0028_01.row.prog w) (ktrTop dp un gd (Str.ofString "StreamReader.read_exact") reScope Lg 43 (.ref 42) [] outer) (execs [reB2] (envOf (Str.ofString "StreamReader.read_exact") reScope Lg 43 (.ref 42))) Q E s := by
  dsimp only [led] at N
  replace F := frHas F H
  dsimp only [chainTo] at F
  unfold reB2
  dsimp only
  revert KX; k_fill; intro KX
  w_strict (k_steps)
  · (refine' hQ _ _ _ _ ?a ?b ?c ?d ?e; (case a => assumption); (case b => exact ⟨by with_unfolding_all exact rfl, by with_unfolding_all exact rfl, by with_unfolding_all exact rfl, trivial⟩); (case c => assumption); (case d => assumption); (case e => assumption))


set_option maxHeartbeats 0 in
theorem re_B3  (KX : (hd.heap_39 w.params).In h₀) (T : Top hd.view_39 (looseW hd.view_39 [Str.ofString "StreamReader"]) mean mg mb h₀)
  (F : Fr h₀ Lg s.heap u) (H : Has u [(Str.ofString "r", .ref p), (Str.ofString "self", .ref R), (Str.ofString "n", .int lim tm)]) (N : News h₀ Lg s.heap (led R Rd B hb he tb te cn e row X)) (hz : row.length ≤ 1000) {k : Nat} (c : Cut row (some lim) k) (hB : ∀ p ∈ (R, instObj 82 Rd) :: (Rd, dictOf [⟨hb, .str (Str.ofString "buffer") tb, .ref B⟩, ⟨he, .str (Str.ofString "eof") te, .bool e⟩] cn) :: X, p.1 ≠ B)
  (hQ : ∀ h' tk u', Fr h₀ Lg h' u' → Has u' [(Str.ofString "r", .ref p), (Str.ofString "self", .ref R), (Str.ofString "n", .int lim tm)] → News h₀ Lg h' (led R Rd B hb he tb te cn e (row.drop k) X) → Q .next { s with heap := h', toks := tk }) :
  wpC (model Challenge.rw_ev0028_01.row.prog w) (ktrTop dp un gd (Str.ofString "StreamReader.read_exact") reScope Lg 43 (.ref 42) [] outer) (exec reB3 (envOf (Str.ofString "StreamReader.read_exact") reScope Lg 43 (.ref 42))) Q E s := by
  dsimp only [led] at N
  replace F := frHas F H
  dsimp only [chainTo] at F
  unfold reB3
  dsimp only
  refine wpC_DelSlice ?_
  revert KX; k_fill; intro KX
  w_strict (k_steps)
  · refine del_cut (pre := [_, _]) (by assumption) (by assumption) (fun p hp => hB p (List.mem_append_left X hp)) (fun p hp => hB p (.tail _ (.tail _ hp))) c (.int _ _) (by omega) fun h' F' N' => ?_
    refine' hQ _ _ _ ?a ?b ?c; (case a => assumption); (case b => exact ⟨by with_unfolding_all exact rfl, by with_unfolding_all exact rfl, by with_unfolding_all exact rfl, trivial⟩); (case c => assumption)


set_option maxHeartbeats 0 in
theorem re_B4 (KX : (hd.heap_39 w.params).In h₀) (T : Top hd.view_39 (looseW hd.view_39 [Str.ofString "StreamReader"]) mean mg mb h₀)
  (F : Fr h₀ Lg s.heap u) (H : Has u [(Str.ofString "r", .ref p), (Str.ofString "self", .ref R), (Str.ofString "n", .int lim tm)]) (N : News h₀ Lg s.heap (led R Rd B hb he tb te cn e row X)) (hz : row.length ≤ 1000) 
  (hQ : Q (.ret (.ref p)) s) :
  wpAny (model Challenge.rw_ev0028_01.row.prog w) (ktrTop dp un gd (Str.ofString "StreamReader.read_exact") reScope Lg 43 (.ref 42) [] outer) (execs [reB4] (envOf (Str.ofString "StreamReader.read_exact") reScope Lg 43 (.ref 42))) Q E s := by
  dsimp only [led] at N
  replace F := frHas F H
  dsimp only [chainTo] at F
  unfold reB4
  dsimp only
  revert KX; k_fill; intro KX
  w_strict (k_steps)
  · exact hQ


set_option maxHeartbeats 0 in
theorem rt_T {QB : Bool → Shared → Prop} (KX : (hd.heap_39 w.params).In h₀) (T : Top hd.view_39 (looseW hd.view_39 [Str.ofString "StreamReader"]) mean mg mb h₀)
  (F : Fr h₀ Lg s.heap u) (H : Has u [(Str.ofString "self", .ref R), (Str.ofString "m", .int lim tm), (Str.ofString "too_long_exc_type", .type cls)]) (N : News h₀ Lg s.heap (led R Rd B hb he tb te cn e row X)) (hz : row.length ≤ 1000) 
  (hQ : ∀ h' tk (t : Tok) u', Fr h₀ Lg h' u' → Has u' [(Str.ofString "self", .ref R), (Str.ofString "m", .int lim tm), (Str.ofString "too_long_exc_type", .type cls)] → News h₀ Lg h' (led R Rd B hb he tb te cn e row X) → QB (!e) { s with heap := h', toks := tk })  :
  wpAny (model Challenge.rw_ev0028_01.row.prog w) (ktrTop dp un gd (Str.ofString "StreamReader.read_to_eof") rtScope Lg 51 (.ref 50) [] outer) (isTrue rtTest (envOf (Str.ofString "StreamReader.read_to_eof") rtScope Lg 51 (.ref 50)) (eval rtTest (envOf (Str.ofString "StreamReader.read_to_eof") rtScope Lg 51 (.ref 50)))) QB E s := by
  dsimp only [led] at N
  replace F := frHas F H
  dsimp only [chainTo] at F
  unfold rtTest
  dsimp only
  skip
  revert KX; k_fill; intro KX
  w_strict (k_steps)
  · (refine' hQ  _ _ 0 _ ?a ?b ?c; (case a => assumption); (case b => exact ⟨by with_unfolding_all exact rfl, by with_unfolding_all exact rfl, by with_unfolding_all exact rfl, trivial⟩); (case c => assumption))


set_option maxHeartbeats 0 in
theorem rt_L0 (KX : (hd.heap_39 w.params).In h₀) (T : Top hd.view_39 (looseW hd.view_39 [Str.ofString "StreamReader"]) mean mg mb h₀)
  (F : Fr h₀ Lg s.heap u) (H : Has u [(Str.ofString "self", .ref R), (Str.ofString "m", .int lim tm), (Str.ofString "too_long_exc_type", .type cls)]) (N : News h₀ Lg s.heap (led R Rd B hb he tb te cn e row X)) (hz : row.length ≤ 1000) 
  (hQ : ∀ h' tk (t : Tok) u', Fr h₀ Lg h' u' → Has u' [(Str.ofString "p", .int row.length t), (Str.ofString "self", .ref R), (Str.ofString "m", .int lim tm), (Str.ofString "too_long_exc_type", .type cls)] → News h₀ Lg h' (led R Rd B hb he tb te cn e row X) → Q .next { s with heap := h', toks := tk })  :
  wpAny (model Challenge.rw_ev0028_01.row.prog w) (ktrTop dp un gd (Str.ofString "StreamReader.read_to_eof") rtScope Lg 51 (.ref 50) [] outer) (execs [rtL0] (envOf (Str.ofString "StreamReader.read_to_eof") rtScope Lg 51 (.ref 50))) Q E s := by
  dsimp only [led] at N
  replace F := frHas F H
  dsimp only [chainTo] at F
  unfold rtL0
  dsimp only
  revert KX; k_fill; intro KX
  w_strict (k_steps)
  · (refine' hQ  _ _ _ _ ?a ?b ?c; (case a => assumption); (case b => exact ⟨by with_unfolding_all exact rfl, by with_unfolding_all exact rfl, by with_unfolding_all exact rfl, by with_unfolding_all exact rfl, trivial⟩); (case c => assumption))


set_option maxHeartbeats 0 in
theorem rt_L1 (KX : (hd.heap_39 w.params).In h₀) (T : Top hd.view_39 (looseW hd.view_39 [Str.ofString "StreamReader"]) mean mg mb h₀)
  (F : Fr h₀ Lg s.heap u) (H : Has u [(Str.ofString "p", .int p tp), (Str.ofString "self", .ref R), (Str.ofString "m", .int lim tm), (Str.ofString "too_long_exc_type", .type cls)]) (N : News h₀ Lg s.heap (led R Rd B hb he tb te cn e row X)) (hz : row.length ≤ 1000) (hx : Exc3 cls) (hp : p ≤ row.length) (hl0 : 0 ≤ lim) (hl9 : lim < 10)
  (hQ : ¬ (p : Int) > lim → ∀ h' tk (t : Tok) u', Fr h₀ Lg h' u' → Has u' [(Str.ofString "p", .int p tp), (Str.ofString "self", .ref R), (Str.ofString "m", .int lim tm), (Str.ofString "too_long_exc_type", .type cls)] → News h₀ Lg h' (led R Rd B hb he tb te cn e row X) → Q .next { s with heap := h', toks := tk }) (hE1 : (p : Int) > lim → ∀ hb' h' tk x u', Fr h₀ Lg hb' u' → News h₀ Lg hb' (led R Rd B hb he tb te cn e row X) → Heap.NewExc hb' h' x cls → E (.ref x) { s with heap := h', toks := tk })  :
  wpAny (model Challenge.rw_ev0028_01.row.prog w) (ktrTop dp un gd (Str.ofString "StreamReader.read_to_eof") rtScope Lg 51 (.ref 50) [] outer) (execs [rtL1] (envOf (Str.ofString "StreamReader.read_to_eof") rtScope Lg 51 (.ref 50))) Q E s := by
  dsimp only [led] at N
  replace F := frHas F H
  dsimp only [chainTo] at F
  unfold rtL1
  dsimp only
  revert KX; k_fill; intro KX
  w_strict (k_steps)
  · (refine raise3 hx fun h' x hx' => ?_; refine' hE1 (by omega) _ _ _ _ _ ?a ?b ?c; (case a => assumption); (case b => assumption); (case c => exact hx'))
  · (refine' hQ (by omega) _ _ 0 _ ?a ?b ?c; (case a => assumption); (case b => exact ⟨by with_unfolding_all exact rfl, by with_unfolding_all exact rfl, by with_unfolding_all exact rfl, by with_unfolding_all exact rfl, trivial⟩); (case c => assumption))


set_option maxHeartbeats 0 in
theorem rt_B1 (KX : (hd.heap_39 w.params).In h₀) (T : Top hd.view_39 (looseW hd.view_39 [Str.ofString "StreamReader"]) mean mg mb h₀)
  (F : Fr h₀ Lg s.heap u) (H : Has u [(Str.ofString "self", .ref R), (Str.ofString "m", .int lim tm), (Str.ofString "too_long_exc_type", .type cls)]) (N : News h₀ Lg s.heap (led R Rd B hb he tb te cn e row X)) (hz : row.length ≤ 1000) {k : Nat} (c : Cut row none k)
  (hQ : ∀ h' tk D u', Fr h₀ Lg h' u' → Has u' [(Str.ofString "r", .ref D), (Str.ofString "self", .ref R), (Str.ofString "m", .int lim tm), (Str.ofString "too_long_exc_type", .type cls)] → News h₀ Lg h' ((D, baObj (row.take k)) :: led R Rd B hb he tb te cn e row X) → (∀ p ∈ led R Rd B hb he tb te cn e row X, p.1 < D) → s.heap.objs.size ≤ D → Q .next { s with heap := h', toks := tk })  :
  wpAny (model Challenge.rw_ev0028_01.row.prog w) (ktrTop dp un gd (Str.ofString "StreamReader.read_to_eof") rtScope Lg 51 (.ref 50) [] outer) (execs [rtB1] (envOf (Str.ofString "StreamReader.read_to_eof") rtScope Lg 51 (.ref 50))) Q E s := by
  dsimp only [led] at N
  replace F := frHas F H
  dsimp only [chainTo] at F
  unfold rtB1
  dsimp only
  revert KX; k_fill; intro KX
  w_strict (k_steps)
  · (refine' hQ _ _ _ _ ?a ?b ?c ?d ?e; (case a => assumption); (case b => exact ⟨by with_unfolding_all exact rfl, by with_unfolding_all exact rfl, by with_unfolding_all exact rfl, by with_unfolding_all exact rfl, trivial⟩); (case c => assumption); (case d => assumption); (case e => assumption))


set_option maxHeartbeats 0 in
theorem rt_B2  (KX : (hd.heap_39 w.params).In h₀) (T : Top hd.view_39 (looseW hd.view_39 [Str.ofString "StreamReader"]) mean mg mb h₀)
  (F : Fr h₀ Lg s.heap u) (H : Has u [(Str.ofString "r", .ref p), (Str.ofString "self", .ref R), (Str.ofString "m", .int lim tm), (Str.ofString "too_long_exc_type", .type cls)]) (N : News h₀ Lg s.heap (led R Rd B hb he tb te cn e row X)) (hz : row.length ≤ 1000) {k : Nat} (c : Cut row none k) (hB : ∀ p ∈ (R, instObj 82 Rd) :: (Rd, dictOf [⟨hb, .str (Str.ofString "buffer") tb, .ref B⟩, ⟨he, .str (Str.ofString "eof") te, .bool e⟩] cn) :: X, p.1 ≠ B)
  (hQ : ∀ h' tk u', Fr h₀ Lg h' u' → Has u' [(Str.ofString "r", .ref p), (Str.ofString "self", .ref R), (Str.ofString "m", .int lim tm), (Str.ofString "too_long_exc_type", .type cls)] → News h₀ Lg h' (led R Rd B hb he tb te cn e (row.drop k) X) → Q .next { s with heap := h', toks := tk }) :
  wpC (model Challenge.rw_ev0028_01.row.prog w) (ktrTop dp un gd (Str.ofString "StreamReader.read_to_eof") rtScope Lg 51 (.ref 50) [] outer) (exec rtB2 (envOf (Str.ofString "StreamReader.read_to_eof") rtScope Lg 51 (.ref 50))) Q E s := by
  dsimp only [led] at N
  replace F := frHas F H
  dsimp only [chainTo] at F
  unfold rtB2
  dsimp only
  refine wpC_DelSlice ?_
  revert KX; k_fill; intro KX
  w_strict (k_steps)
  · refine del_cut (pre := [_, _]) (by assumption) (by assumption) (fun p hp => hB p (List.mem_append_left X hp)) (fun p hp => hB p (.tail _ (.tail _ hp))) c .none (by omega) fun h' F' N' => ?_
    refine' hQ _ _ _ ?a ?b ?c; (case a => assumption); (case b => exact ⟨by with_unfolding_all exact rfl, by with_unfolding_all exact rfl, by with_unfolding_all exact rfl, by with_unfolding_all exact rfl, trivial⟩); (case c => assumption)


set_option maxHeartbeats 0 in
theorem rt_B3 (KX : (hd.heap_39 w.params).In h₀) (T : Top hd.view_39 (looseW hd.view_39 [Str.ofString "StreamReader"]) mean mg mb h₀)
  (F : Fr h₀ Lg s.heap u) (H : Has u [(Str.ofString "r", .ref p), (Str.ofString "self", .ref R), (Str.ofString "m", .int lim tm), (Str.ofString "too_long_exc_type", .type cls)]) (N : News h₀ Lg s.heap (led R Rd B hb he tb te cn e row X)) (hz : row.length ≤ 1000) 
  (hQ : Q (.ret (.ref p)) s) :
  wpAny (model Challenge.rw_ev0028_01.row.prog w) (ktrTop dp un gd (Str.ofString "StreamReader.read_to_eof") rtScope Lg 51 (.ref 50) [] outer) (execs [rtB3] (envOf (Str.ofString "StreamReader.read_to_eof") rtScope Lg 51 (.ref 50))) Q E s := by
  dsimp only [led] at N
  replace F := frHas F H
  dsimp only [chainTo] at F
  unfold rtB3
  dsimp only
  revert KX; k_fill; intro KX
  w_strict (k_steps)
  · exact hQ


set_option maxHeartbeats 0 in
theorem ae_T {QB : Bool → Shared → Prop} (KX : (hd.heap_39 w.params).In h₀) (T : Top hd.view_39 (looseW hd.view_39 [Str.ofString "StreamReader"]) mean mg mb h₀)
  (F : Fr h₀ Lg s.heap u) (H : Has u [(Str.ofString "self", .ref R)]) (N : News h₀ Lg s.heap (led R Rd B hb he tb te cn e row X)) (hz : row.length ≤ 1000) 
  (hQ : ∀ h' tk (t : Tok) u', Fr h₀ Lg h' u' → Has u' [(Str.ofString "self", .ref R)] → News h₀ Lg h' (led R Rd B hb he tb te cn e row X) → QB true { s with heap := h', toks := tk })  :
  wpAny (model Challenge.rw_ev0028_01.row.prog w) (ktrTop dp un gd (Str.ofString "StreamReader.at_eof") aeScope Lg 58 (.ref 57) [] outer) (isTrue aeTest (envOf (Str.ofString "StreamReader.at_eof") aeScope Lg 58 (.ref 57)) (eval aeTest (envOf (Str.ofString "StreamReader.at_eof") aeScope Lg 58 (.ref 57)))) QB E s := by
  dsimp only [led] at N
  replace F := frHas F H
  dsimp only [chainTo] at F
  unfold aeTest
  dsimp only
  skip
  revert KX; k_fill; intro KX
  w_strict (k_steps)
  · (refine' hQ  _ _ 0 _ ?a ?b ?c; (case a => assumption); (case b => exact ⟨by with_unfolding_all exact rfl, trivial⟩); (case c => assumption))


set_option maxHeartbeats 0 in
theorem ae_L0 (KX : (hd.heap_39 w.params).In h₀) (T : Top hd.view_39 (looseW hd.view_39 [Str.ofString "StreamReader"]) mean mg mb h₀)
  (F : Fr h₀ Lg s.heap u) (H : Has u [(Str.ofString "self", .ref R)]) (N : News h₀ Lg s.heap (led R Rd B hb he tb te cn e row X)) (hz : row.length ≤ 1000) 
  (hQ1 : row.isEmpty = false → ∀ h' tk (t : Tok) u', Fr h₀ Lg h' u' → Has u' [(Str.ofString "self", .ref R)] → News h₀ Lg h' (led R Rd B hb he tb te cn e row X) → Q (.ret (.bool false)) { s with heap := h', toks := tk }) (hQ2 : row.isEmpty = true → ∀ h' tk (t : Tok) u', Fr h₀ Lg h' u' → Has u' [(Str.ofString "self", .ref R)] → News h₀ Lg h' (led R Rd B hb he tb te cn e row X) → Q .next { s with heap := h', toks := tk })  :
  wpAny (model Challenge.rw_ev0028_01.row.prog w) (ktrTop dp un gd (Str.ofString "StreamReader.at_eof") aeScope Lg 58 (.ref 57) [] outer) (execs [aeL0] (envOf (Str.ofString "StreamReader.at_eof") aeScope Lg 58 (.ref 57))) Q E s := by
  dsimp only [led] at N
  replace F := frHas F H
  dsimp only [chainTo] at F
  unfold aeL0
  dsimp only
  revert KX; k_fill; intro KX
  w_strict (k_steps)
  · (refine' hQ2 (by assumption) _ _ 0 _ ?a ?b ?c; (case a => assumption); (case b => exact ⟨by with_unfolding_all exact rfl, trivial⟩); (case c => assumption))
  · (refine' hQ1 (by assumption) _ _ 0 _ ?a ?b ?c; (case a => assumption); (case b => exact ⟨by with_unfolding_all exact rfl, trivial⟩); (case c => assumption))


set_option maxHeartbeats 0 in
theorem ae_L1 (KX : (hd.heap_39 w.params).In h₀) (T : Top hd.view_39 (looseW hd.view_39 [Str.ofString "StreamReader"]) mean mg mb h₀)
  (F : Fr h₀ Lg s.heap u) (H : Has u [(Str.ofString "self", .ref R)]) (N : News h₀ Lg s.heap (led R Rd B hb he tb te cn e row X)) (hz : row.length ≤ 1000) 
  (hQ1 : e = true → ∀ h' tk (t : Tok) u', Fr h₀ Lg h' u' → Has u' [(Str.ofString "self", .ref R)] → News h₀ Lg h' (led R Rd B hb he tb te cn e row X) → Q (.ret (.bool true)) { s with heap := h', toks := tk }) (hQ2 : e = false → ∀ h' tk (t : Tok) u', Fr h₀ Lg h' u' → Has u' [(Str.ofString "self", .ref R)] → News h₀ Lg h' (led R Rd B hb he tb te cn e row X) → Q .next { s with heap := h', toks := tk })  :
  wpAny (model Challenge.rw_ev0028_01.row.prog w) (ktrTop dp un gd (Str.ofString "StreamReader.at_eof") aeScope Lg 58 (.ref 57) [] outer) (execs [aeL1] (envOf (Str.ofString "StreamReader.at_eof") aeScope Lg 58 (.ref 57))) Q E s := by
  dsimp only [led] at N
  replace F := frHas F H
  dsimp only [chainTo] at F
  unfold aeL1
  dsimp only
  revert KX; k_fill; intro KX
  w_strict (k_steps)
  · (refine' hQ1 (by assumption) _ _ 0 _ ?a ?b ?c; (case a => assumption); (case b => exact ⟨by with_unfolding_all exact rfl, trivial⟩); (case c => assumption))
  · (refine' hQ2 (by assumption) _ _ 0 _ ?a ?b ?c; (case a => assumption); (case b => exact ⟨by with_unfolding_all exact rfl, trivial⟩); (case c => assumption))

end
end Mine
end
section
open PySem PySem.W PySem.Calls PyProof.Rows
set_option maxRecDepth 100000
namespace Mine
/-- what a reading answers -/
inductive Ans where
  | waits
  | octets (k : Nat)
  | flag (b : Bool)
  | err (X : String)
def lineExc (kind : Nat) : String := if kind = 0 then "RuntimeError" else "ValueError"
def ans (kind lim : Nat) (row : List UInt8) (e : Bool) : Ans :=
  if kind < 2 then
    if 10 ∈ row then (if lim < row.idxOf 10 + 1 then .err (lineExc kind) else .octets (row.idxOf 10 + 1))
    else if lim < row.length then .err (lineExc kind) else if e = true then .err "EOFError" else .waits
  else if kind = 2 then (if lim ≤ row.length then .octets lim else if e = true then .err "EOFError" else .waits)
  else if kind = 3 then (if e = true then .octets row.length else if lim < row.length then .err "RuntimeError" else .waits)
  else if row.isEmpty = false ∨ e = true then .flag row.isEmpty else .waits

abbrev notB (R Rd B : Addr) (hb he : Int) (tb te : Tok) (cn : Nat) (e : Bool) (X : List (Addr × Obj)) : Prop :=
  ∀ p ∈ (R, instObj 82 Rd) :: (Rd, dictOf [⟨hb, .str (Str.ofString "buffer") tb, .ref B⟩, ⟨he, .str (Str.ofString "eof") te, .bool e⟩] cn) :: X, p.1 ≠ B

/-- how a woken reading ends its turn -/
def EndOf (h₀ : Heap) (Lg R Rd B : Addr) (hb he : Int) (tb te : Tok) (cn : Nat) (outer : List Env) (frs X : List (Addr × Obj)) (row : List UInt8) (e : Bool) (a : Ans)
    (Nx : GenState → (Str → Option Value) → Prop) (s : Shared) (en : End) (s' : Shared) : Prop :=
  match a with
  | .waits => ∃ l k c p fs h' tk u', en = .susp .none false l k c p fs ∧ en.quiet = true ∧ s' = { s with heap := h', toks := tk } ∧ Fr h₀ Lg h' u' ∧ News h₀ Lg h' (led R Rd B hb he tb te cn e row X) ∧ Nx en.genState u'
  | .octets n => ∃ D h' tk u', en = .ret (.ok (.ret (.ref D))) ∧ s' = { s with heap := h', toks := tk } ∧ Fr h₀ Lg h' u' ∧
      News h₀ Lg h' ((D, baObj (row.take n)) :: led R Rd B hb he tb te cn e (row.drop n) X) ∧ (∀ p ∈ led R Rd B hb he tb te cn e row X, p.1 < D)
  | .flag b => ∃ h' tk u', en = .ret (.ok (.ret (.bool b))) ∧ s' = { s with heap := h', toks := tk } ∧ Fr h₀ Lg h' u' ∧ News h₀ Lg h' (led R Rd B hb he tb te cn e row X)
  | .err Xn => ∃ x hb' h' tk u' a0, en = .ret (.error (.ref x)) ∧ s' = { s with heap := h', toks := tk } ∧ Fr h₀ Lg hb' u' ∧ News h₀ Lg hb' (led R Rd B hb he tb te cn e row X) ∧ hb'.get? x = none ∧
      Heap.FlyingW (TI.gone hb' (Lg :: frs.map (·.1))) outer x (.type Xn) a0 h' ∧ ∀ b o, hb'.get? b = some o → (∀ vs, o.data ≠ .fields vs) → ∃ sl, h'.get? b = some { o with slots := sl }

/-- asleep, and good for n more turns -/
def Ready (w : World) (h₀ : Heap) (Lg R Rd B : Addr) (kind lim : Nat) : Nat → List UInt8 → GenState → (Str → Option Value) → Prop
  | 0, _, _, _ => True
  | n + 1, row₀, gs, u => ∀ (dp un : Nat) (gd : Option (List Code)) (outer : List Env) (frs X : List (Addr × Obj)) (hb he : Int) (tb te : Tok) (cn : Nat) (row : List UInt8) (e : Bool) (s : Shared),
      Fr h₀ Lg s.heap u → News h₀ Lg s.heap (led R Rd B hb he tb te cn e row X) → row₀ <+: row → row.length ≤ 1000 → notB R Rd B hb he tb te cn e X → TI.Frs outer frs → (∀ p ∈ frs, p ∈ X) →
      GoesC (model Challenge.rw_ev0028_01.row.prog w) (wakeA dp un gd outer)
        (EndOf h₀ Lg R Rd B hb he tb te cn outer frs X row e (ans kind lim row e) (fun gs u => Ready w h₀ Lg R Rd B kind lim n row gs u) s) gs s

theorem goC_yield2 {M : Model} {A : Around} {F : End → Shared → Prop} {c : Code} {fs : List Frame} {K : Flow → Sem Fin} {H : Value → Sem Fin} {env : Env} {s : Shared} {ypos pos : Pos} (hfs : splitAtGen fs = none)
    (h : ∀ p l k, (∀ A' F' s', GoC M A' F' c ((execs [] env).wrap K H id id) fs s' → GoC M A' F' c (k (.send .none)) fs s') → F (.susp .none false l k c p fs) s)
    (hco : env.scope.isCoroutine = false := by rfl) (hi : interactive env = false := by rfl) (hs : swapsWith (.Yield none ypos) none pos.line env = pure false := by rfl) :
    GoC M A F c ((execs [.Expr (.Yield none ypos) pos] env).wrap K H id id) fs s := by
  rw [execs_cons_wrap, exec_Expr env _ pos hi hs]
  have hy : yieldOut env Value.none = yieldValue Value.none := by simp only [yieldOut, hco, Bool.false_eq_true, if_false]
  have e : eval (.Yield none ypos) env = (standAt ypos >>= fun _ => yieldValue Value.none) := by
    show (valueOrNone (evalOpt none env) >>= fun v => standAt ypos >>= fun _ => yieldOut env v) = _
    have : valueOrNone (evalOpt none env) = pure Value.none := rfl
    rw [this, pure_bind, hy]
  rw [e]
  refine goC_at (goC_at ?_)
  refine goC_yield hfs fun p => h p _ _ fun A' F' s' hk => ?_
  exact hk

section
variable {row : List UInt8} {p : Nat}
theorem nlVal_found (hno : 10 ∉ row.take p) (hp : p ≤ row.length) (hm : (10 : UInt8) ∈ row) : nlVal row p = (row.idxOf 10 : Int) := by
  have e : row = row.take p ++ row.drop p := (List.take_append_drop p row).symm
  have hd : (10 : UInt8) ∈ row.drop p := by
    rw [e] at hm
    exact (List.mem_append.mp hm).resolve_left hno
  have hi : row.idxOf 10 = p + (row.drop p).idxOf 10 := by
    conv => lhs; rw [e]
    rw [List.idxOf_append, if_neg hno, List.length_take, Nat.min_eq_left hp, Nat.add_comm]
  unfold nlVal nlFrom
  rw [if_pos hd, hi]
theorem nlVal_none (hm : (10 : UInt8) ∉ row) : nlVal row p = -1 := by
  unfold nlVal nlFrom
  rw [if_neg fun h => hm (List.mem_of_mem_drop h)]
theorem nlVal_some (h : nlVal row p + 1 > 0) : (10 : UInt8) ∈ row := by
  by_cases hm : (10 : UInt8) ∈ row
  · exact hm
  · rw [nlVal_none hm] at h; omega
end
end Mine
end
section
open PySem PySem.W PySem.Calls PyProof.Rows
set_option maxRecDepth 100000
namespace Mine
section
variable {M : Model} {F : End → Shared → Prop} {s : Shared} {outer : List Env} {dp un : Nat} {gd : Option (List Code)} {h₀ : Heap} {Lg R Rd B a : Addr} {hb he : Int} {tb te : Tok} {cn : Nat} {e : Bool} {row : List UInt8} {frs X : List (Addr × Obj)}
  {name : Str} {scope : Scope} {cd : Value} {u' : Str → Option Value} {hb' h' : Heap} {tk : Nat} {x : Addr} {cls : String} {body₀ : List Stmt}

theorem raised_parts (hk : scope.kind = .function) (Fs : TI.Frs outer frs) (hX : ∀ p ∈ frs, p ∈ X) (F' : Fr h₀ Lg hb' u') (N' : News h₀ Lg hb' (led R Rd B hb he tb te cn e row X)) (hx : Heap.NewExc hb' h' x cls) :
    ∃ oe vs a0, h'.FunFrames (TI.gone hb' (Lg :: frs.map (·.1))) (envOf name scope Lg a cd :: outer) ∧ h'.get? x = some oe ∧ oe.cls = .type cls ∧ (TI.gone hb' (Lg :: frs.map (·.1))).StaysIn h' ∧
      (TI.gone hb' (Lg :: frs.map (·.1))).get? x = none ∧ oe.data = .fields vs ∧ vs[1]? = some .none ∧ vs[0]? = some a0 := by
  obtain ⟨oe, t, he', hcls, hd⟩ := hx.there
  obtain ⟨oL, es, ep, hL, hLd, _⟩ := F'.ns
  refine ⟨oe, _, t, ?_, he', hcls, fun b o eb => hx.keeps b o (TI.gone_some eb).2, TI.none_of (fun b o eb => (TI.gone_some eb).2) hx.new, hd, rfl, rfl⟩
  have Fs' : TI.Frs (envOf name scope Lg a cd :: outer) ((Lg, oL) :: frs) := ⟨by show scope.kind ≠ .module; rw [hk]; decide, rfl, ⟨es, ep, hLd⟩, Fs⟩
  refine Fs'.fun fun p hp => ?_
  rcases List.mem_cons.mp hp with rfl | hp
  · exact ⟨hx.keeps _ _ hL, TI.gone_none (.head _)⟩
  · exact ⟨hx.keeps _ _ (N' p (List.mem_append_right [_, _, _] (hX p hp))).1, TI.gone_none (.tail _ (List.mem_map_of_mem hp))⟩

theorem loopRaise {test : Expr} {body orelse : List Stmt} {p : Pos} {K : Flow → Sem Fin} (hk : scope.kind = .function) (Fs : TI.Frs outer frs) (hX : ∀ p ∈ frs, p ∈ X) (F' : Fr h₀ Lg hb' u') (N' : News h₀ Lg hb' (led R Rd B hb he tb te cn e row X)) (hx : Heap.NewExc hb' h' x cls)
    {Nx : GenState → (Str → Option Value) → Prop} :
    GoC M (wakeA dp un gd outer) (EndOf h₀ Lg R Rd B hb he tb te cn outer frs X row e (.err cls) Nx s) (.whileLoop test body orelse (envOf name scope Lg a cd)) (loopH (envOf name scope Lg a cd) (.ref x))
      [.ret (backK (envOf name scope Lg a cd) K (funcH (envOf name scope Lg a cd))) none false [] (.func body₀ (envOf name scope Lg a cd)) p []] { s with heap := h', toks := tk } := by
  obtain ⟨oe, vs, a0, h1, h2, h3, h4, h5, h6, h7, h8⟩ := raised_parts (name := name) (a := a) (cd := cd) hk Fs hX F' N' hx
  refine goC_loop_raise (s := { s with heap := h', toks := tk }) (L := Lg) rfl h1 h2 h4 h5 h6 h7 h8 fun h'' hfl hup => ?_
  exact ⟨x, hb', h'', tk, u', a0, rfl, rfl, F', N', hx.new, h3 ▸ hfl, fun b o hbo hnf => hup b o (hx.keeps _ _ hbo) hnf⟩

theorem funcRaise (hk : scope.kind = .function) (Fs : TI.Frs outer frs) (hX : ∀ p ∈ frs, p ∈ X) (F' : Fr h₀ Lg hb' u') (N' : News h₀ Lg hb' (led R Rd B hb he tb te cn e row X)) (hx : Heap.NewExc hb' h' x cls)
    {Nx : GenState → (Str → Option Value) → Prop} :
    GoC M (wakeA dp un gd outer) (EndOf h₀ Lg R Rd B hb he tb te cn outer frs X row e (.err cls) Nx s) (.func body₀ (envOf name scope Lg a cd)) (funcH (envOf name scope Lg a cd) (.ref x)) [] { s with heap := h', toks := tk } := by
  obtain ⟨oe, vs, a0, h1, h2, h3, h4, h5, h6, h7, h8⟩ := raised_parts (name := name) (a := a) (cd := cd) hk Fs hX F' N' hx
  refine goC_leave_fresh (s := { s with heap := h', toks := tk }) (L := Lg) rfl h1 h2 h4 h5 h6 h7 h8 fun h'' hfl hup => ?_
  exact ⟨x, hb', h'', tk, u', a0, rfl, rfl, F', N', hx.new, h3 ▸ hfl, fun b o hbo hnf => hup b o (hx.keeps _ _ hbo) hnf⟩
end
end Mine
end
section
open PySem PySem.W PySem.Calls PyProof.Rows
set_option maxRecDepth 100000
namespace Mine
abbrev rlEnv (Lg : Addr) : Env := envOf (Str.ofString "StreamReader.read_line") rlScope Lg 36 (.ref 35)
abbrev rlK (Lg : Addr) : Flow → Sem Fin := fun f => match f with | .next => (execs [rlB3, rlB4, rlB5, rlB6] (rlEnv Lg)).wrap funcK (funcH (rlEnv Lg)) id id | f => funcK f
abbrev rlFr (Lg : Addr) (p : Pos) : List Frame := [.ret (backK (rlEnv Lg) (rlK Lg) (funcH (rlEnv Lg))) none false [] (.func rlBody (rlEnv Lg)) p []]
abbrev rlHas (R : Addr) (lim : Nat) (tm : Tok) (kind : Nat) (p : Nat) (tp : Tok) : List (Str × Value) :=
  [(Str.ofString "self", .ref R), (Str.ofString "m", .int lim tm), (Str.ofString "too_long_exc_type", .type (lineExc kind)), (Str.ofString "p", .int p tp)]
def RlGoes (w : World) (h₀ : Heap) (Lg R Rd B : Addr) (kind lim : Nat) (n : Nat) : Prop :=
  ∀ (dp un : Nat) (gd : Option (List Code)) (outer : List Env) (frs X : List (Addr × Obj)) (hb he : Int) (tb te : Tok) (cn : Nat) (row : List UInt8) (e : Bool) (s : Shared) (u : Str → Option Value) (p : Nat) (tm tp : Tok) (pp : Pos),
    Fr h₀ Lg s.heap u → Has u (rlHas R lim tm kind p tp) → News h₀ Lg s.heap (led R Rd B hb he tb te cn e row X) → row.length ≤ 1000 → p ≤ row.length → 10 ∉ row.take p → notB R Rd B hb he tb te cn e X → TI.Frs outer frs → (∀ p ∈ frs, p ∈ X) →
    GoC (model Challenge.rw_ev0028_01.row.prog w) (wakeA dp un gd outer)
      (EndOf h₀ Lg R Rd B hb he tb te cn outer frs X row e (ans kind lim row e) (fun gs u => Ready w h₀ Lg R Rd B kind lim n row gs u) s)
      (.whileLoop rlTest rlLoop [] (rlEnv Lg)) ((model Challenge.rw_ev0028_01.row.prog w).den (.whileLoop rlTest rlLoop [] (rlEnv Lg))) (rlFr Lg pp) s
section
variable {w : World} {h₀ : Heap} {Lg R Rd B kind lim : Nat} {mg mb : Str → Option Value} {mean : ExcName → Option Value}
theorem rl_turn (KX : (hd.heap_39 w.params).In h₀) (T : Top hd.view_39 (looseW hd.view_39 [Str.ofString "StreamReader"]) mean mg mb h₀) (hk : kind < 2) (hlim : lim < 10) (n : Nat)
    (next : ∀ m, n = m + 1 → RlGoes w h₀ Lg R Rd B kind lim m) : RlGoes w h₀ Lg R Rd B kind lim n := by
  intro dp un gd outer frs X hb he tb te cn row e s u p tm tp pp F H N hz hp hno hB Fs hX
  have hx : Exc3 (lineExc kind) := by
    unfold lineExc; split
    · exact .run
    · exact .val
  have l0 : (0 : Int) ≤ (lim : Int) := by omega
  have l9 : (lim : Int) < 10 := by omega
  refine goC_whileLoop (.cons rfl .nil) (wpC_any (rl_T KX T F H N hz fun h1 tk1 _ u1 F1 H1 N1 => ?_))
  rw [if_pos rfl, rlLoop_eq]
  refine goC_walk rfl (.cons rfl .nil) (rl_L0 (s := { s with heap := h1, toks := tk1 }) KX T F1 H1 N1 hz hp fun h2 tk2 t2 u2 F2 H2 N2 => ?_)
  show GoC _ _ _ _ ((execs [rlL1, rlL2, rlL3, rlL4, rlL5] (rlEnv Lg)).wrap _ _ id id) _ _
  refine goC_walk rfl (.cons rfl .nil) (rl_L1 (s := { s with heap := h2, toks := tk2 }) KX T F2 H2 N2 hz (fun hn h3 tk3 _ u3 F3 H3 N3 => ?_) (fun hn h3 tk3 _ u3 F3 H3 N3 => ?_))
  · -- a line feed
    have hm := nlVal_some hn
    have hv := nlVal_found hno hp hm
    have hlt : row.idxOf 10 < row.length := List.idxOf_lt_length_of_mem hm
    have ha : ans kind lim row e = if lim < row.idxOf 10 + 1 then .err (lineExc kind) else .octets (row.idxOf 10 + 1) := by
      unfold ans; rw [if_pos hk, if_pos hm]
    rw [ha]
    show GoC _ _ _ _ (leafOf (.ok .next)) _ _
    refine goC_leaf (.ok .next) ?_
    show GoC _ _ _ (.func rlBody (rlEnv Lg)) ((execs [rlB3, rlB4, rlB5, rlB6] (rlEnv Lg)).wrap funcK (funcH (rlEnv Lg)) id id) [] _
    obtain ⟨Hn, Hs, Hm, Ht, Hp, _⟩ := H3
    have H3' : Has u3 [(Str.ofString "n", .int (row.idxOf 10 + 1 : Nat) t2), (Str.ofString "self", .ref R), (Str.ofString "m", .int lim tm), (Str.ofString "too_long_exc_type", .type (lineExc kind))] := ⟨by rw [Hn, hv]; rfl, Hs, Hm, Ht, trivial⟩
    refine goC_walk rfl .nil (rl_B3 (s := { s with heap := h3, toks := tk3 }) KX T F3 H3' N3 hz hx (by omega) (by omega) l0 l9 (fun hle h4 tk4 _ u4 F4 H4 N4 => ?_) (fun hgt hb' h4 tk4 x u4 F4 N4 hx4 => ?_))
    · rw [if_neg (by omega)]
      show GoC _ _ _ _ ((execs [rlB4, rlB5, rlB6] (rlEnv Lg)).wrap _ _ id id) _ _
      have c : Cut row (some ((row.idxOf 10 + 1 : Nat) : Int)) (row.idxOf 10 + 1) := .upTo row _ (by omega)
      refine goC_walk rfl .nil (rl_B4 (s := { s with heap := h4, toks := tk4 }) KX T F4 H4 N4 hz c fun h5 tk5 D u5 F5 H5 N5 lt5 _ => ?_)
      show GoC _ _ _ _ ((execs [rlB5, rlB6] (rlEnv Lg)).wrap _ _ id id) _ _
      have N5' : News h₀ Lg h5 (led R Rd B hb he tb te cn e row ((D, baObj (row.take (row.idxOf 10 + 1))) :: X)) := fun q hq => N5 q (by
        rcases List.mem_cons.mp hq with rfl | hq
        · exact .tail _ (.head _)
        rcases List.mem_cons.mp hq with rfl | hq
        · exact .tail _ (.tail _ (.head _))
        rcases List.mem_cons.mp hq with rfl | hq
        · exact .tail _ (.tail _ (.tail _ (.head _)))
        rcases List.mem_cons.mp hq with rfl | hq
        · exact .head _
        · exact .tail _ (.tail _ (.tail _ (.tail _ hq))))
      have hB5 : notB R Rd B hb he tb te cn e ((D, baObj (row.take (row.idxOf 10 + 1))) :: X) := fun q hq => by
        rcases List.mem_cons.mp hq with rfl | hq
        · exact hB _ (.head _)
        rcases List.mem_cons.mp hq with rfl | hq
        · exact hB _ (.tail _ (.head _))
        rcases List.mem_cons.mp hq with rfl | hq
        · exact Nat.ne_of_gt (lt5 (B, baObj row) (.tail _ (.tail _ (.head _))))
        · exact hB _ (.tail _ (.tail _ hq))
      refine goC_stmt rfl .nil (rl_B5 (s := { s with heap := h5, toks := tk5 }) KX T F5 H5 N5' hz c hB5 fun h6 tk6 u6 F6 H6 N6 => ?_)
      refine goC_walk rfl .nil (rl_B6 (s := { s with heap := h6, toks := tk6 }) KX T F6 H6 N6 (by simp; omega) ?_)
      show GoC _ _ _ _ (leafOf (.ok (.ret (.ref D)))) [] _
      refine goC_end _ ⟨D, h6, tk6, u6, rfl, rfl, F6, fun q hq => N6 q (by
        rcases List.mem_cons.mp hq with rfl | hq
        · exact .tail _ (.tail _ (.tail _ (.head _)))
        rcases List.mem_cons.mp hq with rfl | hq
        · exact .head _
        rcases List.mem_cons.mp hq with rfl | hq
        · exact .tail _ (.head _)
        rcases List.mem_cons.mp hq with rfl | hq
        · exact .tail _ (.tail _ (.head _))
        · exact .tail _ (.tail _ (.tail _ (.tail _ hq)))), lt5⟩
    · rw [if_pos (by omega)]
      exact funcRaise rfl Fs hX F4 N4 hx4
  · -- none yet
    have hm : (10 : UInt8) ∉ row := fun hm => by
      rw [nlVal_found hno hp hm] at hn; omega
    show GoC _ _ _ _ ((execs [rlL2, rlL3, rlL4, rlL5] (rlEnv Lg)).wrap _ _ id id) _ _
    refine goC_walk rfl (.cons rfl .nil) (rl_L2 (s := { s with heap := h3, toks := tk3 }) KX T F3 H3 N3 hz fun h4 tk4 t4 u4 F4 H4 N4 => ?_)
    obtain ⟨Hp, Hn, Hs, Hm, Ht, _⟩ := H4
    have H4' : Has u4 ((Str.ofString "n", .int (nlVal row p + 1) t2) :: rlHas R lim tm kind row.length t4) := ⟨Hn, Hs, Hm, Ht, Hp, trivial⟩
    show GoC _ _ _ _ ((execs [rlL3, rlL4, rlL5] (rlEnv Lg)).wrap _ _ id id) _ _
    refine goC_walk rfl (.cons rfl .nil) (rl_L3 (s := { s with heap := h4, toks := tk4 }) KX T F4 H4' N4 hz hx (Nat.le_refl _) l0 l9 (fun hle h5 tk5 _ u5 F5 H5 N5 => ?_) (fun hgt hb' h5 tk5 x u5 F5 N5 hx5 => ?_))
    · show GoC _ _ _ _ ((execs [rlL4, rlL5] (rlEnv Lg)).wrap _ _ id id) _ _
      refine goC_walk rfl (.cons rfl .nil) (rl_L4 (s := { s with heap := h5, toks := tk5 }) KX T F5 H5 N5 hz (Nat.le_refl _) l0 l9 (fun he0 h6 tk6 _ u6 F6 H6 N6 => ?_) (fun he1 hb' h6 tk6 x u6 F6 N6 hx6 => ?_))
      · have ha : ans kind lim row e = .waits := by
          unfold ans; rw [if_pos hk, if_neg hm, if_neg (by omega), if_neg (by rw [he0]; exact Bool.false_ne_true)]
        rw [ha]
        show GoC _ _ _ _ ((execs [rlL5] (rlEnv Lg)).wrap _ _ id id) _ _
        refine goC_yield2 rfl fun pq l k hgo => ?_
        refine ⟨l, k, _, pq, _, h6, tk6, u6, rfl, rfl, rfl, F6, N6, ?_⟩
        cases n with
        | zero => trivial
        | succ m =>
          intro dp' un' gd' outer' frs' X' hb'' he'' tb'' te'' cn'' row' e' s' F' N' hpre hz' hB' Fs' hX'
          refine hgo _ _ _ (goC_stmts rfl (.cons rfl .nil) (wpC_execs_nil ?_))
          refine goC_again rfl ?_
          obtain ⟨_, Hs6, Hm6, Ht6, Hp6, _⟩ := H6
          refine next m rfl _ _ _ _ _ _ _ _ _ _ _ _ _ _ _ row.length _ _ _ F' ⟨Hs6, Hm6, Ht6, Hp6, trivial⟩ N' hz' hpre.length_le ?_ hB' Fs' hX'
          rw [← List.prefix_iff_eq_take.mp hpre]; exact hm
      · have ha : ans kind lim row e = .err "EOFError" := by
          unfold ans; rw [if_pos hk, if_neg hm, if_neg (by omega), if_pos he1]
        rw [ha]
        exact loopRaise rfl Fs hX F6 N6 hx6
    · have ha : ans kind lim row e = .err (lineExc kind) := by
        unfold ans; rw [if_pos hk, if_neg hm, if_pos (by omega)]
      rw [ha]
      exact loopRaise rfl Fs hX F5 N5 hx5
theorem rl_loop (KX : (hd.heap_39 w.params).In h₀) (T : Top hd.view_39 (looseW hd.view_39 [Str.ofString "StreamReader"]) mean mg mb h₀) (hk : kind < 2) (hlim : lim < 10) : ∀ n, RlGoes w h₀ Lg R Rd B kind lim n
  | 0 => rl_turn KX T hk hlim 0 fun m h => by cases h
  | n + 1 => rl_turn KX T hk hlim (n + 1) fun m h => by cases h; exact rl_loop KX T hk hlim n
end
end Mine
end
section
open PySem PySem.W PySem.Calls PyProof.Rows
set_option maxRecDepth 100000
namespace Mine
section
variable {w : World} {h₀ : Heap} {Lg R Rd B kind lim : Nat} {mg mb : Str → Option Value} {mean : ExcName → Option Value} {tm : Tok}
theorem rl_fresh (KX : (hd.heap_39 w.params).In h₀) (T : Top hd.view_39 (looseW hd.view_39 [Str.ofString "StreamReader"]) mean mg mb h₀) (hk : kind < 2) (hlim : lim < 10) (n : Nat) (row₀ : List UInt8) {u : Str → Option Value}
    (H : Has u [(Str.ofString "self", .ref R), (Str.ofString "m", .int lim tm), (Str.ofString "too_long_exc_type", .type (lineExc kind))]) :
    Ready w h₀ Lg R Rd B kind lim (n + 1) row₀ (.fresh (.func rlBody (rlEnv Lg))) u := by
  intro dp un gd outer frs X hb he tb te cn row e s F N _ hz hB Fs hX
  refine ⟨rfl, goC_func ?_⟩
  rw [rlBody_eq]
  refine goC_walk rfl .nil (rl_B0 KX T F H N hz fun h1 tk1 t1 u1 F1 H1 N1 => ?_)
  show GoC _ _ _ _ ((execs [rlB1, rlB2, rlB3, rlB4, rlB5, rlB6] (rlEnv Lg)).wrap _ _ id id) _ _
  obtain ⟨_, Hs, Hm, Ht, _⟩ := H1
  refine goC_walk rfl .nil (rl_B1 (s := { s with heap := h1, toks := tk1 }) KX T F1 ⟨Hs, Hm, Ht, trivial⟩ N1 hz fun h2 tk2 t2 u2 F2 H2 N2 => ?_)
  show GoC _ _ _ _ ((execs [rlB2, rlB3, rlB4, rlB5, rlB6] (rlEnv Lg)).wrap _ _ id id) _ _
  obtain ⟨Hp, Hs, Hm, Ht, _⟩ := H2
  refine goC_cons ?_
  refine goC_While (K := rlK Lg) fun p => ?_
  exact rl_loop KX T hk hlim n _ _ _ _ _ _ _ _ _ _ _ _ _ _ _ 0 _ _ _ F2 ⟨Hs, Hm, Ht, Hp, trivial⟩ N2 hz (Nat.zero_le _) (by simp) hB Fs hX

/-- a new object ahead of the ledger, moved behind the buffer -/
theorem led_back {hb he : Int} {tb te : Tok} {cn : Nat} {e : Bool} {row : List UInt8} {X : List (Addr × Obj)} {L : Addr} {h : Heap} {D : Addr × Obj} (N : News h₀ L h (D :: led R Rd B hb he tb te cn e row X)) :
    News h₀ L h (led R Rd B hb he tb te cn e row (D :: X)) := fun q hq => N q (by
  rcases List.mem_cons.mp hq with rfl | hq
  · exact .tail _ (.head _)
  rcases List.mem_cons.mp hq with rfl | hq
  · exact .tail _ (.tail _ (.head _))
  rcases List.mem_cons.mp hq with rfl | hq
  · exact .tail _ (.tail _ (.tail _ (.head _)))
  rcases List.mem_cons.mp hq with rfl | hq
  · exact .head _
  · exact .tail _ (.tail _ (.tail _ (.tail _ hq))))
theorem led_front {hb he : Int} {tb te : Tok} {cn : Nat} {e : Bool} {row : List UInt8} {X : List (Addr × Obj)} {L : Addr} {h : Heap} {D : Addr × Obj} (N : News h₀ L h (led R Rd B hb he tb te cn e row (D :: X))) :
    News h₀ L h (D :: led R Rd B hb he tb te cn e row X) := fun q hq => N q (by
  rcases List.mem_cons.mp hq with rfl | hq
  · exact .tail _ (.tail _ (.tail _ (.head _)))
  rcases List.mem_cons.mp hq with rfl | hq
  · exact .head _
  rcases List.mem_cons.mp hq with rfl | hq
  · exact .tail _ (.head _)
  rcases List.mem_cons.mp hq with rfl | hq
  · exact .tail _ (.tail _ (.head _))
  · exact .tail _ (.tail _ (.tail _ (.tail _ hq))))
theorem notB_more {hb he : Int} {tb te : Tok} {cn : Nat} {e : Bool} {row : List UInt8} {X : List (Addr × Obj)} {D : Addr × Obj} (hB : notB R Rd B hb he tb te cn e X) (lt : ∀ p ∈ led R Rd B hb he tb te cn e row X, p.1 < D.1) :
    notB R Rd B hb he tb te cn e (D :: X) := fun q hq => by
  rcases List.mem_cons.mp hq with rfl | hq
  · exact hB _ (.head _)
  rcases List.mem_cons.mp hq with rfl | hq
  · exact hB _ (.tail _ (.head _))
  rcases List.mem_cons.mp hq with rfl | hq
  · exact Nat.ne_of_gt (lt (B, baObj row) (.tail _ (.tail _ (.head _))))
  · exact hB _ (.tail _ (.tail _ hq))

/-! read_exact -/
abbrev reEnv (Lg : Addr) : Env := envOf (Str.ofString "StreamReader.read_exact") reScope Lg 43 (.ref 42)
abbrev reK (Lg : Addr) : Flow → Sem Fin := fun f => match f with | .next => (execs [reB2, reB3, reB4] (reEnv Lg)).wrap funcK (funcH (reEnv Lg)) id id | f => funcK f
abbrev reHas (R : Addr) (lim : Nat) (tm : Tok) : List (Str × Value) := [(Str.ofString "self", .ref R), (Str.ofString "n", .int lim tm)]
def ReGoes (w : World) (h₀ : Heap) (Lg R Rd B : Addr) (lim : Nat) (n : Nat) : Prop :=
  ∀ (dp un : Nat) (gd : Option (List Code)) (outer : List Env) (frs X : List (Addr × Obj)) (hb he : Int) (tb te : Tok) (cn : Nat) (row : List UInt8) (e : Bool) (s : Shared) (u : Str → Option Value) (tm : Tok) (pp : Pos),
    Fr h₀ Lg s.heap u → Has u (reHas R lim tm) → News h₀ Lg s.heap (led R Rd B hb he tb te cn e row X) → row.length ≤ 1000 → notB R Rd B hb he tb te cn e X → TI.Frs outer frs → (∀ p ∈ frs, p ∈ X) →
    GoC (model Challenge.rw_ev0028_01.row.prog w) (wakeA dp un gd outer)
      (EndOf h₀ Lg R Rd B hb he tb te cn outer frs X row e (ans 2 lim row e) (fun gs u => Ready w h₀ Lg R Rd B 2 lim n row gs u) s)
      (.whileLoop reTest reLoop [] (reEnv Lg)) ((model Challenge.rw_ev0028_01.row.prog w).den (.whileLoop reTest reLoop [] (reEnv Lg)))
      [.ret (backK (reEnv Lg) (reK Lg) (funcH (reEnv Lg))) none false [] (.func reBody (reEnv Lg)) pp []] s
theorem re_turn (KX : (hd.heap_39 w.params).In h₀) (T : Top hd.view_39 (looseW hd.view_39 [Str.ofString "StreamReader"]) mean mg mb h₀) (hlim : lim < 10) (n : Nat)
    (next : ∀ m, n = m + 1 → ReGoes w h₀ Lg R Rd B lim m) : ReGoes w h₀ Lg R Rd B lim n := by
  intro dp un gd outer frs X hb he tb te cn row e s u tm pp F H N hz hB Fs hX
  have l0 : (0 : Int) ≤ (lim : Int) := by omega
  have l9 : (lim : Int) < 10 := by omega
  refine goC_whileLoop (.cons rfl .nil) (wpC_any (re_T KX T F H N hz fun h1 tk1 _ u1 F1 H1 N1 => ?_))
  by_cases hlt : (row.length : Int) < lim
  · rw [if_pos (decide_eq_true hlt), reLoop_eq]
    refine goC_walk rfl (.cons rfl .nil) (re_L0 (s := { s with heap := h1, toks := tk1 }) KX T F1 H1 N1 hz l0 l9 (fun he0 h2 tk2 _ u2 F2 H2 N2 => ?_) (fun he1 hb' h2 tk2 x u2 F2 N2 hx2 => ?_))
    · have ha : ans 2 lim row e = .waits := by
        unfold ans; rw [if_neg (by decide), if_pos rfl, if_neg (by omega), if_neg (by rw [he0]; exact Bool.false_ne_true)]
      rw [ha]
      show GoC _ _ _ _ ((execs [reL1] (reEnv Lg)).wrap _ _ id id) _ _
      refine goC_yield2 rfl fun pq l k hgo => ?_
      refine ⟨l, k, _, pq, _, h2, tk2, u2, rfl, rfl, rfl, F2, N2, ?_⟩
      cases n with
      | zero => trivial
      | succ m =>
        intro dp' un' gd' outer' frs' X' hb'' he'' tb'' te'' cn'' row' e' s' F' N' hpre hz' hB' Fs' hX'
        refine hgo _ _ _ (goC_stmts rfl (.cons rfl .nil) (wpC_execs_nil ?_))
        refine goC_again rfl ?_
        exact next m rfl _ _ _ _ _ _ _ _ _ _ _ _ _ _ _ _ _ F' H2 N' hz' hB' Fs' hX'
    · have ha : ans 2 lim row e = .err "EOFError" := by
        unfold ans; rw [if_neg (by decide), if_pos rfl, if_neg (by omega), if_pos he1]
      rw [ha]
      exact loopRaise rfl Fs hX F2 N2 hx2
  · have hle : lim ≤ row.length := by omega
    rw [if_neg (by rw [decide_eq_false hlt]; exact Bool.false_ne_true)]
    have ha : ans 2 lim row e = .octets lim := by
      unfold ans; rw [if_neg (by decide), if_pos rfl, if_pos hle]
    rw [ha]
    refine goC_stmts rfl (.cons rfl .nil) (wpC_execs_nil ?_)
    show GoC _ _ _ _ (leafOf (.ok .next)) _ _
    refine goC_leaf (.ok .next) ?_
    show GoC _ _ _ (.func reBody (reEnv Lg)) ((execs [reB2, reB3, reB4] (reEnv Lg)).wrap funcK (funcH (reEnv Lg)) id id) [] _
    have c : Cut row (some (lim : Int)) lim := .upTo row _ hle
    refine goC_walk rfl .nil (re_B2 (s := { s with heap := h1, toks := tk1 }) KX T F1 H1 N1 hz c fun h5 tk5 D u5 F5 H5 N5 lt5 _ => ?_)
    show GoC _ _ _ _ ((execs [reB3, reB4] (reEnv Lg)).wrap _ _ id id) _ _
    refine goC_stmt rfl .nil (re_B3 (s := { s with heap := h5, toks := tk5 }) KX T F5 H5 (led_back N5) hz c (notB_more hB lt5) fun h6 tk6 u6 F6 H6 N6 => ?_)
    refine goC_walk rfl .nil (re_B4 (s := { s with heap := h6, toks := tk6 }) KX T F6 H6 N6 (by simp; omega) ?_)
    show GoC _ _ _ _ (leafOf (.ok (.ret (.ref D)))) [] _
    exact goC_end _ ⟨D, h6, tk6, u6, rfl, rfl, F6, led_front N6, lt5⟩
theorem re_loop (KX : (hd.heap_39 w.params).In h₀) (T : Top hd.view_39 (looseW hd.view_39 [Str.ofString "StreamReader"]) mean mg mb h₀) (hlim : lim < 10) : ∀ n, ReGoes w h₀ Lg R Rd B lim n
  | 0 => re_turn KX T hlim 0 fun m h => by cases h
  | n + 1 => re_turn KX T hlim (n + 1) fun m h => by cases h; exact re_loop KX T hlim n
theorem re_fresh (KX : (hd.heap_39 w.params).In h₀) (T : Top hd.view_39 (looseW hd.view_39 [Str.ofString "StreamReader"]) mean mg mb h₀) (hlim : lim < 10) (n : Nat) (row₀ : List UInt8) {u : Str → Option Value} (H : Has u (reHas R lim tm)) :
    Ready w h₀ Lg R Rd B 2 lim (n + 1) row₀ (.fresh (.func reBody (reEnv Lg))) u := by
  intro dp un gd outer frs X hb he tb te cn row e s F N _ hz hB Fs hX
  refine ⟨rfl, goC_func ?_⟩
  rw [reBody_eq]
  refine goC_walk rfl .nil (re_B0 KX T F H N hz (by omega) (by omega) fun h1 tk1 t1 u1 F1 H1 N1 => ?_)
  show GoC _ _ _ _ ((execs [reB1, reB2, reB3, reB4] (reEnv Lg)).wrap _ _ id id) _ _
  refine goC_cons ?_
  refine goC_While (K := reK Lg) fun p => ?_
  exact re_loop KX T hlim n _ _ _ _ _ _ _ _ _ _ _ _ _ _ _ _ _ F1 H1 N1 hz hB Fs hX

/-! read_to_eof -/
abbrev rtEnv (Lg : Addr) : Env := envOf (Str.ofString "StreamReader.read_to_eof") rtScope Lg 51 (.ref 50)
abbrev rtK (Lg : Addr) : Flow → Sem Fin := fun f => match f with | .next => (execs [rtB1, rtB2, rtB3] (rtEnv Lg)).wrap funcK (funcH (rtEnv Lg)) id id | f => funcK f
abbrev rtHas (R : Addr) (lim : Nat) (tm : Tok) : List (Str × Value) := [(Str.ofString "self", .ref R), (Str.ofString "m", .int lim tm), (Str.ofString "too_long_exc_type", .type "RuntimeError")]
def RtGoes (w : World) (h₀ : Heap) (Lg R Rd B : Addr) (lim : Nat) (n : Nat) : Prop :=
  ∀ (dp un : Nat) (gd : Option (List Code)) (outer : List Env) (frs X : List (Addr × Obj)) (hb he : Int) (tb te : Tok) (cn : Nat) (row : List UInt8) (e : Bool) (s : Shared) (u : Str → Option Value) (tm : Tok) (pp : Pos),
    Fr h₀ Lg s.heap u → Has u (rtHas R lim tm) → News h₀ Lg s.heap (led R Rd B hb he tb te cn e row X) → row.length ≤ 1000 → notB R Rd B hb he tb te cn e X → TI.Frs outer frs → (∀ p ∈ frs, p ∈ X) →
    GoC (model Challenge.rw_ev0028_01.row.prog w) (wakeA dp un gd outer)
      (EndOf h₀ Lg R Rd B hb he tb te cn outer frs X row e (ans 3 lim row e) (fun gs u => Ready w h₀ Lg R Rd B 3 lim n row gs u) s)
      (.whileLoop rtTest rtLoop [] (rtEnv Lg)) ((model Challenge.rw_ev0028_01.row.prog w).den (.whileLoop rtTest rtLoop [] (rtEnv Lg)))
      [.ret (backK (rtEnv Lg) (rtK Lg) (funcH (rtEnv Lg))) none false [] (.func rtBody (rtEnv Lg)) pp []] s
theorem ans3 (lim : Nat) (row : List UInt8) (e : Bool) : ans 3 lim row e = if e = true then .octets row.length else if lim < row.length then .err "RuntimeError" else .waits := by
  unfold ans; rw [if_neg (by decide), if_neg (by decide), if_pos rfl]
theorem rt_turn (KX : (hd.heap_39 w.params).In h₀) (T : Top hd.view_39 (looseW hd.view_39 [Str.ofString "StreamReader"]) mean mg mb h₀) (hlim : lim < 10) (n : Nat)
    (next : ∀ m, n = m + 1 → RtGoes w h₀ Lg R Rd B lim m) : RtGoes w h₀ Lg R Rd B lim n := by
  intro dp un gd outer frs X hb he tb te cn row e s u tm pp F H N hz hB Fs hX
  have l0 : (0 : Int) ≤ (lim : Int) := by omega
  have l9 : (lim : Int) < 10 := by omega
  refine goC_whileLoop (.cons rfl .nil) (wpC_any (rt_T KX T F H N hz fun h1 tk1 _ u1 F1 H1 N1 => ?_))
  rw [ans3]
  cases e with
  | false =>
    rw [if_pos (show (!false) = true from rfl), if_neg Bool.false_ne_true, rtLoop_eq]
    refine goC_walk rfl (.cons rfl .nil) (rt_L0 (s := { s with heap := h1, toks := tk1 }) KX T F1 H1 N1 hz fun h2 tk2 t2 u2 F2 H2 N2 => ?_)
    show GoC _ _ _ _ ((execs [rtL1, rtL2] (rtEnv Lg)).wrap _ _ id id) _ _
    refine goC_walk rfl (.cons rfl .nil) (rt_L1 (s := { s with heap := h2, toks := tk2 }) KX T F2 H2 N2 hz .run (Nat.le_refl _) l0 l9 (fun hle h3 tk3 _ u3 F3 H3 N3 => ?_) (fun hgt hb' h3 tk3 x u3 F3 N3 hx3 => ?_))
    · rw [if_neg (by omega)]
      show GoC _ _ _ _ ((execs [rtL2] (rtEnv Lg)).wrap _ _ id id) _ _
      refine goC_yield2 rfl fun pq l k hgo => ?_
      refine ⟨l, k, _, pq, _, h3, tk3, u3, rfl, rfl, rfl, F3, N3, ?_⟩
      cases n with
      | zero => trivial
      | succ m =>
        intro dp' un' gd' outer' frs' X' hb'' he'' tb'' te'' cn'' row' e' s' F' N' hpre hz' hB' Fs' hX'
        refine hgo _ _ _ (goC_stmts rfl (.cons rfl .nil) (wpC_execs_nil ?_))
        refine goC_again rfl ?_
        exact next m rfl _ _ _ _ _ _ _ _ _ _ _ _ _ _ _ _ _ F' H3.2 N' hz' hB' Fs' hX'
    · rw [if_pos (by omega)]
      exact loopRaise rfl Fs hX F3 N3 hx3
  | true =>
    rw [if_neg (show ¬ (!true) = true from Bool.false_ne_true), if_pos rfl]
    refine goC_stmts rfl (.cons rfl .nil) (wpC_execs_nil ?_)
    show GoC _ _ _ _ (leafOf (.ok .next)) _ _
    refine goC_leaf (.ok .next) ?_
    show GoC _ _ _ (.func rtBody (rtEnv Lg)) ((execs [rtB1, rtB2, rtB3] (rtEnv Lg)).wrap funcK (funcH (rtEnv Lg)) id id) [] _
    have c : Cut row none row.length := .all row
    refine goC_walk rfl .nil (rt_B1 (s := { s with heap := h1, toks := tk1 }) KX T F1 H1 N1 hz c fun h5 tk5 D u5 F5 H5 N5 lt5 _ => ?_)
    show GoC _ _ _ _ ((execs [rtB2, rtB3] (rtEnv Lg)).wrap _ _ id id) _ _
    refine goC_stmt rfl .nil (rt_B2 (s := { s with heap := h5, toks := tk5 }) KX T F5 H5 (led_back N5) hz c (notB_more hB lt5) fun h6 tk6 u6 F6 H6 N6 => ?_)
    refine goC_walk rfl .nil (rt_B3 (s := { s with heap := h6, toks := tk6 }) KX T F6 H6 N6 (by simp) ?_)
    show GoC _ _ _ _ (leafOf (.ok (.ret (.ref D)))) [] _
    exact goC_end _ ⟨D, h6, tk6, u6, rfl, rfl, F6, led_front N6, lt5⟩
theorem rt_loop (KX : (hd.heap_39 w.params).In h₀) (T : Top hd.view_39 (looseW hd.view_39 [Str.ofString "StreamReader"]) mean mg mb h₀) (hlim : lim < 10) : ∀ n, RtGoes w h₀ Lg R Rd B lim n
  | 0 => rt_turn KX T hlim 0 fun m h => by cases h
  | n + 1 => rt_turn KX T hlim (n + 1) fun m h => by cases h; exact rt_loop KX T hlim n
theorem rt_fresh (KX : (hd.heap_39 w.params).In h₀) (T : Top hd.view_39 (looseW hd.view_39 [Str.ofString "StreamReader"]) mean mg mb h₀) (hlim : lim < 10) (n : Nat) (row₀ : List UInt8) {u : Str → Option Value} (H : Has u (rtHas R lim tm)) :
    Ready w h₀ Lg R Rd B 3 lim (n + 1) row₀ (.fresh (.func rtBody (rtEnv Lg))) u := by
  intro dp un gd outer frs X hb he tb te cn row e s F N _ hz hB Fs hX
  refine ⟨rfl, goC_func ?_⟩
  rw [rtBody_eq]
  refine goC_cons ?_
  refine goC_While (K := rtK Lg) fun p => ?_
  exact rt_loop KX T hlim n _ _ _ _ _ _ _ _ _ _ _ _ _ _ _ _ _ F H N hz hB Fs hX

/-! at_eof -/
abbrev aeEnv (Lg : Addr) : Env := envOf (Str.ofString "StreamReader.at_eof") aeScope Lg 58 (.ref 57)
abbrev aeK (Lg : Addr) : Flow → Sem Fin := fun f => match f with | .next => (execs [] (aeEnv Lg)).wrap funcK (funcH (aeEnv Lg)) id id | f => funcK f
abbrev aeHas (R : Addr) : List (Str × Value) := [(Str.ofString "self", .ref R)]
def AeGoes (w : World) (h₀ : Heap) (Lg R Rd B : Addr) (lim : Nat) (n : Nat) : Prop :=
  ∀ (dp un : Nat) (gd : Option (List Code)) (outer : List Env) (frs X : List (Addr × Obj)) (hb he : Int) (tb te : Tok) (cn : Nat) (row : List UInt8) (e : Bool) (s : Shared) (u : Str → Option Value) (pp : Pos),
    Fr h₀ Lg s.heap u → Has u (aeHas R) → News h₀ Lg s.heap (led R Rd B hb he tb te cn e row X) → row.length ≤ 1000 → notB R Rd B hb he tb te cn e X → TI.Frs outer frs → (∀ p ∈ frs, p ∈ X) →
    GoC (model Challenge.rw_ev0028_01.row.prog w) (wakeA dp un gd outer)
      (EndOf h₀ Lg R Rd B hb he tb te cn outer frs X row e (ans 4 lim row e) (fun gs u => Ready w h₀ Lg R Rd B 4 lim n row gs u) s)
      (.whileLoop aeTest aeLoop [] (aeEnv Lg)) ((model Challenge.rw_ev0028_01.row.prog w).den (.whileLoop aeTest aeLoop [] (aeEnv Lg)))
      [.ret (backK (aeEnv Lg) (aeK Lg) (funcH (aeEnv Lg))) none false [] (.func aeBody (aeEnv Lg)) pp []] s
theorem ans4 (lim : Nat) (row : List UInt8) (e : Bool) : ans 4 lim row e = if row.isEmpty = false ∨ e = true then .flag row.isEmpty else .waits := by
  unfold ans; rw [if_neg (by decide), if_neg (by decide), if_neg (by decide)]
theorem ae_turn (KX : (hd.heap_39 w.params).In h₀) (T : Top hd.view_39 (looseW hd.view_39 [Str.ofString "StreamReader"]) mean mg mb h₀) (n : Nat)
    (next : ∀ m, n = m + 1 → AeGoes w h₀ Lg R Rd B lim m) : AeGoes w h₀ Lg R Rd B lim n := by
  intro dp un gd outer frs X hb he tb te cn row e s u pp F H N hz hB Fs hX
  refine goC_whileLoop (.cons rfl .nil) (wpC_any (ae_T KX T F H N hz fun h1 tk1 _ u1 F1 H1 N1 => ?_))
  rw [ans4, if_pos rfl, aeLoop_eq]
  refine goC_walk rfl (.cons rfl .nil) (ae_L0 (s := { s with heap := h1, toks := tk1 }) KX T F1 H1 N1 hz (fun hr h2 tk2 _ u2 F2 H2 N2 => ?_) (fun hr h2 tk2 _ u2 F2 H2 N2 => ?_))
  · rw [if_pos (.inl hr), hr]
    show GoC _ _ _ _ (leafOf (.ok (.ret (.bool false)))) _ _
    refine goC_leaf (.ok (.ret (.bool false))) ?_
    show GoC _ _ _ _ (leafOf (.ok (.ret (.bool false)))) [] _
    exact goC_end _ ⟨h2, tk2, u2, rfl, rfl, F2, N2⟩
  · show GoC _ _ _ _ ((execs [aeL1, aeL2] (aeEnv Lg)).wrap _ _ id id) _ _
    refine goC_walk rfl (.cons rfl .nil) (ae_L1 (s := { s with heap := h2, toks := tk2 }) KX T F2 H2 N2 hz (fun he1 h3 tk3 _ u3 F3 H3 N3 => ?_) (fun he0 h3 tk3 _ u3 F3 H3 N3 => ?_))
    · rw [if_pos (.inr he1), hr]
      show GoC _ _ _ _ (leafOf (.ok (.ret (.bool true)))) _ _
      refine goC_leaf (.ok (.ret (.bool true))) ?_
      show GoC _ _ _ _ (leafOf (.ok (.ret (.bool true)))) [] _
      exact goC_end _ ⟨h3, tk3, u3, rfl, rfl, F3, N3⟩
    · rw [if_neg (by rw [hr, he0]; simp)]
      show GoC _ _ _ _ ((execs [aeL2] (aeEnv Lg)).wrap _ _ id id) _ _
      refine goC_yield2 rfl fun pq l k hgo => ?_
      refine ⟨l, k, _, pq, _, h3, tk3, u3, rfl, rfl, rfl, F3, N3, ?_⟩
      cases n with
      | zero => trivial
      | succ m =>
        intro dp' un' gd' outer' frs' X' hb'' he'' tb'' te'' cn'' row' e' s' F' N' hpre hz' hB' Fs' hX'
        refine hgo _ _ _ (goC_stmts rfl (.cons rfl .nil) (wpC_execs_nil ?_))
        refine goC_again rfl ?_
        exact next m rfl _ _ _ _ _ _ _ _ _ _ _ _ _ _ _ _ F' H3 N' hz' hB' Fs' hX'
theorem ae_loop (KX : (hd.heap_39 w.params).In h₀) (T : Top hd.view_39 (looseW hd.view_39 [Str.ofString "StreamReader"]) mean mg mb h₀) : ∀ n, AeGoes w h₀ Lg R Rd B lim n
  | 0 => ae_turn KX T 0 fun m h => by cases h
  | n + 1 => ae_turn KX T (n + 1) fun m h => by cases h; exact ae_loop KX T n
theorem ae_fresh (KX : (hd.heap_39 w.params).In h₀) (T : Top hd.view_39 (looseW hd.view_39 [Str.ofString "StreamReader"]) mean mg mb h₀) (n : Nat) (row₀ : List UInt8) {u : Str → Option Value} (H : Has u (aeHas R)) :
    Ready w h₀ Lg R Rd B 4 lim (n + 1) row₀ (.fresh (.func aeBody (aeEnv Lg))) u := by
  intro dp un gd outer frs X hb he tb te cn row e s F N _ hz hB Fs hX
  refine ⟨rfl, goC_func ?_⟩
  rw [aeBody_eq]
  refine goC_cons ?_
  refine goC_While (K := aeK Lg) fun p => ?_
  exact ae_loop KX T n _ _ _ _ _ _ _ _ _ _ _ _ _ _ _ _ F H N hz hB Fs hX
end
end Mine
end
section
open PySem PySem.W PySem.Calls PyProof.Rows
open PySem.Sem (wp)
set_option maxRecDepth 100000
namespace Mine
section
variable {prog : Program} {w : World} {A : Around} {s : Shared}
theorem codeC_call_function {R : Result → Shared → Prop} {a : Addr} {args : Args} {o : Obj} {fd : FuncData} {body : List Stmt} (hroom : A.depth < recursionLimit)
    (ho : s.heap.get? a = some o)
    (hd' : o.data = .func fd) (hco : fd.scope.isCoroutine = false) (hgen : fd.scope.isGenerator = false) (hbody : fd.body = .stmts body) (hcd : s.heap.CodeRec fd.code fd.qualname)
    (h : wpAny (model prog w) A.in1 (bindArgs fd args) (fun binds s₁ =>
      wpAny (model prog w) A.in1 (newFunctionEnv fd.scope fd.globals fd.closure binds (fd.qualname ++ ".<locals>.") (some a) fd.code none fd.builtins)
        (fun env s₂ => s₂.heap.NoLimit ∧ codeC (model prog w) A (.func body env) R s₂) (fun e s' => R (.error e) s') s₁) (fun e s' => R (.error e) s') s) :
    codeC (model prog w) A (.call (.ref a) args) R s := by
  refine codeC_of_tree rfl ?_
  show wpC _ A.in1 (callAny (.ref a) args) _ _ s
  simp only [callAny]
  refine wpC_anyBind (wpAny_load ho ?_)
  obtain ⟨c, oc, vs, tq, hc, hoc, hdc, hq⟩ := hcd
  simp only [hd', callFunction, hco, hgen, hbody, hc]
  rw [hc] at h
  refine wpC_anyBind (m := field (.ref c) 1) (wpAny_field hoc hdc hq (wpC_bind (wpC_pure ?_)))
  exact wpC_anyBind (wpAny_mono h (fun binds s₁ h₁ => wpC_anyBind (wpAny_mono h₁ (fun env s₂ h₂ => wpC_anyBind (wpAny_enterFrame h₂.1 hroom
    (wpC_pure (And.intro rfl h₂.2)))) fun _ _ h' => h')) fun _ _ h' => h')

/-- the call of a def: the base stays, the caller's frame goes into the ledger -/
theorem callC_u {R : Result → Shared → Prop} {h₀ : Heap} {L : Addr} {m : Str → Option Value} {news : List (Addr × Obj)} {K : Frag} {name qual : Str} {params : Arguments} {body : List Stmt} {scope : Scope} {dV kV doc pm cdv ct oc : Value} {an od : Option Addr} {osl : Array (Option Value)} {f : Addr} {args : Args} {binds : List (Str × Value)}
    (F : Fr h₀ L s.heap m) (N : News h₀ L s.heap news) (X : K.In h₀) (hlim : h₀.NoLimit)
    (ho : K.lookup f = some ⟨oc, od, .func (fnOf name qual params body scope dV kV doc pm an cdv ct), osl⟩) (hcd : codeIn K cdv qual = true) (hroom : A.depth < recursionLimit)
    (hbind : BindsTo s (fnOf name qual params body scope dV kV doc pm an cdv ct) args binds) (hloc : ∀ y ∈ binds, scope.names.lookup y.1 = some .local)
    (h : ∀ oL h₁, s.heap.get? L = some oL → (∃ es ep, oL.data = .dict es ep) → Fr h₀ s.heap.objs.size h₁ (fun y => binds.reverse.lookup y) → News h₀ s.heap.objs.size h₁ ((L, oL) :: news) →
      (∀ (h' : Heap) sl, h'.get? L = some { oL with slots := sl } → h'.Ns L m) → (∀ p ∈ (L, oL) :: news, p.1 < s.heap.objs.size) →
      wpC (model prog w) (A.deeper (envOf qual scope s.heap.objs.size f cdv)) (execs body (envOf qual scope s.heap.objs.size f cdv))
        (fun fl s' => R (.ok (.ret (match fl with | .ret v => v | _ => .none))) s')
        (fun e s' => wpAny (model prog w) (A.deeper (envOf qual scope s.heap.objs.size f cdv)) (leaving (envOf qual scope s.heap.objs.size f cdv) e) (fun _ s'' => R (.error e) s'') (fun e' s'' => R (.error e') s'') s')
        { s with heap := h₁, toks := s.toks + binds.length })
    (hcell : ∀ x ∈ scope.names, x.2 ≠ .cell) (hco : scope.isCoroutine = false := by rfl) (hgen : scope.isGenerator = false := by rfl) (hk : scope.kind = .function := by rfl) :
    codeC (model prog w) A (.call (.ref f) args) R s := by
  have X' := X.keeps F.keep
  obtain ⟨oL, es, ep, hL, hLd, hLk, hLf⟩ := F.ns
  refine codeC_call_function (fd := fnOf name qual params body scope dV kV doc pm an cdv ct) (body := body) hroom (X' _ _ ho) rfl hco hgen rfl (codeRec_of X' hcd) (hbind _ _ _ _ ?_)
  refine wpAny_newFunctionEnv hcell hloc (fun h₁ hns hsb => ⟨(hlim.keeps F.keep).fresh _ hsb, codeC_func ?_⟩) hk
  have hk₁ : ∀ b o, s.heap.get? b = some o → h₁.get? b = some o := fun b o e => hsb.extBut b o (Nat.ne_of_lt (Heap.lt_size e)) (Heap.get?_push_of_some _ e)
  refine h oL h₁ hL ⟨es, ep, hLd⟩ ⟨hns, fun b o e => hk₁ b o (F.keep b o e), Nat.le_trans F.above (Nat.le_of_lt (Heap.lt_size hL))⟩ (fun p hp => ?_) (fun h' sl e => ⟨_, es, ep, e, hLd, hLk, hLf⟩) (fun p hp => ?_)
  · rcases List.mem_cons.mp hp with rfl | hp
    · exact ⟨hk₁ _ _ hL, Nat.ne_of_lt (Heap.lt_size hL), Heap.get?_none_of_le F.above⟩
    · exact ⟨hk₁ _ _ (N p hp).1, Nat.ne_of_lt (Heap.lt_size (N p hp).1), (N p hp).2.2⟩
  · rcases List.mem_cons.mp hp with rfl | hp
    · exact Heap.lt_size hL
    · exact Heap.lt_size (N p hp).1
end

section
variable {M : Model} {A : Around} {E : Value → Shared → Prop} {s : Shared} {env : Env}
theorem wpC_Try {body orelse : List Stmt} {h₀ : ExceptHandler} {hs : List ExceptHandler} {pos : Pos} {Q : Flow → Shared → Prop}
    (h : wpC M A (execs body env) (fun f s₁ => match f with | .next => wpC M A (execs orelse env) Q E s₁ | f => Q f s₁)
      (fun e s₁ => wpAny M A (noteFrame e env) (fun _ s₂ => wpAny M A (setFlight e none) (fun _ s₃ => wpAny M A (handleBy e env (h₀ :: hs)) Q E s₃) E s₂) E s₁) s) :
    wpC M A (exec (.Try body (h₀ :: hs) orelse [] pos) env) Q E s := by
  rw [arm_exec_Try]
  refine wpC_stand ?_
  unfold tryStmt
  simp only [List.isEmpty_nil, if_true, List.isEmpty_cons, Bool.false_and, Bool.false_eq_true, if_false]
  refine wpC_bind (wpC_attempt (wpC_mono h (fun f s₁ h₁ => ?_) fun e s₁ h₁ => ?_))
  · cases f <;> first | exact h₁ | exact wpC_pure h₁
  · exact wpC_any (wpAny_bind (wpAny_mono h₁ (fun _ _ h₂ => wpAny_bind h₂) fun _ _ x => x))
end

/-- held in the catching frame -/
theorem held_up {h₀ bs hb h₁ : Heap} {L x : Addr} {m : Str → Option Value} {env : Env} {outer : List Env} {frs ld : List (Addr × Obj)} {Xn : String} {a0 : Value}
    (hns : h₁.Ns L m) (above : h₀.objs.size ≤ L) (keep0 : h₀.StaysIn bs)
    (up : ∀ b o, hb.get? b = some o → (∀ vs, o.data ≠ .fields vs) → ∃ sl, h₁.get? b = some { o with slots := sl })
    (hl : ∀ p ∈ ld, bs.get? p.1 = some p.2 ∧ p.1 ≠ L ∧ h₀.get? p.1 = none)
    (Fs : TI.Frs outer frs) (hfr : ∀ p ∈ frs, hb.get? p.1 = some p.2 ∧ p.1 ≠ L ∧ h₀.get? p.1 = none)
    (hh : Heap.HeldW bs (env :: outer) x (.type Xn) a0 L h₁) :
    ∃ frs', TI.SameUp frs frs' ∧ TI.Frs outer frs' ∧ TT.HeldNA h₀ L h₁ m x Xn (ld ++ frs') (rawInt L) := by
  obtain ⟨k1, k2, _, oe, vs, T, oT, ts, he, ⟨hcl, _⟩, hd, h1, hnT, hTe, hT, hdT, h3⟩ := hh
  obtain ⟨frs', SU, ht⟩ := TI.sameUp_of (h' := h₁) (frs := frs) fun p hp => up p.1 p.2 (hfr p hp).1 fun vs q => by
    obtain ⟨es, ep, hd'⟩ := Fs.dict p hp
    rw [hd'] at q; cases q
  have Fs' := Fs.up SU
  have hTL : T ≠ L := fun q => by
    obtain ⟨oL, es, ep, hL, hLd, _⟩ := hns
    rw [q, hL] at hT; cases hT
    rw [hLd] at hdT; cases hdT
  refine ⟨frs', SU, Fs', ⟨⟨hns, fun b o e => k1 b o (keep0 b o e), above⟩, ⟨oe, vs, T, oT, ts, he, hcl, hd, h1, hT, hdT, h3, hTL, hTe, TI.none_of keep0 hnT⟩, TI.none_of keep0 k2⟩, fun p hp => ?_, ?_⟩
  · rcases List.mem_append.mp hp with hp | hp
    · exact ⟨k1 _ _ (hl p hp).1, (hl p hp).2⟩
    · obtain ⟨y, hy, q⟩ := SU.fwd p hp
      exact ⟨ht p hp, by rw [q]; exact (hfr y hy).2.1, by rw [q]; exact (hfr y hy).2.2⟩
  · intro ob ws tb e1 e2 e3 p hp q
    rw [he] at e1; cases e1
    rw [hd] at e2; cases e2
    rw [h1] at e3; cases e3
    rcases List.mem_append.mp hp with hp | hp
    · have := (hl p hp).1; rw [q, hnT] at this; cases this
    · have e4 := ht p hp
      obtain ⟨es, ep, hdd⟩ := Fs'.dict p hp
      rw [q, hT] at e4; cases e4
      rw [hdT] at hdd; cases hdd
end Mine
end
section
open PySem PySem.W PySem.Calls PyProof.Rows
set_option maxRecDepth 100000
namespace Mine
local macro_rules | `(tactic| walk_at "getMethod ref") => `(tactic| (k_here; (with_reducible show wpAny _ _ (getMethod (Value.ref _) (PySem.Str.ofString "find") _) _ _ _); k_dflt (refine' ba_getMethod_find (News.get ?k1 ?k2) ?_; (case k1 => k_asm); (case k2 => k_mem); k_whole)))
local macro_rules | `(tactic| walk_at "call builtin:bytearray.find") => `(tactic| (k_here; k_dflt (refine' ba_find (News.get ?k1 ?k2) ?k3 ?_; (case k1 => k_asm); (case k2 => k_mem); (case k3 => first | assumption | omega); k_whole)))
local macro_rules | `(tactic| walk_at "call builtin:len") => `(tactic| (k_here; (with_reducible show wpAny _ _ (call (Value.builtin "len") [Value.ref _]) _ _ _); k_dflt (refine' ba_len (News.get ?k1 ?k2) ?k3 ?_; (case k1 => k_asm); (case k2 => k_mem); (case k3 => first | assumption | omega); k_whole)))
local macro_rules | `(tactic| walk_at "subscriptTail") => `(tactic| (k_here; (with_reducible show wpAny _ _ (subscriptTail _ (Expr.Slice _ _ _ _) (Value.ref _) (Value.ref _)) _ _ _); k_dflt (refine' ba_cut_K ?F ?N ?m ?c ?p ?z ?_ ?sub; (case F => k_asm); (case N => k_asm); (case m => k_mem); (case c => assumption); (case p => first | exact IsPart.none | constructor); (case z => omega); (case sub => with_unfolding_all rfl)); intro _ _ _ _ _ _))
local macro_rules | `(tactic| walk_at "call type:EOFError") => `(tactic| (refine raise3 .eof ?_; intro _ _ _))
local macro_rules | `(tactic| walk_at "joinParts") => `(tactic| (k_here; (first | (with_reducible show wpAny _ _ (joinParts _ []) _ _ _) | (with_reducible show wpAny _ _ (joinParts _ (evalEach [] _)) _ _ _)); k_dflt (refine' joinParts_nil ?_ ?hz; (case hz => first | with_reducible exact readText (by omega) (by omega) (by omega) (by omega) | with_reducible exact eofText (by omega) | with_reducible exact eofText2 (by omega) (by omega) (by omega)))))
local macro_rules | `(tactic| walk_at "truthy ref") => `(tactic| (k_here; k_dflt (refine' ba_truthy (News.get ?k1 ?k2) ?k3 ?_; (case k1 => k_asm); (case k2 => k_mem); (case k3 => first | assumption | omega); k_whole)))
section
variable {w : World} {s : Shared} {h₀ : Heap} {Lg R Rd B dp un : Nat} {gd : Option (List Code)} {outer : List Env} {u mg mb : Str → Option Value} {mean : ExcName → Option Value} {Q : Flow → Shared → Prop} {E : Value → Shared → Prop}
  {lim : Int} {p : Nat} {n : Int} {tm tp tn tb te : Tok} {hb he : Int} {cn : Nat} {e : Bool} {row r : List UInt8} {cls : String} {X : List (Addr × Obj)}

set_option maxHeartbeats 0 in
theorem di_S0  (KX : (hd.heap_39 w.params).In h₀) (T : Top hd.view_39 (looseW hd.view_39 [Str.ofString "StreamReader"]) mean mg mb h₀)
  (F : Fr h₀ Lg s.heap u) (H : Has u [(Str.ofString "self", .ref R)]) (N : News h₀ Lg s.heap (led R Rd B hb he tb te cn e row X)) (hz : row.length ≤ 1000) {k : Nat} (c : Cut row none k) (hB : ∀ p ∈ (R, instObj 82 Rd) :: (Rd, dictOf [⟨hb, .str (Str.ofString "buffer") tb, .ref B⟩, ⟨he, .str (Str.ofString "eof") te, .bool e⟩] cn) :: X, p.1 ≠ B)
  (hQ : ∀ h' tk u', Fr h₀ Lg h' u' → Has u' [(Str.ofString "self", .ref R)] → News h₀ Lg h' (led R Rd B hb he tb te cn e (row.drop k) X) → Q .next { s with heap := h', toks := tk }) :
  wpC (model Challenge.rw_ev0028_01.row.prog w) (ktrTop dp un gd (Str.ofString "StreamReader.discard") diScope Lg 79 (.ref 78) [] outer) (exec diS0 (envOf (Str.ofString "StreamReader.discard") diScope Lg 79 (.ref 78))) Q E s := by
  dsimp only [led] at N
  replace F := frHas F H
  dsimp only [chainTo] at F
  unfold diS0
  dsimp only
  refine wpC_DelSlice ?_
  revert KX; k_fill; intro KX
  w_strict (k_steps)
  · refine del_cut (pre := [_, _]) (by assumption) (by assumption) (fun p hp => hB p (List.mem_append_left X hp)) (fun p hp => hB p (.tail _ (.tail _ hp))) c .none (by omega) fun h' F' N' => ?_
    refine' hQ _ _ _ ?a ?b ?c; (case a => assumption); (case b => exact ⟨by with_unfolding_all exact rfl, trivial⟩); (case c => assumption)


end
/-- back in the caller's frame -/
theorem back_to {h₀ h h' : Heap} {L L' : Addr} {m u' : Str → Option Value} {oL : Obj} {sl : Array (Option Value)} {l' news : List (Addr × Obj)} (F : Fr h₀ L h m) (ns : ∀ (h' : Heap) sl, h'.get? L = some { oL with slots := sl } → h'.Ns L m)
    (F' : Fr h₀ L' h' u') (N' : News h₀ L' h' l') (hL : (L, { oL with slots := sl }) ∈ l') (sub : ∀ p ∈ news, p ∈ l') (ne : ∀ p ∈ news, p.1 ≠ L) : Fr h₀ L h' m ∧ News h₀ L h' news :=
  ⟨⟨ns h' sl (N' _ hL).1, F'.keep, F.above⟩, fun p hp => ⟨(N' p (sub p hp)).1, ne p hp, (N' p (sub p hp)).2.2⟩⟩

theorem notB_L {h₀ h : Heap} {L R Rd B : Addr} {hb he : Int} {tb te : Tok} {cn : Nat} {e : Bool} {row : List UInt8} {X : List (Addr × Obj)} {oL : Obj} (N : News h₀ L h (led R Rd B hb he tb te cn e row X)) (hB : notB R Rd B hb he tb te cn e X) :
    notB R Rd B hb he tb te cn e ((L, oL) :: X) := fun q hq => by
  rcases List.mem_cons.mp hq with rfl | hq
  · exact hB _ (.head _)
  rcases List.mem_cons.mp hq with rfl | hq
  · exact hB _ (.tail _ (.head _))
  rcases List.mem_cons.mp hq with rfl | hq
  · exact (N (B, baObj row) (.tail _ (.tail _ (.head _)))).2.1.symm
  · exact hB _ (.tail _ (.tail _ hq))
theorem led_ne {h₀ h : Heap} {L R Rd B : Addr} {hb he : Int} {tb te : Tok} {cn cn' : Nat} {e e' : Bool} {row row' : List UInt8} {X : List (Addr × Obj)} (N : News h₀ L h (led R Rd B hb he tb te cn e row X)) :
    ∀ p ∈ led R Rd B hb he tb te cn' e' row' X, p.1 ≠ L := fun q hq => by
  rcases List.mem_cons.mp hq with rfl | hq
  · exact (N _ (.head _)).2.1
  rcases List.mem_cons.mp hq with rfl | hq
  · exact (N (Rd, _) (.tail _ (.head _))).2.1
  rcases List.mem_cons.mp hq with rfl | hq
  · exact (N (B, _) (.tail _ (.tail _ (.head _)))).2.1
  · exact (N q (.tail _ (.tail _ (.tail _ hq)))).2.1
section
variable {w : World} {s : Shared} {A₀ : Around} {base h₀ : Heap} {L R Rd B dp un a : Nat} {cn : Str} {cs : Scope} {ccd : Value} {cl : List (Str × Addr)} {gd : Option (List Code)} {outer : List Env} {m mg mb : Str → Option Value} {mean : ExcName → Option Value} {Q E : Value → Shared → Prop}
  {hb he : Int} {tb te : Tok} {cn' : Nat} {e : Bool} {row : List UInt8} {X : List (Addr × Obj)}
set_option maxHeartbeats 0 in
theorem discard_C (KX : (hd.heap_39 w.params).In h₀) (T : Top hd.view_39 (looseW hd.view_39 [Str.ofString "StreamReader"]) mean mg mb h₀)
    (F : Fr h₀ L s.heap m) (N : News h₀ L s.heap (led R Rd B hb he tb te cn' e row X)) (hz : row.length ≤ 1000) (hB : notB R Rd B hb he tb te cn' e X) (hdp : dp + 3 < recursionLimit)
    (hQ : ∀ h' tk, Fr h₀ L h' m → News h₀ L h' (led R Rd B hb he tb te cn' e [] X) → Q .none { s with heap := h', toks := tk }) :
    wpC (model Challenge.rw_ev0028_01.row.prog w) (ktrTop dp un gd cn cs L a ccd cl outer) (call (.ref 79) [.ref R]) Q E s := by
  have KX₀ := KX
  revert KX; k_fill; intro KX
  refine wpC_call ?_
  refine' callC_u (binds := [(Str.ofString "self", .ref R)]) ?F ?N ?X ?lim ?ho ?hcd ?room ?bind ?loc ?_ ?cell ?co ?gen ?k
  case F => exact F
  case N => exact N
  case X => exact KX
  case lim => exact T.nolimit
  case ho => k_is
  case hcd => k_is
  case room => show dp < _; omega
  case bind => exact BindsTo.of_eq rfl
  case loc => exact locs rfl
  case co => exact rfl
  case gen => exact rfl
  case k => exact rfl
  case cell => decide
  intro oL h₁ hL hLd F₁ N₁ ns lt
  refine wpC_cons (di_S0 (s := { s with heap := h₁, toks := _ }) KX₀ T F₁ ⟨by with_unfolding_all exact rfl, trivial⟩ (led_back N₁) hz (.all row) (notB_L N hB) fun h2 tk2 u2 F2 H2 N2 => ?_)
  refine wpC_execs_nil ?_
  rw [List.drop_length] at N2
  obtain ⟨F3, N3⟩ := back_to (sl := oL.slots) (news := led R Rd B hb he tb te cn' e [] X) F ns F2 (led_front N2) (.head _) (fun p hp => .tail _ hp) (led_ne N)
  exact hQ h2 tk2 F3 N3
end
end Mine
end
section
open PySem PySem.W PySem.Calls PyProof.Rows
set_option maxRecDepth 100000
namespace Mine
local macro_rules | `(tactic| walk_at "getMethod ref") => `(tactic| (k_here; (with_reducible show wpAny _ _ (getMethod (Value.ref _) (PySem.Str.ofString "find") _) _ _ _); k_dflt (refine' ba_getMethod_find (News.get ?k1 ?k2) ?_; (case k1 => k_asm); (case k2 => k_mem); k_whole)))
local macro_rules | `(tactic| walk_at "call builtin:bytearray.find") => `(tactic| (k_here; k_dflt (refine' ba_find (News.get ?k1 ?k2) ?k3 ?_; (case k1 => k_asm); (case k2 => k_mem); (case k3 => first | assumption | omega); k_whole)))
local macro_rules | `(tactic| walk_at "call builtin:len") => `(tactic| (k_here; (with_reducible show wpAny _ _ (call (Value.builtin "len") [Value.ref _]) _ _ _); k_dflt (refine' ba_len (News.get ?k1 ?k2) ?k3 ?_; (case k1 => k_asm); (case k2 => k_mem); (case k3 => first | assumption | omega); k_whole)))
local macro_rules | `(tactic| walk_at "subscriptTail") => `(tactic| (k_here; (with_reducible show wpAny _ _ (subscriptTail _ (Expr.Slice _ _ _ _) (Value.ref _) (Value.ref _)) _ _ _); k_dflt (refine' ba_cut_K ?F ?N ?m ?c ?p ?z ?_ ?sub; (case F => k_asm); (case N => k_asm); (case m => k_mem); (case c => assumption); (case p => first | exact IsPart.none | constructor); (case z => omega); (case sub => with_unfolding_all rfl)); intro _ _ _ _ _ _))
local macro_rules | `(tactic| walk_at "call type:EOFError") => `(tactic| (refine raise3 .eof ?_; intro _ _ _))
local macro_rules | `(tactic| walk_at "joinParts") => `(tactic| (k_here; (first | (with_reducible show wpAny _ _ (joinParts _ []) _ _ _) | (with_reducible show wpAny _ _ (joinParts _ (evalEach [] _)) _ _ _)); k_dflt (refine' joinParts_nil ?_ ?hz; (case hz => first | with_reducible exact readText (by omega) (by omega) (by omega) (by omega) | with_reducible exact eofText (by omega) | with_reducible exact eofText2 (by omega) (by omega) (by omega)))))
local macro_rules | `(tactic| walk_at "truthy ref") => `(tactic| (k_here; k_dflt (refine' ba_truthy (News.get ?k1 ?k2) ?k3 ?_; (case k1 => k_asm); (case k2 => k_mem); (case k3 => first | assumption | omega); k_whole)))
section
variable {w : World} {s : Shared} {h₀ : Heap} {Lg R Rd B dp un : Nat} {gd : Option (List Code)} {outer : List Env} {u mg mb : Str → Option Value} {mean : ExcName → Option Value} {Q : Flow → Shared → Prop} {E : Value → Shared → Prop}
  {lim : Int} {p : Nat} {n : Int} {tm tp tn tb te : Tok} {hb he : Int} {cn : Nat} {e : Bool} {row r : List UInt8} {cls : String} {X : List (Addr × Obj)}

theorem wpC_AugAttr {M : Model} {A : Around} {E : Value → Shared → Prop} {s : Shared} {env : Env} {o value : Expr} {attr : Str} {tpos pos : Pos} {op : Operator} {Q : Flow → Shared → Prop}
    (h : wpAny M A (eval o env) (fun ov s₁ => wpAny M A (getAttr ov attr true) (fun old s₂ => wpAny M A (eval value env) (fun v s₃ => wpC M A (inplaceOp op old v) (fun r s₄ => wpAny M A (setAttr ov attr r) (fun _ => Q .next) E s₄) E s₃) E s₂) E s₁) E s) :
    wpC M A (exec (.AugAssign (.Attribute o attr tpos) op value pos) env) Q E s := by
  rw [arm_exec_AugAssign_2]
  refine wpC_stand (wpC_anyBind (wpAny_mono h (fun ov s₁ h₁ => ?_) fun _ _ x => x))
  refine wpC_bind (wpC_holding (wpC_stand (wpC_anyBind (wpAny_mono h₁ (fun old s₂ h₂ => wpC_anyBind (wpAny_holding (wpAny_mono h₂ (fun v s₃ h₃ => ?_) fun _ _ x => x))) fun _ _ x => x))))
  refine wpC_stand (wpC_operate (wpC_mono h₃ (fun r s₄ h₄ => ?_) fun _ _ x => x))
  refine wpC_stand (wpC_anyBind (wpAny_holding (wpAny_mono h₄ (fun _ s₅ h₅ => ?_) fun _ _ x => x)))
  refine wpC_bind fun Γ pp i c => ?_
  rw [Sem.wp_release]
  exact wpC_pure h₅

set_option maxHeartbeats 0 in
theorem fd_S0 {d : List UInt8} (KX : (hd.heap_39 w.params).In h₀) (T : Top hd.view_39 (looseW hd.view_39 [Str.ofString "StreamReader"]) mean mg mb h₀)
  (F : Fr h₀ Lg s.heap u) (H : Has u [(Str.ofString "self", .ref R), (Str.ofString "data", .bytes d.toArray tm)]) (N : News h₀ Lg s.heap (led R Rd B hb he tb te cn e row X)) (hz : row.length ≤ 1000) 
  (hQ : e = false → ∀ h' tk (t : Tok) u', Fr h₀ Lg h' u' → Has u' [(Str.ofString "self", .ref R), (Str.ofString "data", .bytes d.toArray tm)] → News h₀ Lg h' (led R Rd B hb he tb te cn e row X) → Q .next { s with heap := h', toks := tk }) (hE1 : e = true → ∀ hb' h' tk x u', Fr h₀ Lg hb' u' → News h₀ Lg hb' (led R Rd B hb he tb te cn e row X) → Heap.NewExc hb' h' x "EOFError" → E (.ref x) { s with heap := h', toks := tk })  :
  wpAny (model Challenge.rw_ev0028_01.row.prog w) (ktrTop dp un gd (Str.ofString "StreamReader.feed_data") fdScope Lg 65 (.ref 64) [] outer) (execs [fdS0] (envOf (Str.ofString "StreamReader.feed_data") fdScope Lg 65 (.ref 64))) Q E s := by
  dsimp only [led] at N
  replace F := frHas F H
  dsimp only [chainTo] at F
  unfold fdS0
  dsimp only
  revert KX; k_fill; intro KX
  w_strict (k_steps)
  · (refine' hE1 (by assumption) _ _ _ _ _ ?a ?b ?c; (case a => assumption); (case b => assumption); (case c => assumption))
  · (refine' hQ (by first | assumption | exact notTrue (by assumption)) _ _ 0 _ ?a ?b ?c; (case a => assumption); (case b => exact ⟨by with_unfolding_all exact rfl, by with_unfolding_all exact rfl, trivial⟩); (case c => assumption))


set_option maxHeartbeats 0 in
theorem set_buf {A : Around} {QU : Unit → Shared → Prop} (KX : (hd.heap_39 w.params).In h₀) (F : Fr h₀ Lg s.heap u) (N : News h₀ Lg s.heap (led R Rd B hb he tb te cn e row X)) (hne : ∀ p ∈ (B, baObj row) :: X, p.1 ≠ Rd) (hRR : R ≠ Rd)
  (hQ : ∀ h' tk, Fr h₀ Lg h' u → News h₀ Lg h' (led R Rd B hb he tb te cn e row X) → QU () { s with heap := h', toks := tk }) :
  wpAny (model Challenge.rw_ev0028_01.row.prog w) A (setAttr (.ref R) (Str.ofString "buffer") (.ref B)) QU E s := by
  dsimp only [led] at N
  revert KX; k_fill; intro KX
  refine' set_dict (es' := [⟨hb, .str (Str.ofString "buffer") tb, .ref B⟩, ⟨he, .str (Str.ofString "eof") te, .bool e⟩]) (n' := cn) ?k1 ?k2 ?k3 ?k4 ?k5 ?k6 ?k7 ?k8 ?k9 ?k10 ?k11 ?k12 ?k13 ?_
  case k1 => exact F
  case k2 => exact KX
  case k3 => exact N
  case k4 => k_inst
  case k5 => exact rfl
  case k6 => k_is
  case k7 => k_is
  case k8 => k_is
  case k9 => k_is
  case k10 => with_unfolding_all exact rfl
  case k11 => with_unfolding_all exact rfl
  case k12 => exact Upd.tail hRR (Upd.head hne)
  case k13 => exact Nat.le_of_ble_eq_true rfl
  intro h' F' N'
  exact hQ _ _ F' N'
set_option maxHeartbeats 0 in
theorem set_eof {A : Around} {v : Bool} {QU : Unit → Shared → Prop} (KX : (hd.heap_39 w.params).In h₀) (F : Fr h₀ Lg s.heap u) (N : News h₀ Lg s.heap (led R Rd B hb he tb te cn e row X)) (hne : ∀ p ∈ (B, baObj row) :: X, p.1 ≠ Rd) (hRR : R ≠ Rd)
  (hQ : ∀ h' tk, Fr h₀ Lg h' u → News h₀ Lg h' (led R Rd B hb he tb te cn v row X) → QU () { s with heap := h', toks := tk }) :
  wpAny (model Challenge.rw_ev0028_01.row.prog w) A (setAttr (.ref R) (Str.ofString "eof") (.bool v)) QU E s := by
  dsimp only [led] at N
  revert KX; k_fill; intro KX
  refine' set_dict (es' := [⟨hb, .str (Str.ofString "buffer") tb, .ref B⟩, ⟨he, .str (Str.ofString "eof") te, .bool v⟩]) (n' := cn) ?k1 ?k2 ?k3 ?k4 ?k5 ?k6 ?k7 ?k8 ?k9 ?k10 ?k11 ?k12 ?k13 ?_
  case k1 => exact F
  case k2 => exact KX
  case k3 => exact N
  case k4 => k_inst
  case k5 => exact rfl
  case k6 => k_is
  case k7 => k_is
  case k8 => k_is
  case k9 => k_is
  case k10 => with_unfolding_all exact rfl
  case k11 => with_unfolding_all exact rfl
  case k12 => exact Upd.tail hRR (Upd.head hne)
  case k13 => exact Nat.le_of_ble_eq_true rfl
  intro h' F' N'
  exact hQ _ _ F' N'

set_option maxHeartbeats 0 in
theorem fd_S1  {d : List UInt8} (KX : (hd.heap_39 w.params).In h₀) (T : Top hd.view_39 (looseW hd.view_39 [Str.ofString "StreamReader"]) mean mg mb h₀)
  (F : Fr h₀ Lg s.heap u) (H : Has u [(Str.ofString "self", .ref R), (Str.ofString "data", .bytes d.toArray tm)]) (N : News h₀ Lg s.heap (led R Rd B hb he tb te cn e row X)) (hz : row.length ≤ 1000) (hd : row.length + d.length ≤ 1000) (hB : notB R Rd B hb he tb te cn e X) (hne : ∀ p ∈ X, p.1 ≠ Rd) (hRR : R ≠ Rd)
  (hQ : ∀ h' tk u', Fr h₀ Lg h' u' → News h₀ Lg h' (led R Rd B hb he tb te cn e (row ++ d) X) → Q .next { s with heap := h', toks := tk }) :
  wpC (model Challenge.rw_ev0028_01.row.prog w) (ktrTop dp un gd (Str.ofString "StreamReader.feed_data") fdScope Lg 65 (.ref 64) [] outer) (exec fdS1 (envOf (Str.ofString "StreamReader.feed_data") fdScope Lg 65 (.ref 64))) Q E s := by
  dsimp only [led] at N
  replace F := frHas F H
  dsimp only [chainTo] at F
  unfold fdS1
  dsimp only
  refine wpC_AugAttr ?_
  revert KX; k_fill; intro KX
  w_strict (k_steps)
  · refine ba_iadd (by omega) (N.get (.tail _ (.tail _ (.head _)))) fun h2 hs hb2 => ?_
    have z := N (B, baObj row) (.tail _ (.tail _ (.head _)))
    have F2 := F.change hs z.2.1 z.2.2
    have N2 := News.setAt (own := [_, _]) N (fun p hp => hB p (List.mem_append_left X hp)) (fun p hp => hB p (.tail _ (.tail _ hp))) hs hb2
    refine set_buf (s := { s with heap := h2, toks := _ }) KX F2 N2 (fun p hp => ?_) hRR fun h3 tk3 F3 N3 => hQ _ _ _ F3 N3
    rcases List.mem_cons.mp hp with rfl | hp
    · exact (hB _ (.tail _ (.head _))).symm
    · exact hne p hp


set_option maxHeartbeats 0 in
theorem fe_S0 (KX : (hd.heap_39 w.params).In h₀) (T : Top hd.view_39 (looseW hd.view_39 [Str.ofString "StreamReader"]) mean mg mb h₀)
  (F : Fr h₀ Lg s.heap u) (H : Has u [(Str.ofString "self", .ref R)]) (N : News h₀ Lg s.heap (led R Rd B hb he tb te cn e row X)) (hz : row.length ≤ 1000) 
  (hQ : e = false → ∀ h' tk (t : Tok) u', Fr h₀ Lg h' u' → Has u' [(Str.ofString "self", .ref R)] → News h₀ Lg h' (led R Rd B hb he tb te cn e row X) → Q .next { s with heap := h', toks := tk }) (hE1 : e = true → ∀ hb' h' tk x u', Fr h₀ Lg hb' u' → News h₀ Lg hb' (led R Rd B hb he tb te cn e row X) → Heap.NewExc hb' h' x "EOFError" → E (.ref x) { s with heap := h', toks := tk })  :
  wpAny (model Challenge.rw_ev0028_01.row.prog w) (ktrTop dp un gd (Str.ofString "StreamReader.feed_eof") feScope Lg 72 (.ref 71) [] outer) (execs [feS0] (envOf (Str.ofString "StreamReader.feed_eof") feScope Lg 72 (.ref 71))) Q E s := by
  dsimp only [led] at N
  replace F := frHas F H
  dsimp only [chainTo] at F
  unfold feS0
  dsimp only
  revert KX; k_fill; intro KX
  w_strict (k_steps)
  · (refine' hE1 (by assumption) _ _ _ _ _ ?a ?b ?c; (case a => assumption); (case b => assumption); (case c => assumption))
  · (refine' hQ (by first | assumption | exact notTrue (by assumption)) _ _ 0 _ ?a ?b ?c; (case a => assumption); (case b => exact ⟨by with_unfolding_all exact rfl, trivial⟩); (case c => assumption))


set_option maxHeartbeats 0 in
theorem fe_S1 (KX : (hd.heap_39 w.params).In h₀) (T : Top hd.view_39 (looseW hd.view_39 [Str.ofString "StreamReader"]) mean mg mb h₀)
  (F : Fr h₀ Lg s.heap u) (H : Has u [(Str.ofString "self", .ref R)]) (N : News h₀ Lg s.heap (led R Rd B hb he tb te cn e row X)) (hz : row.length ≤ 1000) (hne : ∀ p ∈ (B, baObj row) :: X, p.1 ≠ Rd) (hRR : R ≠ Rd)
  (hQ : ∀ h' tk u', Fr h₀ Lg h' u' → News h₀ Lg h' (led R Rd B hb he tb te cn true row X) → Q .next { s with heap := h', toks := tk }) :
  wpAny (model Challenge.rw_ev0028_01.row.prog w) (ktrTop dp un gd (Str.ofString "StreamReader.feed_eof") feScope Lg 72 (.ref 71) [] outer) (execs [feS1] (envOf (Str.ofString "StreamReader.feed_eof") feScope Lg 72 (.ref 71))) Q E s := by
  dsimp only [led] at N
  replace F := frHas F H
  dsimp only [chainTo] at F
  unfold feS1
  dsimp only
  revert KX; k_fill; intro KX
  w_strict (k_steps)
  · exact set_eof KX (by assumption) (by assumption) hne hRR fun h2 tk2 F2 N2 => wpAny_execs_nil (hQ _ _ _ F2 N2)

end
end Mine
end
section
open PySem PySem.W PySem.Calls PyProof.Rows
open PySem.Sem (wp)
set_option maxRecDepth 100000
namespace Mine
/-- an exception that comes back to the frame of env -/
def Arrives (h₀ : Heap) (L : Addr) (m : Str → Option Value) (env : Env) (outer : List Env) (frs ld : List (Addr × Obj)) (x : Addr) (Xn : String) (h : Heap) : Prop :=
  ∃ (bs hb : Heap) (a0 : Value), Heap.FlyingW bs (env :: outer) x (.type Xn) a0 h ∧ h.Ns L m ∧ h₀.StaysIn bs ∧
    (∀ b o, hb.get? b = some o → (∀ vs, o.data ≠ .fields vs) → ∃ sl, h.get? b = some { o with slots := sl }) ∧
    (∀ p ∈ ld, bs.get? p.1 = some p.2 ∧ p.1 ≠ L ∧ h₀.get? p.1 = none) ∧ (∀ p ∈ frs, hb.get? p.1 = some p.2 ∧ p.1 ≠ L ∧ h₀.get? p.1 = none)

theorem arrive_of {h₀ hb h : Heap} {L Lx x : Addr} {m u' : Str → Option Value} {env : Env} {outer : List Env} {frs ld l' : List (Addr × Obj)} {Xn : String} {a0 : Value} {oL : Obj}
    (F' : Fr h₀ Lx hb u') (N' : News h₀ Lx hb l') (hL : (L, oL) ∈ l') (hLd : ∃ es ep, oL.data = .dict es ep) (ns : ∀ (h' : Heap) sl, h'.get? L = some { oL with slots := sl } → h'.Ns L m)
    (hfrs : ∀ p ∈ frs, p ∈ l') (hld : ∀ p ∈ ld, p ∈ l') (neL : ∀ p ∈ ld ++ frs, p.1 ≠ L) (nef : ∀ p ∈ ld, ∀ q ∈ frs, p.1 ≠ q.1)
    (hfl : Heap.FlyingW (TI.gone hb (Lx :: L :: frs.map (·.1))) (env :: outer) x (.type Xn) a0 h)
    (up : ∀ b o, hb.get? b = some o → (∀ vs, o.data ≠ .fields vs) → ∃ sl, h.get? b = some { o with slots := sl }) :
    Arrives h₀ L m env outer frs ld x Xn h := by
  have fresh : ∀ b ∈ Lx :: L :: frs.map (·.1), h₀.get? b = none := fun b hb' => by
    rcases List.mem_cons.mp hb' with rfl | hb'
    · exact Heap.get?_none_of_le F'.above
    rcases List.mem_cons.mp hb' with rfl | hb'
    · exact (N' _ hL).2.2
    · obtain ⟨p, hp, rfl⟩ := List.mem_map.mp hb'
      exact (N' p (hfrs p hp)).2.2
  refine ⟨_, hb, a0, hfl, ?_, fun b o e => ?_, up, fun p hp => ⟨?_, neL p (List.mem_append_left _ hp), (N' p (hld p hp)).2.2⟩, fun p hp => ⟨(N' p (hfrs p hp)).1, neL p (List.mem_append_right _ hp), (N' p (hfrs p hp)).2.2⟩⟩
  · obtain ⟨es, ep, hd⟩ := hLd
    obtain ⟨sl, hsl⟩ := up L oL (N' _ hL).1 fun vs q => by rw [hd] at q; cases q
    exact ns h sl hsl
  · refine (TI.gone_get fun hm => ?_).trans (F'.keep b o e)
    rw [fresh b hm] at e; cases e
  · refine (TI.gone_get fun hm => ?_).trans (N' p (hld p hp)).1
    rcases List.mem_cons.mp hm with q | hm
    · exact (N' p (hld p hp)).2.1 q
    rcases List.mem_cons.mp hm with q | hm
    · exact neL p (List.mem_append_left _ hp) q
    · obtain ⟨y, hy, q⟩ := List.mem_map.mp hm
      exact nef p hp y hy q.symm

theorem caught {M : Model} {A : Around} {E : Value → Shared → Prop} {s : Shared} {h₀ : Heap} {L x : Addr} {m : Str → Option Value} {env : Env} {outer : List Env} {frs ld : List (Addr × Obj)} {Xn : String} {Q : Shared → Prop}
    (hfr : A.frames = some (env :: outer)) (hf : env.frame = some L) (above : h₀.objs.size ≤ L) (Fs : TI.Frs outer frs) (ar : Arrives h₀ L m env outer frs ld x Xn s.heap)
    (k : ∀ h₂ frs', TI.SameUp frs frs' → TI.Frs outer frs' → TT.HeldNA h₀ L h₂ m x Xn (ld ++ frs') .none → Q { s with heap := h₂ }) :
    wpAny M A (noteFrame (.ref x) env) (fun _ s₂ => wpAny M A (setFlight (.ref x) none) (fun _ s₃ => Q s₃) E s₂) E s := by
  obtain ⟨bs, hb, a0, hfl, hns, keep0, up, hl, hfrs⟩ := ar
  refine wpAny_looks_onW hfr hf hfl fun h₁ hh up₁ => ?_
  obtain ⟨frs', SU, Fs', H⟩ := held_up (hb := hb) (m := m) (Heap.UpToSlots.ns up₁ hns) above keep0 (fun b o hbo hnf => by
    obtain ⟨sl, h1⟩ := up b o hbo hnf
    obtain ⟨sl', h2⟩ := up₁ b _ h1 hnf
    exact ⟨sl', h2⟩) hl Fs hfrs hh
  exact H.land fun h₂ H₂ => k h₂ frs' SU Fs' H₂
end Mine
end
section
open PySem PySem.W PySem.Calls PyProof.Rows
open PySem.Sem (wp)
set_option maxRecDepth 100000
namespace Mine
section
variable {M : Model} {s : Shared} {h₀ : Heap} {L Lf R Rd B a : Addr} {m u' : Str → Option Value} {env : Env} {outer : List Env} {hb he : Int} {tb te : Tok} {cn : Nat} {e : Bool} {row : List UInt8} {frs ld X : List (Addr × Obj)}
  {name : Str} {scope : Scope} {cd : Value} {hb' h' : Heap} {tk : Nat} {x : Addr} {cls : String} {oL : Obj} {A₁ : Around} {Q : Unit → Shared → Prop} {E : Value → Shared → Prop}
/-- a def's frame is left by an exception just made in it -/
theorem leave_raise (hA : A₁.frames = some (envOf name scope Lf a cd :: env :: outer)) (hk : scope.kind = .function) (hke : env.scope.kind = .function) (hfe : env.frame = some L) (Fs : TI.Frs outer frs) (hX : ∀ p ∈ frs, p ∈ X)
    (F' : Fr h₀ Lf hb' u') (N' : News h₀ Lf hb' (led R Rd B hb he tb te cn e row ((L, oL) :: X))) (hx : Heap.NewExc hb' h' x cls) (hLd : ∃ es ep, oL.data = .dict es ep) (ns : ∀ (h' : Heap) sl, h'.get? L = some { oL with slots := sl } → h'.Ns L m)
    (hld : ∀ p ∈ ld, p ∈ led R Rd B hb he tb te cn e row X) (neL : ∀ p ∈ led R Rd B hb he tb te cn e row X, p.1 ≠ L) (nef : ∀ p ∈ ld, ∀ q ∈ frs, p.1 ≠ q.1)
    (k : ∀ h'', Arrives h₀ L m env outer frs ld x cls h'' → Q () { s with heap := h'', toks := tk }) :
    wpAny M A₁ (leaving (envOf name scope Lf a cd) (.ref x)) Q E { s with heap := h', toks := tk } := by
  obtain ⟨es, ep, hd⟩ := id hLd
  have Fs' : TI.Frs (env :: outer) ((L, oL) :: frs) := ⟨by rw [hke]; decide, hfe, ⟨es, ep, hd⟩, Fs⟩
  obtain ⟨oe, vs, a0, h1, h2, h3, h4, h5, h6, h7, h8⟩ := raised_parts (name := name) (a := a) (cd := cd) (X := (L, oL) :: X) hk Fs' (fun p hp => by
    rcases List.mem_cons.mp hp with rfl | hp
    · exact .head _
    · exact .tail _ (hX p hp)) F' N' hx
  refine wpAny_leaving_firstW (s := { s with heap := h', toks := tk }) hA h1 rfl h2 h4 h5 h6 h7 h8 fun h'' hL => ?_
  obtain ⟨k1, ⟨_, _, k2⟩, k3, k4⟩ := hL
  have hfl : Heap.FlyingW (TI.gone hb' (Lf :: L :: frs.map (·.1))) (env :: outer) x (.type cls) a0 h'' := by
    rw [← h3]; exact ⟨k1, h5, k2, k3⟩
  have N2 := led_front N'
  have up : ∀ p ∈ led R Rd B hb he tb te cn e row X, p ∈ (L, oL) :: led R Rd B hb he tb te cn e row X := fun p hp => .tail _ hp
  refine k h'' (arrive_of F' N2 (.head _) hLd ns (fun p hp => up p (List.mem_append_right [_, _, _] (hX p hp))) (fun p hp => up p (hld p hp)) (fun p hp => ?_) nef hfl fun b o hbo hnf => k4 b o (hx.keeps _ _ hbo) hnf)
  rcases List.mem_append.mp hp with hp | hp
  · exact neL p (hld p hp)
  · exact neL p (List.mem_append_right [_, _, _] (hX p hp))
end

section
variable {w : World} {s : Shared} {h₀ : Heap} {L R Rd B dp un a : Nat} {cn : Str} {cs : Scope} {ccd : Value} {cl : List (Str × Addr)} {gd : Option (List Code)} {outer : List Env} {m mg mb : Str → Option Value} {mean : ExcName → Option Value} {Q E : Value → Shared → Prop}
  {hb he : Int} {tb te : Tok} {cn' : Nat} {e : Bool} {row d : List UInt8} {td : Tok} {frs ld X : List (Addr × Obj)}
set_option maxHeartbeats 0 in
theorem feed_ok (KX : (hd.heap_39 w.params).In h₀) (T : Top hd.view_39 (looseW hd.view_39 [Str.ofString "StreamReader"]) mean mg mb h₀)
    (F : Fr h₀ L s.heap m) (N : News h₀ L s.heap (led R Rd B hb he tb te cn' false row X)) (hz : row.length + d.length ≤ 1000) (hB : notB R Rd B hb he tb te cn' false X) (hne : ∀ p ∈ X, p.1 ≠ Rd) (hRR : R ≠ Rd) (hdp : dp + 3 < recursionLimit)
    (hQ : ∀ h' tk, Fr h₀ L h' m → News h₀ L h' (led R Rd B hb he tb te cn' false (row ++ d) X) → Q .none { s with heap := h', toks := tk }) :
    wpC (model Challenge.rw_ev0028_01.row.prog w) (ktrTop dp un gd cn cs L a ccd cl outer) (call (.ref 65) [.ref R, .bytes d.toArray td]) Q E s := by
  have KX₀ := KX
  revert KX; k_fill; intro KX
  refine wpC_call ?_
  refine' callC_u (binds := [(Str.ofString "self", .ref R), (Str.ofString "data", .bytes d.toArray td)]) ?F ?N ?X ?lim ?ho ?hcd ?room ?bind ?loc ?_ ?cell ?co ?gen ?k
  case F => exact F
  case N => exact N
  case X => exact KX
  case lim => exact T.nolimit
  case ho => k_is
  case hcd => k_is
  case room => show dp < _; omega
  case bind => exact BindsTo.of_eq rfl
  case loc => exact locs rfl
  case co => exact rfl
  case gen => exact rfl
  case k => exact rfl
  case cell => decide
  intro oL h₁ hL hLd F₁ N₁ ns lt
  have hLR : L ≠ Rd := (N (Rd, _) (.tail _ (.head _))).2.1.symm
  refine wpC_walk (fd_S0 (s := { s with heap := h₁, toks := _ }) KX₀ T F₁ ⟨by with_unfolding_all exact rfl, by with_unfolding_all exact rfl, trivial⟩ (led_back N₁) (by omega) (fun _ h2 tk2 _ u2 F2 H2 N2 => ?_) (fun he1 => by cases he1))
  refine wpC_cons (fd_S1 (s := { s with heap := h2, toks := tk2 }) KX₀ T F2 H2 N2 (by omega) hz (notB_L N hB) (fun p hp => ?_) hRR fun h3 tk3 u3 F3 N3 => ?_)
  · rcases List.mem_cons.mp hp with rfl | hp
    · exact hLR
    · exact hne p hp
  refine wpC_execs_nil ?_
  obtain ⟨F4, N4⟩ := back_to (sl := oL.slots) (news := led R Rd B hb he tb te cn' false (row ++ d) X) F ns F3 (led_front N3) (.head _) (fun p hp => .tail _ hp) (led_ne N)
  exact hQ h3 tk3 F4 N4
set_option maxHeartbeats 0 in
theorem feed_err (KX : (hd.heap_39 w.params).In h₀) (T : Top hd.view_39 (looseW hd.view_39 [Str.ofString "StreamReader"]) mean mg mb h₀) (hk : cs.kind = .function)
    (F : Fr h₀ L s.heap m) (N : News h₀ L s.heap (led R Rd B hb he tb te cn' true row X)) (hz : row.length ≤ 1000) (hdp : dp + 3 < recursionLimit)
    (Fs : TI.Frs outer frs) (hX : ∀ p ∈ frs, p ∈ X) (hld : ∀ p ∈ ld, p ∈ led R Rd B hb he tb te cn' true row X) (nef : ∀ p ∈ ld, ∀ q ∈ frs, p.1 ≠ q.1)
    (hE : ∀ h' tk x, Arrives h₀ L m (envX cn cs L a ccd cl) outer frs ld x "EOFError" h' → E (.ref x) { s with heap := h', toks := tk }) :
    wpC (model Challenge.rw_ev0028_01.row.prog w) (ktrTop dp un gd cn cs L a ccd cl outer) (call (.ref 65) [.ref R, .bytes d.toArray td]) Q E s := by
  have KX₀ := KX
  revert KX; k_fill; intro KX
  refine wpC_call ?_
  refine' callC_u (binds := [(Str.ofString "self", .ref R), (Str.ofString "data", .bytes d.toArray td)]) ?F ?N ?X ?lim ?ho ?hcd ?room ?bind ?loc ?_ ?cell ?co ?gen ?k
  case F => exact F
  case N => exact N
  case X => exact KX
  case lim => exact T.nolimit
  case ho => k_is
  case hcd => k_is
  case room => show dp < _; omega
  case bind => exact BindsTo.of_eq rfl
  case loc => exact locs rfl
  case co => exact rfl
  case gen => exact rfl
  case k => exact rfl
  case cell => decide
  intro oL h₁ hL hLd F₁ N₁ ns lt
  refine wpC_walk (fd_S0 (s := { s with heap := h₁, toks := _ }) KX₀ T F₁ ⟨by with_unfolding_all exact rfl, by with_unfolding_all exact rfl, trivial⟩ (led_back N₁) hz (fun he0 => by cases he0) (fun _ hb' h2 tk2 x u2 F2 N2 hx2 => ?_))
  exact leave_raise (frs := frs) (ld := ld) (L := L) (m := m) (env := envX cn cs L a ccd cl) (outer := outer) rfl rfl hk rfl Fs hX F2 N2 hx2 hLd ns hld (led_ne N) nef fun h'' ar => hE _ _ _ ar
set_option maxHeartbeats 0 in
theorem end_ok (KX : (hd.heap_39 w.params).In h₀) (T : Top hd.view_39 (looseW hd.view_39 [Str.ofString "StreamReader"]) mean mg mb h₀)
    (F : Fr h₀ L s.heap m) (N : News h₀ L s.heap (led R Rd B hb he tb te cn' false row X)) (hz : row.length ≤ 1000) (hB : notB R Rd B hb he tb te cn' false X) (hne : ∀ p ∈ X, p.1 ≠ Rd) (hRR : R ≠ Rd) (hdp : dp + 3 < recursionLimit)
    (hQ : ∀ h' tk, Fr h₀ L h' m → News h₀ L h' (led R Rd B hb he tb te cn' true row X) → Q .none { s with heap := h', toks := tk }) :
    wpC (model Challenge.rw_ev0028_01.row.prog w) (ktrTop dp un gd cn cs L a ccd cl outer) (call (.ref 72) [.ref R]) Q E s := by
  have KX₀ := KX
  revert KX; k_fill; intro KX
  refine wpC_call ?_
  refine' callC_u (binds := [(Str.ofString "self", .ref R)]) ?F ?N ?X ?lim ?ho ?hcd ?room ?bind ?loc ?_ ?cell ?co ?gen ?k
  case F => exact F
  case N => exact N
  case X => exact KX
  case lim => exact T.nolimit
  case ho => k_is
  case hcd => k_is
  case room => show dp < _; omega
  case bind => exact BindsTo.of_eq rfl
  case loc => exact locs rfl
  case co => exact rfl
  case gen => exact rfl
  case k => exact rfl
  case cell => decide
  intro oL h₁ hL hLd F₁ N₁ ns lt
  have hLR : L ≠ Rd := (N (Rd, _) (.tail _ (.head _))).2.1.symm
  refine wpC_walk (fe_S0 (s := { s with heap := h₁, toks := _ }) KX₀ T F₁ ⟨by with_unfolding_all exact rfl, trivial⟩ (led_back N₁) hz (fun _ h2 tk2 _ u2 F2 H2 N2 => ?_) (fun he1 => by cases he1))
  refine wpC_walk (fe_S1 (s := { s with heap := h2, toks := tk2 }) KX₀ T F2 H2 N2 hz (fun p hp => ?_) hRR fun h3 tk3 u3 F3 N3 => ?_)
  · rcases List.mem_cons.mp hp with rfl | hp
    · exact (hB _ (.tail _ (.head _))).symm
    rcases List.mem_cons.mp hp with rfl | hp
    · exact hLR
    · exact hne p hp
  refine wpC_execs_nil ?_
  obtain ⟨F4, N4⟩ := back_to (sl := oL.slots) (news := led R Rd B hb he tb te cn' true row X) F ns F3 (led_front N3) (.head _) (fun p hp => .tail _ hp) (led_ne N)
  exact hQ h3 tk3 F4 N4
set_option maxHeartbeats 0 in
theorem end_err (KX : (hd.heap_39 w.params).In h₀) (T : Top hd.view_39 (looseW hd.view_39 [Str.ofString "StreamReader"]) mean mg mb h₀) (hk : cs.kind = .function)
    (F : Fr h₀ L s.heap m) (N : News h₀ L s.heap (led R Rd B hb he tb te cn' true row X)) (hz : row.length ≤ 1000) (hdp : dp + 3 < recursionLimit)
    (Fs : TI.Frs outer frs) (hX : ∀ p ∈ frs, p ∈ X) (hld : ∀ p ∈ ld, p ∈ led R Rd B hb he tb te cn' true row X) (nef : ∀ p ∈ ld, ∀ q ∈ frs, p.1 ≠ q.1)
    (hE : ∀ h' tk x, Arrives h₀ L m (envX cn cs L a ccd cl) outer frs ld x "EOFError" h' → E (.ref x) { s with heap := h', toks := tk }) :
    wpC (model Challenge.rw_ev0028_01.row.prog w) (ktrTop dp un gd cn cs L a ccd cl outer) (call (.ref 72) [.ref R]) Q E s := by
  have KX₀ := KX
  revert KX; k_fill; intro KX
  refine wpC_call ?_
  refine' callC_u (binds := [(Str.ofString "self", .ref R)]) ?F ?N ?X ?lim ?ho ?hcd ?room ?bind ?loc ?_ ?cell ?co ?gen ?k
  case F => exact F
  case N => exact N
  case X => exact KX
  case lim => exact T.nolimit
  case ho => k_is
  case hcd => k_is
  case room => show dp < _; omega
  case bind => exact BindsTo.of_eq rfl
  case loc => exact locs rfl
  case co => exact rfl
  case gen => exact rfl
  case k => exact rfl
  case cell => decide
  intro oL h₁ hL hLd F₁ N₁ ns lt
  refine wpC_walk (fe_S0 (s := { s with heap := h₁, toks := _ }) KX₀ T F₁ ⟨by with_unfolding_all exact rfl, trivial⟩ (led_back N₁) hz (fun he0 => by cases he0) (fun _ hb' h2 tk2 x u2 F2 N2 hx2 => ?_))
  exact leave_raise (frs := frs) (ld := ld) (L := L) (m := m) (env := envX cn cs L a ccd cl) (outer := outer) rfl rfl hk rfl Fs hX F2 N2 hx2 hLd ns hld (led_ne N) nef fun h'' ar => hE _ _ _ ar
end
end Mine
end
section
open PySem PySem.W PySem.Calls PyProof.Rows
set_option maxRecDepth 100000
namespace Mine
local macro_rules | `(tactic| walk_at "getMethod ref") => `(tactic| (k_here; (with_reducible show wpAny _ _ (getMethod (Value.ref _) (PySem.Str.ofString "find") _) _ _ _); k_dflt (refine' ba_getMethod_find (News.get ?k1 ?k2) ?_; (case k1 => k_asm); (case k2 => k_mem); k_whole)))
local macro_rules | `(tactic| walk_at "call builtin:bytearray.find") => `(tactic| (k_here; k_dflt (refine' ba_find (News.get ?k1 ?k2) ?k3 ?_; (case k1 => k_asm); (case k2 => k_mem); (case k3 => first | assumption | omega); k_whole)))
local macro_rules | `(tactic| walk_at "call builtin:len") => `(tactic| (k_here; (with_reducible show wpAny _ _ (call (Value.builtin "len") [Value.ref _]) _ _ _); k_dflt (refine' ba_len (News.get ?k1 ?k2) ?k3 ?_; (case k1 => k_asm); (case k2 => k_mem); (case k3 => first | assumption | omega); k_whole)))
local macro_rules | `(tactic| walk_at "subscriptTail") => `(tactic| (k_here; (with_reducible show wpAny _ _ (subscriptTail _ (Expr.Slice _ _ _ _) (Value.ref _) (Value.ref _)) _ _ _); k_dflt (refine' ba_cut_K ?F ?N ?m ?c ?p ?z ?_ ?sub; (case F => k_asm); (case N => k_asm); (case m => k_mem); (case c => assumption); (case p => first | exact IsPart.none | constructor); (case z => omega); (case sub => with_unfolding_all rfl)); intro _ _ _ _ _ _))
local macro_rules | `(tactic| walk_at "call type:EOFError") => `(tactic| (refine raise3 .eof ?_; intro _ _ _))
local macro_rules | `(tactic| walk_at "joinParts") => `(tactic| (k_here; (first | (with_reducible show wpAny _ _ (joinParts _ []) _ _ _) | (with_reducible show wpAny _ _ (joinParts _ (evalEach [] _)) _ _ _)); k_dflt (refine' joinParts_nil ?_ ?hz; (case hz => first | with_reducible exact readText (by omega) (by omega) (by omega) (by omega) | with_reducible exact eofText (by omega) | with_reducible exact eofText2 (by omega) (by omega) (by omega)))))
local macro_rules | `(tactic| walk_at "truthy ref") => `(tactic| (k_here; k_dflt (refine' ba_truthy (News.get ?k1 ?k2) ?k3 ?_; (case k1 => k_asm); (case k2 => k_mem); (case k3 => first | assumption | omega); k_whole)))
section
variable {w : World} {s : Shared} {h₀ : Heap} {Lg R Rd B dp un : Nat} {gd : Option (List Code)} {outer : List Env} {u mg mb : Str → Option Value} {mean : ExcName → Option Value} {Q : Flow → Shared → Prop} {E : Value → Shared → Prop}
  {lim : Int} {p : Nat} {n : Int} {tm tp tn tb te : Tok} {hb he : Int} {cn : Nat} {e : Bool} {row r : List UInt8} {cls : String} {X : List (Addr × Obj)}

set_option maxHeartbeats 0 in
theorem fed_T0  {d : List UInt8} (KX : (hd.heap_39 w.params).In h₀) (T : Top hd.view_39 (looseW hd.view_39 [Str.ofString "StreamReader"]) mean mg mb h₀)
  (F : Fr h₀ Lg s.heap u) (H : Has u [(Str.ofString "reader", .ref R), (Str.ofString "piece", .bytes d.toArray tm)]) (N : News h₀ Lg s.heap (led R Rd B hb he tb te cn e row X)) (hz : row.length ≤ 1000) 
  (hQ : ∀ tk, wpC (model Challenge.rw_ev0028_01.row.prog w) (ktrTop dp un gd (Str.ofString "_law_fed") fedScope Lg 124 (.ref 123) [] outer) (call (.ref 65) [.ref R, .bytes d.toArray tm]) (fun v s' => match v with | .ref _ => False | _ => Q .next s') E { s with toks := tk }) :
  wpC (model Challenge.rw_ev0028_01.row.prog w) (ktrTop dp un gd (Str.ofString "_law_fed") fedScope Lg 124 (.ref 123) [] outer) (exec fedT0 (envOf (Str.ofString "_law_fed") fedScope Lg 124 (.ref 123))) Q E s := by
  dsimp only [led] at N
  replace F := frHas F H
  dsimp only [chainTo] at F
  unfold fedT0
  dsimp only
  refine wpC_Expr (wpC_methodCall ?_)
  revert KX; k_fill; intro KX
  w_strict (k_steps)
  · dsimp only
    refine wpC_callWith_K (K := hd.heap_39 w.params) (h₀ := h₀) (by k_is) ?_
    w_strict (k_steps)
    · exact hQ _


set_option maxHeartbeats 0 in
theorem fed_T1 {d : List UInt8} (KX : (hd.heap_39 w.params).In h₀) (T : Top hd.view_39 (looseW hd.view_39 [Str.ofString "StreamReader"]) mean mg mb h₀)
  (F : Fr h₀ Lg s.heap u) (H : Has u [(Str.ofString "reader", .ref R), (Str.ofString "piece", .bytes d.toArray tm)]) (N : News h₀ Lg s.heap (led R Rd B hb he tb te cn e row X)) (hz : row.length ≤ 1000) 
  (hQ : Q (.ret (.bool true)) s) :
  wpAny (model Challenge.rw_ev0028_01.row.prog w) (ktrTop dp un gd (Str.ofString "_law_fed") fedScope Lg 124 (.ref 123) [] outer) (execs [fedT1] (envOf (Str.ofString "_law_fed") fedScope Lg 124 (.ref 123))) Q E s := by
  dsimp only [led] at N
  replace F := frHas F H
  dsimp only [chainTo] at F
  unfold fedT1
  dsimp only
  revert KX; k_fill; intro KX
  w_strict (k_steps)
  · exact hQ


set_option maxHeartbeats 0 in
theorem end_T0  (KX : (hd.heap_39 w.params).In h₀) (T : Top hd.view_39 (looseW hd.view_39 [Str.ofString "StreamReader"]) mean mg mb h₀)
  (F : Fr h₀ Lg s.heap u) (H : Has u [(Str.ofString "reader", .ref R)]) (N : News h₀ Lg s.heap (led R Rd B hb he tb te cn e row X)) (hz : row.length ≤ 1000) 
  (hQ : ∀ tk, wpC (model Challenge.rw_ev0028_01.row.prog w) (ktrTop dp un gd (Str.ofString "_law_ended") endScope Lg 131 (.ref 130) [] outer) (call (.ref 72) [.ref R]) (fun v s' => match v with | .ref _ => False | _ => Q .next s') E { s with toks := tk }) :
  wpC (model Challenge.rw_ev0028_01.row.prog w) (ktrTop dp un gd (Str.ofString "_law_ended") endScope Lg 131 (.ref 130) [] outer) (exec endT0 (envOf (Str.ofString "_law_ended") endScope Lg 131 (.ref 130))) Q E s := by
  dsimp only [led] at N
  replace F := frHas F H
  dsimp only [chainTo] at F
  unfold endT0
  dsimp only
  refine wpC_Expr (wpC_methodCall ?_)
  revert KX; k_fill; intro KX
  w_strict (k_steps)
  · dsimp only
    refine wpC_callWith_K0 (K := hd.heap_39 w.params) (KX.keeps F.keep) (by k_is) ?_
    exact hQ _


set_option maxHeartbeats 0 in
theorem end_T1 (KX : (hd.heap_39 w.params).In h₀) (T : Top hd.view_39 (looseW hd.view_39 [Str.ofString "StreamReader"]) mean mg mb h₀)
  (F : Fr h₀ Lg s.heap u) (H : Has u [(Str.ofString "reader", .ref R)]) (N : News h₀ Lg s.heap (led R Rd B hb he tb te cn e row X)) (hz : row.length ≤ 1000) 
  (hQ : Q (.ret (.bool true)) s) :
  wpAny (model Challenge.rw_ev0028_01.row.prog w) (ktrTop dp un gd (Str.ofString "_law_ended") endScope Lg 131 (.ref 130) [] outer) (execs [endT1] (envOf (Str.ofString "_law_ended") endScope Lg 131 (.ref 130))) Q E s := by
  dsimp only [led] at N
  replace F := frHas F H
  dsimp only [chainTo] at F
  unfold endT1
  dsimp only
  revert KX; k_fill; intro KX
  w_strict (k_steps)
  · exact hQ


end
theorem led_mem {R Rd B : Addr} {hb he : Int} {tb te : Tok} {cn : Nat} {e : Bool} {row : List UInt8} {X : List (Addr × Obj)} {D p : Addr × Obj} (h : p ∈ led R Rd B hb he tb te cn e row X) : p ∈ led R Rd B hb he tb te cn e row (D :: X) := by
  rcases List.mem_cons.mp h with rfl | h
  · exact .head _
  rcases List.mem_cons.mp h with rfl | h
  · exact .tail _ (.head _)
  rcases List.mem_cons.mp h with rfl | h
  · exact .tail _ (.tail _ (.head _))
  · exact .tail _ (.tail _ (.tail _ (.tail _ h)))
theorem wpAny_rule' {M : Model} {A : Around} {E : Value → Shared → Prop} {s : Shared} {env : Env} {b : Bool} {k : Nat} {p : Pos} {Q : Value → Shared → Prop} (h : Q (.bool b) s) : wpAny M A (eval (.Constant (.bool b) k p) env) Q E s := by
  rw [eval_Constant]; exact wpAny_of_eq rfl h
section
variable {w : World} {s : Shared} {h₀ : Heap} {L R Rd B dp un a : Nat} {cn : Str} {cs : Scope} {ccd : Value} {cl : List (Str × Addr)} {gd : Option (List Code)} {m mg mb : Str → Option Value} {mean : ExcName → Option Value} {Q E : Value → Shared → Prop}
  {hb he : Int} {tb te : Tok} {cn' : Nat} {e : Bool} {row : List UInt8} {X : List (Addr × Obj)}

set_option maxHeartbeats 0 in
theorem fed_C {d : List UInt8} {td : Tok} (KX : (hd.heap_39 w.params).In h₀) (T : Top hd.view_39 (looseW hd.view_39 [Str.ofString "StreamReader"]) mean mg mb h₀) (hk : cs.kind = .function)
    (F : Fr h₀ L s.heap m) (N : News h₀ L s.heap (led R Rd B hb he tb te cn' e row X)) (hz : row.length + d.length ≤ 1000) (hB : notB R Rd B hb he tb te cn' e X) (hne : ∀ p ∈ X, p.1 ≠ Rd) (hRR : R ≠ Rd) (hdp : dp + 6 < recursionLimit)
    (hQ : ∀ h' tk, Fr h₀ L h' m → News h₀ L h' (led R Rd B hb he tb te cn' e (if e = true then row else row ++ d) X) → Q (.bool (!e)) { s with heap := h', toks := tk }) :
    wpC (model Challenge.rw_ev0028_01.row.prog w) (ktrTop dp un gd cn cs L a ccd cl []) (call (.ref 124) [.ref R, .bytes d.toArray td]) Q E s := by
  have KX₀ := KX
  revert KX; k_fill; intro KX
  refine wpC_call ?_
  refine' callC_u (binds := [(Str.ofString "reader", .ref R), (Str.ofString "piece", .bytes d.toArray td)]) ?F ?N ?X ?lim ?ho ?hcd ?room ?bind ?loc ?_ ?cell ?co ?gen ?k
  case F => exact F
  case N => exact N
  case X => exact KX
  case lim => exact T.nolimit
  case ho => k_is
  case hcd => k_is
  case room => show dp < _; omega
  case bind => exact BindsTo.of_eq rfl
  case loc => exact locs rfl
  case co => exact rfl
  case gen => exact rfl
  case k => exact rfl
  case cell => decide
  intro oL h₁ hL hLd F₁ N₁ ns lt
  have hLR : L ≠ Rd := (N (Rd, _) (.tail _ (.head _))).2.1.symm
  have H₁ := (show Has (fun y => List.lookup y ([(Str.ofString "reader", .ref R), (Str.ofString "piece", .bytes d.toArray td)] : List (Str × Value)).reverse) [(Str.ofString "reader", .ref R), (Str.ofString "piece", .bytes d.toArray td)] from ⟨by with_unfolding_all exact rfl, by with_unfolding_all exact rfl, trivial⟩)
  have Fs : TI.Frs [envX cn cs L a ccd cl] [(L, oL)] := ⟨by show cs.kind ≠ .module; rw [hk]; decide, rfl, hLd, trivial⟩
  refine wpC_cons (wpC_Try ?_)
  cases e with
  | false =>
    refine wpC_cons (fed_T0 (s := { s with heap := h₁, toks := _ }) KX₀ T F₁ H₁ (led_back N₁) (by omega) fun tk => ?_)
    refine feed_ok (s := { s with heap := h₁, toks := tk }) KX₀ T F₁ (led_back N₁) hz (notB_L N hB) (fun p hp => ?_) hRR (by have : (ktrTop dp un gd cn cs L a ccd cl []).depth = dp := rfl; omega) fun h2 tk2 F2 N2 => ?_
    · rcases List.mem_cons.mp hp with rfl | hp
      · exact hLR
      · exact hne p hp
    refine wpC_walk (fed_T1 (s := { s with heap := h2, toks := tk2 }) KX₀ T F2 H₁ N2 (by simp; omega) ?_)
    obtain ⟨F4, N4⟩ := back_to (sl := oL.slots) (news := led R Rd B hb he tb te cn' false (row ++ d) X) F ns F2 (led_front N2) (.head _) (fun p hp => .tail _ hp) (led_ne N)
    exact hQ h2 tk2 F4 N4
  | true =>
    refine wpC_cons (fed_T0 (s := { s with heap := h₁, toks := _ }) KX₀ T F₁ H₁ (led_back N₁) (by omega) fun tk => ?_)
    refine feed_err (s := { s with heap := h₁, toks := tk }) (outer := [envX cn cs L a ccd cl]) (frs := [(L, oL)]) (ld := led R Rd B hb he tb te cn' true row X) KX₀ T rfl F₁ (led_back N₁) (by omega) (by have : (ktrTop dp un gd cn cs L a ccd cl []).depth = dp := rfl; omega) Fs (fun p hp => (List.mem_singleton.mp hp) ▸ .head _) (fun p hp => led_mem hp) (fun p hp q hq => (List.mem_singleton.mp hq) ▸ led_ne N p hp) fun h2 tk2 x ar => ?_
    refine caught (s := { s with heap := h2, toks := tk2 }) (outer := [envX cn cs L a ccd cl]) (frs := [(L, oL)]) ?_ ?_ F₁.above Fs ar fun h₂ frs' SU Fs' H => ?_
    · exact rfl
    · exact rfl
    refine TT.clause_hitTN (A₀ := ktrTop dp un gd cn cs L a ccd cl []) H T (k := fun h3 F3 N3 => ?_)
    refine wpAny_execs_cons (wpAny_Return_some (wpAny_rule' ?_))
    cases frs' with
    | nil => exact SU.elim
    | cons q qs =>
      obtain ⟨e1, ⟨sl, e2⟩, _⟩ := SU
      obtain ⟨q1, q2⟩ := q
      obtain rfl : q1 = L := e1
      obtain rfl : q2 = { oL with slots := sl } := e2
      obtain ⟨F4, N4⟩ := back_to (sl := sl) (news := led R Rd B hb he tb te cn' true row X) F ns F3 N3 (List.mem_append_right _ (.head _)) (fun p hp => List.mem_append_left _ hp) (led_ne N)
      exact hQ h3 tk2 F4 N4

set_option maxHeartbeats 0 in
theorem ended_C  (KX : (hd.heap_39 w.params).In h₀) (T : Top hd.view_39 (looseW hd.view_39 [Str.ofString "StreamReader"]) mean mg mb h₀) (hk : cs.kind = .function)
    (F : Fr h₀ L s.heap m) (N : News h₀ L s.heap (led R Rd B hb he tb te cn' e row X)) (hz : row.length ≤ 1000) (hB : notB R Rd B hb he tb te cn' e X) (hne : ∀ p ∈ X, p.1 ≠ Rd) (hRR : R ≠ Rd) (hdp : dp + 6 < recursionLimit)
    (hQ : ∀ h' tk, Fr h₀ L h' m → News h₀ L h' (led R Rd B hb he tb te cn' true row X) → Q (.bool (!e)) { s with heap := h', toks := tk }) :
    wpC (model Challenge.rw_ev0028_01.row.prog w) (ktrTop dp un gd cn cs L a ccd cl []) (call (.ref 131) [.ref R]) Q E s := by
  have KX₀ := KX
  revert KX; k_fill; intro KX
  refine wpC_call ?_
  refine' callC_u (binds := [(Str.ofString "reader", .ref R)]) ?F ?N ?X ?lim ?ho ?hcd ?room ?bind ?loc ?_ ?cell ?co ?gen ?k
  case F => exact F
  case N => exact N
  case X => exact KX
  case lim => exact T.nolimit
  case ho => k_is
  case hcd => k_is
  case room => show dp < _; omega
  case bind => exact BindsTo.of_eq rfl
  case loc => exact locs rfl
  case co => exact rfl
  case gen => exact rfl
  case k => exact rfl
  case cell => decide
  intro oL h₁ hL hLd F₁ N₁ ns lt
  have hLR : L ≠ Rd := (N (Rd, _) (.tail _ (.head _))).2.1.symm
  have H₁ := (show Has (fun y => List.lookup y ([(Str.ofString "reader", .ref R)] : List (Str × Value)).reverse) [(Str.ofString "reader", .ref R)] from ⟨by with_unfolding_all exact rfl, trivial⟩)
  have Fs : TI.Frs [envX cn cs L a ccd cl] [(L, oL)] := ⟨by show cs.kind ≠ .module; rw [hk]; decide, rfl, hLd, trivial⟩
  refine wpC_cons (wpC_Try ?_)
  cases e with
  | false =>
    refine wpC_cons (end_T0 (s := { s with heap := h₁, toks := _ }) KX₀ T F₁ H₁ (led_back N₁) (by omega) fun tk => ?_)
    refine end_ok (s := { s with heap := h₁, toks := tk }) KX₀ T F₁ (led_back N₁) hz (notB_L N hB) (fun p hp => ?_) hRR (by have : (ktrTop dp un gd cn cs L a ccd cl []).depth = dp := rfl; omega) fun h2 tk2 F2 N2 => ?_
    · rcases List.mem_cons.mp hp with rfl | hp
      · exact hLR
      · exact hne p hp
    refine wpC_walk (end_T1 (s := { s with heap := h2, toks := tk2 }) KX₀ T F2 H₁ N2 (by omega) ?_)
    obtain ⟨F4, N4⟩ := back_to (sl := oL.slots) (news := led R Rd B hb he tb te cn' true row X) F ns F2 (led_front N2) (.head _) (fun p hp => .tail _ hp) (led_ne N)
    exact hQ h2 tk2 F4 N4
  | true =>
    refine wpC_cons (end_T0 (s := { s with heap := h₁, toks := _ }) KX₀ T F₁ H₁ (led_back N₁) (by omega) fun tk => ?_)
    refine end_err (s := { s with heap := h₁, toks := tk }) (outer := [envX cn cs L a ccd cl]) (frs := [(L, oL)]) (ld := led R Rd B hb he tb te cn' true row X) KX₀ T rfl F₁ (led_back N₁) (by omega) (by have : (ktrTop dp un gd cn cs L a ccd cl []).depth = dp := rfl; omega) Fs (fun p hp => (List.mem_singleton.mp hp) ▸ .head _) (fun p hp => led_mem hp) (fun p hp q hq => (List.mem_singleton.mp hq) ▸ led_ne N p hp) fun h2 tk2 x ar => ?_
    refine caught (s := { s with heap := h2, toks := tk2 }) (outer := [envX cn cs L a ccd cl]) (frs := [(L, oL)]) ?_ ?_ F₁.above Fs ar fun h₂ frs' SU Fs' H => ?_
    · exact rfl
    · exact rfl
    refine TT.clause_hitTN (A₀ := ktrTop dp un gd cn cs L a ccd cl []) H T (k := fun h3 F3 N3 => ?_)
    refine wpAny_execs_cons (wpAny_Return_some (wpAny_rule' ?_))
    cases frs' with
    | nil => exact SU.elim
    | cons q qs =>
      obtain ⟨e1, ⟨sl, e2⟩, _⟩ := SU
      obtain ⟨q1, q2⟩ := q
      obtain rfl : q1 = L := e1
      obtain rfl : q2 = { oL with slots := sl } := e2
      obtain ⟨F4, N4⟩ := back_to (sl := sl) (news := led R Rd B hb he tb te cn' true row X) F ns F3 N3 (List.mem_append_right _ (.head _)) (fun p hp => List.mem_append_left _ hp) (led_ne N)
      exact hQ h3 tk2 F4 N4
end
end Mine
end
section
open PySem PySem.W PySem.Calls PyProof.Rows
open PySem.Sem (wp)
set_option maxRecDepth 100000
namespace Mine
/-! isinstance(b, bool) of a bytearray b -/
theorem ba_slot_ga : Slot "bytearray" "__getattribute__" "bytearray.__getattribute__" :=
  .of (owner := "bytearray") (n := "__getattribute__") (by rw [typeLookup_type, builtinLookup_eq_fast]; kernel_rfl) (by decide +kernel) (by decide +kernel) (by decide +kernel)
    (by first | exact .inl (by decide +kernel) | exact .inr (by decide +kernel)) (by rw [isSubtype_type]; kernel_rfl)
theorem ba_args_ga (a b : Value) : argsOk "bytearray.__getattribute__" ⟨[a, b], []⟩ := by unfold argsOk; kernel_rfl
theorem ba_entry_ga : entryFor table "bytearray.__getattribute__" = some Builtin.«object.__getattribute__» :=
  entryFor_alias (id' := "object.__getattribute__") (by kernel_rfl) (by first | rfl | decide +kernel) (by decide +kernel) (by kernel_rfl)
theorem ba_class : typeLookup (.type "bytearray") "__class__" = pure (some (.builtin "object.__class__")) := by rw [typeLookup_type, builtinLookup_eq_fast]; kernel_rfl
theorem ba_sub_owner : isSubtype (.type "bytearray") (.type (".".intercalate ("object.__class__".cutAt '.').dropLast)) = pure true := by
  rw [PySem.F.owner_object_class, isSubtype_type]; kernel_rfl
section
variable {prog : Program} {w : World} {A : Around} {E : Value → Shared → Prop} {h : Heap} {g : Array GenState} {d : Drawn} {t : Nat} {os : OsState} {a : Addr} {o : Obj}
theorem ba_class_get {R : Result → Shared → Prop} (hx : h.get? a = some o) (hc : o.cls = .type "bytearray") (hq : R (.ok (.ret (.type "bytearray"))) ⟨h, g, d, t, os⟩) :
    codeAny (model prog w) A (.call (.builtin "getset_descriptor.__get__") ⟨[.builtin "object.__class__", .ref a, .type "bytearray"], []⟩) R ⟨h, g, d, t, os⟩ := by
  have hT : (⟨h, g, d, t, os⟩ : Shared).TypeIs (.ref a) "bytearray" := ⟨_, hx, hc⟩
  have hT5 : (⟨h, g, d, t, os⟩ : Shared).TypeIs (.builtin "object.__class__") "getset_descriptor" := PySem.F.typeOf_object_class
  have f8 := ba_sub_owner
  refine codeAny_call_builtin PySem.F.slot_gs_get.plain PySem.F.entry_gs_get (PySem.F.slot_gs_get.check _ _ _ _ _ _ _ _ hT5 (PySem.F.args_gs_get _ _ _) ?_)
  repeat (any_goals (first | assumption | wp_step))
  refine ⟨Code.quiet_builtin _ (by decide +kernel), codeAny_builtin PySem.F.entry_object_class ?_⟩
  repeat (any_goals (first | assumption | wp_step))
theorem ba_class_entry {tk : Tok} {Q : Fin → Shared → Prop} (hx : h.get? a = some o) (hc : o.cls = .type "bytearray") (hq : Q (.done (.ret (.type "bytearray"))) ⟨h, g, d, t, os⟩) :
    wpAny (model prog w) A (Builtin.«object.__getattribute__» ⟨[.ref a, .str "__class__" tk], []⟩) Q E ⟨h, g, d, t, os⟩ := by
  have hT : (⟨h, g, d, t, os⟩ : Shared).TypeIs (.ref a) "bytearray" := ⟨_, hx, hc⟩
  have hT5 : (⟨h, g, d, t, os⟩ : Shared).TypeIs (.builtin "object.__class__") "getset_descriptor" := PySem.F.typeOf_object_class
  have f4 := ba_class
  have f5 := PySem.F.typeOf_object_class
  have f6 := PySem.F.slot_gs_get.lookup
  have f7 := PySem.F.slot_gs_set.lookup
  repeat (any_goals (first | assumption | wp_step))
  refine ba_class_get hx hc ?_
  repeat (any_goals (first | assumption | wp_step))
theorem ba_class_by {tk : Tok} {Q : Value → Shared → Prop} (hx : h.get? a = some o) (hc : o.cls = .type "bytearray") (hq : Q (.type "bytearray") ⟨h, g, d, t, os⟩) : wpAny (model prog w) A (getAttrBy (.ref a) (.str "__class__" tk) false) Q E ⟨h, g, d, t, os⟩ := by
  have hT : (⟨h, g, d, t, os⟩ : Shared).TypeIs (.ref a) "bytearray" := ⟨_, hx, hc⟩
  have f2 := ba_slot_ga.lookup
  have f3 := ba_slot_ga.bind (.ref a)
  repeat (any_goals (first | assumption | wp_step))
  refine codeAny_call_builtin ba_slot_ga.plain ba_entry_ga (ba_slot_ga.check _ _ _ _ _ _ _ _ hT (ba_args_ga _ _) (ba_class_entry hx hc ?_))
  repeat (any_goals (first | assumption | wp_step))
theorem ba_class_attr {Q : Option Value → Shared → Prop} (hx : h.get? a = some o) (hc : o.cls = .type "bytearray") (hq : Q (some (.type "bytearray")) ⟨h, g, d, t + 1, os⟩) : wpAny (model prog w) A (getAttr? (.ref a) "__class__") Q E ⟨h, g, d, t, os⟩ := by
  unfold getAttr? getAttrBy?
  repeat (any_goals (first | assumption | with_reducible apply ba_class_by hx hc | wp_step))
theorem ba_nested {T : String} {dep : Int} {tk : Tok} {Q : Fin → Shared → Prop} (hx : h.get? a = some o) (hc : o.cls = .type "bytearray") (hne : (Value.type "bytearray" == Value.type T) = false) (hty : typeOf (.type T) = pure (.type "type"))
    (hsub : isSubtype (.type "bytearray") (.type T) = pure false) (hq : Q (.done (.ret (.bool false))) ⟨h, g, d, t + 1, os⟩) :
    wpAny (model prog w) A (Builtin.«isinstance.nested» ⟨[.ref a, .type T, .int dep tk], []⟩) Q E ⟨h, g, d, t, os⟩ := by
  have hT : (⟨h, g, d, t, os⟩ : Shared).TypeIs (.ref a) "bytearray" := ⟨_, hx, hc⟩
  repeat (any_goals (first | assumption | with_reducible apply ba_class_attr hx hc | wp_step))
end
theorem ba_isinstance_bool {prog : Program} {w : World} {A : Around} {E : Value → Shared → Prop} {s : Shared} {a : Addr} {r : List UInt8} {Q : Value → Shared → Prop} (hx : s.heap.get? a = some (baObj r)) (h : Q (.bool false) { s with toks := s.toks + 1 }) :
    wpAny (model prog w) A (call (.builtin "isinstance") [.ref a, .type "bool"]) Q E s := by
  obtain ⟨hp, g, d, t, os⟩ := s
  refine call_isinstance (S := fun _ R s => s = ⟨hp, g, d, t, os⟩ ∧ R (.ok (.ret (.bool false))) { s with toks := s.toks + 1 }) (fun _ _ _ _ s hs => ?_) ⟨rfl, h⟩
  obtain ⟨rfl, hq⟩ := hs
  exact isinstance_outer (ba_nested hx rfl (by decide) (by first | exact PySem.F.isi_meta_bool | rfl) ba_sub_bool hq)
end Mine
end
section
open PySem PySem.W PySem.Calls PyProof.Rows
open PySem.Sem (wp)
set_option maxRecDepth 100000
namespace Mine
/-! stop.value of a StopIteration -/
theorem si_slot_ga : Slot "StopIteration" "__getattribute__" "BaseException.__getattribute__" :=
  .of (owner := "BaseException") (n := "__getattribute__") (by rw [typeLookup_type, builtinLookup_eq_fast]; kernel_rfl) (by decide +kernel) (by decide +kernel) (by decide +kernel)
    (by first | exact .inl (by decide +kernel) | exact .inr (by decide +kernel)) (by rw [isSubtype_type]; kernel_rfl)
theorem si_args_ga (a b : Value) : argsOk "BaseException.__getattribute__" ⟨[a, b], []⟩ := by unfold argsOk; kernel_rfl
theorem si_entry_ga : entryFor table "BaseException.__getattribute__" = some Builtin.«object.__getattribute__» :=
  entryFor_alias (id' := "object.__getattribute__") (by kernel_rfl) (by first | rfl | decide +kernel) (by decide +kernel) (by kernel_rfl)
theorem si_value : typeLookup (.type "StopIteration") "value" = pure (some (.builtin "StopIteration.value")) := by rw [typeLookup_type, builtinLookup_eq_fast]; kernel_rfl
theorem si_type_value : typeOf (.builtin "StopIteration.value") = pure (.type "member_descriptor") := by show builtinType _ = _; rw [builtinType_eq_fast]; kernel_rfl
theorem si_entry_value : entryFor table "StopIteration.value" = some Builtin.«StopIteration.value» := by first | exact entryFor_of_tree (by kernel_rfl) | exact entryFor_of_fast (by kernel_rfl)
theorem si_owner : (".".intercalate ("StopIteration.value".cutAt '.').dropLast) = "StopIteration" := by
  have e0 : "StopIteration.value".cutAt '.' = ["StopIteration", "value"] := by first | rfl | decide +kernel
  rw [e0]; decide +kernel
theorem si_sub_owner : isSubtype (.type "StopIteration") (.type (".".intercalate ("StopIteration.value".cutAt '.').dropLast)) = pure true := by
  rw [si_owner, isSubtype_type]; kernel_rfl
section
variable {prog : Program} {w : World} {A : Around} {E : Value → Shared → Prop} {h : Heap} {g : Array GenState} {d : Drawn} {t : Nat} {os : OsState} {a : Addr} {o : Obj} {vs : Array Value} {v : Value}
theorem si_get {R : Result → Shared → Prop} (hx : h.get? a = some o) (hc : o.cls = .type "StopIteration") (hd : o.data = .fields vs) (hv : vs[5]? = some v) (hq : R (.ok (.ret v)) ⟨h, g, d, t, os⟩) :
    codeAny (model prog w) A (.call (.builtin "member_descriptor.__get__") ⟨[.builtin "StopIteration.value", .ref a, .type "StopIteration"], []⟩) R ⟨h, g, d, t, os⟩ := by
  have hT : (⟨h, g, d, t, os⟩ : Shared).TypeIs (.ref a) "StopIteration" := ⟨_, hx, hc⟩
  have hT5 : (⟨h, g, d, t, os⟩ : Shared).TypeIs (.builtin "StopIteration.value") "member_descriptor" := si_type_value
  have f8 := si_sub_owner
  refine codeAny_call_builtin KF.slot_mem.plain KF.entry_mem (KF.slot_mem.check _ _ _ _ _ _ _ _ hT5 (KF.args_mem _ _ _) ?_)
  repeat (any_goals (first | assumption | wp_step))
  refine ⟨Code.quiet_builtin _ (by decide +kernel), codeAny_builtin si_entry_value ?_⟩
  unfold Builtin.«StopIteration.value» Builtin.Exceptions.excSixthGet
  dsimp only
  exact wpAny_bind (wpAny_field hx hd hv (wpAny_pure hq))
theorem si_ga {tk : Tok} {Q : Fin → Shared → Prop} (hx : h.get? a = some o) (hc : o.cls = .type "StopIteration") (hd : o.data = .fields vs) (hv : vs[5]? = some v) (hq : Q (.done (.ret v)) ⟨h, g, d, t, os⟩) :
    wpAny (model prog w) A (Builtin.«object.__getattribute__» ⟨[.ref a, .str "value" tk], []⟩) Q E ⟨h, g, d, t, os⟩ := by
  have hT : (⟨h, g, d, t, os⟩ : Shared).TypeIs (.ref a) "StopIteration" := ⟨_, hx, hc⟩
  have hT5 : (⟨h, g, d, t, os⟩ : Shared).TypeIs (.builtin "StopIteration.value") "member_descriptor" := si_type_value
  have f4 := si_value
  have f5 := si_type_value
  have f6 := KF.slot_mem.lookup
  have f7 := KF.slot_mset.lookup
  repeat (any_goals (first | assumption | wp_step))
  refine si_get hx hc hd hv ?_
  repeat (any_goals (first | assumption | wp_step))
theorem si_by {tk : Tok} {n ex : Bool} {Q : Value → Shared → Prop} (hnb : ∀ id, v ≠ .builtin id) (hx : h.get? a = some o) (hc : o.cls = .type "StopIteration") (hd : o.data = .fields vs) (hv : vs[5]? = some v) (hq : Q v ⟨h, g, d, t, os⟩) : wpAny (model prog w) A (getAttrBy (.ref a) (.str (Str.ofString "value") tk) n ex) Q E ⟨h, g, d, t, os⟩ := by
  have hT : (⟨h, g, d, t, os⟩ : Shared).TypeIs (.ref a) "StopIteration" := ⟨_, hx, hc⟩
  have f2 := si_slot_ga.lookup
  have f3 := si_slot_ga.bind (.ref a)
  repeat (any_goals (first | assumption | wp_step))
  rw [if_neg (by cases ex <;> simp [onTheHeap])]
  repeat (any_goals (first | assumption | wp_step))
  refine codeAny_call_builtin si_slot_ga.plain si_entry_ga (si_slot_ga.check _ _ _ _ _ _ _ _ hT (si_args_ga _ _) (si_ga hx hc hd hv ?_))
  repeat (any_goals (first | assumption | wp_step))
  cases v <;> first | exact absurd rfl (hnb _) | exact wpAny_pure hq
end
theorem si_attr {prog : Program} {w : World} {A : Around} {E : Value → Shared → Prop} {s : Shared} {a : Addr} {o : Obj} {vs : Array Value} {v : Value} {ex : Bool} {Q : Value → Shared → Prop} (hnb : ∀ id, v ≠ .builtin id) (hx : s.heap.get? a = some o) (hc : o.cls = .type "StopIteration") (hd : o.data = .fields vs) (hv : vs[5]? = some v)
    (h : Q v { s with toks := s.toks + 1 }) : wpAny (model prog w) A (getAttr (.ref a) (Str.ofString "value") ex) Q E s := by
  obtain ⟨hp, g, d, t, os⟩ := s
  unfold getAttr
  refine wpAny_bind (wpAny_mkText ?_)
  exact si_by hnb hx hc hd hv h
end Mine
end
section
open PySem PySem.W PySem.Calls PyProof.Rows
open PySem.Sem (wp)
set_option maxRecDepth 100000
namespace Mine
/-! a fresh exception noted in the frame that catches it, with its own fields told -/
def TracedAs (base : Heap) (e : Addr) (oe : Obj) (vs : Array Value) (fl : Value) (h : Heap) : Prop :=
  ∃ T oT ts, (∃ ob, h.get? e = some ob ∧ ob.cls = oe.cls ∧ ob.data = .fields (vs.setIfInBounds 1 (.ref T)) ∧ ob = Obj.mapFields (·.setIfInBounds 1 (.ref T)) oe) ∧ base.get? T = none ∧ T ≠ e ∧ h.get? T = some oT ∧ oT.data = .fields ts ∧ ts[3]? = some fl

theorem note_fresh5 {M : Model} {A : Around} {E : Value → Shared → Prop} {s : Shared} {base : Heap} {env : Env} {outer : List Env} {L e : Addr} {oe : Obj} {vs : Array Value} {Q : Unit → Shared → Prop}
    (hfr : A.frames = some (env :: outer)) (hl : s.heap.FunFrames base (env :: outer)) (hf : env.frame = some L)
    (he : s.heap.get? e = some oe) (hkb : base.StaysIn s.heap) (hen : base.get? e = none) (hd : oe.data = .fields vs) (h1 : vs[1]? = some .none)
    (h : ∀ h', base.StaysIn h' → TracedAs base e oe vs (rawInt L) h' → (∀ b o, s.heap.get? b = some o → (∀ vs, o.data ≠ .fields vs) → ∃ sl, h'.get? b = some { o with slots := sl }) → Q () { s with heap := h' }) :
    wpAny M A (noteFrame (.ref e) env) Q E s := by
  have hene : e ∉ (env :: outer).filterMap (·.frame) := fun hm => by
    obtain ⟨_, o, ho, hnf⟩ := hl.mem hm
    rw [he] at ho; injection ho with ho; subst ho; exact hnf vs hd
  have hsz : 1 < vs.size := (Array.getElem?_eq_some_iff.mp h1).1
  unfold noteFrame
  simp only [hf]
  refine wpAny_bind (wpAny_field he hd h1 ?_)
  rw [if_neg (by decide)]
  refine wpAny_bind (wpAny_frameOf_fun hfr hl hf fun h₁ hs₁ => ?_)
  refine wpAny_bind (wpAny_entryPlaceOf fun pl hpl => ?_)
  unfold EntryCells.newEntry newFields
  refine wpAny_bind (wpAny_newObj_type ?_ (hpl.sizeOk5 _ _ _ _ _))
  have he₁ : h₁.get? e = some oe := (hs₁.2.1 e hene).trans he
  have kb₁ : base.StaysIn h₁ := fun b o hbo => (hs₁.2.1 b fun hm => by rw [(hl.mem hm).1] at hbo; cases hbo).trans (hkb b o hbo)
  have hTe : h₁.objs.size ≠ e := Nat.ne_of_gt (Heap.lt_size he₁)
  refine wpAny_setField (Heap.get?_push_of_some _ he₁) hd hsz (h _ ?_ ?_ ?_)
  · intro b o hbo
    have hbe : b ≠ e := fun q => by rw [q, hen] at hbo; cases hbo
    rw [Heap.get?_update_other _ _ (Ne.symm hbe)]
    exact Heap.get?_push_of_some _ (kb₁ b o hbo)
  · have hd₃ := Obj.data_mapFields hd (·.setIfInBounds 1 (Value.ref h₁.objs.size))
    refine ⟨h₁.objs.size, _, _, ⟨_, Heap.get?_update_self _ (Heap.get?_push_of_some _ he₁) (Obj.isFreed_of_fields hd₃), Obj.cls_mapFields _ _, hd₃, rfl⟩, kb₁.fresh, hTe, (Heap.get?_update_other _ _ (Ne.symm hTe)).trans (Heap.get?_push_size h₁ rfl), rfl, ?_⟩
    first | (simp; done) | (rcases hpl with rfl | ⟨_, _, _, _, _, _, _, rfl⟩ <;> simp)
  · intro b o hb hnf
    obtain ⟨sl, hs⟩ := hs₁.2.2 b o hb
    have hbe : b ≠ e := fun q => by rw [q, he] at hb; injection hb with hb; subst hb; exact hnf vs hd
    refine ⟨sl, ?_⟩
    rw [Heap.get?_update_other _ _ (Ne.symm hbe)]
    exact Heap.get?_push_of_some _ hs


set_option maxHeartbeats 2000000 in
theorem caught_stop {M : Model} {A : Around} {E : Value → Shared → Prop} {s : Shared} {h₀ hb : Heap} {L x : Addr} {m : Str → Option Value} {name : Str} {scope : Scope} {a : Addr} {cd v : Value} {outer : List Env} {frs ld : List (Addr × Obj)} {Q : Shared → Prop}
    (hfr : A.frames = some (envOf name scope L a cd :: outer)) (hk : scope.kind = .function) (Fs : TI.Frs outer frs) (F : Fr h₀ L hb m) (N : News h₀ L hb (ld ++ frs)) (nef : ∀ p ∈ ld, ∀ q ∈ frs, p.1 ≠ q.1) (hx : StopExc hb s.heap x v)
    (k : ∀ h₂ frs' T t ob, TI.SameUp frs frs' → TI.Frs outer frs' → ob = { cls := .type "StopIteration", data := .fields #[.ref t, .ref T, .none, .none, .bool false, v] } →
      TT.HeldNA h₀ L h₂ m x "StopIteration" (((x, ob) :: ld) ++ frs') .none → Q { s with heap := h₂ }) :
    wpAny M A (noteFrame (.ref x) (envOf name scope L a cd)) (fun _ s₂ => wpAny M A (setFlight (.ref x) none) (fun _ s₃ => Q s₃) E s₂) E s := by
  obtain ⟨oL, es, ep, hL, hLd, hLk, hLf⟩ := id F.ns
  obtain ⟨t, he, hnt⟩ := hx.there
  have Fs' : TI.Frs (envOf name scope L a cd :: outer) ((L, oL) :: frs) := ⟨by show scope.kind ≠ .module; rw [hk]; decide, rfl, ⟨es, ep, hLd⟩, Fs⟩
  have hff : s.heap.FunFrames (TI.gone hb (L :: frs.map (·.1))) (envOf name scope L a cd :: outer) := Fs'.fun fun p hp => by
    rcases List.mem_cons.mp hp with rfl | hp
    · exact ⟨hx.keeps _ _ hL, TI.gone_none (.head _)⟩
    · exact ⟨hx.keeps _ _ (N p (List.mem_append_right _ hp)).1, TI.gone_none (.tail _ (List.mem_map_of_mem hp))⟩
  have keep0 : h₀.StaysIn (TI.gone hb (L :: frs.map (·.1))) := fun b o e => by
    refine (TI.gone_get fun hm => ?_).trans (F.keep b o e)
    rcases List.mem_cons.mp hm with rfl | hm
    · exact absurd (Nat.lt_of_lt_of_le (Heap.lt_size e) F.above) (Nat.lt_irrefl _)
    · obtain ⟨p, hp, rfl⟩ := List.mem_map.mp hm
      rw [(N p (List.mem_append_right _ hp)).2.2] at e; cases e
  have hldb : ∀ p ∈ ld, (TI.gone hb (L :: frs.map (·.1))).get? p.1 = some p.2 := fun p hp => by
    refine (TI.gone_get fun hm => ?_).trans (N p (List.mem_append_left _ hp)).1
    rcases List.mem_cons.mp hm with q | hm
    · exact (N p (List.mem_append_left _ hp)).2.1 q
    · obtain ⟨y, hy, q⟩ := List.mem_map.mp hm
      exact nef p hp y hy q.symm
  have bsS : (TI.gone hb (L :: frs.map (·.1))).StaysIn s.heap := fun b o e => hx.keeps b o (TI.gone_some e).2
  have bsx : (TI.gone hb (L :: frs.map (·.1))).get? x = none := TI.none_of (fun b o e => (TI.gone_some e).2) hx.new
  refine note_fresh5 (base := TI.gone hb (L :: frs.map (·.1))) (L := L) hfr hff rfl he bsS bsx rfl rfl fun h₁ k1 tr up => ?_
  obtain ⟨T, oT, ts, ⟨ob, he₁, hcl, hd₁, hob⟩, hnT, hTx, hT, hdT, h3⟩ := tr
  have hns : h₁.Ns L m := by
    obtain ⟨sl, hs⟩ := up L oL (hx.keeps _ _ hL) fun vs q => by rw [hLd] at q; cases q
    exact ⟨_, es, ep, hs, hLd, hLk, hLf⟩
  have hTL : T ≠ L := fun q => by
    obtain ⟨o', es', ep', hL', hLd', _⟩ := hns
    rw [q, hL'] at hT; cases hT
    rw [hLd'] at hdT; cases hdT
  have hxL : x ≠ L := fun q => by have := hx.new; rw [q, hL] at this; cases this
  obtain ⟨frs', SU, ht⟩ := TI.sameUp_of (h' := h₁) (frs := frs) fun p hp => up p.1 p.2 (hx.keeps _ _ (N p (List.mem_append_right _ hp)).1) fun vs q => by
    obtain ⟨es', ep', hd'⟩ := Fs.dict p hp
    rw [hd'] at q; cases q
  have Fs₁ := Fs.up SU
  have hd₁' : ob.data = .fields #[.ref t, .ref T, .none, .none, .bool false, v] := hd₁
  have H : TT.HeldNA h₀ L h₁ m x "StopIteration" (((x, ob) :: ld) ++ frs') (rawInt L) := by
    refine ⟨⟨⟨hns, fun b o e => k1 b o (keep0 b o e), F.above⟩, ⟨ob, _, T, oT, ts, he₁, hcl, hd₁', rfl, hT, hdT, h3, hTL, hTx, TI.none_of keep0 hnT⟩, TI.none_of keep0 bsx⟩, fun p hp => ?_, ?_⟩
    · rcases List.mem_append.mp hp with hp | hp
      · rcases List.mem_cons.mp hp with rfl | hp
        · exact ⟨he₁, hxL, TI.none_of keep0 bsx⟩
        · exact ⟨k1 _ _ (hldb p hp), (N p (List.mem_append_left _ hp)).2⟩
      · obtain ⟨y, hy, q⟩ := SU.fwd p hp
        exact ⟨ht p hp, by rw [q]; exact (N y (List.mem_append_right _ hy)).2.1, by rw [q]; exact (N y (List.mem_append_right _ hy)).2.2⟩
    · intro ob' ws tb e1 e2 e3 p hp q
      rw [he₁] at e1; cases e1
      rw [hd₁'] at e2; cases e2
      cases e3
      rcases List.mem_append.mp hp with hp | hp
      · rcases List.mem_cons.mp hp with rfl | hp
        · exact hTx q.symm
        · have := hldb p hp; rw [q, hnT] at this; cases this
      · have e4 := ht p hp
        obtain ⟨es', ep', hdd⟩ := Fs₁.dict p hp
        rw [q, hT] at e4; cases e4
        rw [hdT] at hdd; cases hdd
  exact TT.HeldNA.land (s' := { s with heap := h₁ }) H fun h₂ H₂ => k h₂ frs' T t ob SU Fs₁ (hob.trans rfl) H₂
end Mine
end
section
open PySem PySem.W PySem.Calls PyProof.Rows
set_option maxRecDepth 100000
namespace Mine
theorem si_attr6 {prog : Program} {w : World} {A : Around} {E : Value → Shared → Prop} {s : Shared} {a t0 T0 : Addr} {v : Value} {ex : Bool} {Q : Value → Shared → Prop} (hnb : ∀ id, v ≠ .builtin id)
    (hx : s.heap.get? a = some { cls := .type "StopIteration", data := .fields #[.ref t0, .ref T0, .none, .none, .bool false, v] }) (h : Q v { s with toks := s.toks + 1 }) :
    wpAny (model prog w) A (getAttr (.ref a) (Str.ofString "value") ex) Q E s := si_attr hnb hx rfl rfl rfl h
theorem wpC_callWith_b {M : Model} {A : Around} {E : Value → Shared → Prop} {s : Shared} {env : Env} {pos : Pos} {id : String} {Q : Value → Shared → Prop} {e : Expr} (h : wpAny M A (spliced (backTo pos (starEach [e] env))) (fun vs s₁ => wpC M A (call (.builtin id) vs) Q E s₁) E s)
    (he : starEach [e] env = [(false, eval e env)] := by rfl) : wpC M A (callWith pos (.builtin id) [] (backTo pos (starEach [e] env)) []) Q E s := by
  rw [he] at h ⊢
  exact wpC_callWith_builtin rfl (evalArgs_plain h)
local macro_rules | `(tactic| walk_at "getMethod ref") => `(tactic| (k_here; (with_reducible show wpAny _ _ (getMethod (Value.ref _) (PySem.Str.ofString "find") _) _ _ _); k_dflt (refine' ba_getMethod_find (News.get ?k1 ?k2) ?_; (case k1 => k_asm); (case k2 => k_mem); k_whole)))
local macro_rules | `(tactic| walk_at "call builtin:bytearray.find") => `(tactic| (k_here; k_dflt (refine' ba_find (News.get ?k1 ?k2) ?k3 ?_; (case k1 => k_asm); (case k2 => k_mem); (case k3 => first | assumption | omega); k_whole)))
local macro_rules | `(tactic| walk_at "call builtin:len") => `(tactic| (k_here; (with_reducible show wpAny _ _ (call (Value.builtin "len") [Value.ref _]) _ _ _); k_dflt (refine' ba_len (News.get ?k1 ?k2) ?k3 ?_; (case k1 => k_asm); (case k2 => k_mem); (case k3 => first | assumption | omega); k_whole)))
local macro_rules | `(tactic| walk_at "subscriptTail") => `(tactic| (k_here; (with_reducible show wpAny _ _ (subscriptTail _ (Expr.Slice _ _ _ _) (Value.ref _) (Value.ref _)) _ _ _); k_dflt (refine' ba_cut_K ?F ?N ?m ?c ?p ?z ?_ ?sub; (case F => k_asm); (case N => k_asm); (case m => k_mem); (case c => assumption); (case p => first | exact IsPart.none | constructor); (case z => omega); (case sub => with_unfolding_all rfl)); intro _ _ _ _ _ _))
local macro_rules | `(tactic| walk_at "call type:EOFError") => `(tactic| (refine raise3 .eof ?_; intro _ _ _))
local macro_rules | `(tactic| walk_at "joinParts") => `(tactic| (k_here; (first | (with_reducible show wpAny _ _ (joinParts _ []) _ _ _) | (with_reducible show wpAny _ _ (joinParts _ (evalEach [] _)) _ _ _)); k_dflt (refine' joinParts_nil ?_ ?hz; (case hz => first | with_reducible exact readText (by omega) (by omega) (by omega) (by omega) | with_reducible exact eofText (by omega) | with_reducible exact eofText2 (by omega) (by omega) (by omega)))))
local macro_rules | `(tactic| walk_at "truthy ref") => `(tactic| (k_here; k_dflt (refine' ba_truthy (News.get ?k1 ?k2) ?k3 ?_; (case k1 => k_asm); (case k2 => k_mem); (case k3 => first | assumption | omega); k_whole)))
local macro_rules | `(tactic| walk_at "call builtin:isinstance") => `(tactic| (k_here; (with_reducible show wpAny _ _ (call (Value.builtin "isinstance") [Value.ref _, Value.type _]) _ _ _); k_dflt (refine' ba_isinstance_bool (News.get ?k1 ?k2) ?_; (case k1 => k_asm); (case k2 => k_mem); k_whole)))
local macro_rules | `(tactic| walk_at "getAttr ref") => `(tactic| (k_here; (with_reducible show wpAny _ _ (getAttr (Value.ref _) (PySem.Str.ofString "value") _) _ _ _); k_dflt (refine' si_attr6 ?nb (News.get ?k1 ?k2) ?_; (case k1 => k_asm); (case k2 => k_mem); (case nb => (intro _ h; cases h)); k_whole)))
local macro_rules | `(tactic| walk_at "call type:bytes") => `(tactic| (k_here; (with_reducible show wpAny _ _ (call (Value.type "bytes") [Value.ref _]) _ _ _); k_dflt (refine' ba_bytes (News.get ?k1 ?k2) ?z ?_; (case k1 => k_asm); (case k2 => k_mem); (case z => omega); k_whole)))
abbrev tupO (vs : Array Value) : Obj := { cls := .type "tuple", data := .seq vs }
section
variable {w : World} {s : Shared} {h₀ : Heap} {Lg R Rd B dp un : Nat} {gd : Option (List Code)} {outer : List Env} {u mg mb : Str → Option Value} {mean : ExcName → Option Value} {Q : Flow → Shared → Prop} {E : Value → Shared → Prop}
  {lim : Int} {p : Nat} {n : Int} {tm tp tn tb te : Tok} {hb he : Int} {cn : Nat} {e : Bool} {row r : List UInt8} {cls : String} {X : List (Addr × Obj)}

set_option maxHeartbeats 0 in
theorem stp_T0 {Gn : Addr}  (KX : (hd.heap_39 w.params).In h₀) (T : Top hd.view_39 (looseW hd.view_39 [Str.ofString "StreamReader"]) mean mg mb h₀)
  (F : Fr h₀ Lg s.heap u) (H : Has u [(Str.ofString "reading", .ref Gn)]) (N : News h₀ Lg s.heap (X)) (hQ : ∀ tk, wpC (model Challenge.rw_ev0028_01.row.prog w) (ktrTop dp un gd (Str.ofString "_law_step") stpScope Lg 110 (.ref 109) [] outer) (call (.builtin "next") [.ref Gn]) (fun v s' => match v with | .ref _ => False | _ => Q .next s') E { s with toks := tk }) :
  wpC (model Challenge.rw_ev0028_01.row.prog w) (ktrTop dp un gd (Str.ofString "_law_step") stpScope Lg 110 (.ref 109) [] outer) (exec stpT0 (envOf (Str.ofString "_law_step") stpScope Lg 110 (.ref 109))) Q E s := by
  replace F := frHas F H
  dsimp only [chainTo] at F
  unfold stpT0; dsimp only; refine wpC_Expr (wpC_Call_Name ?_)
  revert KX; k_fill; intro KX
  w_strict (k_steps)
  · refine wpC_callWith_b ?_
    w_strict (k_steps)
    · exact hQ _


set_option maxHeartbeats 0 in
theorem stp_T1 {Gn : Addr}  (KX : (hd.heap_39 w.params).In h₀) (T : Top hd.view_39 (looseW hd.view_39 [Str.ofString "StreamReader"]) mean mg mb h₀)
  (F : Fr h₀ Lg s.heap u) (H : Has u [(Str.ofString "reading", .ref Gn)]) (N : News h₀ Lg s.heap (X)) (hQ : ∀ h' tk D u' (t1 t2 : Tok), Fr h₀ Lg h' u' → News h₀ Lg h' ((D, tupO #[.str (Str.ofString "waits") t1]) :: X) → (∀ p ∈ X, p.1 < D) → Q (.ret (.ref D)) { s with heap := h', toks := tk }) :
  wpAny (model Challenge.rw_ev0028_01.row.prog w) (ktrTop dp un gd (Str.ofString "_law_step") stpScope Lg 110 (.ref 109) [] outer) (execs [stpT1] (envOf (Str.ofString "_law_step") stpScope Lg 110 (.ref 109))) Q E s := by
  replace F := frHas F H
  dsimp only [chainTo] at F
  unfold stpT1; dsimp only
  revert KX; k_fill; intro KX
  w_strict (k_steps)
  · (refine' hQ _ _ _ _ _ 0 ?a ?b ?c; (case a => assumption); (case b => assumption); (case c => assumption))


set_option maxHeartbeats 0 in
theorem stp_X1 {Gn : Addr} {A : Around} (KX : (hd.heap_39 w.params).In h₀) (T : Top hd.view_39 (looseW hd.view_39 [Str.ofString "StreamReader"]) mean mg mb h₀)
  (F : Fr h₀ Lg s.heap u) (H : Has u [(Str.ofString "reading", .ref Gn)]) (N : News h₀ Lg s.heap (X)) (hQ : ∀ h' tk D u' (t1 t2 : Tok), Fr h₀ Lg h' u' → News h₀ Lg h' ((D, tupO #[.str (Str.ofString "error") t1, .str (Str.ofString "end") t2]) :: X) → (∀ p ∈ X, p.1 < D) → Q (.ret (.ref D)) { s with heap := h', toks := tk }) :
  wpAny (model Challenge.rw_ev0028_01.row.prog w) A (execs [stpX1] (envOf (Str.ofString "_law_step") stpScope Lg 110 (.ref 109))) Q E s := by
  replace F := frHas F H
  dsimp only [chainTo] at F
  unfold stpX1; dsimp only
  revert KX; k_fill; intro KX
  w_strict (k_steps)
  · (refine' hQ _ _ _ _ _ _ ?a ?b ?c; (case a => assumption); (case b => assumption); (case c => assumption))


set_option maxHeartbeats 0 in
theorem stp_X2 {Gn : Addr} {A : Around} (KX : (hd.heap_39 w.params).In h₀) (T : Top hd.view_39 (looseW hd.view_39 [Str.ofString "StreamReader"]) mean mg mb h₀)
  (F : Fr h₀ Lg s.heap u) (H : Has u [(Str.ofString "reading", .ref Gn)]) (N : News h₀ Lg s.heap (X)) (hQ : ∀ h' tk D u' (t1 t2 : Tok), Fr h₀ Lg h' u' → News h₀ Lg h' ((D, tupO #[.str (Str.ofString "error") t1, .str (Str.ofString "run") t2]) :: X) → (∀ p ∈ X, p.1 < D) → Q (.ret (.ref D)) { s with heap := h', toks := tk }) :
  wpAny (model Challenge.rw_ev0028_01.row.prog w) A (execs [stpX2] (envOf (Str.ofString "_law_step") stpScope Lg 110 (.ref 109))) Q E s := by
  replace F := frHas F H
  dsimp only [chainTo] at F
  unfold stpX2; dsimp only
  revert KX; k_fill; intro KX
  w_strict (k_steps)
  · (refine' hQ _ _ _ _ _ _ ?a ?b ?c; (case a => assumption); (case b => assumption); (case c => assumption))


set_option maxHeartbeats 0 in
theorem stp_X3 {Gn : Addr} {A : Around} (KX : (hd.heap_39 w.params).In h₀) (T : Top hd.view_39 (looseW hd.view_39 [Str.ofString "StreamReader"]) mean mg mb h₀)
  (F : Fr h₀ Lg s.heap u) (H : Has u [(Str.ofString "reading", .ref Gn)]) (N : News h₀ Lg s.heap (X)) (hQ : ∀ h' tk D u' (t1 t2 : Tok), Fr h₀ Lg h' u' → News h₀ Lg h' ((D, tupO #[.str (Str.ofString "error") t1, .str (Str.ofString "value") t2]) :: X) → (∀ p ∈ X, p.1 < D) → Q (.ret (.ref D)) { s with heap := h', toks := tk }) :
  wpAny (model Challenge.rw_ev0028_01.row.prog w) A (execs [stpX3] (envOf (Str.ofString "_law_step") stpScope Lg 110 (.ref 109))) Q E s := by
  replace F := frHas F H
  dsimp only [chainTo] at F
  unfold stpX3; dsimp only
  revert KX; k_fill; intro KX
  w_strict (k_steps)
  · (refine' hQ _ _ _ _ _ _ ?a ?b ?c; (case a => assumption); (case b => assumption); (case c => assumption))


set_option maxHeartbeats 0 in
theorem stp_X0b {Gn : Addr} {A : Around} {x t0 T0 : Addr} {b : Bool} (KX : (hd.heap_39 w.params).In h₀) (T : Top hd.view_39 (looseW hd.view_39 [Str.ofString "StreamReader"]) mean mg mb h₀)
  (F : Fr h₀ Lg s.heap u) (H : Has u [(Str.ofString "stop", .ref x), (Str.ofString "reading", .ref Gn)]) (N : News h₀ Lg s.heap ((x, ({ cls := .type "StopIteration", data := .fields #[.ref t0, .ref T0, .none, .none, .bool false, .bool b] } : Obj)) :: X)) (hQ : ∀ h' tk D' u' (t1 t2 : Tok), Fr h₀ Lg h' u' → News h₀ Lg h' ((D', tupO #[.str (Str.ofString "told") t1, .bool b]) :: (x, ({ cls := .type "StopIteration", data := .fields #[.ref t0, .ref T0, .none, .none, .bool false, .bool b] } : Obj)) :: X) → (∀ p ∈ X, p.1 < D') → Q (.ret (.ref D')) { s with heap := h', toks := tk }) :
  wpAny (model Challenge.rw_ev0028_01.row.prog w) A (execs [stpX0] (envOf (Str.ofString "_law_step") stpScope Lg 110 (.ref 109))) Q E s := by
  replace F := frHas F H
  dsimp only [chainTo] at F
  unfold stpX0; dsimp only
  revert KX; k_fill; intro KX
  w_strict (k_steps)
  · (refine' hQ _ _ _ _ _ 0 ?a ?b ?c; (case a => assumption); (case b => assumption); (case c => exact tb_ltOf (And.right (by assumption : x < _ ∧ AllLt _ X))))


set_option maxHeartbeats 0 in
theorem stp_X0r {Gn : Addr} {A : Around} {x t0 T0 D : Addr} (KX : (hd.heap_39 w.params).In h₀) (T : Top hd.view_39 (looseW hd.view_39 [Str.ofString "StreamReader"]) mean mg mb h₀)
  (F : Fr h₀ Lg s.heap u) (H : Has u [(Str.ofString "stop", .ref x), (Str.ofString "reading", .ref Gn)]) (N : News h₀ Lg s.heap ((x, ({ cls := .type "StopIteration", data := .fields #[.ref t0, .ref T0, .none, .none, .bool false, .ref D] } : Obj)) :: (D, baObj r) :: X)) (hz : r.length ≤ 1000) (hQ : ∀ h' tk D' u' (t1 t2 : Tok), Fr h₀ Lg h' u' → News h₀ Lg h' ((D', tupO #[.str (Str.ofString "told") t1, .bytes r.toArray t2]) :: (x, ({ cls := .type "StopIteration", data := .fields #[.ref t0, .ref T0, .none, .none, .bool false, .ref D] } : Obj)) :: (D, baObj r) :: X) → (∀ p ∈ X, p.1 < D') → Q (.ret (.ref D')) { s with heap := h', toks := tk }) :
  wpAny (model Challenge.rw_ev0028_01.row.prog w) A (execs [stpX0] (envOf (Str.ofString "_law_step") stpScope Lg 110 (.ref 109))) Q E s := by
  replace F := frHas F H
  dsimp only [chainTo] at F
  unfold stpX0; dsimp only
  revert KX; k_fill; intro KX
  w_strict (k_steps)
  · (refine' hQ _ _ _ _ _ _ ?a ?b ?c; (case a => assumption); (case b => assumption); (case c => exact tb_ltOf (And.right (And.right (by assumption : x < _ ∧ D < _ ∧ AllLt _ X)))))

end
end Mine
end
section
open PySem PySem.W PySem.Calls PyProof.Rows
open PySem.Sem (wp)
set_option maxRecDepth 100000
namespace Mine
theorem bare_set {G : Array GenState} {x : GenState} (h : AllBare G) (hx : x.bare = true) (g : Nat) : AllBare (G.setIfInBounds g x) := fun y hy => by
  obtain ⟨i, hi, rfl⟩ := Array.getElem_of_mem hy
  rw [Array.getElem_setIfInBounds]
  split
  · exact hx
  · exact h _ (Array.getElem_mem _)
  · simpa using hi
def errWord (X : String) : String := if X = "EOFError" then "end" else if X = "RuntimeError" then "run" else "value"
abbrev genO (g : Nat) (nm qn : Value) : Obj := { cls := .type "generator", data := .fields #[.int g 0, nm, qn] }

/-- what one step tells the law -/
def StepEnd (w : World) (h₀ : Heap) (L : Addr) (m : Str → Option Value) (Lg R Rd B : Addr) (kind lim n g : Nat) (hb he : Int) (tb te : Tok) (cn : Nat) (e : Bool) (row : List UInt8) (X : List (Addr × Obj)) (Q : Value → Shared → Prop) (s : Shared) : Ans → Prop
  | .waits => ∀ h' tk G' D t u' gs', Fr h₀ L h' m → News h₀ L h' ((D, tupO #[.str (Str.ofString "waits") t]) :: led R Rd B hb he tb te cn e row X) → (∀ p ∈ led R Rd B hb he tb te cn e row X, p.1 < D) → Fr h₀ Lg h' u' → D ≠ Lg → AllBare G' → G'[g]? = some gs' →
      Ready w h₀ Lg R Rd B kind lim n row gs' u' → Q (.ref D) { s with heap := h', gens := G', toks := tk }
  | .octets k => ∀ h' tk G' D t1 t2, Fr h₀ L h' m → News h₀ L h' ((D, tupO #[.str (Str.ofString "told") t1, .bytes (row.take k).toArray t2]) :: led R Rd B hb he tb te cn e (row.drop k) X) → (∀ p ∈ led R Rd B hb he tb te cn e (row.drop k) X, p.1 < D) → AllBare G' →
      Q (.ref D) { s with heap := h', gens := G', toks := tk }
  | .flag b => ∀ h' tk G' D t1, Fr h₀ L h' m → News h₀ L h' ((D, tupO #[.str (Str.ofString "told") t1, .bool b]) :: led R Rd B hb he tb te cn e row X) → (∀ p ∈ led R Rd B hb he tb te cn e row X, p.1 < D) → AllBare G' →
      Q (.ref D) { s with heap := h', gens := G', toks := tk }
  | .err Xn => ∀ h' tk G' D t1 t2, Fr h₀ L h' m → News h₀ L h' ((D, tupO #[.str (Str.ofString "error") t1, .str (Str.ofString (errWord Xn)) t2]) :: led R Rd B hb he tb te cn e row X) → (∀ p ∈ led R Rd B hb he tb te cn e row X, p.1 < D) → AllBare G' →
      Q (.ref D) { s with heap := h', gens := G', toks := tk }

theorem led_in {R Rd B : Addr} {hb he : Int} {tb te : Tok} {cn : Nat} {e : Bool} {row : List UInt8} {X Y : List (Addr × Obj)} (hXY : ∀ p ∈ X, p ∈ Y) {p : Addr × Obj} (h : p ∈ led R Rd B hb he tb te cn e row X) : p ∈ led R Rd B hb he tb te cn e row Y := by
  rcases List.mem_cons.mp h with rfl | h
  · exact .head _
  rcases List.mem_cons.mp h with rfl | h
  · exact .tail _ (.head _)
  rcases List.mem_cons.mp h with rfl | h
  · exact .tail _ (.tail _ (.head _))
  · exact .tail _ (.tail _ (.tail _ (hXY p h)))
theorem led_split {R Rd B : Addr} {hb he : Int} {tb te : Tok} {cn : Nat} {e : Bool} {row : List UInt8} {X : List (Addr × Obj)} {A p : Addr × Obj} (h : p ∈ led R Rd B hb he tb te cn e row (A :: X)) : p = A ∨ p ∈ led R Rd B hb he tb te cn e row X := by
  rcases List.mem_cons.mp h with rfl | h
  · exact .inr (.head _)
  rcases List.mem_cons.mp h with rfl | h
  · exact .inr (.tail _ (.head _))
  rcases List.mem_cons.mp h with rfl | h
  · exact .inr (.tail _ (.tail _ (.head _)))
  rcases List.mem_cons.mp h with rfl | h
  · exact .inl rfl
  · exact .inr (.tail _ (.tail _ (.tail _ h)))
theorem led_x {R Rd B : Addr} {hb he : Int} {tb te : Tok} {cn : Nat} {e : Bool} {row : List UInt8} {X : List (Addr × Obj)} {p : Addr × Obj} (h : p ∈ X) : p ∈ led R Rd B hb he tb te cn e row X := .tail _ (.tail _ (.tail _ h))
theorem exc_of_ans {kind lim : Nat} {row : List UInt8} {e : Bool} {Xn : String} (h : ans kind lim row e = .err Xn) : Exc3 Xn := by
  unfold ans lineExc at h
  (repeat' split at h) <;> first | (cases h; constructor) | cases h
theorem step_sub_stop {Xn : String} (h : Exc3 Xn) : isSubtype (.type Xn) (.type "StopIteration") = pure false := by
  cases h <;> (rw [isSubtype_type]; kernel_rfl)

section
variable {w : World} {s : Shared} {h₀ : Heap} {L R Rd B Lg dp un a Gn : Nat} {cn : Str} {cs : Scope} {ccd : Value} {cl : List (Str × Addr)} {gd : Option (List Code)} {m u mg mb : Str → Option Value} {mean : ExcName → Option Value} {Q E : Value → Shared → Prop}
  {hb he : Int} {tb te : Tok} {cn' kind lim n g : Nat} {e : Bool} {row row₀ : List UInt8} {gs : GenState} {nm qn : Value} {X : List (Addr × Obj)}

set_option maxHeartbeats 0 in
theorem step_C (KX : (hd.heap_39 w.params).In h₀) (T : Top hd.view_39 (looseW hd.view_39 [Str.ofString "StreamReader"]) mean mg mb h₀) (hk : cs.kind = .function)
    (F : Fr h₀ L s.heap m) (N : News h₀ L s.heap (led R Rd B hb he tb te cn' e row X)) (FG : Fr h₀ Lg s.heap u) (hLL : Lg ≠ L) (neG : ∀ p ∈ led R Rd B hb he tb te cn' e row X, p.1 ≠ Lg)
    (hGn : (Gn, genO g nm qn) ∈ X) (hgs : s.gens[g]? = some gs) (hbare : AllBare s.gens) (rd : Ready w h₀ Lg R Rd B kind lim (n + 1) row₀ gs u) (hpre : row₀ <+: row)
    (hz : row.length ≤ 1000) (hB : notB R Rd B hb he tb te cn' e X) (hdp : dp + 9 < recursionLimit)
    (hQ : StepEnd w h₀ L m Lg R Rd B kind lim n g hb he tb te cn' e row X Q s (ans kind lim row e)) :
    wpC (model Challenge.rw_ev0028_01.row.prog w) (ktrTop dp un gd cn cs L a ccd cl []) (call (.ref 110) [.ref Gn]) Q E s := by
  have KX₀ := KX
  obtain ⟨oLg, esg, epg, hLg, hLgd, hLgk, hLgf⟩ := id FG.ns
  have nsG : ∀ (h' : Heap), h'.get? Lg = some oLg → h'.Ns Lg u := fun h' q => ⟨_, esg, epg, q, hLgd, hLgk, hLgf⟩
  have N' : News h₀ L s.heap ((Lg, oLg) :: led R Rd B hb he tb te cn' e row X) := fun p hp => by
    rcases List.mem_cons.mp hp with rfl | hp
    · exact ⟨hLg, hLL, Heap.get?_none_of_le FG.above⟩
    · exact N p hp
  revert KX; k_fill; intro KX
  refine wpC_call ?_
  refine' callC_u (binds := [(Str.ofString "reading", .ref Gn)]) ?F ?N ?X ?lim ?ho ?hcd ?room ?bind ?loc ?_ ?cell ?co ?gen ?k
  case F => exact F
  case N => exact N'
  case X => exact KX
  case lim => exact T.nolimit
  case ho => k_is
  case hcd => k_is
  case room => show dp < _; omega
  case bind => exact BindsTo.of_eq rfl
  case loc => exact locs rfl
  case co => exact rfl
  case gen => exact rfl
  case k => exact rfl
  case cell => decide
  intro oL h₁ hL hLd F₁ N₁ ns lt
  have H₁ := (show Has (fun y => List.lookup y ([(Str.ofString "reading", .ref Gn)] : List (Str × Value)).reverse) [(Str.ofString "reading", .ref Gn)] from ⟨by with_unfolding_all exact rfl, trivial⟩)
  have Fs : TI.Frs [envX cn cs L a ccd cl] [(L, oL)] := ⟨by show cs.kind ≠ .module; rw [hk]; decide, rfl, hLd, trivial⟩
  obtain ⟨oS, ess, eps, hS, hSd, hSk, hSf⟩ := id F₁.ns
  generalize hLs : s.heap.objs.size = Ls at *
  have nsS : ∀ (h' : Heap) sl, h'.get? Ls = some { oS with slots := sl } → h'.Ns Ls (fun y => List.lookup y ([(Str.ofString "reading", .ref Gn)] : List (Str × Value)).reverse) := fun h' sl q => ⟨_, ess, eps, q, hSd, hSk, hSf⟩
  have FG₁ : Fr h₀ Lg h₁ u := ⟨nsG h₁ (N₁ _ (.tail _ (.head _))).1, F₁.keep, FG.above⟩
  have hLgS : Lg ≠ Ls := Nat.ne_of_lt (lt _ (.tail _ (.head _)))
  have hLS : L ≠ Ls := Nat.ne_of_lt (lt _ (.head _))
  have ltl : ∀ p ∈ led R Rd B hb he tb te cn' e row X, p.1 < Ls := fun p hp => lt p (.tail _ (.tail _ hp))
  have N₁' : News h₀ Ls h₁ (led R Rd B hb he tb te cn' e row ((L, oL) :: X)) := led_back (newsSub N₁ fun p hp => by
    rcases List.mem_cons.mp hp with rfl | hp
    · exact .head _
    · exact .tail _ (.tail _ hp))
  refine wpC_cons (wpC_Try ?_)
  refine wpC_cons (stp_T0 (s := { s with heap := h₁, toks := _ }) (X := led R Rd B hb he tb te cn' e row ((L, oL) :: X)) KX₀ T F₁ H₁ N₁' fun tk => ?_)
  -- the gen's own view of the ledger
  have ltX : ∀ p ∈ led R Rd B hb he tb te cn' e row ((L, oL) :: X), p.1 < Ls := fun p hp => by
    rcases led_split hp with rfl | hp
    · exact lt _ (.head _)
    · exact ltl p hp
  have NG : News h₀ Lg h₁ (led R Rd B hb he tb te cn' e row ((Ls, oS) :: (L, oL) :: X)) := fun p hp => by
    rcases led_split hp with rfl | hp
    · exact ⟨hS, hLgS.symm, Heap.get?_none_of_le F₁.above⟩
    rcases led_split hp with rfl | hp
    · exact ⟨(N₁ _ (.head _)).1, hLL.symm, (N₁ (L, oL) (.head _)).2.2⟩
    · exact ⟨(N₁ p (.tail _ (.tail _ hp))).1, neG p hp, (N p hp).2.2⟩
  have hBr : notB R Rd B hb he tb te cn' e ((Ls, oS) :: (L, oL) :: X) := notB_more (notB_L N hB) ltX
  have FsR : TI.Frs (envOf (Str.ofString "_law_step") stpScope Ls 110 (.ref 109) :: [envX cn cs L a ccd cl]) [(Ls, oS), (L, oL)] := ⟨by show stpScope.kind ≠ .module; decide, rfl, ⟨ess, eps, hSd⟩, Fs⟩
  have hGn₁ : h₁.get? Gn = some (genO g nm qn) := (N₁ (Gn, genO g nm qn) (.tail _ (.tail _ (led_x hGn)))).1
  have hgo := fun dp' un' => rd dp' un' gd _ _ _ hb he tb te cn' row e ({ s with heap := h₁, toks := tk }.setGen g .running) FG₁ NG hpre hz hBr FsR (fun p hp => by
    rcases List.mem_cons.mp hp with rfl | hp
    · exact .head _
    · exact (List.mem_singleton.mp hp) ▸ .tail _ (.head _))
  have hbare1 : AllBare (s.gens.setIfInBounds g .running) := bare_set hbare rfl g
  have hgsz : g < s.gens.size := (Array.getElem?_eq_some_iff.mp hgs).1
  have hXsub : ∀ p ∈ X, p ∈ (Ls, oS) :: (L, oL) :: X := fun p hp => .tail _ (.tail _ hp)
  -- back in the law's frame, from the step's frame
  have home : ∀ {h3 : Heap} {u3 : Str → Option Value} {sl : Array (Option Value)} {ll : List (Addr × Obj)} {D : Addr} {o : Obj} {row' : List UInt8}, Fr h₀ Ls h3 u3 → News h₀ Ls h3 ll → (D, o) ∈ ll → (L, { oL with slots := sl }) ∈ ll → (∀ p ∈ led R Rd B hb he tb te cn' e row' X, p ∈ ll) → L < D →
      Fr h₀ L h3 m ∧ News h₀ L h3 ((D, o) :: led R Rd B hb he tb te cn' e row' X) := fun F3 N3 hD hL3 sub hlt =>
    back_to F ns F3 N3 hL3 (fun p hp => by
      rcases List.mem_cons.mp hp with rfl | hp
      · exact hD
      · exact sub p hp) (fun p hp => by
      rcases List.mem_cons.mp hp with rfl | hp
      · exact Nat.ne_of_gt hlt
      · exact led_ne N p hp)
  have inY : ∀ {row' : List UInt8} {p : Addr × Obj}, p ∈ led R Rd B hb he tb te cn' e row' X → p ∈ led R Rd B hb he tb te cn' e row' ((L, oL) :: X) := fun hp => led_mem hp
  have inZ : ∀ {row' : List UInt8} {p : Addr × Obj}, p ∈ led R Rd B hb he tb te cn' e row' ((L, oL) :: X) → p ∈ led R Rd B hb he tb te cn' e row' ((Ls, oS) :: (L, oL) :: X) := fun hp => led_mem hp
  have neS : ∀ {row' : List UInt8}, ∀ p ∈ led R Rd B hb he tb te cn' e row' ((L, oL) :: X), p.1 ≠ Ls := fun p hp => led_ne N₁' p hp
  have FS : ∀ {h2 : Heap} {u2 : Str → Option Value} {ll : List (Addr × Obj)}, Fr h₀ Lg h2 u2 → News h₀ Lg h2 ll → (Ls, oS) ∈ ll → Fr h₀ Ls h2 (fun y => List.lookup y ([(Str.ofString "reading", .ref Gn)] : List (Str × Value)).reverse) := fun F2 N2 hm => ⟨nsS _ oS.slots (N2 _ hm).1, F2.keep, F₁.above⟩
  cases hA : ans kind lim row e with
  | waits =>
    rw [hA] at hgo hQ
    refine next_C (gs := gs) (T.nolimit.keeps F₁.keep) (show dp + 1 < _ by omega) ⟨_, nm, qn, hGn₁, rfl, rfl, rfl⟩ hgs (hgo _ _) ?_ ?_ ?_
    · intro v gd' l k c p fs s₁ hF
      obtain ⟨l', k', c', p', fs', h2, tk2, u2, hen, hq, hs₁, F2, N2, rd2⟩ := hF
      cases hen
      subst hs₁
      refine ⟨hq, ?_⟩
      have F2s := FS F2 N2 (led_x (.head _))
      obtain ⟨oG2, es2, ep2, hG2, hG2d, hG2k, hG2f⟩ := id F2.ns
      have N2s : News h₀ Ls h2 ((Lg, oG2) :: led R Rd B hb he tb te cn' e row ((L, oL) :: X)) := fun p hp => by
        rcases List.mem_cons.mp hp with rfl | hp
        · exact ⟨hG2, hLgS, Heap.get?_none_of_le FG.above⟩
        · exact ⟨(N2 p (inZ hp)).1, neS p hp, (N2 p (inZ hp)).2.2⟩
      refine wpC_walk (stp_T1 (Gn := Gn) (s := { s with heap := h2, gens := (s.gens.setIfInBounds g .running).setIfInBounds g (End.susp Value.none false l k c p fs).genState, toks := tk2 }) KX₀ T F2s H₁ N2s fun h3 tk3 D u3 t1 _ F3 N3 lt3 => ?_)
      obtain ⟨F4, N4⟩ := home (sl := oL.slots) (row' := row) F3 N3 (.head _) (.tail _ (.tail _ (led_x (.head _)))) (fun p hp => .tail _ (.tail _ (inY hp))) (lt3 (L, oL) (.tail _ (led_x (.head _))))
      have FG3 : Fr h₀ Lg h3 u2 := ⟨⟨_, es2, ep2, (N3 _ (.tail _ (.head _))).1, hG2d, hG2k, hG2f⟩, F3.keep, FG.above⟩
      exact hQ h3 tk3 _ D t1 u2 _ F4 N4 (fun p hp => lt3 p (.tail _ (inY hp))) FG3 (Nat.ne_of_gt (lt3 _ (.head _))) (bare_set hbare1 (End.bare_of_quiet hq) g) (by simp [hgsz]) rd2
    · intro f s₁ hF
      obtain ⟨_, _, _, _, _, _, _, _, hen, _⟩ := hF
      cases hen
    · intro f s₁ hF
      obtain ⟨_, _, _, _, _, _, _, _, hen, _⟩ := hF
      cases hen
  | octets k =>
    rw [hA] at hgo hQ
    refine next_C (gs := gs) (T.nolimit.keeps F₁.keep) (show dp + 1 < _ by omega) ⟨_, nm, qn, hGn₁, rfl, rfl, rfl⟩ hgs (hgo _ _) ?_ ?_ ?_
    · intro v gd' l k c p fs s₁ hF
      obtain ⟨_, _, _, _, hen, _⟩ := hF
      cases hen
    · intro f s₁ hF
      obtain ⟨D, h2, tk2, u2, hen, hs₁, F2, N2, lt2⟩ := hF
      cases hen
      subst hs₁
      refine ⟨_, rfl, (fun q => by cases q), fun h3 x hx => ?_⟩
      have F2s := FS F2 N2 (.tail _ (led_x (.head _)))
      have hLD : L < D := lt2 (L, oL) (led_x (.tail _ (.head _)))
      have N2s : News h₀ Ls h2 (((D, baObj (row.take k)) :: led R Rd B hb he tb te cn' e (row.drop k) X) ++ [(L, oL)]) := fun p hp => by
        rcases List.mem_append.mp hp with hp | hp
        · rcases List.mem_cons.mp hp with rfl | hp
          · exact ⟨(N2 _ (.head _)).1, Nat.ne_of_gt (lt2 (Ls, oS) (led_x (.head _))), (N2 (D, _) (.head _)).2.2⟩
          · have := N2 p (.tail _ (inZ (inY hp)))
            exact ⟨this.1, neS p (inY hp), this.2.2⟩
        · rw [List.mem_singleton.mp hp]
          have := N2 (L, oL) (.tail _ (led_x (.tail _ (.head _))))
          exact ⟨this.1, hLS, this.2.2⟩
      refine caught_stop (s := { s with heap := h3, gens := (s.gens.setIfInBounds g .running).setIfInBounds g .finished, toks := tk2 }) (outer := [envX cn cs L a ccd cl]) (frs := [(L, oL)]) rfl rfl Fs F2s N2s (fun p hp q hq => (List.mem_singleton.mp hq) ▸ (by
        rcases List.mem_cons.mp hp with rfl | hp
        · exact Nat.ne_of_gt hLD
        · exact led_ne N p hp)) hx fun h4 frs' T' t ob SU Fs' hob H => ?_
      subst hob
      refine TT.clause_hit_asTN (A₀ := ktrTop dp un gd cn cs L a ccd cl []) H T (k := fun h5 tk5 F5 N5 => ?_)
      refine stp_X0r (Gn := Gn) (s := { s with heap := h5, gens := (s.gens.setIfInBounds g .running).setIfInBounds g .finished, toks := tk5 }) (X := led R Rd B hb he tb te cn' e (row.drop k) X ++ frs') KX₀ T F5 ⟨by with_unfolding_all exact rfl, by with_unfolding_all exact rfl, trivial⟩ N5 (by simp; omega) fun h6 tk6 D' u6 t1 t2 F6 N6 lt6 => ?_
      refine name_goes_keeps (s := { s with heap := h6, gens := (s.gens.setIfInBounds g .running).setIfInBounds g .finished, toks := tk6 }) F6 N6 ?_
      intro h7 v7 F7 N7
      cases frs' with
      | nil => exact SU.elim
      | cons q qs =>
        obtain ⟨e1, ⟨sl, e2⟩, _⟩ := SU
        obtain ⟨q1, q2⟩ := q
        obtain rfl : q1 = L := e1
        obtain rfl : q2 = { oL with slots := sl } := e2
        obtain ⟨F8, N8⟩ := home (sl := sl) (row' := row.drop k) F7 N7 (.head _) (.tail _ (.tail _ (.tail _ (List.mem_append_right _ (.head _))))) (fun p hp => .tail _ (.tail _ (.tail _ (List.mem_append_left _ hp)))) (lt6 _ (List.mem_append_right _ (.head _)))
        exact hQ h7 _ _ D' t1 t2 F8 N8 (fun p hp => lt6 p (List.mem_append_left _ hp)) (bare_set hbare1 rfl g)
    · intro f s₁ hF
      obtain ⟨_, _, _, _, hen, _⟩ := hF
      cases hen
  | flag b =>
    rw [hA] at hgo hQ
    refine next_C (gs := gs) (T.nolimit.keeps F₁.keep) (show dp + 1 < _ by omega) ⟨_, nm, qn, hGn₁, rfl, rfl, rfl⟩ hgs (hgo _ _) ?_ ?_ ?_
    · intro v gd' l k c p fs s₁ hF
      obtain ⟨_, _, _, hen, _⟩ := hF
      cases hen
    · intro f s₁ hF
      obtain ⟨h2, tk2, u2, hen, hs₁, F2, N2⟩ := hF
      cases hen
      subst hs₁
      refine ⟨_, rfl, (fun q => by cases q), fun h3 x hx => ?_⟩
      have F2s := FS F2 N2 (led_x (.head _))
      have N2s : News h₀ Ls h2 (led R Rd B hb he tb te cn' e row X ++ [(L, oL)]) := fun p hp => by
        rcases List.mem_append.mp hp with hp | hp
        · have := N2 p (inZ (inY hp))
          exact ⟨this.1, neS p (inY hp), this.2.2⟩
        · rw [List.mem_singleton.mp hp]
          have := N2 (L, oL) (led_x (.tail _ (.head _)))
          exact ⟨this.1, hLS, this.2.2⟩
      refine caught_stop (s := { s with heap := h3, gens := (s.gens.setIfInBounds g .running).setIfInBounds g .finished, toks := tk2 }) (outer := [envX cn cs L a ccd cl]) (frs := [(L, oL)]) rfl rfl Fs F2s N2s (fun p hp q hq => (List.mem_singleton.mp hq) ▸ led_ne N p hp) hx fun h4 frs' T' t ob SU Fs' hob H => ?_
      subst hob
      refine TT.clause_hit_asTN (A₀ := ktrTop dp un gd cn cs L a ccd cl []) H T (k := fun h5 tk5 F5 N5 => ?_)
      refine stp_X0b (Gn := Gn) (s := { s with heap := h5, gens := (s.gens.setIfInBounds g .running).setIfInBounds g .finished, toks := tk5 }) (X := led R Rd B hb he tb te cn' e row X ++ frs') KX₀ T F5 ⟨by with_unfolding_all exact rfl, by with_unfolding_all exact rfl, trivial⟩ N5 fun h6 tk6 D' u6 t1 t2 F6 N6 lt6 => ?_
      refine name_goes_keeps (s := { s with heap := h6, gens := (s.gens.setIfInBounds g .running).setIfInBounds g .finished, toks := tk6 }) F6 N6 ?_
      intro h7 v7 F7 N7
      cases frs' with
      | nil => exact SU.elim
      | cons q qs =>
        obtain ⟨e1, ⟨sl, e2⟩, _⟩ := SU
        obtain ⟨q1, q2⟩ := q
        obtain rfl : q1 = L := e1
        obtain rfl : q2 = { oL with slots := sl } := e2
        obtain ⟨F8, N8⟩ := home (sl := sl) (row' := row) F7 N7 (.head _) (.tail _ (.tail _ (List.mem_append_right _ (.head _)))) (fun p hp => .tail _ (.tail _ (List.mem_append_left _ hp))) (lt6 _ (List.mem_append_right _ (.head _)))
        exact hQ h7 _ _ D' t1 F8 N8 (fun p hp => lt6 p (List.mem_append_left _ hp)) (bare_set hbare1 rfl g)
    · intro f s₁ hF
      obtain ⟨_, _, _, hen, _⟩ := hF
      cases hen
  | err Xn =>
    rw [hA] at hgo hQ
    have h3 := exc_of_ans hA
    refine next_C (gs := gs) (T.nolimit.keeps F₁.keep) (show dp + 1 < _ by omega) ⟨_, nm, qn, hGn₁, rfl, rfl, rfl⟩ hgs (hgo _ _) ?_ ?_ ?_
    · intro v gd' l k c p fs s₁ hF
      obtain ⟨_, _, _, _, _, _, hen, _⟩ := hF
      cases hen
    · intro f s₁ hF
      obtain ⟨_, _, _, _, _, _, hen, _⟩ := hF
      cases hen
    · intro xv s₁ hF
      obtain ⟨x, hb2, h2, tk2, u2, a0, hen, hs₁, F2, N2, hfresh, hfl, up⟩ := hF
      cases hen
      subst hs₁
      have hGn2 : h2.get? Gn = some (genO g nm qn) := by
        refine hfl.1 _ _ ((TI.gone_get fun hm => ?_).trans (N2 (Gn, genO g nm qn) (led_x (hXsub _ hGn))).1)
        rcases List.mem_cons.mp hm with q | hm
        · exact neG _ (led_x hGn) q
        rcases List.mem_cons.mp hm with q | hm
        · exact neS (row' := row) _ (led_x (.tail _ hGn)) q
        · exact led_ne (e' := e) (row' := row) (cn' := cn') N _ (led_x hGn) (List.mem_singleton.mp hm)
      refine ⟨Xn, _, nm, qn, hGn2, rfl, hfl.there, step_sub_stop h3, ?_⟩
      have ar := arrive_of (frs := [(L, oL)]) (ld := led R Rd B hb he tb te cn' e row X) F2 N2 (led_x (.head _)) ⟨ess, eps, hSd⟩ nsS (fun p hp => (List.mem_singleton.mp hp) ▸ led_x (.tail _ (.head _))) (fun p hp => inZ (inY hp)) (fun p hp => by
        rcases List.mem_append.mp hp with hp | hp
        · exact neS p (inY hp)
        · rw [List.mem_singleton.mp hp]; exact hLS) (fun p hp q hq => (List.mem_singleton.mp hq) ▸ led_ne N p hp) hfl up
      refine caught (s := { s with heap := h2, gens := (s.gens.setIfInBounds g .running).setIfInBounds g .finished, toks := tk2 }) (outer := [envX cn cs L a ccd cl]) (frs := [(L, oL)]) ?_ ?_ F₁.above Fs ar fun h₃ frs' SU Fs' H => ?_
      · exact rfl
      · exact rfl
      have fin : ∀ {h6 tk6 D' u6 t1 t2}, Fr h₀ Ls h6 u6 → News h₀ Ls h6 ((D', tupO #[.str (Str.ofString "error") t1, .str (Str.ofString (errWord Xn)) t2]) :: (led R Rd B hb he tb te cn' e row X ++ frs')) → (∀ p ∈ led R Rd B hb he tb te cn' e row X ++ frs', p.1 < D') →
          Q (.ref D') { s with heap := h6, gens := (s.gens.setIfInBounds g .running).setIfInBounds g .finished, toks := tk6 } := fun {h6 tk6 D' u6 t1 t2} F6 N6 lt6 => by
        cases frs' with
        | nil => exact SU.elim
        | cons q qs =>
          obtain ⟨e1, ⟨sl, e2⟩, _⟩ := SU
          obtain ⟨q1, q2⟩ := q
          obtain rfl : q1 = L := e1
          obtain rfl : q2 = { oL with slots := sl } := e2
          obtain ⟨F8, N8⟩ := home (sl := sl) (row' := row) F6 N6 (.head _) (.tail _ (List.mem_append_right _ (.head _))) (fun p hp => .tail _ (List.mem_append_left _ hp)) (lt6 _ (List.mem_append_right _ (.head _)))
          exact hQ h6 _ _ D' t1 t2 F8 N8 (fun p hp => lt6 p (List.mem_append_left _ hp)) (bare_set hbare1 rfl g)
      cases h3 with
      | eof =>
        refine TT.clause_miss_asTN (A₀ := ktrTop dp un gd cn cs L a ccd cl []) H T (k := ?_)
        refine TT.clause_hitTN (A₀ := ktrTop dp un gd cn cs L a ccd cl []) H T (k := fun h5 F5 N5 => ?_)
        exact stp_X1 (Gn := Gn) (s := { s with heap := h5, gens := (s.gens.setIfInBounds g .running).setIfInBounds g .finished, toks := tk2 }) (X := led R Rd B hb he tb te cn' e row X ++ frs') KX₀ T F5 H₁ N5 fun h6 tk6 D' u6 t1 t2 F6 N6 lt6 => fin F6 N6 lt6
      | run =>
        refine TT.clause_miss_asTN (A₀ := ktrTop dp un gd cn cs L a ccd cl []) H T (k := ?_)
        refine TT.clause_missTN (A₀ := ktrTop dp un gd cn cs L a ccd cl []) H T (k := ?_)
        refine TT.clause_hitTN (A₀ := ktrTop dp un gd cn cs L a ccd cl []) H T (k := fun h5 F5 N5 => ?_)
        exact stp_X2 (Gn := Gn) (s := { s with heap := h5, gens := (s.gens.setIfInBounds g .running).setIfInBounds g .finished, toks := tk2 }) (X := led R Rd B hb he tb te cn' e row X ++ frs') KX₀ T F5 H₁ N5 fun h6 tk6 D' u6 t1 t2 F6 N6 lt6 => fin F6 N6 lt6
      | val =>
        refine TT.clause_miss_asTN (A₀ := ktrTop dp un gd cn cs L a ccd cl []) H T (k := ?_)
        refine TT.clause_missTN (A₀ := ktrTop dp un gd cn cs L a ccd cl []) H T (k := ?_)
        refine TT.clause_missTN (A₀ := ktrTop dp un gd cn cs L a ccd cl []) H T (k := ?_)
        refine TT.clause_hitTN (A₀ := ktrTop dp un gd cn cs L a ccd cl []) H T (k := fun h5 F5 N5 => ?_)
        exact stp_X3 (Gn := Gn) (s := { s with heap := h5, gens := (s.gens.setIfInBounds g .running).setIfInBounds g .finished, toks := tk2 }) (X := led R Rd B hb he tb te cn' e row X ++ frs') KX₀ T F5 H₁ N5 fun h6 tk6 D' u6 t1 t2 F6 N6 lt6 => fin F6 N6 lt6
end
end Mine
end
section
open PySem PySem.W PySem.Calls PyProof.Rows
set_option maxRecDepth 100000
namespace Mine
/-- what the plain row of ints tells -/
def ansI (kind lim : Nat) (ns : List Int) (e : Bool) : Ans :=
  if kind < 2 then
    if (ns.any fun x => x == 10) = true then (if lim < ns.idxOf 10 + 1 then .err (lineExc kind) else .octets (ns.idxOf 10 + 1))
    else if lim < ns.length then .err (lineExc kind) else if e = true then .err "EOFError" else .waits
  else if kind = 2 then (if lim ≤ ns.length then .octets lim else if e = true then .err "EOFError" else .waits)
  else if kind = 3 then (if e = true then .octets ns.length else if lim < ns.length then .err "RuntimeError" else .waits)
  else if 0 < ns.length ∨ e = true then .flag ((ns.length : Int) == 0) else .waits
def taken : Ans → Nat
  | .octets k => k
  | _ => 0
def byteOf (n : Int) : UInt8 := n.toNat.toUInt8
def AnsTup (ns : List Int) : Ans → Obj → Prop
  | .waits, o => ∃ t, o = tupO #[.str (Str.ofString "waits") t]
  | .octets k, o => ∃ t1 t2 bs, o = tupO #[.str (Str.ofString "told") t1, .bytes bs t2] ∧ bs = ((ns.take k).map byteOf).toArray
  | .flag b, o => ∃ t1, o = tupO #[.str (Str.ofString "told") t1, .bool b]
  | .err X, o => ∃ t1 t2, o = tupO #[.str (Str.ofString "error") t1, .str (Str.ofString (errWord X)) t2]
theorem news_drop1 {h₀ h : Heap} {L : Addr} {a b c : Addr × Obj} {l : List (Addr × Obj)} (N : News h₀ L h (a :: b :: c :: l)) : News h₀ L h (a :: b :: l) := fun p hp => by
  rcases List.mem_cons.mp hp with rfl | hp
  · exact N _ (.head _)
  rcases List.mem_cons.mp hp with rfl | hp
  · exact N _ (.tail _ (.head _))
  · exact N _ (.tail _ (.tail _ (.tail _ hp)))
theorem kfInts : ∀ {vs : List Value} {ns : List Int}, IntsAre vs ns → kf_ints vs = true
  | _, _, .nil => rfl
  | _, _, .cons (vs := vs) n t h => (kfInts h : kf_ints vs = true)
theorem kfAt {k : Int} : ∀ {vs : List Value} {ns : List Int}, IntsAre vs ns → k ∈ ns → kf_at k vs = some (ns.idxOf k)
  | _, _, .nil, h => by cases h
  | _, _, .cons (ns := ns) n t h, hm => by
    unfold kf_at
    by_cases hn : n = k
    · subst hn; simp [isInt]
    · have hm' : k ∈ ns := (List.mem_cons.mp hm).resolve_left (Ne.symm hn)
      have e : isInt k (Value.int n t) = false := by simpa [isInt] using hn
      rw [List.idxOf_cons, show (n == k) = false from by simpa using hn, kfAt h hm', e]
      rfl
section
variable {prog : Program} {w : World} {A : Around} {E : Value → Shared → Prop} {s : Shared} {h₀ : Heap} {L D : Addr} {m : Str → Option Value} {news : List (Addr × Obj)} {vs : List Value} {ns : List Int} {n : Nat}
theorem ix_ints {k : Int} {t : Tok} {Q : Value → Shared → Prop} (N : News h₀ L s.heap news) (hm : (D, listOf vs.toArray n) ∈ news) (hi : IntsAre vs ns) (hin : (ns.any fun x => x == k) = true) (hz : ns.length ≤ 1000)
    (h : ∀ j : Nat, j = ns.idxOf k → j < ns.length → Q (.int (j : Int) s.toks) { s with toks := s.toks + 1 }) : wpAny (model prog w) A (call (.builtin "list.index") [.ref D, .int k t]) Q E s := by
  have hk : k ∈ ns := by
    obtain ⟨x, hx, e⟩ := List.any_eq_true.mp hin
    exact (eq_of_beq e) ▸ hx
  refine kf_index N hm (by simpa using kfInts hi) (by simpa using kfAt hi hk) rfl (by rw [sizeLine_eq]; simp [hi.length]; omega) (h _ rfl (List.idxOf_lt_length_of_mem hk))
end
theorem byte_take {ns : List Int} {k : Nat} (h : ∀ n ∈ ns, 0 ≤ n ∧ n < 256) : ∀ n ∈ ns.take k, 0 ≤ n ∧ n < 256 := fun n hn => h n (List.mem_of_mem_take hn)
local macro_rules | `(tactic| walk_at "call builtin:list.index") => `(tactic| (k_here; k_dflt (refine' ix_ints ?N ?m ?i ?a ?z ?_; (case N => k_asm); (case m => k_mem); (case i => assumption); (case a => assumption); (case z => assumption)); intro _ _ _))
local macro_rules | `(tactic| walk_at "call type:bytes") => `(tactic| (k_here; (with_reducible show wpAny _ _ (call (Value.type _) [Value.ref _]) _ _ _); k_dflt (refine' bytes_K ?F ?N ?l ?i ?r ?z ?h ?_; (case F => k_asm); (case N => k_asm); (case l => is_list); (case i => first | l_ints | l_intsW); (case r => first | assumption | (exact byte_take (by assumption))); (case z => (rw [IntsAre.length (by assumption), sizeLine_eq]; first | omega | (refine Nat.le_trans (List.length_take_le _ _) ?_; omega))); (case h => with_unfolding_all rfl); k_whole); intro _ _ _ _ _ _))
section
variable {w : World} {s : Shared} {A₀ : Around} {base h₀ : Heap} {L R Rw dp un a : Nat} {cn : Str} {cs : Scope} {ccd : Value} {cl : List (Str × Addr)} {gd : Option (List Code)} {outer : List Env} {m mg mb : Str → Option Value} {mean : ExcName → Option Value} {Q E : Value → Shared → Prop}
  {lim : Nat} {t1 t2 : Tok} {e : Bool} {ns : List Int} {vs : List Value} {c : Nat} {X : List (Addr × Obj)}
theorem ans0a {k : Nat} (hk : k < 2) (h : (ns.any fun x => x == 10) = true) (h2 : (lim : Int) < (ns.idxOf 10 : Nat) + 1) : ansI k lim ns e = .err (lineExc k) := by
  unfold ansI; rw [if_pos hk, if_pos h, if_pos (by omega)]
theorem ans0b {k : Nat} (hk : k < 2) (h : (ns.any fun x => x == 10) = true) (h2 : ¬ (lim : Int) < (ns.idxOf 10 : Nat) + 1) : ansI k lim ns e = .octets (ns.idxOf 10 + 1) := by
  unfold ansI; rw [if_pos hk, if_pos h, if_neg (by omega)]
theorem ans0c {k : Nat} (hk : k < 2) (h : (ns.any fun x => x == 10) = false) (h2 : lim < ns.length) : ansI k lim ns e = .err (lineExc k) := by
  unfold ansI; rw [if_pos hk, if_neg (by rw [h]; decide), if_pos h2]
theorem ans0d {k : Nat} (hk : k < 2) (h : (ns.any fun x => x == 10) = false) (h2 : ¬ lim < ns.length) (he : e = true) : ansI k lim ns e = .err "EOFError" := by
  unfold ansI; rw [if_pos hk, if_neg (by rw [h]; decide), if_neg h2, if_pos he]
theorem ans0e {k : Nat} (hk : k < 2) (h : (ns.any fun x => x == 10) = false) (h2 : ¬ lim < ns.length) (he : e = false) : ansI k lim ns e = .waits := by
  unfold ansI; rw [if_pos hk, if_neg (by rw [h]; decide), if_neg h2, if_neg (by rw [he]; decide)]
theorem ans2a (h : lim ≤ ns.length) : ansI 2 lim ns e = .octets lim := by
  unfold ansI; rw [if_neg (by decide), if_pos rfl, if_pos h]
theorem ans2b (h : ¬ lim ≤ ns.length) (he : e = true) : ansI 2 lim ns e = .err "EOFError" := by
  unfold ansI; rw [if_neg (by decide), if_pos rfl, if_neg h, if_pos he]
theorem ans2c (h : ¬ lim ≤ ns.length) (he : e = false) : ansI 2 lim ns e = .waits := by
  unfold ansI; rw [if_neg (by decide), if_pos rfl, if_neg h, if_neg (by rw [he]; decide)]
theorem ans3a (he : e = true) : ansI 3 lim ns e = .octets ns.length := by
  unfold ansI; rw [if_neg (by decide), if_neg (by decide), if_pos rfl, if_pos he]
theorem ans3b (h : lim < ns.length) (he : e = false) : ansI 3 lim ns e = .err "RuntimeError" := by
  unfold ansI; rw [if_neg (by decide), if_neg (by decide), if_pos rfl, if_neg (by rw [he]; decide), if_pos h]
theorem ans3c (h : ¬ lim < ns.length) (he : e = false) : ansI 3 lim ns e = .waits := by
  unfold ansI; rw [if_neg (by decide), if_neg (by decide), if_pos rfl, if_neg (by rw [he]; decide), if_neg h]
theorem ans4a (h : 0 < ns.length) : ansI 4 lim ns e = .flag ((ns.length : Int) == 0) := by
  unfold ansI; rw [if_neg (by decide), if_neg (by decide), if_neg (by decide), if_pos (.inl h)]
theorem ans4b (he : e = true) : ansI 4 lim ns e = .flag ((ns.length : Int) == 0) := by
  unfold ansI; rw [if_neg (by decide), if_neg (by decide), if_neg (by decide), if_pos (.inr he)]
theorem ans4c (h : ¬ 0 < ns.length) (he : e = false) : ansI 4 lim ns e = .waits := by
  unfold ansI; rw [if_neg (by decide), if_neg (by decide), if_neg (by decide), if_neg (by rw [he]; simpa using h)]

set_option maxHeartbeats 0 in
theorem due_0 (KX : (hd.heap_39 w.params).In h₀) (T : Top hd.view_39 (looseW hd.view_39 [Str.ofString "StreamReader"]) mean mg mb h₀) (B : Below A₀ base outer h₀)
  (hk : cs.kind = .function) (F : Fr h₀ L s.heap m) (N : News h₀ L s.heap ((Rw, listOf vs.toArray c) :: X)) (hi : IntsAre vs ns) (hr : ∀ n ∈ ns, 0 ≤ n ∧ n < 256) (hz : ns.length ≤ 1000) (hlim : lim < 10) (hd : dp + 5 < recursionLimit) (hu : un + 40 < cLine)
  (hQ : ∀ a h' tk D D' j t o, ansI 0 lim ns e = a → j = (taken a : Int) → Fr h₀ L h' m → News h₀ L h' ((D', tupO #[.ref D, .int j t]) :: (D, o) :: (Rw, listOf vs.toArray c) :: X) → AnsTup ns a o → Q (.ref D') { s with heap := h', toks := tk }) :
  wpAny (model Challenge.rw_ev0028_01.row.prog w) (ktrTop dp un gd cn cs L a ccd cl outer) (call (.ref 117) [.int 0 t1, .int lim t2, .ref Rw, .bool e]) Q E s := by
  revert KX; k_fill; intro KX
  w_strict (refine wpAny_call ?_; k_dflt ktr_enter; k_steps)
  · (refine' hQ (.err (lineExc 0)) _ _ _ _ _ _ _ (ans0a (by decide) (by assumption) (by omega)) ?j ?F ?N ?t; (case F => assumption); (case N => first | assumption | exact news_drop1 (by assumption)); (case j => rfl); (case t => exact ⟨_, _, rfl⟩))
  · exfalso; omega
  · (refine' hQ (.octets (ns.idxOf 10 + 1)) _ _ _ _ _ _ _ (ans0b (by decide) (by assumption) (by omega)) ?j ?F ?N ?t; (case F => assumption); (case N => first | assumption | exact news_drop1 (by assumption)); (case j => show _ = ((ns.idxOf 10 + 1 : Nat) : Int); omega); (case t => exact ⟨_, _, _, rfl, by congr 3; omega⟩))
  · (refine' hQ (.err (lineExc 0)) _ _ _ _ _ _ _ (ans0c (by decide) (by assumption) (by omega)) ?j ?F ?N ?t; (case F => assumption); (case N => first | assumption | exact news_drop1 (by assumption)); (case j => rfl); (case t => exact ⟨_, _, rfl⟩))
  · (refine' hQ (.err "EOFError") _ _ _ _ _ _ _ (ans0d (by decide) (by assumption) (by omega) (by first | assumption | exact notTrue (by assumption))) ?j ?F ?N ?t; (case F => assumption); (case N => first | assumption | exact news_drop1 (by assumption)); (case j => rfl); (case t => exact ⟨_, _, rfl⟩))
  · (refine' hQ (.waits) _ _ _ _ _ _ _ (ans0e (by decide) (by assumption) (by omega) (by first | assumption | exact notTrue (by assumption))) ?j ?F ?N ?t; (case F => assumption); (case N => first | assumption | exact news_drop1 (by assumption)); (case j => rfl); (case t => exact ⟨_, rfl⟩))


set_option maxHeartbeats 0 in
theorem due_1 (KX : (hd.heap_39 w.params).In h₀) (T : Top hd.view_39 (looseW hd.view_39 [Str.ofString "StreamReader"]) mean mg mb h₀) (B : Below A₀ base outer h₀)
  (hk : cs.kind = .function) (F : Fr h₀ L s.heap m) (N : News h₀ L s.heap ((Rw, listOf vs.toArray c) :: X)) (hi : IntsAre vs ns) (hr : ∀ n ∈ ns, 0 ≤ n ∧ n < 256) (hz : ns.length ≤ 1000) (hlim : lim < 10) (hd : dp + 5 < recursionLimit) (hu : un + 40 < cLine)
  (hQ : ∀ a h' tk D D' j t o, ansI 1 lim ns e = a → j = (taken a : Int) → Fr h₀ L h' m → News h₀ L h' ((D', tupO #[.ref D, .int j t]) :: (D, o) :: (Rw, listOf vs.toArray c) :: X) → AnsTup ns a o → Q (.ref D') { s with heap := h', toks := tk }) :
  wpAny (model Challenge.rw_ev0028_01.row.prog w) (ktrTop dp un gd cn cs L a ccd cl outer) (call (.ref 117) [.int 1 t1, .int lim t2, .ref Rw, .bool e]) Q E s := by
  revert KX; k_fill; intro KX
  w_strict (refine wpAny_call ?_; k_dflt ktr_enter; k_steps)
  · (refine' hQ (.err (lineExc 1)) _ _ _ _ _ _ _ (ans0a (by decide) (by assumption) (by omega)) ?j ?F ?N ?t; (case F => assumption); (case N => first | assumption | exact news_drop1 (by assumption)); (case j => rfl); (case t => exact ⟨_, _, rfl⟩))
  · exfalso; omega
  · (refine' hQ (.octets (ns.idxOf 10 + 1)) _ _ _ _ _ _ _ (ans0b (by decide) (by assumption) (by omega)) ?j ?F ?N ?t; (case F => assumption); (case N => first | assumption | exact news_drop1 (by assumption)); (case j => show _ = ((ns.idxOf 10 + 1 : Nat) : Int); omega); (case t => exact ⟨_, _, _, rfl, by congr 3; omega⟩))
  · (refine' hQ (.err (lineExc 1)) _ _ _ _ _ _ _ (ans0c (by decide) (by assumption) (by omega)) ?j ?F ?N ?t; (case F => assumption); (case N => first | assumption | exact news_drop1 (by assumption)); (case j => rfl); (case t => exact ⟨_, _, rfl⟩))
  · (refine' hQ (.err "EOFError") _ _ _ _ _ _ _ (ans0d (by decide) (by assumption) (by omega) (by first | assumption | exact notTrue (by assumption))) ?j ?F ?N ?t; (case F => assumption); (case N => first | assumption | exact news_drop1 (by assumption)); (case j => rfl); (case t => exact ⟨_, _, rfl⟩))
  · (refine' hQ (.waits) _ _ _ _ _ _ _ (ans0e (by decide) (by assumption) (by omega) (by first | assumption | exact notTrue (by assumption))) ?j ?F ?N ?t; (case F => assumption); (case N => first | assumption | exact news_drop1 (by assumption)); (case j => rfl); (case t => exact ⟨_, rfl⟩))


set_option maxHeartbeats 0 in
theorem due_2 (KX : (hd.heap_39 w.params).In h₀) (T : Top hd.view_39 (looseW hd.view_39 [Str.ofString "StreamReader"]) mean mg mb h₀) (B : Below A₀ base outer h₀)
  (hk : cs.kind = .function) (F : Fr h₀ L s.heap m) (N : News h₀ L s.heap ((Rw, listOf vs.toArray c) :: X)) (hi : IntsAre vs ns) (hr : ∀ n ∈ ns, 0 ≤ n ∧ n < 256) (hz : ns.length ≤ 1000) (hlim : lim < 10) (hd : dp + 5 < recursionLimit) (hu : un + 40 < cLine)
  (hQ : ∀ a h' tk D D' j t o, ansI 2 lim ns e = a → j = (taken a : Int) → Fr h₀ L h' m → News h₀ L h' ((D', tupO #[.ref D, .int j t]) :: (D, o) :: (Rw, listOf vs.toArray c) :: X) → AnsTup ns a o → Q (.ref D') { s with heap := h', toks := tk }) :
  wpAny (model Challenge.rw_ev0028_01.row.prog w) (ktrTop dp un gd cn cs L a ccd cl outer) (call (.ref 117) [.int 2 t1, .int lim t2, .ref Rw, .bool e]) Q E s := by
  revert KX; k_fill; intro KX
  w_strict (refine wpAny_call ?_; k_dflt ktr_enter; k_steps)
  · (refine' hQ (.octets lim) _ _ _ _ _ _ _ (ans2a (by omega)) ?j ?F ?N ?t; (case F => assumption); (case N => first | assumption | exact news_drop1 (by assumption)); (case j => rfl); (case t => exact ⟨_, _, _, rfl, rfl⟩))
  · (refine' hQ (.err "EOFError") _ _ _ _ _ _ _ (ans2b (by omega) (by first | assumption | exact notTrue (by assumption))) ?j ?F ?N ?t; (case F => assumption); (case N => first | assumption | exact news_drop1 (by assumption)); (case j => rfl); (case t => exact ⟨_, _, rfl⟩))
  · (refine' hQ (.waits) _ _ _ _ _ _ _ (ans2c (by omega) (by first | assumption | exact notTrue (by assumption))) ?j ?F ?N ?t; (case F => assumption); (case N => first | assumption | exact news_drop1 (by assumption)); (case j => rfl); (case t => exact ⟨_, rfl⟩))


set_option maxHeartbeats 0 in
theorem due_3 (KX : (hd.heap_39 w.params).In h₀) (T : Top hd.view_39 (looseW hd.view_39 [Str.ofString "StreamReader"]) mean mg mb h₀) (B : Below A₀ base outer h₀)
  (hk : cs.kind = .function) (F : Fr h₀ L s.heap m) (N : News h₀ L s.heap ((Rw, listOf vs.toArray c) :: X)) (hi : IntsAre vs ns) (hr : ∀ n ∈ ns, 0 ≤ n ∧ n < 256) (hz : ns.length ≤ 1000) (hlim : lim < 10) (hd : dp + 5 < recursionLimit) (hu : un + 40 < cLine)
  (hQ : ∀ a h' tk D D' j t o, ansI 3 lim ns e = a → j = (taken a : Int) → Fr h₀ L h' m → News h₀ L h' ((D', tupO #[.ref D, .int j t]) :: (D, o) :: (Rw, listOf vs.toArray c) :: X) → AnsTup ns a o → Q (.ref D') { s with heap := h', toks := tk }) :
  wpAny (model Challenge.rw_ev0028_01.row.prog w) (ktrTop dp un gd cn cs L a ccd cl outer) (call (.ref 117) [.int 3 t1, .int lim t2, .ref Rw, .bool e]) Q E s := by
  revert KX; k_fill; intro KX
  w_strict (refine wpAny_call ?_; k_dflt ktr_enter; k_steps)
  · (refine' hQ (.octets ns.length) _ _ _ _ _ _ _ (ans3a (by first | assumption | exact notTrue (by assumption))) ?j ?F ?N ?t; (case F => assumption); (case N => first | assumption | exact news_drop1 (by assumption)); (case j => rfl); (case t => exact ⟨_, _, _, rfl, by rw [List.take_length]; rfl⟩))
  · (refine' hQ (.err "RuntimeError") _ _ _ _ _ _ _ (ans3b (by omega) (by first | assumption | exact notTrue (by assumption))) ?j ?F ?N ?t; (case F => assumption); (case N => first | assumption | exact news_drop1 (by assumption)); (case j => rfl); (case t => exact ⟨_, _, rfl⟩))
  · (refine' hQ (.waits) _ _ _ _ _ _ _ (ans3c (by omega) (by first | assumption | exact notTrue (by assumption))) ?j ?F ?N ?t; (case F => assumption); (case N => first | assumption | exact news_drop1 (by assumption)); (case j => rfl); (case t => exact ⟨_, rfl⟩))


set_option maxHeartbeats 0 in
theorem due_4 (KX : (hd.heap_39 w.params).In h₀) (T : Top hd.view_39 (looseW hd.view_39 [Str.ofString "StreamReader"]) mean mg mb h₀) (B : Below A₀ base outer h₀)
  (hk : cs.kind = .function) (F : Fr h₀ L s.heap m) (N : News h₀ L s.heap ((Rw, listOf vs.toArray c) :: X)) (hi : IntsAre vs ns) (hr : ∀ n ∈ ns, 0 ≤ n ∧ n < 256) (hz : ns.length ≤ 1000) (hlim : lim < 10) (hd : dp + 5 < recursionLimit) (hu : un + 40 < cLine)
  (hQ : ∀ a h' tk D D' j t o, ansI 4 lim ns e = a → j = (taken a : Int) → Fr h₀ L h' m → News h₀ L h' ((D', tupO #[.ref D, .int j t]) :: (D, o) :: (Rw, listOf vs.toArray c) :: X) → AnsTup ns a o → Q (.ref D') { s with heap := h', toks := tk }) :
  wpAny (model Challenge.rw_ev0028_01.row.prog w) (ktrTop dp un gd cn cs L a ccd cl outer) (call (.ref 117) [.int 4 t1, .int lim t2, .ref Rw, .bool e]) Q E s := by
  revert KX; k_fill; intro KX
  w_strict (refine wpAny_call ?_; k_dflt ktr_enter; k_steps)
  · (refine' hQ (.flag _) _ _ _ _ _ _ _ (ans4a (by omega)) ?j ?F ?N ?t; (case F => assumption); (case N => first | assumption | exact news_drop1 (by assumption)); (case j => rfl); (case t => exact ⟨_, rfl⟩))
  · (refine' hQ (.flag _) _ _ _ _ _ _ _ (ans4b (by first | assumption | exact notTrue (by assumption))) ?j ?F ?N ?t; (case F => assumption); (case N => first | assumption | exact news_drop1 (by assumption)); (case j => rfl); (case t => exact ⟨_, rfl⟩))
  · (refine' hQ (.waits) _ _ _ _ _ _ _ (ans4c (by omega) (by first | assumption | exact notTrue (by assumption))) ?j ?F ?N ?t; (case F => assumption); (case N => first | assumption | exact news_drop1 (by assumption)); (case j => rfl); (case t => exact ⟨_, rfl⟩))

end
end Mine
end
section
open PySem PySem.W PySem.Calls PyProof.Rows
set_option maxRecDepth 100000
namespace Mine
theorem rowInts_len (row : List UInt8) : (rowInts row).length = row.length := by simp [rowInts]
theorem rowInts_any (row : List UInt8) : ((rowInts row).any fun x => x == 10) = decide ((10 : UInt8) ∈ row) := by
  induction row with
  | nil => rfl
  | cons c r ih =>
    have e : ((c.toNat : Int) == 10) = decide (10 = c) := by
      rw [Bool.eq_iff_iff, beq_iff_eq, decide_eq_true_eq]
      constructor
      · intro h
        have h2 : c.toNat = 10 := by omega
        exact (UInt8.toNat_inj.mp (by rw [h2]; rfl)).symm
      · rintro rfl; rfl
    show (((c.toNat : Int) == 10) || (rowInts r).any fun x => x == 10) = _
    rw [e, ih]
    simp
theorem rowInts_idx (row : List UInt8) : (rowInts row).idxOf 10 = row.idxOf 10 := by
  induction row with
  | nil => rfl
  | cons c r ih =>
    have e : ((c.toNat : Int) == 10) = (c == 10) := by
      rw [Bool.eq_iff_iff, beq_iff_eq, beq_iff_eq]
      constructor
      · intro h
        have h2 : c.toNat = 10 := by omega
        exact UInt8.toNat_inj.mp (by rw [h2]; rfl)
      · rintro rfl; rfl
    show ((c.toNat : Int) :: rowInts r).idxOf 10 = _
    rw [List.idxOf_cons, List.idxOf_cons, e, ih]
theorem ansI_row (kind lim : Nat) (row : List UInt8) (e : Bool) : ansI kind lim (rowInts row) e = ans kind lim row e := by
  unfold ansI ans
  rw [rowInts_len, rowInts_any, rowInts_idx]
  have h4 : (((row.length : Nat) : Int) == 0) = row.isEmpty := by
    cases row with
    | nil => rfl
    | cons c r => rw [Bool.eq_iff_iff]; simp; omega
  have h5 : (0 < row.length ∨ e = true) = (row.isEmpty = false ∨ e = true) := by
    cases row <;> simp
  rw [h4]
  simp only [decide_eq_true_eq, h5]
theorem rowInts_byte (row : List UInt8) : (rowInts row).map byteOf = row := by
  unfold rowInts byteOf
  rw [List.map_map]
  refine (List.map_congr_left fun c _ => ?_).trans (List.map_id _)
  show ((c.toNat : Int)).toNat.toUInt8 = c
  rw [Int.toNat_natCast]
  exact UInt8.toNat_inj.mp (by have := c.toNat_lt; show c.toNat % 256 = c.toNat; omega)
theorem rowInts_take (row : List UInt8) (k : Nat) : ((rowInts row).take k).map byteOf = row.take k := by
  rw [List.map_take, rowInts_byte]
theorem rowInts_drop (row : List UInt8) (k : Nat) : (rowInts row).drop k = rowInts (row.drop k) := by
  unfold rowInts; rw [List.map_drop]
theorem rowInts_app (r d : List UInt8) : rowInts (r ++ d) = rowInts r ++ rowInts d := by unfold rowInts; rw [List.map_append]
theorem rowInts_small (row : List UInt8) : ∀ n ∈ rowInts row, 0 ≤ n ∧ n < 256 := fun n hn => by
  obtain ⟨c, _, rfl⟩ := List.mem_map.mp hn
  have := c.toNat_lt
  omega
section
variable {w : World} {s : Shared} {A₀ : Around} {base h₀ : Heap} {L R Rw dp un a : Nat} {cn : Str} {cs : Scope} {ccd : Value} {cl : List (Str × Addr)} {gd : Option (List Code)} {outer : List Env} {m mg mb : Str → Option Value} {mean : ExcName → Option Value} {Q E : Value → Shared → Prop}
  {lim : Nat} {t1 t2 : Tok} {e : Bool} {vs : List Value} {c : Nat} {X : List (Addr × Obj)} {row : List UInt8}
theorem due_C {kind : Nat} (hkd : kind < 5) (KX : (hd.heap_39 w.params).In h₀) (T : Top hd.view_39 (looseW hd.view_39 [Str.ofString "StreamReader"]) mean mg mb h₀) (B : Below A₀ base outer h₀)
  (hk : cs.kind = .function) (F : Fr h₀ L s.heap m) (N : News h₀ L s.heap ((Rw, listOf vs.toArray c) :: X)) (hi : IntsAre vs (rowInts row)) (hz : row.length ≤ 1000) (hlim : lim < 10) (hd : dp + 5 < recursionLimit) (hu : un + 40 < cLine)
  (hQ : ∀ h' tk D D' t o, Fr h₀ L h' m → News h₀ L h' ((D', tupO #[.ref D, .int (taken (ans kind lim row e) : Nat) t]) :: (D, o) :: (Rw, listOf vs.toArray c) :: X) → AnsTup (rowInts row) (ans kind lim row e) o → Q (.ref D') { s with heap := h', toks := tk }) :
  wpAny (model Challenge.rw_ev0028_01.row.prog w) (ktrTop dp un gd cn cs L a ccd cl outer) (call (.ref 117) [.int kind t1, .int lim t2, .ref Rw, .bool e]) Q E s := by
  have hz' : (rowInts row).length ≤ 1000 := by rw [rowInts_len]; exact hz
  have hr := rowInts_small row
  match kind, hkd with
  | 0, _ => exact due_0 KX T B hk F N hi hr hz' hlim hd hu fun a h' tk D D' j t o ha hj F' N' ht => by subst hj; rw [ansI_row] at ha; subst ha; exact hQ h' tk D D' t o F' N' ht
  | 1, _ => exact due_1 KX T B hk F N hi hr hz' hlim hd hu fun a h' tk D D' j t o ha hj F' N' ht => by subst hj; rw [ansI_row] at ha; subst ha; exact hQ h' tk D D' t o F' N' ht
  | 2, _ => exact due_2 KX T B hk F N hi hr hz' hlim hd hu fun a h' tk D D' j t o ha hj F' N' ht => by subst hj; rw [ansI_row] at ha; subst ha; exact hQ h' tk D D' t o F' N' ht
  | 3, _ => exact due_3 KX T B hk F N hi hr hz' hlim hd hu fun a h' tk D D' j t o ha hj F' N' ht => by subst hj; rw [ansI_row] at ha; subst ha; exact hQ h' tk D D' t o F' N' ht
  | 4, _ => exact due_4 KX T B hk F N hi hr hz' hlim hd hu fun a h' tk D D' j t o ha hj F' N' ht => by subst hj; rw [ansI_row] at ha; subst ha; exact hQ h' tk D D' t o F' N' ht
end
end Mine
end
section
open PySem PySem.W PySem.Calls PyProof.Rows
open PySem.Sem (wp)
set_option maxRecDepth 100000
namespace Mine
/-! an own class called, over clean contexts -/
section
variable {prog : Program} {w : World} {A : Around} {E : Value → Shared → Prop} {K : Frag} {C : Addr} {s : Shared} {h₀ : Heap} {L : Addr} {m : Str → Option Value} {news : List (Addr × Obj)} {R : Result → Shared → Prop}
theorem make_C {fI : Addr} (F : Fr h₀ L s.heap m) (N : News h₀ L s.heap news) (X : K.In s.heap) (hm : makesIn K C = true)
    (hi : findIn K (.ref C) "__init__" = some (some (.ref fI))) (hf : typeIn K (.ref fI) = some (.type "function"))
    (h : ∀ x dx h', Fr h₀ L h' m → News h₀ L h' ((x, instObj C dx) :: (dx, emptyDict) :: news) → (∀ p ∈ news, p.1 < dx) → dx < x → s.heap.objs.size ≤ dx →
      codeC (model prog w) (A.under (.builtin "type.__call__" ⟨[.ref C], []⟩)) (.call (.ref fI) ⟨[.ref x], []⟩) (InitBack x R) { s with heap := h' }) :
    codeC (model prog w) A (.call (.ref C) ⟨[], []⟩) R s := by
  obtain ⟨hh, g, d, t, os⟩ := s
  have Y := makes_of (M := model prog w) X hm
  have Y' := Y
  have hin := looks_findIn (M := model prog w) X hi
  have hbi : ∀ self, Looks (model prog w) hh (bindSpecial (.ref fI) self) (.ref fI, [self]) := fun self => bind_fn X self hf
  obtain ⟨⟨oc, od, cd, sl, hC, e1, e2, e4⟩, made, base, self, top, call, typ⟩ := Y
  refine codeC_of_tree rfl ?_
  show wpC _ _ (callAny (.ref C) _) _ _ _
  simp only [callAny]
  refine wpC_anyBind (wpAny_load hC ?_)
  dsimp only
  unfold callAny.viaDunder
  refine wpC_anyBind (call.at ?_)
  dsimp only
  rw [tc_bind]
  refine wpC_bind (wpC_pure ?_)
  dsimp only
  refine wpC_anyBind (wpAny_of_eq (a := true) rfl ?_)
  refine wpC_pure (a := Fin.again (.call (.builtin "type.__call__") ⟨[.ref C], []⟩)) (And.intro rfl ?_)
  refine codeC_of_tree rfl ?_
  show wpC _ _ (do checkBuiltinCall "type.__call__" ⟨[.ref C], []⟩; again (.builtin "type.__call__" ⟨[.ref C], []⟩)) _ _ _
  refine wpC_anyBind (check_slot tc_kind tc_split typ (tc_args _ _ _) ?_)
  refine wpC_pure ⟨Code.quiet_builtin _ (by decide +kernel), codeC_builtin rfl entry_typeCall ?_⟩
  unfold Builtin.«type.__call__»
  have hm2 : Looks (model prog w) hh (mroOf (.ref C)) cd.mro := ((Looks.ld (part := none) hC).andThen .now).andThen .now
  dsimp only
  refine wpC_ite (fun e => absurd (eq_of_beq e) (by intro h; cases h)) fun _ => ?_
  refine wpC_anyBind (hm2.at ?_)
  refine wpC_ite (fun e => absurd (e4.symm.trans e) (by decide)) fun _ => ?_
  refine wpC_anyBind (made.at ?_)
  dsimp only
  refine wpC_bind (wpC_pure ?_)
  refine wpC_bind (wpC_holding (wpC_any (wpAny_call ?_)))
  refine new_K Y' hin (.inl rfl) ?_
  have k : ∀ b o, hh.get? b = some o → ((hh.push emptyDict).push (instObj C hh.objs.size)).get? b = some o := fun b o e => Heap.get?_push_of_some _ (Heap.get?_push_of_some _ e)
  have hx : ((hh.push emptyDict).push (instObj C hh.objs.size)).get? (hh.objs.size + 1) = some (instObj C hh.objs.size) := by heap_get
  have t1 : Looks (model prog w) ((hh.push emptyDict).push (instObj C hh.objs.size)) (typeOf (.ref (hh.objs.size + 1))) (.ref C) := (Looks.ld hx).andThen .now
  have s1 := self.keeps k
  have i1 := hin.keeps k
  have b1 := (hbi (.ref (hh.objs.size + 1))).keeps k
  show wpC _ _ (isInstance (.ref (hh.objs.size + 1)) (.ref C) >>= fun b => _) _ _ _
  have hI : Looks (model prog w) ((hh.push emptyDict).push (instObj C hh.objs.size)) (isInstance (.ref (hh.objs.size + 1)) (.ref C)) true := by unfold isInstance; exact t1.andThen s1
  have hS : Looks (model prog w) ((hh.push emptyDict).push (instObj C hh.objs.size)) (specialOf (.ref (hh.objs.size + 1)) "__init__") (some (.ref fI)) := by unfold specialOf; exact t1.andThen i1
  refine wpC_anyBind (hI.at ?_)
  refine wpC_ite (fun e => absurd e (by decide)) fun _ => ?_
  refine wpC_bind (wpC_holding ?_)
  simp only [callSpecial?]
  refine wpC_anyBind (hS.at ?_)
  dsimp only
  refine wpC_holding (wpC_anyBind (b1.at ?_))
  dsimp only
  refine wpC_bind (wpC_call ?_)
  have F2 : Fr h₀ L ((hh.push emptyDict).push (instObj C hh.objs.size)) m := (F.push _).push _
  have N2 : News h₀ L ((hh.push emptyDict).push (instObj C hh.objs.size)) ((hh.objs.size + 1, instObj C hh.objs.size) :: (hh.objs.size, emptyDict) :: news) := by
    have := (N.push F emptyDict).push (F.push _) (instObj C hh.objs.size)
    rwa [Heap.size_push] at this
  refine codeC_mono (h _ _ _ F2 N2 (fun p hp => Heap.lt_size (N p hp).1) (Nat.lt_succ_self _) (Nat.le_refl _)) fun r s' z => ?_
  rcases r with e | (v | _ | _ | _) <;> first | exact z | exact z.elim | skip
  obtain ⟨rfl, z⟩ := z
  refine wpC_pure ?_
  dsimp only
  refine wpC_ite (fun e => absurd e (by decide)) fun _ => ?_
  exact wpC_any (wpAny_pure z)
end
end Mine
end
section
open PySem PySem.W PySem.Calls PyProof.Rows
set_option maxRecDepth 100000
namespace Mine
local macro_rules | `(tactic| walk_at "getMethod ref") => `(tactic| (k_here; (with_reducible show wpAny _ _ (getMethod (Value.ref _) (PySem.Str.ofString "find") _) _ _ _); k_dflt (refine' ba_getMethod_find (News.get ?k1 ?k2) ?_; (case k1 => k_asm); (case k2 => k_mem); k_whole)))
local macro_rules | `(tactic| walk_at "call builtin:bytearray.find") => `(tactic| (k_here; k_dflt (refine' ba_find (News.get ?k1 ?k2) ?k3 ?_; (case k1 => k_asm); (case k2 => k_mem); (case k3 => first | assumption | omega); k_whole)))
local macro_rules | `(tactic| walk_at "call builtin:len") => `(tactic| (k_here; (with_reducible show wpAny _ _ (call (Value.builtin "len") [Value.ref _]) _ _ _); k_dflt (refine' ba_len (News.get ?k1 ?k2) ?k3 ?_; (case k1 => k_asm); (case k2 => k_mem); (case k3 => first | assumption | omega); k_whole)))
local macro_rules | `(tactic| walk_at "subscriptTail") => `(tactic| (k_here; (with_reducible show wpAny _ _ (subscriptTail _ (Expr.Slice _ _ _ _) (Value.ref _) (Value.ref _)) _ _ _); k_dflt (refine' ba_cut_K ?F ?N ?m ?c ?p ?z ?_ ?sub; (case F => k_asm); (case N => k_asm); (case m => k_mem); (case c => assumption); (case p => first | exact IsPart.none | constructor); (case z => omega); (case sub => with_unfolding_all rfl)); intro _ _ _ _ _ _))
local macro_rules | `(tactic| walk_at "call type:EOFError") => `(tactic| (refine raise3 .eof ?_; intro _ _ _))
local macro_rules | `(tactic| walk_at "joinParts") => `(tactic| (k_here; (first | (with_reducible show wpAny _ _ (joinParts _ []) _ _ _) | (with_reducible show wpAny _ _ (joinParts _ (evalEach [] _)) _ _ _)); k_dflt (refine' joinParts_nil ?_ ?hz; (case hz => first | with_reducible exact readText (by omega) (by omega) (by omega) (by omega) | with_reducible exact eofText (by omega) | with_reducible exact eofText2 (by omega) (by omega) (by omega)))))
local macro_rules | `(tactic| walk_at "truthy ref") => `(tactic| (k_here; k_dflt (refine' ba_truthy (News.get ?k1 ?k2) ?k3 ?_; (case k1 => k_asm); (case k2 => k_mem); (case k3 => first | assumption | omega); k_whole)))

theorem wpC_AssignAttr {M : Model} {A : Around} {E : Value → Shared → Prop} {s : Shared} {env : Env} {o value : Expr} {attr : Str} {pos' pos : Pos} {Q : Flow → Shared → Prop}
    (h : wpC M A (eval value env) (fun v s₁ => wpAny M A (eval o env) (fun ov s₂ => wpAny M A (setAttr ov attr v) (fun _ => Q .next) E s₂) E s₁) E s)
    (hs : swapsWith value (some (.Attribute o attr pos')) pos.line env = pure false := by rfl) :
    wpC M A (exec (.Assign [.Attribute o attr pos'] value pos) env) Q E s := fun Γ p hΓ hc => by
  simp only [plainObj_exec_Assign_Attribute o attr pos' value pos hs, assign_Attribute, Sem.wp_bind', Sem.wp_holding, Sem.wp_cmd_standAt, Sem.wp_release, Sem.wp_pure']
  exact Sem.wp_mono M Γ _ (fun v p₁ s₁ h₁ => Sem.wp_mono M Γ _ (fun ov _ s₂ h₂ => h₂ Γ _ hΓ) (fun _ _ _ h' => h') _ _ (h₁ Γ p₁ hΓ)) (fun _ _ _ h' => h') _ _ (h Γ _ hΓ hc)
theorem wpC_callWith_T0 {M : Model} {A : Around} {E : Value → Shared → Prop} {s : Shared} {env : Env} {pos : Pos} {T : String} {first : List Value} {Q : Value → Shared → Prop} (h : wpC M A (call (.type T) (first ++ [])) Q E s) : wpC M A (callWith pos (.type T) first (backTo pos (starEach [] env)) []) Q E s :=
  wpC_callWith_of (P := fun _ => True) (env := env) rfl (fun h _ => ⟨.machine, .inr (.inl rfl), Looks.of_pure rfl⟩) (evalArgs_nil3 ⟨trivial, h⟩)
section
variable {w : World} {s : Shared} {A : Around} {h₀ : Heap} {Lg x dx B : Nat} {u mg mb : Str → Option Value} {mean : ExcName → Option Value} {Q : Flow → Shared → Prop} {E : Value → Shared → Prop} {hb : Int} {tb : Tok} {X : List (Addr × Obj)}

set_option maxHeartbeats 0 in
theorem ini_S0 (KX : (hd.heap_39 w.params).In h₀) (T : Top hd.view_39 (looseW hd.view_39 [Str.ofString "StreamReader"]) mean mg mb h₀)
  (F : Fr h₀ Lg s.heap u) (H : Has u [(Str.ofString "self", .ref x)]) (N : News h₀ Lg s.heap ((x, instObj 82 dx) :: (dx, emptyDict) :: X)) (hxd : x ≠ dx) (hX : ∀ p ∈ X, p.1 ≠ dx)
  (hQ : ∀ h' tk B hb tb u', Fr h₀ Lg h' u' → Has u' [(Str.ofString "self", .ref x)] → News h₀ Lg h' ((B, baObj []) :: (x, instObj 82 dx) :: (dx, dictOf [⟨hb, .str (Str.ofString "buffer") tb, .ref B⟩] 1) :: X) → (∀ p ∈ (x, instObj 82 dx) :: (dx, emptyDict) :: X, p.1 < B) → Q .next { s with heap := h', toks := tk }) :
  wpC (model Challenge.rw_ev0028_01.row.prog w) A (exec iniS0 (envOf (Str.ofString "StreamReader.__init__") iniScope Lg 28 (.ref 27))) Q E s := by
  replace F := frHas F H
  dsimp only [chainTo] at F
  unfold iniS0; dsimp only
  refine wpC_AssignAttr (wpC_Call_Name ?_)
  revert KX; k_fill; intro KX
  w_strict (k_steps)
  · refine wpC_callWith_T0 (ba_new fun h1 B hBe k1 hn hB => ?_)
    have F0 := (by assumption : Fr h₀ Lg s.heap _)
    have F1 := F0.keeps k1
    have hLB : Lg < B := hBe ▸ F0.ns.lt
    have N1 : News h₀ Lg s.heap ((x, instObj 82 dx) :: (dx, dictOf [] 0) :: X) := N
    have lt1 : ∀ p ∈ (x, instObj 82 dx) :: (dx, emptyDict) :: X, p.1 < B := fun p hp => hBe ▸ Heap.lt_size (N p hp).1
    have N2 : News h₀ Lg h1 ((B, baObj []) :: (x, instObj 82 dx) :: (dx, dictOf [] 0) :: X) := fun p hp => by
      rcases List.mem_cons.mp hp with rfl | hp
      · exact ⟨hB, Nat.ne_of_gt hLB, Heap.get?_none_of_le (Nat.le_trans F0.above (Nat.le_of_lt hLB))⟩
      · exact ⟨k1 _ _ (N1 p hp).1, (N1 p hp).2⟩
    clear N1
    w_strict (k_steps)
    refine' set_dict (es' := [⟨PyData.keyHash w.params (Str.ofString "buffer"), .str (Str.ofString "buffer") (s.toks + 1), .ref B⟩]) (n' := 1) (news' := (B, baObj []) :: (x, instObj 82 dx) :: (dx, dictOf [⟨PyData.keyHash w.params (Str.ofString "buffer"), .str (Str.ofString "buffer") (s.toks + 1), .ref B⟩] 1) :: X) ?k1 ?k2 ?k3 ?k4 ?k5 ?k6 ?k7 ?k8 ?k9 ?k10 ?k11 ?k12 ?k13 ?_
    case k1 => exact F1
    case k2 => exact KX
    case k3 => exact N2
    case k4 => k_inst
    case k5 => exact rfl
    case k6 => k_is
    case k7 => k_is
    case k8 => k_is
    case k9 => k_is
    case k10 => with_unfolding_all exact rfl
    case k11 => with_unfolding_all exact rfl
    case k12 => exact Upd.tail (Nat.ne_of_gt (lt1 (dx, _) (.tail _ (.head _)))) (Upd.tail hxd (Upd.head hX))
    case k13 => exact Nat.le_of_ble_eq_true rfl
    intro h' F' N'
    exact hQ _ _ _ _ _ _ F' ⟨by with_unfolding_all exact rfl, trivial⟩ N' lt1

set_option maxHeartbeats 0 in
theorem ini_S1 (KX : (hd.heap_39 w.params).In h₀) (T : Top hd.view_39 (looseW hd.view_39 [Str.ofString "StreamReader"]) mean mg mb h₀)
  (F : Fr h₀ Lg s.heap u) (H : Has u [(Str.ofString "self", .ref x)]) (N : News h₀ Lg s.heap ((B, baObj []) :: (x, instObj 82 dx) :: (dx, dictOf [⟨hb, .str (Str.ofString "buffer") tb, .ref B⟩] 1) :: X)) (hBd : B ≠ dx) (hxd : x ≠ dx) (hX : ∀ p ∈ X, p.1 ≠ dx)
  (hQ : ∀ h' tk he te u', Fr h₀ Lg h' u' → News h₀ Lg h' ((B, baObj []) :: (x, instObj 82 dx) :: (dx, dictOf [⟨hb, .str (Str.ofString "buffer") tb, .ref B⟩, ⟨he, .str (Str.ofString "eof") te, .bool false⟩] 2) :: X) → Q .next { s with heap := h', toks := tk }) :
  wpAny (model Challenge.rw_ev0028_01.row.prog w) A (execs [iniS1] (envOf (Str.ofString "StreamReader.__init__") iniScope Lg 28 (.ref 27))) Q E s := by
  replace F := frHas F H
  dsimp only [chainTo] at F
  unfold iniS1; dsimp only
  revert KX; k_fill; intro KX
  w_strict (k_steps)
  refine' set_dict (es' := [⟨hb, .str (Str.ofString "buffer") tb, .ref B⟩, ⟨PyData.keyHash w.params (Str.ofString "eof"), .str (Str.ofString "eof") (s.toks + 1), .bool false⟩]) (n' := 2) (news' := (B, baObj []) :: (x, instObj 82 dx) :: (dx, dictOf [⟨hb, .str (Str.ofString "buffer") tb, .ref B⟩, ⟨PyData.keyHash w.params (Str.ofString "eof"), .str (Str.ofString "eof") (s.toks + 1), .bool false⟩] 2) :: X) ?k1 ?k2 ?k3 ?k4 ?k5 ?k6 ?k7 ?k8 ?k9 ?k10 ?k11 ?k12 ?k13 ?_
  case k1 => assumption
  case k2 => exact KX
  case k3 => exact N
  case k4 => k_inst
  case k5 => exact rfl
  case k6 => k_is
  case k7 => k_is
  case k8 => k_is
  case k9 => k_is
  case k10 => with_unfolding_all exact rfl
  case k11 => with_unfolding_all exact rfl
  case k12 => exact Upd.tail hBd (Upd.tail hxd (Upd.head hX))
  case k13 => exact Nat.le_of_ble_eq_true rfl
  intro h' F' N'
  exact wpAny_execs_nil (hQ _ _ _ _ _ F' N')
end
end Mine
end
section
open PySem PySem.W PySem.Calls PyProof.Rows
set_option maxRecDepth 100000
namespace Mine
section
variable {w : World} {s : Shared} {h₀ : Heap} {L dp un a : Nat} {cn : Str} {cs : Scope} {ccd : Value} {cl : List (Str × Addr)} {gd : Option (List Code)} {outer : List Env} {m mg mb : Str → Option Value} {mean : ExcName → Option Value} {Q E : Value → Shared → Prop} {X : List (Addr × Obj)}
set_option maxHeartbeats 0 in
theorem reader_C (KX : (hd.heap_39 w.params).In h₀) (T : Top hd.view_39 (looseW hd.view_39 [Str.ofString "StreamReader"]) mean mg mb h₀)
    (F : Fr h₀ L s.heap m) (N : News h₀ L s.heap X) (hdp : dp + 3 < recursionLimit)
    (hQ : ∀ h' tk R Rd B hb he tb te, Fr h₀ L h' m → News h₀ L h' (led R Rd B hb he tb te 2 false [] X) → (∀ p ∈ X, p.1 < Rd) → Rd < R → R < B → Q (.ref R) { s with heap := h', toks := tk }) :
    wpC (model Challenge.rw_ev0028_01.row.prog w) (ktrTop dp un gd cn cs L a ccd cl outer) (call (.ref 82) []) Q E s := by
  have KX₀ := KX
  revert KX; k_fill; intro KX
  refine wpC_call (make_C (K := hd.heap_39 w.params) (fI := 28) F N (KX.keeps F.keep) (by k_is) (by k_is) (by k_is) fun x dx h1 F1 N1 lt1 hlt hsz => ?_)
  refine' callC_u (s := { s with heap := h1 }) (binds := [(Str.ofString "self", .ref x)]) ?F ?N ?X ?lim ?ho ?hcd ?room ?bind ?loc ?_ ?cell ?co ?gen ?k
  case F => exact F1
  case N => exact N1
  case X => exact KX
  case lim => exact T.nolimit
  case ho => k_is
  case hcd => k_is
  case room => show dp + 1 < _; omega
  case bind => exact BindsTo.of_eq rfl
  case loc => exact locs rfl
  case co => exact rfl
  case gen => exact rfl
  case k => exact rfl
  case cell => decide
  intro oL h₂ hL hLd F₂ N₂ ns lt
  have N₂' : News h₀ h1.objs.size h₂ ((x, instObj 82 dx) :: (dx, emptyDict) :: (L, oL) :: X) := newsSub N₂ fun p hp => by
    rcases List.mem_cons.mp hp with rfl | hp
    · exact .tail _ (.head _)
    rcases List.mem_cons.mp hp with rfl | hp
    · exact .tail _ (.tail _ (.head _))
    rcases List.mem_cons.mp hp with rfl | hp
    · exact .head _
    · exact .tail _ (.tail _ (.tail _ hp))
  have hxd : x ≠ dx := Nat.ne_of_gt hlt
  have hXd : ∀ p ∈ (L, oL) :: X, p.1 ≠ dx := fun p hp => by
    rcases List.mem_cons.mp hp with rfl | hp
    · exact Nat.ne_of_lt (Nat.lt_of_lt_of_le F.ns.lt hsz)
    · exact Nat.ne_of_lt (lt1 p hp)
  refine wpC_cons (ini_S0 (s := { s with heap := h₂, toks := _ }) KX₀ T F₂ ⟨by with_unfolding_all exact rfl, trivial⟩ N₂' hxd hXd fun h3 tk3 B hb tb u3 F3 H3 N3 lt3 => ?_)
  refine wpC_walk (ini_S1 (s := { s with heap := h3, toks := tk3 }) KX₀ T F3 H3 N3 (Nat.ne_of_gt (lt3 (dx, _) (.tail _ (.head _)))) hxd hXd fun h4 tk4 he te u4 F4 N4 => ?_)
  refine wpC_execs_nil ?_
  have hxL : L < dx := Nat.lt_of_lt_of_le F.ns.lt hsz
  have hxB : x < B := lt3 (x, _) (.head _)
  obtain ⟨F5, N5⟩ := back_to (sl := oL.slots) (news := led x dx B hb he tb te 2 false [] X) F ns F4 N4 (.tail _ (.tail _ (.tail _ (.head _)))) (fun p hp => by
    rcases List.mem_cons.mp hp with rfl | hp
    · exact .tail _ (.head _)
    rcases List.mem_cons.mp hp with rfl | hp
    · exact .tail _ (.tail _ (.head _))
    rcases List.mem_cons.mp hp with rfl | hp
    · exact .head _
    · exact .tail _ (.tail _ (.tail _ (.tail _ hp)))) (fun p hp => by
    rcases List.mem_cons.mp hp with rfl | hp
    · exact Nat.ne_of_gt (Nat.lt_trans hxL hlt)
    rcases List.mem_cons.mp hp with rfl | hp
    · exact Nat.ne_of_gt hxL
    rcases List.mem_cons.mp hp with rfl | hp
    · exact Nat.ne_of_gt (Nat.lt_trans (Nat.lt_trans hxL hlt) hxB)
    · exact (N p hp).2.1)
  exact ⟨rfl, hQ h4 tk4 x dx B hb he tb te F5 N5 lt1 hlt hxB⟩
end
end Mine
end
section
open PySem PySem.W PySem.Calls PyProof.Rows
set_option maxRecDepth 100000
namespace Mine
section
variable {w : World} {s : Shared} {A₀ : Around} {base h₀ : Heap} {L S D dp un a : Nat} {cn : Str} {cs : Scope} {ccd : Value} {cl : List (Str × Addr)} {gd : Option (List Code)} {outer : List Env} {m mg mb : Str → Option Value} {mean : ExcName → Option Value} {Q E : Value → Shared → Prop}
  {place lcg n : Int} {tp tl tn : Tok} {ds : List Value} {ns : List Int} {c1 c2 : Nat} {l : List (Addr × Obj)} {g : Obj → List (Addr × Obj)}
/-- _law_next(state, n), wherever the state list stands in the ledger -/
theorem next_K (KX : (hd.heap_39 w.params).In h₀) (T : Top hd.view_39 (looseW hd.view_39 [Str.ofString "StreamReader"]) mean mg mb h₀) (B : Below A₀ base outer h₀)
  (hk : cs.kind = .function) (F : Fr h₀ L s.heap m) (N : News h₀ L s.heap l) (hD : (D, listOf ds.toArray c2) ∈ l) (U : UpdF S (stObj D place lcg tp tl c1) l g) (hi : IntsAre ds ns)
  (hp : 0 ≤ place) (hl : 0 ≤ lcg) (hl2 : lcg < 65537) (hlen : ns.length ≤ 60) (hn : 0 < n) (hn2 : n < 1000) (hd : dp + 5 < recursionLimit) (hu : un + 40 < cLine)
  (hQ : ∀ h' tk v tv place' lcg' tp' tl', Fr h₀ L h' m → News h₀ L h' (g (stObj D place' lcg' tp' tl' c1)) → 0 ≤ v → v < n → 0 ≤ place' → 0 ≤ lcg' → lcg' < 65537 → Q (.int v tv) { s with heap := h', toks := tk }) :
  wpAny (model Challenge.rw_ev0028_01.row.prog w) (ktrTop dp un gd cn cs L a ccd cl outer) (call (.ref 98) [.ref S, .int n tn]) Q E s := by
  obtain ⟨pre, post, rfl, hg, h1, h2⟩ := U.split
  have hDm : (D, listOf ds.toArray c2) ∈ pre ++ post := by
    rcases List.mem_append.mp hD with h | h
    · exact List.mem_append_left _ h
    rcases List.mem_cons.mp h with h | h
    · have := congrArg (fun p => p.2.data) h
      have e : ds.toArray = #[.ref D, .int place tp, .int lcg tl] := by
        injection this
      exfalso
      have e2 : ds = [.ref D, .int place tp, .int lcg tl] := by simpa using congrArg Array.toList e
      rw [e2] at hi
      cases hi
    · exact List.mem_append_right _ h
  have hSD : ∀ p ∈ pre ++ post, p.1 ≠ S := fun p hp => by
    rcases List.mem_append.mp hp with hp | hp
    · exact h1 p hp
    · exact h2 p hp
  have N' : News h₀ L s.heap ((S, stObj D place lcg tp tl c1) :: (D, listOf ds.toArray c2) :: (pre ++ post)) := newsSub N fun p hp => by
    rcases List.mem_cons.mp hp with rfl | hp
    · exact List.mem_append_right _ (.head _)
    rcases List.mem_cons.mp hp with rfl | hp
    · exact hD
    rcases List.mem_append.mp hp with hp | hp
    · exact List.mem_append_left _ hp
    · exact List.mem_append_right _ (.tail _ hp)
  refine next_law KX T B hk F N' hi (fun p hp => ?_) hp hl hl2 hlen hn hn2 hd hu fun h' tk v tv place' lcg' tp' tl' F' N2 a1 a2 a3 a4 a5 => hQ h' tk v tv place' lcg' tp' tl' F' (newsSub N2 fun p hp => ?_) a1 a2 a3 a4 a5
  · rcases List.mem_cons.mp hp with rfl | hp
    · exact hSD _ hDm
    · exact hSD _ hp
  · rw [hg] at hp
    rcases List.mem_append.mp hp with hp | hp
    · exact .tail _ (.tail _ (List.mem_append_left _ hp))
    rcases List.mem_cons.mp hp with rfl | hp
    · exact .head _
    · exact .tail _ (.tail _ (List.mem_append_right _ hp))
end
end Mine
end
section
open PySem PySem.W PySem.Calls PyProof.Rows
set_option maxRecDepth 100000
namespace Mine
local macro_rules | `(tactic| walk_at "call ref") => `(tactic| (k_here; (with_reducible show wpAny _ _ (call (Value.ref 98) [Value.ref _, Value.int _ _]) _ _ _); k_dflt (refine' next_K ?KX ?T ?B ?hk ?F ?N ?hD ?U ?hi ?hp ?hl ?hl2 ?hlen ?hn ?hn2 ?hd ?hu ?_; (case KX => assumption); (case T => assumption); (case B => assumption); (case hk => rfl); (case F => k_asm); (case N => k_asm); (case U => first | exact UpdF.head (by assumption) | exact UpdF.tail (by k_ne) (UpdF.head (by assumption)) | exact UpdF.tail (by k_ne) (UpdF.tail (by k_ne) (UpdF.head (by assumption))) | exact UpdF.tail (by k_ne) (UpdF.tail (by k_ne) (UpdF.tail (by k_ne) (UpdF.head (by assumption)))) | exact UpdF.tail (by k_ne) (UpdF.tail (by k_ne) (UpdF.tail (by k_ne) (UpdF.tail (by k_ne) (UpdF.head (by assumption)))))); (case hD => k_mem); (case hi => assumption); (case hp => assumption); (case hl => assumption); (case hl2 => assumption); (case hlen => assumption); (case hn => decide); (case hn2 => decide); (case hd => omega); (case hu => omega)); intro _ _ _ _ _ _ _ _ _ _ _ _ _ _ _))
abbrev lawE (L a : Addr) (ccd : Value) (Cl : Addr) : Env := envX (Str.ofString "law") lawScope L a ccd [(Str.ofString "state", Cl)]
abbrev lawA (dp un : Nat) (gd : Option (List Code)) (L a : Addr) (ccd : Value) (Cl : Addr) : Around := ktrTop dp un gd (Str.ofString "law") lawScope L a ccd [(Str.ofString "state", Cl)] []
/-- the state list, its cell, the script's ints and the rest -/
abbrev lawL (S : Addr) (st : Obj) (Cl : Addr) (oC : Obj) (D : Addr) (ds : List Value) (c2 : Nat) (X : List (Addr × Obj)) : List (Addr × Obj) := (S, st) :: (Cl, oC) :: (D, listOf ds.toArray c2) :: X

theorem news_tail {h₀ h : Heap} {L : Addr} {a : Addr × Obj} {l : List (Addr × Obj)} (N : News h₀ L h (a :: l)) : News h₀ L h l := fun p hp => N p (.tail _ hp)
/-- the element of a comprehension of pieces: some octet; the state list alone turns -/
def Elt (w : World) (A : Around) (h₀ : Heap) (L : Addr) (m : Str → Option Value) (env : Env) (elt : Expr) (scope : Scope) (cl : List (Str × Addr)) (S Cl : Addr) (oC : Obj) (D : Addr) (ds : List Value) (c1 c2 : Nat) (X : List (Addr × Obj)) : Prop :=
  ∀ (s : Shared) (place lcg : Int) (tp tl : Tok) (I : Addr) (oI : Obj) (C : Addr) (oCC : Obj) (Dl : Addr) (ys : List Value) (Q E : Value → Shared → Prop),
    Fr h₀ L s.heap m → News h₀ L s.heap ((I, oI) :: (C, oCC) :: (Dl, LCg.lst ys) :: lawL S (stObj D place lcg tp tl c1) Cl oC D ds c2 X) → @Ne Nat I S → @Ne Nat C S → @Ne Nat Dl S → 0 ≤ place → 0 ≤ lcg → lcg < 65537 →
    (∀ h' tk z t place' lcg' tp' tl', Fr h₀ L h' m → News h₀ L h' ((I, oI) :: (C, oCC) :: (Dl, LCg.lst ys) :: lawL S (stObj D place' lcg' tp' tl' c1) Cl oC D ds c2 X) → 0 ≤ z → z < 256 → 0 ≤ place' → 0 ≤ lcg' → lcg' < 65537 →
      Q (.int z t) { s with heap := h', toks := tk }) →
    wpAny (model Challenge.rw_ev0028_01.row.prog w) A (eval elt (compEnvC scope cl C env)) Q E s
theorem menu_lt {l : List Int} (hl : ∀ x ∈ l, 0 ≤ x ∧ x < 256) (i : Nat) : 0 ≤ l.getD i 0 ∧ l.getD i 0 < 256 := by
  rw [List.getD_eq_getElem?_getD]
  cases h : l[i]? with
  | none => simp
  | some x => exact hl x (List.mem_of_getElem? h)
theorem menu1 (i : Nat) : 0 ≤ [(10 : Int), 65, 66, 13].getD i 0 ∧ [(10 : Int), 65, 66, 13].getD i 0 < 256 := menu_lt (by decide) i
theorem menu2 (i : Nat) : 0 ≤ [(65 : Int), 66, 67, 10].getD i 0 ∧ [(65 : Int), 66, 67, 10].getD i 0 < 256 := menu_lt (by decide) i
section
variable {w : World} {A : Around} {s : Shared} {h₀ : Heap} {L : Addr} {m : Str → Option Value} {env : Env} {elt : Expr} {scope : Scope} {cl : List (Str × Addr)} {x : Str} {S Cl : Addr} {oC : Obj} {D : Addr} {ds : List Value} {c1 c2 : Nat} {X : List (Addr × Obj)}
theorem rest_comp {Fin : List Value → List (Addr × Obj) → Prop} {P : Nat → Value → Prop} (el : Elt w A h₀ L m env elt scope cl S Cl oC D ds c1 c2 X) :
    ∀ (k i : Nat) (ys : List Value) (zs : List Int) (place lcg : Int) (tp tl : Tok), IntsAre ys zs → (∀ z ∈ zs, 0 ≤ z ∧ z < 256) → 0 ≤ place → 0 ≤ lcg → lcg < 65537 →
      (∀ ys' zs' place' lcg' tp' tl', IntsAre ys' zs' → (∀ z ∈ zs', 0 ≤ z ∧ z < 256) → zs'.length = zs.length + k → 0 ≤ place' → 0 ≤ lcg' → lcg' < 65537 → Fin ys' (lawL S (stObj D place' lcg' tp' tl' c1) Cl oC D ds c2 X)) →
      LCg.CompRest Challenge.rw_ev0028_01.row.prog w A h₀ L m env elt x scope cl s (fun _ => True) P Fin k i ys (lawL S (stObj D place lcg tp tl c1) Cl oC D ds c2 X)
  | 0, i, ys, zs, place, lcg, tp, tl, hi, hz, a1, a2, a3, fin => fin ys zs place lcg tp tl hi hz rfl a1 a2 a3
  | k + 1, i, ys, zs, place, lcg, tp, tl, hi, hz, a1, a2, a3, fin => LCg.CompRest.succ fun v I oI C oCC Dl m₂ h tk E' _ _ _ F N off _ =>
    el { s with heap := h, toks := tk } place lcg tp tl I oI C oCC Dl ys _ _ F N (Ne.symm off.1.1) (Ne.symm off.1.2.1) (Ne.symm off.1.2.2) a1 a2 a3 fun h' tk' z t place' lcg' tp' tl' F' N' z0 z1 b1 b2 b3 =>
      LCg.CompEnd.intro (s₁ := { s with heap := h, toks := tk }) F' N' (lawL S (stObj D place' lcg' tp' tl' c1) Cl oC D ds c2 X) (fun p hp => hp) off trivial
        (rest_comp el k (i + 1) (ys ++ [.int z t]) (zs ++ [z]) place' lcg' tp' tl' (IntsAre.append hi (.cons z t .nil)) (fun y hy => by
          rcases List.mem_append.mp hy with hy | hy
          · exact hz y hy
          · rw [List.mem_singleton.mp hy]; exact ⟨z0, z1⟩) b1 b2 b3 fun ys' zs' p' l' tp' tl' hi' hz' hlen => fin ys' zs' p' l' tp' tl' hi' hz' (by rw [hlen, List.length_append, List.length_singleton]; omega))
theorem src_piece {r : Addr} {b : Int} {t u v : Tok} {place lcg : Int} {tp tl : Tok} {s₁ : Shared} {Q : Value → Shared → Prop} (hh : A.handled = none) (el : Elt w A h₀ L m env elt scope cl S Cl oC D ds c1 c2 X) (F : Fr h₀ L s₁.heap m)
    (N : News h₀ L s₁.heap (lawL S (stObj D place lcg tp tl c1) Cl oC D ds c2 X)) (hr : IsRange s₁.heap r 0 b 1 t u v) (hb0 : 0 ≤ b) (hb : b ≤ 10) (a1 : 0 ≤ place) (a2 : 0 ≤ lcg) (a3 : lcg < 65537)
    (fin : ∀ h' tk Dl ys zs place' lcg' tp' tl', Fr h₀ L h' m → News h₀ L h' ((Dl, LCg.lst ys) :: lawL S (stObj D place' lcg' tp' tl' c1) Cl oC D ds c2 X) → @Ne Nat Dl S → IntsAre ys zs → (∀ z ∈ zs, 0 ≤ z ∧ z < 256) → zs.length = b.toNat → zs.length ≤ 10 → 0 ≤ place' → 0 ≤ lcg' → lcg' < 65537 →
      Q (.ref Dl) { s₁ with heap := h', toks := tk }) :
    LCg.CompSrc Challenge.rw_ev0028_01.row.prog w A h₀ L m env elt x scope cl (fun s₂ => LCg.FinE h₀ L m s₂ Q) (.ref r) s₁ := by
  refine LCg.CompSrc.range hh F N hr (small_one (by decide) (by decide) (by omega) (by omega)) (rangeSize_nat _ _) (by rw [sizeLine_eq]; omega) fun g => ?_
  refine rest_comp el _ 0 [] [] place lcg tp tl .nil (fun _ h => nomatch h) a1 a2 a3 fun ys zs place' lcg' tp' tl' hi hz hlen b1 b2 b3 D' h' tk F' N' off => ?_
  exact fin h' tk D' ys zs place' lcg' tp' tl' F' N' (Ne.symm off.1) hi hz (by rw [hlen]; simp) (by rw [hlen]; simp; omega) b1 b2 b3
end
section
variable {w : World} {A₀ : Around} {base h₀ : Heap} {L S D Cl dp un a : Nat} {oC : Obj} {ccd : Value} {gd : Option (List Code)} {m mg mb : Str → Option Value} {mean : ExcName → Option Value} {ds : List Value} {ns : List Int} {c1 c2 : Nat} {X : List (Addr × Obj)}

set_option maxHeartbeats 0 in
theorem elt_1 (KX : (hd.heap_39 w.params).In h₀) (T : Top hd.view_39 (looseW hd.view_39 [Str.ofString "StreamReader"]) mean mg mb h₀) (B₀ : Below A₀ base [] h₀) (hS : ∀ p ∈ (Cl, oC) :: (D, listOf ds.toArray c2) :: X, p.1 ≠ S) (hC : oC.data = .cell (some (.ref S))) (hi : IntsAre ds ns) (hlen : ns.length ≤ 60) (hd : dp + 20 < recursionLimit) (hu : un + 200 < cLine) :
    Elt w (lawA dp un gd L a ccd Cl) h₀ L m (lawE L a ccd Cl) elt1 csc1 [(Str.ofString "state", Cl)] S Cl oC D ds c1 c2 X := by
  intro s place lcg tp tl I oI C oCC Dl ys Q E F N hIS hCS hDS hp hl hl2 hQ
  dsimp only [lawL, led] at N
  unfold elt1; dsimp only
  revert KX; k_fill; intro KX
  w_strict (k_steps)
  · exact hQ _ _ _ _ _ _ _ _ (by assumption) (by first | assumption | exact news_tail (by assumption)) (menu1 _).1 (menu1 _).2 (by assumption) (by assumption) (by assumption)

set_option maxHeartbeats 0 in
theorem elt_2 (KX : (hd.heap_39 w.params).In h₀) (T : Top hd.view_39 (looseW hd.view_39 [Str.ofString "StreamReader"]) mean mg mb h₀) (B₀ : Below A₀ base [] h₀) (hS : ∀ p ∈ (Cl, oC) :: (D, listOf ds.toArray c2) :: X, p.1 ≠ S) (hC : oC.data = .cell (some (.ref S))) (hi : IntsAre ds ns) (hlen : ns.length ≤ 60) (hd : dp + 20 < recursionLimit) (hu : un + 200 < cLine) :
    Elt w (lawA dp un gd L a ccd Cl) h₀ L m (lawE L a ccd Cl) elt2 csc2 [(Str.ofString "state", Cl)] S Cl oC D ds c1 c2 X := by
  intro s place lcg tp tl I oI C oCC Dl ys Q E F N hIS hCS hDS hp hl hl2 hQ
  dsimp only [lawL, led] at N
  unfold elt2; dsimp only
  revert KX; k_fill; intro KX
  w_strict (k_steps)
  · exact hQ _ _ _ _ _ _ _ _ (by assumption) (by first | assumption | exact news_tail (by assumption)) (menu2 _).1 (menu2 _).2 (by assumption) (by assumption) (by assumption)
end
end Mine
end
section
open PySem PySem.W PySem.Calls PyProof.Rows
set_option maxRecDepth 100000
namespace Mine
section
variable {prog : Program} {w : World} {A : Around} {E : Value → Shared → Prop} {s : Shared}
theorem gen_make {Q : Value → Shared → Prop} {h₀ : Heap} {L : Addr} {m : Str → Option Value} {news : List (Addr × Obj)} {K : Frag} {name qual : Str} {params : Arguments} {body : List Stmt} {scope : Scope} {dV kV doc pm cdv ct oc : Value} {an od : Option Addr} {osl : Array (Option Value)} {f : Addr} {pos : List Value} {binds : List (Str × Value)}
    (F : Fr h₀ L s.heap m) (N : News h₀ L s.heap news) (X : K.In h₀) (hlim : h₀.NoLimit)
    (ho : K.lookup f = some ⟨oc, od, .func (fnOf name qual params body scope dV kV doc pm an cdv ct), osl⟩) (hcd : codeIn K cdv qual = true) (hroom : A.depth < recursionLimit)
    (hbind : BindsTo s (fnOf name qual params body scope dV kV doc pm an cdv ct) ⟨pos, []⟩ binds) (hloc : ∀ y ∈ binds, scope.names.lookup y.1 = some .local)
    (h : ∀ h' tk Lg oLg Gn nm qn, Fr h₀ L h' m → (∀ h'' : Heap, h''.get? Lg = some oLg → h''.Ns Lg (fun y => binds.reverse.lookup y)) → News h₀ L h' ((Gn, genO s.gens.size nm qn) :: (Lg, oLg) :: news) → (∀ p ∈ news, p.1 < Lg) → L < Lg → Lg < Gn →
      Q (.ref Gn) { s with heap := h', toks := tk, gens := s.gens.push (.fresh (.func body (envOf qual scope Lg f cdv))) })
    (hcell : ∀ x ∈ scope.names, x.2 ≠ .cell) (hco : scope.isCoroutine = false := by rfl) (hgen : scope.isGenerator = true := by rfl) (hk : scope.kind = .function := by rfl) :
    wpAny (model prog w) A (call (.ref f) pos) Q E s := by
  have X' := X.keeps F.keep
  refine wpAny_call (codeAny_call_generator (fd := fnOf name qual params body scope dV kV doc pm an cdv ct) (body := body) hroom (X' _ _ ho) rfl hco hgen rfl (codeRec_of X' hcd) (hbind _ _ _ _ ?_))
  refine wpAny_newFunctionEnv hcell hloc (fun h₁ hns hsb => ⟨(hlim.keeps F.keep).fresh _ hsb, ?_⟩) hk
  have hk₁ : ∀ b o, s.heap.get? b = some o → h₁.get? b = some o := fun b o e => hsb.extBut b o (Nat.ne_of_lt (Heap.lt_size e)) (Heap.get?_push_of_some _ e)
  have F1 : Fr h₀ L h₁ m := F.keeps hk₁
  obtain ⟨oG, es, ep, hG, hd, hkk, hf⟩ := id hns
  have hLL : L < s.heap.objs.size := F.ns.lt
  have N1 : News h₀ L h₁ ((s.heap.objs.size, oG) :: news) := fun p hp => by
    rcases List.mem_cons.mp hp with rfl | hp
    · exact ⟨hG, Nat.ne_of_gt hLL, Heap.get?_none_of_le (Nat.le_trans F.above (Nat.le_of_lt hLL))⟩
    · exact ⟨hk₁ _ _ (N p hp).1, (N p hp).2⟩
  exact h _ _ _ oG _ _ _ (F1.push _) (fun h'' q => ⟨_, es, ep, q, hd, hkk, hf⟩) (News.push F1 N1 _) (fun p hp => Heap.lt_size (N p hp).1) hLL hns.lt
end
end Mine
end
section
open PySem PySem.W PySem.Calls PyProof.Rows
set_option maxRecDepth 100000
namespace Mine
theorem news_pick6 {h₀ h : Heap} {L : Addr} {a b c d e f : Addr × Obj} (N : News h₀ L h [a, b, c, d, e, f]) : News h₀ L h [a, f, d] := fun p hp => by
  rcases List.mem_cons.mp hp with rfl | hp
  · exact N _ (.head _)
  rcases List.mem_cons.mp hp with rfl | hp
  · exact N _ (.tail _ (.tail _ (.tail _ (.tail _ (.tail _ (.head _))))))
  · rw [List.mem_singleton.mp hp]; exact N _ (.tail _ (.tail _ (.tail _ (.head _))))
theorem news_two {h₀ h : Heap} {L : Addr} {a b : Addr × Obj} {l : List (Addr × Obj)} (N : News h₀ L h (a :: b :: l)) : News h₀ L h (a :: l) := fun p hp => by
  rcases List.mem_cons.mp hp with rfl | hp
  · exact N _ (.head _)
  · exact N _ (.tail _ (.tail _ hp))
section
variable {prog : Program} {w : World} {A : Around} {E : Value → Shared → Prop} {s : Shared} {h₀ : Heap} {L : Addr} {m : Str → Option Value} {news : List (Addr × Obj)}
theorem ne_units {dp un : Nat} {gd : Option (List Code)} {L a Cl : Addr} {ccd : Value} (h : un + 200 < cLine) : (lawA dp un gd L a ccd Cl).units < cLine := by show un < _; omega
theorem from_K {l : Addr} {vs : List Value} {zs : List Int} {c k : Nat} {tk0 : Tok} {value slice : Expr} {Q : Value → Shared → Prop} (F : Fr h₀ L s.heap m) (N : News h₀ L s.heap news) (hm : (l, listOf vs.toArray c) ∈ news) (hi : IntsAre vs zs) (hk : k ≤ zs.length) (hz : zs.length ≤ 1000)
    (h : ∀ D ws h', Fr h₀ L h' m → News h₀ L h' ((D, listOf (List.toArray ws) 0) :: news) → (∀ p ∈ news, p.1 < D) → IntsAre ws (zs.drop k) → Q (.ref D) { s with heap := h' })
    (hs : subscripted slice false (.ref l) (.ref s.heap.objs.size) = operate [.ref s.heap.objs.size, .ref l] (getItem (.ref l) (.ref s.heap.objs.size))) (ht : ∀ r, letTemporaryGo value (.ref l) r = pure ()) :
    wpAny (model prog w) A (subscriptTail value slice (.ref l) (.ref s.heap.objs.size)) Q E { s with heap := s.heap.push { cls := .type "slice", data := .fields #[.int (k : Int) tk0, .none, .none] } } := by
  have e := slice_ints_from hi (x := (k : Int)) (by omega) (by omega)
  rw [Int.toNat_natCast] at e
  exact kmk_slice_ints F N (PySem.IsL.isList (n := c) (N _ hm).1) (.int _ _) .none hi e rfl (fun D ws h' F' N' l1 hI _ _ => h D ws h' F' N' l1 hI) hs ht (by rw [List.size_toArray, hi.length, sizeLine_eq]; omega)
theorem ne_told {Dt Dd : Addr} {t1 t2 t3 t4 : Tok} {x : Str} {b : Array UInt8} {Q : Value → Shared → Prop} (ht : s.heap.get? Dt = some (tupO #[.str x t1, .bytes b t2])) (hd : s.heap.get? Dd = some (tupO #[.str x t3, .bytes b t4])) (hu : A.units < cLine)
    (h : Q (.bool false) s) : wpAny (model prog w) A (compareOp .NotEq (.ref Dt) (.ref Dd)) Q E s := by
  refine PySem.SeqAt.RcNeAt.tuples (e := fun _ => true) (items := #[.str x t1, .bytes b t2]) (items2 := #[.str x t3, .bytes b t4]) ⟨_, ht, rfl, _, rfl⟩ ⟨_, hd, rfl, _, rfl⟩ hu (fun j h1 h2 => ?_) prog w E Q h
  match j, h1 with
  | 0, _ =>
    have := PySem.SeqAt.EqAt.str_str (A := A.in1) (s := s) x t1 x t3
    rw [beq_self_eq_true] at this
    exact this
  | 1, _ => exact fun prog w E Q h => eqBool_bytes (by simpa using h)
/-- list(b) of bytes, with the ledger -/
theorem list_K {x : List UInt8} {t : Tok} {Q : Value → Shared → Prop} (F : Fr h₀ L s.heap m) (N : News h₀ L s.heap news) (hh : A.handled = none) (hz : x.length ≤ 1000)
    (h : ∀ h' tk D vs' c', Fr h₀ L h' m → News h₀ L h' ((D, listOf vs'.toArray c') :: news) → (∀ p ∈ news, p.1 < D) → IntsAre vs' (rowInts x) → Q (.ref D) { s with heap := h', toks := tk }) :
    wpAny (model prog w) A (call (.type "list") [.bytes x.toArray t]) Q E s := by
  refine list_bytes hh x.toArray t (fun h' tk acc' c' hk hD hacc => ?_) (by rw [sizeLine_eq]; simp; omega)
  have hi := ints_are hacc
  refine h h' tk s.heap.objs.size acc'.toList c' (F.keeps hk) (fun p hp => ?_) (fun p hp => Heap.lt_size (N p hp).1) hi
  rcases List.mem_cons.mp hp with rfl | hp
  · exact ⟨by simpa using hD, Nat.ne_of_gt F.ns.lt, Heap.get?_none_of_le (Nat.le_trans F.above (Nat.le_of_lt F.ns.lt))⟩
  · exact ⟨hk _ _ (N p hp).1, (N p hp).2⟩
/-- a + b of two lists of ints -/
theorem cat_K {a b : Addr} {vs ws : List Value} {c d : Nat} {ns ms : List Int} {Q : Value → Shared → Prop} (F : Fr h₀ L s.heap m) (N : News h₀ L s.heap news) (ha : (a, listOf vs.toArray c) ∈ news) (hb : (b, listOf ws.toArray d) ∈ news)
    (hi : IntsAre vs ns) (hj : IntsAre ws ms) (hz : ns.length + ms.length ≤ 2000)
    (h : ∀ h' D vs' c', Fr h₀ L h' m → News h₀ L h' ((D, listOf vs'.toArray c') :: news) → (∀ p ∈ news, p.1 < D) → IntsAre vs' (ns ++ ms) → Q (.ref D) { s with heap := h' }) :
    wpAny (model prog w) A (binaryOp .Add (.ref a) (.ref b)) Q E s :=
  add_arrays_ints (its := vs.toArray) (its2 := ws.toArray) (hsz := by rw [sizeLine_eq]; omega) F N (PySem.IsL.isList (n := c) (N _ ha).1) (PySem.IsL.isList (n := d) (N _ hb).1) (by simpa using hi) (by simpa using hj) fun h' F' N' hI =>
    h h' _ (vs ++ ws) 0 F' (by simpa using N') (fun p hp => Heap.lt_size (N p hp).1) (by simpa using hI)
end
end Mine
end
section
open PySem PySem.W PySem.Calls PyProof.Rows
set_option maxRecDepth 100000
namespace Mine
local macro_rules | `(tactic| walk_at "call ref") => `(tactic| (k_here; (with_reducible show wpAny _ _ (call (Value.ref 98) [Value.ref _, Value.int _ _]) _ _ _); k_dflt (refine' next_K ?KX ?T ?B ?hk ?F ?N ?hD ?U ?hi ?hp ?hl ?hl2 ?hlen ?hn ?hn2 ?hd ?hu ?_; (case KX => assumption); (case T => assumption); (case B => assumption); (case hk => rfl); (case F => k_asm); (case N => k_asm); (case U => first | exact UpdF.head (by assumption) | exact UpdF.tail (by k_ne) (UpdF.head (by assumption)) | exact UpdF.tail (by k_ne) (UpdF.tail (by k_ne) (UpdF.head (by assumption))) | exact UpdF.tail (by k_ne) (UpdF.tail (by k_ne) (UpdF.tail (by k_ne) (UpdF.head (by assumption)))) | exact UpdF.tail (by k_ne) (UpdF.tail (by k_ne) (UpdF.tail (by k_ne) (UpdF.tail (by k_ne) (UpdF.head (by assumption)))))); (case hD => k_mem); (case hi => assumption); (case hp => assumption); (case hl => assumption); (case hl2 => assumption); (case hlen => assumption); (case hn => decide); (case hn2 => decide); (case hd => omega); (case hu => omega)); intro _ _ _ _ _ _ _ _ _ _ _ _ _ _ _))
local macro_rules | `(tactic| walk_at "CompSrc") => `(tactic| (k_here; k_dflt (refine' src_piece ?hh ?el ?F ?N ?hr ?b0 ?b1 ?a1 ?a2 ?a3 ?_; (case hh => rfl); (case F => k_asm); (case N => k_asm); (case el => first | exact elt_1 (by assumption) (by assumption) (by assumption) (by assumption) (by assumption) (by assumption) (by assumption) (by assumption) (by assumption) | exact elt_2 (by assumption) (by assumption) (by assumption) (by assumption) (by assumption) (by assumption) (by assumption) (by assumption) (by assumption)); (case hr => assumption); (case b0 => assumption); (case b1 => omega); (case a1 => assumption); (case a2 => assumption); (case a3 => assumption)); intro _ _ _ _ _ _ _ _ _ _ _ _ _ _ _ _ _ _ _))
local macro_rules | `(tactic| walk_at "call type:bytes") => `(tactic| (k_here; (with_reducible show wpAny _ _ (call (Value.type _) [Value.ref _]) _ _ _); k_dflt (refine' bytes_K ?F ?N ?l ?i ?r ?z ?h ?_; (case F => k_asm); (case N => k_asm); (case l => is_list); (case i => first | assumption | l_ints | l_intsW); (case r => first | assumption | (exact rowInts_small _)); (case z => (rw [IntsAre.length (by assumption), sizeLine_eq]; first | omega | (rw [rowInts_len]; omega))); (case h => with_unfolding_all rfl); k_whole); intro _ _ _ _ _ _))
local macro_rules | `(tactic| walk_at "call type:bytes") => `(tactic| (k_here; (with_reducible show wpAny _ _ (call (Value.type "bytes") [Value.ref _]) _ _ _); k_dflt (refine' ba_bytes (News.get ?k1 ?k2) ?z ?_; (case k1 => k_asm); (case k2 => k_mem); (case z => omega); k_whole)))
local macro_rules | `(tactic| walk_at "call type:list") => `(tactic| (k_here; (with_reducible show wpAny _ _ (call (Value.type "list") [Value.bytes _ _]) _ _ _); k_dflt (refine' list_K ?F ?N ?h ?z ?_; (case F => k_asm); (case N => k_asm); (case h => with_unfolding_all rfl); (case z => omega)); intro _ _ _ _ _ _ _ _ _))
local macro_rules | `(tactic| walk_at "binaryOp Add ref ref") => `(tactic| (k_here; k_dflt (refine' cat_K ?F ?N ?m1 ?m2 ?i1 ?i2 ?z ?_; (case F => k_asm); (case N => k_asm); (case m1 => k_mem); (case m2 => k_mem); (case i1 => assumption); (case i2 => first | assumption | exact IntsAre.nil); (case z => first | omega | (rw [rowInts_len]; omega) | (simp; omega))); intro _ _ _ _ _ _ _ _))
local macro_rules | `(tactic| walk_at "compareOp NotEq ref ref") => `(tactic| (k_here; (with_reducible show wpAny _ _ (compareOp CmpOp.NotEq (Value.ref _) (Value.ref _)) _ _ _); k_dflt (refine' ne_told (b := ?b) ?k1 ?k2 ?u ?_; (case k1 => exact News.get (by k_asm) (by first | exact List.Mem.head _ | k_mem)); (case k2 => exact News.get (by k_asm) (by first | exact List.Mem.tail _ (List.Mem.head _) | k_mem)); (case u => exact ne_units (by assumption)))))
local macro_rules | `(tactic| walk_at "call ref") => `(tactic| (k_here; (with_reducible show wpAny _ _ (call (Value.ref 117) _) _ _ _); k_dflt (refine' due_C ?kd ?KX ?T ?B ?hk ?F ?N ?hi ?hz ?hlim ?hd ?hu ?_; (case KX => assumption); (case T => assumption); (case B => assumption); (case hk => rfl); (case F => k_asm); (case N => k_asm); (case hi => assumption); (case kd => assumption); (case hz => assumption); (case hlim => assumption); (case hd => omega); (case hu => omega)); intro _ _ _ _ _ _ _ _ _))
section
variable {w : World} {s : Shared} {A₀ : Around} {base h₀ : Heap} {L S D Cl dp un a : Nat} {oC : Obj} {ccd : Value} {gd : Option (List Code)} {m mg mb : Str → Option Value} {mean : ExcName → Option Value} {Q : Flow → Shared → Prop} {E : Value → Shared → Prop}
  {place lcg n : Int} {tp tl tn : Tok} {ds vs : List Value} {ns : List Int} {c c1 c2 : Nat} {X : List (Addr × Obj)} {R Rd B Rw Gn : Addr} {hb he : Int} {tb te : Tok} {cn : Nat} {e : Bool} {row : List UInt8} {lim kind : Nat} {t1 t2 : Tok}

set_option maxHeartbeats 0 in
theorem lw_S2  (KX : (hd.heap_39 w.params).In h₀) (T : Top hd.view_39 (looseW hd.view_39 [Str.ofString "StreamReader"]) mean mg mb h₀) (B₀ : Below A₀ base [] h₀)
  (F : Fr h₀ L s.heap m) (H : Has m [(Str.ofString "reader", .ref R), (Str.ofString "row", .ref Rw), (Str.ofString "ended", .bool e)]) (N : News h₀ L s.heap (lawL S (stObj D place lcg tp tl c1) Cl oC D ds c2 X)) (hS : ∀ p ∈ (Cl, oC) :: (D, listOf ds.toArray c2) :: X, p.1 ≠ S) (hC : oC.data = .cell (some (.ref S))) (hi : IntsAre ds ns) (hp : 0 ≤ place) (hl : 0 ≤ lcg) (hl2 : lcg < 65537) (hlen : ns.length ≤ 60) (hdp : dp + 20 < recursionLimit) (hu : un + 200 < cLine) 
  (hQ : ∀ h' tk place' lcg' tp' tl' v tv m', Fr h₀ L h' m' → Has m' [(Str.ofString "kind", .int v tv), (Str.ofString "reader", .ref R), (Str.ofString "row", .ref Rw), (Str.ofString "ended", .bool e)] → News h₀ L h' (lawL S (stObj D place' lcg' tp' tl' c1) Cl oC D ds c2 X) → 0 ≤ place' → 0 ≤ lcg' → lcg' < 65537 → 0 ≤ v → v < 5 → Q .next { s with heap := h', toks := tk }) :
  wpAny (model Challenge.rw_ev0028_01.row.prog w) (lawA dp un gd L a ccd Cl) (execs [outS2] (lawE L a ccd Cl)) Q E s := by
  dsimp only [lawL, led] at N
  replace F := frHas F H
  dsimp only [chainTo] at F
  unfold outS2; dsimp only
  revert KX; k_fill; intro KX
  w_strict (k_steps)
  · (refine' hQ _ _ _ _ _ _ _ _ _ ?F ?H ?N ?a ?b ?c ?v0 ?v1; (case F => assumption); (case H => exact ⟨by with_unfolding_all exact rfl, by with_unfolding_all exact rfl, by with_unfolding_all exact rfl, by with_unfolding_all exact rfl, trivial⟩); (case N => first | assumption | exact news_tail (by assumption) | exact news_tail (news_tail (by assumption))); (case a => assumption); (case b => assumption); (case c => assumption); (case v0 => assumption); (case v1 => assumption))


set_option maxHeartbeats 0 in
theorem lw_S3  (KX : (hd.heap_39 w.params).In h₀) (T : Top hd.view_39 (looseW hd.view_39 [Str.ofString "StreamReader"]) mean mg mb h₀) (B₀ : Below A₀ base [] h₀)
  (F : Fr h₀ L s.heap m) (H : Has m [(Str.ofString "kind", .int (kind : Nat) t1), (Str.ofString "reader", .ref R), (Str.ofString "row", .ref Rw), (Str.ofString "ended", .bool e)]) (N : News h₀ L s.heap (lawL S (stObj D place lcg tp tl c1) Cl oC D ds c2 X)) (hS : ∀ p ∈ (Cl, oC) :: (D, listOf ds.toArray c2) :: X, p.1 ≠ S) (hC : oC.data = .cell (some (.ref S))) (hi : IntsAre ds ns) (hp : 0 ≤ place) (hl : 0 ≤ lcg) (hl2 : lcg < 65537) (hlen : ns.length ≤ 60) (hdp : dp + 20 < recursionLimit) (hu : un + 200 < cLine) 
  (hQ : ∀ h' tk place' lcg' tp' tl' v tv m', Fr h₀ L h' m' → Has m' [(Str.ofString "limit", .int v tv), (Str.ofString "kind", .int (kind : Nat) t1), (Str.ofString "reader", .ref R), (Str.ofString "row", .ref Rw), (Str.ofString "ended", .bool e)] → News h₀ L h' (lawL S (stObj D place' lcg' tp' tl' c1) Cl oC D ds c2 X) → 0 ≤ place' → 0 ≤ lcg' → lcg' < 65537 → 0 ≤ v → v < 10 → Q .next { s with heap := h', toks := tk }) :
  wpAny (model Challenge.rw_ev0028_01.row.prog w) (lawA dp un gd L a ccd Cl) (execs [outS3] (lawE L a ccd Cl)) Q E s := by
  dsimp only [lawL, led] at N
  replace F := frHas F H
  dsimp only [chainTo] at F
  unfold outS3; dsimp only
  revert KX; k_fill; intro KX
  w_strict (k_steps)
  · (refine' hQ _ _ _ _ _ _ _ _ _ ?F ?H ?N ?a ?b ?c ?v0 ?v1; (case F => assumption); (case H => exact ⟨by with_unfolding_all exact rfl, by with_unfolding_all exact rfl, by with_unfolding_all exact rfl, by with_unfolding_all exact rfl, by with_unfolding_all exact rfl, trivial⟩); (case N => first | assumption | exact news_tail (by assumption) | exact news_tail (news_tail (by assumption))); (case a => assumption); (case b => assumption); (case c => assumption); (case v0 => assumption); (case v1 => assumption))


set_option maxHeartbeats 0 in
theorem lw_0T {QB : Bool → Shared → Prop} (KX : (hd.heap_39 w.params).In h₀) (T : Top hd.view_39 (looseW hd.view_39 [Str.ofString "StreamReader"]) mean mg mb h₀) (B₀ : Below A₀ base [] h₀)
  (F : Fr h₀ L s.heap m) (H : Has m [(Str.ofString "reader", .ref R), (Str.ofString "row", .ref Rw), (Str.ofString "ended", .bool e)]) (N : News h₀ L s.heap (lawL S (stObj D place lcg tp tl c1) Cl oC D ds c2 X)) (hS : ∀ p ∈ (Cl, oC) :: (D, listOf ds.toArray c2) :: X, p.1 ≠ S) (hC : oC.data = .cell (some (.ref S))) (hi : IntsAre ds ns) (hp : 0 ≤ place) (hl : 0 ≤ lcg) (hl2 : lcg < 65537) (hlen : ns.length ≤ 60) (hdp : dp + 20 < recursionLimit) (hu : un + 200 < cLine) 
  (hQ : ∀ h' tk place' lcg' tp' tl' m' (b : Bool), Fr h₀ L h' m' → Has m' [(Str.ofString "reader", .ref R), (Str.ofString "row", .ref Rw), (Str.ofString "ended", .bool e)] → News h₀ L h' (lawL S (stObj D place' lcg' tp' tl' c1) Cl oC D ds c2 X) → 0 ≤ place' → 0 ≤ lcg' → lcg' < 65537 → QB b { s with heap := h', toks := tk }) :
  wpAny (model Challenge.rw_ev0028_01.row.prog w) (lawA dp un gd L a ccd Cl) (isTrue o0Test (lawE L a ccd Cl) (eval o0Test (lawE L a ccd Cl))) QB E s := by
  dsimp only [lawL, led] at N
  replace F := frHas F H
  dsimp only [chainTo] at F
  unfold o0Test; dsimp only
  revert KX; k_fill; intro KX
  w_strict (k_steps)
  · (refine' hQ _ _ _ _ _ _ _ _ ?F ?H ?N ?a ?b ?c ; (case F => assumption); (case H => exact ⟨by with_unfolding_all exact rfl, by with_unfolding_all exact rfl, by with_unfolding_all exact rfl, trivial⟩); (case N => first | assumption | exact news_tail (by assumption) | exact news_tail (news_tail (by assumption))); (case a => assumption); (case b => assumption); (case c => assumption))


set_option maxHeartbeats 0 in
theorem lw_1T {QB : Bool → Shared → Prop} (KX : (hd.heap_39 w.params).In h₀) (T : Top hd.view_39 (looseW hd.view_39 [Str.ofString "StreamReader"]) mean mg mb h₀) (B₀ : Below A₀ base [] h₀)
  (F : Fr h₀ L s.heap m) (H : Has m [(Str.ofString "reader", .ref R), (Str.ofString "row", .ref Rw), (Str.ofString "ended", .bool e)]) (N : News h₀ L s.heap (lawL S (stObj D place lcg tp tl c1) Cl oC D ds c2 X)) (hS : ∀ p ∈ (Cl, oC) :: (D, listOf ds.toArray c2) :: X, p.1 ≠ S) (hC : oC.data = .cell (some (.ref S))) (hi : IntsAre ds ns) (hp : 0 ≤ place) (hl : 0 ≤ lcg) (hl2 : lcg < 65537) (hlen : ns.length ≤ 60) (hdp : dp + 20 < recursionLimit) (hu : un + 200 < cLine) 
  (hQ : ∀ h' tk place' lcg' tp' tl' m' (b : Bool), Fr h₀ L h' m' → Has m' [(Str.ofString "reader", .ref R), (Str.ofString "row", .ref Rw), (Str.ofString "ended", .bool e)] → News h₀ L h' (lawL S (stObj D place' lcg' tp' tl' c1) Cl oC D ds c2 X) → 0 ≤ place' → 0 ≤ lcg' → lcg' < 65537 → QB b { s with heap := h', toks := tk }) :
  wpAny (model Challenge.rw_ev0028_01.row.prog w) (lawA dp un gd L a ccd Cl) (isTrue o1Test (lawE L a ccd Cl) (eval o1Test (lawE L a ccd Cl))) QB E s := by
  dsimp only [lawL, led] at N
  replace F := frHas F H
  dsimp only [chainTo] at F
  unfold o1Test; dsimp only
  revert KX; k_fill; intro KX
  w_strict (k_steps)
  · (refine' hQ _ _ _ _ _ _ _ _ ?F ?H ?N ?a ?b ?c ; (case F => assumption); (case H => exact ⟨by with_unfolding_all exact rfl, by with_unfolding_all exact rfl, by with_unfolding_all exact rfl, trivial⟩); (case N => first | assumption | exact news_tail (by assumption) | exact news_tail (news_tail (by assumption))); (case a => assumption); (case b => assumption); (case c => assumption))


set_option maxHeartbeats 0 in
theorem lw_0S0  (KX : (hd.heap_39 w.params).In h₀) (T : Top hd.view_39 (looseW hd.view_39 [Str.ofString "StreamReader"]) mean mg mb h₀) (B₀ : Below A₀ base [] h₀)
  (F : Fr h₀ L s.heap m) (H : Has m [(Str.ofString "reader", .ref R), (Str.ofString "row", .ref Rw), (Str.ofString "ended", .bool e)]) (N : News h₀ L s.heap (lawL S (stObj D place lcg tp tl c1) Cl oC D ds c2 X)) (hS : ∀ p ∈ (Cl, oC) :: (D, listOf ds.toArray c2) :: X, p.1 ≠ S) (hC : oC.data = .cell (some (.ref S))) (hi : IntsAre ds ns) (hp : 0 ≤ place) (hl : 0 ≤ lcg) (hl2 : lcg < 65537) (hlen : ns.length ≤ 60) (hdp : dp + 20 < recursionLimit) (hu : un + 200 < cLine) 
  (hQ : ∀ h' tk place' lcg' tp' tl' (d : List UInt8) td m', Fr h₀ L h' m' → Has m' [(Str.ofString "piece", .bytes d.toArray td), (Str.ofString "reader", .ref R), (Str.ofString "row", .ref Rw), (Str.ofString "ended", .bool e)] → News h₀ L h' (lawL S (stObj D place' lcg' tp' tl' c1) Cl oC D ds c2 X) → 0 ≤ place' → 0 ≤ lcg' → lcg' < 65537 → d.length ≤ 10 → Q .next { s with heap := h', toks := tk }) :
  wpAny (model Challenge.rw_ev0028_01.row.prog w) (lawA dp un gd L a ccd Cl) (execs [o0S0] (lawE L a ccd Cl)) Q E s := by
  dsimp only [lawL, led] at N
  replace F := frHas F H
  dsimp only [chainTo] at F
  unfold o0S0; dsimp only
  revert KX; k_fill; intro KX
  w_strict (k_steps)
  · (refine' hQ _ _ _ _ _ _ _ _ _ ?F ?H ?N ?a ?b ?c ?d; (case F => assumption); (case H => exact ⟨by with_unfolding_all exact rfl, by with_unfolding_all exact rfl, by with_unfolding_all exact rfl, by with_unfolding_all exact rfl, trivial⟩); (case N => first | assumption | exact news_tail (by assumption) | exact news_tail (news_tail (by assumption))); (case a => assumption); (case b => assumption); (case c => assumption); (case d => (rw [List.length_map]; assumption)))


set_option maxHeartbeats 0 in
theorem lw_0S2 {zs : List Int} {d : List UInt8} {td : Tok} (KX : (hd.heap_39 w.params).In h₀) (T : Top hd.view_39 (looseW hd.view_39 [Str.ofString "StreamReader"]) mean mg mb h₀) (B₀ : Below A₀ base [] h₀)
  (F : Fr h₀ L s.heap m) (H : Has m [(Str.ofString "piece", .bytes d.toArray td), (Str.ofString "reader", .ref R), (Str.ofString "row", .ref Rw), (Str.ofString "ended", .bool e)]) (N : News h₀ L s.heap (lawL S (stObj D place lcg tp tl c1) Cl oC D ds c2 ((Rw, listOf vs.toArray c) :: X))) (hS : ∀ p ∈ (Cl, oC) :: (D, listOf ds.toArray c2) :: (Rw, listOf vs.toArray c) :: X, p.1 ≠ S) (hC : oC.data = .cell (some (.ref S))) (hi : IntsAre ds ns) (hp : 0 ≤ place) (hl : 0 ≤ lcg) (hl2 : lcg < 65537) (hlen : ns.length ≤ 60) (hdp : dp + 20 < recursionLimit) (hu : un + 200 < cLine) (hv : IntsAre vs zs) (hzl : zs.length ≤ 1000) (hdl : d.length ≤ 10)
  (hQ : ∀ h' tk Rw' vs' c' m', Fr h₀ L h' m' → Has m' [(Str.ofString "row", .ref Rw'), (Str.ofString "piece", .bytes d.toArray td), (Str.ofString "reader", .ref R), (Str.ofString "ended", .bool e)] → News h₀ L h' ((Rw', listOf vs'.toArray c') :: lawL S (stObj D place lcg tp tl c1) Cl oC D ds c2 ((Rw, listOf vs.toArray c) :: X)) → (∀ p ∈ lawL S (stObj D place lcg tp tl c1) Cl oC D ds c2 ((Rw, listOf vs.toArray c) :: X), p.1 < Rw') → IntsAre vs' (if e = true then zs else zs ++ rowInts d) → Q .next { s with heap := h', toks := tk }) :
  wpAny (model Challenge.rw_ev0028_01.row.prog w) (lawA dp un gd L a ccd Cl) (execs [o0S2] (lawE L a ccd Cl)) Q E s := by
  dsimp only [lawL, led] at N
  replace F := frHas F H
  dsimp only [chainTo] at F
  unfold o0S2; dsimp only
  revert KX; k_fill; intro KX
  w_strict (k_steps)
  · (refine' hQ _ _ _ _ _ _ ?F ?H ?N ?l ?i; (case F => assumption); (case H => exact ⟨by with_unfolding_all exact rfl, by with_unfolding_all exact rfl, by with_unfolding_all exact rfl, by with_unfolding_all exact rfl, trivial⟩); (case N => first | assumption | exact news_two (by assumption)); (case l => first | assumption | (intro p hp; exact (by assumption : ∀ p ∈ _ :: _, p.1 < _) p (.tail _ hp))); (case i => (rw [if_pos (by assumption)]; have := (by assumption : IntsAre _ (zs ++ [])); rw [List.append_nil] at this; exact this)))
  · (refine' hQ _ _ _ _ _ _ ?F ?H ?N ?l ?i; (case F => assumption); (case H => exact ⟨by with_unfolding_all exact rfl, by with_unfolding_all exact rfl, by with_unfolding_all exact rfl, by with_unfolding_all exact rfl, trivial⟩); (case N => first | assumption | exact news_two (by assumption)); (case l => first | assumption | (intro p hp; exact (by assumption : ∀ p ∈ _ :: _, p.1 < _) p (.tail _ hp))); (case i => (rw [if_neg (by rw [(by first | assumption | exact notTrue (by assumption) : e = false)]; decide)]; assumption)))


set_option maxHeartbeats 0 in
theorem lw_1S1  (KX : (hd.heap_39 w.params).In h₀) (T : Top hd.view_39 (looseW hd.view_39 [Str.ofString "StreamReader"]) mean mg mb h₀) (B₀ : Below A₀ base [] h₀)
  (F : Fr h₀ L s.heap m) (H : Has m [(Str.ofString "reader", .ref R), (Str.ofString "row", .ref Rw), (Str.ofString "ended", .bool e)]) (N : News h₀ L s.heap (lawL S (stObj D place lcg tp tl c1) Cl oC D ds c2 X)) (hS : ∀ p ∈ (Cl, oC) :: (D, listOf ds.toArray c2) :: X, p.1 ≠ S) (hC : oC.data = .cell (some (.ref S))) (hi : IntsAre ds ns) (hp : 0 ≤ place) (hl : 0 ≤ lcg) (hl2 : lcg < 65537) (hlen : ns.length ≤ 60) (hdp : dp + 20 < recursionLimit) (hu : un + 200 < cLine) 
  (hQ : ∀ h' tk Rw' m', Fr h₀ L h' m' → Has m' [(Str.ofString "row", .ref Rw'), (Str.ofString "reader", .ref R), (Str.ofString "ended", .bool e)] → News h₀ L h' ((Rw', listOf ([] : List Value).toArray 0) :: lawL S (stObj D place lcg tp tl c1) Cl oC D ds c2 X) → (∀ p ∈ lawL S (stObj D place lcg tp tl c1) Cl oC D ds c2 X, p.1 < Rw') → Q .next { s with heap := h', toks := tk }) :
  wpAny (model Challenge.rw_ev0028_01.row.prog w) (lawA dp un gd L a ccd Cl) (execs [o1S1] (lawE L a ccd Cl)) Q E s := by
  dsimp only [lawL, led] at N
  replace F := frHas F H
  dsimp only [chainTo] at F
  unfold o1S1; dsimp only
  revert KX; k_fill; intro KX
  w_strict (k_steps)
  · (refine' hQ _ _ _ _ ?F ?H ?N ?l; (case F => assumption); (case H => exact ⟨by with_unfolding_all exact rfl, by with_unfolding_all exact rfl, by with_unfolding_all exact rfl, trivial⟩); (case N => assumption); (case l => exact tb_ltOf (by assumption : AllLt _ (_ :: _))))


set_option maxHeartbeats 0 in
theorem lw_S4 {zs : List Int} (KX : (hd.heap_39 w.params).In h₀) (T : Top hd.view_39 (looseW hd.view_39 [Str.ofString "StreamReader"]) mean mg mb h₀) (B₀ : Below A₀ base [] h₀)
  (F : Fr h₀ L s.heap m) (H : Has m [(Str.ofString "kind", .int (kind : Nat) t1), (Str.ofString "limit", .int (lim : Nat) t2), (Str.ofString "reader", .ref R), (Str.ofString "row", .ref Rw), (Str.ofString "ended", .bool e)]) (N : News h₀ L s.heap (lawL S (stObj D place lcg tp tl c1) Cl oC D ds c2 ((Rw, listOf vs.toArray c) :: X))) (hS : ∀ p ∈ (Cl, oC) :: (D, listOf ds.toArray c2) :: (Rw, listOf vs.toArray c) :: X, p.1 ≠ S) (hC : oC.data = .cell (some (.ref S))) (hi : IntsAre ds ns) (hp : 0 ≤ place) (hl : 0 ≤ lcg) (hl2 : lcg < 65537) (hlen : ns.length ≤ 60) (hdp : dp + 20 < recursionLimit) (hu : un + 200 < cLine) (hk5 : kind < 5) (hv : IntsAre vs zs) (hzl : zs.length ≤ 1000)
  (hQ : ∀ h' tk (k' : Nat) t' m', k' < 5 → Fr h₀ L h' m' → Has m' [(Str.ofString "kind", .int (k' : Nat) t'), (Str.ofString "limit", .int (lim : Nat) t2), (Str.ofString "reader", .ref R), (Str.ofString "row", .ref Rw), (Str.ofString "ended", .bool e)] → News h₀ L h' (lawL S (stObj D place lcg tp tl c1) Cl oC D ds c2 ((Rw, listOf vs.toArray c) :: X)) → Q .next { s with heap := h', toks := tk }) :
  wpAny (model Challenge.rw_ev0028_01.row.prog w) (lawA dp un gd L a ccd Cl) (execs [outS4] (lawE L a ccd Cl)) Q E s := by
  dsimp only [lawL, led] at N
  replace F := frHas F H
  dsimp only [chainTo] at F
  unfold outS4; dsimp only
  revert KX; k_fill; intro KX
  w_strict (k_steps)
  · (refine' hQ _ _ 4 _ _ (by decide) ?F ?H ?N; (case F => assumption); (case H => exact ⟨by with_unfolding_all exact rfl, by with_unfolding_all exact rfl, by with_unfolding_all exact rfl, by with_unfolding_all exact rfl, by with_unfolding_all exact rfl, trivial⟩); (case N => assumption))
  · (refine' hQ _ _ kind _ _ hk5 ?F ?H ?N; (case F => assumption); (case H => exact ⟨by with_unfolding_all exact rfl, by with_unfolding_all exact rfl, by with_unfolding_all exact rfl, by with_unfolding_all exact rfl, by with_unfolding_all exact rfl, trivial⟩); (case N => assumption))
  · (refine' hQ _ _ kind _ _ hk5 ?F ?H ?N; (case F => assumption); (case H => exact ⟨by with_unfolding_all exact rfl, by with_unfolding_all exact rfl, by with_unfolding_all exact rfl, by with_unfolding_all exact rfl, by with_unfolding_all exact rfl, trivial⟩); (case N => assumption))
  · (refine' hQ _ _ kind _ _ hk5 ?F ?H ?N; (case F => assumption); (case H => exact ⟨by with_unfolding_all exact rfl, by with_unfolding_all exact rfl, by with_unfolding_all exact rfl, by with_unfolding_all exact rfl, by with_unfolding_all exact rfl, trivial⟩); (case N => assumption))


set_option maxHeartbeats 0 in
theorem lw_S6  (KX : (hd.heap_39 w.params).In h₀) (T : Top hd.view_39 (looseW hd.view_39 [Str.ofString "StreamReader"]) mean mg mb h₀) (B₀ : Below A₀ base [] h₀)
  (F : Fr h₀ L s.heap m) (H : Has m [(Str.ofString "reading", .ref Gn), (Str.ofString "kind", .int (kind : Nat) t1), (Str.ofString "limit", .int (lim : Nat) t2), (Str.ofString "reader", .ref R), (Str.ofString "row", .ref Rw), (Str.ofString "ended", .bool e)]) (N : News h₀ L s.heap (lawL S (stObj D place lcg tp tl c1) Cl oC D ds c2 X)) (hS : ∀ p ∈ (Cl, oC) :: (D, listOf ds.toArray c2) :: X, p.1 ≠ S) (hC : oC.data = .cell (some (.ref S))) (hi : IntsAre ds ns) (hp : 0 ≤ place) (hl : 0 ≤ lcg) (hl2 : lcg < 65537) (hlen : ns.length ≤ 60) (hdp : dp + 20 < recursionLimit) (hu : un + 200 < cLine) 
  (hQ : ∀ h' tk (t : Tok) m', Fr h₀ L h' m' → Has m' [(Str.ofString "waits", .int 0 t), (Str.ofString "reading", .ref Gn), (Str.ofString "kind", .int (kind : Nat) t1), (Str.ofString "limit", .int (lim : Nat) t2), (Str.ofString "reader", .ref R), (Str.ofString "row", .ref Rw), (Str.ofString "ended", .bool e)] → News h₀ L h' (lawL S (stObj D place lcg tp tl c1) Cl oC D ds c2 X) → Q .next { s with heap := h', toks := tk }) :
  wpAny (model Challenge.rw_ev0028_01.row.prog w) (lawA dp un gd L a ccd Cl) (execs [outS6] (lawE L a ccd Cl)) Q E s := by
  dsimp only [lawL, led] at N
  replace F := frHas F H
  dsimp only [chainTo] at F
  unfold outS6; dsimp only
  revert KX; k_fill; intro KX
  w_strict (k_steps)
  · (refine' hQ _ _ _ _ ?F ?H ?N; (case F => assumption); (case H => exact ⟨by with_unfolding_all exact rfl, by with_unfolding_all exact rfl, by with_unfolding_all exact rfl, by with_unfolding_all exact rfl, by with_unfolding_all exact rfl, by with_unfolding_all exact rfl, by with_unfolding_all exact rfl, trivial⟩); (case N => first | assumption | exact news_tail (by assumption)))


set_option maxHeartbeats 0 in
theorem lw_S7 {wn : Nat} {tw : Tok} (KX : (hd.heap_39 w.params).In h₀) (T : Top hd.view_39 (looseW hd.view_39 [Str.ofString "StreamReader"]) mean mg mb h₀) (B₀ : Below A₀ base [] h₀)
  (F : Fr h₀ L s.heap m) (H : Has m [(Str.ofString "waits", .int (wn : Nat) tw), (Str.ofString "reading", .ref Gn), (Str.ofString "kind", .int (kind : Nat) t1), (Str.ofString "limit", .int (lim : Nat) t2), (Str.ofString "reader", .ref R), (Str.ofString "row", .ref Rw), (Str.ofString "ended", .bool e)]) (N : News h₀ L s.heap (lawL S (stObj D place lcg tp tl c1) Cl oC D ds c2 X)) (hS : ∀ p ∈ (Cl, oC) :: (D, listOf ds.toArray c2) :: X, p.1 ≠ S) (hC : oC.data = .cell (some (.ref S))) (hi : IntsAre ds ns) (hp : 0 ≤ place) (hl : 0 ≤ lcg) (hl2 : lcg < 65537) (hlen : ns.length ≤ 60) (hdp : dp + 20 < recursionLimit) (hu : un + 200 < cLine) 
  (hQ : ∀ h' tk (t : Tok) m', Fr h₀ L h' m' → Has m' [(Str.ofString "going", .bool true), (Str.ofString "waits", .int (wn : Nat) tw), (Str.ofString "reading", .ref Gn), (Str.ofString "kind", .int (kind : Nat) t1), (Str.ofString "limit", .int (lim : Nat) t2), (Str.ofString "reader", .ref R), (Str.ofString "row", .ref Rw), (Str.ofString "ended", .bool e)] → News h₀ L h' (lawL S (stObj D place lcg tp tl c1) Cl oC D ds c2 X) → Q .next { s with heap := h', toks := tk }) :
  wpAny (model Challenge.rw_ev0028_01.row.prog w) (lawA dp un gd L a ccd Cl) (execs [outS7] (lawE L a ccd Cl)) Q E s := by
  dsimp only [lawL, led] at N
  replace F := frHas F H
  dsimp only [chainTo] at F
  unfold outS7; dsimp only
  revert KX; k_fill; intro KX
  w_strict (k_steps)
  · (refine' hQ _ _ 0 _ ?F ?H ?N; (case F => assumption); (case H => exact ⟨by with_unfolding_all exact rfl, by with_unfolding_all exact rfl, by with_unfolding_all exact rfl, by with_unfolding_all exact rfl, by with_unfolding_all exact rfl, by with_unfolding_all exact rfl, by with_unfolding_all exact rfl, by with_unfolding_all exact rfl, trivial⟩); (case N => first | assumption | exact news_tail (by assumption)))


set_option maxHeartbeats 0 in
theorem lw_S5_0  (KX : (hd.heap_39 w.params).In h₀) (T : Top hd.view_39 (looseW hd.view_39 [Str.ofString "StreamReader"]) mean mg mb h₀) (B₀ : Below A₀ base [] h₀)
  (F : Fr h₀ L s.heap m) (H : Has m [(Str.ofString "kind", .int 0 t1), (Str.ofString "limit", .int (lim : Nat) t2), (Str.ofString "reader", .ref R), (Str.ofString "row", .ref Rw), (Str.ofString "ended", .bool e)]) (N : News h₀ L s.heap (lawL S (stObj D place lcg tp tl c1) Cl oC D ds c2 (led R Rd B hb he tb te cn e row X))) (hS : ∀ p ∈ (Cl, oC) :: (D, listOf ds.toArray c2) :: led R Rd B hb he tb te cn e row X, p.1 ≠ S) (hC : oC.data = .cell (some (.ref S))) (hi : IntsAre ds ns) (hp : 0 ≤ place) (hl : 0 ≤ lcg) (hl2 : lcg < 65537) (hlen : ns.length ≤ 60) (hdp : dp + 20 < recursionLimit) (hu : un + 200 < cLine) 
  (hQ : ∀ h' tk Lg oLg Gn nm qn m', Fr h₀ L h' m' → Has m' [(Str.ofString "reading", .ref Gn), (Str.ofString "kind", .int 0 t1), (Str.ofString "limit", .int (lim : Nat) t2), (Str.ofString "reader", .ref R), (Str.ofString "row", .ref Rw), (Str.ofString "ended", .bool e)] → (∀ h'' : Heap, h''.get? Lg = some oLg → h''.Ns Lg (fun y => List.lookup y ([(Str.ofString "self", .ref R), (Str.ofString "m", .int (lim : Nat) t2), (Str.ofString "too_long_exc_type", .type "RuntimeError")] : List (Str × Value)).reverse)) → News h₀ L h' ((Gn, genO s.gens.size nm qn) :: (Lg, oLg) :: lawL S (stObj D place lcg tp tl c1) Cl oC D ds c2 (led R Rd B hb he tb te cn e row X)) → (∀ p ∈ lawL S (stObj D place lcg tp tl c1) Cl oC D ds c2 (led R Rd B hb he tb te cn e row X), p.1 < Lg) → L < Lg → Lg < Gn → Q .next { s with heap := h', toks := tk, gens := s.gens.push (.fresh (.func rlBody (rlEnv Lg))) }) :
  wpAny (model Challenge.rw_ev0028_01.row.prog w) (lawA dp un gd L a ccd Cl) (execs [outS5] (lawE L a ccd Cl)) Q E s := by
  dsimp only [lawL, led] at N
  replace F := frHas F H
  dsimp only [chainTo] at F
  unfold outS5; dsimp only
  revert KX; k_fill; intro KX
  w_strict (k_steps)
  · refine' gen_make (K := hd.heap_39 w.params) (binds := [(Str.ofString "self", .ref R), (Str.ofString "m", .int (lim : Nat) t2), (Str.ofString "too_long_exc_type", .type "RuntimeError")]) ?F ?N ?X ?lim ?ho ?hcd ?room ?bind ?loc ?_ ?cell ?co ?gen ?k
    case F => assumption
    case N => assumption
    case X => exact KX
    case lim => exact T.nolimit
    case ho => k_is
    case hcd => k_is
    case room => show dp < _; omega
    case bind => first | exact BindsTo.of_eq rfl | exact binds_K (KX.keeps (Fr.keep (by assumption))) rfl (by k_is) rfl rfl rfl
    case loc => exact locs rfl
    case co => exact rfl
    case gen => exact rfl
    case k => exact rfl
    case cell => decide
    intro h1 tk1 Lg oLg Gn nm qn F1 nsG N1 lt1 lt2 lt3
    w_strict (k_steps)
    refine' hQ _ _ Lg oLg Gn nm qn _ ?F ?H nsG ?N lt1 lt2 lt3; (case F => assumption); (case H => exact ⟨by with_unfolding_all exact rfl, by with_unfolding_all exact rfl, by with_unfolding_all exact rfl, by with_unfolding_all exact rfl, by with_unfolding_all exact rfl, by with_unfolding_all exact rfl, trivial⟩); (case N => assumption)


set_option maxHeartbeats 0 in
theorem lw_S5_1  (KX : (hd.heap_39 w.params).In h₀) (T : Top hd.view_39 (looseW hd.view_39 [Str.ofString "StreamReader"]) mean mg mb h₀) (B₀ : Below A₀ base [] h₀)
  (F : Fr h₀ L s.heap m) (H : Has m [(Str.ofString "kind", .int 1 t1), (Str.ofString "limit", .int (lim : Nat) t2), (Str.ofString "reader", .ref R), (Str.ofString "row", .ref Rw), (Str.ofString "ended", .bool e)]) (N : News h₀ L s.heap (lawL S (stObj D place lcg tp tl c1) Cl oC D ds c2 (led R Rd B hb he tb te cn e row X))) (hS : ∀ p ∈ (Cl, oC) :: (D, listOf ds.toArray c2) :: led R Rd B hb he tb te cn e row X, p.1 ≠ S) (hC : oC.data = .cell (some (.ref S))) (hi : IntsAre ds ns) (hp : 0 ≤ place) (hl : 0 ≤ lcg) (hl2 : lcg < 65537) (hlen : ns.length ≤ 60) (hdp : dp + 20 < recursionLimit) (hu : un + 200 < cLine) 
  (hQ : ∀ h' tk Lg oLg Gn nm qn m', Fr h₀ L h' m' → Has m' [(Str.ofString "reading", .ref Gn), (Str.ofString "kind", .int 1 t1), (Str.ofString "limit", .int (lim : Nat) t2), (Str.ofString "reader", .ref R), (Str.ofString "row", .ref Rw), (Str.ofString "ended", .bool e)] → (∀ h'' : Heap, h''.get? Lg = some oLg → h''.Ns Lg (fun y => List.lookup y ([(Str.ofString "self", .ref R), (Str.ofString "m", .int (lim : Nat) t2), (Str.ofString "too_long_exc_type", .type "ValueError")] : List (Str × Value)).reverse)) → News h₀ L h' ((Gn, genO s.gens.size nm qn) :: (Lg, oLg) :: lawL S (stObj D place lcg tp tl c1) Cl oC D ds c2 (led R Rd B hb he tb te cn e row X)) → (∀ p ∈ lawL S (stObj D place lcg tp tl c1) Cl oC D ds c2 (led R Rd B hb he tb te cn e row X), p.1 < Lg) → L < Lg → Lg < Gn → Q .next { s with heap := h', toks := tk, gens := s.gens.push (.fresh (.func rlBody (rlEnv Lg))) }) :
  wpAny (model Challenge.rw_ev0028_01.row.prog w) (lawA dp un gd L a ccd Cl) (execs [outS5] (lawE L a ccd Cl)) Q E s := by
  dsimp only [lawL, led] at N
  replace F := frHas F H
  dsimp only [chainTo] at F
  unfold outS5; dsimp only
  revert KX; k_fill; intro KX
  w_strict (k_steps)
  · refine' gen_make (K := hd.heap_39 w.params) (binds := [(Str.ofString "self", .ref R), (Str.ofString "m", .int (lim : Nat) t2), (Str.ofString "too_long_exc_type", .type "ValueError")]) ?F ?N ?X ?lim ?ho ?hcd ?room ?bind ?loc ?_ ?cell ?co ?gen ?k
    case F => assumption
    case N => assumption
    case X => exact KX
    case lim => exact T.nolimit
    case ho => k_is
    case hcd => k_is
    case room => show dp < _; omega
    case bind => first | exact BindsTo.of_eq rfl | exact binds_K (KX.keeps (Fr.keep (by assumption))) rfl (by k_is) rfl rfl rfl
    case loc => exact locs rfl
    case co => exact rfl
    case gen => exact rfl
    case k => exact rfl
    case cell => decide
    intro h1 tk1 Lg oLg Gn nm qn F1 nsG N1 lt1 lt2 lt3
    w_strict (k_steps)
    refine' hQ _ _ Lg oLg Gn nm qn _ ?F ?H nsG ?N lt1 lt2 lt3; (case F => assumption); (case H => exact ⟨by with_unfolding_all exact rfl, by with_unfolding_all exact rfl, by with_unfolding_all exact rfl, by with_unfolding_all exact rfl, by with_unfolding_all exact rfl, by with_unfolding_all exact rfl, trivial⟩); (case N => assumption)


set_option maxHeartbeats 0 in
theorem lw_S5_2  (KX : (hd.heap_39 w.params).In h₀) (T : Top hd.view_39 (looseW hd.view_39 [Str.ofString "StreamReader"]) mean mg mb h₀) (B₀ : Below A₀ base [] h₀)
  (F : Fr h₀ L s.heap m) (H : Has m [(Str.ofString "kind", .int 2 t1), (Str.ofString "limit", .int (lim : Nat) t2), (Str.ofString "reader", .ref R), (Str.ofString "row", .ref Rw), (Str.ofString "ended", .bool e)]) (N : News h₀ L s.heap (lawL S (stObj D place lcg tp tl c1) Cl oC D ds c2 (led R Rd B hb he tb te cn e row X))) (hS : ∀ p ∈ (Cl, oC) :: (D, listOf ds.toArray c2) :: led R Rd B hb he tb te cn e row X, p.1 ≠ S) (hC : oC.data = .cell (some (.ref S))) (hi : IntsAre ds ns) (hp : 0 ≤ place) (hl : 0 ≤ lcg) (hl2 : lcg < 65537) (hlen : ns.length ≤ 60) (hdp : dp + 20 < recursionLimit) (hu : un + 200 < cLine) 
  (hQ : ∀ h' tk Lg oLg Gn nm qn m', Fr h₀ L h' m' → Has m' [(Str.ofString "reading", .ref Gn), (Str.ofString "kind", .int 2 t1), (Str.ofString "limit", .int (lim : Nat) t2), (Str.ofString "reader", .ref R), (Str.ofString "row", .ref Rw), (Str.ofString "ended", .bool e)] → (∀ h'' : Heap, h''.get? Lg = some oLg → h''.Ns Lg (fun y => List.lookup y ([(Str.ofString "self", .ref R), (Str.ofString "n", .int (lim : Nat) t2)] : List (Str × Value)).reverse)) → News h₀ L h' ((Gn, genO s.gens.size nm qn) :: (Lg, oLg) :: lawL S (stObj D place lcg tp tl c1) Cl oC D ds c2 (led R Rd B hb he tb te cn e row X)) → (∀ p ∈ lawL S (stObj D place lcg tp tl c1) Cl oC D ds c2 (led R Rd B hb he tb te cn e row X), p.1 < Lg) → L < Lg → Lg < Gn → Q .next { s with heap := h', toks := tk, gens := s.gens.push (.fresh (.func reBody (reEnv Lg))) }) :
  wpAny (model Challenge.rw_ev0028_01.row.prog w) (lawA dp un gd L a ccd Cl) (execs [outS5] (lawE L a ccd Cl)) Q E s := by
  dsimp only [lawL, led] at N
  replace F := frHas F H
  dsimp only [chainTo] at F
  unfold outS5; dsimp only
  revert KX; k_fill; intro KX
  w_strict (k_steps)
  · refine' gen_make (K := hd.heap_39 w.params) (binds := [(Str.ofString "self", .ref R), (Str.ofString "n", .int (lim : Nat) t2)]) ?F ?N ?X ?lim ?ho ?hcd ?room ?bind ?loc ?_ ?cell ?co ?gen ?k
    case F => assumption
    case N => assumption
    case X => exact KX
    case lim => exact T.nolimit
    case ho => k_is
    case hcd => k_is
    case room => show dp < _; omega
    case bind => first | exact BindsTo.of_eq rfl | exact binds_K (KX.keeps (Fr.keep (by assumption))) rfl (by k_is) rfl rfl rfl
    case loc => exact locs rfl
    case co => exact rfl
    case gen => exact rfl
    case k => exact rfl
    case cell => decide
    intro h1 tk1 Lg oLg Gn nm qn F1 nsG N1 lt1 lt2 lt3
    w_strict (k_steps)
    refine' hQ _ _ Lg oLg Gn nm qn _ ?F ?H nsG ?N lt1 lt2 lt3; (case F => assumption); (case H => exact ⟨by with_unfolding_all exact rfl, by with_unfolding_all exact rfl, by with_unfolding_all exact rfl, by with_unfolding_all exact rfl, by with_unfolding_all exact rfl, by with_unfolding_all exact rfl, trivial⟩); (case N => assumption)


set_option maxHeartbeats 0 in
theorem lw_S5_3  (KX : (hd.heap_39 w.params).In h₀) (T : Top hd.view_39 (looseW hd.view_39 [Str.ofString "StreamReader"]) mean mg mb h₀) (B₀ : Below A₀ base [] h₀)
  (F : Fr h₀ L s.heap m) (H : Has m [(Str.ofString "kind", .int 3 t1), (Str.ofString "limit", .int (lim : Nat) t2), (Str.ofString "reader", .ref R), (Str.ofString "row", .ref Rw), (Str.ofString "ended", .bool e)]) (N : News h₀ L s.heap (lawL S (stObj D place lcg tp tl c1) Cl oC D ds c2 (led R Rd B hb he tb te cn e row X))) (hS : ∀ p ∈ (Cl, oC) :: (D, listOf ds.toArray c2) :: led R Rd B hb he tb te cn e row X, p.1 ≠ S) (hC : oC.data = .cell (some (.ref S))) (hi : IntsAre ds ns) (hp : 0 ≤ place) (hl : 0 ≤ lcg) (hl2 : lcg < 65537) (hlen : ns.length ≤ 60) (hdp : dp + 20 < recursionLimit) (hu : un + 200 < cLine) 
  (hQ : ∀ h' tk Lg oLg Gn nm qn m', Fr h₀ L h' m' → Has m' [(Str.ofString "reading", .ref Gn), (Str.ofString "kind", .int 3 t1), (Str.ofString "limit", .int (lim : Nat) t2), (Str.ofString "reader", .ref R), (Str.ofString "row", .ref Rw), (Str.ofString "ended", .bool e)] → (∀ h'' : Heap, h''.get? Lg = some oLg → h''.Ns Lg (fun y => List.lookup y ([(Str.ofString "self", .ref R), (Str.ofString "m", .int (lim : Nat) t2), (Str.ofString "too_long_exc_type", .type "RuntimeError")] : List (Str × Value)).reverse)) → News h₀ L h' ((Gn, genO s.gens.size nm qn) :: (Lg, oLg) :: lawL S (stObj D place lcg tp tl c1) Cl oC D ds c2 (led R Rd B hb he tb te cn e row X)) → (∀ p ∈ lawL S (stObj D place lcg tp tl c1) Cl oC D ds c2 (led R Rd B hb he tb te cn e row X), p.1 < Lg) → L < Lg → Lg < Gn → Q .next { s with heap := h', toks := tk, gens := s.gens.push (.fresh (.func rtBody (rtEnv Lg))) }) :
  wpAny (model Challenge.rw_ev0028_01.row.prog w) (lawA dp un gd L a ccd Cl) (execs [outS5] (lawE L a ccd Cl)) Q E s := by
  dsimp only [lawL, led] at N
  replace F := frHas F H
  dsimp only [chainTo] at F
  unfold outS5; dsimp only
  revert KX; k_fill; intro KX
  w_strict (k_steps)
  · refine' gen_make (K := hd.heap_39 w.params) (binds := [(Str.ofString "self", .ref R), (Str.ofString "m", .int (lim : Nat) t2), (Str.ofString "too_long_exc_type", .type "RuntimeError")]) ?F ?N ?X ?lim ?ho ?hcd ?room ?bind ?loc ?_ ?cell ?co ?gen ?k
    case F => assumption
    case N => assumption
    case X => exact KX
    case lim => exact T.nolimit
    case ho => k_is
    case hcd => k_is
    case room => show dp < _; omega
    case bind => first | exact BindsTo.of_eq rfl | exact binds_K (KX.keeps (Fr.keep (by assumption))) rfl (by k_is) rfl rfl rfl
    case loc => exact locs rfl
    case co => exact rfl
    case gen => exact rfl
    case k => exact rfl
    case cell => decide
    intro h1 tk1 Lg oLg Gn nm qn F1 nsG N1 lt1 lt2 lt3
    w_strict (k_steps)
    refine' hQ _ _ Lg oLg Gn nm qn _ ?F ?H nsG ?N lt1 lt2 lt3; (case F => assumption); (case H => exact ⟨by with_unfolding_all exact rfl, by with_unfolding_all exact rfl, by with_unfolding_all exact rfl, by with_unfolding_all exact rfl, by with_unfolding_all exact rfl, by with_unfolding_all exact rfl, trivial⟩); (case N => assumption)


set_option maxHeartbeats 0 in
theorem lw_S5_4  (KX : (hd.heap_39 w.params).In h₀) (T : Top hd.view_39 (looseW hd.view_39 [Str.ofString "StreamReader"]) mean mg mb h₀) (B₀ : Below A₀ base [] h₀)
  (F : Fr h₀ L s.heap m) (H : Has m [(Str.ofString "kind", .int 4 t1), (Str.ofString "limit", .int (lim : Nat) t2), (Str.ofString "reader", .ref R), (Str.ofString "row", .ref Rw), (Str.ofString "ended", .bool e)]) (N : News h₀ L s.heap (lawL S (stObj D place lcg tp tl c1) Cl oC D ds c2 (led R Rd B hb he tb te cn e row X))) (hS : ∀ p ∈ (Cl, oC) :: (D, listOf ds.toArray c2) :: led R Rd B hb he tb te cn e row X, p.1 ≠ S) (hC : oC.data = .cell (some (.ref S))) (hi : IntsAre ds ns) (hp : 0 ≤ place) (hl : 0 ≤ lcg) (hl2 : lcg < 65537) (hlen : ns.length ≤ 60) (hdp : dp + 20 < recursionLimit) (hu : un + 200 < cLine) 
  (hQ : ∀ h' tk Lg oLg Gn nm qn m', Fr h₀ L h' m' → Has m' [(Str.ofString "reading", .ref Gn), (Str.ofString "kind", .int 4 t1), (Str.ofString "limit", .int (lim : Nat) t2), (Str.ofString "reader", .ref R), (Str.ofString "row", .ref Rw), (Str.ofString "ended", .bool e)] → (∀ h'' : Heap, h''.get? Lg = some oLg → h''.Ns Lg (fun y => List.lookup y ([(Str.ofString "self", .ref R)] : List (Str × Value)).reverse)) → News h₀ L h' ((Gn, genO s.gens.size nm qn) :: (Lg, oLg) :: lawL S (stObj D place lcg tp tl c1) Cl oC D ds c2 (led R Rd B hb he tb te cn e row X)) → (∀ p ∈ lawL S (stObj D place lcg tp tl c1) Cl oC D ds c2 (led R Rd B hb he tb te cn e row X), p.1 < Lg) → L < Lg → Lg < Gn → Q .next { s with heap := h', toks := tk, gens := s.gens.push (.fresh (.func aeBody (aeEnv Lg))) }) :
  wpAny (model Challenge.rw_ev0028_01.row.prog w) (lawA dp un gd L a ccd Cl) (execs [outS5] (lawE L a ccd Cl)) Q E s := by
  dsimp only [lawL, led] at N
  replace F := frHas F H
  dsimp only [chainTo] at F
  unfold outS5; dsimp only
  revert KX; k_fill; intro KX
  w_strict (k_steps)
  · refine' gen_make (K := hd.heap_39 w.params) (binds := [(Str.ofString "self", .ref R)]) ?F ?N ?X ?lim ?ho ?hcd ?room ?bind ?loc ?_ ?cell ?co ?gen ?k
    case F => assumption
    case N => assumption
    case X => exact KX
    case lim => exact T.nolimit
    case ho => k_is
    case hcd => k_is
    case room => show dp < _; omega
    case bind => first | exact BindsTo.of_eq rfl | exact binds_K (KX.keeps (Fr.keep (by assumption))) rfl (by k_is) rfl rfl rfl
    case loc => exact locs rfl
    case co => exact rfl
    case gen => exact rfl
    case k => exact rfl
    case cell => decide
    intro h1 tk1 Lg oLg Gn nm qn F1 nsG N1 lt1 lt2 lt3
    w_strict (k_steps)
    refine' hQ _ _ Lg oLg Gn nm qn _ ?F ?H nsG ?N lt1 lt2 lt3; (case F => assumption); (case H => exact ⟨by with_unfolding_all exact rfl, by with_unfolding_all exact rfl, by with_unfolding_all exact rfl, by with_unfolding_all exact rfl, by with_unfolding_all exact rfl, by with_unfolding_all exact rfl, trivial⟩); (case N => assumption)

end
end Mine
end
section
open PySem PySem.W PySem.Calls PyProof.Rows
set_option maxRecDepth 100000
namespace Mine
local macro_rules | `(tactic| walk_at "call ref") => `(tactic| (k_here; (with_reducible show wpAny _ _ (call (Value.ref 98) [Value.ref _, Value.int _ _]) _ _ _); k_dflt (refine' next_K ?KX ?T ?B ?hk ?F ?N ?hD ?U ?hi ?hp ?hl ?hl2 ?hlen ?hn ?hn2 ?hd ?hu ?_; (case KX => assumption); (case T => assumption); (case B => assumption); (case hk => rfl); (case F => k_asm); (case N => k_asm); (case U => first | exact UpdF.head (by assumption) | exact UpdF.tail (by k_ne) (UpdF.head (by assumption)) | exact UpdF.tail (by k_ne) (UpdF.tail (by k_ne) (UpdF.head (by assumption))) | exact UpdF.tail (by k_ne) (UpdF.tail (by k_ne) (UpdF.tail (by k_ne) (UpdF.head (by assumption)))) | exact UpdF.tail (by k_ne) (UpdF.tail (by k_ne) (UpdF.tail (by k_ne) (UpdF.tail (by k_ne) (UpdF.head (by assumption)))))); (case hD => k_mem); (case hi => assumption); (case hp => assumption); (case hl => assumption); (case hl2 => assumption); (case hlen => assumption); (case hn => decide); (case hn2 => decide); (case hd => omega); (case hu => omega)); intro _ _ _ _ _ _ _ _ _ _ _ _ _ _ _))
local macro_rules | `(tactic| walk_at "CompSrc") => `(tactic| (k_here; k_dflt (refine' src_piece ?hh ?el ?F ?N ?hr ?b0 ?b1 ?a1 ?a2 ?a3 ?_; (case hh => rfl); (case F => k_asm); (case N => k_asm); (case el => first | exact elt_1 (by assumption) (by assumption) (by assumption) (by assumption) (by assumption) (by assumption) (by assumption) (by assumption) (by assumption) | exact elt_2 (by assumption) (by assumption) (by assumption) (by assumption) (by assumption) (by assumption) (by assumption) (by assumption) (by assumption)); (case hr => assumption); (case b0 => assumption); (case b1 => omega); (case a1 => assumption); (case a2 => assumption); (case a3 => assumption)); intro _ _ _ _ _ _ _ _ _ _ _ _ _ _ _ _ _ _ _))
local macro_rules | `(tactic| walk_at "call type:bytes") => `(tactic| (k_here; (with_reducible show wpAny _ _ (call (Value.type _) [Value.ref _]) _ _ _); k_dflt (refine' bytes_K ?F ?N ?l ?i ?r ?z ?h ?_; (case F => k_asm); (case N => k_asm); (case l => is_list); (case i => first | assumption | l_ints | l_intsW); (case r => first | assumption | (exact rowInts_small _)); (case z => (rw [IntsAre.length (by assumption), sizeLine_eq]; first | omega | (rw [rowInts_len]; omega))); (case h => with_unfolding_all rfl); k_whole); intro _ _ _ _ _ _))
local macro_rules | `(tactic| walk_at "call type:bytes") => `(tactic| (k_here; (with_reducible show wpAny _ _ (call (Value.type "bytes") [Value.ref _]) _ _ _); k_dflt (refine' ba_bytes (News.get ?k1 ?k2) ?z ?_; (case k1 => k_asm); (case k2 => k_mem); (case z => omega); k_whole)))
local macro_rules | `(tactic| walk_at "call type:list") => `(tactic| (k_here; (with_reducible show wpAny _ _ (call (Value.type "list") [Value.bytes _ _]) _ _ _); k_dflt (refine' list_K ?F ?N ?h ?z ?_; (case F => k_asm); (case N => k_asm); (case h => with_unfolding_all rfl); (case z => omega)); intro _ _ _ _ _ _ _ _ _))
local macro_rules | `(tactic| walk_at "binaryOp Add ref ref") => `(tactic| (k_here; k_dflt (refine' cat_K ?F ?N ?m1 ?m2 ?i1 ?i2 ?z ?_; (case F => k_asm); (case N => k_asm); (case m1 => k_mem); (case m2 => k_mem); (case i1 => assumption); (case i2 => first | assumption | exact IntsAre.nil); (case z => first | omega | (rw [rowInts_len]; omega) | (simp; omega))); intro _ _ _ _ _ _ _ _))
local macro_rules | `(tactic| walk_at "compareOp NotEq ref ref") => `(tactic| (k_here; (with_reducible show wpAny _ _ (compareOp CmpOp.NotEq (Value.ref _) (Value.ref _)) _ _ _); k_dflt (refine' ne_told (b := ?b) ?k1 ?k2 ?u ?_; (case k1 => exact News.get (by k_asm) (by first | exact List.Mem.head _ | k_mem)); (case k2 => exact News.get (by k_asm) (by first | exact List.Mem.tail _ (List.Mem.head _) | k_mem)); (case u => exact ne_units (by assumption)))))
local macro_rules | `(tactic| walk_at "call ref") => `(tactic| (k_here; (with_reducible show wpAny _ _ (call (Value.ref 117) _) _ _ _); k_dflt (refine' due_C ?kd ?KX ?T ?B ?hk ?F ?N ?hi ?hz ?hlim ?hd ?hu ?_; (case KX => assumption); (case T => assumption); (case B => assumption); (case hk => rfl); (case F => k_asm); (case N => k_asm); (case hi => assumption); (case kd => assumption); (case hz => assumption); (case hlim => assumption); (case hd => omega); (case hu => omega)); intro _ _ _ _ _ _ _ _ _))
local macro_rules | `(tactic| walk_at "subscriptTail Name Slice ref ref") => `(tactic| (k_here; (with_reducible show wpAny _ _ (subscriptTail _ (PySem.Expr.Slice _ _ none _) (Value.ref _) (Value.ref _)) _ _ _); k_dflt (refine' from_K ?F ?N ?m ?i ?k ?z ?_ ?s ?t; (case F => k_asm); (case N => k_asm); (case m => k_mem); (case i => assumption); (case k => assumption); (case z => assumption); (case s => with_unfolding_all rfl); (case t => (intro _; with_unfolding_all rfl))); intro _ _ _ _ _ _ _))
section
variable {w : World} {s : Shared} {A₀ : Around} {base h₀ : Heap} {L S D Cl dp un a : Nat} {oC : Obj} {ccd : Value} {gd : Option (List Code)} {m mg mb : Str → Option Value} {mean : ExcName → Option Value} {Q : Flow → Shared → Prop} {E : Value → Shared → Prop}
  {place lcg n : Int} {tp tl tn : Tok} {ds vs : List Value} {ns : List Int} {c c1 c2 : Nat} {X : List (Addr × Obj)} {R Rd B Rw Gn : Addr} {hb he : Int} {tb te : Tok} {cn : Nat} {e : Bool} {row : List UInt8} {lim kind : Nat} {t1 t2 : Tok}

set_option maxHeartbeats 0 in
theorem lw_i1  (KX : (hd.heap_39 w.params).In h₀) (T : Top hd.view_39 (looseW hd.view_39 [Str.ofString "StreamReader"]) mean mg mb h₀) (B₀ : Below A₀ base [] h₀)
  (F : Fr h₀ L s.heap m) (H : Has m [(Str.ofString "kind", .int (kind : Nat) t1), (Str.ofString "limit", .int (lim : Nat) t2), (Str.ofString "reader", .ref R), (Str.ofString "row", .ref Rw), (Str.ofString "ended", .bool e)]) (N : News h₀ L s.heap ((Rw, listOf vs.toArray c) :: X)) (hdp : dp + 20 < recursionLimit) (hu : un + 200 < cLine) (hk5 : kind < 5) (hlim : lim < 10) (hv : IntsAre vs (rowInts row)) (hz : row.length ≤ 1000)
  (hQ : ∀ h' tk Dd o t m', Fr h₀ L h' m' → m' (Str.ofString "due") = some (.ref Dd) → m' (Str.ofString "taken") = some (.int (taken (ans kind lim row e) : Nat) t) → (∀ y, y ≠ Str.ofString "due" → y ≠ Str.ofString "taken" → m' y = m y) → News h₀ L h' ((Dd, o) :: (Rw, listOf vs.toArray c) :: X) → AnsTup (rowInts row) (ans kind lim row e) o → Q .next { s with heap := h', toks := tk }) :
  wpAny (model Challenge.rw_ev0028_01.row.prog w) (lawA dp un gd L a ccd Cl) (execs [inS1] (lawE L a ccd Cl)) Q E s := by
  try dsimp only [lawL, led] at N
  replace F := frHas F H
  dsimp only [chainTo] at F
  unfold inS1; dsimp only
  revert KX; k_fill; intro KX
  w_strict (k_steps)
  · (refine' hQ _ _ _ _ _ _ ?F ?H1 ?H2 ?H3 ?N (by assumption); (case F => assumption); (case H1 => with_unfolding_all exact rfl); (case H2 => with_unfolding_all exact rfl); (case H3 => exact fun y h1 h2 => by rw [if_neg h2, if_neg h1]; exact (Has.chain H y).symm); (case N => exact news_tail (by assumption)))


set_option maxHeartbeats 0 in
theorem lw_i2w {QB : Bool → Shared → Prop} {Dt Dd : Addr} {tt1 tt2 tt3 tt4 : Tok} {d : List UInt8} {bb : Bool} (KX : (hd.heap_39 w.params).In h₀) (T : Top hd.view_39 (looseW hd.view_39 [Str.ofString "StreamReader"]) mean mg mb h₀) (B₀ : Below A₀ base [] h₀)
  (F : Fr h₀ L s.heap m) (H : Has m [(Str.ofString "told", .ref Dt), (Str.ofString "due", .ref Dd), (Str.ofString "kind", .int (kind : Nat) t1)]) (N : News h₀ L s.heap ((Dt, tupO #[.str (Str.ofString "waits") tt1]) :: (Dd, tupO #[.str (Str.ofString "waits") tt3]) :: X)) (hdp : dp + 20 < recursionLimit) (hu : un + 200 < cLine) 
  (hQ : ∀ tk, QB false { s with toks := tk }) :
  wpAny (model Challenge.rw_ev0028_01.row.prog w) (lawA dp un gd L a ccd Cl) (isTrue i2Test (lawE L a ccd Cl) (eval i2Test (lawE L a ccd Cl))) QB E s := by
  try dsimp only [lawL, led] at N
  replace F := frHas F H
  dsimp only [chainTo] at F
  unfold i2Test; dsimp only
  revert KX; k_fill; intro KX
  w_strict (k_steps)
  all_goals first | exact hQ _ | (exfalso; omega)


set_option maxHeartbeats 0 in
theorem lw_i3w {Dt Dd : Addr} {tt1 tt2 tt3 tt4 : Tok} {d : List UInt8} {bb : Bool} (KX : (hd.heap_39 w.params).In h₀) (T : Top hd.view_39 (looseW hd.view_39 [Str.ofString "StreamReader"]) mean mg mb h₀) (B₀ : Below A₀ base [] h₀)
  (F : Fr h₀ L s.heap m) (H : Has m [(Str.ofString "told", .ref Dt)]) (N : News h₀ L s.heap ((Dt, tupO #[.str (Str.ofString "waits") tt1]) :: X)) (hdp : dp + 20 < recursionLimit) (hu : un + 200 < cLine) 
  (hQ : ∀ h' tk m', Fr h₀ L h' m' → m' (Str.ofString "going") = some (.bool true) → (∀ y, y ≠ Str.ofString "going" → m' y = m y) → News h₀ L h' ((Dt, tupO #[.str (Str.ofString "waits") tt1]) :: X) → Q .next { s with heap := h', toks := tk }) :
  wpAny (model Challenge.rw_ev0028_01.row.prog w) (lawA dp un gd L a ccd Cl) (execs [inS3] (lawE L a ccd Cl)) Q E s := by
  try dsimp only [lawL, led] at N
  replace F := frHas F H
  dsimp only [chainTo] at F
  unfold inS3; dsimp only
  revert KX; k_fill; intro KX
  w_strict (k_steps)
  · (refine' hQ _ _ _ ?F ?H ?H2 ?N; (case F => assumption); (case N => assumption); (case H => with_unfolding_all exact rfl); (case H2 => exact fun y hy => by rw [if_neg hy]; (split <;> first | (subst_vars; exact H.1.symm) | rfl)))


set_option maxHeartbeats 0 in
theorem lw_i2o {QB : Bool → Shared → Prop} {Dt Dd : Addr} {tt1 tt2 tt3 tt4 : Tok} {d : List UInt8} {bb : Bool} (KX : (hd.heap_39 w.params).In h₀) (T : Top hd.view_39 (looseW hd.view_39 [Str.ofString "StreamReader"]) mean mg mb h₀) (B₀ : Below A₀ base [] h₀)
  (F : Fr h₀ L s.heap m) (H : Has m [(Str.ofString "told", .ref Dt), (Str.ofString "due", .ref Dd), (Str.ofString "kind", .int (kind : Nat) t1)]) (N : News h₀ L s.heap ((Dt, tupO #[.str (Str.ofString "told") tt1, .bytes d.toArray tt2]) :: (Dd, tupO #[.str (Str.ofString "told") tt3, .bytes d.toArray tt4]) :: X)) (hdp : dp + 20 < recursionLimit) (hu : un + 200 < cLine) (hk4 : (kind : Int) ≠ 4)
  (hQ : ∀ tk, QB false { s with toks := tk }) :
  wpAny (model Challenge.rw_ev0028_01.row.prog w) (lawA dp un gd L a ccd Cl) (isTrue i2Test (lawE L a ccd Cl) (eval i2Test (lawE L a ccd Cl))) QB E s := by
  try dsimp only [lawL, led] at N
  replace F := frHas F H
  dsimp only [chainTo] at F
  unfold i2Test; dsimp only
  revert KX; k_fill; intro KX
  w_strict (k_steps)
  all_goals first | exact hQ _ | (exfalso; omega)


set_option maxHeartbeats 0 in
theorem lw_i3o {Dt Dd : Addr} {tt1 tt2 tt3 tt4 : Tok} {d : List UInt8} {bb : Bool} (KX : (hd.heap_39 w.params).In h₀) (T : Top hd.view_39 (looseW hd.view_39 [Str.ofString "StreamReader"]) mean mg mb h₀) (B₀ : Below A₀ base [] h₀)
  (F : Fr h₀ L s.heap m) (H : Has m [(Str.ofString "told", .ref Dt)]) (N : News h₀ L s.heap ((Dt, tupO #[.str (Str.ofString "told") tt1, .bytes d.toArray tt2]) :: X)) (hdp : dp + 20 < recursionLimit) (hu : un + 200 < cLine) 
  (hQ : ∀ h' tk m', Fr h₀ L h' m' → m' (Str.ofString "going") = some (.bool false) → (∀ y, y ≠ Str.ofString "going" → m' y = m y) → News h₀ L h' ((Dt, tupO #[.str (Str.ofString "told") tt1, .bytes d.toArray tt2]) :: X) → Q .next { s with heap := h', toks := tk }) :
  wpAny (model Challenge.rw_ev0028_01.row.prog w) (lawA dp un gd L a ccd Cl) (execs [inS3] (lawE L a ccd Cl)) Q E s := by
  try dsimp only [lawL, led] at N
  replace F := frHas F H
  dsimp only [chainTo] at F
  unfold inS3; dsimp only
  revert KX; k_fill; intro KX
  w_strict (k_steps)
  · (refine' hQ _ _ _ ?F ?H ?H2 ?N; (case F => assumption); (case N => assumption); (case H => with_unfolding_all exact rfl); (case H2 => exact fun y hy => by rw [if_neg hy]; (split <;> first | (subst_vars; exact H.1.symm) | rfl)))


set_option maxHeartbeats 0 in
theorem lw_i2f {QB : Bool → Shared → Prop} {Dt Dd : Addr} {tt1 tt2 tt3 tt4 : Tok} {d : List UInt8} {bb : Bool} (KX : (hd.heap_39 w.params).In h₀) (T : Top hd.view_39 (looseW hd.view_39 [Str.ofString "StreamReader"]) mean mg mb h₀) (B₀ : Below A₀ base [] h₀)
  (F : Fr h₀ L s.heap m) (H : Has m [(Str.ofString "told", .ref Dt), (Str.ofString "due", .ref Dd), (Str.ofString "kind", .int (kind : Nat) t1)]) (N : News h₀ L s.heap ((Dt, tupO #[.str (Str.ofString "told") tt1, .bool bb]) :: (Dd, tupO #[.str (Str.ofString "told") tt3, .bool bb]) :: X)) (hdp : dp + 20 < recursionLimit) (hu : un + 200 < cLine) 
  (hQ : ∀ tk, QB false { s with toks := tk }) :
  wpAny (model Challenge.rw_ev0028_01.row.prog w) (lawA dp un gd L a ccd Cl) (isTrue i2Test (lawE L a ccd Cl) (eval i2Test (lawE L a ccd Cl))) QB E s := by
  try dsimp only [lawL, led] at N
  replace F := frHas F H
  dsimp only [chainTo] at F
  unfold i2Test; dsimp only
  revert KX; k_fill; intro KX
  w_strict (k_steps)
  all_goals first | exact hQ _ | (exfalso; omega)


set_option maxHeartbeats 0 in
theorem lw_i3f {Dt Dd : Addr} {tt1 tt2 tt3 tt4 : Tok} {d : List UInt8} {bb : Bool} (KX : (hd.heap_39 w.params).In h₀) (T : Top hd.view_39 (looseW hd.view_39 [Str.ofString "StreamReader"]) mean mg mb h₀) (B₀ : Below A₀ base [] h₀)
  (F : Fr h₀ L s.heap m) (H : Has m [(Str.ofString "told", .ref Dt)]) (N : News h₀ L s.heap ((Dt, tupO #[.str (Str.ofString "told") tt1, .bool bb]) :: X)) (hdp : dp + 20 < recursionLimit) (hu : un + 200 < cLine) 
  (hQ : ∀ h' tk m', Fr h₀ L h' m' → m' (Str.ofString "going") = some (.bool false) → (∀ y, y ≠ Str.ofString "going" → m' y = m y) → News h₀ L h' ((Dt, tupO #[.str (Str.ofString "told") tt1, .bool bb]) :: X) → Q .next { s with heap := h', toks := tk }) :
  wpAny (model Challenge.rw_ev0028_01.row.prog w) (lawA dp un gd L a ccd Cl) (execs [inS3] (lawE L a ccd Cl)) Q E s := by
  try dsimp only [lawL, led] at N
  replace F := frHas F H
  dsimp only [chainTo] at F
  unfold inS3; dsimp only
  revert KX; k_fill; intro KX
  w_strict (k_steps)
  · (refine' hQ _ _ _ ?F ?H ?H2 ?N; (case F => assumption); (case N => assumption); (case H => with_unfolding_all exact rfl); (case H2 => exact fun y hy => by rw [if_neg hy]; (split <;> first | (subst_vars; exact H.1.symm) | rfl)))


set_option maxHeartbeats 0 in
theorem lw_i2e0 {QB : Bool → Shared → Prop} {Dt Dd : Addr} {tt1 tt2 tt3 tt4 : Tok} {d : List UInt8} {bb : Bool} (KX : (hd.heap_39 w.params).In h₀) (T : Top hd.view_39 (looseW hd.view_39 [Str.ofString "StreamReader"]) mean mg mb h₀) (B₀ : Below A₀ base [] h₀)
  (F : Fr h₀ L s.heap m) (H : Has m [(Str.ofString "told", .ref Dt), (Str.ofString "due", .ref Dd), (Str.ofString "kind", .int (kind : Nat) t1)]) (N : News h₀ L s.heap ((Dt, tupO #[.str (Str.ofString "error") tt1, .str (Str.ofString "end") tt2]) :: (Dd, tupO #[.str (Str.ofString "error") tt3, .str (Str.ofString "end") tt4]) :: X)) (hdp : dp + 20 < recursionLimit) (hu : un + 200 < cLine) 
  (hQ : ∀ tk, QB false { s with toks := tk }) :
  wpAny (model Challenge.rw_ev0028_01.row.prog w) (lawA dp un gd L a ccd Cl) (isTrue i2Test (lawE L a ccd Cl) (eval i2Test (lawE L a ccd Cl))) QB E s := by
  try dsimp only [lawL, led] at N
  replace F := frHas F H
  dsimp only [chainTo] at F
  unfold i2Test; dsimp only
  revert KX; k_fill; intro KX
  w_strict (k_steps)
  all_goals first | exact hQ _ | (exfalso; omega)


set_option maxHeartbeats 0 in
theorem lw_i3e0 {Dt Dd : Addr} {tt1 tt2 tt3 tt4 : Tok} {d : List UInt8} {bb : Bool} (KX : (hd.heap_39 w.params).In h₀) (T : Top hd.view_39 (looseW hd.view_39 [Str.ofString "StreamReader"]) mean mg mb h₀) (B₀ : Below A₀ base [] h₀)
  (F : Fr h₀ L s.heap m) (H : Has m [(Str.ofString "told", .ref Dt)]) (N : News h₀ L s.heap ((Dt, tupO #[.str (Str.ofString "error") tt1, .str (Str.ofString "end") tt2]) :: X)) (hdp : dp + 20 < recursionLimit) (hu : un + 200 < cLine) 
  (hQ : ∀ h' tk m', Fr h₀ L h' m' → m' (Str.ofString "going") = some (.bool false) → (∀ y, y ≠ Str.ofString "going" → m' y = m y) → News h₀ L h' ((Dt, tupO #[.str (Str.ofString "error") tt1, .str (Str.ofString "end") tt2]) :: X) → Q .next { s with heap := h', toks := tk }) :
  wpAny (model Challenge.rw_ev0028_01.row.prog w) (lawA dp un gd L a ccd Cl) (execs [inS3] (lawE L a ccd Cl)) Q E s := by
  try dsimp only [lawL, led] at N
  replace F := frHas F H
  dsimp only [chainTo] at F
  unfold inS3; dsimp only
  revert KX; k_fill; intro KX
  w_strict (k_steps)
  · (refine' hQ _ _ _ ?F ?H ?H2 ?N; (case F => assumption); (case N => assumption); (case H => with_unfolding_all exact rfl); (case H2 => exact fun y hy => by rw [if_neg hy]; (split <;> first | (subst_vars; exact H.1.symm) | rfl)))


set_option maxHeartbeats 0 in
theorem lw_i2e1 {QB : Bool → Shared → Prop} {Dt Dd : Addr} {tt1 tt2 tt3 tt4 : Tok} {d : List UInt8} {bb : Bool} (KX : (hd.heap_39 w.params).In h₀) (T : Top hd.view_39 (looseW hd.view_39 [Str.ofString "StreamReader"]) mean mg mb h₀) (B₀ : Below A₀ base [] h₀)
  (F : Fr h₀ L s.heap m) (H : Has m [(Str.ofString "told", .ref Dt), (Str.ofString "due", .ref Dd), (Str.ofString "kind", .int (kind : Nat) t1)]) (N : News h₀ L s.heap ((Dt, tupO #[.str (Str.ofString "error") tt1, .str (Str.ofString "run") tt2]) :: (Dd, tupO #[.str (Str.ofString "error") tt3, .str (Str.ofString "run") tt4]) :: X)) (hdp : dp + 20 < recursionLimit) (hu : un + 200 < cLine) 
  (hQ : ∀ tk, QB false { s with toks := tk }) :
  wpAny (model Challenge.rw_ev0028_01.row.prog w) (lawA dp un gd L a ccd Cl) (isTrue i2Test (lawE L a ccd Cl) (eval i2Test (lawE L a ccd Cl))) QB E s := by
  try dsimp only [lawL, led] at N
  replace F := frHas F H
  dsimp only [chainTo] at F
  unfold i2Test; dsimp only
  revert KX; k_fill; intro KX
  w_strict (k_steps)
  all_goals first | exact hQ _ | (exfalso; omega)


set_option maxHeartbeats 0 in
theorem lw_i3e1 {Dt Dd : Addr} {tt1 tt2 tt3 tt4 : Tok} {d : List UInt8} {bb : Bool} (KX : (hd.heap_39 w.params).In h₀) (T : Top hd.view_39 (looseW hd.view_39 [Str.ofString "StreamReader"]) mean mg mb h₀) (B₀ : Below A₀ base [] h₀)
  (F : Fr h₀ L s.heap m) (H : Has m [(Str.ofString "told", .ref Dt)]) (N : News h₀ L s.heap ((Dt, tupO #[.str (Str.ofString "error") tt1, .str (Str.ofString "run") tt2]) :: X)) (hdp : dp + 20 < recursionLimit) (hu : un + 200 < cLine) 
  (hQ : ∀ h' tk m', Fr h₀ L h' m' → m' (Str.ofString "going") = some (.bool false) → (∀ y, y ≠ Str.ofString "going" → m' y = m y) → News h₀ L h' ((Dt, tupO #[.str (Str.ofString "error") tt1, .str (Str.ofString "run") tt2]) :: X) → Q .next { s with heap := h', toks := tk }) :
  wpAny (model Challenge.rw_ev0028_01.row.prog w) (lawA dp un gd L a ccd Cl) (execs [inS3] (lawE L a ccd Cl)) Q E s := by
  try dsimp only [lawL, led] at N
  replace F := frHas F H
  dsimp only [chainTo] at F
  unfold inS3; dsimp only
  revert KX; k_fill; intro KX
  w_strict (k_steps)
  · (refine' hQ _ _ _ ?F ?H ?H2 ?N; (case F => assumption); (case N => assumption); (case H => with_unfolding_all exact rfl); (case H2 => exact fun y hy => by rw [if_neg hy]; (split <;> first | (subst_vars; exact H.1.symm) | rfl)))


set_option maxHeartbeats 0 in
theorem lw_i2e2 {QB : Bool → Shared → Prop} {Dt Dd : Addr} {tt1 tt2 tt3 tt4 : Tok} {d : List UInt8} {bb : Bool} (KX : (hd.heap_39 w.params).In h₀) (T : Top hd.view_39 (looseW hd.view_39 [Str.ofString "StreamReader"]) mean mg mb h₀) (B₀ : Below A₀ base [] h₀)
  (F : Fr h₀ L s.heap m) (H : Has m [(Str.ofString "told", .ref Dt), (Str.ofString "due", .ref Dd), (Str.ofString "kind", .int (kind : Nat) t1)]) (N : News h₀ L s.heap ((Dt, tupO #[.str (Str.ofString "error") tt1, .str (Str.ofString "value") tt2]) :: (Dd, tupO #[.str (Str.ofString "error") tt3, .str (Str.ofString "value") tt4]) :: X)) (hdp : dp + 20 < recursionLimit) (hu : un + 200 < cLine) 
  (hQ : ∀ tk, QB false { s with toks := tk }) :
  wpAny (model Challenge.rw_ev0028_01.row.prog w) (lawA dp un gd L a ccd Cl) (isTrue i2Test (lawE L a ccd Cl) (eval i2Test (lawE L a ccd Cl))) QB E s := by
  try dsimp only [lawL, led] at N
  replace F := frHas F H
  dsimp only [chainTo] at F
  unfold i2Test; dsimp only
  revert KX; k_fill; intro KX
  w_strict (k_steps)
  all_goals first | exact hQ _ | (exfalso; omega)


set_option maxHeartbeats 0 in
theorem lw_i3e2 {Dt Dd : Addr} {tt1 tt2 tt3 tt4 : Tok} {d : List UInt8} {bb : Bool} (KX : (hd.heap_39 w.params).In h₀) (T : Top hd.view_39 (looseW hd.view_39 [Str.ofString "StreamReader"]) mean mg mb h₀) (B₀ : Below A₀ base [] h₀)
  (F : Fr h₀ L s.heap m) (H : Has m [(Str.ofString "told", .ref Dt)]) (N : News h₀ L s.heap ((Dt, tupO #[.str (Str.ofString "error") tt1, .str (Str.ofString "value") tt2]) :: X)) (hdp : dp + 20 < recursionLimit) (hu : un + 200 < cLine) 
  (hQ : ∀ h' tk m', Fr h₀ L h' m' → m' (Str.ofString "going") = some (.bool false) → (∀ y, y ≠ Str.ofString "going" → m' y = m y) → News h₀ L h' ((Dt, tupO #[.str (Str.ofString "error") tt1, .str (Str.ofString "value") tt2]) :: X) → Q .next { s with heap := h', toks := tk }) :
  wpAny (model Challenge.rw_ev0028_01.row.prog w) (lawA dp un gd L a ccd Cl) (execs [inS3] (lawE L a ccd Cl)) Q E s := by
  try dsimp only [lawL, led] at N
  replace F := frHas F H
  dsimp only [chainTo] at F
  unfold inS3; dsimp only
  revert KX; k_fill; intro KX
  w_strict (k_steps)
  · (refine' hQ _ _ _ ?F ?H ?H2 ?N; (case F => assumption); (case N => assumption); (case H => with_unfolding_all exact rfl); (case H2 => exact fun y hy => by rw [if_neg hy]; (split <;> first | (subst_vars; exact H.1.symm) | rfl)))


set_option maxHeartbeats 0 in
theorem lw_i4 {k : Nat} {tk0 : Tok} {zs : List Int} (KX : (hd.heap_39 w.params).In h₀) (T : Top hd.view_39 (looseW hd.view_39 [Str.ofString "StreamReader"]) mean mg mb h₀) (B₀ : Below A₀ base [] h₀)
  (F : Fr h₀ L s.heap m) (H : Has m [(Str.ofString "row", .ref Rw), (Str.ofString "taken", .int (k : Nat) tk0)]) (N : News h₀ L s.heap ((Rw, listOf vs.toArray c) :: X)) (hdp : dp + 20 < recursionLimit) (hu : un + 200 < cLine) (hv : IntsAre vs zs) (hz : zs.length ≤ 1000) (hk : k ≤ zs.length)
  (hQ : ∀ h' tk Rw' vs' c' m', Fr h₀ L h' m' → m' (Str.ofString "row") = some (.ref Rw') → (∀ y, y ≠ Str.ofString "row" → m' y = m y) → News h₀ L h' ((Rw', listOf vs'.toArray c') :: X) → (∀ p ∈ X, p.1 < Rw') → IntsAre vs' (zs.drop k) → Q .next { s with heap := h', toks := tk }) :
  wpAny (model Challenge.rw_ev0028_01.row.prog w) (lawA dp un gd L a ccd Cl) (execs [inS4] (lawE L a ccd Cl)) Q E s := by
  try dsimp only [lawL, led] at N
  replace F := frHas F H
  dsimp only [chainTo] at F
  unfold inS4; dsimp only
  revert KX; k_fill; intro KX
  w_strict (k_steps)
  · (refine' hQ _ _ _ _ _ _ ?F ?H ?H2 ?N ?l ?i; (case F => assumption); (case N => exact news_two (by assumption)); (case H => with_unfolding_all exact rfl); (case l => (intro p hp; exact (by assumption : ∀ p ∈ _ :: _, p.1 < _) p (.tail _ hp))); (case H2 => exact fun y hy => by rw [if_neg hy, if_neg hy]; (split <;> first | (subst_vars; exact H.2.1.symm) | rfl)); (case i => assumption))


set_option maxHeartbeats 0 in
theorem lw_i5 {QB : Bool → Shared → Prop} (KX : (hd.heap_39 w.params).In h₀) (T : Top hd.view_39 (looseW hd.view_39 [Str.ofString "StreamReader"]) mean mg mb h₀) (B₀ : Below A₀ base [] h₀)
  (F : Fr h₀ L s.heap m) (H : Has m [(Str.ofString "reader", .ref R), (Str.ofString "row", .ref Rw), (Str.ofString "ended", .bool e)]) (N : News h₀ L s.heap (led R Rd B hb he tb te cn e row ((Rw, listOf vs.toArray c) :: X))) (hdp : dp + 20 < recursionLimit) (hu : un + 200 < cLine) (hv : IntsAre vs (rowInts row)) (hz : row.length ≤ 1000)
  (hQ : ∀ h' tk m', Fr h₀ L h' m' → (∀ y, m' y = m y) → News h₀ L h' (led R Rd B hb he tb te cn e row ((Rw, listOf vs.toArray c) :: X)) → QB false { s with heap := h', toks := tk }) :
  wpAny (model Challenge.rw_ev0028_01.row.prog w) (lawA dp un gd L a ccd Cl) (isTrue i5Test (lawE L a ccd Cl) (eval i5Test (lawE L a ccd Cl))) QB E s := by
  try dsimp only [lawL, led] at N
  replace F := frHas F H
  dsimp only [chainTo] at F
  unfold i5Test; dsimp only
  revert KX; k_fill; intro KX
  w_strict (k_steps)
  · have hbb : (row.toArray.toList != (List.map (fun n => n.toNat.toUInt8) (rowInts row)).toArray.toList) = false := by
      have := rowInts_byte row
      unfold byteOf at this
      simp [this]
    rw [hbb]
    (refine' hQ _ _ _ ?F ?H ?N; (case F => assumption); (case N => assumption); (case H => exact fun y => (Has.chain H y).symm))


set_option maxHeartbeats 0 in
theorem lw_6S0 {wn : Nat} {tw : Tok} (KX : (hd.heap_39 w.params).In h₀) (T : Top hd.view_39 (looseW hd.view_39 [Str.ofString "StreamReader"]) mean mg mb h₀) (B₀ : Below A₀ base [] h₀)
  (F : Fr h₀ L s.heap m) (H : Has m [(Str.ofString "waits", .int (wn : Nat) tw)]) (N : News h₀ L s.heap (X)) (hdp : dp + 20 < recursionLimit) (hu : un + 200 < cLine) (hw : wn ≤ 100)
  (hQ : ∀ h' tk (t : Tok) m', Fr h₀ L h' m' → m' (Str.ofString "waits") = some (.int (wn + 1 : Nat) t) → (∀ y, y ≠ Str.ofString "waits" → m' y = m y) →  News h₀ L h' X → Q .next { s with heap := h', toks := tk }) :
  wpAny (model Challenge.rw_ev0028_01.row.prog w) (lawA dp un gd L a ccd Cl) (execs [i6S0] (lawE L a ccd Cl)) Q E s := by
  try dsimp only [lawL, led] at N
  replace F := frHas F H
  dsimp only [chainTo] at F
  unfold i6S0; dsimp only
  revert KX; k_fill; intro KX
  w_strict (k_steps)
  · (refine' hQ _ _ _ _ ?F ?H1 ?H2 ?N; (case F => assumption); (case H1 => with_unfolding_all exact rfl); (case H2 => exact fun y hy => (if_neg hy).trans (Has.chain H y).symm); (case N => assumption))


set_option maxHeartbeats 0 in
theorem lw_7B0  (KX : (hd.heap_39 w.params).In h₀) (T : Top hd.view_39 (looseW hd.view_39 [Str.ofString "StreamReader"]) mean mg mb h₀) (B₀ : Below A₀ base [] h₀)
  (F : Fr h₀ L s.heap m) (H : Has m []) (N : News h₀ L s.heap (X)) (hdp : dp + 20 < recursionLimit) (hu : un + 200 < cLine) 
  (hQ : ∀ h' tk m', Fr h₀ L h' m' → m' (Str.ofString "ended") = some (.bool true) → (∀ y, y ≠ Str.ofString "ended" → m' y = m y) →  News h₀ L h' X → Q .next { s with heap := h', toks := tk }) :
  wpAny (model Challenge.rw_ev0028_01.row.prog w) (lawA dp un gd L a ccd Cl) (execs [i7B0] (lawE L a ccd Cl)) Q E s := by
  try dsimp only [lawL, led] at N
  replace F := frHas F H
  dsimp only [chainTo] at F
  unfold i7B0; dsimp only
  revert KX; k_fill; intro KX
  w_strict (k_steps)
  · (refine' hQ _ _ _ ?F ?H1 ?H2 ?N; (case F => assumption); (case H1 => with_unfolding_all exact rfl); (case H2 => exact fun y hy => (if_neg hy).trans (Has.chain H y).symm); (case N => assumption))


set_option maxHeartbeats 0 in
theorem lw_7T {QB : Bool → Shared → Prop} {wn : Nat} {tw : Tok} (KX : (hd.heap_39 w.params).In h₀) (T : Top hd.view_39 (looseW hd.view_39 [Str.ofString "StreamReader"]) mean mg mb h₀) (B₀ : Below A₀ base [] h₀)
  (F : Fr h₀ L s.heap m) (H : Has m [(Str.ofString "waits", .int (wn : Nat) tw)]) (N : News h₀ L s.heap (lawL S (stObj D place lcg tp tl c1) Cl oC D ds c2 X)) (hS : ∀ p ∈ (Cl, oC) :: (D, listOf ds.toArray c2) :: X, p.1 ≠ S) (hC : oC.data = .cell (some (.ref S))) (hi : IntsAre ds ns) (hp : 0 ≤ place) (hl : 0 ≤ lcg) (hl2 : lcg < 65537) (hlen : ns.length ≤ 60) (hdp : dp + 20 < recursionLimit) (hu : un + 200 < cLine) (hw : wn ≤ 100)
  (hQ : ∀ h' tk place' lcg' tp' tl' m' (b : Bool), Fr h₀ L h' m' → (∀ y, m' y = m y) → News h₀ L h' (lawL S (stObj D place' lcg' tp' tl' c1) Cl oC D ds c2 X) → 0 ≤ place' → 0 ≤ lcg' → lcg' < 65537 → (b = false → wn ≤ 6) → QB b { s with heap := h', toks := tk }) :
  wpAny (model Challenge.rw_ev0028_01.row.prog w) (lawA dp un gd L a ccd Cl) (isTrue i7Test (lawE L a ccd Cl) (eval i7Test (lawE L a ccd Cl))) QB E s := by
  dsimp only [lawL, led] at N
  replace F := frHas F H
  dsimp only [chainTo] at F
  unfold i7Test; dsimp only
  revert KX; k_fill; intro KX
  w_strict (k_steps)
  · (refine' hQ _ _ place lcg tp tl _ true ?F ?H ?N hp hl hl2 (fun q => by cases q); (case F => assumption); (case H => exact fun y => (Has.chain H y).symm); (case N => assumption))
  · (refine' hQ _ _ _ _ _ _ _ true ?F ?H ?N ?a ?b ?c (fun q => by cases q); (case F => assumption); (case H => exact fun y => (Has.chain H y).symm); (case N => assumption); (case a => assumption); (case b => assumption); (case c => assumption))
  · (refine' hQ _ _ _ _ _ _ _ false ?F ?H ?N ?a ?b ?c (fun _ => by omega); (case F => assumption); (case H => exact fun y => (Has.chain H y).symm); (case N => assumption); (case a => assumption); (case b => assumption); (case c => assumption))


set_option maxHeartbeats 0 in
theorem lw_7E2 {zs : List Int} {d : List UInt8} {td : Tok} (KX : (hd.heap_39 w.params).In h₀) (T : Top hd.view_39 (looseW hd.view_39 [Str.ofString "StreamReader"]) mean mg mb h₀) (B₀ : Below A₀ base [] h₀)
  (F : Fr h₀ L s.heap m) (H : Has m [(Str.ofString "row", .ref Rw), (Str.ofString "piece", .bytes d.toArray td)]) (N : News h₀ L s.heap ((Rw, listOf vs.toArray c) :: X)) (hdp : dp + 20 < recursionLimit) (hu : un + 200 < cLine) (hv : IntsAre vs zs) (hzl : zs.length ≤ 1000) (hdl : d.length ≤ 10)
  (hQ : ∀ h' tk Rw' vs' c' m', Fr h₀ L h' m' → m' (Str.ofString "row") = some (.ref Rw') → (∀ y, y ≠ Str.ofString "row" → m' y = m y) →  News h₀ L h' ((Rw', listOf vs'.toArray c') :: (Rw, listOf vs.toArray c) :: X) → (∀ p ∈ (Rw, listOf vs.toArray c) :: X, p.1 < Rw') → IntsAre vs' (zs ++ rowInts d) → Q .next { s with heap := h', toks := tk }) :
  wpAny (model Challenge.rw_ev0028_01.row.prog w) (lawA dp un gd L a ccd Cl) (execs [i7E2] (lawE L a ccd Cl)) Q E s := by
  try dsimp only [lawL, led] at N
  replace F := frHas F H
  dsimp only [chainTo] at F
  unfold i7E2; dsimp only
  revert KX; k_fill; intro KX
  w_strict (k_steps)
  · (refine' hQ _ _ _ _ _ _ ?F ?H1 ?H2 ?N ?l ?i; (case F => assumption); (case H1 => with_unfolding_all exact rfl); (case H2 => exact fun y hy => (if_neg hy).trans (Has.chain H y).symm); (case N => exact news_two (by assumption)); (case l => first | assumption | (intro p hp; exact (by assumption : ∀ p ∈ _ :: _, p.1 < _) p (.tail _ hp))); (case i => assumption))

end
end Mine
end
section
open PySem PySem.W PySem.Calls PyProof.Rows
set_option maxRecDepth 100000
namespace Mine
local macro_rules | `(tactic| walk_at "call ref") => `(tactic| (k_here; (with_reducible show wpAny _ _ (call (Value.ref 98) [Value.ref _, Value.int _ _]) _ _ _); k_dflt (refine' next_K ?KX ?T ?B ?hk ?F ?N ?hD ?U ?hi ?hp ?hl ?hl2 ?hlen ?hn ?hn2 ?hd ?hu ?_; (case KX => assumption); (case T => assumption); (case B => assumption); (case hk => rfl); (case F => k_asm); (case N => k_asm); (case U => first | exact UpdF.head (by assumption) | exact UpdF.tail (by k_ne) (UpdF.head (by assumption)) | exact UpdF.tail (by k_ne) (UpdF.tail (by k_ne) (UpdF.head (by assumption))) | exact UpdF.tail (by k_ne) (UpdF.tail (by k_ne) (UpdF.tail (by k_ne) (UpdF.head (by assumption)))) | exact UpdF.tail (by k_ne) (UpdF.tail (by k_ne) (UpdF.tail (by k_ne) (UpdF.tail (by k_ne) (UpdF.head (by assumption)))))); (case hD => k_mem); (case hi => assumption); (case hp => assumption); (case hl => assumption); (case hl2 => assumption); (case hlen => assumption); (case hn => decide); (case hn2 => decide); (case hd => omega); (case hu => omega)); intro _ _ _ _ _ _ _ _ _ _ _ _ _ _ _))
local macro_rules | `(tactic| walk_at "CompSrc") => `(tactic| (k_here; k_dflt (refine' src_piece ?hh ?el ?F ?N ?hr ?b0 ?b1 ?a1 ?a2 ?a3 ?_; (case hh => rfl); (case F => k_asm); (case N => k_asm); (case el => first | exact elt_1 (by assumption) (by assumption) (by assumption) (by assumption) (by assumption) (by assumption) (by assumption) (by assumption) (by assumption) | exact elt_2 (by assumption) (by assumption) (by assumption) (by assumption) (by assumption) (by assumption) (by assumption) (by assumption) (by assumption)); (case hr => assumption); (case b0 => assumption); (case b1 => omega); (case a1 => assumption); (case a2 => assumption); (case a3 => assumption)); intro _ _ _ _ _ _ _ _ _ _ _ _ _ _ _ _ _ _ _))
local macro_rules | `(tactic| walk_at "call type:bytes") => `(tactic| (k_here; (with_reducible show wpAny _ _ (call (Value.type _) [Value.ref _]) _ _ _); k_dflt (refine' bytes_K ?F ?N ?l ?i ?r ?z ?h ?_; (case F => k_asm); (case N => k_asm); (case l => is_list); (case i => first | assumption | l_ints | l_intsW); (case r => first | assumption | (exact rowInts_small _)); (case z => (rw [IntsAre.length (by assumption), sizeLine_eq]; first | omega | (rw [rowInts_len]; omega))); (case h => with_unfolding_all rfl); k_whole); intro _ _ _ _ _ _))
local macro_rules | `(tactic| walk_at "call type:bytes") => `(tactic| (k_here; (with_reducible show wpAny _ _ (call (Value.type "bytes") [Value.ref _]) _ _ _); k_dflt (refine' ba_bytes (News.get ?k1 ?k2) ?z ?_; (case k1 => k_asm); (case k2 => k_mem); (case z => omega); k_whole)))
local macro_rules | `(tactic| walk_at "call type:list") => `(tactic| (k_here; (with_reducible show wpAny _ _ (call (Value.type "list") [Value.bytes _ _]) _ _ _); k_dflt (refine' list_K ?F ?N ?h ?z ?_; (case F => k_asm); (case N => k_asm); (case h => with_unfolding_all rfl); (case z => omega)); intro _ _ _ _ _ _ _ _ _))
local macro_rules | `(tactic| walk_at "binaryOp Add ref ref") => `(tactic| (k_here; k_dflt (refine' cat_K ?F ?N ?m1 ?m2 ?i1 ?i2 ?z ?_; (case F => k_asm); (case N => k_asm); (case m1 => k_mem); (case m2 => k_mem); (case i1 => assumption); (case i2 => first | assumption | exact IntsAre.nil); (case z => first | omega | (rw [rowInts_len]; omega) | (simp; omega))); intro _ _ _ _ _ _ _ _))
local macro_rules | `(tactic| walk_at "compareOp NotEq ref ref") => `(tactic| (k_here; (with_reducible show wpAny _ _ (compareOp CmpOp.NotEq (Value.ref _) (Value.ref _)) _ _ _); k_dflt (refine' ne_told (b := ?b) ?k1 ?k2 ?u ?_; (case k1 => exact News.get (by k_asm) (by first | exact List.Mem.head _ | k_mem)); (case k2 => exact News.get (by k_asm) (by first | exact List.Mem.tail _ (List.Mem.head _) | k_mem)); (case u => exact ne_units (by assumption)))))
local macro_rules | `(tactic| walk_at "call ref") => `(tactic| (k_here; (with_reducible show wpAny _ _ (call (Value.ref 117) _) _ _ _); k_dflt (refine' due_C ?kd ?KX ?T ?B ?hk ?F ?N ?hi ?hz ?hlim ?hd ?hu ?_; (case KX => assumption); (case T => assumption); (case B => assumption); (case hk => rfl); (case F => k_asm); (case N => k_asm); (case hi => assumption); (case kd => assumption); (case hz => assumption); (case hlim => assumption); (case hd => omega); (case hu => omega)); intro _ _ _ _ _ _ _ _ _))
section
variable {w : World} {s : Shared} {A₀ : Around} {base h₀ : Heap} {L S D Cl dp un a : Nat} {oC : Obj} {ccd : Value} {gd : Option (List Code)} {m mg mb : Str → Option Value} {mean : ExcName → Option Value} {Q : Flow → Shared → Prop} {E : Value → Shared → Prop}
  {place lcg n : Int} {tp tl tn : Tok} {ds vs : List Value} {ns : List Int} {c c1 c2 : Nat} {X : List (Addr × Obj)} {R Rd B Rw Gn : Addr} {hb he : Int} {tb te : Tok} {cn : Nat} {e : Bool} {row : List UInt8} {lim kind : Nat} {t1 t2 : Tok}

set_option maxHeartbeats 0 in
theorem lc_0S1 {d : List UInt8} {td : Tok} (KX : (hd.heap_39 w.params).In h₀) (T : Top hd.view_39 (looseW hd.view_39 [Str.ofString "StreamReader"]) mean mg mb h₀) (B₀ : Below A₀ base [] h₀)
  (F : Fr h₀ L s.heap m) (H : Has m [(Str.ofString "reader", .ref R), (Str.ofString "piece", .bytes d.toArray td), (Str.ofString "ended", .bool e)]) (N : News h₀ L s.heap (led R Rd B hb he tb te cn e row X)) (hdp : dp + 20 < recursionLimit) (hu : un + 200 < cLine) (hz : row.length + d.length ≤ 1000) (hB : notB R Rd B hb he tb te cn e X) (hne : ∀ p ∈ X, p.1 ≠ Rd) (hRR : R ≠ Rd)
  (hQ : ∀ h' tk m', Fr h₀ L h' m' → (∀ y, m' y = m y) → News h₀ L h' (led R Rd B hb he tb te cn e (if e = true then row else row ++ d) X) → Q .next { s with heap := h', toks := tk }) :
  wpC (model Challenge.rw_ev0028_01.row.prog w) (lawA dp un gd L a ccd Cl) (exec o0S1 (lawE L a ccd Cl)) Q E s := by
  have KX₀ := KX
  try dsimp only [led] at N
  replace F := frHas F H
  dsimp only [chainTo] at F
  unfold o0S1; dsimp only
  refine wpC_If (wpC_isTrue_Compare1 (wpC_Call_Name ?_))
  revert KX; k_fill; intro KX
  w_strict (k_steps)
  · refine wpC_callWith_K (K := hd.heap_39 w.params) (h₀ := h₀) (by k_is) ?_
    w_strict (k_steps)
    · refine fed_C (s := { s with toks := _ }) KX₀ T rfl F N hz hB hne hRR (by omega) fun h1 tk1 F1 N1 => ?_
      refine wpC_any ?_
      cases e <;> w_strict (k_steps)
      all_goals refine wpC_any ?_
      all_goals w_strict (k_steps)
      all_goals refine wpC_any ?_
      all_goals w_strict (k_steps)
      all_goals exact wpC_execs_nil (hQ _ _ _ F1 (fun y => (Has.chain H y).symm) N1)


set_option maxHeartbeats 0 in
theorem lc_1S0  (KX : (hd.heap_39 w.params).In h₀) (T : Top hd.view_39 (looseW hd.view_39 [Str.ofString "StreamReader"]) mean mg mb h₀) (B₀ : Below A₀ base [] h₀)
  (F : Fr h₀ L s.heap m) (H : Has m [(Str.ofString "reader", .ref R)]) (N : News h₀ L s.heap (led R Rd B hb he tb te cn e row X)) (hdp : dp + 20 < recursionLimit) (hu : un + 200 < cLine) (hz : row.length ≤ 1000) (hB : notB R Rd B hb he tb te cn e X) (hne : ∀ p ∈ X, p.1 ≠ Rd) (hRR : R ≠ Rd)
  (hQ : ∀ h' tk m', Fr h₀ L h' m' → (∀ y, m' y = m y) → News h₀ L h' (led R Rd B hb he tb te cn e [] X) → Q .next { s with heap := h', toks := tk }) :
  wpC (model Challenge.rw_ev0028_01.row.prog w) (lawA dp un gd L a ccd Cl) (exec o1S0 (lawE L a ccd Cl)) Q E s := by
  have KX₀ := KX
  try dsimp only [led] at N
  replace F := frHas F H
  dsimp only [chainTo] at F
  unfold o1S0; dsimp only
  refine wpC_Expr (wpC_methodCall ?_)
  revert KX; k_fill; intro KX
  w_strict (k_steps)
  · dsimp only
    refine wpC_callWith_K0 (K := hd.heap_39 w.params) (KX.keeps F.keep) (by k_is) ?_
    refine discard_C (s := { s with toks := _ }) KX₀ T F N hz hB (by omega) fun h1 tk1 F1 N1 => ?_
    exact hQ _ _ _ F1 (fun y => (Has.chain H y).symm) N1


set_option maxHeartbeats 0 in
theorem lc_i0  (KX : (hd.heap_39 w.params).In h₀) (T : Top hd.view_39 (looseW hd.view_39 [Str.ofString "StreamReader"]) mean mg mb h₀) (B₀ : Below A₀ base [] h₀)
  (F : Fr h₀ L s.heap m) (H : Has m [(Str.ofString "reading", .ref Gn)]) (N : News h₀ L s.heap (X)) (hdp : dp + 20 < recursionLimit) (hu : un + 200 < cLine) 
  (hQ : ∀ tk m', Fr h₀ L s.heap m' → (∀ y, m' y = m y) → wpC (model Challenge.rw_ev0028_01.row.prog w) (lawA dp un gd L a ccd Cl) (call (.ref 110) [.ref Gn]) (fun v s₁ => wpAny (model Challenge.rw_ev0028_01.row.prog w) (lawA dp un gd L a ccd Cl) (storeName (lawE L a ccd Cl) (Str.ofString "told") v) (fun _ => Q .next) E s₁) E { s with toks := tk }) :
  wpC (model Challenge.rw_ev0028_01.row.prog w) (lawA dp un gd L a ccd Cl) (exec inS0 (lawE L a ccd Cl)) Q E s := by
  have KX₀ := KX
  try dsimp only [led] at N
  replace F := frHas F H
  dsimp only [chainTo] at F
  unfold inS0; dsimp only
  refine wpC_Assign (wpC_Call_Name ?_)
  revert KX; k_fill; intro KX
  w_strict (k_steps)
  · refine wpC_callWith_K (K := hd.heap_39 w.params) (h₀ := h₀) (by k_is) ?_
    w_strict (k_steps)
    · exact hQ _ _ F (fun y => (Has.chain H y).symm)


set_option maxHeartbeats 0 in
theorem lc_7B1  (KX : (hd.heap_39 w.params).In h₀) (T : Top hd.view_39 (looseW hd.view_39 [Str.ofString "StreamReader"]) mean mg mb h₀) (B₀ : Below A₀ base [] h₀)
  (F : Fr h₀ L s.heap m) (H : Has m [(Str.ofString "reader", .ref R)]) (N : News h₀ L s.heap (led R Rd B hb he tb te cn e row X)) (hdp : dp + 20 < recursionLimit) (hu : un + 200 < cLine) (he0 : e = false) (hz : row.length ≤ 1000) (hB : notB R Rd B hb he tb te cn e X) (hne : ∀ p ∈ X, p.1 ≠ Rd) (hRR : R ≠ Rd)
  (hQ : ∀ h' tk m', Fr h₀ L h' m' → (∀ y, m' y = m y) → News h₀ L h' (led R Rd B hb he tb te cn true row X) → Q .next { s with heap := h', toks := tk }) :
  wpC (model Challenge.rw_ev0028_01.row.prog w) (lawA dp un gd L a ccd Cl) (exec i7B1 (lawE L a ccd Cl)) Q E s := by
  have KX₀ := KX
  try dsimp only [led] at N
  replace F := frHas F H
  dsimp only [chainTo] at F
  unfold i7B1; dsimp only
  refine wpC_If (wpC_isTrue_Compare1 (wpC_Call_Name ?_))
  revert KX; k_fill; intro KX
  w_strict (k_steps)
  · refine wpC_callWith_K (K := hd.heap_39 w.params) (h₀ := h₀) (by k_is) ?_
    w_strict (k_steps)
    · refine ended_C (s := { s with toks := _ }) KX₀ T rfl F N hz hB hne hRR (by omega) fun h1 tk1 F1 N1 => ?_
      subst he0
      refine wpC_any ?_
      w_strict (k_steps)
      refine wpC_any ?_
      w_strict (k_steps)
      refine wpC_any ?_
      w_strict (k_steps)
      all_goals exact wpC_execs_nil (hQ _ _ _ F1 (fun y => (Has.chain H y).symm) N1)


set_option maxHeartbeats 0 in
theorem lc_7E1 {d : List UInt8} {td : Tok} (KX : (hd.heap_39 w.params).In h₀) (T : Top hd.view_39 (looseW hd.view_39 [Str.ofString "StreamReader"]) mean mg mb h₀) (B₀ : Below A₀ base [] h₀)
  (F : Fr h₀ L s.heap m) (H : Has m [(Str.ofString "reader", .ref R), (Str.ofString "piece", .bytes d.toArray td)]) (N : News h₀ L s.heap (led R Rd B hb he tb te cn e row X)) (hdp : dp + 20 < recursionLimit) (hu : un + 200 < cLine) (he0 : e = false) (hz : row.length + d.length ≤ 1000) (hB : notB R Rd B hb he tb te cn e X) (hne : ∀ p ∈ X, p.1 ≠ Rd) (hRR : R ≠ Rd)
  (hQ : ∀ h' tk m', Fr h₀ L h' m' → (∀ y, m' y = m y) → News h₀ L h' (led R Rd B hb he tb te cn false (row ++ d) X) → Q .next { s with heap := h', toks := tk }) :
  wpC (model Challenge.rw_ev0028_01.row.prog w) (lawA dp un gd L a ccd Cl) (exec i7E1 (lawE L a ccd Cl)) Q E s := by
  have KX₀ := KX
  try dsimp only [led] at N
  replace F := frHas F H
  dsimp only [chainTo] at F
  unfold i7E1; dsimp only
  subst he0
  refine wpC_Expr (wpC_methodCall ?_)
  revert KX; k_fill; intro KX
  w_strict (k_steps)
  · dsimp only
    refine wpC_callWith_K (K := hd.heap_39 w.params) (h₀ := h₀) (by k_is) ?_
    w_strict (k_steps)
    · refine feed_ok (s := { s with toks := _ }) KX₀ T F N hz hB hne hRR (by omega) fun h1 tk1 F1 N1 => ?_
      exact hQ _ _ _ F1 (fun y => (Has.chain H y).symm) N1


set_option maxHeartbeats 0 in
theorem lc_S1  (KX : (hd.heap_39 w.params).In h₀) (T : Top hd.view_39 (looseW hd.view_39 [Str.ofString "StreamReader"]) mean mg mb h₀) (B₀ : Below A₀ base [] h₀)
  (F : Fr h₀ L s.heap m) (H : Has m []) (N : News h₀ L s.heap (X)) (hdp : dp + 20 < recursionLimit) (hu : un + 200 < cLine) 
  (hQ : ∀ h' tk R Rd B hb he tb te m', Fr h₀ L h' m' → m' (Str.ofString "reader") = some (.ref R) → (∀ y, y ≠ Str.ofString "reader" → m' y = m y) → News h₀ L h' (led R Rd B hb he tb te 2 false [] X) → (∀ p ∈ X, p.1 < Rd) → Rd < R → R < B → Q .next { s with heap := h', toks := tk }) :
  wpC (model Challenge.rw_ev0028_01.row.prog w) (lawA dp un gd L a ccd Cl) (exec lawS1 (lawE L a ccd Cl)) Q E s := by
  have KX₀ := KX
  try dsimp only [led] at N
  replace F := frHas F H
  dsimp only [chainTo] at F
  unfold lawS1; dsimp only
  refine wpC_Assign (wpC_Call_Name ?_)
  revert KX; k_fill; intro KX
  w_strict (k_steps)
  · refine wpC_callWith_K0 (K := hd.heap_39 w.params) (KX.keeps F.keep) (by k_is) ?_
    refine reader_C (s := { s with toks := _ }) KX₀ T F N (by omega) fun h1 tk1 R Rd B hb he tb te F1 N1 l1 l2 l3 => ?_
    w_strict (k_steps)
    refine' hQ _ _ R Rd B hb he tb te _ ?F ?H1 ?H2 ?N l1 l2 l3; (case F => assumption); (case H1 => with_unfolding_all exact rfl); (case H2 => exact fun y hy => (if_neg hy).trans (Has.chain H y).symm); (case N => assumption)


theorem wpC_Or {M : Model} {A : Around} {E : Value → Shared → Prop} {s : Shared} {env : Env} {e₁ e₂ : Expr} {rest : List Expr} {pos : Pos} {Q : Value → Shared → Prop}
    (h : wpC M A (eval e₁ env) (fun v s₁ => wpC M A (truthy v) (fun c s₂ => if c = true then Q v s₂ else wpC M A (eval (.BoolOp .Or (e₂ :: rest) pos) env) Q E s₂) E s₁) E s) :
    wpC M A (eval (.BoolOp .Or (e₁ :: e₂ :: rest) pos) env) Q E s := by
  show wpC M A (do
    let v ← eval e₁ env
    standAt pos
    let c ← holding [v] (truthy v)
    match BoolOp.Or, c with
    | .And, false | .Or, true => pure v
    | _, _ => boolOp pos .Or (eval e₂ env :: evalEach rest env)) Q E s
  refine wpC_bind (wpC_mono h (fun v s₁ h₁ => wpC_stand (wpC_bind (wpC_holding (wpC_mono h₁ (fun c s₂ h₂ => ?_) fun _ _ x => x)))) fun _ _ x => x)
  cases c with
  | false => rw [if_neg (by decide)] at h₂; exact h₂
  | true => rw [if_pos rfl] at h₂; exact wpC_pure h₂
theorem wpC_And {M : Model} {A : Around} {E : Value → Shared → Prop} {s : Shared} {env : Env} {e₁ e₂ : Expr} {rest : List Expr} {pos : Pos} {Q : Value → Shared → Prop}
    (h : wpC M A (eval e₁ env) (fun v s₁ => wpC M A (truthy v) (fun c s₂ => if c = true then wpC M A (eval (.BoolOp .And (e₂ :: rest) pos) env) Q E s₂ else Q v s₂) E s₁) E s) :
    wpC M A (eval (.BoolOp .And (e₁ :: e₂ :: rest) pos) env) Q E s := by
  show wpC M A (do
    let v ← eval e₁ env
    standAt pos
    let c ← holding [v] (truthy v)
    match BoolOp.And, c with
    | .And, false | .Or, true => pure v
    | _, _ => boolOp pos .And (eval e₂ env :: evalEach rest env)) Q E s
  refine wpC_bind (wpC_mono h (fun v s₁ h₁ => wpC_stand (wpC_bind (wpC_holding (wpC_mono h₁ (fun c s₂ h₂ => ?_) fun _ _ x => x)))) fun _ _ x => x)
  cases c with
  | false => rw [if_neg (by decide)] at h₂; exact wpC_pure h₂
  | true => rw [if_pos rfl] at h₂; exact h₂

set_option maxHeartbeats 0 in
theorem lc_fin  (KX : (hd.heap_39 w.params).In h₀) (T : Top hd.view_39 (looseW hd.view_39 [Str.ofString "StreamReader"]) mean mg mb h₀) (B₀ : Below A₀ base [] h₀)
  (F : Fr h₀ L s.heap m) (H : Has m [(Str.ofString "reader", .ref R), (Str.ofString "row", .ref Rw), (Str.ofString "ended", .bool e)]) (N : News h₀ L s.heap (led R Rd B hb he tb te cn e row ((Rw, listOf vs.toArray c) :: X))) (hdp : dp + 20 < recursionLimit) (hu : un + 200 < cLine) (hz : row.length ≤ 990) (hB : notB R Rd B hb he tb te cn e ((Rw, listOf vs.toArray c) :: X)) (hne : ∀ p ∈ (Rw, listOf vs.toArray c) :: X, p.1 ≠ Rd) (hRR : R ≠ Rd) (hv : IntsAre vs (rowInts row))
  (hQ : ∀ h' tk m', Fr h₀ L h' m' → Q (.ret (.bool true)) { s with heap := h', toks := tk }) :
  wpC (model Challenge.rw_ev0028_01.row.prog w) (lawA dp un gd L a ccd Cl) (exec lawS5 (lawE L a ccd Cl)) Q E s := by
  have KX₀ := KX
  try dsimp only [led] at N
  replace F := frHas F H
  dsimp only [chainTo] at F
  unfold lawS5; dsimp only
  have KX₁ := KX
  refine wpC_Return ?_
  cases e with
  | false =>
    refine wpC_Or (wpC_any ?_)
    revert KX; k_fill; intro KX
    w_strict (k_steps)
    refine wpC_any ?_
    w_strict (k_steps)
    exact hQ _ _ _ F
  | true =>
    refine wpC_Or (wpC_any ?_)
    revert KX; k_fill; intro KX
    w_strict (k_steps)
    refine wpC_any ?_
    w_strict (k_steps)
    refine (show wpC _ _ (eval (.BoolOp .And _ _) _) _ _ _ from ?_)
    refine wpC_And (wpC_Compare1 (wpC_Call_Name ?_))
    w_strict (k_steps)
    refine wpC_callWith_K (K := hd.heap_39 w.params) (h₀ := h₀) (by k_is) ?_
    w_strict (k_steps)
    refine ended_C (s := { s with toks := _ }) KX₀ T rfl F N (by omega) hB hne hRR (by omega) fun h1 tk1 F1 N1 => ?_
    refine wpC_any ?_
    w_strict (k_steps)
    refine wpC_any ?_
    w_strict (k_steps)
    refine wpC_any ?_
    w_strict (k_steps)
    refine wpC_And (wpC_Compare1 (wpC_Call_Name ?_))
    w_strict (k_steps)
    refine wpC_callWith_K (K := hd.heap_39 w.params) (h₀ := h₀) (by k_is) ?_
    w_strict (k_steps)
    refine fed_C (d := [120]) (s := { s with heap := h1, toks := _ }) KX₀ T rfl F1 N1 (by simp; omega) hB hne hRR (by omega) fun h2 tk2 F2 N2 => ?_
    rw [if_pos rfl] at N2
    refine wpC_any ?_
    w_strict (k_steps)
    refine wpC_any ?_
    w_strict (k_steps)
    refine wpC_any ?_
    w_strict (k_steps)
    refine wpC_any (BoolOp_one ?_)
    w_strict (k_steps)
    have hbb : (row.toArray.toList == (List.map (fun n => n.toNat.toUInt8) (rowInts row)).toArray.toList) = true := by
      have := rowInts_byte row
      unfold byteOf at this
      simp [this]
    rw [hbb]
    exact hQ _ _ _ (by assumption)


set_option maxHeartbeats 0 in
theorem lp_S2  (KX : (hd.heap_39 w.params).In h₀) (T : Top hd.view_39 (looseW hd.view_39 [Str.ofString "StreamReader"]) mean mg mb h₀) (B₀ : Below A₀ base [] h₀)
  (F : Fr h₀ L s.heap m) (H : Has m []) (N : News h₀ L s.heap ((Cl, oC) :: X)) (hdp : dp + 20 < recursionLimit) (hu : un + 200 < cLine) 
  (hQ : ∀ h' tk Rw' m', Fr h₀ L h' m' → m' (Str.ofString "row") = some (.ref Rw') → (∀ y, y ≠ Str.ofString "row" → m' y = m y) →  News h₀ L h' ((Rw', listOf ([] : List Value).toArray 0) :: (Cl, oC) :: X) → (∀ p ∈ (Cl, oC) :: X, p.1 < Rw') → Q .next { s with heap := h', toks := tk }) :
  wpAny (model Challenge.rw_ev0028_01.row.prog w) (lawA dp un gd L a ccd Cl) (execs [lawS2] (lawE L a ccd Cl)) Q E s := by
  try dsimp only [lawL, led] at N
  replace F := frHas F H
  dsimp only [chainTo] at F
  unfold lawS2; dsimp only
  revert KX; k_fill; intro KX
  w_strict (k_steps)
  · (refine' hQ _ _ _ _ ?F ?H1 ?H2 ?N ?l; (case F => assumption); (case H1 => with_unfolding_all exact rfl); (case H2 => exact fun y hy => (if_neg hy).trans (Has.chain H y).symm); (case N => assumption); (case l => exact tb_ltOf (by assumption : AllLt _ (_ :: _))))


set_option maxHeartbeats 0 in
theorem lp_S3  (KX : (hd.heap_39 w.params).In h₀) (T : Top hd.view_39 (looseW hd.view_39 [Str.ofString "StreamReader"]) mean mg mb h₀) (B₀ : Below A₀ base [] h₀)
  (F : Fr h₀ L s.heap m) (H : Has m []) (N : News h₀ L s.heap (X)) (hdp : dp + 20 < recursionLimit) (hu : un + 200 < cLine) 
  (hQ : ∀ h' tk m', Fr h₀ L h' m' → m' (Str.ofString "ended") = some (.bool false) → (∀ y, y ≠ Str.ofString "ended" → m' y = m y) →  News h₀ L h' X → Q .next { s with heap := h', toks := tk }) :
  wpAny (model Challenge.rw_ev0028_01.row.prog w) (lawA dp un gd L a ccd Cl) (execs [lawS3] (lawE L a ccd Cl)) Q E s := by
  try dsimp only [lawL, led] at N
  replace F := frHas F H
  dsimp only [chainTo] at F
  unfold lawS3; dsimp only
  revert KX; k_fill; intro KX
  w_strict (k_steps)
  · (refine' hQ _ _ _ ?F ?H1 ?H2 ?N; (case F => assumption); (case H1 => with_unfolding_all exact rfl); (case H2 => exact fun y hy => (if_neg hy).trans (Has.chain H y).symm); (case N => assumption))


set_option maxHeartbeats 0 in
theorem lp_S0 {sc : Addr} (KX : (hd.heap_39 w.params).In h₀) (T : Top hd.view_39 (looseW hd.view_39 [Str.ofString "StreamReader"]) mean mg mb h₀) (B₀ : Below A₀ h₀ [] h₀)
  (F : Fr h₀ L s.heap m) (H : Has m [(Str.ofString "script", .ref sc)]) (N : News h₀ L s.heap ([(Cl, oC)])) (hdp : dp + 20 < recursionLimit) (hu : un + 200 < cLine) (hC : oC.data = .cell none) (hsc : h₀.IsList sc vs.toArray) (hi : IntsAre vs ns) (hlen : ns.length ≤ 63)
  (hQ : ∀ h' tk S D ds c2 lcg tp tl oC' m', Fr h₀ L h' m' → News h₀ L h' (lawL S (stObj D 0 lcg tp tl 0) Cl oC' D ds c2 []) → oC'.data = .cell (some (.ref S)) → IntsAre ds (ns.take 60) → 0 ≤ lcg → lcg < 65537 → Cl < S → D < S → Q .next { s with heap := h', toks := tk }) :
  wpAny (model Challenge.rw_ev0028_01.row.prog w) (lawA dp un gd L a ccd Cl) (execs [lawS0] (lawE L a ccd Cl)) Q E s := by
  try dsimp only [lawL, led] at N
  replace F := frHas F H
  dsimp only [chainTo] at F
  unfold lawS0; dsimp only
  revert KX; k_fill; intro KX
  w_strict (k_steps)
  · have hk : lawScope.kind = .function := rfl
    (refine wpAny_call ?_; k_dflt ktr_enter)
    (with_reducible rename Below _ _ _ _ => BB9)
    k_lift BB9
    w_strict (k_steps)
    · refine' hQ _ _ _ _ _ _ _ _ _ _ _ ?F ?N ?d ?i ?a ?b ?l1 ?l2; (case F => assumption); (case N => exact news_pick6 (by assumption)); (case d => assumption); (case i => assumption); (case a => exact Int.add_nonneg (by decide) (fmod_lo (by decide))); (case b => have := fmod_hi (a := (List.map (fun k' => (if k' < 0 then -k' else k').fmod 997) (List.take 60 ns)).sum) (n := 65536) (by decide); omega); (case l1 => omega); (case l2 => exact (by assumption : _ ∧ _ ∧ _ ∧ _ ∧ Cl < _).2.2.1)

end
end Mine
end
section
open PySem PySem.W PySem.Calls PyProof.Rows
set_option maxRecDepth 100000
namespace Mine
local macro_rules | `(tactic| walk_at "call ref") => `(tactic| (k_here; (with_reducible show wpAny _ _ (call (Value.ref 98) [Value.ref _, Value.int _ _]) _ _ _); k_dflt (refine' next_K ?KX ?T ?B ?hk ?F ?N ?hD ?U ?hi ?hp ?hl ?hl2 ?hlen ?hn ?hn2 ?hd ?hu ?_; (case KX => assumption); (case T => assumption); (case B => assumption); (case hk => rfl); (case F => k_asm); (case N => k_asm); (case U => first | exact UpdF.head (by assumption) | exact UpdF.tail (by k_ne) (UpdF.head (by assumption)) | exact UpdF.tail (by k_ne) (UpdF.tail (by k_ne) (UpdF.head (by assumption))) | exact UpdF.tail (by k_ne) (UpdF.tail (by k_ne) (UpdF.tail (by k_ne) (UpdF.head (by assumption)))) | exact UpdF.tail (by k_ne) (UpdF.tail (by k_ne) (UpdF.tail (by k_ne) (UpdF.tail (by k_ne) (UpdF.head (by assumption)))))); (case hD => k_mem); (case hi => assumption); (case hp => assumption); (case hl => assumption); (case hl2 => assumption); (case hlen => assumption); (case hn => decide); (case hn2 => decide); (case hd => omega); (case hu => omega)); intro _ _ _ _ _ _ _ _ _ _ _ _ _ _ _))
local macro_rules | `(tactic| walk_at "CompSrc") => `(tactic| (k_here; k_dflt (refine' src_piece ?hh ?el ?F ?N ?hr ?b0 ?b1 ?a1 ?a2 ?a3 ?_; (case hh => rfl); (case F => k_asm); (case N => k_asm); (case el => first | exact elt_2 (by assumption) (by assumption) (by assumption) (by assumption) (by assumption) (by assumption) (by assumption) (by assumption) (by assumption) | exact elt_2 (by assumption) (by assumption) (by assumption) (by assumption) (by assumption) (by assumption) (by assumption) (by assumption) (by assumption)); (case hr => assumption); (case b0 => assumption); (case b1 => omega); (case a1 => assumption); (case a2 => assumption); (case a3 => assumption)); intro _ _ _ _ _ _ _ _ _ _ _ _ _ _ _ _ _ _ _))
local macro_rules | `(tactic| walk_at "call type:bytes") => `(tactic| (k_here; (with_reducible show wpAny _ _ (call (Value.type _) [Value.ref _]) _ _ _); k_dflt (refine' bytes_K ?F ?N ?l ?i ?r ?z ?h ?_; (case F => k_asm); (case N => k_asm); (case l => is_list); (case i => first | assumption | l_ints | l_intsW); (case r => first | assumption | (exact rowInts_small _)); (case z => (rw [IntsAre.length (by assumption), sizeLine_eq]; first | omega | (rw [rowInts_len]; omega))); (case h => with_unfolding_all rfl); k_whole); intro _ _ _ _ _ _))
local macro_rules | `(tactic| walk_at "call type:bytes") => `(tactic| (k_here; (with_reducible show wpAny _ _ (call (Value.type "bytes") [Value.ref _]) _ _ _); k_dflt (refine' ba_bytes (News.get ?k1 ?k2) ?z ?_; (case k1 => k_asm); (case k2 => k_mem); (case z => omega); k_whole)))
local macro_rules | `(tactic| walk_at "call type:list") => `(tactic| (k_here; (with_reducible show wpAny _ _ (call (Value.type "list") [Value.bytes _ _]) _ _ _); k_dflt (refine' list_K ?F ?N ?h ?z ?_; (case F => k_asm); (case N => k_asm); (case h => with_unfolding_all rfl); (case z => omega)); intro _ _ _ _ _ _ _ _ _))
local macro_rules | `(tactic| walk_at "binaryOp Add ref ref") => `(tactic| (k_here; k_dflt (refine' cat_K ?F ?N ?m1 ?m2 ?i1 ?i2 ?z ?_; (case F => k_asm); (case N => k_asm); (case m1 => k_mem); (case m2 => k_mem); (case i1 => assumption); (case i2 => first | assumption | exact IntsAre.nil); (case z => first | omega | (rw [rowInts_len]; omega) | (simp; omega))); intro _ _ _ _ _ _ _ _))
local macro_rules | `(tactic| walk_at "compareOp NotEq ref ref") => `(tactic| (k_here; (with_reducible show wpAny _ _ (compareOp CmpOp.NotEq (Value.ref _) (Value.ref _)) _ _ _); k_dflt (refine' ne_told (b := ?b) ?k1 ?k2 ?u ?_; (case k1 => exact News.get (by k_asm) (by first | exact List.Mem.head _ | k_mem)); (case k2 => exact News.get (by k_asm) (by first | exact List.Mem.tail _ (List.Mem.head _) | k_mem)); (case u => exact ne_units (by assumption)))))
local macro_rules | `(tactic| walk_at "call ref") => `(tactic| (k_here; (with_reducible show wpAny _ _ (call (Value.ref 117) _) _ _ _); k_dflt (refine' due_C ?kd ?KX ?T ?B ?hk ?F ?N ?hi ?hz ?hlim ?hd ?hu ?_; (case KX => assumption); (case T => assumption); (case B => assumption); (case hk => rfl); (case F => k_asm); (case N => k_asm); (case hi => assumption); (case kd => assumption); (case hz => assumption); (case hlim => assumption); (case hd => omega); (case hu => omega)); intro _ _ _ _ _ _ _ _ _))
local macro_rules | `(tactic| walk_at "subscriptTail Name Slice ref ref") => `(tactic| (k_here; (with_reducible show wpAny _ _ (subscriptTail _ (PySem.Expr.Slice _ _ none _) (Value.ref _) (Value.ref _)) _ _ _); k_dflt (refine' from_K ?F ?N ?m ?i ?k ?z ?_ ?s ?t; (case F => k_asm); (case N => k_asm); (case m => k_mem); (case i => assumption); (case k => assumption); (case z => assumption); (case s => with_unfolding_all rfl); (case t => (intro _; with_unfolding_all rfl))); intro _ _ _ _ _ _ _))
section
variable {w : World} {s : Shared} {A₀ : Around} {base h₀ : Heap} {L S D Cl dp un a : Nat} {oC : Obj} {ccd : Value} {gd : Option (List Code)} {m mg mb : Str → Option Value} {mean : ExcName → Option Value} {Q : Flow → Shared → Prop} {E : Value → Shared → Prop}
  {place lcg n : Int} {tp tl tn : Tok} {ds vs : List Value} {ns : List Int} {c c1 c2 : Nat} {X : List (Addr × Obj)} {R Rd B Rw Gn : Addr} {hb he : Int} {tb te : Tok} {cn : Nat} {e : Bool} {row : List UInt8} {lim kind : Nat} {t1 t2 : Tok}

set_option maxHeartbeats 0 in
theorem lw_7E0  (KX : (hd.heap_39 w.params).In h₀) (T : Top hd.view_39 (looseW hd.view_39 [Str.ofString "StreamReader"]) mean mg mb h₀) (B₀ : Below A₀ base [] h₀)
  (F : Fr h₀ L s.heap m) (H : Has m []) (N : News h₀ L s.heap (lawL S (stObj D place lcg tp tl c1) Cl oC D ds c2 X)) (hS : ∀ p ∈ (Cl, oC) :: (D, listOf ds.toArray c2) :: X, p.1 ≠ S) (hC : oC.data = .cell (some (.ref S))) (hi : IntsAre ds ns) (hp : 0 ≤ place) (hl : 0 ≤ lcg) (hl2 : lcg < 65537) (hlen : ns.length ≤ 60) (hdp : dp + 20 < recursionLimit) (hu : un + 200 < cLine) 
  (hQ : ∀ h' tk place' lcg' tp' tl' (d : List UInt8) td m', Fr h₀ L h' m' → m' (Str.ofString "piece") = some (.bytes d.toArray td) → (∀ y, y ≠ Str.ofString "piece" → m' y = m y) →  News h₀ L h' (lawL S (stObj D place' lcg' tp' tl' c1) Cl oC D ds c2 X) → 0 ≤ place' → 0 ≤ lcg' → lcg' < 65537 → d.length ≤ 10 → Q .next { s with heap := h', toks := tk }) :
  wpAny (model Challenge.rw_ev0028_01.row.prog w) (lawA dp un gd L a ccd Cl) (execs [i7E0] (lawE L a ccd Cl)) Q E s := by
  dsimp only [lawL, led] at N
  replace F := frHas F H
  dsimp only [chainTo] at F
  unfold i7E0; dsimp only
  revert KX; k_fill; intro KX
  w_strict (k_steps)
  · (refine' hQ _ _ _ _ _ _ _ _ _ ?F ?H1 ?H2 ?N ?a ?b ?c ?d; (case F => assumption); (case H1 => with_unfolding_all exact rfl); (case H2 => exact fun y hy => (if_neg hy).trans (Has.chain H y).symm); (case N => exact news_tail (by assumption)); (case a => assumption); (case b => assumption); (case c => assumption); (case d => (rw [List.length_map]; assumption)))

end
end Mine
end
section
open PySem PySem.W PySem.Calls PyProof.Rows
set_option maxRecDepth 100000
namespace Mine
local macro_rules | `(tactic| walk_at "call ref") => `(tactic| (k_here; (with_reducible show wpAny _ _ (call (Value.ref 98) [Value.ref _, Value.int _ _]) _ _ _); k_dflt (refine' next_K ?KX ?T ?B ?hk ?F ?N ?hD ?U ?hi ?hp ?hl ?hl2 ?hlen ?hn ?hn2 ?hd ?hu ?_; (case KX => assumption); (case T => assumption); (case B => assumption); (case hk => rfl); (case F => k_asm); (case N => k_asm); (case U => first | exact UpdF.head (by assumption) | exact UpdF.tail (by k_ne) (UpdF.head (by assumption)) | exact UpdF.tail (by k_ne) (UpdF.tail (by k_ne) (UpdF.head (by assumption))) | exact UpdF.tail (by k_ne) (UpdF.tail (by k_ne) (UpdF.tail (by k_ne) (UpdF.head (by assumption)))) | exact UpdF.tail (by k_ne) (UpdF.tail (by k_ne) (UpdF.tail (by k_ne) (UpdF.tail (by k_ne) (UpdF.head (by assumption)))))); (case hD => k_mem); (case hi => assumption); (case hp => assumption); (case hl => assumption); (case hl2 => assumption); (case hlen => assumption); (case hn => decide); (case hn2 => decide); (case hd => omega); (case hu => omega)); intro _ _ _ _ _ _ _ _ _ _ _ _ _ _ _))
local macro_rules | `(tactic| walk_at "CompSrc") => `(tactic| (k_here; k_dflt (refine' src_piece ?hh ?el ?F ?N ?hr ?b0 ?b1 ?a1 ?a2 ?a3 ?_; (case hh => rfl); (case F => k_asm); (case N => k_asm); (case el => first | exact elt_1 (by assumption) (by assumption) (by assumption) (by assumption) (by assumption) (by assumption) (by assumption) (by assumption) (by assumption) | exact elt_2 (by assumption) (by assumption) (by assumption) (by assumption) (by assumption) (by assumption) (by assumption) (by assumption) (by assumption)); (case hr => assumption); (case b0 => assumption); (case b1 => omega); (case a1 => assumption); (case a2 => assumption); (case a3 => assumption)); intro _ _ _ _ _ _ _ _ _ _ _ _ _ _ _ _ _ _ _))
local macro_rules | `(tactic| walk_at "call type:bytes") => `(tactic| (k_here; (with_reducible show wpAny _ _ (call (Value.type _) [Value.ref _]) _ _ _); k_dflt (refine' bytes_K ?F ?N ?l ?i ?r ?z ?h ?_; (case F => k_asm); (case N => k_asm); (case l => is_list); (case i => first | assumption | l_ints | l_intsW); (case r => first | assumption | (exact rowInts_small _)); (case z => (rw [IntsAre.length (by assumption), sizeLine_eq]; first | omega | (rw [rowInts_len]; omega))); (case h => with_unfolding_all rfl); k_whole); intro _ _ _ _ _ _))
local macro_rules | `(tactic| walk_at "call type:bytes") => `(tactic| (k_here; (with_reducible show wpAny _ _ (call (Value.type "bytes") [Value.ref _]) _ _ _); k_dflt (refine' ba_bytes (News.get ?k1 ?k2) ?z ?_; (case k1 => k_asm); (case k2 => k_mem); (case z => omega); k_whole)))
local macro_rules | `(tactic| walk_at "call type:list") => `(tactic| (k_here; (with_reducible show wpAny _ _ (call (Value.type "list") [Value.bytes _ _]) _ _ _); k_dflt (refine' list_K ?F ?N ?h ?z ?_; (case F => k_asm); (case N => k_asm); (case h => with_unfolding_all rfl); (case z => omega)); intro _ _ _ _ _ _ _ _ _))
local macro_rules | `(tactic| walk_at "binaryOp Add ref ref") => `(tactic| (k_here; k_dflt (refine' cat_K ?F ?N ?m1 ?m2 ?i1 ?i2 ?z ?_; (case F => k_asm); (case N => k_asm); (case m1 => k_mem); (case m2 => k_mem); (case i1 => assumption); (case i2 => first | assumption | exact IntsAre.nil); (case z => first | omega | (rw [rowInts_len]; omega) | (simp; omega))); intro _ _ _ _ _ _ _ _))
local macro_rules | `(tactic| walk_at "compareOp NotEq ref ref") => `(tactic| (k_here; (with_reducible show wpAny _ _ (compareOp CmpOp.NotEq (Value.ref _) (Value.ref _)) _ _ _); k_dflt (refine' ne_told (b := ?b) ?k1 ?k2 ?u ?_; (case k1 => exact News.get (by k_asm) (by first | exact List.Mem.head _ | k_mem)); (case k2 => exact News.get (by k_asm) (by first | exact List.Mem.tail _ (List.Mem.head _) | k_mem)); (case u => exact ne_units (by assumption)))))
local macro_rules | `(tactic| walk_at "call ref") => `(tactic| (k_here; (with_reducible show wpAny _ _ (call (Value.ref 117) _) _ _ _); k_dflt (refine' due_C ?kd ?KX ?T ?B ?hk ?F ?N ?hi ?hz ?hlim ?hd ?hu ?_; (case KX => assumption); (case T => assumption); (case B => assumption); (case hk => rfl); (case F => k_asm); (case N => k_asm); (case hi => assumption); (case kd => assumption); (case hz => assumption); (case hlim => assumption); (case hd => omega); (case hu => omega)); intro _ _ _ _ _ _ _ _ _))
local macro_rules | `(tactic| walk_at "subscriptTail Name Slice ref ref") => `(tactic| (k_here; (with_reducible show wpAny _ _ (subscriptTail _ (PySem.Expr.Slice _ _ none _) (Value.ref _) (Value.ref _)) _ _ _); k_dflt (refine' from_K ?F ?N ?m ?i ?k ?z ?_ ?s ?t; (case F => k_asm); (case N => k_asm); (case m => k_mem); (case i => assumption); (case k => assumption); (case z => assumption); (case s => with_unfolding_all rfl); (case t => (intro _; with_unfolding_all rfl))); intro _ _ _ _ _ _ _))
section
variable {w : World} {s : Shared} {A₀ : Around} {base h₀ : Heap} {L S D Cl dp un a : Nat} {oC : Obj} {ccd : Value} {gd : Option (List Code)} {m mg mb : Str → Option Value} {mean : ExcName → Option Value} {Q : Flow → Shared → Prop} {E : Value → Shared → Prop}
  {place lcg n : Int} {tp tl tn : Tok} {ds vs : List Value} {ns : List Int} {c c1 c2 : Nat} {X : List (Addr × Obj)} {R Rd B Rw Gn : Addr} {hb he : Int} {tb te : Tok} {cn : Nat} {e : Bool} {row : List UInt8} {lim kind : Nat} {t1 t2 : Tok}

set_option maxHeartbeats 0 in
theorem lw_6T {QB : Bool → Shared → Prop} {gg : Bool} (KX : (hd.heap_39 w.params).In h₀) (T : Top hd.view_39 (looseW hd.view_39 [Str.ofString "StreamReader"]) mean mg mb h₀) (B₀ : Below A₀ base [] h₀)
  (F : Fr h₀ L s.heap m) (H : Has m [(Str.ofString "going", .bool gg)]) (N : News h₀ L s.heap (X)) (hdp : dp + 20 < recursionLimit) (hu : un + 200 < cLine) 
  (hQ : ∀ tk, QB gg { s with toks := tk }) :
  wpAny (model Challenge.rw_ev0028_01.row.prog w) (lawA dp un gd L a ccd Cl) (isTrue i6Test (lawE L a ccd Cl) (eval i6Test (lawE L a ccd Cl))) QB E s := by
  try dsimp only [lawL, led] at N
  replace F := frHas F H
  dsimp only [chainTo] at F
  unfold i6Test; dsimp only
  revert KX; k_fill; intro KX
  w_strict (k_steps)
  · exact hQ _


set_option maxHeartbeats 0 in
theorem lw_inT {QB : Bool → Shared → Prop} {gg : Bool} (KX : (hd.heap_39 w.params).In h₀) (T : Top hd.view_39 (looseW hd.view_39 [Str.ofString "StreamReader"]) mean mg mb h₀) (B₀ : Below A₀ base [] h₀)
  (F : Fr h₀ L s.heap m) (H : Has m [(Str.ofString "going", .bool gg)]) (N : News h₀ L s.heap (X)) (hdp : dp + 20 < recursionLimit) (hu : un + 200 < cLine) 
  (hQ : ∀ tk, QB gg { s with toks := tk }) :
  wpAny (model Challenge.rw_ev0028_01.row.prog w) (lawA dp un gd L a ccd Cl) (isTrue inTest (lawE L a ccd Cl) (eval inTest (lawE L a ccd Cl))) QB E s := by
  try dsimp only [lawL, led] at N
  replace F := frHas F H
  dsimp only [chainTo] at F
  unfold inTest; dsimp only
  revert KX; k_fill; intro KX
  w_strict (k_steps)
  · exact hQ _


set_option maxHeartbeats 0 in
theorem lw_iter {QV : Value → Shared → Prop} (KX : (hd.heap_39 w.params).In h₀) (T : Top hd.view_39 (looseW hd.view_39 [Str.ofString "StreamReader"]) mean mg mb h₀) (B₀ : Below A₀ base [] h₀)
  (F : Fr h₀ L s.heap m) (H : Has m []) (N : News h₀ L s.heap (lawL S (stObj D place lcg tp tl c1) Cl oC D ds c2 X)) (hS : ∀ p ∈ (Cl, oC) :: (D, listOf ds.toArray c2) :: X, p.1 ≠ S) (hC : oC.data = .cell (some (.ref S))) (hi : IntsAre ds ns) (hp : 0 ≤ place) (hl : 0 ≤ lcg) (hl2 : lcg < 65537) (hlen : ns.length ≤ 60) (hdp : dp + 20 < recursionLimit) (hu : un + 200 < cLine) 
  (hQ : ∀ h' tk place' lcg' tp' tl' r b tt uu vv m', Fr h₀ L h' m' → (∀ y, m' y = m y) → News h₀ L h' (lawL S (stObj D place' lcg' tp' tl' c1) Cl oC D ds c2 X) → 0 ≤ place' → 0 ≤ lcg' → lcg' < 65537 → IsRange h' r 0 b 1 tt uu vv → 2 ≤ b → b ≤ 8 → QV (.ref r) { s with heap := h', toks := tk }) :
  wpAny (model Challenge.rw_ev0028_01.row.prog w) (lawA dp un gd L a ccd Cl) (eval outIter (lawE L a ccd Cl)) QV E s := by
  dsimp only [lawL, led] at N
  replace F := frHas F H
  dsimp only [chainTo] at F
  unfold outIter; dsimp only
  revert KX; k_fill; intro KX
  w_strict (k_steps)
  · (refine' hQ _ _ _ _ _ _ _ _ _ _ _ _ ?F ?H ?N ?a ?b ?c ?r ?b2 ?b8; (case F => assumption); (case H => exact fun y => (Has.chain H y).symm); (case N => assumption); (case a => assumption); (case b => assumption); (case c => assumption); (case r => assumption); (case b2 => omega); (case b8 => omega))

end
end Mine
end
section
open PySem PySem.W PySem.Calls PyProof.Rows
open PySem.Sem (wp)
set_option maxRecDepth 100000
namespace Mine
/-! loops over clean contexts -/
section
variable {prog : Program} {w : World} {A : Around} {s : Shared} {R : Result → Shared → Prop} {env : Env}
abbrev NoE : Value → Shared → Prop := fun _ _ => False
theorem codeC_whileLoop {test : Expr} {body : List Stmt} (I : Nat → Shared → Prop)
    (turn : ∀ n s, I n s → wpC (model prog w) A (isTrue test env (eval test env)) (fun b s' => if b = true then
        wpC (model prog w) A (execs body env) (fun f s'' => match f with
          | .next | .cont => ∃ m, m < n ∧ I m s''
          | .brk => R (.ok .next) s''
          | .ret v => R (.ok (.ret v)) s'') NoE s'
      else R (.ok .next) s') NoE s)
    (n : Nat) (h : I n s) : codeC (model prog w) A (.whileLoop test body [] env) R s := by
  refine codeC_loop rfl rfl I (fun n s hI => ?_) n h
  show wpC _ A ((whileTurn test body [] env).onRaise (fun x => do noteFrame x env; theTreesLotGoes x)) _ _ s
  refine wpC_onRaise (wpC_mono (E := NoE) (Q := fun fin s' => match fin with | .done f => R (.ok f) s' | .again c' => c' = .whileLoop test body [] env ∧ ∃ m, m < n ∧ I m s') ?_ (fun _ _ h => h) fun _ _ h => h.elim)
  unfold whileTurn
  refine wpC_bind (wpC_mono (turn n s hI) (fun b s' hb => ?_) fun _ _ x => x)
  refine wpC_ite (fun e => ?_) fun e => ?_
  · rw [if_pos e] at hb
    refine wpC_bind (wpC_mono hb (fun f s'' hf => ?_) fun _ _ x => x)
    cases f with
    | next => exact wpC_pure ⟨rfl, hf⟩
    | cont => exact wpC_pure ⟨rfl, hf⟩
    | brk => exact wpC_pure hf
    | ret v => exact wpC_pure hf
  · rw [if_neg e] at hb
    exact wpC_bind (wpC_pure (wpC_pure hb))
theorem codeC_forLoop {x : Str} {px : Pos} {it : Value} {body : List Stmt} (I : Nat → Shared → Prop)
    (turn : ∀ n s, I n s → wpAny (model prog w) A (pyNext it) (fun r s₁ => match r with
      | none => R (.ok .next) s₁
      | some v => wpAny (model prog w) A (assign (.Name x px) env v) (fun _ s₂ => wpC (model prog w) A (execs body env) (fun f s₃ => match f with
            | .next | .cont => ∃ m, m < n ∧ I m s₃
            | .brk => R (.ok .next) s₃
            | .ret v => R (.ok (.ret v)) s₃) NoE s₂) NoE s₁) NoE s)
    (n : Nat) (h : I n s) : codeC (model prog w) A (.forLoop (.Name x px) it body [] env) R s := by
  induction n using Nat.strongRecOn generalizing s with
  | ind n ih =>
    refine codeC_of_tree rfl ?_
    show wpC _ A ((forTurn (.Name x px) it body [] env).onRaise (fun x => do noteFrame x env; theTreesLotGoes x)) _ _ s
    refine wpC_onRaise (wpC_mono (E := NoE) (Q := fun fin s' => match fin with | .done f => R (.ok f) s' | .again c' => c'.quiet = true ∧ codeC (model prog w) A c' R s') ?_ (fun _ _ h => h) fun _ _ h => h.elim)
    simp only [forTurn]
    refine wpC_stand (wpC_bind (wpC_onRaise (wpC_mono (wpC_any (turn n s h)) (fun r s₁ h₁ => ?_) fun _ _ h' => h'.elim)))
    cases r with
    | none =>
      exact wpC_pure (a := Fin.again (.block [] env)) ⟨rfl, codeC_any (codeAny_block (wpAny_execs_nil h₁))⟩
    | some v =>
      refine wpC_anyBind (wpAny_pure ?_)
      refine wpC_anyBind (wpAny_mono h₁ (fun _ s₂ h₂ => ?_) fun _ _ h' => h')
      refine wpC_bind (wpC_mono h₂ (fun f s₃ h₃ => ?_) fun _ _ h' => h')
      cases f with
      | next => obtain ⟨m, hm, hI⟩ := h₃; exact wpC_pure ⟨rfl, ih m hm hI⟩
      | cont => obtain ⟨m, hm, hI⟩ := h₃; exact wpC_pure ⟨rfl, ih m hm hI⟩
      | brk => exact wpC_pure h₃
      | ret v => exact wpC_pure h₃
end
end Mine
end
section
open PySem PySem.W PySem.Calls PyProof.Rows
set_option maxRecDepth 100000
namespace Mine
theorem outS0_eq : ∃ p, outS0 = .If o0Test o0Body [] p := ⟨_, rfl⟩
theorem outS1_eq : ∃ p, outS1 = .If o1Test o1Body [] p := ⟨_, rfl⟩
theorem inS2_eq : ∃ p, inS2 = .If i2Test i2Body [] p := ⟨_, rfl⟩
theorem inS5_eq : ∃ p, inS5 = .If i5Test i5Body [] p := ⟨_, rfl⟩
theorem inS6_eq : ∃ p, inS6 = .If i6Test i6Body [] p := ⟨_, rfl⟩
theorem i6S1_eq : ∃ p, i6S1 = .If i7Test i7Body i7Else p := ⟨_, rfl⟩
theorem outS8_eq : ∃ p, outS8 = .While inTest inBody [] p := ⟨_, rfl⟩
theorem lawS4_eq : ∃ p, lawS4 = .For outTarget outIter outBody [] p := ⟨_, rfl⟩
theorem outTarget_eq : ∃ p, outTarget = .Name (Str.ofString "turn") p := ⟨_, rfl⟩
theorem inTest_eq : ∃ p, inTest = .Name (Str.ofString "going") p := ⟨_, rfl⟩
theorem i6Test_eq : ∃ p, i6Test = .Name (Str.ofString "going") p := ⟨_, rfl⟩

structure Cfg where
  (S D R Rd B Rw : Addr)
  (place lcg : Int)
  (tp tl : Tok)
  (oC : Obj)
  (ds : List Value)
  (ns : List Int)
  (c1 c2 : Nat)
  (hb he : Int)
  (tb te : Tok)
  (cn : Nat)
  (e : Bool)
  (row : List UInt8)
  (vs : List Value)
  (c : Nat)
abbrev Cfg.st (C : Cfg) : Obj := stObj C.D C.place C.lcg C.tp C.tl C.c1
abbrev Cfg.rest (C : Cfg) (Y : List (Addr × Obj)) : List (Addr × Obj) := led C.R C.Rd C.B C.hb C.he C.tb C.te C.cn C.e C.row ((C.Rw, listOf C.vs.toArray C.c) :: Y)
abbrev Cfg.all (C : Cfg) (Cl : Addr) (Y : List (Addr × Obj)) : List (Addr × Obj) := lawL C.S C.st Cl C.oC C.D C.ds C.c2 (C.rest Y)
abbrev Cfg.off (C : Cfg) (Cl : Addr) (Y : List (Addr × Obj)) : List (Addr × Obj) := (C.Rw, listOf C.vs.toArray C.c) :: (C.S, C.st) :: (Cl, C.oC) :: (C.D, listOf C.ds.toArray C.c2) :: Y
abbrev Cfg.led (C : Cfg) (Cl : Addr) (Y : List (Addr × Obj)) : List (Addr × Obj) := Mine.led C.R C.Rd C.B C.hb C.he C.tb C.te C.cn C.e C.row (C.off Cl Y)
structure Apart (Cl : Addr) (S D R Rd B Rw : Addr) (Y : List (Addr × Obj)) : Prop where
  aS : ∀ a ∈ Cl :: D :: R :: Rd :: B :: Rw :: Y.map (·.1), a ≠ S
  aB : ∀ a ∈ S :: Cl :: D :: R :: Rd :: Rw :: Y.map (·.1), a ≠ B
  aD : ∀ a ∈ S :: Cl :: D :: R :: B :: Rw :: Y.map (·.1), a ≠ Rd
abbrev Cfg.Apart (C : Cfg) (Cl : Addr) (Y : List (Addr × Obj)) : Prop := Mine.Apart Cl C.S C.D C.R C.Rd C.B C.Rw Y
section
variable {C : Cfg} {Cl : Addr} {Y : List (Addr × Obj)}
theorem mem_led_all {p : Addr × Obj} (h : p ∈ C.led Cl Y) : p ∈ C.all Cl Y := by
  simp only [Cfg.led, Cfg.all, Cfg.rest, Cfg.off, Mine.led, lawL, List.mem_cons] at h ⊢; grind
theorem mem_all_led {p : Addr × Obj} (h : p ∈ C.all Cl Y) : p ∈ C.led Cl Y := by
  simp only [Cfg.led, Cfg.all, Cfg.rest, Cfg.off, Mine.led, lawL, List.mem_cons] at h ⊢; grind
theorem Apart.hS (ap : C.Apart Cl Y) : ∀ p ∈ (Cl, C.oC) :: (C.D, listOf C.ds.toArray C.c2) :: C.rest Y, p.1 ≠ C.S := fun p hp => by
  refine ap.aS p.1 ?_
  simp only [Cfg.rest, Mine.led, List.mem_cons] at hp ⊢
  rcases hp with rfl | rfl | rfl | rfl | rfl | rfl | hp <;> simp
  exact .inr (.inr (.inr (.inr (.inr (.inr ⟨_, hp⟩)))))
theorem Apart.notB (ap : C.Apart Cl Y) : notB C.R C.Rd C.B C.hb C.he C.tb C.te C.cn C.e (C.off Cl Y) := fun p hp => by
  refine ap.aB p.1 ?_
  simp only [Cfg.off, List.mem_cons] at hp ⊢
  rcases hp with rfl | rfl | rfl | rfl | rfl | rfl | hp <;> simp
  exact .inr (.inr (.inr (.inr (.inr (.inr ⟨_, hp⟩)))))
theorem Apart.hne (ap : C.Apart Cl Y) : ∀ p ∈ C.off Cl Y, p.1 ≠ C.Rd := fun p hp => by
  refine ap.aD p.1 ?_
  simp only [Cfg.off, List.mem_cons] at hp ⊢
  rcases hp with rfl | rfl | rfl | rfl | hp <;> simp
  exact .inr (.inr (.inr (.inr (.inr (.inr ⟨_, hp⟩)))))
theorem Apart.hRR (ap : C.Apart Cl Y) : C.R ≠ C.Rd := ap.aD _ (by simp)
/-- the row's list made anew, above all else -/
theorem Apart.newRow {S D R Rd B Rw Rw' : Addr} (ap : Mine.Apart Cl S D R Rd B Rw Y) (h1 : S ≠ Rw') (h2 : B ≠ Rw') (h3 : Rd ≠ Rw') : Mine.Apart Cl S D R Rd B Rw' Y := by
  obtain ⟨a, b, c⟩ := ap
  refine ⟨fun x hx => ?_, fun x hx => ?_, fun x hx => ?_⟩
  · by_cases q : x = Rw'
    · rw [q]; exact Ne.symm h1
    · refine a x ?_
      simp only [List.mem_cons] at hx ⊢; grind
  · by_cases q : x = Rw'
    · rw [q]; exact Ne.symm h2
    · refine b x ?_
      simp only [List.mem_cons] at hx ⊢; grind
  · by_cases q : x = Rw'
    · rw [q]; exact Ne.symm h3
    · refine c x ?_
      simp only [List.mem_cons] at hx ⊢; grind
theorem Apart.more {S D R Rd B Rw : Addr} {q : Addr × Obj} (ap : Mine.Apart Cl S D R Rd B Rw Y) (h1 : q.1 ≠ S) (h2 : q.1 ≠ B) (h3 : q.1 ≠ Rd) : Mine.Apart Cl S D R Rd B Rw (q :: Y) := by
  obtain ⟨a, b, c⟩ := ap
  refine ⟨fun x hx => ?_, fun x hx => ?_, fun x hx => ?_⟩
  · by_cases e : x = q.1
    · rw [e]; exact h1
    · refine a x ?_
      simp only [List.mem_cons, List.map_cons] at hx ⊢; grind
  · by_cases e : x = q.1
    · rw [e]; exact h2
    · refine b x ?_
      simp only [List.mem_cons, List.map_cons] at hx ⊢; grind
  · by_cases e : x = q.1
    · rw [e]; exact h3
    · refine c x ?_
      simp only [List.mem_cons, List.map_cons] at hx ⊢; grind
theorem Apart.less {S D R Rd B Rw : Addr} {q : Addr × Obj} (ap : Mine.Apart Cl S D R Rd B Rw (q :: Y)) : Mine.Apart Cl S D R Rd B Rw Y := by
  obtain ⟨a, b, c⟩ := ap
  refine ⟨fun x hx => a x ?_, fun x hx => b x ?_, fun x hx => c x ?_⟩ <;> (simp only [List.mem_cons, List.map_cons] at hx ⊢; grind)
end
/-- the law's frame between two statements -/
structure At (h₀ : Heap) (L Cl : Addr) (os₀ : OsState) (bnd : Nat) (Y : List (Addr × Obj)) (C : Cfg) (m : Str → Option Value) (s : Shared) : Prop where
  F : Fr h₀ L s.heap m
  N : News h₀ L s.heap (C.all Cl Y)
  ap : C.Apart Cl Y
  hC : C.oC.data = .cell (some (.ref C.S))
  hi : IntsAre C.ds C.ns
  hlen : C.ns.length ≤ 60
  hp : 0 ≤ C.place
  hl : 0 ≤ C.lcg
  hl2 : C.lcg < 65537
  hv : IntsAre C.vs (rowInts C.row)
  hz : C.row.length ≤ bnd
  hR : m (Str.ofString "reader") = some (.ref C.R)
  hRw : m (Str.ofString "row") = some (.ref C.Rw)
  hE : m (Str.ofString "ended") = some (.bool C.e)
  bare : AllBare s.gens
  hos : s.os = os₀
structure Gnd (w : World) (h₀ base : Heap) (A₀ : Around) (mg mb : Str → Option Value) (mean : ExcName → Option Value) (dp un : Nat) : Prop where
  KX : (hd.heap_39 w.params).In h₀
  T : Top hd.view_39 (looseW hd.view_39 [Str.ofString "StreamReader"]) mean mg mb h₀
  B₀ : Below A₀ base [] h₀
  hdp : dp + 20 < recursionLimit
  hu : un + 200 < cLine
section
variable {w : World} {s : Shared} {A₀ : Around} {base h₀ : Heap} {L Cl dp un a : Nat} {ccd : Value} {gd : Option (List Code)} {m mg mb : Str → Option Value} {mean : ExcName → Option Value} {Q : Flow → Shared → Prop} {E : Value → Shared → Prop} {os₀ : OsState} {bnd : Nat} {Y : List (Addr × Obj)} {C : Cfg}
theorem At.base3 (A : At h₀ L Cl os₀ bnd Y C m s) : Has m [(Str.ofString "reader", .ref C.R), (Str.ofString "row", .ref C.Rw), (Str.ofString "ended", .bool C.e)] := ⟨A.hR, A.hRw, A.hE, trivial⟩
/-- the state list has turned -/
theorem At.turned (A : At h₀ L Cl os₀ bnd Y C m s) {h' : Heap} {tk : Nat} {place' lcg' : Int} {tp' tl' : Tok} {m' : Str → Option Value} (F : Fr h₀ L h' m') (N : News h₀ L h' (lawL C.S (stObj C.D place' lcg' tp' tl' C.c1) Cl C.oC C.D C.ds C.c2 (C.rest Y)))
    (a1 : 0 ≤ place') (a2 : 0 ≤ lcg') (a3 : lcg' < 65537) (hR : m' (Str.ofString "reader") = some (.ref C.R)) (hRw : m' (Str.ofString "row") = some (.ref C.Rw)) (hE : m' (Str.ofString "ended") = some (.bool C.e)) :
    At h₀ L Cl os₀ bnd Y { C with place := place', lcg := lcg', tp := tp', tl := tl' } m' { s with heap := h', toks := tk } :=
  ⟨F, N, A.ap, A.hC, A.hi, A.hlen, a1, a2, a3, A.hv, A.hz, hR, hRw, hE, A.bare, A.hos⟩
/-- nothing but names and dropped things -/
theorem At.same (A : At h₀ L Cl os₀ bnd Y C m s) {h' : Heap} {tk : Nat} {m' : Str → Option Value} (F : Fr h₀ L h' m') (N : News h₀ L h' (C.all Cl Y)) (hR : m' (Str.ofString "reader") = some (.ref C.R)) (hRw : m' (Str.ofString "row") = some (.ref C.Rw)) (hE : m' (Str.ofString "ended") = some (.bool C.e)) :
    At h₀ L Cl os₀ bnd Y C m' { s with heap := h', toks := tk } :=
  ⟨F, N, A.ap, A.hC, A.hi, A.hlen, A.hp, A.hl, A.hl2, A.hv, A.hz, hR, hRw, hE, A.bare, A.hos⟩
theorem At.led (A : At h₀ L Cl os₀ bnd Y C m s) : News h₀ L s.heap (C.led Cl Y) := newsSub A.N fun p hp => mem_led_all hp
/-- the reader has turned (its octets, its end) -/
theorem At.read (A : At h₀ L Cl os₀ bnd Y C m s) {h' : Heap} {tk : Nat} {m' : Str → Option Value} {e' : Bool} {row' : List UInt8} {bnd' : Nat} {vs' : List Value} {c' : Nat} (F : Fr h₀ L h' m')
    (N : News h₀ L h' (Cfg.led { C with e := e', row := row', vs := vs', c := c' } Cl Y)) (hv : IntsAre vs' (rowInts row')) (hz : row'.length ≤ bnd') (hR : m' (Str.ofString "reader") = some (.ref C.R)) (hRw : m' (Str.ofString "row") = some (.ref C.Rw)) (hE : m' (Str.ofString "ended") = some (.bool e')) :
    At h₀ L Cl os₀ bnd' Y { C with e := e', row := row', vs := vs', c := c' } m' { s with heap := h', toks := tk } :=
  ⟨F, newsSub N fun p hp => mem_all_led hp, A.ap, A.hC, A.hi, A.hlen, A.hp, A.hl, A.hl2, hv, hz, hR, hRw, hE, A.bare, A.hos⟩
end
end Mine
end
section
open PySem PySem.W PySem.Calls PyProof.Rows
set_option maxRecDepth 100000
namespace Mine
abbrev Cfg.rest2 (C : Cfg) (Y : List (Addr × Obj)) : List (Addr × Obj) := (C.R, instObj 82 C.Rd) :: (C.Rd, dictOf [⟨C.hb, .str (Str.ofString "buffer") C.tb, .ref C.B⟩, ⟨C.he, .str (Str.ofString "eof") C.te, .bool C.e⟩] C.cn) :: (C.B, baObj C.row) :: Y
abbrev Cfg.all2 (C : Cfg) (Cl : Addr) (Y : List (Addr × Obj)) : List (Addr × Obj) := lawL C.S C.st Cl C.oC C.D C.ds C.c2 ((C.Rw, listOf C.vs.toArray C.c) :: C.rest2 Y)
section
variable {C : Cfg} {Cl : Addr} {Y : List (Addr × Obj)}
theorem mem_all2 {p : Addr × Obj} : p ∈ C.all2 Cl Y ↔ p ∈ C.led Cl Y := by
  simp only [Cfg.led, Cfg.all2, Cfg.rest2, Cfg.off, Mine.led, lawL, List.mem_cons]; grind
theorem Apart.hS2 (ap : C.Apart Cl Y) : ∀ p ∈ (Cl, C.oC) :: (C.D, listOf C.ds.toArray C.c2) :: (C.Rw, listOf C.vs.toArray C.c) :: C.rest2 Y, p.1 ≠ C.S := fun p hp => by
  refine ap.aS p.1 ?_
  simp only [Cfg.rest2, List.mem_cons] at hp ⊢
  rcases hp with rfl | rfl | rfl | rfl | rfl | rfl | hp <;> simp
  exact .inr (.inr (.inr (.inr (.inr (.inr ⟨_, hp⟩)))))
theorem newRow_of {Rw' : Addr} (ap : C.Apart Cl Y) (lt : ∀ p ∈ C.all2 Cl Y, p.1 < Rw') : Mine.Apart Cl C.S C.D C.R C.Rd C.B Rw' Y :=
  ap.newRow (Nat.ne_of_lt (lt (C.S, C.st) (by simp [Cfg.all2, lawL]))) (Nat.ne_of_lt (lt (C.B, baObj C.row) (by simp [Cfg.all2, lawL, Cfg.rest2])))
    (Nat.ne_of_lt (lt (C.Rd, dictOf [⟨C.hb, .str (Str.ofString "buffer") C.tb, .ref C.B⟩, ⟨C.he, .str (Str.ofString "eof") C.te, .bool C.e⟩] C.cn) (by simp [Cfg.all2, lawL, Cfg.rest2])))
end
section
variable {w : World} {s : Shared} {A₀ : Around} {base h₀ : Heap} {L Cl dp un a : Nat} {ccd : Value} {gd : Option (List Code)} {m mg mb : Str → Option Value} {mean : ExcName → Option Value} {Q : Flow → Shared → Prop} {E : Value → Shared → Prop} {os₀ : OsState} {bnd : Nat} {Y : List (Addr × Obj)} {C : Cfg}
theorem At.weaken (A : At h₀ L Cl os₀ bnd Y C m s) {bnd' : Nat} (h : bnd ≤ bnd') : At h₀ L Cl os₀ bnd' Y C m s := { A with hz := Nat.le_trans A.hz h }
/-- the row's list is made anew -/
theorem At.rowed (A : At h₀ L Cl os₀ bnd Y C m s) {h' : Heap} {tk : Nat} {m' : Str → Option Value} {e' : Bool} {row' : List UInt8} {bnd' : Nat} {Rw' : Addr} {vs' : List Value} {c' : Nat} (F : Fr h₀ L h' m')
    (N : News h₀ L h' ((Rw', listOf vs'.toArray c') :: Cfg.all2 { C with e := e', row := row' } Cl Y)) (lt : ∀ p ∈ Cfg.all2 { C with e := e', row := row' } Cl Y, p.1 < Rw') (hv : IntsAre vs' (rowInts row')) (hz : row'.length ≤ bnd')
    (hR : m' (Str.ofString "reader") = some (.ref C.R)) (hRw : m' (Str.ofString "row") = some (.ref Rw')) (hE : m' (Str.ofString "ended") = some (.bool e')) :
    At h₀ L Cl os₀ bnd' Y { C with e := e', row := row', Rw := Rw', vs := vs', c := c' } m' { s with heap := h', toks := tk } :=
  ⟨F, newsSub N fun p hp => by
      simp only [Cfg.all2, Cfg.rest2, Cfg.all, Cfg.rest, Mine.led, lawL, List.mem_cons] at hp ⊢; grind,
    newRow_of (C := { C with e := e', row := row' }) A.ap lt, A.hC, A.hi, A.hlen, A.hp, A.hl, A.hl2, hv, hz, hR, hRw, hE, A.bare, A.hos⟩

theorem out_S0 (G : Gnd w h₀ base A₀ mg mb mean dp un) (A : At h₀ L Cl os₀ bnd Y C m s) (hb : bnd ≤ 900) (k : ∀ C' m' s', At h₀ L Cl os₀ (bnd + 10) Y C' m' s' → s'.gens = s.gens → Q .next s') :
    wpC (model Challenge.rw_ev0028_01.row.prog w) (lawA dp un gd L a ccd Cl) (exec outS0 (lawE L a ccd Cl)) Q E s := by
  obtain ⟨p, e⟩ := outS0_eq; rw [e]
  refine wpC_If (wpC_any (lw_0T (X := C.rest Y) G.KX G.T G.B₀ A.F A.base3 A.N A.ap.hS A.hC A.hi A.hp A.hl A.hl2 A.hlen G.hdp G.hu fun h1 tk1 pl lc tp tl m1 b F1 H1 N1 a1 a2 a3 => ?_))
  have A1 := A.turned (tk := tk1) F1 N1 a1 a2 a3 H1.1 H1.2.1 H1.2.2.1
  cases b with
  | false =>
    rw [if_neg (by decide)]
    exact wpC_execs_nil (k _ _ _ (A1.weaken (Nat.le_add_right _ _)) rfl)
  | true =>
    rw [if_pos rfl, o0Body_eq]
    refine wpC_walk (lw_0S0 (s := { s with heap := h1, toks := tk1 }) (X := C.rest Y) G.KX G.T G.B₀ A1.F A1.base3 A1.N A1.ap.hS A1.hC A1.hi A1.hp A1.hl A1.hl2 A1.hlen G.hdp G.hu fun h2 tk2 pl2 lc2 tp2 tl2 d td m2 F2 H2 N2 b1 b2 b3 hd => ?_)
    show wpC _ _ (execs [o0S1, o0S2] _) _ _ _
    obtain ⟨Hp, Hr, Hw, He, _⟩ := H2
    have A2 := A1.turned (tk := tk2) F2 N2 b1 b2 b3 Hr Hw He
    have hz := A.hz
    refine wpC_cons (lc_0S1 (s := { s with heap := h2, toks := tk2 }) (X := Cfg.off { C with place := pl2, lcg := lc2, tp := tp2, tl := tl2 } Cl Y) G.KX G.T G.B₀ F2 ⟨Hr, Hp, He, trivial⟩ A2.led G.hdp G.hu (show C.row.length + d.length ≤ 1000 by omega) A2.ap.notB A2.ap.hne A2.ap.hRR fun h3 tk3 m3 F3 e3 N3 => ?_)
    show wpC _ _ (execs [o0S2] _) _ _ _
    have N3' : News h₀ L h3 (Cfg.all2 { C with place := pl2, lcg := lc2, tp := tp2, tl := tl2, row := if C.e = true then C.row else C.row ++ d } Cl Y) := newsSub N3 fun p hp => mem_all2.mp hp
    refine wpC_walk (lw_0S2 (s := { s with heap := h3, toks := tk3 }) (X := Cfg.rest2 { C with place := pl2, lcg := lc2, tp := tp2, tl := tl2, row := if C.e = true then C.row else C.row ++ d } Y) (Rw := C.Rw) G.KX G.T G.B₀ F3 ⟨(e3 _).trans Hp, (e3 _).trans Hr, (e3 _).trans Hw, (e3 _).trans He, trivial⟩ N3'
      (Apart.hS2 (C := { C with place := pl2, lcg := lc2, tp := tp2, tl := tl2, row := if C.e = true then C.row else C.row ++ d }) A.ap) A.hC A.hi b1 b2 b3 A.hlen G.hdp G.hu A.hv (show (rowInts C.row).length ≤ 1000 by rw [rowInts_len]; omega) hd fun h4 tk4 Rw' vs' c' m4 F4 H4 N4 lt4 hv4 => ?_)
    refine wpC_execs_nil (k _ _ _ (A2.rowed (e' := C.e) (tk := tk4) (row' := if C.e = true then C.row else C.row ++ d) F4 N4 lt4 ?_ ?_ H4.2.2.1 H4.1 H4.2.2.2.1) rfl)
    · cases he : C.e with
      | true => rw [he, if_pos rfl] at hv4; rw [if_pos rfl]; exact hv4
      | false => rw [he, if_neg (by decide)] at hv4; rw [if_neg (by decide), rowInts_app]; exact hv4
    · split
      · omega
      · rw [List.length_append]; omega
end
end Mine
end
section
open PySem PySem.W PySem.Calls PyProof.Rows
set_option maxRecDepth 100000
namespace Mine
theorem errWord_eof : errWord "EOFError" = "end" := by decide
theorem errWord_run : errWord "RuntimeError" = "run" := by decide
theorem errWord_val : errWord "ValueError" = "value" := by decide
def isWait : Ans → Bool
  | .waits => true
  | _ => false
theorem octets_not4 {kind lim : Nat} {row : List UInt8} {e : Bool} {k : Nat} (h : ans kind lim row e = .octets k) (hk5 : kind < 5) : (kind : Int) ≠ 4 := by
  intro q
  have : kind = 4 := by omega
  subst this
  unfold ans at h
  rw [if_neg (by decide), if_neg (by decide), if_neg (by decide)] at h
  split at h <;> cases h
theorem taken_le {kind lim : Nat} {row : List UInt8} {e : Bool} : taken (ans kind lim row e) ≤ row.length := by
  unfold ans
  (repeat' split) <;> simp only [taken] <;> first | omega | exact Nat.le_refl _ | (have := List.idxOf_lt_length_of_mem (by assumption : (10 : UInt8) ∈ row); omega)
abbrev Cfg.oth (C : Cfg) (Cl : Addr) (Y : List (Addr × Obj)) : List (Addr × Obj) := (C.S, C.st) :: (Cl, C.oC) :: (C.D, listOf C.ds.toArray C.c2) :: C.rest2 Y
section
variable {w : World} {s : Shared} {A₀ : Around} {base h₀ : Heap} {L Cl dp un a : Nat} {ccd : Value} {gd : Option (List Code)} {m mg mb : Str → Option Value} {mean : ExcName → Option Value} {Q : Flow → Shared → Prop} {E : Value → Shared → Prop} {os₀ : OsState} {bnd : Nat} {Y : List (Addr × Obj)} {C : Cfg}
theorem At.rowed2 (A : At h₀ L Cl os₀ bnd Y C m s) {Y' : List (Addr × Obj)} {h' : Heap} {G' : Array GenState} {tk : Nat} {m' : Str → Option Value} {e' : Bool} {row' : List UInt8} {bnd' : Nat} {Rw' : Addr} {vs' : List Value} {c' : Nat} (F : Fr h₀ L h' m')
    (N : News h₀ L h' ((Rw', listOf vs'.toArray c') :: Cfg.oth { C with e := e', row := row' } Cl Y')) (lt : ∀ p ∈ Cfg.oth { C with e := e', row := row' } Cl Y', p.1 < Rw') (ap : Mine.Apart Cl C.S C.D C.R C.Rd C.B C.Rw Y') (hv : IntsAre vs' (rowInts row')) (hz : row'.length ≤ bnd')
    (hR : m' (Str.ofString "reader") = some (.ref C.R)) (hRw : m' (Str.ofString "row") = some (.ref Rw')) (hE : m' (Str.ofString "ended") = some (.bool e')) (hG : AllBare G') :
    At h₀ L Cl os₀ bnd' Y' { C with e := e', row := row', Rw := Rw', vs := vs', c := c' } m' { s with heap := h', toks := tk, gens := G' } :=
  ⟨F, newsSub N fun p hp => by
      simp only [Cfg.oth, Cfg.rest2, Cfg.all, Cfg.rest, Mine.led, lawL, List.mem_cons] at hp ⊢; grind,
    ap.newRow (Nat.ne_of_lt (lt (C.S, C.st) (.head _))) (Nat.ne_of_lt (lt (C.B, baObj row') (.tail _ (.tail _ (.tail _ (.tail _ (.tail _ (.head _))))))))
      (Nat.ne_of_lt (lt (C.Rd, dictOf [⟨C.hb, .str (Str.ofString "buffer") C.tb, .ref C.B⟩, ⟨C.he, .str (Str.ofString "eof") C.te, .bool e'⟩] C.cn) (.tail _ (.tail _ (.tail _ (.tail _ (.head _))))))),
    A.hC, A.hi, A.hlen, A.hp, A.hl, A.hl2, hv, hz, hR, hRw, hE, hG, A.hos⟩

/-- told is what is due; the row is cut -/
theorem mid (G : Gnd w h₀ base A₀ mg mb mean dp un) {kind lim : Nat} {t1 t2 : Tok} {Dt : Addr} {ot : Obj} {O : List (Addr × Obj)} {aa : Ans} (hA : ans kind lim C.row C.e = aa) (hot : AnsTup (rowInts C.row) aa ot) (hk5 : kind < 5) (hlim : lim < 10)
    (F : Fr h₀ L s.heap m) (N : News h₀ L s.heap ((Dt, ot) :: (C.Rw, listOf C.vs.toArray C.c) :: O)) (hv : IntsAre C.vs (rowInts C.row)) (hz : C.row.length ≤ 1000)
    (ht : m (Str.ofString "told") = some (.ref Dt)) (hkd : m (Str.ofString "kind") = some (.int kind t1)) (hlm : m (Str.ofString "limit") = some (.int lim t2)) (hR : m (Str.ofString "reader") = some (.ref C.R)) (hRw : m (Str.ofString "row") = some (.ref C.Rw)) (hE : m (Str.ofString "ended") = some (.bool C.e))
    (k : ∀ h' tk Rw' vs' c' m', Fr h₀ L h' m' → m' (Str.ofString "going") = some (.bool (isWait aa)) → m' (Str.ofString "row") = some (.ref Rw') → (∀ y, y ≠ Str.ofString "due" → y ≠ Str.ofString "taken" → y ≠ Str.ofString "going" → y ≠ Str.ofString "row" → m' y = m y) →
      News h₀ L h' ((Rw', listOf vs'.toArray c') :: O) → (∀ p ∈ O, p.1 < Rw') → IntsAre vs' (rowInts (C.row.drop (taken aa))) → wpC (model Challenge.rw_ev0028_01.row.prog w) (lawA dp un gd L a ccd Cl) (execs [inS5, inS6] (lawE L a ccd Cl)) Q E { s with heap := h', toks := tk }) :
    wpC (model Challenge.rw_ev0028_01.row.prog w) (lawA dp un gd L a ccd Cl) (execs [inS1, inS2, inS3, inS4, inS5, inS6] (lawE L a ccd Cl)) Q E s := by
  refine wpC_walk (lw_i1 (c := C.c) (vs := C.vs) (X := (Dt, ot) :: O) (row := C.row) G.KX G.T G.B₀ F ⟨hkd, hlm, hR, hRw, hE, trivial⟩ (newsSub N fun p hp => by simp only [List.mem_cons] at hp ⊢; grind) G.hdp G.hu hk5 hlim hv hz fun h1 tk1 Dd o td m1 F1 d1 d2 d3 N1 ho => ?_)
  show wpC _ _ (execs [inS2, inS3, inS4, inS5, inS6] _) _ _ _
  rw [hA] at ho d2
  have e1 : ∀ y, y ≠ Str.ofString "due" → y ≠ Str.ofString "taken" → m1 y = m y := d3
  have ht1 := (e1 _ (by decide) (by decide)).trans ht
  have hkd1 := (e1 _ (by decide) (by decide)).trans hkd
  obtain ⟨p2, q2⟩ := inS2_eq
  -- behind the third statement
  have fin : ∀ {h3 : Heap} {tk3 : Nat} {m3 : Str → Option Value}, Fr h₀ L h3 m3 → m3 (Str.ofString "going") = some (.bool (isWait aa)) → (∀ y, y ≠ Str.ofString "going" → m3 y = m1 y) → News h₀ L h3 ((Dt, ot) :: (C.Rw, listOf C.vs.toArray C.c) :: O) →
      wpC (model Challenge.rw_ev0028_01.row.prog w) (lawA dp un gd L a ccd Cl) (execs [inS4, inS5, inS6] (lawE L a ccd Cl)) Q E { s with heap := h3, toks := tk3 } := fun {h3 tk3 m3} F3 g3 e3 N3 => by
    refine wpC_walk (lw_i4 (s := { s with heap := h3, toks := tk3 }) (X := O) (c := C.c) (vs := C.vs) (zs := rowInts C.row) (k := taken aa) (tk0 := td) G.KX G.T G.B₀ F3 ⟨(e3 (Str.ofString "row") (by decide)).trans ((e1 (Str.ofString "row") (by decide) (by decide)).trans hRw), (e3 (Str.ofString "taken") (by decide)).trans d2, trivial⟩ (news_tail N3) G.hdp G.hu hv (by rw [rowInts_len]; exact hz) (by rw [rowInts_len, ← hA]; exact taken_le) fun h4 tk4 Rw' vs' c' m4 F4 r4 e4 N4 lt4 hv4 => ?_)
    show wpC _ _ (execs [inS5, inS6] _) _ _ _
    exact k h4 tk4 Rw' vs' c' m4 F4 ((e4 _ (by decide)).trans g3) r4 (fun y y1 y2 y3 y4 => (e4 y y4).trans ((e3 y y3).trans (e1 y y1 y2))) N4 lt4 (by rw [← rowInts_drop]; exact hv4)
  have N1' : News h₀ L h1 ((Dt, ot) :: (Dd, o) :: (C.Rw, listOf C.vs.toArray C.c) :: O) := newsSub N1 fun p hp => by simp only [List.mem_cons] at hp ⊢; grind
  have N1'' : News h₀ L h1 ((Dt, ot) :: (C.Rw, listOf C.vs.toArray C.c) :: O) := newsSub N1 fun p hp => by simp only [List.mem_cons] at hp ⊢; grind
  have H2 : Has m1 [(Str.ofString "told", .ref Dt), (Str.ofString "due", .ref Dd), (Str.ofString "kind", .int (kind : Nat) t1)] := ⟨ht1, d1, hkd1, trivial⟩
  have hx := hA
  cases aa with
  | waits =>
    obtain ⟨u1, rfl⟩ := hot
    obtain ⟨u2, rfl⟩ := ho
    rw [q2]
    refine wpC_cons (wpC_If (wpC_any (lw_i2w (s := { s with heap := h1, toks := tk1 }) (d := []) (bb := true) (tt2 := 0) (tt4 := 0) G.KX G.T G.B₀ F1 H2 N1' G.hdp G.hu fun tk2 => ?_)))
    rw [if_neg (by decide)]
    refine wpC_execs_nil ?_
    show wpC _ _ (execs [inS3, inS4, inS5, inS6] _) _ _ _
    exact wpC_walk (lw_i3w (s := { s with heap := h1, toks := tk2 }) (d := []) (bb := true) (tt2 := 0) (tt3 := 0) (tt4 := 0) (Dd := Dd) G.KX G.T G.B₀ F1 ⟨ht1, trivial⟩ N1'' G.hdp G.hu fun h3 tk3 m3 F3 g3 e3 N3 => fin F3 g3 e3 N3)
  | octets n =>
    obtain ⟨u1, u2, bs, rfl, hbs⟩ := hot
    obtain ⟨u3, u4, bs', rfl, hbs'⟩ := ho
    subst hbs hbs'
    rw [q2]
    refine wpC_cons (wpC_If (wpC_any (lw_i2o (s := { s with heap := h1, toks := tk1 }) (bb := true) G.KX G.T G.B₀ F1 H2 N1' G.hdp G.hu (octets_not4 hx hk5) fun tk2 => ?_)))
    rw [if_neg (by decide)]
    refine wpC_execs_nil ?_
    show wpC _ _ (execs [inS3, inS4, inS5, inS6] _) _ _ _
    exact wpC_walk (lw_i3o (s := { s with heap := h1, toks := tk2 }) (bb := true) (tt3 := 0) (tt4 := 0) (Dd := Dd) G.KX G.T G.B₀ F1 ⟨ht1, trivial⟩ N1'' G.hdp G.hu fun h3 tk3 m3 F3 g3 e3 N3 => fin F3 g3 e3 N3)
  | flag b =>
    obtain ⟨u1, rfl⟩ := hot
    obtain ⟨u2, rfl⟩ := ho
    rw [q2]
    refine wpC_cons (wpC_If (wpC_any (lw_i2f (s := { s with heap := h1, toks := tk1 }) (d := []) (tt2 := 0) (tt4 := 0) G.KX G.T G.B₀ F1 H2 N1' G.hdp G.hu fun tk2 => ?_)))
    rw [if_neg (by decide)]
    refine wpC_execs_nil ?_
    show wpC _ _ (execs [inS3, inS4, inS5, inS6] _) _ _ _
    exact wpC_walk (lw_i3f (s := { s with heap := h1, toks := tk2 }) (d := []) (tt2 := 0) (tt3 := 0) (tt4 := 0) (Dd := Dd) G.KX G.T G.B₀ F1 ⟨ht1, trivial⟩ N1'' G.hdp G.hu fun h3 tk3 m3 F3 g3 e3 N3 => fin F3 g3 e3 N3)
  | err X =>
    obtain ⟨u1, u2, rfl⟩ := hot
    obtain ⟨u3, u4, rfl⟩ := ho
    rw [q2]
    cases exc_of_ans hx with
    | eof =>
      rw [errWord_eof] at N1' N1'' fin
      refine wpC_cons (wpC_If (wpC_any (lw_i2e0 (s := { s with heap := h1, toks := tk1 }) (d := []) (bb := true) G.KX G.T G.B₀ F1 H2 N1' G.hdp G.hu fun tk2 => ?_)))
      rw [if_neg (by decide)]
      refine wpC_execs_nil ?_
      show wpC _ _ (execs [inS3, inS4, inS5, inS6] _) _ _ _
      exact wpC_walk (lw_i3e0 (s := { s with heap := h1, toks := tk2 }) (d := []) (bb := true) (tt3 := 0) (tt4 := 0) (Dd := Dd) G.KX G.T G.B₀ F1 ⟨ht1, trivial⟩ N1'' G.hdp G.hu fun h3 tk3 m3 F3 g3 e3 N3 => fin F3 g3 e3 N3)
    | run =>
      rw [errWord_run] at N1' N1'' fin
      refine wpC_cons (wpC_If (wpC_any (lw_i2e1 (s := { s with heap := h1, toks := tk1 }) (d := []) (bb := true) G.KX G.T G.B₀ F1 H2 N1' G.hdp G.hu fun tk2 => ?_)))
      rw [if_neg (by decide)]
      refine wpC_execs_nil ?_
      show wpC _ _ (execs [inS3, inS4, inS5, inS6] _) _ _ _
      exact wpC_walk (lw_i3e1 (s := { s with heap := h1, toks := tk2 }) (d := []) (bb := true) (tt3 := 0) (tt4 := 0) (Dd := Dd) G.KX G.T G.B₀ F1 ⟨ht1, trivial⟩ N1'' G.hdp G.hu fun h3 tk3 m3 F3 g3 e3 N3 => fin F3 g3 e3 N3)
    | val =>
      rw [errWord_val] at N1' N1'' fin
      refine wpC_cons (wpC_If (wpC_any (lw_i2e2 (s := { s with heap := h1, toks := tk1 }) (d := []) (bb := true) G.KX G.T G.B₀ F1 H2 N1' G.hdp G.hu fun tk2 => ?_)))
      rw [if_neg (by decide)]
      refine wpC_execs_nil ?_
      show wpC _ _ (execs [inS3, inS4, inS5, inS6] _) _ _ _
      exact wpC_walk (lw_i3e2 (s := { s with heap := h1, toks := tk2 }) (d := []) (bb := true) (tt3 := 0) (tt4 := 0) (Dd := Dd) G.KX G.T G.B₀ F1 ⟨ht1, trivial⟩ N1'' G.hdp G.hu fun h3 tk3 m3 F3 g3 e3 N3 => fin F3 g3 e3 N3)
end
end Mine
end
section
open PySem PySem.W PySem.Calls PyProof.Rows
set_option maxRecDepth 100000
namespace Mine
structure Nxt (C C' : Cfg) (Y : List (Addr × Obj)) : Prop where
  S : C'.S = C.S
  D : C'.D = C.D
  R : C'.R = C.R
  Rd : C'.Rd = C.Rd
  B : C'.B = C.B
  row : C.row <+: C'.row
  rw : C'.Rw = C.Rw ∨ ∀ q ∈ Y, q.1 < C'.Rw
section
variable {w : World} {s : Shared} {A₀ : Around} {base h₀ : Heap} {L Cl dp un a : Nat} {ccd : Value} {gd : Option (List Code)} {m mg mb : Str → Option Value} {mean : ExcName → Option Value} {Q : Flow → Shared → Prop} {E : Value → Shared → Prop} {os₀ : OsState} {bnd : Nat} {Y : List (Addr × Obj)} {C : Cfg}
theorem At.renamed (A : At h₀ L Cl os₀ bnd Y C m s) {h' : Heap} {tk : Nat} {m' : Str → Option Value} (F : Fr h₀ L h' m') (N : News h₀ L h' (C.all Cl Y)) (e : ∀ y, m' y = m y) : At h₀ L Cl os₀ bnd Y C m' { s with heap := h', toks := tk } :=
  A.same F N ((e _).trans A.hR) ((e _).trans A.hRw) ((e _).trans A.hE)
theorem tail5 (G : Gnd w h₀ base A₀ mg mb mean dp un) (A : At h₀ L Cl os₀ bnd Y C m s) (hb : bnd ≤ 1000)
    (k : ∀ m' s', At h₀ L Cl os₀ bnd Y C m' s' → (∀ y, m' y = m y) → s'.gens = s.gens → wpC (model Challenge.rw_ev0028_01.row.prog w) (lawA dp un gd L a ccd Cl) (execs [inS6] (lawE L a ccd Cl)) Q E s') :
    wpC (model Challenge.rw_ev0028_01.row.prog w) (lawA dp un gd L a ccd Cl) (execs [inS5, inS6] (lawE L a ccd Cl)) Q E s := by
  obtain ⟨p, q⟩ := inS5_eq
  rw [q]
  have hz := A.hz
  refine wpC_cons (wpC_If (wpC_any (lw_i5 (X := (C.S, C.st) :: (Cl, C.oC) :: (C.D, listOf C.ds.toArray C.c2) :: Y) G.KX G.T G.B₀ A.F A.base3 A.led G.hdp G.hu A.hv (by omega) fun h1 tk1 m1 F1 e1 N1 => ?_)))
  rw [if_neg (by decide)]
  refine wpC_execs_nil ?_
  show wpC _ _ (execs [inS6] _) _ _ _
  exact k m1 _ (A.renamed F1 (newsSub N1 fun p hp => mem_all_led hp) e1) e1 rfl
/-- the reading does not go on -/
theorem tail_done (G : Gnd w h₀ base A₀ mg mb mean dp un) (F : Fr h₀ L s.heap m) (hg : m (Str.ofString "going") = some (.bool false)) (k : ∀ tk, Q .next { s with toks := tk }) :
    wpC (model Challenge.rw_ev0028_01.row.prog w) (lawA dp un gd L a ccd Cl) (execs [inS6] (lawE L a ccd Cl)) Q E s := by
  obtain ⟨p, q⟩ := inS6_eq
  rw [q]
  refine wpC_cons (wpC_If (wpC_any (lw_6T (X := []) G.KX G.T G.B₀ F ⟨hg, trivial⟩ News.nil G.hdp G.hu fun tk => ?_)))
  rw [if_neg (by decide)]
  refine wpC_execs_nil ?_
  exact wpC_execs_nil (k tk)
/-- the reading waits: the end, or a piece -/
theorem tail_wait (G : Gnd w h₀ base A₀ mg mb mean dp un) (A : At h₀ L Cl os₀ bnd Y C m s) (hb : bnd ≤ 900) (he : C.e = false) {wn : Nat} {tw : Tok} (hw : wn ≤ 6) (hg : m (Str.ofString "going") = some (.bool true)) (hwn : m (Str.ofString "waits") = some (.int wn tw))
    (k : ∀ C' m' s' tw', At h₀ L Cl os₀ (bnd + 10) Y C' m' s' → Nxt C C' Y → m' (Str.ofString "waits") = some (.int (wn + 1 : Nat) tw') → (∀ y, y ≠ Str.ofString "waits" → y ≠ Str.ofString "ended" → y ≠ Str.ofString "piece" → y ≠ Str.ofString "row" → m' y = m y) → s'.gens = s.gens →
      (C'.e = false → wn + 1 ≤ 6) → Q .next s') :
    wpC (model Challenge.rw_ev0028_01.row.prog w) (lawA dp un gd L a ccd Cl) (execs [inS6] (lawE L a ccd Cl)) Q E s := by
  obtain ⟨p, q⟩ := inS6_eq
  rw [q]
  have hz := A.hz
  refine wpC_cons (wpC_If (wpC_any (lw_6T (X := []) G.KX G.T G.B₀ A.F ⟨hg, trivial⟩ News.nil G.hdp G.hu fun tk => ?_)))
  rw [if_pos rfl, i6Body_eq]
  refine wpC_mono (Q := fun f s' => f = Flow.next ∧ Q Flow.next s') ?_ (fun f s' h => by obtain ⟨rfl, h⟩ := h; exact wpC_execs_nil h) fun _ _ x => x
  refine wpC_walk (lw_6S0 (s := { s with toks := tk }) (X := C.all Cl Y) G.KX G.T G.B₀ A.F ⟨hwn, trivial⟩ A.N G.hdp G.hu (by omega) fun h1 tk1 t1 m1 F1 w1 e1 N1 => ?_)
  show wpC _ _ (execs [i6S1] _) _ _ _
  have A1 := A.same (tk := tk1) F1 N1 ((e1 _ (by decide)).trans A.hR) ((e1 _ (by decide)).trans A.hRw) ((e1 _ (by decide)).trans A.hE)
  obtain ⟨p1, q1⟩ := i6S1_eq
  rw [q1]
  refine wpC_cons (wpC_If (wpC_any (lw_7T (s := { s with heap := h1, toks := tk1 }) (X := C.rest Y) G.KX G.T G.B₀ A1.F ⟨w1, trivial⟩ A1.N A1.ap.hS A1.hC A1.hi A1.hp A1.hl A1.hl2 A1.hlen G.hdp G.hu (by omega) fun h2 tk2 pl lc tp tl m2 b F2 e2 N2 a1 a2 a3 hb6 => ?_)))
  have A2 := A1.turned (tk := tk2) F2 N2 a1 a2 a3 ((e2 _).trans A1.hR) ((e2 _).trans A1.hRw) ((e2 _).trans A1.hE)
  have w2 := (e2 (Str.ofString "waits")).trans w1
  cases b with
  | true =>
    rw [if_pos rfl, i7Body_eq]
    refine wpC_mono (Q := fun f s' => f = Flow.next ∧ Q Flow.next s') ?_ (fun f s' h => by obtain ⟨rfl, h⟩ := h; exact wpC_execs_nil (Q := fun f s' => f = Flow.next ∧ Q Flow.next s') ⟨rfl, h⟩) fun _ _ x => x
    refine wpC_walk (lw_7B0 (s := { s with heap := h2, toks := tk2 }) (X := Cfg.led { C with place := pl, lcg := lc, tp := tp, tl := tl } Cl Y) G.KX G.T G.B₀ A2.F trivial A2.led G.hdp G.hu fun h3 tk3 m3 F3 w3 e3 N3 => ?_)
    show wpC _ _ (execs [i7B1] _) _ _ _
    refine wpC_cons (lc_7B1 (s := { s with heap := h3, toks := tk3 }) (X := Cfg.off { C with place := pl, lcg := lc, tp := tp, tl := tl } Cl Y) G.KX G.T G.B₀ F3 ⟨(e3 (Str.ofString "reader") (by decide)).trans A2.hR, trivial⟩ N3 G.hdp G.hu he (show C.row.length ≤ 1000 by omega) A2.ap.notB A2.ap.hne A2.ap.hRR fun h4 tk4 m4 F4 e4 N4 => ?_)
    refine wpC_execs_nil ⟨rfl, ?_⟩
    have A4 := A2.read (tk := tk4) (e' := true) (row' := C.row) (vs' := C.vs) (c' := C.c) (bnd' := bnd + 10) F4 N4 A.hv (by omega) ((e4 _).trans ((e3 (Str.ofString "reader") (by decide)).trans A2.hR)) ((e4 _).trans ((e3 (Str.ofString "row") (by decide)).trans A2.hRw)) ((e4 _).trans w3)
    refine k _ m4 _ t1 A4 ⟨rfl, rfl, rfl, rfl, rfl, List.prefix_refl _, .inl rfl⟩ ((e4 _).trans ((e3 (Str.ofString "waits") (by decide)).trans w2)) (fun y y1 y2 y3 y4 => (e4 y).trans ((e3 y y2).trans ((e2 y).trans (e1 y y1)))) rfl (fun q => by cases q)
  | false =>
    rw [if_neg (by decide), i7Else_eq]
    refine wpC_mono (Q := fun f s' => f = Flow.next ∧ Q Flow.next s') ?_ (fun f s' h => by obtain ⟨rfl, h⟩ := h; exact wpC_execs_nil (Q := fun f s' => f = Flow.next ∧ Q Flow.next s') ⟨rfl, h⟩) fun _ _ x => x
    refine wpC_walk (lw_7E0 (s := { s with heap := h2, toks := tk2 }) (X := C.rest Y) G.KX G.T G.B₀ A2.F trivial A2.N A2.ap.hS A2.hC A2.hi a1 a2 a3 A2.hlen G.hdp G.hu fun h3 tk3 pl3 lc3 tp3 tl3 d td m3 F3 w3 e3 N3 b1 b2 b3 hd => ?_)
    show wpC _ _ (execs [i7E1, i7E2] _) _ _ _
    have A3 := A2.turned (tk := tk3) F3 N3 b1 b2 b3 ((e3 _ (by decide)).trans A2.hR) ((e3 _ (by decide)).trans A2.hRw) ((e3 _ (by decide)).trans A2.hE)
    refine wpC_cons (lc_7E1 (s := { s with heap := h3, toks := tk3 }) (X := Cfg.off { C with place := pl3, lcg := lc3, tp := tp3, tl := tl3 } Cl Y) G.KX G.T G.B₀ F3 ⟨A3.hR, w3, trivial⟩ A3.led G.hdp G.hu he (show C.row.length + d.length ≤ 1000 by omega) A3.ap.notB A3.ap.hne A3.ap.hRR fun h4 tk4 m4 F4 e4 N4 => ?_)
    show wpC _ _ (execs [i7E2] _) _ _ _
    refine wpC_walk (lw_7E2 (s := { s with heap := h4, toks := tk4 }) (X := Cfg.oth { C with place := pl3, lcg := lc3, tp := tp3, tl := tl3, e := false, row := C.row ++ d } Cl Y) (Rw := C.Rw) (vs := C.vs) (c := C.c) (zs := rowInts C.row) G.KX G.T G.B₀ F4 ⟨(e4 _).trans A3.hRw, (e4 _).trans w3, trivial⟩
      (newsSub N4 fun p hp => by simp only [Cfg.oth, Cfg.rest2, Cfg.off, Cfg.st, Mine.led, List.mem_cons] at hp ⊢; clear A2 A3; grind) G.hdp G.hu A.hv (by rw [rowInts_len]; omega) hd fun h5 tk5 Rw' vs' c' m5 F5 w5 e5 N5 lt5 hv5 => ?_)
    refine wpC_execs_nil ⟨rfl, ?_⟩
    have A5 := A3.rowed2 (Y' := Y) (tk := tk5) (G' := s.gens) (e' := false) (row' := C.row ++ d) (bnd' := bnd + 10) F5 (news_two N5) (fun p hp => lt5 p (.tail _ hp)) A3.ap (by rw [rowInts_app]; exact hv5) (by rw [List.length_append]; omega)
      ((e5 _ (by decide)).trans ((e4 _).trans A3.hR)) w5 ((e5 _ (by decide)).trans ((e4 _).trans (A3.hE.trans (by rw [show (Cfg.e _) = C.e from rfl, he])))) A.bare
    refine k _ m5 _ t1 A5 ⟨rfl, rfl, rfl, rfl, rfl, List.prefix_append _ _, .inr fun q hq => lt5 q (.tail _ (.tail _ (.tail _ (.tail _ (.tail _ (.tail _ (.tail _ hq))))))) ⟩ ((e5 _ (by decide)).trans ((e4 _).trans ((e3 (Str.ofString "waits") (by decide)).trans w2)))
      (fun y y1 y2 y3 y4 => (e5 y y4).trans ((e4 y).trans ((e3 y y3).trans ((e2 y).trans (e1 y y1))))) rfl (fun _ => hb6 rfl)
end
end Mine
end
section
open PySem PySem.W PySem.Calls PyProof.Rows
set_option maxRecDepth 100000
namespace Mine
theorem waits_e {kind lim : Nat} {row : List UInt8} {e : Bool} (h : ans kind lim row e = .waits) : e = false := by
  cases e with
  | false => rfl
  | true =>
    unfold ans at h
    (repeat' split at h) <;> first | (cases h; done) | (exfalso; simp_all; done)
section
variable {w : World} {s : Shared} {A₀ : Around} {base h₀ : Heap} {L Cl dp un a : Nat} {ccd : Value} {gd : Option (List Code)} {m mg mb : Str → Option Value} {mean : ExcName → Option Value} {os₀ : OsState} {bnd : Nat} {Y : List (Addr × Obj)} {C : Cfg}
theorem At.toks (A : At h₀ L Cl os₀ bnd Y C m s) (tk : Nat) : At h₀ L Cl os₀ bnd Y C m { s with toks := tk } := ⟨A.F, A.N, A.ap, A.hC, A.hi, A.hlen, A.hp, A.hl, A.hl2, A.hv, A.hz, A.hR, A.hRw, A.hE, A.bare, A.hos⟩
theorem At.eqS (A : At h₀ L Cl os₀ bnd Y C m s) {s' : Shared} (e : s' = s) : At h₀ L Cl os₀ bnd Y C m s' := e ▸ A

/-- a reading under way -/
structure Wait (w : World) (h₀ : Heap) (L Cl : Addr) (os₀ : OsState) (bnd : Nat) (Y : List (Addr × Obj)) (C : Cfg) (m : Str → Option Value) (kind lim wn : Nat) (t1 t2 tw : Tok) (Gn Lg : Addr) (oLg : Obj) (g : Nat) (nm qn : Value) (gs : GenState) (u : Str → Option Value) (row₀ : List UInt8) (s : Shared) : Prop where
  at' : At h₀ L Cl os₀ (bnd + 10 * wn) ((Gn, genO g nm qn) :: (Lg, oLg) :: Y) C m s
  going : m (Str.ofString "going") = some (.bool true)
  waits : m (Str.ofString "waits") = some (.int wn tw)
  reading : m (Str.ofString "reading") = some (.ref Gn)
  kd : m (Str.ofString "kind") = some (.int kind t1)
  lm : m (Str.ofString "limit") = some (.int lim t2)
  hk5 : kind < 5
  hlim : lim < 10
  hgs : s.gens[g]? = some gs
  rd : Ready w h₀ Lg C.R C.Rd C.B kind lim (20 - wn) row₀ gs u
  pre : row₀ <+: C.row
  nsG : ∀ h : Heap, h.get? Lg = some oLg → h.Ns Lg u
  hLL : L < Lg
  ne1 : ∀ x ∈ [C.S, Cl, C.D, C.R, C.Rd, C.B, C.Rw, Gn], x ≠ Lg
  neY : ∀ p ∈ Y, p.1 ≠ Lg
  hw : wn ≤ 7
  hw6 : C.e = false → wn ≤ 6
def InI (w : World) (h₀ : Heap) (L Cl : Addr) (os₀ : OsState) (bnd : Nat) (Y : List (Addr × Obj)) (n : Nat) (s : Shared) : Prop :=
  (∃ C m kind lim wn t1 t2 tw Gn Lg oLg g nm qn gs u row₀, Wait w h₀ L Cl os₀ bnd Y C m kind lim wn t1 t2 tw Gn Lg oLg g nm qn gs u row₀ s ∧ n = if C.e = true then 1 else 10 - wn) ∨
  (n = 0 ∧ ∃ C m, At h₀ L Cl os₀ (bnd + 80) Y C m s ∧ m (Str.ofString "going") = some (.bool false))

abbrev QI (w : World) (h₀ : Heap) (L Cl : Addr) (os₀ : OsState) (bnd : Nat) (Y : List (Addr × Obj)) (n : Nat) : Flow → Shared → Prop := fun f s' => f = Flow.next ∧ ∃ k, k < n ∧ InI w h₀ L Cl os₀ bnd Y k s'

/-- told, and no more to come -/
theorem after_told (G : Gnd w h₀ base A₀ mg mb mean dp un) {n : Nat} {b' : Nat} (A : At h₀ L Cl os₀ b' Y C m s) (hb' : b' ≤ bnd + 80) (hb : bnd ≤ 800) (hn : 0 < n) {kind lim : Nat} {t1 t2 : Tok} {aa : Ans} (hA : ans kind lim C.row C.e = aa) (hw : isWait aa = false) (hk5 : kind < 5) (hlim : lim < 10)
    (hkd : m (Str.ofString "kind") = some (.int kind t1)) (hlm : m (Str.ofString "limit") = some (.int lim t2)) {h1 : Heap} {tk1 : Nat} {G1 : Array GenState} {D : Addr} {ot : Obj} {O1 : List (Addr × Obj)} (F1 : Fr h₀ L h1 m)
    (N1 : News h₀ L h1 O1) (sub : ∀ p ∈ (D, ot) :: (C.Rw, listOf C.vs.toArray C.c) :: Cfg.oth { C with row := C.row.drop (taken aa) } Cl Y, p ∈ O1) (hot : AnsTup (rowInts C.row) aa ot) (hG1 : AllBare G1) :
    wpAny (model Challenge.rw_ev0028_01.row.prog w) (lawA dp un gd L a ccd Cl) (storeName (lawE L a ccd Cl) (Str.ofString "told") (.ref D))
      (fun _ s' => wpC (model Challenge.rw_ev0028_01.row.prog w) (lawA dp un gd L a ccd Cl) (execs [inS1, inS2, inS3, inS4, inS5, inS6] (lawE L a ccd Cl)) (QI w h₀ L Cl os₀ bnd Y n) NoE s') NoE { s with heap := h1, gens := G1, toks := tk1 } := by
  refine storeX_L (s := { s with heap := h1, gens := G1, toks := tk1 }) F1 (newsSub N1 sub) fun h2 F2 N2 => ?_
  have hz := A.hz
  refine mid (s := { s with heap := h2, gens := G1, toks := _ }) (C := C) G hA hot hk5 hlim F2 N2 A.hv (by omega) (if_pos rfl) ((if_neg (by decide)).trans hkd) ((if_neg (by decide)).trans hlm) ((if_neg (by decide)).trans A.hR) ((if_neg (by decide)).trans A.hRw) ((if_neg (by decide)).trans A.hE) fun h3 tk3 Rw' vs' c' m3 F3 g3 r3 e3 N3 lt3 hv3 => ?_
  have A3 := A.rowed2 (Y' := Y) (tk := tk3) (G' := G1) (e' := C.e) (row' := C.row.drop (taken aa)) (bnd' := bnd + 80) F3 N3 lt3 A.ap hv3 (by rw [List.length_drop]; omega)
    ((e3 _ (by decide) (by decide) (by decide) (by decide)).trans ((if_neg (by decide)).trans A.hR)) r3 ((e3 _ (by decide) (by decide) (by decide) (by decide)).trans ((if_neg (by decide)).trans A.hE)) hG1
  refine tail5 (s := { s with heap := h3, gens := G1, toks := tk3 }) G A3 (by omega) fun m4 s4 A4 e4 g4 => ?_
  refine tail_done G A4.F ((e4 _).trans (g3.trans (by rw [hw]))) fun tk5 => ?_
  exact ⟨rfl, 0, hn, .inr ⟨rfl, _, m4, A4.toks tk5, (e4 _).trans (g3.trans (by rw [hw]))⟩⟩
end
end Mine
end
section
open PySem PySem.W PySem.Calls PyProof.Rows
set_option maxRecDepth 100000
namespace Mine
section
variable {w : World} {s : Shared} {A₀ : Around} {base h₀ : Heap} {L Cl dp un a : Nat} {ccd : Value} {gd : Option (List Code)} {m mg mb : Str → Option Value} {mean : ExcName → Option Value} {os₀ : OsState} {bnd : Nat} {Y : List (Addr × Obj)} {C : Cfg}
  {kind lim wn : Nat} {t1 t2 tw : Tok} {Gn Lg : Addr} {oLg : Obj} {g : Nat} {nm qn : Value} {gs : GenState} {u : Str → Option Value} {row₀ : List UInt8}
theorem in_turn (G : Gnd w h₀ base A₀ mg mb mean dp un) (W : Wait w h₀ L Cl os₀ bnd Y C m kind lim wn t1 t2 tw Gn Lg oLg g nm qn gs u row₀ s) (hb : bnd ≤ 800) :
    wpC (model Challenge.rw_ev0028_01.row.prog w) (lawA dp un gd L a ccd Cl) (execs inBody (lawE L a ccd Cl)) (QI w h₀ L Cl os₀ bnd Y (if C.e = true then 1 else 10 - wn)) NoE s := by
  obtain ⟨A, w1, w2, w3, w4, w5, hk5, hlim, hgs, rd, pre, nsG, hLL, ne1, neY, hw, hw6⟩ := W
  have hz := A.hz
  have hn : 0 < (if C.e = true then 1 else 10 - wn) := by split <;> omega
  rw [inBody_eq]
  refine wpC_cons (lc_i0 (X := C.all Cl ((Gn, genO g nm qn) :: (Lg, oLg) :: Y)) G.KX G.T G.B₀ A.F ⟨w3, trivial⟩ A.N G.hdp G.hu fun tk0 m0 F0 e0 => ?_)
  have hLg := (A.N (Lg, oLg) (by simp only [Cfg.all, Cfg.rest, Mine.led, lawL, List.mem_cons]; grind)).1
  have FG : Fr h₀ Lg s.heap u := ⟨nsG _ hLg, A.F.keep, Nat.le_trans A.F.above (Nat.le_of_lt hLL)⟩
  -- the ledger without the generator's own frame
  have N1 : News h₀ L s.heap (Mine.led C.R C.Rd C.B C.hb C.he C.tb C.te C.cn C.e C.row (C.off Cl ((Gn, genO g nm qn) :: Y))) := newsSub A.N fun p hp => by
    simp only [Cfg.off, Cfg.all, Cfg.rest, Mine.led, lawL, List.mem_cons] at hp ⊢; grind
  have neL : ∀ (e' : Bool) (row' : List UInt8), ∀ p ∈ Mine.led C.R C.Rd C.B C.hb C.he C.tb C.te C.cn e' row' (C.off Cl ((Gn, genO g nm qn) :: Y)), p.1 ≠ Lg := fun e' row' p hp => by
    simp only [Cfg.off, Mine.led, List.mem_cons] at hp
    rcases hp with rfl | rfl | rfl | rfl | rfl | rfl | rfl | rfl | hp
    · exact ne1 _ (by simp)
    · exact ne1 _ (by simp)
    · exact ne1 _ (by simp)
    · exact ne1 _ (by simp)
    · exact ne1 _ (by simp)
    · exact ne1 _ (by simp)
    · exact ne1 _ (by simp)
    · exact ne1 _ (by simp)
    · exact neY p hp
  have hBn : notB C.R C.Rd C.B C.hb C.he C.tb C.te C.cn C.e (C.off Cl ((Gn, genO g nm qn) :: Y)) := fun p hp => A.ap.notB p (by
    simp only [Cfg.off, List.mem_cons] at hp ⊢; grind)
  have rd' : Ready w h₀ Lg C.R C.Rd C.B kind lim ((19 - wn) + 1) row₀ gs u := by
    have q : 20 - wn = (19 - wn) + 1 := by omega
    rw [q] at rd; exact rd
  have aY : C.Apart Cl Y := A.ap.less.less
  refine step_C (s := { s with toks := tk0 }) (m := m0) G.KX G.T rfl F0 N1 FG (Nat.ne_of_gt hLL) (neL _ _) (.tail _ (.tail _ (.tail _ (.tail _ (.head _))))) hgs A.bare rd' pre (by omega) hBn (by have := G.hdp; omega) ?_
  have hm : m0 = m := funext e0
  subst hm
  cases hA : ans kind lim C.row C.e with
  | waits =>
    have he := waits_e hA
    have hw6' := hw6 he
    intro h1 tk1 G1 D t u1 gs1 F1 N2 lt1 FG1 hDL hG1 hgs1 rd1
    obtain ⟨oG, es, ep, hGo, hGd, hGk, hGf⟩ := id FG1.ns
    have nsG1 : ∀ h : Heap, h.get? Lg = some oG → h.Ns Lg u1 := fun h q => ⟨_, es, ep, q, hGd, hGk, hGf⟩
    have N3 : News h₀ L h1 ((D, tupO #[.str (Str.ofString "waits") t]) :: (C.Rw, listOf C.vs.toArray C.c) :: Cfg.oth { C with row := C.row.drop (taken .waits) } Cl ((Gn, genO g nm qn) :: (Lg, oG) :: Y)) := fun p hp => by
      by_cases q : p = (Lg, oG)
      · rw [q]; exact ⟨hGo, Nat.ne_of_gt hLL, Heap.get?_none_of_le FG.above⟩
      · refine N2 p ?_
        simp only [taken, List.drop_zero, Cfg.oth, Cfg.rest2, Cfg.off, Mine.led, List.mem_cons] at hp ⊢; grind
    refine storeX_L (s := { s with heap := h1, gens := G1, toks := tk1 }) F1 N3 fun h2 F2 N4 => ?_
    refine mid (s := { s with heap := h2, gens := G1, toks := _ }) (C := C) (aa := .waits) G hA ⟨t, rfl⟩ hk5 hlim F2 N4 A.hv (by omega) (if_pos rfl) ((if_neg (by decide)).trans w4) ((if_neg (by decide)).trans w5) ((if_neg (by decide)).trans A.hR) ((if_neg (by decide)).trans A.hRw) ((if_neg (by decide)).trans A.hE) fun h3 tk3 Rw' vs' c' m3 F3 g3 r3 e3 N5 lt5 hv5 => ?_
    have A3 := A.rowed2 (Y' := (Gn, genO g nm qn) :: (Lg, oG) :: Y) (tk := tk3) (G' := G1) (e' := C.e) (row' := C.row.drop (taken .waits)) (bnd' := bnd + 10 * wn) F3 N5 lt5 ⟨A.ap.aS, A.ap.aB, A.ap.aD⟩ hv5 (by rw [List.length_drop]; omega)
      ((e3 _ (by decide) (by decide) (by decide) (by decide)).trans ((if_neg (by decide)).trans A.hR)) r3 ((e3 _ (by decide) (by decide) (by decide) (by decide)).trans ((if_neg (by decide)).trans A.hE)) hG1
    refine tail5 (s := { s with heap := h3, gens := G1, toks := tk3 }) G A3 (by omega) fun m4 s4 A4 e4 g4 => ?_
    have nm : ∀ y, y ≠ Str.ofString "told" → y ≠ Str.ofString "due" → y ≠ Str.ofString "taken" → y ≠ Str.ofString "going" → y ≠ Str.ofString "row" → m4 y = m0 y := fun y y0 y1 y2 y3 y4 => (e4 y).trans ((e3 y y1 y2 y3 y4).trans (if_neg y0))
    refine tail_wait G A4 (by omega) he hw6' ((e4 _).trans g3) ((nm _ (by decide) (by decide) (by decide) (by decide) (by decide)).trans w2) fun C5 m5 s5 tw5 A5 nx w5' e5 g5 h65 => ?_
    have nm5 : ∀ y, y ≠ Str.ofString "told" → y ≠ Str.ofString "due" → y ≠ Str.ofString "taken" → y ≠ Str.ofString "going" → y ≠ Str.ofString "row" → y ≠ Str.ofString "waits" → y ≠ Str.ofString "ended" → y ≠ Str.ofString "piece" → m5 y = m0 y := fun y y0 y1 y2 y3 y4 y5 y6 y7 => (e5 y y5 y6 y7 y4).trans (nm y y0 y1 y2 y3 y4)
    refine ⟨rfl, _, ?_, .inl ⟨C5, m5, kind, lim, wn + 1, t1, t2, tw5, Gn, Lg, oG, g, _, _, gs1, u1, C.row, ⟨A5, ?_, w5', ?_, ?_, ?_, hk5, hlim, ?_, ?_, ?_, nsG1, hLL, ?_, neY, by omega, h65⟩, rfl⟩⟩
    · rw [show (if C.e = true then 1 else 10 - wn) = 10 - wn from by rw [he]; rfl]; split <;> omega
    · exact (e5 _ (by decide) (by decide) (by decide) (by decide)).trans ((e4 _).trans g3)
    · exact (nm5 _ (by decide) (by decide) (by decide) (by decide) (by decide) (by decide) (by decide) (by decide)).trans w3
    · exact (nm5 _ (by decide) (by decide) (by decide) (by decide) (by decide) (by decide) (by decide) (by decide)).trans w4
    · exact (nm5 _ (by decide) (by decide) (by decide) (by decide) (by decide) (by decide) (by decide) (by decide)).trans w5
    · rw [g5, g4]; exact hgs1
    · have q : 20 - (wn + 1) = 19 - wn := by omega
      rw [q, nx.R, nx.Rd, nx.B]; exact rd1
    · have q := nx.row
      exact q
    · intro x hx
      have hRw' : Lg < Rw' := lt5 (Lg, oG) (by simp only [Cfg.oth, Cfg.rest2, List.mem_cons]; grind)
      rw [nx.S, nx.D, nx.R, nx.Rd, nx.B] at hx
      simp only [List.mem_cons, List.not_mem_nil, or_false] at hx
      rcases hx with rfl | rfl | rfl | rfl | rfl | rfl | rfl | rfl
      · exact ne1 _ (by simp)
      · exact ne1 _ (by simp)
      · exact ne1 _ (by simp)
      · exact ne1 _ (by simp)
      · exact ne1 _ (by simp)
      · exact ne1 _ (by simp)
      · rcases nx.rw with q | q
        · rw [q]; exact Nat.ne_of_gt hRw'
        · exact Nat.ne_of_gt (q (Lg, oG) (.tail _ (.head _)))
      · exact ne1 _ (by simp)
  | octets k =>
    intro h1 tk1 G1 D u1 u2 F1 N2 lt1 hG1
    exact after_told (s := s) (m := m0) (aa := .octets k) (ot := tupO #[.str (Str.ofString "told") u1, .bytes (C.row.take k).toArray u2]) G ⟨A.F, newsSub A.N fun p hp => by simp only [Cfg.all, Cfg.rest, Mine.led, lawL, List.mem_cons] at hp ⊢; grind, aY, A.hC, A.hi, A.hlen, A.hp, A.hl, A.hl2, A.hv, A.hz, A.hR, A.hRw, A.hE, A.bare, A.hos⟩ (by omega) hb hn hA rfl hk5 hlim w4 w5 F1 N2
      (fun p hp => by simp only [taken, Cfg.oth, Cfg.rest2, Cfg.off, Mine.led, List.mem_cons] at hp ⊢; grind) ⟨u1, u2, _, rfl, by rw [rowInts_take]⟩ hG1
  | flag b =>
    intro h1 tk1 G1 D u1 F1 N2 lt1 hG1
    exact after_told (s := s) (m := m0) (aa := .flag b) (ot := tupO #[.str (Str.ofString "told") u1, .bool b]) G ⟨A.F, newsSub A.N fun p hp => by simp only [Cfg.all, Cfg.rest, Mine.led, lawL, List.mem_cons] at hp ⊢; grind, aY, A.hC, A.hi, A.hlen, A.hp, A.hl, A.hl2, A.hv, A.hz, A.hR, A.hRw, A.hE, A.bare, A.hos⟩ (by omega) hb hn hA rfl hk5 hlim w4 w5 F1 N2
      (fun p hp => by simp only [taken, List.drop_zero, Cfg.oth, Cfg.rest2, Cfg.off, Mine.led, List.mem_cons] at hp ⊢; grind) ⟨u1, rfl⟩ hG1
  | err X =>
    intro h1 tk1 G1 D u1 u2 F1 N2 lt1 hG1
    exact after_told (s := s) (m := m0) (aa := .err X) (ot := tupO #[.str (Str.ofString "error") u1, .str (Str.ofString (errWord X)) u2]) G ⟨A.F, newsSub A.N fun p hp => by simp only [Cfg.all, Cfg.rest, Mine.led, lawL, List.mem_cons] at hp ⊢; grind, aY, A.hC, A.hi, A.hlen, A.hp, A.hl, A.hl2, A.hv, A.hz, A.hR, A.hRw, A.hE, A.bare, A.hos⟩ (by omega) hb hn hA rfl hk5 hlim w4 w5 F1 N2
      (fun p hp => by simp only [taken, List.drop_zero, Cfg.oth, Cfg.rest2, Cfg.off, Mine.led, List.mem_cons] at hp ⊢; grind) ⟨u1, u2, rfl⟩ hG1
end
end Mine
end
section
open PySem PySem.W PySem.Calls PyProof.Rows
set_option maxRecDepth 100000
namespace Mine
section
variable {w : World} {s : Shared} {A₀ : Around} {base h₀ : Heap} {L Cl dp un a : Nat} {ccd : Value} {gd : Option (List Code)} {m mg mb : Str → Option Value} {mean : ExcName → Option Value} {Q : Flow → Shared → Prop} {E : Value → Shared → Prop} {os₀ : OsState} {bnd : Nat} {Y : List (Addr × Obj)} {C : Cfg}
  {kind lim wn : Nat} {t1 t2 tw : Tok} {Gn Lg : Addr} {oLg : Obj} {g : Nat} {nm qn : Value} {gs : GenState} {u : Str → Option Value} {row₀ : List UInt8}
theorem Wait.toks (W : Wait w h₀ L Cl os₀ bnd Y C m kind lim wn t1 t2 tw Gn Lg oLg g nm qn gs u row₀ s) (tk : Nat) : Wait w h₀ L Cl os₀ bnd Y C m kind lim wn t1 t2 tw Gn Lg oLg g nm qn gs u row₀ { s with toks := tk } :=
  ⟨W.at'.toks tk, W.going, W.waits, W.reading, W.kd, W.lm, W.hk5, W.hlim, W.hgs, W.rd, W.pre, W.nsG, W.hLL, W.ne1, W.neY, W.hw, W.hw6⟩
theorem inner_C (G : Gnd w h₀ base A₀ mg mb mean dp un) (W : Wait w h₀ L Cl os₀ bnd Y C m kind lim wn t1 t2 tw Gn Lg oLg g nm qn gs u row₀ s) (hb : bnd ≤ 800)
    (k : ∀ C' m' s', At h₀ L Cl os₀ (bnd + 80) Y C' m' s' → Q .next s') :
    wpC (model Challenge.rw_ev0028_01.row.prog w) (lawA dp un gd L a ccd Cl) (exec outS8 (lawE L a ccd Cl)) Q E s := by
  obtain ⟨p, q⟩ := outS8_eq
  rw [q]
  refine wpC_While (codeC_whileLoop (InI w h₀ L Cl os₀ bnd Y) (fun n s hI => ?_) _ (.inl ⟨_, _, _, _, _, _, _, _, _, _, _, _, _, _, _, _, _, W, rfl⟩))
  rcases hI with ⟨C, m, kind, lim, wn, t1, t2, tw, Gn, Lg, oLg, g, nm, qn, gs, u, row₀, W, rfl⟩ | ⟨rfl, C, m, A, hg⟩
  · refine wpC_any (lw_inT (X := []) (gg := true) G.KX G.T G.B₀ W.at'.F ⟨W.going, trivial⟩ News.nil G.hdp G.hu fun tk => ?_)
    rw [if_pos rfl]
    refine wpC_mono (in_turn G (W.toks tk) hb) (fun f s'' h => ?_) fun _ _ x => x
    obtain ⟨rfl, h⟩ := h
    exact h
  · refine wpC_any (lw_inT (X := []) (gg := false) G.KX G.T G.B₀ A.F ⟨hg, trivial⟩ News.nil G.hdp G.hu fun tk => ?_)
    rw [if_neg (by decide)]
    exact k C m _ (A.toks tk)

theorem out_S1 (G : Gnd w h₀ base A₀ mg mb mean dp un) (A : At h₀ L Cl os₀ bnd Y C m s) (hb : bnd ≤ 900) (k : ∀ C' m' s', At h₀ L Cl os₀ bnd Y C' m' s' → s'.gens = s.gens → Q .next s') :
    wpC (model Challenge.rw_ev0028_01.row.prog w) (lawA dp un gd L a ccd Cl) (exec outS1 (lawE L a ccd Cl)) Q E s := by
  obtain ⟨p, e⟩ := outS1_eq; rw [e]
  have hz := A.hz
  refine wpC_If (wpC_any (lw_1T (X := C.rest Y) G.KX G.T G.B₀ A.F A.base3 A.N A.ap.hS A.hC A.hi A.hp A.hl A.hl2 A.hlen G.hdp G.hu fun h1 tk1 pl lc tp tl m1 b F1 H1 N1 a1 a2 a3 => ?_))
  have A1 := A.turned (tk := tk1) F1 N1 a1 a2 a3 H1.1 H1.2.1 H1.2.2.1
  cases b with
  | false =>
    rw [if_neg (by decide)]
    exact wpC_execs_nil (k _ _ _ A1 rfl)
  | true =>
    rw [if_pos rfl, o1Body_eq]
    refine wpC_cons (lc_1S0 (s := { s with heap := h1, toks := tk1 }) (X := Cfg.off { C with place := pl, lcg := lc, tp := tp, tl := tl } Cl Y) G.KX G.T G.B₀ F1 ⟨H1.1, trivial⟩ A1.led G.hdp G.hu (show C.row.length ≤ 1000 by omega) A1.ap.notB A1.ap.hne A1.ap.hRR fun h3 tk3 m3 F3 e3 N3 => ?_)
    show wpC _ _ (execs [o1S1] _) _ _ _
    refine wpC_walk (lw_1S1 (s := { s with heap := h3, toks := tk3 }) (X := (C.Rw, listOf C.vs.toArray C.c) :: Cfg.rest2 { C with place := pl, lcg := lc, tp := tp, tl := tl, row := [] } Y) (Rw := C.Rw) G.KX G.T G.B₀ F3 ⟨(e3 _).trans H1.1, (e3 _).trans H1.2.1, (e3 _).trans H1.2.2.1, trivial⟩
      (newsSub N3 fun p hp => (mem_all2 (C := { C with place := pl, lcg := lc, tp := tp, tl := tl, row := [] })).mp hp) (Apart.hS2 (C := { C with place := pl, lcg := lc, tp := tp, tl := tl, row := [] }) A.ap) A.hC A.hi a1 a2 a3 A.hlen G.hdp G.hu fun h4 tk4 Rw' m4 F4 H4 N4 lt4 => ?_)
    refine wpC_execs_nil (k _ _ _ (A1.rowed (e' := C.e) (tk := tk4) (row' := []) (vs' := []) (c' := 0) (bnd' := bnd) F4 N4 lt4 .nil (Nat.zero_le _) H4.2.1 H4.1 H4.2.2.1) rfl)

theorem out_S5 (G : Gnd w h₀ base A₀ mg mb mean dp un) (A : At h₀ L Cl os₀ bnd Y C m s) (hk5 : kind < 5) (hlim : lim < 10) (hkd : m (Str.ofString "kind") = some (.int kind t1)) (hlm : m (Str.ofString "limit") = some (.int lim t2))
    (k : ∀ m' s' Gn Lg oLg g nm qn gs u, At h₀ L Cl os₀ bnd ((Gn, genO g nm qn) :: (Lg, oLg) :: Y) C m' s' → m' (Str.ofString "reading") = some (.ref Gn) → m' (Str.ofString "kind") = some (.int kind t1) → m' (Str.ofString "limit") = some (.int lim t2) →
      s'.gens[g]? = some gs → (∀ n, Ready w h₀ Lg C.R C.Rd C.B kind lim (n + 1) C.row gs u) → (∀ h : Heap, h.get? Lg = some oLg → h.Ns Lg u) → L < Lg → (∀ x ∈ [C.S, Cl, C.D, C.R, C.Rd, C.B, C.Rw, Gn], x ≠ Lg) → (∀ p ∈ Y, p.1 ≠ Lg) → Q .next s') :
    wpAny (model Challenge.rw_ev0028_01.row.prog w) (lawA dp un gd L a ccd Cl) (execs [outS5] (lawE L a ccd Cl)) Q E s := by
  have fin : ∀ {h' : Heap} {tk : Nat} {Lg : Addr} {oLg : Obj} {Gn : Addr} {nm qn : Value} {m' : Str → Option Value} {gs : GenState} {u : Str → Option Value}, Fr h₀ L h' m' → Has m' [(Str.ofString "reading", .ref Gn), (Str.ofString "kind", .int (kind : Nat) t1), (Str.ofString "limit", .int (lim : Nat) t2), (Str.ofString "reader", .ref C.R), (Str.ofString "row", .ref C.Rw), (Str.ofString "ended", .bool C.e)] →
      (∀ h'' : Heap, h''.get? Lg = some oLg → h''.Ns Lg u) → News h₀ L h' ((Gn, genO s.gens.size nm qn) :: (Lg, oLg) :: C.all Cl Y) → (∀ p ∈ C.all Cl Y, p.1 < Lg) → L < Lg → Lg < Gn → (∀ n, Ready w h₀ Lg C.R C.Rd C.B kind lim (n + 1) C.row gs u) → gs.bare = true →
      Q .next { s with heap := h', toks := tk, gens := s.gens.push gs } := fun {h' tk Lg oLg Gn nm qn m' gs u} F H nsG N lt lL lG rd hbr => by
    have lS : C.S < Lg := lt (C.S, C.st) (by simp [Cfg.all, lawL])
    have lB : C.B < Lg := lt (C.B, baObj C.row) (by simp [Cfg.all, lawL, Cfg.rest, Mine.led])
    have lD : C.Rd < Lg := lt (C.Rd, dictOf [⟨C.hb, .str (Str.ofString "buffer") C.tb, .ref C.B⟩, ⟨C.he, .str (Str.ofString "eof") C.te, .bool C.e⟩] C.cn) (by simp [Cfg.all, lawL, Cfg.rest, Mine.led])
    have l1 : Cl < Lg := lt (Cl, C.oC) (by simp [Cfg.all, lawL])
    have l2 : C.D < Lg := lt (C.D, listOf C.ds.toArray C.c2) (by simp [Cfg.all, lawL])
    have l3 : C.R < Lg := lt (C.R, instObj 82 C.Rd) (by simp [Cfg.all, lawL, Cfg.rest, Mine.led])
    have l4 : C.Rw < Lg := lt (C.Rw, listOf C.vs.toArray C.c) (by simp [Cfg.all, lawL, Cfg.rest, Mine.led])
    refine k m' _ Gn Lg oLg s.gens.size nm qn gs u ⟨F, newsSub N fun p hp => ?_, ?_, A.hC, A.hi, A.hlen, A.hp, A.hl, A.hl2, A.hv, A.hz, H.2.2.2.1, H.2.2.2.2.1, H.2.2.2.2.2.1, A.bare.push hbr, A.hos⟩ H.1 H.2.1 H.2.2.1 (by simp) rd nsG lL (fun x hx => ?_) (fun p hp => ?_)
    · simp only [Cfg.all, Cfg.rest, Mine.led, lawL, List.mem_cons] at hp ⊢; grind
    · exact Apart.more (Apart.more A.ap (Nat.ne_of_gt lS) (Nat.ne_of_gt lB) (Nat.ne_of_gt lD)) (Nat.ne_of_gt (Nat.lt_trans lS lG)) (Nat.ne_of_gt (Nat.lt_trans lB lG)) (Nat.ne_of_gt (Nat.lt_trans lD lG))
    · simp only [List.mem_cons, List.not_mem_nil, or_false] at hx
      rcases hx with rfl | rfl | rfl | rfl | rfl | rfl | rfl | rfl
      · exact Nat.ne_of_lt lS
      · exact Nat.ne_of_lt l1
      · exact Nat.ne_of_lt l2
      · exact Nat.ne_of_lt l3
      · exact Nat.ne_of_lt lD
      · exact Nat.ne_of_lt lB
      · exact Nat.ne_of_lt l4
      · exact Nat.ne_of_gt lG
    · exact Nat.ne_of_lt (lt p (by simp only [Cfg.all, Cfg.rest, Mine.led, lawL, List.mem_cons]; grind))
  have KX := G.KX
  have T := G.T
  match kind, hk5 with
  | 0, _ => exact lw_S5_0 (X := (C.Rw, listOf C.vs.toArray C.c) :: Y) (t1 := t1) (t2 := t2) G.KX G.T G.B₀ A.F ⟨hkd, hlm, A.hR, A.hRw, A.hE, trivial⟩ A.N A.ap.hS A.hC A.hi A.hp A.hl A.hl2 A.hlen G.hdp G.hu fun h' tk Lg oLg Gn nm qn m' F H nsG N lt lL lG => fin F H nsG N lt lL lG (fun n => rl_fresh KX T (by decide) hlim n _ ⟨by with_unfolding_all exact rfl, by with_unfolding_all exact rfl, by with_unfolding_all exact rfl, trivial⟩) rfl
  | 1, _ => exact lw_S5_1 (X := (C.Rw, listOf C.vs.toArray C.c) :: Y) (t1 := t1) (t2 := t2) G.KX G.T G.B₀ A.F ⟨hkd, hlm, A.hR, A.hRw, A.hE, trivial⟩ A.N A.ap.hS A.hC A.hi A.hp A.hl A.hl2 A.hlen G.hdp G.hu fun h' tk Lg oLg Gn nm qn m' F H nsG N lt lL lG => fin F H nsG N lt lL lG (fun n => rl_fresh KX T (by decide) hlim n _ ⟨by with_unfolding_all exact rfl, by with_unfolding_all exact rfl, by with_unfolding_all exact rfl, trivial⟩) rfl
  | 2, _ => exact lw_S5_2 (X := (C.Rw, listOf C.vs.toArray C.c) :: Y) (t1 := t1) (t2 := t2) G.KX G.T G.B₀ A.F ⟨hkd, hlm, A.hR, A.hRw, A.hE, trivial⟩ A.N A.ap.hS A.hC A.hi A.hp A.hl A.hl2 A.hlen G.hdp G.hu fun h' tk Lg oLg Gn nm qn m' F H nsG N lt lL lG => fin F H nsG N lt lL lG (fun n => re_fresh KX T hlim n _ ⟨by with_unfolding_all exact rfl, by with_unfolding_all exact rfl, trivial⟩) rfl
  | 3, _ => exact lw_S5_3 (X := (C.Rw, listOf C.vs.toArray C.c) :: Y) (t1 := t1) (t2 := t2) G.KX G.T G.B₀ A.F ⟨hkd, hlm, A.hR, A.hRw, A.hE, trivial⟩ A.N A.ap.hS A.hC A.hi A.hp A.hl A.hl2 A.hlen G.hdp G.hu fun h' tk Lg oLg Gn nm qn m' F H nsG N lt lL lG => fin F H nsG N lt lL lG (fun n => rt_fresh KX T hlim n _ ⟨by with_unfolding_all exact rfl, by with_unfolding_all exact rfl, by with_unfolding_all exact rfl, trivial⟩) rfl
  | 4, _ => exact lw_S5_4 (X := (C.Rw, listOf C.vs.toArray C.c) :: Y) (t1 := t1) (t2 := t2) G.KX G.T G.B₀ A.F ⟨hkd, hlm, A.hR, A.hRw, A.hE, trivial⟩ A.N A.ap.hS A.hC A.hi A.hp A.hl A.hl2 A.hlen G.hdp G.hu fun h' tk Lg oLg Gn nm qn m' F H nsG N lt lL lG => fin F H nsG N lt lL lG (fun n => ae_fresh KX T n _ ⟨by with_unfolding_all exact rfl, trivial⟩) rfl
end
end Mine
end
section
open PySem PySem.W PySem.Calls PyProof.Rows
set_option maxRecDepth 100000
namespace Mine
section
variable {w : World} {s : Shared} {A₀ : Around} {base h₀ : Heap} {L Cl dp un a : Nat} {ccd : Value} {gd : Option (List Code)} {m mg mb : Str → Option Value} {mean : ExcName → Option Value} {Q : Flow → Shared → Prop} {E : Value → Shared → Prop} {os₀ : OsState} {bnd : Nat} {Y : List (Addr × Obj)} {C : Cfg}
theorem out_turn (G : Gnd w h₀ base A₀ mg mb mean dp un) (A : At h₀ L Cl os₀ bnd Y C m s) (hb : bnd ≤ 700) :
    wpC (model Challenge.rw_ev0028_01.row.prog w) (lawA dp un gd L a ccd Cl) (execs outBody (lawE L a ccd Cl)) (fun f s' => f = Flow.next ∧ ∃ C' m', At h₀ L Cl os₀ (bnd + 90) Y C' m' s') NoE s := by
  rw [outBody_eq]
  refine wpC_cons (out_S0 G A (by omega) fun C1 m1 s1 A1 _ => ?_)
  show wpC _ _ (execs [outS1, outS2, outS3, outS4, outS5, outS6, outS7, outS8] _) _ _ _
  refine wpC_cons (out_S1 G A1 (by omega) fun C2 m2 s2 A2 _ => ?_)
  show wpC _ _ (execs [outS2, outS3, outS4, outS5, outS6, outS7, outS8] _) _ _ _
  refine wpC_walk (lw_S2 (X := C2.rest Y) G.KX G.T G.B₀ A2.F A2.base3 A2.N A2.ap.hS A2.hC A2.hi A2.hp A2.hl A2.hl2 A2.hlen G.hdp G.hu fun h3 tk3 pl lc tp tl v tv m3 F3 H3 N3 a1 a2 a3 v0 v1 => ?_)
  show wpC _ _ (execs [outS3, outS4, outS5, outS6, outS7, outS8] _) _ _ _
  obtain ⟨kd, rfl⟩ := Int.eq_ofNat_of_zero_le v0
  have A3 := A2.turned (tk := tk3) F3 N3 a1 a2 a3 H3.2.1 H3.2.2.1 H3.2.2.2.1
  refine wpC_walk (lw_S3 (s := { s2 with heap := h3, toks := tk3 }) (X := C2.rest Y) (kind := kd) (t1 := tv) G.KX G.T G.B₀ A3.F H3 A3.N A3.ap.hS A3.hC A3.hi a1 a2 a3 A3.hlen G.hdp G.hu fun h4 tk4 pl4 lc4 tp4 tl4 v4 tv4 m4 F4 H4 N4 b1 b2 b3 u0 u1 => ?_)
  show wpC _ _ (execs [outS4, outS5, outS6, outS7, outS8] _) _ _ _
  obtain ⟨lim, rfl⟩ := Int.eq_ofNat_of_zero_le u0
  obtain ⟨Hl, Hk, Hr, Hw, He, _⟩ := H4
  have A4 := A3.turned (tk := tk4) F4 N4 b1 b2 b3 Hr Hw He
  have hz2 := A2.hz
  refine wpC_walk (lw_S4 (s := { s2 with heap := h4, toks := tk4 }) (X := Cfg.rest2 { C2 with place := pl4, lcg := lc4, tp := tp4, tl := tl4 } Y) (zs := rowInts C2.row) (kind := kd) (lim := lim) G.KX G.T G.B₀ A4.F ⟨Hk, Hl, Hr, Hw, He, trivial⟩ (newsSub A4.N fun p hp => mem_led_all (C := { C2 with place := pl4, lcg := lc4, tp := tp4, tl := tl4 }) ((mem_all2 (C := { C2 with place := pl4, lcg := lc4, tp := tp4, tl := tl4 })).mp hp))
    (Apart.hS2 (C := { C2 with place := pl4, lcg := lc4, tp := tp4, tl := tl4 }) A2.ap) A2.hC A2.hi b1 b2 b3 A2.hlen G.hdp G.hu (by omega) A2.hv (by rw [rowInts_len]; omega) fun h5 tk5 k5 t5 m5 k5lt F5 H5 N5 => ?_)
  show wpC _ _ (execs [outS5, outS6, outS7, outS8] _) _ _ _
  have A5 := A4.same (tk := tk5) F5 (newsSub N5 fun p hp => (mem_all2 (C := { C2 with place := pl4, lcg := lc4, tp := tp4, tl := tl4 })).mpr (mem_all_led (C := { C2 with place := pl4, lcg := lc4, tp := tp4, tl := tl4 }) hp)) H5.2.2.1 H5.2.2.2.1 H5.2.2.2.2.1
  have hlim : lim < 10 := by omega
  refine wpC_walk (out_S5 G A5 k5lt hlim H5.1 H5.2.1 fun m6 s6 Gn Lg oLg g nm qn gs u A6 r6 k6 l6 g6 rd6 ns6 lL6 ne6 neY6 => ?_)
  show wpC _ _ (execs [outS6, outS7, outS8] _) _ _ _
  refine wpC_walk (lw_S6 (s := s6) (X := Cfg.rest { C2 with place := pl4, lcg := lc4, tp := tp4, tl := tl4 } ((Gn, genO g nm qn) :: (Lg, oLg) :: Y)) (kind := k5) (lim := lim) G.KX G.T G.B₀ A6.F ⟨r6, k6, l6, A6.hR, A6.hRw, A6.hE, trivial⟩ A6.N A6.ap.hS A6.hC A6.hi A6.hp A6.hl A6.hl2 A6.hlen G.hdp G.hu fun h7 tk7 t7 m7 F7 H7 N7 => ?_)
  show wpC _ _ (execs [outS7, outS8] _) _ _ _
  have A7 := A6.same (tk := tk7) F7 N7 H7.2.2.2.2.1 H7.2.2.2.2.2.1 H7.2.2.2.2.2.2.1
  refine wpC_walk (lw_S7 (s := { s6 with heap := h7, toks := tk7 }) (X := Cfg.rest { C2 with place := pl4, lcg := lc4, tp := tp4, tl := tl4 } ((Gn, genO g nm qn) :: (Lg, oLg) :: Y)) (kind := k5) (lim := lim) (wn := 0) (tw := t7) G.KX G.T G.B₀ A7.F H7 A7.N A7.ap.hS A7.hC A7.hi A7.hp A7.hl A7.hl2 A7.hlen G.hdp G.hu fun h8 tk8 t8 m8 F8 H8 N8 => ?_)
  show wpC _ _ (execs [outS8] _) _ _ _
  obtain ⟨q1, q2, q3, q4, q5, q6, q7, q8, _⟩ := H8
  have A8 := A7.same (tk := tk8) F8 N8 q6 q7 q8
  refine wpC_cons (inner_C G (bnd := bnd + 10) (wn := 0) ⟨A8, q1, q2, q3, q4, q5, k5lt, hlim, g6, rd6 19, List.prefix_refl _, ns6, lL6, ne6, neY6, by omega, fun _ => by omega⟩ (by omega) fun C9 m9 s9 A9 => ?_)
  exact wpC_execs_nil ⟨rfl, C9, m9, A9⟩
end
end Mine
end
section
open PySem PySem.W PySem.Calls PyProof.Rows
set_option maxRecDepth 100000
namespace Mine
abbrev itO (N i : Nat) : Obj := { cls := .type "range_iterator", dict := none, data := .fields #[rawInt (0 + (i : Nat) * 1), rawInt ((N : Int) - (i : Nat)), rawInt 1], slots := #[] }
section
variable {w : World} {s : Shared} {A₀ : Around} {base h₀ : Heap} {L Cl dp un a : Nat} {ccd : Value} {gd : Option (List Code)} {m mg mb : Str → Option Value} {mean : ExcName → Option Value} {Q : Flow → Shared → Prop} {E : Value → Shared → Prop} {os₀ : OsState} {bnd : Nat} {Y : List (Addr × Obj)} {C : Cfg}
theorem loop_C (G : Gnd w h₀ base A₀ mg mb mean dp un) (A : At h₀ L Cl os₀ 0 [] C m s) (k : ∀ C' m' s', At h₀ L Cl os₀ 720 [] C' m' s' → Q .next s') :
    wpC (model Challenge.rw_ev0028_01.row.prog w) (lawA dp un gd L a ccd Cl) (exec lawS4 (lawE L a ccd Cl)) Q E s := by
  obtain ⟨p, q⟩ := lawS4_eq
  obtain ⟨pt, qt⟩ := outTarget_eq
  rw [q, qt]
  refine wpC_For (wpC_any (lw_iter (X := C.rest []) G.KX G.T G.B₀ A.F trivial A.N A.ap.hS A.hC A.hi A.hp A.hl A.hl2 A.hlen G.hdp G.hu fun h1 tk1 pl lc tp tl r b tt uu vv m1 F1 e1 N1 a1 a2 a3 hr b2 b8 => ?_))
  have A1 := A.turned (tk := tk1) F1 N1 a1 a2 a3 ((e1 _).trans A.hR) ((e1 _).trans A.hRw) ((e1 _).trans A.hE)
  obtain ⟨N, rfl⟩ := Int.eq_ofNat_of_zero_le (show 0 ≤ b by omega)
  refine wpC_any (wpAny_pyIter_range hr (small_one (by decide) (by decide) (by omega) (by omega)) ?_)
  have hIL : L < h1.objs.size := F1.ns.lt
  have hIo : ({ cls := .type "range_iterator", data := .fields #[rawInt 0, rawInt (Builtin.Range.rangeSize 0 (N : Int) 1), rawInt 1] } : Obj) = itO N 0 := by
    rw [rangeSize_nat]
    have e1 : (((N : Int) - 0).toNat : Int) = (N : Int) - ((0 : Nat) : Int) := by omega
    have e2 : (0 : Int) + ((0 : Nat) : Int) * 1 = 0 := by decide
    show _ = ({ cls := .type "range_iterator", dict := none, data := .fields #[rawInt (0 + ((0 : Nat) : Int) * 1), rawInt ((N : Int) - ((0 : Nat) : Int)), rawInt 1], slots := #[] } : Obj)
    rw [e1, e2]
  show codeC _ _ (.forLoop _ (.ref h1.objs.size) _ _ _) _ { s with heap := h1.push { cls := .type "range_iterator", data := .fields #[rawInt 0, rawInt (Builtin.Range.rangeSize 0 (N : Int) 1), rawInt 1] }, toks := tk1 }
  rw [hIo]
  generalize hI : h1.objs.size = I at hIL ⊢
  have A2 : At h₀ L Cl os₀ 0 [(I, itO N 0)] { C with place := pl, lcg := lc, tp := tp, tl := tl } m1 { s with heap := h1.push (itO N 0), toks := tk1 } := by
    have N2 : News h₀ L (h1.push (itO N 0)) ((I, itO N 0) :: Cfg.all { C with place := pl, lcg := lc, tp := tp, tl := tl } Cl []) := hI ▸ News.push F1 N1 (itO N 0)
    have lt : ∀ q ∈ Cfg.all { C with place := pl, lcg := lc, tp := tp, tl := tl } Cl [], q.1 < I := fun q hq => hI ▸ Heap.lt_size (N1 q hq).1
    refine ⟨F1.push _, newsSub N2 fun q hq => ?_, Apart.more A.ap ?_ ?_ ?_, A.hC, A.hi, A.hlen, a1, a2, a3, A.hv, A.hz, A1.hR, A1.hRw, A1.hE, A.bare, A.hos⟩
    · simp only [Cfg.all, Cfg.rest, Mine.led, lawL, List.mem_cons] at hq ⊢; grind
    · exact Nat.ne_of_gt (lt (C.S, Cfg.st { C with place := pl, lcg := lc, tp := tp, tl := tl }) (by simp [Cfg.all, lawL]))
    · exact Nat.ne_of_gt (lt (C.B, baObj C.row) (by simp [Cfg.all, lawL, Cfg.rest, Mine.led]))
    · exact Nat.ne_of_gt (lt (C.Rd, dictOf [⟨C.hb, .str (Str.ofString "buffer") C.tb, .ref C.B⟩, ⟨C.he, .str (Str.ofString "eof") C.te, .bool C.e⟩] C.cn) (by simp [Cfg.all, lawL, Cfg.rest, Mine.led]))
  -- what holds ahead of a turn; what the iterator leaves alone
  have moved : ∀ {i : Nat} {bnd : Nat} {C : Cfg} {m : Str → Option Value} {s : Shared} {h' : Heap} {tk : Nat}, At h₀ L Cl os₀ bnd [(I, itO N i)] C m s → (∀ b o, b ∉ [I] → s.heap.get? b = some o → h'.get? b = some o) → At h₀ L Cl os₀ bnd [] C m { s with heap := h', toks := tk } := fun {i bnd C m s h' tk} A hk => by
    have hm : (I, itO N i) ∈ C.all Cl [(I, itO N i)] := by simp only [Cfg.all, Cfg.rest, Mine.led, lawL, List.mem_cons]; grind
    have z := A.N _ hm
    have ap := A.ap
    refine ⟨LCg.fr_but A.F hk (Ne.symm z.2.1) z.2.2, fun q hq => ?_, A.ap.less, A.hC, A.hi, A.hlen, A.hp, A.hl, A.hl2, A.hv, A.hz, A.hR, A.hRw, A.hE, A.bare, A.hos⟩
    have hq' : q ∈ C.all Cl [(I, itO N i)] := by simp only [Cfg.all, Cfg.rest, Mine.led, lawL, List.mem_cons] at hq ⊢; grind
    by_cases e : q.1 = I
    · exfalso
      have h1 := (A.N q hq').1
      rw [e] at h1
      have hd := congrArg Obj.data (Option.some.inj (z.1.symm.trans h1))
      simp only [Cfg.all, Cfg.rest, Mine.led, lawL, List.mem_cons, List.not_mem_nil, or_false] at hq
      rcases hq with rfl | rfl | rfl | rfl | rfl | rfl | rfl
      · cases hd
      · rw [A.hC] at hd; cases hd
      · cases hd
      · cases hd
      · cases hd
      · cases hd
      · cases hd
    · exact ⟨hk _ _ (by simpa using e) (A.N q hq').1, (A.N q hq').2⟩
  have W := LCg.range_walks (prog := Challenge.rw_ev0028_01.row.prog) (w := w) (A := lawA dp un gd L a ccd Cl) (I := I) rfl 0 N
  have hN : N ≤ 8 := by omega
  refine codeC_forLoop (fun n s' => ∃ i C m, i ≤ N ∧ n = N + 1 - i ∧ At h₀ L Cl os₀ (90 * i) [(I, itO N i)] C m s') (fun n s' hI => ?_) (N + 1) ⟨0, _, _, Nat.zero_le _, rfl, A2⟩
  obtain ⟨i, C, m, hi, rfl, A⟩ := hI
  have hm : (I, itO N i) ∈ C.all Cl [(I, itO N i)] := by simp only [Cfg.all, Cfg.rest, Mine.led, lawL, List.mem_cons]; grind
  have z := A.N _ hm
  by_cases hlt : i < N
  · refine W.item i _ _ _ hlt z.1 fun v h' tk hv hst hk => ?_
    have B := moved (tk := tk) A hk
    have BN : News h₀ L h' (C.all Cl [(I, itO N (i + 1))]) := fun q hq => by
      by_cases e : q = (I, itO N (i + 1))
      · rw [e]; exact ⟨hst, z.2.1, z.2.2⟩
      · refine B.N q ?_
        simp only [Cfg.all, Cfg.rest, Mine.led, lawL, List.mem_cons] at hq ⊢; grind
    refine wpAny_assign_Name (storeX_L (s := { s' with heap := h', toks := tk }) B.F BN fun h2 F2 N2 => ?_)
    have A3 : At h₀ L Cl os₀ (90 * i) [(I, itO N (i + 1))] C _ { s' with heap := h2, toks := tk + 1 } :=
      ⟨F2, N2, ⟨A.ap.aS, A.ap.aB, A.ap.aD⟩, A.hC, A.hi, A.hlen, A.hp, A.hl, A.hl2, A.hv, A.hz, (if_neg (by decide)).trans A.hR, (if_neg (by decide)).trans A.hRw, (if_neg (by decide)).trans A.hE, A.bare, A.hos⟩
    refine wpC_mono (out_turn G A3 (by omega)) (fun f s3 hf => ?_) fun _ _ x => x
    obtain ⟨rfl, C', m', A4⟩ := hf
    exact ⟨N + 1 - (i + 1), by omega, i + 1, C', m', hlt, rfl, A4.weaken (by omega)⟩
  · obtain rfl : i = N := Nat.le_antisymm hi (Nat.not_lt.mp hlt)
    refine W.done _ _ _ z.1 fun h' tk hk => ?_
    exact k C m _ ((moved (tk := tk) A hk).weaken (by omega))
end
end Mine
end
section
open PySem PySem.W PySem.Calls PyProof.Rows
set_option maxRecDepth 100000
namespace Mine
section
variable {w : World} {s : Shared} {A₀ : Around} {base h₀ : Heap} {L Cl dp un a : Nat} {ccd : Value} {gd : Option (List Code)} {m mg mb : Str → Option Value} {mean : ExcName → Option Value} {Q : Flow → Shared → Prop} {E : Value → Shared → Prop} {oC : Obj} {sc : Addr} {vs : List Value} {ns : List Int}
theorem law_body (G : Gnd w h₀ h₀ A₀ mg mb mean dp un) (F : Fr h₀ L s.heap m) (hm : m (Str.ofString "script") = some (.ref sc)) (N : News h₀ L s.heap [(Cl, oC)]) (hC : oC.data = .cell none) (hsc : h₀.IsList sc vs.toArray) (hi : IntsAre vs ns) (hlen : ns.length ≤ 63) (hg : s.gens = #[])
    (k : ∀ m' s', Fr h₀ L s'.heap m' → s'.os = s.os → AllBare s'.gens → Q (.ret (.bool true)) s') :
    wpC (model Challenge.rw_ev0028_01.row.prog w) (lawA dp un gd L a ccd Cl) (execs lawBody (lawE L a ccd Cl)) Q E s := by
  rw [lawBody_eq]
  refine wpC_walk (lp_S0 (vs := vs) G.KX G.T G.B₀ F ⟨hm, trivial⟩ N G.hdp G.hu hC hsc hi hlen fun h1 tk1 S D ds c2 lcg tp tl oC' m1 F1 N1 hC1 hi1 l0 l1 lS lD => ?_)
  show wpC _ _ (execs [lawS1, lawS2, lawS3, lawS4, lawS5] _) _ _ _
  refine wpC_cons (lc_S1 (s := { s with heap := h1, toks := tk1 }) (X := lawL S (stObj D 0 lcg tp tl 0) Cl oC' D ds c2 []) G.KX G.T G.B₀ F1 trivial N1 G.hdp G.hu fun h2 tk2 R Rd B hb he tb te m2 F2 r2 e2 N2 lt2 l2 l3 => ?_)
  show wpC _ _ (execs [lawS2, lawS3, lawS4, lawS5] _) _ _ _
  refine wpC_walk (lp_S2 (s := { s with heap := h2, toks := tk2 }) (oC := oC') (X := (S, stObj D 0 lcg tp tl 0) :: (D, listOf ds.toArray c2) :: Mine.led R Rd B hb he tb te 2 false [] []) G.KX G.T G.B₀ F2 trivial (newsSub N2 fun p hp => by simp only [Mine.led, lawL, List.mem_cons] at hp ⊢; grind) G.hdp G.hu fun h3 tk3 Rw m3 F3 w3 e3 N3 lt3 => ?_)
  show wpC _ _ (execs [lawS3, lawS4, lawS5] _) _ _ _
  refine wpC_walk (lp_S3 (s := { s with heap := h3, toks := tk3 }) (X := (Rw, listOf ([] : List Value).toArray 0) :: (Cl, oC') :: (S, stObj D 0 lcg tp tl 0) :: (D, listOf ds.toArray c2) :: Mine.led R Rd B hb he tb te 2 false [] []) G.KX G.T G.B₀ F3 trivial N3 G.hdp G.hu fun h4 tk4 m4 F4 w4 e4 N4 => ?_)
  show wpC _ _ (execs [lawS4, lawS5] _) _ _ _
  have dS : S < Rd := lt2 (S, stObj D 0 lcg tp tl 0) (.head _)
  have dC : Cl < Rd := lt2 (Cl, oC') (.tail _ (.head _))
  have dD : D < Rd := lt2 (D, listOf ds.toArray c2) (.tail _ (.tail _ (.head _)))
  have wB : B < Rw := lt3 (B, baObj []) (by simp only [Mine.led, List.mem_cons]; grind)
  have n1 : @LT.lt Nat _ Cl S := lS
  have n2 : @LT.lt Nat _ D S := lD
  have n3 : @LT.lt Nat _ S Rd := dS
  have n4 : @LT.lt Nat _ Cl Rd := dC
  have n5 : @LT.lt Nat _ D Rd := dD
  have n6 : @LT.lt Nat _ Rd R := l2
  have n7 : @LT.lt Nat _ R B := l3
  have n8 : @LT.lt Nat _ B Rw := wB
  have A : At h₀ L Cl s.os 0 [] { S := S, D := D, R := R, Rd := Rd, B := B, Rw := Rw, place := 0, lcg := lcg, tp := tp, tl := tl, oC := oC', ds := ds, ns := ns.take 60, c1 := 0, c2 := c2, hb := hb, he := he, tb := tb, te := te, cn := 2, e := false, row := [], vs := [], c := 0 } m4 { s with heap := h4, toks := tk4 } := by
    refine ⟨F4, newsSub N4 fun p hp => ?_, ⟨fun x hx => ?_, fun x hx => ?_, fun x hx => ?_⟩, hC1, hi1, by rw [List.length_take]; exact Nat.min_le_left _ _, Int.le_refl _, l0, l1, .nil, Nat.le_refl _, ?_, ?_, w4, AllBare.of_eq hg, rfl⟩
    · simp only [Cfg.all, Cfg.rest, Mine.led, lawL, List.mem_cons] at hp ⊢; grind
    · simp only [List.map_nil, List.mem_cons, List.not_mem_nil, or_false] at hx
      have : @Ne Nat x S := by rcases hx with rfl | rfl | rfl | rfl | rfl | rfl <;> omega
      exact this
    · simp only [List.map_nil, List.mem_cons, List.not_mem_nil, or_false] at hx
      have : @Ne Nat x B := by rcases hx with rfl | rfl | rfl | rfl | rfl | rfl <;> omega
      exact this
    · simp only [List.map_nil, List.mem_cons, List.not_mem_nil, or_false] at hx
      have : @Ne Nat x Rd := by rcases hx with rfl | rfl | rfl | rfl | rfl | rfl <;> omega
      exact this
    · exact (e4 _ (by decide)).trans ((e3 _ (by decide)).trans r2)
    · exact (e4 _ (by decide)).trans w3
  refine wpC_cons (loop_C G A fun C' m' s' A' => ?_)
  show wpC _ _ (execs [lawS5] _) _ _ _
  have hz := A'.hz
  refine wpC_cons (lc_fin (X := (C'.S, C'.st) :: (Cl, C'.oC) :: (C'.D, listOf C'.ds.toArray C'.c2) :: []) G.KX G.T G.B₀ A'.F A'.base3 A'.led G.hdp G.hu (by omega) A'.ap.notB A'.ap.hne A'.ap.hRR A'.hv fun h5 tk5 m5 F5 => ?_)
  exact k m5 _ F5 A'.hos A'.bare
end
set_option maxHeartbeats 0 in
theorem law_holds : PySem.Challenge.rw_ev0028_01.Holds := by
  refine hd ?_
  k_fill
  intro w s₀ s₁ mg mb G Y fa o pm cd doc dV kV ho hdd hcd hD hmg hg args vals as hpre hlay hrd hwl hlo
  have KX := kIn_of Y
  refine Ground.open G ?_
  intro T B D TE TW
  wrow_args hpre hlay hrd hwl hlo
  rename_i hsc _ _ _ hi _ hcond _
  obtain rfl : dV = .none := by
    rcases hD.pos with ⟨_, e⟩ | ⟨e, _⟩
    · exact e
    · exact absurd rfl e
  obtain rfl : kV = .none := by
    rcases hD.kw with ⟨_, e⟩ | ⟨e, _⟩
    · exact e
    · exact absurd rfl e
  refine wpC_call (codeC_call_function (body := lawBody) (by decide +kernel) ho hdd rfl rfl rfl hcd (wpAny_of_eq (a := [(Str.ofString "script", _)]) rfl ?_))
  refine wpAny_newFunctionEnv_cells rfl (fun y hy => .inl (by rw [List.mem_singleton.mp hy]; rfl)) fun env' he s' x => ?_
  subst he
  refine ⟨T.nolimit.keeps x.toInCall.keep, codeC_func ?_⟩
  obtain ⟨h₁, tk, rfl⟩ := x.toInCall.same
  obtain ⟨oC, hoC, hC⟩ := x.cell (Str.ofString "state") (s₁.heap.objs.size + 1) (by with_unfolding_all exact rfl)
  have F : Fr s₁.heap s₁.heap.objs.size h₁ _ := ⟨x.toInCall.ns, x.toInCall.keep, Nat.le_refl _⟩
  have N : News s₁.heap s₁.heap.objs.size h₁ [(s₁.heap.objs.size + 1, oC)] := fun p hp => by
    rw [List.mem_singleton.mp hp]
    exact ⟨hoC, Nat.succ_ne_self _, Heap.get?_none_of_le (Nat.le_succ _)⟩
  refine law_body (A₀ := callerA) (Cl := s₁.heap.objs.size + 1) (oC := oC) (a := fa) (ccd := cd) ⟨KX, T, below_caller _, ?h1, ?h2⟩ F ?h3 N ?h4 hsc hi ?h5 hg fun m' s' F' hos hb => ?h6
  case h1 => decide +kernel
  case h2 => decide +kernel
  case h3 => with_unfolding_all exact rfl
  case h4 => exact hC
  case h5 => omega
  case h6 => exact ⟨(goodW_bool (s' := { s' with gens := #[] }) F' rfl (raisesW_false (by wrow_none_raised)) (by
    refine postW_of (X := (true == true)) rfl ?_ rfl
    exact w_eq_bool (a := .res) (b := .lit (.bool true)) (w_res rfl) w_lit) hos).1, .of_keep F'.keep, hos, hb⟩
end Mine
end
theorem PySem.Challenge.cw_ev0028_01_holds : PySem.Challenge.rw_ev0028_01.Holds := by
  exact Mine.law_holds
