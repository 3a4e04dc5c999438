import PyProof.Rows.All
import Wide.All
import OpenK.AllK
import Wide.FinOn
import PySem.Challenge.RW_ie0005_01
open PySem PySem.W PySem.Calls PyProof.Rows
open Sem (wp)
set_option Elab.async false
set_option maxRecDepth 100000
set_option linter.unusedVariables false

namespace Mine

/-- the codes that hold a bytearray's memory while they run -/
def holdIds : List String := ["bytearray.__contains__", "bytearray.__mod__", "bytearray.__rmod__", "_struct.pack_into.held", "bytearray.find.held"] ++ Builtin.Bytes.decodersThatHold
def holds (c : Code) : Bool := match c with
  | .builtin id _ => holdIds.contains id
  | _ => false
/-- a context in which nothing holds a bytearray's memory -/
def Calm (Γ : Ctx) : Prop := holds Γ.code = false ∧ ∀ x ∈ Γ.below, holds x.1 = false
def wpX {α : Type} (M : Model) (A : Around) (t : Sem α) (Q : α → Shared → Prop) (E : Value → Shared → Prop) (s : Shared) : Prop :=
  ∀ Γ p, Γ.In A → Calm Γ → wp M Γ t (fun a _ s' => Q a s') (fun e _ s' => E e s') p s
section
variable {α β : Type} {M : Model} {A : Around} {E : Value → Shared → Prop} {s : Shared}
theorem wpX_of {t : Sem α} {Q : α → Shared → Prop} (h : wpAny M A t Q E s) : wpX M A t Q E s := fun Γ p hΓ _ => h Γ p hΓ
theorem wpX_mono {t : Sem α} {Q Q' : α → Shared → Prop} {E' : Value → Shared → Prop} (h : wpX M A t Q E s) (hQ : ∀ a s, Q a s → Q' a s) (hE : ∀ e s, E e s → E' e s) : wpX M A t Q' E' s :=
  fun Γ p hΓ hc => Sem.wp_mono M Γ t (fun a _ s => hQ a s) (fun e _ s => hE e s) p s (h Γ p hΓ hc)
theorem wpX_bind {m : Sem α} {f : α → Sem β} {Q : β → Shared → Prop} (h : wpX M A m (fun a s' => wpX M A (f a) Q E s') E s) : wpX M A (m >>= f) Q E s := fun Γ p hΓ hc => by
  rw [Sem.wp_bind']
  exact Sem.wp_mono M Γ m (fun a p' s' h' => h' Γ p' hΓ hc) (fun _ _ _ h' => h') p s (h Γ p hΓ hc)
end
theorem calm_caller : Calm ⟨.builtin "claim.caller" {}, none, none, [], none⟩ := ⟨by decide +kernel, fun x hx => nomatch hx⟩

theorem ends_calm {prog : Program} {w : World} {t : Sem Fin} {s : Shared} {R : Result → Shared → Prop} (hreg : s.asleep)
    (h : wpX (model prog w) callerA t (fun fin s' => ∃ f, fin = .done f ∧ (R (.ok f) s' ∧ leftWithCleanup s'.gens = false)) (fun e s' => R (.error e) s' ∧ leftWithCleanup s'.gens = false) s) :
    ∃ n r s' s'', runN (denote table) prog w n s ⟨t, .builtin "claim.caller" {}, default, []⟩ = .halted (outcomeOf r) s' ∧
      schedN (denote table) prog w n (.single s ⟨t, .builtin "claim.caller" {}, default, []⟩) = .halted (outcomeOf r) s' ∧ s'.forget = s''.forget ∧ R r s'' := by
  have go := h ⟨.builtin "claim.caller" {}, none, none, [], none⟩ default caller_in calm_caller
  obtain ⟨n, r, s₁, s₂, hs, hn, hfo, hR⟩ := wp_halts_full (M := model prog w) (R := R) (c := .builtin "claim.caller" {}) (p := default) hreg
    (Sem.wp_mono (model prog w) _ t (fun fin p' s' h' => by obtain ⟨f, rfl, hf⟩ := h'; exact hf) (fun _ _ _ h' => h') default s go)
  exact ⟨n, r, s₂, s₁, hn, hs, hfo, hR⟩

/-- what a claim asks of its calls, from a walk in calm contexts -/
theorem calls_calm {c : ClaimW} {tree : List Value → Sem Fin} {w : World} {s : Shared} {free : Addr → Prop} {gens : Prop} {kept : Heap → Prop} (hz : s.asleep) (hg : s.gens = #[])
    (spec : ∀ args, c.pre args = true → WData.layableAll args = true → ∀ ord : List DictEntry → List DictEntry, (∀ l, (ord l).Perm l) → ∃ vs s₁, layAllW c.records (classAt s.heap) w.params ord args s = some (vs, s₁) ∧
      wpX (model c.prog w) callerA (tree vs) (fun fin s' => ∃ f, fin = .done f ∧ (c.Ends s args vs s₁ (.ok f) s' ∧ s'.os = s.os ∧ AllBare s'.gens ∧ kept s'.heap))
        (fun e s' => c.Ends s args vs s₁ (.error e) s' ∧ s'.os = s.os ∧ AllBare s'.gens ∧ kept s'.heap) s₁) : c.CallFrom (fun vs => ⟨tree vs, .builtin "claim.caller" {}, default, []⟩) w free gens kept s := by
  intro args hpre hlay ord hord
  obtain ⟨vs, s₁, hlaid, walk⟩ := spec args hpre hlay ord hord
  have rest := layAllW_rest _ _ _ hlaid
  have walk' := wpX_mono (Q' := fun fin s' => ∃ f, fin = .done f ∧ ((c.Ends s args vs s₁ (.ok f) s' ∧ s'.os = s.os ∧ kept s'.heap) ∧ leftWithCleanup s'.gens = false))
    (E' := fun e s' => (c.Ends s args vs s₁ (.error e) s' ∧ s'.os = s.os ∧ kept s'.heap) ∧ leftWithCleanup s'.gens = false) walk
    (fun fin s' x => let ⟨f, e, x1, x2, x3, x4⟩ := x; ⟨f, e, ⟨x1, x2, x4⟩, leftWithCleanup_false_of_bare x3⟩) (fun e s' x => ⟨⟨x.1, x.2.1, x.2.2.2⟩, leftWithCleanup_false_of_bare x.2.2.1⟩)
  obtain ⟨k, r, s', s'', hrun, hsched, hfo, hends, hos, hkept⟩ := ends_calm (prog := c.prog) (w := w) (t := tree vs) (R := fun r s' => c.Ends s args vs s₁ r s' ∧ s'.os = s.os ∧ kept s'.heap) (Shared.asleep_of_life rest.2.2.2 hz) walk'
  obtain ⟨eh, _, _, eo, _⟩ := Shared.forget_eq hfo
  have hends := hends.congr eh
  rw [← eh] at hkept
  rw [← eo] at hos
  have hlife : s'.heap.life = s.heap.life := (runN_life _ _ _ hrun).trans rest.2.2.2
  refine ⟨vs, s₁, hlaid, k, _, s', hsched, ?_, (fun _ i x hx => by rw [hg] at hx; simp at hx), hkept, by rw [hlife], Shared.rest_eq hos⟩
  rcases hends with ⟨v, rfl, d1, d2, d3, d4, d5⟩ | ⟨e, ob, cls, rfl, d1, d2, d3, d4, d5⟩
  · exact .inl ⟨v, rfl, d1, d2, d3, fun b o y _ => d4 b o y, d5⟩
  · exact .inr ⟨e, ob, cls, rfl, d1, d2, d3, d4, fun b o y _ => d5 b o y⟩

/-- a walk of a row's callee, in calm contexts -/
abbrev WalkX' (q : Program) (loose : List Str) (XP : (Str → Option Value) → Heap → Prop) (YP : World → Heap → Prop) (r : RowW) (d : DefRec) (kwd : List (Str × Expr)) : Prop :=
  ∀ (w : World) (s₀ s₁ : Shared) (mg mb : Str → Option Value), Ground q loose r.records XP w s₀ mg mb s₁.heap → YP w s₁.heap → ∀ (a : Addr) (o : Obj) (pm cd doc dV kV : Value), s₁.heap.get? a = some o →
    o.data = .func { docDef d.name d.params d.body d.scope pm cd doc with defaults := dV, kwdefaults := kV } → s₁.heap.CodeRec cd d.name → Dflts mg s₁.heap d.params kwd dV kV → mg d.name = some (.ref a) → s₁.gens = #[] →
    ∀ (args : List WData) (vals : List Value) (as : List Addr), r.claim.pre args = true → WData.layableAll args = true → ReadsAllW r.records (classAt s₀.heap) s₁.heap vals args as → WellAll w.params s₁.heap vals args → (∀ a ∈ as, (a == sysModules) = false) →
      wpX (model r.prog w) callerA (PySem.call (.ref a) vals) (fun v s' => GoodWG r.claim (classAt s₀.heap) (ExcName.means s₀.heap) args s₁ (.ok (.ret v)) s')
        (fun e s' => GoodWG r.claim (classAt s₀.heap) (ExcName.means s₀.heap) args s₁ (.error e) s') s₁
theorem open_calm {r : RowW} {q : Program} {loose defs kps : List Str} {writes : Bool} {Xt : Shared → Bool} {XP : (Str → Option Value) → Heap → Prop} {α : Type} {Yf : Shared → α} {Ya : World → α} {YP : World → Heap → Prop} {N : Nat}
    (left : LeftO r.prog q loose Xt Yf Ya N) (hY : ∀ w s, Yf s = Ya w → YP w s.heap) (hYk : ∀ w h h', YP w h → (∀ b o, h.get? b = some o → h'.get? b = some o) → YP w h') (hX : ∀ s, Xt s = true → XP (s.heap.nsMap mainGlobals) s.heap) (hXk : ∀ mg h h', XP mg h → (∀ b o, h.get? b = some o → h'.get? b = some o) → XP mg h')
    (hRf : ∀ s, Xt s = true → RecFacts r.records s.heap) (hwr : (!writes || r.records.isEmpty) = true) (ok : (chainsOk q && opensWell r.prog && (frees r && r.within.isEmpty)) = true) (hb : r.prog.bare) (hw : r.promised)
    (pin : ∀ w s, s.heap.isNs mainGlobals = true → Ground q loose [] XP w s (s.heap.nsMap mainGlobals) (s.heap.nsMap builtinsNs) s.heap → ∀ n ∈ defs, isTheDefsW r.prog s.heap n)
    (call : ∀ (w : World) (s₀ s₁ : Shared) (mg mb : Str → Option Value), Ground q loose r.records XP w s₀ mg mb s₁.heap → YP w s₁.heap → ∀ (args : List WData) (vs : List Value) (as : List Addr),
      r.claim.pre args = true → WData.layableAll args = true → Laid r.records w s₀ s₁ args vs as → sysModules < s₀.heap.objs.size → ∃ f, mg r.name = some f ∧
        wpX (model r.prog w) callerA (PySem.call f vs) (fun v s' => GoodWG r.claim (classAt s₀.heap) (ExcName.means s₀.heap) args s₁ (.ok (.ret v)) s')
          (fun e s' => GoodWG r.claim (classAt s₀.heap) (ExcName.means s₀.heap) args s₁ (.error e) s') s₁) :
    r.claim.HoldsOpenBy (fun vs => ⟨(do match ← nsGet mainNs r.name with
      | some f => do ret (← PySem.call f vs)
      | none => unsupported "claim.caller:no-such-global"), .builtin "claim.caller" {}, default, []⟩) defs kps writes := by
  obtain ⟨ok1, ok2⟩ := Bool.and_eq_true_iff.mp ok
  obtain ⟨hch, o1⟩ := Bool.and_eq_true_iff.mp ok1
  obtain ⟨fr, wi⟩ := Bool.and_eq_true_iff.mp ok2
  obtain ⟨hsame, hu, ha, hap, hm⟩ := frees_parts fr
  refine ⟨⟨hb, o1, by show r.makers.map _ = []; rw [hm]; rfl⟩, hw.witness, fun w => ⟨(left.behind hX hch w).1, fun s' hs' => ?_⟩⟩
  obtain ⟨s₀, hf, hg0, s, hT, hz, hgens, hg, G00, y⟩ := (left.behind (XP := fun mg h => XP mg h ∧ RecFacts r.records h) (fun s hs => ⟨hX s hs, hRf s hs⟩) hch w).2 s' hs'
  have G0 : Ground q loose [] XP w s (s.heap.nsMap mainGlobals) (s.heap.nsMap builtinsNs) s.heap := ⟨G00.T, G00.B, G00.D, G00.TE, G00.TD, G00.W, G00.X.1, G00.cls, G00.has, G00.apart, G00.once, G00.K⟩
  have RF := G00.X.2
  have hT' := hT
  refine ⟨s₀, hf, hg0, s, hT, pin w s hg G0, RF.1, RF.2.1, ?_⟩
  have hgens : s.gens = #[] := Array.eq_empty_of_size_eq_zero (beq_iff_eq.mp hgens)
  have G : Ground q loose r.records XP w s _ _ s.heap := RF.ground G0
  refine calls_calm (c := r.claim) hz hgens fun args hpre hlay ord hord => ?_
  obtain ⟨⟨vs, s₁⟩, hlaid⟩ := Option.isSome_iff_exists.mp (layAllW_isSome (P := w.params) (ord := ord) G.has args r.args s (pre_splitW hpre).1)
  have keeps := layAllW_keeps _ _ _ hlaid
  have rest := layAllW_rest _ _ _ hlaid
  obtain ⟨as, hrd, hin, hold⟩ := reads_layAllW hord _ _ _ hlaid hlay s₁.heap (fun _ _ e => e)
  have L : Laid r.records w s s₁ args vs as := ⟨⟨ord, hord, hlaid⟩, hrd, hin, hold, keeps, rest.1.trans hgens, rest.2.2.1⟩
  have G₁ := G.keeps hXk keeps
  obtain ⟨f, hf, walk⟩ := call w s s₁ _ _ G₁ (hYk _ _ _ (hY w s y) keeps) args vs as hpre hlay L G.low
  have hi := ident_freeW hu ha hap
  have hwi : r.claim.within = [] := List.isEmpty_iff.mp wi
  refine ⟨vs, s₁, hlaid, ?_⟩
  refine wpX_bind (wpX_of (wpAny_nsGet G₁.T.g ?_))
  rw [hf]
  exact wpX_bind (wpX_mono walk (fun v s' g => wpX_of (wpAny_pure ⟨_, rfl, have z := g.laid (c := r.claim) hsame hwi hi L; ⟨z.1, z.2.1, z.2.2, fun q => ⟨namesKept_of hT' hg kps keeps g.2.1.old, noTable hwr q⟩⟩⟩))
    fun e s' g => have z := g.laid (c := r.claim) hsame hwi hi L; ⟨z.1, z.2.1, z.2.2, fun q => ⟨namesKept_of hT' hg kps keeps g.2.1.old, noTable hwr q⟩⟩)
/-- the head of a row, its callee walked in calm contexts alone -/
theorem PySem.W.holds_open {r : OpenRow} {q : Program} {loose : List Str} {Xt : Shared → Bool} {XP : (Str → Option Value) → Heap → Prop} {α : Type} {Yf : Shared → α} {Ya : World → α} {YP : World → Heap → Prop} {d : DefRec} {kwd : List (Str × Expr)} {N : Nat}
    (left : LeftO r.prog q loose Xt Yf Ya N) (hY : ∀ w s, Yf s = Ya w → YP w s.heap) (hYk : ∀ w h h', YP w h → (∀ b o, h.get? b = some o → h'.get? b = some o) → YP w h')
    (hX : ∀ s, Xt s = true → XP (s.heap.nsMap mainGlobals) s.heap) (hXk : ∀ mg h h', XP mg h → (∀ b o, h.get? b = some o → h'.get? b = some o) → XP mg h')
    (hdef : defOf q r.name = some (d, kwd)) (hp : r.prog.theDef r.name = some (d.params, d.body, d.scope)) (hk : kwWritten? d.params.kwonlyargs d.params.kw_defaults = some kwd) (hRf : ∀ s, Xt s = true → RecFacts r.records s.heap) (hwr : (!r.writes || r.records.isEmpty) = true)
    (k1 : r.wellSaid = true) (ok : (chainsOk q && opensWell r.prog && (frees r.toRowW && r.within.isEmpty)) = true) (hb : r.prog.bare) (hw : r.toRowW.promised)
    (call : WalkX' q loose XP YP r.toRowW d kwd) : r.Holds := by
  refine ⟨k1, hw, open_calm (r := r.toRowW) left hY hYk hX hXk hRf hwr ok hb hw (fun w s hg G n hn => ?_) fun w s₀ s₁ mg mb G Y args vs as hpre hlay L low => ?_⟩
  · obtain rfl : n = r.name := by split at hn <;> simp_all
    exact pinned_of_view hg G hdef hp hk
  · obtain ⟨a, o, pm, cd, doc, dV, kV, h1, h2, h3, h4, h5⟩ := G.fn hdef
    exact ⟨.ref a, h1, call w s₀ s₁ mg mb G Y a o pm cd doc dV kV h2 h3 h4 h5 (defOf_name hdef ▸ h1) L.gens args vs as hpre hlay L.reads L.well (L.low low)⟩
end Mine

namespace Mine
set_option maxHeartbeats 8000000
open_top hd for PySem.Challenge.rw_ie0005_01
end Mine

namespace Mine

/-- all that stood stands -/
abbrev Ext (h h' : Heap) : Prop := ∀ b o, h.get? b = some o → h'.get? b = some o
theorem Ext.refl (h : Heap) : Ext h h := fun _ _ e => e
theorem Ext.trans {h h' h'' : Heap} (a : Ext h h') (b : Ext h' h'') : Ext h h'' := fun x o e => b x o (a x o e)
theorem Ext.push (h : Heap) (o : Obj) : Ext h (h.push o) := fun _ _ e => Heap.get?_push_of_some o e

/-- the tree t, begun on the heap h, ends in a value and a heap as R says -/
def T {α : Type} (M : Model) (A : Around) (t : Sem α) (h : Heap) (R : α → Heap → Prop) : Prop :=
  ∀ (s : Shared) (Q : α → Shared → Prop) (E : Value → Shared → Prop), s.heap = h →
    (∀ a h' k, R a h' → Q a { s with heap := h', toks := k }) → wpAny M A t Q E s

/-- the same of a code -/
def C (M : Model) (A : Around) (c : Code) (h : Heap) (R : Flow → Heap → Prop) : Prop :=
  ∀ (s : Shared) (P : Result → Shared → Prop), s.heap = h →
    (∀ a h' k, R a h' → P (.ok a) { s with heap := h', toks := k }) → codeAny M A c P s

section
variable {α β : Type} {M : Model} {A : Around} {h : Heap} {R : α → Heap → Prop}

theorem tRet {a : α} (hr : R a h) : T M A (pure a) h R := fun s Q E hs hQ => by
  subst hs; exact wpAny_pure (hQ a s.heap s.toks hr)
theorem tHere {a : α} {t : Sem α} (e : t = pure a) (hr : R a h) : T M A t h R := e ▸ tRet hr
theorem tMono {t : Sem α} {R' : α → Heap → Prop} (H : T M A t h R') (f : ∀ a h', R' a h' → R a h') : T M A t h R :=
  fun s Q E hs hQ => H s Q E hs fun a h' k r => hQ a h' k (f a h' r)
theorem tBind {m : Sem β} {f : β → Sem α} (H : T M A m h (fun b h₁ => T M A (f b) h₁ R)) : T M A (m >>= f) h R :=
  fun s Q E hs hQ => wpAny_bind (H s _ E hs fun _ h₁ _ r => r _ Q E rfl fun a h' k r' => hQ a h' k r')
theorem tHolding {vs : List Value} {t : Sem α} (H : T M A t h R) : T M A (holding vs t) h R :=
  fun s Q E hs hQ => wpAny_holding (H s Q E hs hQ)
theorem tLoad {a : Addr} {o : Obj} {R : Obj → Heap → Prop} (ho : h.get? a = some o) (hr : R o h) : T M A (load a) h R :=
  fun s Q E hs hQ => by subst hs; exact wpAny_load ho (hQ o s.heap s.toks hr)
theorem tIteT {c : Prop} [Decidable c] {a b : Sem α} (hc : c) (H : T M A a h R) : T M A (if c then a else b) h R := by rw [if_pos hc]; exact H
theorem tIteF {c : Prop} [Decidable c] {a b : Sem α} (hc : ¬ c) (H : T M A b h R) : T M A (if c then a else b) h R := by rw [if_neg hc]; exact H
end

/-- room for n calls more -/
def Room (A : Around) (n : Nat) : Prop := A.handled = none ∧ A.depth + n < recursionLimit ∧ A.units + 20 * n < cLine
theorem Room.handled {A : Around} {n : Nat} (r : Room A n) : A.handled = none := r.1
theorem Room.depth {A : Around} {n : Nat} (r : Room A n) : A.depth < recursionLimit := by have := r.2.1; omega
theorem Room.units {A : Around} {n : Nat} (r : Room A n) : A.units < cLine := by have := r.2.2; omega
theorem Room.le {A : Around} {n k : Nat} (r : Room A n) (h : k ≤ n) : Room A k := ⟨r.1, by have := r.2.1; omega, by have := r.2.2; omega⟩
theorem Room.deeper {A : Around} {n : Nat} {env : Env} (r : Room A (n + 1)) : Room (A.deeper env) n :=
  ⟨r.1, by show A.depth + 1 + n < recursionLimit; have := r.2.1; omega, by show A.units + 3 + 20 * n < cLine; have := r.2.2; omega⟩

/-! ### statements and expressions -/
section
variable {M : Model} {A : Around} {env : Env} {h : Heap}

theorem tInt {i k pos} {R : Value → Heap → Prop} (hr : ∀ t, R (.int i t) h) : T M A (eval (.Constant (.int i) k pos) env) h R :=
  fun s Q E hs hQ => by subst hs; exact wpAny_Constant_int (hQ _ _ _ (hr _))
theorem tNone {k pos} {R : Value → Heap → Prop} (hr : R .none h) : T M A (eval (.Constant .none k pos) env) h R :=
  fun s Q E hs hQ => by subst hs; exact wpAny_Constant_none (hQ _ _ s.toks hr)
theorem tBool {b k pos} {R : Value → Heap → Prop} (hr : R (.bool b) h) : T M A (eval (.Constant (.bool b) k pos) env) h R :=
  fun s Q E hs hQ => by subst hs; exact wpAny_Constant_bool (hQ _ _ s.toks hr)
theorem tName {x pos} {R : Value → Heap → Prop} (H : T M A (loadName env x) h R) (hd : (x == ("__debug__" : Str)) = false := by decide) : T M A (eval (.Name x pos) env) h R :=
  fun s Q E hs hQ => wpAny_Name (H s Q E hs hQ) hd
theorem tBinOp {l op r pos} {R : Value → Heap → Prop} (H : T M A (eval l env) h (fun a h₁ => T M A (eval r env) h₁ (fun b h₂ => T M A (binaryOp op a b) h₂ R))) :
    T M A (eval (.BinOp l op r pos) env) h R :=
  fun s Q E hs hQ => wpAny_BinOp (H s _ E hs fun _ _ _ H1 => H1 _ _ E rfl fun _ _ _ H2 => H2 _ Q E rfl hQ)
theorem tCmp {l op r pos} {R : Value → Heap → Prop} (H : T M A (eval l env) h (fun a h₁ => T M A (eval r env) h₁ (fun b h₂ => T M A (compareOp op a b) h₂ R)))
    (hm : behindInMarks op r = false := by with_unfolding_all rfl) : T M A (eval (.Compare l [op] [r] pos) env) h R :=
  fun s Q E hs hQ => wpAny_Compare1 (H s _ E hs fun _ _ _ H1 => H1 _ _ E rfl fun _ _ _ H2 => H2 _ Q E rfl hQ) hm
theorem tUn {op x pos} {R : Value → Heap → Prop} (H : T M A (eval x env) h (fun a h₁ => T M A (unaryOp op a) h₁ R)) : T M A (eval (.UnaryOp op x pos) env) h R :=
  fun s Q E hs hQ => wpAny_UnaryOp (H s _ E hs fun _ _ _ H1 => H1 _ Q E rfl hQ)
theorem tAnd2 {x y pos} {R : Value → Heap → Prop} (H : T M A (eval x env) h (fun v h₁ => T M A (truthy v) h₁ (fun t h₂ => if t then T M A (eval y env) h₂ R else R v h₂))) :
    T M A (eval (.BoolOp .And [x, y] pos) env) h R :=
  fun s Q E hs hQ => wpAny_And2 (H s _ E hs fun v _ _ H1 => H1 _ _ E rfl fun t _ _ H2 => by
    cases t
    · exact hQ _ _ _ H2
    · exact H2 _ Q E rfl hQ)
theorem tTruthyBool {b : Bool} {R : Bool → Heap → Prop} (hr : R b h) : T M A (truthy (.bool b)) h R :=
  fun s Q E hs hQ => by subst hs; exact wpAny_truthy_bool (hQ _ _ s.toks hr)

theorem tIsCmp {l op r pos whole} {R : Bool → Heap → Prop} (H : T M A (eval l env) h (fun a h₁ => T M A (eval r env) h₁ (fun b h₂ => T M A (compareOp op a b) h₂ (fun c h₃ => T M A (truthy c) h₃ R))))
    (hm : behindInMarks op r = false := by with_unfolding_all rfl) : T M A (isTrue (.Compare l [op] [r] pos) env whole) h R :=
  fun s Q E hs hQ => wpAny_isTrue_Compare1 (H s _ E hs fun _ _ _ H1 => H1 _ _ E rfl fun _ _ _ H2 => H2 _ _ E rfl fun _ _ _ H3 => H3 _ Q E rfl hQ) hm
theorem tIsNot {x pos whole} {R : Bool → Heap → Prop} (H : T M A (isTrue x env (eval x env)) h (fun b h₁ => R (!b) h₁)) : T M A (isTrue (.UnaryOp .Not x pos) env whole) h R :=
  fun s Q E hs hQ => wpAny_isTrue_Not (H s _ E hs fun _ _ _ H1 => hQ _ _ _ H1)
theorem tIsVal {e : Expr} {whole : Sem Value} {R : Bool → Heap → Prop} (H : T M A whole h (fun v h₁ => T M A (truthy v) h₁ R))
    (he : isTrue e env whole = (do let v ← whole; standAt e.pos; holding [v] (truthy v)) := by rfl) : T M A (isTrue e env whole) h R :=
  fun s Q E hs hQ => wpAny_isTrue_value (H s _ E hs fun _ _ _ H1 => H1 _ Q E rfl hQ) he
theorem tIsBool {op values pos whole} {R : Bool → Heap → Prop} (H : T M A (allTrue op values env) h R) : T M A (isTrue (.BoolOp op values pos) env whole) h R :=
  fun s Q E hs hQ => wpAny_isTrue_BoolOp (H s Q E hs hQ)
theorem tAndNil {R : Bool → Heap → Prop} (hr : R true h) : T M A (allTrue .And [] env) h R := fun s Q E hs hQ => by subst hs; exact wpAny_allTrue_And_nil (hQ _ _ s.toks hr)
theorem tOrNil {R : Bool → Heap → Prop} (hr : R false h) : T M A (allTrue .Or [] env) h R := fun s Q E hs hQ => by subst hs; exact wpAny_allTrue_Or_nil (hQ _ _ s.toks hr)
theorem tAndCons {x rest} {R : Bool → Heap → Prop} (H : T M A (isTrue x env (eval x env)) h (fun b h₁ => if b then T M A (allTrue .And rest env) h₁ R else R false h₁)) : T M A (allTrue .And (x :: rest) env) h R :=
  fun s Q E hs hQ => wpAny_allTrue_And_cons (H s _ E hs fun b _ _ H1 => by
    cases b
    · exact hQ _ _ _ H1
    · exact H1 _ Q E rfl hQ)
theorem tOrCons {x rest} {R : Bool → Heap → Prop} (H : T M A (isTrue x env (eval x env)) h (fun b h₁ => if b then R true h₁ else T M A (allTrue .Or rest env) h₁ R)) : T M A (allTrue .Or (x :: rest) env) h R :=
  fun s Q E hs hQ => wpAny_allTrue_Or_cons (H s _ E hs fun b _ _ H1 => by
    cases b
    · exact H1 _ Q E rfl hQ
    · exact hQ _ _ _ H1)

theorem tDone {R : Flow → Heap → Prop} (hr : R .next h) : T M A (execs [] env) h R := fun s Q E hs hQ => by subst hs; exact wpAny_execs_nil (hQ _ _ s.toks hr)
theorem tThen {st rest} {R : Flow → Heap → Prop} (H : T M A (exec st env) h (fun f h₁ => match f with | .next => T M A (execs rest env) h₁ R | f => R f h₁)) : T M A (execs (st :: rest) env) h R :=
  fun s Q E hs hQ => wpAny_execs_cons (H s _ E hs fun f _ _ H1 => by
    cases f
    · exact H1 _ Q E rfl hQ
    all_goals exact hQ _ _ _ H1)
theorem tExpr {e pos} {R : Flow → Heap → Prop} (H : T M A (eval e env) h (fun v h₁ => match v with | .ref _ => False | _ => R .next h₁))
    (hi : interactive env = false := by rfl) (hs : swapsWith e none pos.line env = pure false := by rfl) : T M A (exec (.Expr e pos) env) h R :=
  fun s Q E he hQ => wpAny_Expr (H s _ E he fun v _ _ H1 => by cases v <;> first | exact hQ _ _ _ H1 | exact H1) hi hs
theorem tIf {test body orelse pos} {R : Flow → Heap → Prop}
    (H : T M A (isTrue test env (eval test env)) h (fun b h₁ => if b then T M A (execs body env) h₁ R else T M A (execs orelse env) h₁ R)) : T M A (exec (.If test body orelse pos) env) h R :=
  fun s Q E hs hQ => wpAny_If (H s _ E hs fun b _ _ H1 => by
    cases b
    · exact H1 _ Q E rfl hQ
    · exact H1 _ Q E rfl hQ)
theorem tReturn {e pos} {R : Flow → Heap → Prop} (H : T M A (eval e env) h (fun v h₁ => R (.ret v) h₁)) : T M A (exec (.Return (some e) pos) env) h R :=
  fun s Q E hs hQ => wpAny_Return_some (H s _ E hs fun _ _ _ H1 => hQ _ _ _ H1)
theorem tAssign {x pos' value pos} {R : Flow → Heap → Prop} (H : T M A (eval value env) h (fun v h₁ => T M A (storeName env x v) h₁ (fun _ => R .next)))
    (hs : swapsWith value (some (.Name x pos')) pos.line env = pure false := by rfl) : T M A (exec (.Assign [.Name x pos'] value pos) env) h R :=
  fun s Q E he hQ => wpAny_Assign_Name (H s _ E he fun _ _ _ H1 => H1 _ _ E rfl fun _ _ _ H2 => hQ _ _ _ H2) hs
theorem tRunOwn {c : Code} {R : Flow → Heap → Prop} (H : C M A c h R) : T M A (runOwn c env) h R :=
  fun s Q E hs hQ => wpAny_runOwn (h := none) (by
    have e : A.mark none = A := by cases A; rfl
    rw [e]
    exact H s _ hs fun a h' k r => hQ a h' k r)
theorem tWhile {test body orelse pos} {R : Flow → Heap → Prop} (H : C M A (.whileLoop test body orelse env) h R) : T M A (exec (.While test body orelse pos) env) h R := by
  rw [exec_While]
  exact fun s Q E hs hQ => wpAny_bind (wpAny_standAt ((tRunOwn H) s Q E hs hQ))
theorem tFor {target iter body orelse pos} {R : Flow → Heap → Prop} (H : T M A (eval iter env) h (fun x h₁ => T M A (pyIter x) h₁ (fun it h₂ => C M A (.forLoop target it body orelse env) h₂ R)))
    (hs : ∀ x, foldedSetIterable iter env x = pure x := by intro _; rfl) : T M A (exec (.For target iter body orelse pos) env) h R := by
  intro s Q E he hQ
  show wpAny M A (do
    standAt pos
    let x ← foldedSetIterable iter env (← eval iter env)
    standAt iter.pos
    runOwn (.forLoop target (← holding [x] (pyIter x)) body orelse env) env) Q E s
  refine wpAny_bind (wpAny_standAt (wpAny_bind (H s _ E he fun x h₁ k₁ H1 => wpAny_bind (wpAny_of_eq (hs x) (wpAny_bind (wpAny_standAt (wpAny_bind (wpAny_holding (H1 _ _ E rfl fun it h₂ k₂ H2 => ?_)))))))))
  exact (tRunOwn H2) _ Q E rfl hQ
theorem tArgs0 {pos} {R : List Value → Heap → Prop} (hr : R [] h) : T M A (spliced (backTo pos (starEach [] env))) h R := fun s Q E hs hQ => by subst hs; exact wpAny_items_nil (hQ _ _ s.toks hr)
theorem tArgs {pos e rest} {R : List Value → Heap → Prop} (H : T M A (eval e env) h (fun v h₁ => T M A (spliced (backTo pos (starEach rest env))) h₁ (fun vs h₂ => R (v :: vs) h₂)))
    (he : starEach (e :: rest) env = (false, eval e env) :: starEach rest env := by rfl) : T M A (spliced (backTo pos (starEach (e :: rest) env))) h R :=
  fun s Q E hs hQ => wpAny_items_cons (H s _ E hs fun _ _ _ H1 => H1 _ _ E rfl fun _ _ _ H2 => hQ _ _ _ H2) he

def tupObj (vs : List Value) : Obj := { cls := .type "tuple", data := .seq vs.toArray }
def listObj (vs : List Value) : Obj := { cls := .type "list", data := .seq vs.toArray }
theorem tTuple {elts k pos} {R : Value → Heap → Prop} (H : T M A (spliced (backTo pos (starEach elts env))) h (fun vs h₁ => vs.length ≤ sizeLine ∧ R (.ref h₁.objs.size) (h₁.push (tupObj vs)))) :
    T M A (eval (.Tuple elts k pos) env) h R :=
  fun s Q E hs hQ => wpAny_Tuple (H s _ E hs fun _ _ k H1 => ⟨H1.1, hQ _ _ k H1.2⟩)
theorem tList {elts pos} {R : Value → Heap → Prop} (H : T M A (spliced (backTo pos (starEach elts env))) h (fun vs h₁ => vs.length ≤ sizeLine ∧ R (.ref h₁.objs.size) (h₁.push (listObj vs)))) :
    T M A (eval (.List elts pos) env) h R :=
  fun s Q E hs hQ => wpAny_List (H s _ E hs fun _ _ k H1 => ⟨H1.1, hQ _ _ k H1.2⟩)
end
end Mine

namespace Mine

section
variable {M : Model} {A : Around} {env : Env} {h : Heap}
/-! ### names -/
theorem tLocal' {x : Str} {m} {v : Value} {R : Value → Heap → Prop} (hn : h.Ns env.locals m) (hv : m x = some v) (hr : R v h) (hk : env.scope.kind = .function := by rfl) (hl : env.kindOf x = some .local := by rfl) :
    T M A (loadName env x) h R := fun s Q E hs hQ => by subst hs; exact wpAny_loadName_local hk hl hn hv (hQ _ _ s.toks hr)
theorem tLoc {x : Str} {pos : Pos} {m} {v : Value} {R : Value → Heap → Prop} (hn : h.Ns env.locals m) (hv : m x = some v) (hr : R v h) (hk : env.scope.kind = .function := by rfl) (hl : env.kindOf x = some .local := by rfl)
    (hd : (x == ("__debug__" : Str)) = false := by decide) : T M A (eval (.Name x pos) env) h R := tName (tLocal' hn hv hr hk hl) hd
theorem tCell {x : Str} {pos : Pos} {c : Addr} {v : Value} {R : Value → Heap → Prop} (hc : env.cells.lookup x = some c) (hv : h.IsCell c (some v)) (hr : R v h) (hk : env.scope.kind = .function := by rfl)
    (hl : env.kindOf x = some .cell := by rfl) (hd : (x == ("__debug__" : Str)) = false := by decide) : T M A (eval (.Name x pos) env) h R :=
  tName (fun s Q E hs hQ => by subst hs; exact wpAny_loadName_cell hk hl hc hv (hQ _ _ s.toks hr)) hd
theorem tFree {x : Str} {pos : Pos} {c : Addr} {v : Value} {R : Value → Heap → Prop} (hc : env.cells.lookup x = some c) (hv : h.IsCell c (some v)) (hr : R v h) (hk : env.scope.kind = .function := by rfl)
    (hl : env.kindOf x = some .free := by rfl) (hd : (x == ("__debug__" : Str)) = false := by decide) (hn : (x == ("__classdict__" : Str)) = false := by decide) : T M A (eval (.Name x pos) env) h R :=
  tName (fun s Q E hs hQ => by subst hs; exact wpAny_loadName_free hk hl hc hv (hQ _ _ s.toks hr) hn) hd
theorem tGlo {x : Str} {pos : Pos} {mg} {v : Value} {R : Value → Heap → Prop} (hg : h.Ns env.globals mg) (hv : mg x = some v) (hr : R v h) (hk : env.scope.kind = .function := by rfl)
    (hl : env.kindOf x = some .globalImplicit := by rfl) (hd : (x == ("__debug__" : Str)) = false := by decide) : T M A (eval (.Name x pos) env) h R :=
  fun s Q E hs hQ => by subst hs; exact Name_function_global hk hl (loadGlobal_global hg hv (hQ _ _ s.toks hr)) hd
theorem tBlt {x : Str} {pos : Pos} {mg mb} {v : Value} {R : Value → Heap → Prop} (hg : h.Ns env.globals mg) (hm : mg x = none) (hb : h.Ns env.builtins mb) (hv : mb x = some v) (hr : R v h) (hk : env.scope.kind = .function := by rfl)
    (hl : env.kindOf x = some .globalImplicit := by rfl) (hd : (x == ("__debug__" : Str)) = false := by decide) : T M A (eval (.Name x pos) env) h R :=
  fun s Q E hs hQ => by subst hs; exact Name_function_global hk hl (loadGlobal_builtin hg hm hb hv (hQ _ _ s.toks hr)) hd
theorem tStoreL {x : Str} {m} {v : Value} {R : Unit → Heap → Prop} (hn : h.Ns env.locals m) (hr : ∀ h', h'.Ns env.locals (fun y => if y = x then some v else m y) → Heap.SameBut env.locals h h' → R () h')
    (hk : env.scope.kind = .function := by rfl) (hl : env.kindOf x = some .local := by rfl) : T M A (storeName env x v) h R :=
  fun s Q E hs hQ => by
    subst hs
    exact wpAny_storeName_local hl hn (fun h' a b => hQ _ _ _ (hr h' a b)) (by rw [hk]; rfl)
theorem tStoreC {x : Str} {c : Addr} {v₀ : Option Value} {v : Value} {R : Unit → Heap → Prop} (hc : env.cells.lookup x = some c) (hv : h.IsCell c v₀) (hr : ∀ h', h'.IsCell c (some v) → Heap.SameBut c h h' → R () h')
    (hk : env.scope.kind = .function := by rfl) (hl : env.kindOf x = some .cell := by rfl) : T M A (storeName env x v) h R :=
  fun s Q E hs hQ => by
    subst hs
    exact wpAny_storeName_cell hk hl hc hv fun h' a b => hQ _ _ s.toks (hr h' a b)
theorem tBindName {x : Str} {v : Value} {R : Unit → Heap → Prop} (H : T M A (storeName env x v) h R) : T M A (bindName env x v) h R :=
  fun s Q E hs hQ => wpAny_bindName (H s Q E hs hQ)
theorem tAssignName {x : Str} {pos : Pos} {v : Value} {R : Unit → Heap → Prop} (H : T M A (storeName env x v) h R) : T M A (assign (.Name x pos) env v) h R :=
  fun s Q E hs hQ => by
    show wpAny M A (do standAt pos; bindName env x v) Q E s
    exact wpAny_bind (wpAny_standAt ((tBindName H) s Q E hs hQ))

/-! ### calls -/
theorem tCall {func : Expr} {args : List Expr} {pos : Pos} {R : Value → Heap → Prop} (H : T M A (eval func env) h (fun f h₁ => T M A (callWith pos f [] (backTo pos (starEach args env)) []) h₁ R))
    (he : eval (.Call func args [] pos) env = (do callWith pos (← eval func env) [] (backTo pos (starEach args env)) (backToKw pos (keywordEach [] env))) := by rfl) : T M A (eval (.Call func args [] pos) env) h R :=
  fun s Q E hs hQ => Call_ (H s _ E hs fun _ _ _ H1 => H1 _ Q E rfl hQ) he
theorem tCallDef {pos : Pos} {f : Addr} {o : Obj} {fd : FuncData} {e : Expr} {rest : List Expr} {R : Value → Heap → Prop} (hdat : o.data = .func fd)
    (H : T M A (spliced (backTo pos (starEach (e :: rest) env))) h (fun vs h₁ => h₁.get? f = some o ∧ T M A (call (.ref f) vs) h₁ R))
    (he : starEach (e :: rest) env = (false, eval e env) :: starEach rest env := by rfl) : T M A (callWith pos (.ref f) [] (backTo pos (starEach (e :: rest) env)) []) h R :=
  fun s Q E hs hQ => callWith_def hdat (H s _ E hs fun _ _ _ H1 => ⟨H1.1, H1.2 _ Q E rfl hQ⟩) he
theorem tCallBlt {pos : Pos} {id : String} {e : Expr} {rest : List Expr} {R : Value → Heap → Prop} (H : T M A (spliced (backTo pos (starEach (e :: rest) env))) h (fun vs h₁ => T M A (call (.builtin id) vs) h₁ R))
    (he : starEach (e :: rest) env = (false, eval e env) :: starEach rest env := by rfl) (hplain : (backTo pos (starEach rest env)).any (·.1) = false := by rfl) :
    T M A (callWith pos (.builtin id) [] (backTo pos (starEach (e :: rest) env)) []) h R :=
  fun s Q E hs hQ => callWith_builtin1 (H s _ E hs fun _ _ _ H1 => H1 _ Q E rfl hQ) he hplain
theorem tCallTy {pos : Pos} {t : String} {e : Expr} {rest : List Expr} {R : Value → Heap → Prop} (H : T M A (spliced (backTo pos (starEach (e :: rest) env))) h (fun vs h₁ => T M A (call (.type t) vs) h₁ R))
    (he : starEach (e :: rest) env = (false, eval e env) :: starEach rest env := by rfl) (hplain : (backTo pos (starEach rest env)).any (·.1) = false := by rfl) :
    T M A (callWith pos (.type t) [] (backTo pos (starEach (e :: rest) env)) []) h R :=
  fun s Q E hs hQ => PyProof.Rows.callWith_type1 (H s _ E hs fun _ _ _ H1 => H1 _ Q E rfl hQ) he hplain
theorem tSub {value slice pos} {R : Value → Heap → Prop} (H : T M A (eval value env) h (fun o h₁ => T M A (eval slice env) h₁ (fun i h₂ => T M A (subscriptTail value slice o i) h₂ R))) :
    T M A (eval (.Subscript value slice pos) env) h R :=
  fun s Q E hs hQ => Subscript_ (H s _ E hs fun _ _ _ H1 => H1 _ _ E rfl fun _ _ _ H2 => H2 _ Q E rfl hQ)
end

section
variable {prog : Program} {w : World} {A : Around} {env : Env} {h : Heap}

/-- a value's type, on a heap -/
def TyIs (h : Heap) (v : Value) (t : String) : Prop := ∀ s : Shared, s.heap = h → s.TypeIs v t
end
end Mine

namespace Mine

section
variable {prog : Program} {w : World} {A : Around} {env : Env} {h : Heap}

/-! ### ints -/
theorem tLt {a b : Int} {t u : Tok} {R : Value → Heap → Prop} (hr : R (.bool (decide (a < b))) h) : T (model prog w) A (compareOp .Lt (.int a t) (.int b u)) h R :=
  fun s Q E hs hQ => by subst hs; exact PyProof.Rows.lt_int (hQ _ _ s.toks hr)
theorem tGt {a b : Int} {t u : Tok} {R : Value → Heap → Prop} (hr : R (.bool (decide (b < a))) h) : T (model prog w) A (compareOp .Gt (.int a t) (.int b u)) h R :=
  fun s Q E hs hQ => by subst hs; exact PyProof.Rows.gt_int (hQ _ _ s.toks hr)
theorem tEqInt {a b : Int} {t u : Tok} {R : Value → Heap → Prop} (hr : R (.bool (a == b)) h) : T (model prog w) A (compareOp .Eq (.int a t) (.int b u)) h R :=
  fun s Q E hs hQ => by subst hs; exact PyProof.Rows.eq_int (hQ _ _ s.toks hr)
theorem tNeInt {a b : Int} {t u : Tok} {R : Value → Heap → Prop} (hr : R (.bool (a != b)) h) : T (model prog w) A (compareOp .NotEq (.int a t) (.int b u)) h R :=
  fun s Q E hs hQ => by subst hs; exact PyProof.Rows.ne_int (hQ _ _ s.toks hr)
theorem tAdd {a b : Int} {t u : Tok} {R : Value → Heap → Prop} (hr : ∀ k, R (.int (a + b) k) h) : T (model prog w) A (binaryOp .Add (.int a t) (.int b u)) h R :=
  fun s Q E hs hQ => by subst hs; exact PyProof.Rows.add_int (hQ _ _ _ (hr _))
theorem tSubI {a b : Int} {t u : Tok} {R : Value → Heap → Prop} (hr : ∀ k, R (.int (a - b) k) h) : T (model prog w) A (binaryOp .Sub (.int a t) (.int b u)) h R :=
  fun s Q E hs hQ => by subst hs; exact PyProof.Rows.sub_int (hQ _ _ _ (hr _))
theorem tMulI {a b : Int} {t u : Tok} {R : Value → Heap → Prop} (hm : IntMulOk a b) (hr : ∀ k, R (.int (a * b) k) h) : T (model prog w) A (binaryOp .Mult (.int a t) (.int b u)) h R :=
  fun s Q E hs hQ => by subst hs; exact PyProof.Rows.mul_int (hQ _ _ _ (hr _)) hm
theorem tModI {a b : Int} {t u : Tok} {R : Value → Heap → Prop} (hb : b ≠ 0) (hr : ∀ k, R (.int (a.fmod b) k) h) : T (model prog w) A (binaryOp .Mod (.int a t) (.int b u)) h R :=
  fun s Q E hs hQ => by subst hs; exact PyProof.Rows.mod_int' hb (hQ _ _ _ (hr _))
theorem tDivI {a b : Int} {t u : Tok} {R : Value → Heap → Prop} (hb : b ≠ 0) (hp : Builtin.divisionGoesByPylong a b = false) (hr : ∀ k, R (.int (a.fdiv b) k) h) :
    T (model prog w) A (binaryOp .FloorDiv (.int a t) (.int b u)) h R :=
  fun s Q E hs hQ => by subst hs; exact PyProof.Rows.floordiv_int hb (hQ _ _ _ (hr _)) (.inl hp)
theorem tNegI {a : Int} {t : Tok} {R : Value → Heap → Prop} (hr : ∀ k, R (.int (-a) k) h) : T (model prog w) A (unaryOp .USub (.int a t)) h R :=
  fun s Q E hs hQ => by subst hs; exact PyProof.Rows.neg_int (hQ _ _ _ (hr _))
theorem tIsNone {M : Model} {v : Value} {R : Value → Heap → Prop} (hr : R (.bool (v == .none)) h) : T M A (compareOp .Is v .none) h R :=
  fun s Q E hs hQ => by subst hs; exact is_none (hQ _ _ s.toks hr)

/-! ### lists -/
theorem tSubList {value slice : Expr} {l : Addr} {items : Array Value} {k : Int} {u : Tok} {x : Value} {R : Value → Heap → Prop} (hl : h.IsList l items) (h0 : 0 ≤ k) (hfit : k < 2 ^ 63) (hx : items[k.toNat]? = some x) (hr : R x h)
    (hs' : subscripted slice false (.ref l) (.int k u) = operate [.ref l, .int k u] (getItem (.ref l) (.int k u)) := by with_unfolding_all rfl) : T (model prog w) A (subscriptTail value slice (.ref l) (.int k u)) h R :=
  fun s Q E hs hQ => by subst hs; exact tail_any hl.typeIs slot_list_getitem.lookup (wpAny_getItem_list hl h0 hfit hx (hQ _ _ s.toks hr)) hs'
theorem tSubListNeg {value slice : Expr} {l : Addr} {items : Array Value} {k : Int} {u : Tok} {x : Value} {R : Value → Heap → Prop} (hl : h.IsList l items) (h0 : k < 0) (hfit : -(2 ^ 63) ≤ k) (hlo : -(items.size : Int) ≤ k) (hx : items[(k + items.size).toNat]? = some x) (hr : R x h)
    (hs' : subscripted slice false (.ref l) (.int k u) = operate [.ref l, .int k u] (getItem (.ref l) (.int k u)) := by with_unfolding_all rfl) : T (model prog w) A (subscriptTail value slice (.ref l) (.int k u)) h R :=
  fun s Q E hs hQ => by subst hs; exact tail_any hl.typeIs slot_list_getitem.lookup (wpAny_getItem_list_neg hl h0 hlo hfit hx (hQ _ _ s.toks hr)) hs'
theorem tLenList {l : Addr} {items : Array Value} {R : Value → Heap → Prop} (hl : h.IsList l items) (hfit : (items.size : Int) < 2 ^ 63) (hr : ∀ t, R (.int items.size t) h) : T (model prog w) A (call (.builtin "len") [.ref l]) h R :=
  fun s Q E hs hQ => by subst hs; exact PyProof.Rows.len_list hl hfit (hQ _ _ _ (hr _))
theorem tAppend {l : Addr} {items : Array Value} {x : Value} {R : Value → Heap → Prop} (hl : h.PlainList l items) (hsz : items.size ≤ sizeLine) (hr : ∀ h', h'.PlainList l (items.push x) → Heap.SameBut l h h' → R .none h') :
    T (model prog w) A (call (.builtin "list.append") [.ref l, x]) h R :=
  fun s Q E hs hQ => by subst hs; exact wpAny_list_append_plain hl (fun h' a b => hQ _ _ s.toks (hr h' a b)) hsz
theorem tIterList {l : Addr} {items : Array Value} {R : Value → Heap → Prop} (hl : h.IsList l items) (hr : R (.ref h.objs.size) (h.push { cls := .type "list_iterator", data := .fields #[.ref l, .int 0 0] })) :
    T (model prog w) A (pyIter (.ref l)) h R :=
  fun s Q E hs hQ => by subst hs; exact wpAny_pyIter_list hl (hQ _ _ s.toks hr)
theorem tNextItem {I l : Addr} {i : Nat} {items : Array Value} {x : Value} {R : Option Value → Heap → Prop} (hit : h.IsListIter I l i) (hl : h.IsList l items) (hx : items[i]? = some x)
    (hr : ∀ h', h'.IsListIter I l (i + 1) → Heap.SameBut I h h' → R (some x) h') : T (model prog w) A (pyNext (.ref I)) h R :=
  fun s Q E hs hQ => by subst hs; exact wpAny_pyNext_list_item hit hl hx fun h' a b => hQ _ _ s.toks (hr h' a b)
theorem tNextEnd {I l : Addr} {i : Nat} {items : Array Value} {R : Option Value → Heap → Prop} (hh : A.handled = none) (hit : h.IsListIter I l i) (hl : h.IsList l items) (hx : items[i]? = none)
    (hr : ∀ h', Heap.ExtBut I h h' → R none h') : T (model prog w) A (pyNext (.ref I)) h R :=
  fun s Q E hs hQ => by subst hs; exact wpAny_pyNext_list_end hh hit hl hx fun h' a => hQ _ _ s.toks (hr h' a)

/-! ### bytes -/
theorem tSubBytes {value slice : Expr} {l : List UInt8} {t : Tok} {k : Int} {u : Tok} {R : Value → Heap → Prop} (hfit : l.length ≤ 1099511627776) (h0 : 0 ≤ k) (h1 : k < l.length) (hr : ∀ t', R (.int (l.getD k.toNat 0).toNat t') h)
    (hs' : subscripted slice false (.bytes l.toArray t) (.int k u) = operate [.bytes l.toArray t, .int k u] (getItem (.bytes l.toArray t) (.int k u)) := by with_unfolding_all rfl) :
    T (model prog w) A (subscriptTail value slice (.bytes l.toArray t) (.int k u)) h R :=
  fun s Q E hs hQ => by subst hs; exact tail_any (PySem.W.typeIs_bytes s _ t) FB.slot_bytes_getitem.lookup (getItem_bytes hfit h0 h1 (hQ _ _ _ (hr _))) hs'
theorem tEqBytes {b c : Array UInt8} {t u : Tok} {R : Value → Heap → Prop} (hr : R (.bool (b.toList == c.toList)) h) : T (model prog w) A (compareOp .Eq (.bytes b t) (.bytes c u)) h R :=
  fun s Q E hs hQ => by subst hs; exact eq_bytes (hQ _ _ s.toks hr)
theorem tNeBytes {b c : Array UInt8} {t u : Tok} {R : Value → Heap → Prop} (hr : R (.bool (b.toList != c.toList)) h) : T (model prog w) A (compareOp .NotEq (.bytes b t) (.bytes c u)) h R :=
  fun s Q E hs hQ => by subst hs; exact ne_bytes (hQ _ _ s.toks hr)
theorem tLenBytes {b : Array UInt8} {t : Tok} {R : Value → Heap → Prop} (hfit : b.size ≤ 1099511627776) (hr : ∀ k, R (.int b.size k) h) : T (model prog w) A (call (.builtin "len") [.bytes b t]) h R :=
  fun s Q E hs hQ => by subst hs; exact len_bytes hfit (hQ _ _ _ (hr _))
theorem tIterBytes {b : Array UInt8} {t : Tok} {R : Value → Heap → Prop} (hr : R (.ref h.objs.size) (h.push { cls := .type "bytes_iterator", data := .fields #[.bytes b t, .int 0 0] })) : T (model prog w) A (pyIter (.bytes b t)) h R :=
  fun s Q E hs hQ => by subst hs; exact KBw.pyIter_bytes (hQ _ _ s.toks hr)
theorem tBytesInts {l : Addr} {vs : List Value} {ns : List Int} {R : Value → Heap → Prop} (hl : h.IsList l vs.toArray) (hi : IntsAre vs ns) (hb : ∀ n ∈ ns, 0 ≤ n ∧ n < 256) (hz : vs.length ≤ sizeLine) (hh : A.handled = none)
    (hr : ∀ h' t, Ext h h' → R (.bytes (byteArr ns) t) h') : T (model prog w) A (call (.type "bytes") [.ref l]) h R :=
  fun s Q E hs hQ => by subst hs; exact call_bytes_ints hl hi hb hz hh fun h' t k e => hQ _ _ _ (hr h' t e)

/-! ### ranges -/
theorem tIterRange {r : Addr} {a b c : Int} {t u v : Tok} {R : Value → Heap → Prop} (hg : IsRange h r a b c t u v) (hsmall : Builtin.Range.small a b c = true)
    (hr : R (.ref h.objs.size) (h.push { cls := .type "range_iterator", data := .fields #[rawInt a, rawInt (Builtin.Range.rangeSize a b c), rawInt c] })) : T (model prog w) A (pyIter (.ref r)) h R :=
  fun s Q E hs hQ => by subst hs; exact wpAny_pyIter_range hg hsmall (hQ _ _ s.toks hr)
theorem tNextRange {I : Addr} {x left step : Int} {R : Option Value → Heap → Prop} (hit : IsRangeIter h I x left step) (hleft : 0 < left)
    (hr : ∀ h' k, IsRangeIter h' I (x + step) (left - 1) step → Heap.SameBut I h h' → R (some (.int x k)) h') : T (model prog w) A (pyNext (.ref I)) h R :=
  fun s Q E hs hQ => by subst hs; exact wpAny_pyNext_range_item hit hleft fun h' a b => hQ _ _ _ (hr h' _ a b)
theorem tNextRangeEnd {I : Addr} {x left step : Int} {R : Option Value → Heap → Prop} (hh : A.handled = none) (hit : IsRangeIter h I x left step) (hleft : left ≤ 0)
    (hr : ∀ h', Heap.ExtBut I h h' → R none h') : T (model prog w) A (pyNext (.ref I)) h R :=
  fun s Q E hs hQ => by subst hs; exact wpAny_pyNext_range_end hh hit hleft fun h' a => hQ _ _ s.toks (hr h' a)

/-! ### methods -/
theorem tMethod {o : Expr} {name : Str} {apos pos : Pos} {args : List Expr} {R : Value → Heap → Prop}
    (H : T (model prog w) A (eval o env) h (fun ov h₁ => ∃ (ty id : String), PlainAttrs ty ∧ Slot ty name id ∧ typeOf (.builtin id) = pure (.type "method_descriptor") ∧ (∀ s : Shared, s.heap = h₁ → s.TypeIs ov ty) ∧
      (∀ a, ov = .ref a → ∃ ob, h₁.get? a = some ob ∧ ob.dict = none) ∧ T (model prog w) A (callWith pos (.builtin id) [ov] (backTo pos (starEach args env)) []) h₁ R))
    (hbase : attributeBase o name env (eval o env) = eval o env := by rfl)
    (hfew : ((backTo pos (starEach args env)).all (fun x => !x.1) && (backToKw pos (keywordEach [] env)).all (fun x => x.1.isSome)
      && decide (args.length + ([] : List Keyword).length + (if ([] : List Keyword).isEmpty then 0 else 1) < 30)) = true := by rfl)
    (hline : (apos.endLine == pos.line) = true := by rfl) : T (model prog w) A (eval (.Call (.Attribute o name apos) args [] pos) env) h R :=
  fun s Q E hs hQ => wpAny_Call_method_late (trees := backTo pos (starEach args env)) hbase hfew hline rfl (H s _ E hs fun ov h₁ k H1 => by
    obtain ⟨ty, id, pa, sl, hty, hT, hd, hc⟩ := H1
    exact ⟨ty, id, pa, sl, hty, hT _ rfl, hd, hc _ Q E rfl hQ⟩)
theorem tCallSelf {pos : Pos} {id : String} {self : Value} {e : Expr} {rest : List Expr} {R : Value → Heap → Prop}
    (H : T (model prog w) A (spliced (backTo pos (starEach (e :: rest) env))) h (fun vs h₁ => T (model prog w) A (call (.builtin id) (self :: vs)) h₁ R))
    (he : starEach (e :: rest) env = (false, eval e env) :: starEach rest env := by rfl) (hplain : (backTo pos (starEach rest env)).any (·.1) = false := by rfl) :
    T (model prog w) A (callWith pos (.builtin id) [self] (backTo pos (starEach (e :: rest) env)) []) h R :=
  fun s Q E hs hQ => by
    rw [he] at H ⊢
    exact Calls.callWith_builtin (by show (false || (backTo pos (starEach rest env)).any (·.1)) = false; rw [hplain]; rfl) (Calls.evalArgs_plain (H s _ E hs fun _ _ _ H1 => H1 _ Q E rfl hQ))
theorem tMethList {o : Expr} {name : Str} {apos pos : Pos} {args : List Expr} {id : String} {R : Value → Heap → Prop} (sl : Slot "list" name id) (hty : typeOf (.builtin id) = pure (.type "method_descriptor"))
    (H : T (model prog w) A (eval o env) h (fun ov h₁ => ∃ a items, ov = .ref a ∧ h₁.PlainList a items ∧ T (model prog w) A (callWith pos (.builtin id) [ov] (backTo pos (starEach args env)) []) h₁ R))
    (hbase : attributeBase o name env (eval o env) = eval o env := by rfl)
    (hfew : ((backTo pos (starEach args env)).all (fun x => !x.1) && (backToKw pos (keywordEach [] env)).all (fun x => x.1.isSome)
      && decide (args.length + ([] : List Keyword).length + (if ([] : List Keyword).isEmpty then 0 else 1) < 30)) = true := by rfl)
    (hline : (apos.endLine == pos.line) = true := by rfl) : T (model prog w) A (eval (.Call (.Attribute o name apos) args [] pos) env) h R :=
  tMethod (tMono H fun ov h₁ x => by
    obtain ⟨a, items, rfl, hp, hc⟩ := x
    refine ⟨"list", id, PySem.F.plainAttrs_list, sl, hty, fun s e => ?_, fun b e => ?_, hc⟩
    · subst e; exact hp.isList.typeIs
    · cases e; obtain ⟨n, e⟩ := hp; exact ⟨_, e, rfl⟩) hbase hfew hline

/-! ### a def of the text's is called -/
theorem tCallFn {f : Addr} {o : Obj} {fd : FuncData} {body : List Stmt} {args : List Value} {binds : List (Str × Value)} {R : Value → Heap → Prop}
    (hroom : A.depth < recursionLimit) (ho : h.get? f = some o) (hdata : o.data = .func fd) (hlim : h.NoLimit) (hcd : h.CodeRec fd.code fd.qualname)
    (hbody : fd.body = .stmts body) (hbind : ∀ s : Shared, s.heap = h → BindsTo s fd ⟨args, []⟩ binds)
    (hcell : ∀ x ∈ fd.scope.names, x.2 ≠ .cell) (hloc : ∀ x ∈ binds, fd.scope.names.lookup x.1 = some .local)
    (H : ∀ h₁, Fr h h.objs.size h₁ (fun x => binds.reverse.lookup x) →
      T (model prog w) (A.deeper (callEnv fd h.objs.size f)) (execs body (callEnv fd h.objs.size f)) h₁ (fun fl h' => R (match fl with | .ret v => v | _ => .none) h'))
    (hco : fd.scope.isCoroutine = false := by rfl) (hgen : fd.scope.isGenerator = false := by rfl) (hk : fd.scope.kind = .function := by rfl) :
    T (model prog w) A (call (.ref f) args) h R := fun s Q E hs hQ => by
  subst hs
  refine wpAny_call (codeAny_call_def hroom ho hdata hlim hcd hbody (hbind s rfl) hcell hloc (fun h₀ hns hk => ?_) hco hgen hk)
  exact H h₀ ⟨hns, hk, Nat.le_refl _⟩ _ _ _ rfl fun fl h' k hr => hQ _ h' k hr
theorem tCallFnC {f : Addr} {o : Obj} {fd : FuncData} {body : List Stmt} {args : List Value} {binds : List (Str × Value)} {R : Value → Heap → Prop}
    (hroom : A.depth < recursionLimit) (ho : h.get? f = some o) (hdata : o.data = .func fd) (hlim : h.NoLimit) (hcd : h.CodeRec fd.code fd.qualname)
    (hbody : fd.body = .stmts body) (hbind : bindArgs fd ⟨args, []⟩ = pure binds) (hclo : fd.closure = [])
    (hkind : ∀ x ∈ binds, fd.scope.names.lookup x.1 = some .local ∨ (fd.scope.names.lookup x.1 = some .cell ∧ ((cellsFrom (h.objs.size + 1) fd.scope.names []).lookup x.1).isSome = true))
    (H : ∀ h₁, Fr h h.objs.size h₁ (bindL (callEnvC fd h.objs.size f).kindOf binds fun _ => none) →
      (∀ n c, (callEnvC fd h.objs.size f).cells.lookup n = some c → h₁.IsCell c (bindC (callEnvC fd h.objs.size f).kindOf binds (fun _ => none) n)) →
      T (model prog w) (A.deeper (callEnvC fd h.objs.size f)) (execs body (callEnvC fd h.objs.size f)) h₁ (fun fl h' => R (match fl with | .ret v => v | _ => .none) h'))
    (hco : fd.scope.isCoroutine = false := by rfl) (hgen : fd.scope.isGenerator = false := by rfl) (hk : fd.scope.kind = .function := by rfl) :
    T (model prog w) A (call (.ref f) args) h R := fun s Q E hs hQ => by
  subst hs
  refine wpAny_call (codeAny_call_cells hroom ho hdata hlim hcd hbody hbind hclo hkind (fun s₁ x => ?_) hco hgen hk)
  obtain ⟨h₁, tk, rfl⟩ := x.toInCall.same
  exact H h₁ ⟨x.toInCall.ns, x.toInCall.keep, x.toInCall.fresh⟩ x.cell _ _ _ rfl fun fl h' k hr => hQ _ h' k hr

/-! ### loops -/
theorem cWhile {test body orelse} {R : Flow → Heap → Prop} (I : Nat → Heap → Prop)
    (turn : ∀ n h, I n h → T (model prog w) A (isTrue test env (eval test env)) h (fun b h₂ => if b then T (model prog w) A (execs body env) h₂ (fun f h₃ => f = .next ∧ ∃ m, m < n ∧ I m h₃) else T (model prog w) A (execs orelse env) h₂ R))
    (n : Nat) (hI : I n h) : C (model prog w) A (.whileLoop test body orelse env) h R := fun s P hs hP => by
  subst hs
  refine codeAny_whileLoop (fun n s' => I n s'.heap ∧ ∃ h' k, s' = { s with heap := h', toks := k }) (fun n s' hI => ?_) n ⟨hI, s.heap, s.toks, rfl⟩
  obtain ⟨hI, h', k, rfl⟩ := hI
  refine turn n h' hI _ _ _ rfl fun b h₂ k₂ H => ?_
  cases b with
  | false => exact H _ _ _ rfl fun f h₃ k₃ r => hP f h₃ k₃ r
  | true => exact H _ _ _ rfl fun f h₃ k₃ r => by obtain ⟨rfl, m, hm, hI⟩ := r; exact ⟨m, hm, hI, h₃, k₃, rfl⟩
theorem cFor {x : Str} {px : Pos} {it : Value} {body orelse} {R : Flow → Heap → Prop} (I : Nat → Heap → Prop)
    (turn : ∀ n h, I n h → T (model prog w) A (pyNext it) h (fun r h₁ => match r with
      | none => T (model prog w) A (execs orelse env) h₁ R
      | some v => T (model prog w) A (storeName env x v) h₁ (fun _ h₂ => T (model prog w) A (execs body env) h₂ (fun f h₃ => f = .next ∧ ∃ m, m < n ∧ I m h₃))))
    (n : Nat) (hI : I n h) : C (model prog w) A (.forLoop (.Name x px) it body orelse env) h R := fun s P hs hP => by
  subst hs
  refine codeAny_forLoop_any (fun n s' => I n s'.heap ∧ ∃ h' k, s' = { s with heap := h', toks := k }) (fun n s' hI => ?_) n ⟨hI, s.heap, s.toks, rfl⟩
  obtain ⟨hI, h', k, rfl⟩ := hI
  refine turn n h' hI _ _ _ rfl fun r h₁ k₁ H => ?_
  cases r with
  | none => exact H _ _ _ rfl fun f h₃ k₃ r => hP f h₃ k₃ r
  | some v =>
    refine wpAny_of_eq (a := ()) rfl ?_
    refine tAssignName (H) _ _ _ rfl fun _ h₂ k₂ H2 => ?_
    exact H2 _ _ _ rfl fun f h₃ k₃ r => by obtain ⟨rfl, m, hm, hI⟩ := r; exact ⟨m, hm, hI, h₃, k₃, rfl⟩
end
end Mine

namespace Mine

/-- what the text's own names say -/
structure Names (mg mb : Str → Option Value) : Prop where
  byteswap : mg "_byteswap" = some (.ref 21)
  insort : mg "insort_left" = some (.ref 30)
  bisect : mg "bisect_left" = some (.ref 39)
  then' : mg "_law_then" = some (.ref 44)
  has : mg "_law_has" = some (.ref 51)
  made : mg "_law_made" = some (.ref 58)
  drawn : mg "_law_drawn" = some (.ref 65)
  even : mg "_law_even" = some (.ref 70)
  turned : mg "_law_turned" = some (.ref 75)
  nbytes : mg "bytes" = none
  nbytearray : mg "bytearray" = none
  nlen : mg "len" = none
  nrange : mg "range" = none
  nlist : mg "list" = none
  nsorted : mg "sorted" = none
  ndict : mg "dict" = none
  bytes : mb "bytes" = some (.type "bytes")
  bytearray : mb "bytearray" = some (.type "bytearray")
  len : mb "len" = some (.builtin "len")
  range : mb "range" = some (.type "range")
  list : mb "list" = some (.type "list")
  sorted : mb "sorted" = some (.builtin "sorted")
  dict : mb "dict" = some (.type "dict")

structure Base (w : World) (mg mb : Str → Option Value) (h : Heap) : Prop where
  K : (hd.heap_39 w.params).In h
  g : h.Ns mainGlobals mg
  b : h.Ns builtinsNs mb
  lim : h.NoLimit
  N : Names mg mb
theorem Base.ext {w : World} {mg mb : Str → Option Value} {h h' : Heap} (B : Base w mg mb h) (e : Ext h h') : Base w mg mb h' :=
  ⟨B.K.keeps e, B.g.keeps e, B.b.keeps e, B.lim.keeps e, B.N⟩
theorem Base.of {w : World} {p : Program} {loose : List Str} {mg mb : Str → Option Value} {h : Heap} (X : (hd.heap_39 w.params).In h) (Tr : TopRead p loose mg mb h) : Base w mg mb h := by
  refine ⟨X, Tr.g, Tr.b, Tr.nolimit, ?_⟩
  have f : ∀ (n : Str) (v : Value), nsIn (hd.heap_39 w.params) mainGlobals n = some (some v) → mg n = some v := fun n v e => mg_of X Tr.g e
  have g : ∀ (n : Str), nsIn (hd.heap_39 w.params) mainGlobals n = some none → mg n = none := fun n e => mg_none_of X Tr.g e
  have b : ∀ (n : Str) (v : Value), n ≠ "__name__" → bootBuiltins n = some v → mb n = some v := fun n v hn e => (Tr.builtins n hn).trans e
  exact ⟨f _ _ (by kernel_rfl), f _ _ (by kernel_rfl), f _ _ (by kernel_rfl), f _ _ (by kernel_rfl), f _ _ (by kernel_rfl), f _ _ (by kernel_rfl), f _ _ (by kernel_rfl), f _ _ (by kernel_rfl), f _ _ (by kernel_rfl),
    g _ (by kernel_rfl), g _ (by kernel_rfl), g _ (by kernel_rfl), g _ (by kernel_rfl), g _ (by kernel_rfl), g _ (by kernel_rfl), g _ (by kernel_rfl),
    b _ _ (by decide) (by kernel_rfl), b _ _ (by decide) (by kernel_rfl), b _ _ (by decide) (by kernel_rfl), b _ _ (by decide) (by kernel_rfl), b _ _ (by decide) (by kernel_rfl), b _ _ (by decide) (by kernel_rfl), b _ _ (by decide) (by kernel_rfl)⟩
end Mine

namespace Mine

/-! ### the orders of four octets -/
def PLt : List (List UInt8) := [[0,1,2,3],[0,1,3,2],[0,2,1,3],[0,2,3,1],[0,3,1,2],[0,3,2,1],[1,0,2,3],[1,0,3,2],[1,2,0,3],[1,2,3,0],[1,3,0,2],[1,3,2,0],
  [2,0,1,3],[2,0,3,1],[2,1,0,3],[2,1,3,0],[2,3,0,1],[2,3,1,0],[3,0,1,2],[3,0,2,1],[3,1,0,2],[3,1,2,0],[3,2,0,1],[3,2,1,0]]
def PL (i : Nat) : List UInt8 := PLt.getD i [0,1,2,3]
abbrev bv (i : Nat) (t : Tok) : Value := .bytes (PL i).toArray t
theorem PL_length : ∀ i < 24, (PL i).length = 4 := by decide +kernel
theorem PL_lt : ∀ i < 24, ∀ j < 24, Builtin.Bytes.holds "__lt__" (Builtin.Bytes.order (PL i) (PL j)) = decide (i < j) := by decide +kernel
theorem PL_eq : ∀ i < 24, ∀ j < 24, (PL i == PL j) = (i == j) := by decide +kernel

def Ord1 (v : Value) (i : Nat) : Prop := i < 24 ∧ ∃ t, v = bv i t
abbrev Ords (vs : List Value) (is : List Nat) : Prop := Paired Ord1 vs is
theorem Ords.length {vs is} (o : Ords vs is) : vs.length = is.length := Paired.length o
theorem Ords.get {vs : List Value} {is : List Nat} (o : Ords vs is) : ∀ {k i : Nat}, is[k]? = some i → ∃ t, vs[k]? = some (bv i t) ∧ i < 24 := by
  induction o with
  | nil => intro k i e; simp at e
  | cons h1 _ ih =>
    intro k i e
    cases k with
    | zero => simp at e; subst e; obtain ⟨hi, t, rfl⟩ := h1; exact ⟨t, by simp, hi⟩
    | succ k => simp at e; simpa using ih e
theorem Ords.get' {vs : List Value} {is : List Nat} (o : Ords vs is) : ∀ {k : Nat} {v}, vs[k]? = some v → ∃ i, is[k]? = some i ∧ Ord1 v i := by
  induction o with
  | nil => intro k i e; simp at e
  | cons h1 _ ih =>
    intro k v e
    cases k with
    | zero => simp at e; subst e; exact ⟨_, by simp, h1⟩
    | succ k => simp at e; simpa using ih e
theorem Ords.lt {vs : List Value} {is : List Nat} (o : Ords vs is) : ∀ i ∈ is, i < 24 := by
  induction o with
  | nil => intro i e; simp at e
  | cons h1 _ ih => intro i e; rcases List.mem_cons.mp e with rfl | e; exact h1.1; exact ih i e
theorem Ords.append {a b : List Value} {c d : List Nat} (x : Ords a c) (y : Ords b d) : Ords (a ++ b) (c ++ d) := by
  induction x with
  | nil => exact y
  | cons h _ ih => exact .cons h ih
theorem Ords.take {a : List Value} {c : List Nat} (x : Ords a c) : ∀ k, Ords (a.take k) (c.take k) := by
  induction x with
  | nil => intro k; simp; exact .nil
  | cons h _ ih => intro k; cases k with
    | zero => exact .nil
    | succ k => exact .cons h (ih k)
theorem Ords.drop {a : List Value} {c : List Nat} (x : Ords a c) : ∀ k, Ords (a.drop k) (c.drop k) := by
  induction x with
  | nil => intro k; simp; exact .nil
  | cons h r ih => intro k; cases k with
    | zero => exact .cons h r
    | succ k => exact ih k

/-! ### bytes by < -/
namespace FB2
theorem slot_bytes_lt : Slot "bytes" (cmpInfo .Lt).2.1 "bytes.__lt__" :=
  .of (owner := "bytes") (n := "__lt__") (by rw [typeLookup_type, builtinLookup_eq_fast]; kernel_rfl) (by decide +kernel) (by decide +kernel) (by decide +kernel)
    (by first | exact .inl (by decide +kernel) | exact .inr (by decide +kernel)) (by rw [isSubtype_type]; kernel_rfl)
theorem entry_bytes_lt : entryFor table "bytes.__lt__" = some Builtin.«bytes.__lt__» := entryFor_of_tree (by kernel_rfl)
theorem args_bytes_lt (a b : Value) : argsOk "bytes.__lt__" ⟨[a, b], []⟩ := by unfold argsOk; kernel_rfl
theorem gives_bytes_lt (b c : Array UInt8) (t u : Tok) : Gives (Builtin.«bytes.__lt__» ⟨[.bytes b t, .bytes c u], []⟩) (.val (.bool (Builtin.Bytes.holds "__lt__" (Builtin.Bytes.order b.toList c.toList)))) := by
  refine .of_wp fun M A E s Q hq => ?_
  show wpAny M A (isInstance (.bytes c u) (.type "bytes") >>= fun r => _) _ E s
  refine wpAny_bind (wpAny_isInstance (PySem.W.typeIs_bytes s c u) PySem.F.bm_sub ?_)
  exact wpAny_pure ⟨_, rfl, hq⟩
end FB2
section
variable {prog : Program} {w : World} {A : Around} {env : Env} {h : Heap}
theorem tLtBytes {b c : Array UInt8} {t u : Tok} {R : Value → Heap → Prop} (hr : R (.bool (Builtin.Bytes.holds "__lt__" (Builtin.Bytes.order b.toList c.toList))) h) : T (model prog w) A (compareOp .Lt (.bytes b t) (.bytes c u)) h R :=
  fun s Q E hs hQ => by
    subst hs
    exact compareOp_gives (op := .Lt) (PySem.W.typeIs_bytes s b t) (PySem.W.typeIs_bytes s c u) FB2.slot_bytes_lt FB2.entry_bytes_lt (FB2.args_bytes_lt _ _) (FB2.gives_bytes_lt b c t u) (fun e => nomatch e) (hQ _ _ s.toks hr)
theorem tLtOrd {i j : Nat} {t u : Tok} {R : Value → Heap → Prop} (hi : i < 24) (hj : j < 24) (hr : R (.bool (decide (i < j))) h) : T (model prog w) A (compareOp .Lt (bv i t) (bv j u)) h R :=
  tLtBytes (by rw [List.toList_toArray, List.toList_toArray, PL_lt i hi j hj]; exact hr)
theorem tEqOrd {i j : Nat} {t u : Tok} {R : Value → Heap → Prop} (hi : i < 24) (hj : j < 24) (hr : R (.bool (i == j)) h) : T (model prog w) A (compareOp .Eq (bv i t) (bv j u)) h R :=
  tEqBytes (by rw [List.toList_toArray, List.toList_toArray, PL_eq i hi j hj]; exact hr)
theorem tNeOrd {i j : Nat} {t u : Tok} {R : Value → Heap → Prop} (hi : i < 24) (hj : j < 24) (hr : R (.bool (i != j)) h) : T (model prog w) A (compareOp .NotEq (bv i t) (bv j u)) h R :=
  tNeBytes (by rw [List.toList_toArray, List.toList_toArray, bne, PL_eq i hi j hj]; exact hr)
end

/-! ### what stands in a frame of one's own -/
inductive Ob where
  | list (xs : List Value)
  | cell (v : Option Value)
  | barr (b : List UInt8)
  | liter (l : Addr) (i : Nat)
  | riter (x left step : Int)
def Ob.At (h : Heap) (a : Addr) : Ob → Prop
  | .list xs => h.PlainList a xs.toArray
  | .cell v => h.IsCell a v
  | .barr b => h.get? a = some { cls := .type "bytearray", data := .bytearray b.toArray }
  | .liter l i => h.IsListIter a l i
  | .riter x l s => IsRangeIter h a x l s
theorem Ob.At.get {h : Heap} {a : Addr} : ∀ {b : Ob}, b.At h a → ∃ o, h.get? a = some o
  | .list _, ⟨_, e⟩ => ⟨_, e⟩
  | .cell _, ⟨o, e, _⟩ => ⟨o, e⟩
  | .barr _, e => ⟨_, e⟩
  | .liter _ _, ⟨o, e, _⟩ => ⟨o, e⟩
  | .riter _ _ _, e => ⟨_, e⟩
theorem Ob.At.at {h h' : Heap} {a : Addr} (k : ∀ o, h.get? a = some o → h'.get? a = some o) : ∀ {b : Ob}, b.At h a → b.At h' a
  | .list _, ⟨n, e⟩ => ⟨n, k _ e⟩
  | .cell _, ⟨o, e, r⟩ => ⟨o, k _ e, r⟩
  | .barr _, e => k _ e
  | .liter _ _, ⟨o, e, r⟩ => ⟨o, k _ e, r⟩
  | .riter _ _ _, e => k _ e
theorem Ob.At.ext {h h' : Heap} {a : Addr} {b : Ob} (x : b.At h a) (e : Ext h h') : b.At h' a := x.at fun o q => e a o q

/-- the frame L with the locals m over the heap h₀ at its entry, and what it has made -/
structure W (h₀ : Heap) (L : Addr) (m : Str → Option Value) (ow : List (Addr × Ob)) (h : Heap) : Prop where
  fr : Fr h₀ L h m
  own : ∀ p ∈ ow, p.2.At h p.1 ∧ p.1 ≠ L ∧ h₀.get? p.1 = none
  dis : ow.Pairwise fun p q => p.1 ≠ q.1
section
variable {h₀ h h' : Heap} {L : Addr} {m m' : Str → Option Value} {ow : List (Addr × Ob)} {a : Addr} {b b' : Ob}
theorem Fr.ext' (F : Fr h₀ L h m) (e : Ext h h') : Fr h₀ L h' m := ⟨F.ns.keeps e, fun x o q => e x o (F.keep x o q), F.above⟩
theorem W.keep (x : W h₀ L m ow h) : Ext h₀ h := x.fr.keep
theorem W.nil (F : Fr h₀ L h m) : W h₀ L m [] h := ⟨F, fun _ h => (nomatch h), .nil⟩
theorem W.ext (x : W h₀ L m ow h) (e : Ext h h') : W h₀ L m ow h' := ⟨Fr.ext' x.fr e, fun p hp => ⟨(x.own p hp).1.ext e, (x.own p hp).2⟩, x.dis⟩
theorem W.set (x : W h₀ L m ow h) (hn : h'.Ns L m') (hs : Heap.SameBut L h h') : W h₀ L m' ow h' :=
  ⟨x.fr.set hn hs, fun p hp => ⟨(x.own p hp).1.at fun o e => (hs.2 p.1 (x.own p hp).2.1).trans e, (x.own p hp).2⟩, x.dis⟩
theorem W.get (x : W h₀ L m ow h) (hp : (a, b) ∈ ow) : b.At h a := (x.own _ hp).1
theorem W.fresh (x : W h₀ L m ow h) (hp : (a, b) ∈ ow) : h₀.get? a = none := (x.own _ hp).2.2
theorem fresh_of {h₀ h : Heap} {a : Addr} (e : Ext h₀ h) (n : h.get? a = none) : h₀.get? a = none := by
  cases q : h₀.get? a with
  | none => rfl
  | some o => rw [e _ _ q] at n; cases n
theorem W.add (x : W h₀ L m ow h) (e : Ext h h') (n : h.get? a = none) (at' : b.At h' a) : W h₀ L m ((a, b) :: ow) h' := by
  refine ⟨Fr.ext' x.fr e, fun p hp => ?_, List.pairwise_cons.mpr ⟨fun q hq e' => ?_, x.dis⟩⟩
  · rcases List.mem_cons.mp hp with rfl | hp
    · refine ⟨at', fun q => ?_, fresh_of x.keep n⟩
      obtain ⟨o, es, ep, hL, _⟩ := x.fr.ns
      have q : a = L := q
      rw [q, hL] at n; cases n
    · exact ⟨(x.own p hp).1.ext e, (x.own p hp).2⟩
  · obtain ⟨o, ho⟩ := (x.own q hq).1.get
    have e' : a = q.1 := e'
    rw [e', ho] at n; cases n
theorem W.upd {pre post : List (Addr × Ob)} (x : W h₀ L m (pre ++ (a, b) :: post) h) (hs : Heap.ExtBut a h h') (at' : b'.At h' a) : W h₀ L m (pre ++ (a, b') :: post) h' := by
  have A := x.own (a, b) (by simp)
  have D := List.pairwise_append.mp x.dis
  have D2 := List.pairwise_cons.mp D.2.1
  refine ⟨⟨?_, fun y o q => hs y o (fun e => ?_) (x.fr.keep y o q), x.fr.above⟩, fun p hp => ?_, ?_⟩
  · exact x.fr.ns.extBut hs (Ne.symm A.2.1)
  · have := A.2.2; rw [← e, q] at this; cases this
  · rcases List.mem_append.mp hp with q | q
    · have P := x.own p (List.mem_append_left _ q)
      exact ⟨P.1.at fun o e => hs _ o (D.2.2 p q (a, b) (by simp)) e, P.2⟩
    · rcases List.mem_cons.mp q with rfl | q
      · exact ⟨at', A.2⟩
      · have P := x.own p (List.mem_append_right _ (.tail _ q))
        exact ⟨P.1.at fun o e => hs _ o (fun e' => D2.1 p q e'.symm) e, P.2⟩
  · refine List.pairwise_append.mpr ⟨D.1, List.pairwise_cons.mpr ⟨D2.1, D2.2⟩, fun p hp q hq => ?_⟩
    rcases List.mem_cons.mp hq with rfl | hq
    · exact D.2.2 p hp (a, b) (by simp)
    · exact D.2.2 p hp q (.tail _ hq)
theorem W.drop {pre post : List (Addr × Ob)} (x : W h₀ L m (pre ++ post) h) : W h₀ L m post h :=
  ⟨x.fr, fun p hp => x.own p (List.mem_append_right _ hp), (List.pairwise_append.mp x.dis).2.1⟩
end
end Mine

namespace Mine

theorem ifT {c : Bool} {P Q : Prop} (hc : c = true) (h : P) : if c = true then P else Q := by rw [if_pos hc]; exact h
theorem ifF {c : Bool} {P Q : Prop} (hc : c = false) (h : Q) : if c = true then P else Q := by rw [if_neg (by rw [hc]; decide)]; exact h

def bisGo (is : List Nat) (x : Nat) : Nat → Nat → Nat → Nat
  | 0, lo, _ => lo
  | f + 1, lo, hi => if lo < hi then (if is.getD ((lo + hi) / 2) 0 < x then bisGo is x f ((lo + hi) / 2 + 1) hi else bisGo is x f lo ((lo + hi) / 2)) else lo
def bis (is : List Nat) (x : Nat) : Nat := bisGo is x is.length 0 is.length
theorem bisGo_end (is : List Nat) (x : Nat) : ∀ f lo hi, hi ≤ lo → bisGo is x f lo hi = lo
  | 0, _, _, _ => rfl
  | f + 1, lo, hi, h => by rw [bisGo, if_neg (by omega)]
theorem bisGo_more (is : List Nat) (x : Nat) : ∀ f g lo hi, hi - lo ≤ f → hi - lo ≤ g → bisGo is x f lo hi = bisGo is x g lo hi
  | 0, g, lo, hi, h, _ => by rw [bisGo_end is x g lo hi (by omega)]; rfl
  | f + 1, 0, lo, hi, _, h => by rw [bisGo_end is x _ lo hi (by omega)]; rfl
  | f + 1, g + 1, lo, hi, h1, h2 => by
    rw [bisGo, bisGo]
    split
    · split
      · exact bisGo_more is x f g _ _ (by omega) (by omega)
      · exact bisGo_more is x f g _ _ (by omega) (by omega)
    · rfl
theorem bisGo_le (is : List Nat) (x : Nat) : ∀ f lo hi, lo ≤ hi → bisGo is x f lo hi ≤ hi
  | 0, lo, hi, h => h
  | f + 1, lo, hi, h => by
    rw [bisGo]
    split
    · split
      · exact bisGo_le is x f _ _ (by omega)
      · exact Nat.le_trans (bisGo_le is x f _ _ (by omega)) (by omega)
    · exact h
theorem bis_le (is : List Nat) (x : Nat) : bis is x ≤ is.length := bisGo_le is x _ _ _ (Nat.zero_le _)

section
variable {prog : Program} {w : World} {A : Around} {mg mb : Str → Option Value} {h : Heap}
theorem tSubN {value slice : Expr} {l : Addr} {vs : List Value} {n : Nat} {u : Tok} {x : Value} {R : Value → Heap → Prop} (hl : h.IsList l vs.toArray) (hfit : n < 2 ^ 60) (hx : vs[n]? = some x) (hr : R x h)
    (hs' : subscripted slice false (.ref l) (.int n u) = operate [.ref l, .int n u] (getItem (.ref l) (.int n u)) := by with_unfolding_all rfl) : T (model prog w) A (subscriptTail value slice (.ref l) (.int n u)) h R :=
  tSubList hl (by omega) (by omega) (by rw [Int.toNat_natCast, List.getElem?_toArray]; exact hx) hr hs'
set_option maxHeartbeats 1000000 in
theorem bisect_ok' (B : Base w mg mb h) (room : Room A 1) {args : List Value} {lk : Tok} {a : Addr} {vs : List Value} {is : List Nat} {i : Nat} {t : Tok} (hl : h.IsList a vs.toArray) (ho : Ords vs is) (hn : is.length ≤ 64) (hi : i < 24) {R : Value → Heap → Prop}
    (hargs : (args = [.ref a, bv i t] ∧ lk = 215) ∨ args = [.ref a, bv i t, .int 0 lk, .none]) (hr : ∀ h' t', Ext h h' → R (.int (bis is i) t') h') : T (model prog w) A (call (.ref 39) args) h R := by
  refine tCallFn (binds := [("a", .ref a), ("x", bv i t), ("lo", .int 0 lk), ("hi", .none), ("key", .none)]) room.depth (B.K 39 _ rfl) rfl B.lim (codeRec_of B.K (by kernel_rfl)) rfl (fun s e => kp_binds (e ▸ B.K) (fun S => by
    rcases hargs with ⟨rfl, rfl⟩ | rfl
    · kernel_rfl
    · kernel_rfl)) (by decide) (locs rfl) (fun h₁ F => ?_)
  have hlen := Ords.length ho
  refine tThen (tIf (tIsCmp (tLoc F.ns rfl (tInt fun t0 => tLt (tTruthyBool (ifF rfl (tDone ?_)))))))
  refine tThen (tIf (tIsCmp (tLoc F.ns rfl (tNone (tIsNone (tTruthyBool (ifT rfl ?_)))))))
  refine tThen (tAssign (tCall (tBlt (B.g.keeps F.keep) B.N.nlen (B.b.keeps F.keep) B.N.len (tCallBlt (tArgs (tLoc F.ns rfl (tArgs0 (tLenList (hl.at (F.keep _)) ?_ fun t1 => tStoreL F.ns fun h₂ n₂ s₂ => tDone ?_))))))))
  · simp; omega
  have F₂ := F.set n₂ s₂
  clear n₂ s₂ F
  refine tThen (tIf (tIsCmp (tLoc F₂.ns rfl (tNone (tIsNone (tTruthyBool (ifT rfl ?_)))))))
  refine tThen (tWhile (cWhile (fun n h' => ∃ (m' : Str → Option Value) (lo hi' : Nat) (t1 t2 : Tok), Fr h h.objs.size h' m' ∧ m' "a" = some (.ref a) ∧ m' "x" = some (bv i t) ∧ m' "lo" = some (.int lo t1) ∧ m' "hi" = some (.int hi' t2) ∧ hi' ≤ is.length ∧ n = hi' - lo ∧ bisGo is i n lo hi' = bis is i)
    ?_ is.length ⟨_, 0, is.length, _, _, F₂, rfl, rfl, rfl, by rw [← hlen]; simp; rfl, Nat.le_refl _, rfl, rfl⟩))
  rintro n h₃ ⟨m', lo, hi', t1, t2, F₃, ha, hx, hlo, hhi, hle, hn', hb⟩
  refine tIsCmp (tLoc F₃.ns hlo (tLoc F₃.ns hhi (tLt (tTruthyBool ?_))))
  by_cases hlt : lo < hi'
  · refine ifT (by simpa using hlt) ?_
    refine tThen (tAssign (tBinOp (tBinOp (tLoc F₃.ns hlo (tLoc F₃.ns hhi (tAdd fun t3 => tInt fun t4 => tDivI (by decide) (PyProof.noPylong_small (by omega)) fun t5 => tStoreL F₃.ns fun h₄ n₄ s₄ => ?_))))))
    have F₄ := F₃.set n₄ s₄
    clear n₄ s₄ F₃
    have e : ((lo : Int) + (hi' : Int)).fdiv 2 = (((lo + hi') / 2 : Nat) : Int) := by rw [Int.fdiv_eq_ediv_of_nonneg _ (by decide)]; omega
    rw [e] at F₄
    show T _ _ (execs _ _) _ _
    have hmid : (lo + hi') / 2 < is.length := by omega
    obtain ⟨u, hu, hu24⟩ := ho.get (k := (lo + hi') / 2) (List.getElem?_eq_getElem hmid)
    have hgd : is.getD ((lo + hi') / 2) 0 = is[(lo + hi') / 2] := by simp [hmid]
    have hn1 : n = (n - 1) + 1 := by omega
    rw [hn1, bisGo, if_pos hlt, hgd] at hb
    refine tThen (tIf (tIsCmp (tSub (tLoc F₄.ns ha (tLoc F₄.ns rfl (tSubN (hl.at (F₄.keep _)) (by omega) hu (tLoc F₄.ns hx (tLtOrd hu24 hi (tTruthyBool ?_)))))))))
    by_cases hc : is[(lo + hi') / 2] < i
    · refine ifT (by simpa using hc) ?_
      rw [if_pos hc] at hb
      refine tThen (tAssign (tBinOp (tLoc F₄.ns rfl (tInt fun t6 => tAdd fun t7 => tStoreL F₄.ns fun h₅ n₅ s₅ => tDone (tDone ⟨rfl, hi' - ((lo + hi') / 2 + 1), by omega, ?_⟩)))))
      have F₅ := F₄.set n₅ s₅
      exact ⟨_, (lo + hi') / 2 + 1, hi', _, _, F₅, ha, hx, rfl, hhi, hle, rfl, by rw [← hb]; exact bisGo_more is i _ _ _ _ (by omega) (by omega)⟩
    · refine ifF (by simpa using hc) ?_
      rw [if_neg hc] at hb
      refine tThen (tAssign (tLoc F₄.ns rfl (tStoreL F₄.ns fun h₅ n₅ s₅ => tDone (tDone ⟨rfl, (lo + hi') / 2 - lo, by omega, ?_⟩))))
      have F₅ := F₄.set n₅ s₅
      exact ⟨_, lo, (lo + hi') / 2, _, _, F₅, ha, hx, hlo, rfl, by omega, rfl, by rw [← hb]; exact bisGo_more is i _ _ _ _ (by omega) (by omega)⟩
  · refine ifF (by simpa using hlt) (tDone ?_)
    have e : bis is i = lo := by rw [← hb]; exact bisGo_end is i n lo hi' (by omega)
    show T _ _ (execs _ _) _ _
    refine tDone ?_
    show T _ _ (execs _ _) _ _
    refine tThen (tReturn (tLoc F₃.ns hlo ?_))
    rw [← e]
    exact hr _ _ F₃.keep
theorem bisect_ok (B : Base w mg mb h) (room : Room A 1) {a : Addr} {vs : List Value} {is : List Nat} {i : Nat} {t : Tok} (hl : h.IsList a vs.toArray) (ho : Ords vs is) (hn : is.length ≤ 64) (hi : i < 24) {R : Value → Heap → Prop}
    (hr : ∀ h' t', Ext h h' → R (.int (bis is i) t') h') : T (model prog w) A (call (.ref 39) [.ref a, bv i t]) h R := bisect_ok' B room hl ho hn hi (.inl ⟨rfl, rfl⟩) hr
end
end Mine

namespace Mine

section
variable {prog : Program} {w : World} {A : Around} {mg mb : Str → Option Value} {h : Heap}
/-! ### a built-in's own tree -/
/-- what a built-in's tree hands on -/
def Fo (M : Model) (A : Around) (R : Flow → Heap → Prop) (fin : Fin) (h' : Heap) : Prop := match fin with
  | .done f => R f h'
  | .again c' => c'.quiet = true ∧ C M A c' h' R
/-- a value comes back -/
def Rv (R : Value → Heap → Prop) (f : Flow) (h' : Heap) : Prop := match f with
  | .ret v => R v h'
  | _ => False
theorem cBuiltin {id : String} {b : Builtin} {args : Args} {R : Flow → Heap → Prop} (hb : entryFor table id = some b) (hp : plainId id = true)
    (H : T (model prog w) A.in1 (b args) h (Fo (model prog w) A R)) : C (model prog w) A (.builtin id args) h R := fun s P hs hP => by
  refine codeAny_builtin hb ?_
  rw [Around.under_plainId hp args]
  refine H s _ _ hs fun fin h' k r => ?_
  cases fin with
  | done f => exact hP f h' k r
  | again c' => exact ⟨r.1, r.2 _ _ rfl fun f h'' k' r' => hP f h'' k' r'⟩
theorem tCallB {ty : String} {name : Str} {id : String} {b : Builtin} {self : Value} {rest : List Value} {R : Value → Heap → Prop} (sl : Slot ty name id) (hT : ∀ s : Shared, s.heap = h → s.TypeIs self ty)
    (hb : entryFor table id = some b) (ha : argsOk id ⟨self :: rest, []⟩) (H : T (model prog w) A.in1 (b ⟨self :: rest, []⟩) h (Fo (model prog w) A (Rv R))) : T (model prog w) A (call (.builtin id) (self :: rest)) h R := fun s Q E hs hQ => by
  refine wpAny_call (codeAny_call_builtin sl.plain hb (sl.check _ _ _ _ _ _ _ _ (hT s hs) ha ?_))
  have fin : ∀ (f : Flow) (h' : Heap) (k : Tok), Rv R f h' → (match (Except.ok f : Result) with | .ok (.ret v) => Q v { s with heap := h', toks := k } | .ok _ => False | .error e => E e { s with heap := h', toks := k }) := by
    intro f h' k r
    cases f with
    | ret v => exact hQ _ _ _ r
    | _ => exact r.elim
  refine H s _ _ hs fun fin' h' k r => ?_
  cases fin' with
  | done f => exact fin f h' k r
  | again c' => exact ⟨r.1, r.2 _ _ rfl fun f h'' k' r' => fin f h'' k' r'⟩

theorem insArr (vs : List Value) (p : Nat) (k : Int) (hk : k = p) (x : Value) (hp : p ≤ vs.length) :
    (have k' := if k < 0 then (k + vs.toArray.size).toNat else min k.toNat vs.toArray.size
     (vs.toArray.extract 0 k').push x ++ vs.toArray.extract k' vs.toArray.size) = (vs.take p ++ x :: vs.drop p).toArray := by
  subst hk
  have h1 : ¬ ((p : Nat) : Int) < 0 := by omega
  simp only [if_neg h1, Int.toNat_natCast, List.size_toArray, Nat.min_eq_left hp]
  simp
  exact List.take_of_length_le (by simp)
theorem mapSeq_plain (f : Array Value → Array Value) (its : Array Value) (n : Nat) :
    ∃ n', Obj.mapSeq f { cls := .type "list", data := .seq its n } = { cls := .type "list", data := .seq (f its) n' } := ⟨_, rfl⟩

theorem small_line {n : Nat} (h : n ≤ 2000) : n ≤ sizeLine := by unfold sizeLine; omega
theorem fits_small {k : Int} {p : Nat} (hk : k = p) (hp : p ≤ 1000) : Builtin.List.listFitsIndex k = true := by simp only [Builtin.List.listFitsIndex, Bool.and_eq_true, decide_eq_true_eq]; omega
theorem plainTy {l : Addr} {items : Array Value} (hl : h.PlainList l items) : ∀ s : Shared, s.heap = h → s.TypeIs (.ref l) "list" := fun s e => by subst e; exact hl.isList.typeIs
theorem updPlain {l : Addr} {items its' : Array Value} {f : Array Value → Array Value} {n : Nat} (ho : h.get? l = some { cls := .type "list", data := .seq items n }) (he : f items = its') : (h.update l (Obj.mapSeq f)).PlainList l its' := by
  obtain ⟨n', e⟩ := mapSeq_plain f items n
  exact ⟨n', by rw [Heap.get?_update_self _ ho (by rw [e]; rfl), e, he]⟩
theorem tInsert {l : Addr} {vs : List Value} {p : Nat} {k : Int} {t : Tok} {x : Value} {R : Value → Heap → Prop} (hl : h.PlainList l vs.toArray) (hk : k = p) (hp : p ≤ vs.length) (hsz : vs.length ≤ 1000)
    (hr : ∀ h', h'.PlainList l (vs.take p ++ x :: vs.drop p).toArray → Heap.SameBut l h h' → R .none h') : T (model prog w) A (call (.builtin "list.insert") [.ref l, .int k t, x]) h R := fun s Q E hs hQ => by
  subst hs
  have hf := fits_small hk (by omega)
  obtain ⟨n, ho⟩ := id hl
  refine call_meets PySem.F.slot_list_insert hl.isList.typeIs PySem.F.entry_list_insert (PySem.F.args_list_insert_3 _ _ _) (PySem.AutoSeq1.list_insert_list_int_val_1 l _ n k t x (by rw [hf]; decide) (by rw [List.size_toArray]; exact small_line (by omega))) ⟨ho, ?_⟩
  exact hQ _ _ _ (hr _ (updPlain ho (insArr vs p k hk x hp)) (Heap.SameBut.update ..))
theorem tPop {l : Addr} {vs : List Value} {p : Nat} {k : Int} {t : Tok} {x : Value} {R : Value → Heap → Prop} (hl : h.PlainList l vs.toArray) (hk : k = p) (hx : vs[p]? = some x) (hsz : vs.length ≤ 1000)
    (hr : ∀ h', h'.PlainList l (vs.eraseIdx p).toArray → Heap.SameBut l h h' → R x h') : T (model prog w) A (call (.builtin "list.pop") [.ref l, .int k t]) h R := fun s Q E hs hQ => by
  subst hs
  have hlt : p < vs.length := by
    rcases Nat.lt_or_ge p vs.length with h | h
    · exact h
    · rw [List.getElem?_eq_none h] at hx; cases hx
  have hf := fits_small hk (by omega)
  obtain ⟨n, ho⟩ := id hl
  have hsi : seqIndex? k vs.toArray.size = some p := by subst hk; simp [seqIndex?]; omega
  refine call_meets PySem.F.slot_list_pop hl.isList.typeIs PySem.F.entry_list_pop (PySem.F.args_list_pop_2 _ _) (PySem.MeetsSeq.list_pop_at l _ n k t p x hf hsi (by simpa using hx) (by rw [List.size_toArray]; exact small_line (by omega))) ⟨ho, ?_⟩
  refine hQ _ _ s.toks (hr _ (updPlain ho ?_) (Heap.SameBut.update ..))
  simp [Array.eraseIdxIfInBounds, hlt]
end
end Mine

namespace Mine

section
variable {prog : Program} {w : World} {A : Around} {env : Env} {h : Heap}

/-- a source that is walked -/
structure Src (prog : Program) (w : World) (A : Around) (I : Addr) (wr : List Addr) (n : Nat) (P : Nat → Value → Prop) (h : Heap) : Prop where
  go : ∃ fp St, Walks prog w A I fp wr n P St ∧ St 0 h ∧ ∀ b ∈ fp, b < h.objs.size

theorem tComp {elt iter : Expr} {x : Str} {px : Pos} {ifs : List Expr} {scope : Scope} {cl : List (Str × Addr)} {pos : Pos} {R : Value → Heap → Prop} (p : Value → Bool) (F : Value → Value → Prop)
    (hclos : closureFor scope env = pure cl) (hcell : ∀ y ∈ scope.names, y.2 ≠ .cell) (hkind : scope.kind = .function)
    (hnames : ∀ y ∈ scope.names, y.2 = .local → scope.names.lookup y.1 = some .local) (hx : scope.names.lookup x = some .local)
    (H : T (model prog w) A (eval iter env) h (fun xv h₁ => T (model prog w) A (pyIter xv) h₁ (fun it h₂ => ∃ I wr n P, it = .ref I ∧ Src prog w A I wr n P h₂ ∧ n ≤ sizeLine ∧
      (∀ C i v h₃ m₃, h₂.objs.size ≤ C → P i v → h₃.Ns C m₃ → m₃ x = some v → (∀ b o, b ∉ wr → h₂.get? b = some o → h₃.get? b = some o) →
        T (model prog w) A (forIn ifs true fun c r => if r = true then do let ok ← isTrue c (compEnvC scope cl C env) (eval c (compEnvC scope cl C env)); pure (ForInStep.yield ok) else pure (ForInStep.yield r)) h₃ (fun ok h₄ => ok = p v ∧ Ext h₃ h₄)) ∧
      (∀ C i v h₃ m₃, h₂.objs.size ≤ C → P i v → p v = true → h₃.Ns C m₃ → m₃ x = some v → (∀ b o, b ∉ wr → h₂.get? b = some o → h₃.get? b = some o) →
        T (model prog w) A (eval elt (compEnvC scope cl C env)) h₃ (fun y h₄ => F v y ∧ Ext h₃ h₄)) ∧
      (∀ D h' (ys vs : List Value), h₂.get? D = none → h'.PlainList D ys.toArray → vs.length = n → (∀ j v, vs[j]? = some v → P j v) → Paired F (vs.filter p) ys →
        (∀ b o, b ∉ wr → h₂.get? b = some o → h'.get? b = some o) → R (.ref D) h'))))
    (hs' : ∀ x, foldedSetIterable iter env x = pure x := by intro _; rfl) :
    T (model prog w) A (eval (.ListComp elt [⟨.Name x px, iter, ifs, 0⟩] scope pos) env) h R := fun s Q E hs hQ => by
  refine wpAny_ListComp_free p F hclos hcell hkind hnames hx (H s _ E hs fun xv h₁ k₁ H1 => H1 _ _ E rfl fun it h₂ k₂ H2 => ?_) hs'
  obtain ⟨I, wr, n, P, rfl, ⟨fp, St, Wk, st, hfp⟩, hn, hT, hE, hR⟩ := H2
  refine ⟨I, fp, wr, n, P, St, rfl, Wk, hn, st, hfp, ⟨?_, ?_⟩, ?_⟩
  · intro C i v s₃ m₃ E' hC hP hns hm hk _
    exact hT C i v s₃.heap m₃ hC hP hns hm hk s₃ _ E' rfl fun ok h₄ k₄ r => ⟨r.1, h₄, k₄, rfl, r.2⟩
  · intro C i v s₃ m₃ E' hC hP hpv hns hm hk _
    exact hE C i v s₃.heap m₃ hC hP hpv hns hm hk s₃ _ E' rfl fun y h₄ k₄ r => ⟨r.1, h₄, k₄, rfl, r.2⟩
  · intro D h' tk ys vs hD _ hpl hlen hP hF hk
    exact hQ _ _ _ (hR D h' ys.toList vs hD (by simpa using hpl) hlen hP hF hk)
theorem tests_nil {A : Around} {h : Heap} {f : Expr → Bool → Sem (ForInStep Bool)} {p : Bool} (hp : p = true) : T (model prog w) A (forIn ([] : List Expr) true f) h (fun ok h₄ => ok = p ∧ Ext h h₄) := by
  rw [List.forIn_nil]
  exact tRet ⟨hp.symm, Ext.refl h⟩
theorem tests_one {A : Around} {h : Heap} {c : Expr} {env : Env} {p : Bool} (H : T (model prog w) A (isTrue c env (eval c env)) h (fun ok h₄ => ok = p ∧ Ext h h₄)) :
    T (model prog w) A (forIn [c] true fun c r => if r = true then do let ok ← isTrue c env (eval c env); pure (ForInStep.yield ok) else pure (ForInStep.yield r)) h (fun ok h₄ => ok = p ∧ Ext h h₄) := by
  rw [List.forIn_cons, if_pos rfl]
  refine tBind (tBind (tMono H fun ok h₄ r => tRet ?_))
  show T _ _ (forIn ([] : List Expr) ok _) _ _
  rw [List.forIn_nil]
  exact tRet r

/-! ### sources -/
theorem fresh_size (h : Heap) : h.get? h.objs.size = none := by
  cases q : h.get? h.objs.size with
  | none => rfl
  | some o => exact absurd (Heap.lt_size q) (Nat.lt_irrefl _)
theorem src_bytes (hh : A.handled = none) (b : List UInt8) (t : Tok) (h : Heap) :
    Src prog w A h.objs.size [h.objs.size] b.length (fun i v => ∃ c u, b[i]? = some c ∧ v = .int (c.toNat : Int) u) (h.push { cls := .type "bytes_iterator", data := .fields #[.bytes b.toArray t, .int 0 0] }) := by
  have W := KBw.walks (prog := prog) (w := w) hh h.objs.size b.toArray t
  simp only [List.size_toArray, List.getElem?_toArray] at W
  refine ⟨[h.objs.size], _, W, ?_, ?_⟩
  · exact ⟨_, Heap.get?_push_size _ rfl, rfl, rfl⟩
  · intro b hb; rw [List.mem_singleton.mp hb, Heap.size_push]; exact Nat.lt_succ_self _
theorem src_list (hh : A.handled = none) {l : Addr} {vs : List Value} {h : Heap} (hl : h.IsList l vs.toArray) :
    Src prog w A h.objs.size [h.objs.size] vs.length (fun i v => vs[i]? = some v) (h.push { cls := .type "list_iterator", data := .fields #[.ref l, .int 0 0] }) := by
  obtain ⟨ol, hol, _⟩ := id hl
  have hlt : l < h.objs.size := Heap.lt_size hol
  have W := Walks.list (prog := prog) (w := w) hh h.objs.size l (Nat.ne_of_lt hlt) vs.toArray
  simp only [List.size_toArray, List.getElem?_toArray] at W
  refine ⟨[h.objs.size, l], _, W, ⟨⟨_, Heap.get?_push_size _ rfl, rfl, rfl⟩, hl.push _⟩, ?_⟩
  intro b hb
  rw [Heap.size_push]
  rcases List.mem_cons.mp hb with rfl | hb
  · exact Nat.lt_succ_self _
  · rw [List.mem_singleton.mp hb]; exact Nat.lt_succ_of_lt hlt
theorem src_range (hh : A.handled = none) (n : Nat) (h : Heap) :
    Src prog w A h.objs.size [h.objs.size] n (fun i v => ∃ t, v = .int (i : Int) t) (h.push { cls := .type "range_iterator", data := .fields #[rawInt 0, rawInt (n : Int), rawInt 1] }) := by
  have W := Walks.range (prog := prog) (w := w) hh h.objs.size 0 1 n
  simp only [Int.mul_one, Int.zero_add] at W
  refine ⟨[h.objs.size], _, W, ?_, ?_⟩
  · simpa using Heap.get?_push_size h (o := { cls := .type "range_iterator", data := .fields #[rawInt 0, rawInt (n : Int), rawInt 1] }) rfl
  · intro b hb; rw [List.mem_singleton.mp hb, Heap.size_push]; exact Nat.lt_succ_self _
end
end Mine

namespace Mine

def MT : Nat := 5490304049447100748220118883508891959386240264978256434489773072100789438816824962324681578241781526841022231419034451894349668648117850588599978293249585457824129718629319511687591053171798699276830995035668295714496070267063557201629931406101063569958159862973440774875867212393596808629525269022473925270245992122564507572184515317621691022830178636663910619558832759358382054739135270923685144166912178344256875178813959987031676548746591976623925108299743924044688870769454103477745227402707877222448113677080525999376421450246378972270253002793416326557231935314264962009672653450638580424149432310122714074681050104988239312464674358719467297653054884931577629673406664104079712933138379202034971849512787739305612220244255930622458887607621380029632849628377849614449931925833405437491985333425860324996437622318364700567002005281251262128368213203789908000
def mul (i j : Nat) : Nat := (MT >>> (5 * (24 * i + j))) % 32
theorem mul_PL : ∀ i < 24, ∀ j < 24, ((PL i).map fun c => (PL j).getD c.toNat 0) = PL (mul i j) := by decide +kernel
theorem mul_lt : ∀ i < 24, ∀ j < 24, mul i j < 24 := by decide +kernel
theorem PL_small : ∀ i < 24, ∀ c ∈ PL i, c.toNat < 4 := by decide +kernel

theorem ints_of : ∀ {ys : List Value} {ns : List Int}, ys.length = ns.length → (∀ (k : Nat) n, ns[k]? = some n → ∃ t, ys[k]? = some (.int n t)) → IntsAre ys ns
  | [], [], _, _ => .nil
  | y :: ys, n :: ns, hl, h => by
    obtain ⟨t, e⟩ := h 0 n rfl
    cases e
    exact .cons n t (ints_of (by simpa using hl) fun k n e => h (k + 1) n e)
theorem paired_get {F : Value → Value → Prop} {vs ys : List Value} (hF : Paired F vs ys) : ∀ {j : Nat} {v}, vs[j]? = some v → ∃ y, ys[j]? = some y ∧ F v y := by
  induction hF with
  | nil => intro j v e; simp at e
  | cons h _ ih =>
    intro j v e
    cases j with
    | zero => simp at e; subst e; exact ⟨_, rfl, h⟩
    | succ j => exact ih (by simpa using e)
theorem pair_all {F : Value → Value → Prop} {P : Nat → Value → Prop} {vs ys : List Value} {n : Nat} (hlen : vs.length = n) (hP : ∀ j v, vs[j]? = some v → P j v) (hF : Paired F (vs.filter fun _ => true) ys) :
    ys.length = n ∧ ∀ j, j < n → ∃ v y, ys[j]? = some y ∧ P j v ∧ F v y := by
  have e : vs.filter (fun _ => true) = vs := List.filter_eq_self.mpr fun _ _ => rfl
  rw [e] at hF
  refine ⟨hF.length.symm.trans hlen, fun j hj => ?_⟩
  have hv : vs[j]? = some (vs[j]'(by omega)) := List.getElem?_eq_getElem _
  obtain ⟨y, hy, f⟩ := paired_get hF hv
  exact ⟨_, y, hy, hP j _ hv, f⟩
theorem all1 {α : Type} {P : α → Prop} {a : α} (ha : P a) : ∀ x ∈ [a], P x := fun x hx => by rw [List.mem_singleton.mp hx]; exact ha
theorem all2 {α : Type} {P : α → Prop} {a b : α} (ha : P a) (hb : P b) : ∀ x ∈ [a, b], P x := fun x hx => by
  rcases List.mem_cons.mp hx with rfl | hx
  · exact ha
  · exact all1 hb x hx
theorem u8_inj {a b : UInt8} (h : (a.toNat : Int) = (b.toNat : Int)) : a = b := UInt8.toNat_inj.mp (by omega)
theorem byteArr_u8 (l : List UInt8) (g : UInt8 → UInt8) : byteArr (l.map fun c => ((g c).toNat : Int)) = (l.map g).toArray := by
  unfold byteArr
  congr 1
  rw [List.map_map]
  refine List.map_congr_left fun c _ => ?_
  show (((g c).toNat : Int)).toNat.toUInt8 = g c
  rw [Int.toNat_natCast]
  exact UInt8.ofNat_toNat

section
variable {prog : Program} {w : World} {A : Around} {mg mb : Str → Option Value} {h : Heap}
theorem Base.glo (B : Base w mg mb h) {x : Str} {v : Value} (e : mg x = some v) {M : Model} {A : Around} {env : Env} {pos : Pos} {R : Value → Heap → Prop} (hr : R v h) (hg : env.globals = mainGlobals := by rfl) (hk : env.scope.kind = .function := by rfl)
    (hl : env.kindOf x = some .globalImplicit := by rfl) (hd : (x == ("__debug__" : Str)) = false := by decide) : T M A (eval (.Name x pos) env) h R := tGlo (hg ▸ B.g) e hr hk hl hd
theorem Base.blt (B : Base w mg mb h) {x : Str} {v : Value} (e : mg x = none) (e' : mb x = some v) {M : Model} {A : Around} {env : Env} {pos : Pos} {R : Value → Heap → Prop} (hr : R v h) (hg : env.globals = mainGlobals := by rfl) (hb : env.builtins = builtinsNs := by rfl)
    (hk : env.scope.kind = .function := by rfl) (hl : env.kindOf x = some .globalImplicit := by rfl) (hd : (x == ("__debug__" : Str)) = false := by decide) : T M A (eval (.Name x pos) env) h R := tBlt (hg ▸ B.g) e (hb ▸ B.b) e' hr hk hl hd

set_option maxHeartbeats 1000000 in
theorem then_ok (B : Base w mg mb h) (room : Room A 1) {i j : Nat} {t u : Tok} (hi : i < 24) (hj : j < 24) {R : Value → Heap → Prop}
    (hr : ∀ h' t', Ext h h' → R (bv (mul i j) t') h') : T (model prog w) A (call (.ref 44) [bv i t, bv j u]) h R := by
  refine tCallFnC (binds := [("one", bv i t), ("other", bv j u)]) room.depth (B.K 44 _ rfl) rfl B.lim (codeRec_of B.K (by kernel_rfl)) rfl (by kernel_rfl) rfl (all2 (.inl rfl) (.inr ⟨rfl, rfl⟩)) (fun h₁ F hc => ?_)
  have hcell : h₁.IsCell (h.objs.size + 1) (some (bv j u)) := hc "other" _ rfl
  have B₁ := B.ext F.keep
  refine tThen (tReturn (tCall (B₁.blt B.N.nbytes B.N.bytes (tCallTy (tArgs (tComp (fun _ => true) (fun v y => ∃ (c : UInt8) (t u : Tok), v = .int c.toNat t ∧ y = .int ((PL j).getD c.toNat 0).toNat u)
    rfl (by decide) rfl (by decide) rfl (tLoc F.ns rfl (tIterBytes ?_))))))))
  have h4 := PL_length i hi
  refine ⟨_, _, _, _, rfl, src_bytes room.deeper.handled (PL i) t h₁, h4 ▸ (by decide), fun C k v h₃ m₃ hC hP hns hm hk => tests_nil rfl, ?_, ?_⟩
  · rintro C k v h₃ m₃ hC ⟨c, u', hcu, rfl⟩ _ hns hm hk
    have hlt : h.objs.size + 1 < h₁.objs.size := hcell.lt
    have hc3 : h₃.IsCell (h.objs.size + 1) (some (bv j u)) := by
      obtain ⟨o, ho, hd⟩ := hcell
      exact ⟨o, hk _ o (fun hm => Nat.ne_of_lt hlt (List.mem_singleton.mp hm)) (Heap.get?_push_of_some _ ho), hd⟩
    have hcm : c.toNat < 4 := PL_small i hi c (List.mem_of_getElem? hcu)
    refine tSub (tCell (c := h.objs.size + 1) rfl hc3 (tLoc hns hm (tSubBytes (by rw [PL_length j hj]; decide) (by omega) (by rw [PL_length j hj]; omega) fun t' => ⟨⟨c, u', t', rfl, ?_⟩, Ext.refl _⟩)))
    rw [Int.toNat_natCast]
  · intro D h' ys vs hD hpl hlen hP hF hk
    obtain ⟨hyl, hy⟩ := pair_all hlen hP hF
    refine tArgs0 (tBytesInts (ns := (PL i).map fun c => (((PL j).getD c.toNat 0).toNat : Int)) hpl.isList (ints_of (by simp [hyl]) fun k n hn => ?_) ?_ (by rw [hyl, h4]; decide) room.deeper.handled fun h'' t'' e => ?_)
    · have hkl : k < (PL i).length := by
        rcases Nat.lt_or_ge k (PL i).length with q | q
        · exact q
        · rw [List.getElem?_eq_none (by simpa using q)] at hn; cases hn
      obtain ⟨v, y, hyk, ⟨c, u', hcu, rfl⟩, ⟨c', t', u'', hv, rfl⟩⟩ := hy k hkl
      cases (Value.int.inj hv).1 |> u8_inj
      rw [List.getElem?_map, hcu] at hn
      cases hn
      exact ⟨_, hyk⟩
    · intro n hn
      obtain ⟨c, _, rfl⟩ := List.mem_map.mp hn
      have := ((PL j).getD c.toNat 0).toNat_lt
      omega
    · rw [byteArr_u8 (PL i) fun c => (PL j).getD c.toNat 0, mul_PL i hi j hj]
      exact hr _ _ (Ext.trans F.keep fun b o q => e b o (hk b o (by simp; exact Nat.ne_of_lt (Heap.lt_size q)) (Heap.get?_push_of_some _ q)))
end
end Mine

namespace Mine

def hasL (is : List Nat) (i : Nat) : Bool := decide (bis is i < is.length) && (is.getD (bis is i) 24 == i)
def insL (is : List Nat) (i : Nat) : List Nat := is.take (bis is i) ++ i :: is.drop (bis is i)

section
variable {prog : Program} {w : World} {A : Around} {mg mb : Str → Option Value} {h : Heap}
set_option maxHeartbeats 1000000 in
theorem has_ok (B : Base w mg mb h) (room : Room A 2) {a : Addr} {vs : List Value} {is : List Nat} {i : Nat} {t : Tok} (hl : h.IsList a vs.toArray) (ho : Ords vs is) (hn : is.length ≤ 64) (hi : i < 24) {R : Value → Heap → Prop}
    (hr : ∀ h', Ext h h' → R (.bool (hasL is i)) h') : T (model prog w) A (call (.ref 51) [.ref a, bv i t]) h R := by
  refine tCallFn (binds := [("order", .ref a), ("one", bv i t)]) room.depth (B.K 51 _ rfl) rfl B.lim (codeRec_of B.K (by kernel_rfl)) rfl (fun s e => .of_eq (by kernel_rfl)) (by decide) (locs rfl) (fun h₁ F => ?_)
  have hlen := Ords.length ho
  have B₁ := B.ext F.keep
  refine tThen (tAssign (tCall (B₁.glo B.N.bisect (tCallDef rfl (tArgs (tLoc F.ns rfl (tArgs (tLoc F.ns rfl (tArgs0 ⟨B₁.K 39 _ rfl, bisect_ok B₁ room.deeper (hl.at (F.keep _)) ho hn hi fun h₂ t₂ e₂ => ?_⟩)))))))))
  have F₂ := Fr.ext' F e₂
  refine tStoreL F₂.ns fun h₃ n₃ s₃ => ?_
  have F₃ := F₂.set n₃ s₃
  clear F₂ n₃ s₃
  have hl₃ := hl.at (F₃.keep _)
  have B₃ := B.ext F₃.keep
  show T _ _ (execs _ _) _ _
  refine tThen (tReturn (tAnd2 (tCmp (tLoc F₃.ns rfl (tCall (B₃.blt B.N.nlen B.N.len (tCallBlt (tArgs (tLoc F₃.ns rfl (tArgs0 (tLenList hl₃ (by simp; omega) fun t₃ => tLt (tTruthyBool ?_))))))))))))
  by_cases hlt : bis is i < is.length
  · refine ifT (by simpa [hlen] using hlt) ?_
    obtain ⟨u, hu, hu24⟩ := ho.get (k := bis is i) (List.getElem?_eq_getElem hlt)
    refine tCmp (tSub (tLoc F₃.ns rfl (tLoc F₃.ns rfl (tSubN hl₃ (by omega) hu (tLoc F₃.ns rfl (tEqOrd hu24 hi ?_))))))
    have := hr h₃ F₃.keep
    simpa [hasL, hlt] using this
  · refine ifF (by simpa [hlen] using hlt) ?_
    have := hr h₃ F₃.keep
    simpa [hasL, hlt, hlen] using this

set_option maxHeartbeats 1000000 in
theorem insort_ok (B : Base w mg mb h) (room : Room A 2) {a : Addr} {vs : List Value} {is : List Nat} {i : Nat} {t : Tok} (hl : h.PlainList a vs.toArray) (ho : Ords vs is) (hn : is.length ≤ 64) (hi : i < 24) {R : Value → Heap → Prop}
    (hr : ∀ h' vs', Heap.ExtBut a h h' → h'.PlainList a vs'.toArray → Ords vs' (insL is i) → R .none h') : T (model prog w) A (call (.ref 30) [.ref a, bv i t]) h R := by
  refine tCallFn (binds := [("a", .ref a), ("x", bv i t), ("lo", .int 0 202), ("hi", .none), ("key", .none)]) room.depth (B.K 30 _ rfl) rfl B.lim (codeRec_of B.K (by kernel_rfl)) rfl (fun s e => kp_binds (e ▸ B.K) (fun S => by kernel_rfl)) (by decide) (locs rfl) (fun h₁ F => ?_)
  have hlen := Ords.length ho
  have B₁ := B.ext F.keep
  refine tThen (tIf (tIsCmp (tLoc F.ns rfl (tNone (tIsNone (tTruthyBool (ifT rfl ?_)))))))
  refine tThen (tAssign (tCall (B₁.glo B.N.bisect (tCallDef rfl (tArgs (tLoc F.ns rfl (tArgs (tLoc F.ns rfl (tArgs (tLoc F.ns rfl (tArgs (tLoc F.ns rfl (tArgs0 ⟨B₁.K 39 _ rfl, bisect_ok' B₁ room.deeper (hl.isList.at (F.keep _)) ho hn hi (.inr rfl) fun h₂ t₂ e₂ => ?_⟩)))))))))))))
  have F₂ := Fr.ext' F e₂
  refine tStoreL F₂.ns fun h₃ n₃ s₃ => ?_
  have F₃ := F₂.set n₃ s₃
  clear F₂ n₃ s₃
  have hl₃ := hl.at (F₃.keep _)
  refine tDone ?_
  show T _ _ (execs _ _) _ _
  refine tThen (tExpr (tMethList PySem.F.slot_list_insert PySem.F.type_list_insert (tLoc F₃.ns rfl ⟨a, _, rfl, hl₃, tCallSelf (tArgs (tLoc F₃.ns rfl (tArgs (tLoc F₃.ns rfl (tArgs0 (tInsert hl₃ rfl (by rw [hlen]; exact bis_le is i) (by omega) fun h₄ p₄ s₄ => ?_))))))⟩)))
  show T _ _ (execs _ _) _ _
  refine tDone ?_
  refine hr h₄ _ (fun b o hb e => s₄.extBut b o hb (F₃.keep b o e)) p₄ ?_
  exact Ords.append (ho.take _) (.cons ⟨hi, t, rfl⟩ (ho.drop _))
end
end Mine

namespace Mine

namespace FR
theorem noBytes : typeLookup (.type "range") "__bytes__" = pure none := by rw [typeLookup_type, builtinLookup_eq_fast]; kernel_rfl
theorem noIndex : typeLookup (.type "range") "__index__" = pure none := by rw [typeLookup_type, builtinLookup_eq_fast]; kernel_rfl
theorem noBuffer : typeLookup (.type "range") "__buffer__" = pure none := by rw [typeLookup_type, builtinLookup_eq_fast]; kernel_rfl
theorem split_len : splitId "range.__len__" = some ("range", "__len__") := by decide +kernel
theorem sub_range : isSubtype (.type "range") (.type "range") = pure true := by rw [isSubtype_type]; kernel_rfl
end FR

section
variable {prog : Program} {w : World} {A : Around} {h : Heap}

theorem bytes_loop {I S : Addr} {fp wr : List Addr} {ns : List Int} {P : Nat → Value → Prop} {St : Nat → Heap → Prop} (Wk : Walks prog w A.in1 I fp wr ns.length P St) (hP : ∀ i v, P i v → ∃ n t, ns[i]? = some n ∧ v = .int n t)
    (hb : ∀ n ∈ ns, 0 ≤ n ∧ n < 256) (hz : ns.length ≤ 1000) (hS : S ∉ fp) {R : Value → Heap → Prop} :
    ∀ (k i : Nat) (h : Heap), ns.length - i = k → i ≤ ns.length → St i h → h.get? S = some { cls := .type "bytearray", data := .bytearray (byteArr (ns.take i)) } →
      (∀ h' t, (∀ b o, b ∉ wr → b ≠ S → h.get? b = some o → h'.get? b = some o) → R (.bytes (byteArr ns) t) h') →
      C (model prog w) A (.builtin "bytes.__new__.loop" ⟨[.type "bytes", .ref I, .ref S], []⟩) h (Rv R) := by
  intro k
  have hSw : S ∉ wr := fun q => hS (Wk.sub _ q)
  induction k with
  | zero =>
    intro i h hk hle st hSo hR
    obtain rfl : i = ns.length := by omega
    refine cBuiltin PySem.F.bm_entry_loop PySem.F.bm_plain_loop ?_
    show T _ A.in1 (pyNext (.ref I) >>= _) _ _
    refine tBind fun s Q E hs hQ => by
      subst hs
      refine Wk.done s _ _ st fun h' tk he => ?_
      have hS' := he S _ hSw hSo
      refine hQ none h' tk ?_
      show T _ _ (Builtin.Bytes.payload (.ref S) >>= _) _ _
      refine tBind ?_
      unfold Builtin.Bytes.payload Builtin.Bytes.payload?
      refine tBind (tBind (tLoad hS' (tRet ?_)))
      refine tRet ?_
      rw [List.take_length]
      refine tBind fun s' Q' E' hs' hQ' => wpAny_mkBytes (hQ' _ _ _ ?_) (by rw [byteArr_size]; exact small_line (by omega))
      subst hs'
      refine tIteT (by decide) ?_
      refine tBind (tRet (tRet ?_))
      exact hR _ _ fun b o hb _ e => he b o hb e
  | succ k ih =>
    intro i h hk hle st hSo hR
    refine cBuiltin PySem.F.bm_entry_loop PySem.F.bm_plain_loop ?_
    show T _ A.in1 (pyNext (.ref I) >>= _) _ _
    refine tBind fun s Q E hs hQ => by
      subst hs
      refine Wk.item i s _ _ (by omega) st fun v h' tk hv st' he => ?_
      have hS' := he S _ hSw hSo
      refine hQ (some v) h' tk ?_
      obtain ⟨n, t, hn, rfl⟩ := hP i v hv
      obtain ⟨h0, h1⟩ := hb n (List.mem_of_getElem? hn)
      refine tBind (tHolding (tHere (rfl : asIndex (.int n t) = pure n) ?_))
      refine tBind fun s' Q' E' hs' hQ' => wpAny_letGo (hQ' _ _ s'.toks ?_)
      subst hs'
      refine tIteF (by simp only [Bool.or_eq_true, decide_eq_true_eq]; omega) ?_
      show T _ _ (updateBytearray S (·.push n.toNat.toUInt8) >>= _) _ _
      have hS₂ : (s'.heap.update S (Obj.mapBytearray (·.push n.toNat.toUInt8))).get? S = some { cls := .type "bytearray", data := .bytearray (byteArr (ns.take (i + 1))) } := by
        rw [byteArr_take hn]
        exact Heap.get?_update_self (Obj.mapBytearray (·.push n.toNat.toUInt8)) hS' rfl
      refine tBind fun s'' Q'' E'' hs'' hQ'' => by
        unfold updateBytearray
        refine wpAny_bind (wpAny_load (hs'' ▸ hS') ?_)
        show wpAny _ _ (update S (Obj.mapBytearray (·.push n.toNat.toUInt8)) >>= fun _ => lookBehind S) _ _ _
        refine wpAny_bind (wpAny_update (hs'' ▸ hS') ?_)
        refine wpAny_lookBehind (o := { cls := .type "bytearray", data := .bytearray (byteArr (ns.take (i + 1))) }) ?_ ?_ (hQ'' _ _ s''.toks ?_)
        · rw [hs'']; exact hS₂
        · show (if (byteArr (ns.take (i + 1))).size > sizeLine then some "bytearray:memory" else none) = none
          rw [if_neg]
          rw [byteArr_size, List.length_take]
          have := small_line (n := ns.length) (by omega)
          omega
        · rw [hs'']
          refine tRet ⟨plainId_quiet PySem.F.bm_plain_loop _, ih (i + 1) _ (by omega) (by omega) (Wk.frame _ _ _ st' fun b hbf o e => ?_) hS₂ fun h3 t' hk3 => hR h3 t' fun b o hbw hbS e => hk3 b o hbw hbS ((Heap.get?_update_other _ _ (Ne.symm hbS)).trans (he b o hbw e))⟩
          exact (Heap.get?_update_other _ _ (show S ≠ b from fun q => hS (by rw [q]; exact hbf))).trans e

theorem tWp {α : Type} {M : Model} {A : Around} {t : Sem α} {h : Heap} {R : α → Heap → Prop} (H : T M A t h R) : ∀ (s : Shared) (Q : α → Shared → Prop) (E : Value → Shared → Prop), s.heap = h → (∀ a h' k, R a h' → Q a { s with heap := h', toks := k }) → wpAny M A t Q E s := H
theorem hint_range {r : Addr} {n : Nat} {t u v : Tok} {R : Unit → Heap → Prop} (hg : IsRange h r 0 n 1 t u v) (hn : n ≤ 1000) (hr : R () h) : T (model prog w) A (Builtin.Bytes.lengthHint "bytes.__new__" (.ref r)) h R := fun s Q E hs hQ => by
  subst hs
  have hT : s.TypeIs (.ref r) "range" := ⟨_, hg, rfl⟩
  unfold Builtin.Bytes.lengthHint
  refine wpAny_bind (wpAny_specialOf hT PySem.F.slot_range_len.lookup ?_)
  dsimp only
  rw [FR.split_len]
  dsimp only
  refine wpAny_bind (wpAny_isInstance hT FR.sub_range ?_)
  refine bm_if_false rfl ?_
  refine bm_if_false (by decide +kernel) ?_
  refine bm_if_true rfl ?_
  refine wpAny_bind (wpAny_rule (wpAny_bind (wpAny_attempt (call_len_range hg (n := n) ?_ (by omega) ?_))))
  · rw [rangeSize_one]; split <;> omega
  · refine wpAny_bind (wpAny_of_eq (a := some (n : Int)) rfl ?_)
    dsimp only
    have hl : Builtin.Bytes.tooLong ((n : Int)).toNat = false := by
      rw [Int.toNat_natCast]
      simp only [Builtin.Bytes.tooLong, decide_eq_false_iff_not]
      have := small_line (n := n) (by omega)
      omega
    refine bm_if_false hl ?_
    exact wpAny_pure (hQ _ _ _ hr)

theorem bytes_range {r : Addr} {n : Nat} {t u v : Tok} {R : Value → Heap → Prop} (hh : A.handled = none) (hg : IsRange h r 0 n 1 t u v) (hn : n ≤ 200)
    (hr : ∀ h' t', Ext h h' → R (.bytes (byteArr ((List.range n).map fun (i : Nat) => (i : Int))) t') h') : T (model prog w) A (call (.type "bytes") [.ref r]) h R := fun s Q E hs hQ => by
  subst hs
  refine callType_codes (Q₁ := fun obj s₁ => s₁.TypeIs obj "bytes" ∧ Q obj s₁) PySem.F.bm_called (PySem.F.bm_typeCall _) PySem.F.entry_object_init ?_ fun obj s₁ h₁ =>
    ⟨h₁.1, PySem.F.args_object_init_2 obj _, object_init_meets PySem.F.bm_called.init.lookup PySem.F.bm_called.made (by decide) prog w A.in1 _ s₁ ⟨h₁.1, rfl, h₁.2⟩⟩
  refine codeAny_of_tree ?_
  show wpAny _ A.in1.in1 (do checkBuiltinCall "bytes.__new__" ⟨[.type "bytes", .ref r], []⟩; again (.builtin "bytes.__new__" ⟨[.type "bytes", .ref r], []⟩)) _ _ s
  refine wpAny_bind (wpAny_of_eq (PySem.F.bm_newCall _) (wpAny_pure ⟨plainId_quiet PySem.F.bm_plain _, codeAny_builtin PySem.F.bm_entry ?_⟩))
  rw [Around.under_plainId PySem.F.bm_plain _]
  have hT : s.TypeIs (.ref r) "range" := ⟨_, hg, rfl⟩
  unfold Builtin.«bytes.__new__»
  refine wpAny_bind (wpAny_of_eq (a := true) rfl ?_)
  refine bm_if_false rfl ?_
  refine wpAny_bind (wpAny_of_eq PySem.F.bm_sub ?_)
  refine bm_if_false rfl ?_
  refine wpAny_bind (wpAny_of_eq (PySem.F.bm_bind _) ?_)
  refine wpAny_bind (wpAny_of_eq (a := ()) rfl ?_)
  refine wpAny_bind (wpAny_of_eq (a := ()) rfl ?_)
  refine bm_if_false rfl ?_
  refine wpAny_bind (wpAny_specialOf hT FR.noBytes ?_)
  refine wpAny_bind (wpAny_bind ?_)
  show wpAny _ _ (load r >>= _) _ _ _
  refine wpAny_bind (wpAny_load hg ?_)
  refine wpAny_pure (wpAny_pure ?_)
  refine bm_if_false rfl ?_
  refine wpAny_bind (wpAny_specialOf hT FR.noIndex ?_)
  refine bm_if_true rfl ?_
  refine wpAny_bind ?_
  show wpAny _ _ (Builtin.Bytes.buffer? "bytes.__new__" (.ref r) true) _ _ _
  unfold Builtin.Bytes.buffer?
  refine wpAny_bind (wpAny_specialOf hT FR.noBuffer ?_)
  refine wpAny_bind (wpAny_specialOf hT FR.noBuffer ?_)
  refine wpAny_pure ?_
  have hsz : Builtin.Range.rangeSize 0 n 1 = n := by rw [rangeSize_one]; split <;> omega
  refine wpAny_bind (wpAny_tryCatch (wpAny_pyIter_range hg (small_one (by omega) (by omega) (by omega) (by omega)) ?_))
  rw [hsz]
  have hg₁ : IsRange (s.heap.push { cls := .type "range_iterator", data := .fields #[rawInt 0, rawInt n, rawInt 1] }) r 0 n 1 t u v := Heap.get?_push_of_some _ hg
  refine wpAny_bind (wpAny_holding (hint_range hg₁ (by omega) (R := fun _ h' => h' = s.heap.push { cls := .type "range_iterator", data := .fields #[rawInt 0, rawInt n, rawInt 1] }) rfl _ _ _ rfl fun _ h' k e => ?_))
  subst e
  refine wpAny_bind ?_
  unfold Builtin.Bytes.newBytearray
  refine wpAny_newObj_type ?_ (Nat.zero_le _)
  refine wpAny_pure ⟨plainId_quiet PySem.F.bm_plain_loop _, ?_⟩
  have Wk := (Walks.range (prog := prog) (w := w) (A := A.in1.in1) hh s.heap.objs.size 0 1 n).bound
  have hlen : ((List.range n).map fun (i : Nat) => (i : Int)).length = n := by simp
  have e1 : (s.heap.push { cls := .type "range_iterator", data := .fields #[rawInt 0, rawInt n, rawInt 1] }).objs.size = s.heap.objs.size + 1 := Heap.size_push _ _
  have hx : Ext s.heap ((s.heap.push { cls := .type "range_iterator", data := .fields #[rawInt 0, rawInt n, rawInt 1] }).push { cls := .type "bytearray", data := .bytearray #[] }) := Ext.trans (Ext.push _ _) (Ext.push _ _)
  have go := bytes_loop (A := A.in1) (R := fun v h' => (∃ t', v = .bytes (byteArr ((List.range n).map fun (i : Nat) => (i : Int))) t') ∧ Ext s.heap h') (S := (s.heap.push { cls := .type "range_iterator", data := .fields #[rawInt 0, rawInt n, rawInt 1] }).objs.size) (ns := (List.range n).map fun (i : Nat) => (i : Int)) (hlen.symm ▸ Wk) (fun i v hv => ?_) (fun k hk => ?_) (by rw [hlen]; omega) (fun q => ?_) _ 0
    ((s.heap.push { cls := .type "range_iterator", data := .fields #[rawInt 0, rawInt n, rawInt 1] }).push { cls := .type "bytearray", data := .bytearray #[] }) rfl (Nat.zero_le _) ?_ (Heap.get?_push_size _ rfl) (fun h' t' hk => ⟨⟨t', rfl⟩, fun b o e => hk b o (fun q => ?_) (fun q => ?_) (hx b o e)⟩)
  · refine go _ _ rfl fun fl h' k r => ?_
    cases fl with
    | ret v => obtain ⟨⟨t', rfl⟩, e⟩ := r; exact ⟨PySem.W.typeIs_bytes _ _ _, hQ _ _ _ (hr h' t' e)⟩
    | _ => exact r.elim
  · obtain ⟨hi, t', rfl⟩ := hv
    rw [hlen] at hi
    exact ⟨(i : Int), t', by rw [List.getElem?_map, List.getElem?_range hi]; rfl, by rw [Int.mul_one, Int.zero_add]⟩
  · obtain ⟨i, hi, rfl⟩ := List.mem_map.mp hk
    have := List.mem_range.mp hi
    omega
  · have q := List.mem_singleton.mp q
    rw [e1] at q
    exact Nat.succ_ne_self _ q
  · rw [hlen]
    have := Heap.get?_push_of_some (h := s.heap.push { cls := .type "range_iterator", data := .fields #[rawInt 0, rawInt n, rawInt 1] }) { cls := .type "bytearray", data := .bytearray #[] } (Heap.get?_push_size s.heap (o := { cls := .type "range_iterator", data := .fields #[rawInt 0, rawInt n, rawInt 1] }) rfl)
    simpa using this
  · rw [List.mem_singleton.mp q] at e
    exact absurd (Heap.lt_size e) (Nat.lt_irrefl _)
  · rw [q, e1] at e
    exact absurd (Heap.lt_size e) (Nat.not_lt.mpr (Nat.le_succ _))
theorem tRange1 {n : Int} {t : Tok} {R : Value → Heap → Prop} (hr : ∀ h' u v, Ext h h' → IsRange h' h.objs.size 0 n 1 u t v → R (.ref h.objs.size) h') : T (model prog w) A (call (.type "range") [.int n t]) h R := fun s Q E hs hQ => by
  subst hs
  exact call_range_1 (hQ _ _ _ (hr _ _ _ (Ext.push _ _) (IsRange.new ..)))
theorem tRange3 {a b c : Int} {t u v : Tok} {R : Value → Heap → Prop} (hc : c ≠ 0) (hp : Builtin.divisionGoesByPylong (b - a) c = false) (hr : ∀ h', Ext h h' → IsRange h' h.objs.size a b c t u v → R (.ref h.objs.size) h') : T (model prog w) A (call (.type "range") [.int a t, .int b u, .int c v]) h R := fun s Q E hs hQ => by
  subst hs
  exact call_range_3 hc (hQ _ _ _ (hr _ (Ext.push _ _) (IsRange.new ..))) (.inl hp)
theorem bytes_range4 {r : Addr} {t u v : Tok} {R : Value → Heap → Prop} (hh : A.handled = none) (hg : IsRange h r 0 4 1 t u v) (hr : ∀ h' t', Ext h h' → R (bv 0 t') h') : T (model prog w) A (call (.type "bytes") [.ref r]) h R := by
  refine bytes_range hh (n := 4) hg (by decide) fun h' t' e => ?_
  have : byteArr ((List.range 4).map fun (i : Nat) => (i : Int)) = (PL 0).toArray := by decide +kernel
  rw [this]
  exact hr h' t' e
end
end Mine

namespace Mine

theorem W.lose {h₀ h h' : Heap} {L a : Addr} {m : Str → Option Value} {b : Ob} {pre post : List (Addr × Ob)} (x : W h₀ L m (pre ++ (a, b) :: post) h) (hs : Heap.ExtBut a h h') : W h₀ L m (pre ++ post) h' := by
  have A := x.own (a, b) (by simp)
  have D := List.pairwise_append.mp x.dis
  have D2 := List.pairwise_cons.mp D.2.1
  refine ⟨⟨x.fr.ns.extBut hs (Ne.symm A.2.1), fun y o q => hs y o (fun e => ?_) (x.fr.keep y o q), x.fr.above⟩, fun p hp => ?_, ?_⟩
  · have := A.2.2; rw [← e, q] at this; cases this
  · rcases List.mem_append.mp hp with q | q
    · have P := x.own p (List.mem_append_left _ q)
      exact ⟨P.1.at fun o e => hs _ o (D.2.2 p q (a, b) (by simp)) e, P.2⟩
    · have P := x.own p (List.mem_append_right _ (.tail _ q))
      exact ⟨P.1.at fun o e => hs _ o (fun e' => D2.1 p q e'.symm) e, P.2⟩
  · exact List.pairwise_append.mpr ⟨D.1, D2.2, fun p hp q hq => D.2.2 p hp q (.tail _ hq)⟩

section
variable {prog : Program} {w : World} {A : Around} {env : Env} {h : Heap}
theorem tAssignSwap {elts k tpos value pos} {names : List Str} {R : Flow → Heap → Prop} {M : Model}
    (H : T M A (eval value env) h (fun v h₁ => T M A (unpackItems v names.length none) h₁ (fun items h₂ => T M A (assignInOrder (names.reverse.map fun n => bindName env n) items.reverse) h₂ (fun _ => R .next))))
    (hs' : swapsWithSole [.Tuple elts k tpos] value pos.line env = pure false := by rfl)
    (hw : swappedStores [.Tuple elts k tpos] value env = pure (some names) := by rfl) : T M A (exec (.Assign [.Tuple elts k tpos] value pos) env) h R :=
  fun s Q E hs hQ => Assign_Tuple_swapped (H s _ E hs fun _ _ _ H1 => H1 _ _ E rfl fun _ _ _ H2 => H2 _ _ E rfl fun _ _ _ H3 => hQ _ _ _ H3) hs' hw
theorem tUnpack {t : Addr} {vs : List Value} {n : Nat} {R : List Value → Heap → Prop} (hh : A.handled = none) (ht : IsTup h t vs.toArray) (hn : n = vs.length) (hr : ∀ h', Ext h h' → R vs h') : T (model prog w) A (unpackItems (.ref t) n none) h R := fun s Q E hs hQ => by
  subst hs hn
  have := unpackItems_tuple (prog := prog) (w := w) (A := A) (E := E) (Q := Q) hh ht fun h' he => hQ _ _ s.toks (hr h' fun b o e => he b o (Nat.ne_of_lt (Heap.lt_size e)) e)
  simpa using this
theorem tOrder0 {M : Model} {R : Unit → Heap → Prop} {xs} (hr : R () h) : T M A (assignInOrder [] xs) h R := by
  unfold assignInOrder; exact tRet hr
theorem tOrder {M : Model} {R : Unit → Heap → Prop} {t : Value → Sem Unit} {ts x xs} (H : T M A (t x) h (fun _ h₁ => T M A (assignInOrder ts xs) h₁ R)) : T M A (assignInOrder (t :: ts) (x :: xs)) h R := by
  unfold assignInOrder
  exact tBind (tHolding H)
end

/-! ### what _law_made makes -/
def stepMk (st : List Nat × List Nat) (one mk : Nat) : List Nat × List Nat :=
  if !hasL st.1 (mul one mk) && decide (st.1.length < 30) then (insL st.1 (mul one mk), st.2 ++ [mul one mk]) else st
def stepOne (mks : List Nat) (st : List Nat × List Nat) (one : Nat) : List Nat × List Nat := mks.foldl (fun st mk => stepMk st one mk) st
def madeGo (mks : List Nat) : Nat → List Nat × List Nat → Nat → List Nat
  | 0, st, _ => st.1
  | f + 1, st, k => match st.2[k]? with
    | none => st.1
    | some one => madeGo mks f (stepOne mks st one) (k + 1)
def madeL (mks : List Nat) : List Nat := madeGo mks 40 ([0], [0]) 0
theorem insL_length (is : List Nat) (i : Nat) : (insL is i).length = is.length + 1 := by
  have := bis_le is i
  simp [insL]
  omega

section
variable {prog : Program} {w : World} {A : Around} {mg mb : Str → Option Value} {h : Heap}
theorem tBR4 (B : Base w mg mb h) (hh : A.handled = none) {env : Env} {p1 p2 p3 p4 p5 : Pos} {kk : Nat} {R : Value → Heap → Prop} (hr : ∀ h' t, Ext h h' → R (bv 0 t) h')
    (hg : env.globals = mainGlobals := by rfl) (hb : env.builtins = builtinsNs := by rfl) (hk : env.scope.kind = .function := by rfl)
    (hl1 : env.kindOf "bytes" = some .globalImplicit := by rfl) (hl2 : env.kindOf "range" = some .globalImplicit := by rfl) :
    T (model prog w) A (eval (.Call (.Name "bytes" p1) [.Call (.Name "range" p2) [.Constant (.int 4) kk p3] [] p4] [] p5) env) h R :=
  tCall (B.blt B.N.nbytes B.N.bytes (tCallTy (tArgs (tCall (B.blt B.N.nrange B.N.range (tCallTy (tArgs (tInt fun t₁ => tArgs0 (tRange1 fun h₂ u₂ v₂ e₂ g₂ => tArgs0 (bytes_range4 hh g₂ fun h₃ t₃ e₃ => hr h₃ t₃ (Ext.trans e₂ e₃)))))) hg hb hk hl2)))) hg hb hk hl1)
set_option maxHeartbeats 2000000 in
theorem made_ok (B : Base w mg mb h) (room : Room A 3) {mk : Addr} {mvs : List Value} {mks : List Nat} (hl : h.IsList mk mvs.toArray) (ho : Ords mvs mks) {R : Value → Heap → Prop}
    (hr : ∀ h' a vs, Ext h h' → h.get? a = none → h'.PlainList a vs.toArray → Ords vs (madeL mks) → (madeL mks).length ≤ 30 → R (.ref a) h') : T (model prog w) A (call (.ref 58) [.ref mk]) h R := by
  refine tCallFn (binds := [("makers", .ref mk)]) room.depth (B.K 58 _ rfl) rfl B.lim (codeRec_of B.K (by kernel_rfl)) rfl (fun s e => .of_eq (by kernel_rfl)) (by decide) (locs rfl) (fun h₁ F => ?_)
  have hlen := Ords.length ho
  have B₁ := B.ext F.keep
  have W₁ := W.nil F
  refine tThen (tAssignSwap (tTuple (tArgs (tList (tArgs (tBR4 B₁ room.deeper.handled fun h₃ t₃ e₃ => tArgs0 ⟨small_line (by simp), ?_⟩))))))
  have W₄ := (W₁.ext e₃).add (b := .list [bv 0 t₃]) (Ext.push _ (listObj [bv 0 t₃])) (fresh_size h₃) ⟨0, Heap.get?_push_size _ rfl⟩
  have B₄ := B₁.ext (Ext.trans e₃ (Ext.push _ (listObj [bv 0 t₃])))
  generalize hao : h₃.objs.size = ao at W₄ ⊢
  refine tArgs (tList (tArgs (tBR4 B₄ room.deeper.handled fun h₅ t₅ e₅ => tArgs0 ⟨small_line (by simp), ?_⟩)))
  have W₆ := (W₄.ext e₅).add (b := .list [bv 0 t₅]) (Ext.push _ (listObj [bv 0 t₅])) (fresh_size h₅) ⟨0, Heap.get?_push_size _ rfl⟩
  generalize haw : h₅.objs.size = aw at W₆ ⊢
  refine tArgs0 ⟨small_line (by simp), ?_⟩
  have W₇ := W₆.ext (Ext.push _ (tupObj [.ref ao, .ref aw]))
  refine tUnpack room.deeper.handled ⟨_, Heap.get?_push_size _ rfl, rfl, 0, rfl⟩ rfl fun h₈ e₈ => ?_
  have W₈ := W₇.ext e₈
  refine tOrder (tBindName (tStoreL W₈.fr.ns fun h₉ n₉ s₉ => ?_))
  have W₉ := W₈.set n₉ s₉
  refine tOrder (tBindName (tStoreL W₉.fr.ns fun hA nA sA => tOrder0 ?_))
  have WA := W₉.set nA sA
  clear n₉ s₉ nA sA W₉ W₈ W₇ W₆ W₄ e₈ e₅ e₃ W₁ B₄ B₁
  show T _ _ (execs _ _) _ _
  refine tThen (tFor (tLoc WA.fr.ns rfl (tIterList (WA.get (by simp) : Ob.At _ _ (.list [bv 0 t₅])).isList ?_)))
  have WB := WA.add (b := .liter aw 0) (Ext.push _ { cls := .type "list_iterator", data := .fields #[.ref aw, .int 0 0] }) (fresh_size hA) ⟨_, Heap.get?_push_size _ rfl, rfl, rfl⟩
  generalize hA.objs.size = I at WB ⊢
  refine cFor (fun n h' => ∃ (m' : Str → Option Value) (k : Nat) (st : List Nat × List Nat) (vs ws : List Value), W h h.objs.size m' [(I, .liter aw k), (aw, .list ws), (ao, .list vs)] h' ∧
    m' "makers" = some (.ref mk) ∧ m' "order" = some (.ref ao) ∧ m' "waiting" = some (.ref aw) ∧ Ords vs st.1 ∧ Ords ws st.2 ∧ st.1.length = st.2.length ∧ st.1.length ≤ 30 ∧ k ≤ st.2.length ∧ madeGo mks (40 - k) st k = madeL mks ∧ n = 31 - k)
    ?_ 31 ⟨_, 0, ([0], [0]), _, _, WB, rfl, rfl, rfl, .cons ⟨by decide, _, rfl⟩ .nil, .cons ⟨by decide, _, rfl⟩ .nil, rfl, by simp, by simp, rfl, rfl⟩
  clear WB WA
  rintro n h₁ ⟨m', k, st, vs, ws, W₁, hmk, hor, hwa, ho1, ho2, hle, h30, hk, hgo, hn⟩
  have hit : h₁.IsListIter I aw k := W₁.get (b := .liter aw k) (by simp)
  have hwl : h₁.PlainList aw ws.toArray := W₁.get (b := .list ws) (by simp)
  rcases Nat.lt_or_ge k st.2.length with hlt | hge
  · obtain ⟨t, hu, hu24⟩ := ho2.get (k := k) (List.getElem?_eq_getElem hlt)
    generalize hone : st.2[k] = one at hu hu24
    have hone' : st.2[k]? = some one := by rw [List.getElem?_eq_getElem hlt, hone]
    have e40 : 40 - k = (40 - (k + 1)) + 1 := by omega
    rw [e40, madeGo, hone'] at hgo
    dsimp only at hgo
    refine tNextItem hit hwl.isList (by simpa using hu) fun h₂ i₂ s₂ => ?_
    have W₂ := W₁.upd (pre := []) (b' := .liter aw (k + 1)) s₂.extBut i₂
    refine tStoreL W₂.fr.ns fun h₃ n₃ s₃ => ?_
    have W₃ := W₂.set n₃ s₃
    clear n₃ s₃ W₂ W₁ hit hwl i₂ s₂
    have hl₃ := hl.at (W₃.keep _)
    refine tThen (tFor (tLoc W₃.fr.ns hmk (tIterList hl₃ ?_)))
    have W₄ := W₃.add (b := .liter mk 0) (Ext.push _ { cls := .type "list_iterator", data := .fields #[.ref mk, .int 0 0] }) (fresh_size h₃) ⟨_, Heap.get?_push_size _ rfl, rfl, rfl⟩
    generalize h₃.objs.size = J at W₄ ⊢
    refine cFor (fun n h' => ∃ (m' : Str → Option Value) (j : Nat) (sj : List Nat × List Nat) (vs ws : List Value), W h h.objs.size m' [(J, .liter mk j), (I, .liter aw (k + 1)), (aw, .list ws), (ao, .list vs)] h' ∧
      m' "makers" = some (.ref mk) ∧ m' "order" = some (.ref ao) ∧ m' "waiting" = some (.ref aw) ∧ m' "one" = some (bv one t) ∧ Ords vs sj.1 ∧ Ords ws sj.2 ∧ sj.1.length = sj.2.length ∧ sj.1.length ≤ 30 ∧ k + 1 ≤ sj.2.length ∧
      (mks.drop j).foldl (fun st mk => stepMk st one mk) sj = stepOne mks st one ∧ j ≤ mks.length ∧ n = mks.length - j)
      ?_ mks.length ⟨_, 0, st, _, _, W₄, hmk, hor, hwa, rfl, ho1, ho2, hle, h30, hlt, rfl, Nat.zero_le _, rfl⟩
    clear W₄ W₃ hl₃ ho1 ho2 hmk hor hwa
    rintro n' h₁ ⟨m', j, sj, vs, ws, W₁, hmk, hor, hwa, hon, ho1, ho2, hle', h30', hk', hfo, hj, hn'⟩
    have hit : h₁.IsListIter J mk j := W₁.get (b := .liter mk j) (by simp)
    have hml := hl.at (W₁.keep _)
    rcases Nat.lt_or_ge j mks.length with hjl | hjg
    · obtain ⟨u, hm, hm24⟩ := ho.get (k := j) (List.getElem?_eq_getElem hjl)
      rw [List.drop_eq_getElem_cons hjl, List.foldl_cons] at hfo
      generalize mks[j] = mkr at hm hm24 hfo
      refine tNextItem hit hml (by simpa using hm) fun h₂ i₂ s₂ => ?_
      have W₂ := W₁.upd (pre := []) (b' := .liter mk (j + 1)) s₂.extBut i₂
      refine tStoreL W₂.fr.ns fun h₃ n₃ s₃ => ?_
      have W₃ := W₂.set n₃ s₃
      clear n₃ s₃ W₂ W₁ hit hml i₂ s₂
      have B₃ := B.ext W₃.keep
      refine tThen (tAssign (tCall (B₃.glo B.N.then' (tCallDef rfl (tArgs (tLoc W₃.fr.ns hon (tArgs (tLoc W₃.fr.ns rfl (tArgs0 ⟨B₃.K 44 _ rfl, then_ok B₃ (room.deeper.le (by decide)) hu24 hm24 fun h₄ t₄ e₄ => ?_⟩)))))))))
      have W₄ := W₃.ext e₄
      refine tStoreL W₄.fr.ns fun h₅ n₅ s₅ => ?_
      have W₅ := W₄.set n₅ s₅
      clear n₅ s₅ W₄ W₃ e₄ B₃
      have B₅ := B.ext W₅.keep
      have hol : h₅.PlainList ao vs.toArray := W₅.get (b := .list vs) (by simp)
      show T _ _ (execs _ _) _ _
      refine tThen (tIf (tIsBool (tAndCons (tIsNot (tIsVal (tCall (B₅.glo B.N.has (tCallDef rfl (tArgs (tLoc W₅.fr.ns hor (tArgs (tLoc W₅.fr.ns rfl (tArgs0 ⟨B₅.K 51 _ rfl, has_ok B₅ (room.deeper.le (by decide)) hol.isList ho1 (by omega) (mul_lt _ hu24 _ hm24) fun h₆ e₆ => tTruthyBool ?_⟩)))))))))))))
      have W₆ := W₅.ext e₆
      clear W₅ e₆ hol B₅
      have hol : h₆.PlainList ao vs.toArray := W₆.get (b := .list vs) (by simp)
      have B₆ := B.ext W₆.keep
      have hlen1 := Ords.length ho1
      have hlen2 := Ords.length ho2
      cases hhas : hasL sj.1 (mul one mkr) with
      | true =>
        refine ifF rfl ?_
        refine ifF rfl ?_
        have hs : stepMk sj one mkr = sj := by simp [stepMk, hhas]
        exact tDone (tDone ⟨rfl, mks.length - (j + 1), by omega, _, j + 1, sj, _, _, W₆, hmk, hor, hwa, hon, ho1, ho2, hle', h30', hk', by rw [← hfo, hs], hjl, rfl⟩)
      | false =>
        refine ifT rfl ?_
        refine tAndCons (tIsCmp (tCall (B₆.blt B.N.nlen B.N.len (tCallBlt (tArgs (tLoc W₆.fr.ns hor (tArgs0 (tLenList hol.isList (by simp; omega) fun t₇ => tInt fun t₈ => tLt (tTruthyBool ?_)))))))))
        by_cases h30'' : sj.1.length < 30
        · refine ifT (by simp [hlen1]; omega) (tAndNil (ifT rfl ?_))
          have hst : stepMk sj one mkr = (insL sj.1 (mul one mkr), sj.2 ++ [mul one mkr]) := by simp [stepMk, hhas, h30'']
          refine tThen (tExpr (tCall (B₆.glo B.N.insort (tCallDef rfl (tArgs (tLoc W₆.fr.ns hor (tArgs (tLoc W₆.fr.ns rfl (tArgs0 ⟨B₆.K 30 _ rfl, insort_ok B₆ (room.deeper.le (by decide)) hol ho1 (by omega) (mul_lt _ hu24 _ hm24) fun h₇ vs' s₇ p₇ ho7 => ?_⟩)))))))))
          have W₇ := W₆.upd (pre := [_, _, _]) (b' := .list vs') s₇ p₇
          have hwl : h₇.PlainList aw ws.toArray := W₇.get (b := .list ws) (by simp)
          have hl7 := Ords.length ho7
          have hi7 := insL_length sj.1 (mul one mkr)
          show T _ _ (execs _ _) _ _
          refine tThen (tExpr (tMethList PySem.F.slot_list_append PySem.F.type_list_append (tLoc W₇.fr.ns hwa ⟨aw, _, rfl, hwl, tCallSelf (tArgs (tLoc W₇.fr.ns rfl (tArgs0 (tAppend hwl (small_line (by simp; omega)) fun h₈ p₈ s₈ => ?_))))⟩)))
          have W₈ := W₇.upd (pre := [_, _]) (b' := .list (ws ++ [bv (mul one mkr) t₄])) s₈.extBut (by simpa [Ob.At] using p₈)
          show T _ _ (execs _ _) _ _
          refine tDone (tDone ⟨rfl, mks.length - (j + 1), by omega, _, j + 1, (insL sj.1 (mul one mkr), sj.2 ++ [mul one mkr]), _, _, W₈, hmk, hor, hwa, hon, ho7, Ords.append ho2 (.cons ⟨mul_lt _ hu24 _ hm24, t₄, rfl⟩ .nil), ?_, ?_, ?_, by rw [← hfo, hst], hjl, rfl⟩)
          · simp; omega
          · simp; omega
          · simp; omega
        · refine ifF (by simp [hlen1]; omega) (ifF rfl ?_)
          have hs : stepMk sj one mkr = sj := by simp [stepMk, h30'']
          exact tDone (tDone ⟨rfl, mks.length - (j + 1), by omega, _, j + 1, sj, _, _, W₆, hmk, hor, hwa, hon, ho1, ho2, hle', h30', hk', by rw [← hfo, hs], hjl, rfl⟩)
    · refine tNextEnd room.deeper.handled hit hml (by simp; omega) fun h₂ x₂ => tDone (tDone ⟨rfl, 31 - (k + 1), ?_, ?_⟩)
      · omega
      · have W₂ := W₁.lose (pre := []) x₂
        rw [List.drop_of_length_le hjg, List.foldl_nil] at hfo
        subst hfo
        exact ⟨_, k + 1, _, _, _, W₂, hmk, hor, hwa, ho1, ho2, hle', h30', hk', hgo, rfl⟩
  · refine tNextEnd room.deeper.handled hit hwl.isList (by simp; have := Ords.length ho2; omega) fun h₂ x₂ => tDone ?_
    have W₂ := W₁.lose (pre := []) x₂
    show T _ _ (execs _ _) _ _
    refine tThen (tReturn (tLoc W₂.fr.ns hor ?_))
    have e40 : 40 - k = (39 - k) + 1 := by omega
    rw [e40, madeGo, List.getElem?_eq_none hge] at hgo
    dsimp only at hgo
    exact hr h₂ ao vs W₂.keep (W₂.fresh (b := .list vs) (by simp)) (W₂.get (b := .list vs) (by simp)) (hgo ▸ ho1) (hgo ▸ h30)
end
end Mine

namespace Mine

section
variable {prog : Program} {w : World} {A : Around} {env : Env} {h : Heap}
theorem tAddL {l b : Addr} {vs ws : List Value} {R : Value → Heap → Prop} (hl : h.PlainList l vs.toArray) (hb : h.PlainList b ws.toArray) (hsz : vs.length + ws.length ≤ 2000)
    (hr : ∀ h', Ext h h' → h'.PlainList h.objs.size (vs ++ ws).toArray → R (.ref h.objs.size) h') : T (model prog w) A (binaryOp .Add (.ref l) (.ref b)) h R := fun s Q E hs hQ => by
  subst hs
  obtain ⟨n, hl⟩ := hl
  obtain ⟨n', hb⟩ := hb
  refine P.add_list hl hb (hQ _ _ s.toks (hr _ (Ext.push _ _) ⟨0, ?_⟩)) (by simp only [List.size_toArray]; exact small_line (by omega))
  rw [← List.append_toArray]
  exact Heap.get?_push_size _ rfl
theorem tMul4 {l : Addr} {x : Value} {u : Tok} {R : Value → Heap → Prop} (hl : h.PlainList l [x].toArray) 
    (hr : ∀ h', Ext h h' → h'.PlainList h.objs.size [x, x, x, x].toArray → R (.ref h.objs.size) h') : T (model prog w) A (binaryOp .Mult (.ref l) (.int 4 u)) h R := fun s Q E hs hQ => by
  subst hs
  obtain ⟨n, hl⟩ := hl
  refine wpAny_binaryOp_repeat_ref (T := "list") (U := "int") (by decide) ⟨_, hl, rfl⟩ (fun s' => typeIs_int s' 4 u) noFill_list_mul F.fills_int_mul F.slot_int_rmul repeat_list F.slot_int_index.lookup
    (call_meets F.slot_int_rmul (typeIs_int s 4 u) F.entry_int_rmul (F.args_int_rmul_2 _ _) (int___rmul___int_list 4 u l _ n)
      ⟨hl, rfl, ⟨_, hl, rfl⟩, call_meets F.slot_list_mul ⟨_, hl, rfl⟩ F.entry_list_mul (F.args_list_mul_2 _ _)
        (AutoListH.list___mul___list_int_3 l _ n 4 u (by simp [Builtin.List.listFitsIndex]) (by simp) (by simp [Builtin.List.listTooLong, sizeLine]))
        ⟨hl, ?_⟩⟩)
  exact hQ _ _ s.toks (hr _ (Ext.push _ _) ⟨0, by simpa [List.replicate] using Heap.get?_push_size s.heap (o := { cls := .type "list", data := .seq #[x, x, x, x] }) rfl⟩)
theorem tail_go {value slice : Expr} {o i : Value} {t id : String} {ops : List Value} {E : Value → Shared → Prop} {s : Shared} {Q : Value → Shared → Prop} (hT : s.TypeIs o t)
    (hl : typeLookup (.type t) "__getitem__" = pure (some (.builtin id))) (h : wpAny (model prog w) A (getItem o i) Q E s)
    (hs : subscripted slice false o i = operate ops (getItem o i)) : wpAny (model prog w) A (subscriptTail value slice o i) Q E s := by
  unfold subscriptTail
  refine wpAny_bind ?_
  rw [getitemInPython_of_ne hT.not_modules]
  refine wpAny_bind (wpAny_specialOf hT hl ?_)
  have fin : wpAny (model prog w) A (subscripted slice false o i) (fun r s₃ => wpAny (model prog w) A (letTemporaryGo value o r >>= fun _ => pure r) Q E s₃) E s := by
    rw [hs]
    exact wpAny_operating (wpAny_mono h (fun r s₃ h₃ => wpAny_bind (wpAny_letTemporaryGo (wpAny_pure h₃))) fun _ _ x => x)
  first
    | exact wpAny_pure (wpAny_bind fin)
    | exact wpAny_bind (wpAny_pure (wpAny_bind fin))
    | exact wpAny_bind fin
/-- a slice of a list -/
theorem tSlice {value : Expr} {lower upper step : Option Expr} {p pos : Pos} {R : Value → Heap → Prop}
    (H : T (model prog w) A (eval value env) h (fun o h₁ => T (model prog w) A (evalPart lower env) h₁ (fun vl h₂ => T (model prog w) A (evalPart upper env) h₂ (fun vu h₃ => T (model prog w) A (evalPart step env) h₃ (fun vs h₄ =>
      ∃ l items lo hi st, o = .ref l ∧ h₄.IsList l items ∧ items.size ≤ sizeLine ∧ IsPart vl lo ∧ IsPart vu hi ∧ IsPart vs st ∧ st ≠ some 0 ∧
        ∀ h', Ext h₄ h' → h₄.get? (h₄.objs.size + 1) = none → h'.PlainList (h₄.objs.size + 1) (slicePick items lo hi st) → R (.ref (h₄.objs.size + 1)) h')))))
    (hs' : ∀ l i, subscripted (.Slice lower upper step p) false (.ref l) (.ref i) = operate [.ref i, .ref l] (getItem (.ref l) (.ref i)) ∨ subscripted (.Slice lower upper step p) false (.ref l) (.ref i) = operate [.ref l, .ref i] (getItem (.ref l) (.ref i)) := by
      first | exact fun _ _ => .inl (by with_unfolding_all rfl) | exact fun _ _ => .inr (by with_unfolding_all rfl)) : T (model prog w) A (eval (.Subscript value (.Slice lower upper step p) pos) env) h R := fun s Q E hs hQ => by
  refine Subscript_ (H s _ E hs fun o h₁ k₁ H1 => wpAny_Slice (H1 _ _ E rfl fun vl h₂ k₂ H2 => H2 _ _ E rfl fun vu h₃ k₃ H3 => H3 _ _ E rfl fun vs h₄ k₄ H4 => ?_))
  obtain ⟨l, items, lo, hi, st, rfl, hl, hsz, pl, pu, ps, h0, hr⟩ := H4
  have go := fun ops hh => tail_go (value := value) (slice := .Slice lower upper step p) (E := E) (s := { s with heap := h₄.push { cls := .type "slice", data := .fields #[vl, vu, vs] }, toks := k₄ }) (Q := Q) (ops := ops) (prog := prog) (w := w) (A := A) (hl.push _).typeIs list_getitem_lookup
    (wpAny_getItem_list_slice (hl.push _) (Heap.IsSliceOf.new ..) pl pu ps h0 ?_ hsz) hh
  · rcases hs' l h₄.objs.size with e | e
    · exact go _ e
    · exact go _ e
  · have e := Heap.size_push h₄ { cls := .type "slice", data := .fields #[vl, vu, vs] }
    show Q (.ref (h₄.push _).objs.size) _
    rw [e]
    refine hQ _ _ k₄ (hr _ (Ext.trans (Ext.push _ _) (Ext.push _ _)) ?_ ⟨0, ?_⟩)
    · cases q : h₄.get? (h₄.objs.size + 1) with
      | none => rfl
      | some o => exact absurd (Heap.lt_size q) (Nat.not_lt.mpr (Nat.le_succ _))
    · have := Heap.get?_push_size (h₄.push { cls := .type "slice", data := .fields #[vl, vu, vs] }) (o := { cls := .type "list", data := .seq (slicePick items lo hi st) }) rfl
      rw [e] at this
      exact this
theorem tNoPart {M : Model} {R : Value → Heap → Prop} (hr : R .none h) : T M A (evalPart none env) h R := by rw [evalPart_none]; exact tRet hr
theorem tPart {M : Model} {e : Expr} {R : Value → Heap → Prop} (H : T M A (eval e env) h R) : T M A (evalPart (some e) env) h R := H
theorem tListRange {r : Addr} {n : Nat} {t u v : Tok} {R : Value → Heap → Prop} (hh : A.handled = none) (hg : IsRange h r 0 n 1 t u v) (hn : n ≤ 200)
    (hr : ∀ h' ys, Ext h h' → h'.PlainList h.objs.size ys.toArray → IntsAre ys ((List.range n).map fun (i : Nat) => (i : Int)) → R (.ref h.objs.size) h') : T (model prog w) A (call (.type "list") [.ref r]) h R := fun s Q E hs hQ => by
  subst hs
  have hsz : Builtin.Range.rangeSize 0 n 1 = n := by rw [rangeSize_one]; split <;> omega
  refine call_list_range hh hg (small_one (by omega) (by omega) (by omega) (by omega)) hsz (by omega) fun h' tk acc' c' hk hS hacc => hQ _ _ _ (hr h' acc'.toList hk ⟨c', by simpa using hS⟩ (ints_of (by simp [hacc.1]) fun k i e => ?_))
  have hk : k < n := by
    rcases Nat.lt_or_ge k n with q | q
    · exact q
    · rw [List.getElem?_eq_none (by simpa using q)] at e; cases e
  rw [List.getElem?_map, List.getElem?_range hk] at e
  cases e
  have hv : acc'[k]? = some (acc'[k]'(by rw [hacc.1]; exact hk)) := Array.getElem?_eq_getElem _
  obtain ⟨t, ht⟩ := hacc.2 k _ hv
  refine ⟨t, ?_⟩
  rw [Array.getElem?_toList, hv, ht]
  simp
end

/-! ### _law_drawn -/
theorem perm_mem : ∀ a < 4, ∀ b < 4, ∀ c < 4, ∀ d < 4, [a, b, c, d].isPerm [0, 1, 2, 3] = true → ((List.range 24).any fun i => [a, b, c, d] == (PL i).map UInt8.toNat) = true := by decide +kernel
theorem perm_PL {fs : List Nat} (hp : fs.Perm [0, 1, 2, 3]) : ∃ i < 24, fs = (PL i).map UInt8.toNat := by
  have hl := hp.length_eq
  have hm : ∀ x ∈ fs, x < 4 := fun x hx => by
    have := hp.mem_iff.mp hx
    simp at this
    omega
  match fs, hl with
  | [a, b, c, d], _ =>
    obtain ⟨i, hi, e⟩ := List.any_eq_true.mp (perm_mem a (hm a (by simp)) b (hm b (by simp)) c (hm c (by simp)) d (hm d (by simp)) (List.isPerm_iff.mpr hp))
    exact ⟨i, List.mem_range.mp hi, eq_of_beq e⟩
abbrev NatsAre (vs : List Value) (ns : List Nat) : Prop := IntsAre vs (ns.map fun (n : Nat) => (n : Int))
theorem ints_at : ∀ {vs : List Value} {ns : List Int}, IntsAre vs ns → ∀ {k : Nat} {n : Int}, ns[k]? = some n → ∃ t, vs[k]? = some (.int n t)
  | _, _, .nil, _, _, e => by simp at e
  | _, _, .cons n t h, 0, _, e => by simp at e; subst e; exact ⟨t, by simp⟩
  | _, _, .cons n t h, k + 1, _, e => by simpa using ints_at h (k := k) (by simpa using e)
theorem IntsAre.eraseIdx : ∀ {vs : List Value} {ns : List Int}, IntsAre vs ns → ∀ k : Nat, IntsAre (vs.eraseIdx k) (ns.eraseIdx k)
  | _, _, .nil, _ => .nil
  | _, _, .cons _ _ h, 0 => h
  | _, _, .cons n t h, k + 1 => .cons n t (IntsAre.eraseIdx h k)

section
variable {prog : Program} {w : World} {A : Around} {mg mb : Str → Option Value} {h : Heap}
theorem eraseIdx_map {α β : Type} (f : α → β) : ∀ (l : List α) (k : Nat), (l.map f).eraseIdx k = (l.eraseIdx k).map f
  | [], _ => rfl
  | _ :: _, 0 => rfl
  | a :: l, k + 1 => by simp [eraseIdx_map f l k]
theorem cons_erase_perm : ∀ (l : List Nat) (k : Nat) (h : k < l.length), (l[k] :: l.eraseIdx k).Perm l
  | a :: l, 0, _ => by simp
  | a :: l, k + 1, h => by
    have := cons_erase_perm l k (by simpa using h)
    simp only [List.getElem_cons_succ, List.eraseIdx_cons_succ]
    exact (List.Perm.swap a _ _).trans (this.cons a)
theorem small_len {n : Nat} (h : n ≤ 2000) : (n : Int) < 2 ^ 63 := by omega
set_option maxHeartbeats 2000000 in
theorem drawn_ok (B : Base w mg mb h) (room : Room A 1) {a : Addr} {vs : List Value} {ns : List Int} (hl : h.PlainList a vs.toArray) (hi : IntsAre vs ns) (hn : ns.length ≤ 4) {R : Value → Heap → Prop}
    (hr : ∀ h' i t, Ext h h' → i < 24 → R (bv i t) h') : T (model prog w) A (call (.ref 65) [.ref a]) h R := by
  refine tCallFn (binds := [("numbers", .ref a)]) room.depth (B.K 65 _ rfl) rfl B.lim (codeRec_of B.K (by kernel_rfl)) rfl (fun s e => .of_eq (by kernel_rfl)) (by decide) (locs rfl) (fun h₁ F => ?_)
  have B₁ := B.ext F.keep
  have W₁ := W.nil F
  refine tThen (tAssignSwap (tTuple (tArgs (tCall (B₁.blt B.N.nlist B.N.list (tCallTy (tArgs (tCall (B₁.blt B.N.nrange B.N.range (tCallTy (tArgs (tInt fun t₁ => tArgs0 (tRange1 fun h₂ u₂ v₂ e₂ g₂ => tArgs0 (tListRange room.deeper.handled (n := 4) g₂ (by decide) fun h₃ ys e₃ p₃ i₃ => tArgs (tList (tArgs0 ⟨small_line (by simp), tArgs0 ⟨small_line (by simp), ?_⟩⟩))))))))))))))))
  have W₂ := (W₁.ext e₂).add (b := .list ys) e₃ (fresh_size h₂) p₃
  generalize h₂.objs.size = al at W₂ ⊢
  have W₃ := W₂.add (b := .list []) (Ext.push _ (listObj [])) (fresh_size h₃) ⟨0, Heap.get?_push_size _ rfl⟩
  generalize h₃.objs.size = af at W₃ ⊢
  have W₄ := W₃.ext (Ext.push _ (tupObj [.ref al, .ref af]))
  refine tUnpack room.deeper.handled ⟨_, Heap.get?_push_size _ rfl, rfl, 0, rfl⟩ rfl fun h₅ e₅ => ?_
  have W₅ := W₄.ext e₅
  refine tOrder (tBindName (tStoreL W₅.fr.ns fun h₆ n₆ s₆ => ?_))
  have W₆ := W₅.set n₆ s₆
  refine tOrder (tBindName (tStoreL W₆.fr.ns fun h₇ n₇ s₇ => tOrder0 ?_))
  have W₇ := W₆.set n₇ s₇
  clear n₇ s₇ n₆ s₆ W₆ W₅ W₄ W₃ W₂ e₅ e₃ e₂ p₃ g₂ W₁ B₁
  show T _ _ (execs _ _) _ _
  have hl₇ := hl.at (W₇.keep _)
  have hal := W₇.fresh (a := al) (b := .list ys) (by simp)
  have haf := W₇.fresh (a := af) (b := .list []) (by simp)
  refine tThen (tFor (tSlice (tBinOp (tLoc W₇.fr.ns rfl (tBinOp (tList (tArgs (tInt fun t₀ => tArgs0 ⟨small_line (by simp), tInt fun t₁ => tMul4 (x := .int 0 t₀) ⟨0, Heap.get?_push_size _ rfl⟩ fun h₉ e₉ p₉ => ?_⟩))))))))
  have x₉ : Ext h₇ h₉ := Ext.trans (Ext.push _ (listObj [.int 0 t₀])) e₉
  have hlen := hi.length
  refine tAddL (hl₇.at (x₉ _)) p₉ (by simp; omega) fun hA eA pA => tNoPart (tPart (tInt fun t₃ => tNoPart ⟨_, _, none, some 4, none, rfl, pA.isList, by simp only [List.size_toArray]; exact small_line (by simp; omega), .none, .int _ _, .none, by simp, fun hB eB nB pB => ?_⟩))
  have hns : IntsAre (vs ++ [Value.int 0 t₀, Value.int 0 t₀, Value.int 0 t₀, Value.int 0 t₀]) (ns ++ [0, 0, 0, 0]) := IntsAre.append hi (.cons _ _ (.cons _ _ (.cons _ _ (.cons _ _ .nil))))
  have hcut := slice_ints_uptoW hns (y := 4) (by decide)
  generalize hvs4 : (slicePick (vs ++ [Value.int 0 t₀, Value.int 0 t₀, Value.int 0 t₀, Value.int 0 t₀]).toArray none (some 4) none).toList = vs4 at hcut
  generalize hns4 : (ns ++ [0, 0, 0, 0]).take (4 : Int).toNat = ns4 at hcut
  have hns4' : ns4.length = 4 := by rw [← hns4]; simp
  have pB' : hB.PlainList (hA.objs.size + 1) vs4.toArray := by rw [← hvs4]; simpa using pB
  have WB := (W₇.ext (Ext.trans x₉ eA)).add (b := .list vs4) eB nB pB'
  clear x₉ eA eB pB pA p₉ e₉ hvs4 hns4 pB' nB
  generalize hA.objs.size + 1 = an at WB ⊢
  have hl4 : hB.PlainList an vs4.toArray := WB.get (b := .list vs4) (by simp)
  refine tIterList hl4.isList ?_
  have WC := WB.add (b := .liter an 0) (Ext.push _ { cls := .type "list_iterator", data := .fields #[.ref an, .int 0 0] }) (fresh_size hB) ⟨_, Heap.get?_push_size _ rfl, rfl, rfl⟩
  generalize hB.objs.size = I at WC ⊢
  refine cFor (fun n h' => ∃ (m' : Str → Option Value) (k : Nat) (ls fs : List Nat) (lv fv : List Value), W h h.objs.size m' [(I, .liter an k), (an, .list vs4), (af, .list fv), (al, .list lv)] h' ∧
    m' "left" = some (.ref al) ∧ m' "found" = some (.ref af) ∧ NatsAre lv ls ∧ NatsAre fv fs ∧ (fs ++ ls).Perm [0, 1, 2, 3] ∧ ls.length = 4 - k ∧ k ≤ 4 ∧ n = 4 - k)
    ?_ 4 ⟨_, 0, [0, 1, 2, 3], [], _, _, WC, rfl, rfl, i₃, .nil, List.Perm.refl _, rfl, by decide, rfl⟩
  clear WC WB W₇ hl4 hl₇ i₃
  rintro n h₁ ⟨m', k, ls, fs, lv, fv, W₁, hle, hfo, hlv, hfv, hpm, hlk, hk, hn'⟩
  have hit : h₁.IsListIter I an k := W₁.get (b := .liter an k) (by simp)
  have hl4 : h₁.PlainList an vs4.toArray := W₁.get (b := .list vs4) (by simp)
  have hvl := hcut.length
  rcases Nat.lt_or_ge k 4 with hlt | hge
  · obtain ⟨tk, hvk⟩ := ints_at hcut (k := k) (List.getElem?_eq_getElem (by omega))
    generalize ns4[k] = x at hvk
    refine tNextItem hit hl4.isList (by simpa using hvk) fun h₂ i₂ s₂ => ?_
    have W₂ := W₁.upd (pre := []) (b' := .liter an (k + 1)) s₂.extBut i₂
    refine tStoreL W₂.fr.ns fun h₃ n₃ s₃ => ?_
    have W₃ := W₂.set n₃ s₃
    clear n₃ s₃ W₂ W₁ hit hl4 i₂ s₂
    have B₃ := B.ext W₃.keep
    have hlp : h₃.PlainList al lv.toArray := W₃.get (b := .list lv) (by simp)
    have hfp : h₃.PlainList af fv.toArray := W₃.get (b := .list fv) (by simp)
    have hlvl : lv.length = ls.length := by simpa using hlv.length
    have hfvl : fv.length = fs.length := by simpa using hfv.length
    have htot := hpm.length_eq
    simp only [List.length_append, List.length_cons, List.length_nil] at htot
    have hpos : (0 : Int) < (ls.length : Int) := by omega
    have hp0 := Int.fmod_nonneg_of_pos x hpos
    have hp1 := Int.fmod_lt_of_pos x hpos
    obtain ⟨p, hp⟩ : ∃ p : Nat, x.fmod (ls.length : Int) = (p : Int) := ⟨(x.fmod ls.length).toNat, by omega⟩
    have hpl : p < ls.length := by omega
    obtain ⟨tv, htv⟩ := ints_at hlv (k := p) (n := ((ls[p] : Nat) : Int)) (by rw [List.getElem?_map, List.getElem?_eq_getElem hpl]; rfl)
    refine tThen (tExpr (tMethList PySem.F.slot_list_append PySem.F.type_list_append (tLoc W₃.fr.ns hfo ⟨af, _, rfl, hfp, tCallSelf (tArgs (tMethList PySem.F.slot_list_pop PySem.F.type_list_pop (tLoc W₃.fr.ns hle ⟨al, _, rfl, hlp, tCallSelf (tArgs (tBinOp (tLoc W₃.fr.ns rfl (tCall (B₃.blt B.N.nlen B.N.len (tCallBlt (tArgs (tLoc W₃.fr.ns hle (tArgs0 (tLenList hlp.isList (by simp only [List.size_toArray]; exact small_len (by omega)) fun t₅ => tModI (by simp only [List.size_toArray]; omega) fun t₆ => tArgs0 (tPop (p := p) hlp (by simp only [List.size_toArray, hlvl]; exact hp) htv (by omega) fun h₅ p₅ s₅ => tArgs0 ?_)))))))))))⟩)))⟩)))
    have W₅ := W₃.upd (pre := [_, _, _]) (b' := .list (lv.eraseIdx p)) s₅.extBut p₅
    have hfp : h₅.PlainList af fv.toArray := W₅.get (b := .list fv) (by simp)
    refine tAppend hfp (small_line (by simp; omega)) fun h₆ p₆ s₆ => ?_
    have W₆ := W₅.upd (pre := [_, _]) (b' := .list (fv ++ [.int (ls[p] : Nat) tv])) s₆.extBut (by simpa [Ob.At] using p₆)
    show T _ _ (execs _ _) _ _
    refine tDone ⟨rfl, 4 - (k + 1), by omega, _, k + 1, ls.eraseIdx p, fs ++ [ls[p]], _, _, W₆, hle, hfo, ?_, ?_, ?_, ?_, by omega, rfl⟩
    · have := IntsAre.eraseIdx hlv p
      rwa [eraseIdx_map] at this
    · have := IntsAre.append hfv (.cons ((ls[p] : Nat) : Int) tv .nil)
      have e : (fs ++ [ls[p]]).map (fun (n : Nat) => (n : Int)) = fs.map (fun (n : Nat) => (n : Int)) ++ [((ls[p] : Nat) : Int)] := by simp
      show IntsAre _ _
      rw [e]
      exact this
    · refine List.Perm.trans ?_ hpm
      rw [List.append_assoc]
      refine List.Perm.append_left fs ?_
      exact cons_erase_perm ls p hpl
    · rw [List.length_eraseIdx_of_lt hpl]; omega
  · refine tNextEnd room.deeper.handled hit hl4.isList (by simp; omega) fun h₂ x₂ => tDone ?_
    have W₂ := W₁.lose (pre := []) x₂
    show T _ _ (execs _ _) _ _
    have B₂ := B.ext W₂.keep
    have hfp : h₂.PlainList af fv.toArray := W₂.get (b := .list fv) (by simp)
    obtain rfl : ls = [] := List.eq_nil_of_length_eq_zero (by omega)
    rw [List.append_nil] at hpm
    obtain ⟨i, hi24, hfs⟩ := perm_PL hpm
    have hfvl : fv.length = fs.length := by simpa using hfv.length
    have htot := hpm.length_eq
    simp only [List.length_cons, List.length_nil] at htot
    refine tThen (tReturn (tCall (B₂.blt B.N.nbytes B.N.bytes (tCallTy (tArgs (tLoc W₂.fr.ns hfo (tArgs0 (tBytesInts hfp.isList hfv (fun n hn => ?_) (small_line (by omega)) room.deeper.handled fun h₃ t₃ e₃ => ?_))))))))
    · obtain ⟨m, hm, rfl⟩ := List.mem_map.mp hn
      have := hpm.mem_iff.mp hm
      simp at this
      omega
    · have e : byteArr (fs.map fun (n : Nat) => (n : Int)) = (PL i).toArray := by
        rw [hfs, List.map_map]
        have := byteArr_u8 (PL i) id
        simpa [Function.comp_def] using this
      rw [e]
      exact hr h₃ i t₃ (Ext.trans W₂.keep e₃) hi24
end
end Mine

namespace Mine

theorem compTurn_out (elt t0 i0 t1 i1 : Expr) (ifs : List Expr) (scope : Scope) (pos : Pos) (it acc : Value) (env : Env) :
    compTurn (.ListComp elt [⟨t0, i0, [], 0⟩, ⟨t1, i1, ifs, 0⟩] scope pos) 0 it acc env = (standAt i0.pos >>= fun _ => pyNext it >>= fun r => match r with
      | none => pure (.done .next)
      | some v => letOwnedTupleGo t0 it v >>= fun _ => assign t0 env v >>= fun _ => eval i1 env >>= fun x => standAt i1.pos >>= fun _ => foldedSetIterable i1 env x >>= fun x =>
        holding [x] (pyIter x) >>= fun it' => runOwn (.compStart (.ListComp elt [⟨t0, i0, [], 0⟩, ⟨t1, i1, ifs, 0⟩] scope pos) 1 it' acc env) env >>= fun _ =>
          again (.compLoop (.ListComp elt [⟨t0, i0, [], 0⟩, ⟨t1, i1, ifs, 0⟩] scope pos) 0 it acc env)) := by rfl
theorem compTurn_in (elt t0 i0 t1 i1 : Expr) (c : Expr) (scope : Scope) (pos : Pos) (it acc : Value) (env : Env) :
    compTurn (.ListComp elt [⟨t0, i0, [], 0⟩, ⟨t1, i1, [c], 0⟩] scope pos) 1 it acc env = (standAt i1.pos >>= fun _ => pyNext it >>= fun r => match r with
      | none => pure (.done .next)
      | some v => letOwnedTupleGo t1 it v >>= fun _ => assign t1 env v >>= fun _ => (forIn [c] true fun c r => if r = true then do let ok ← isTrue c env (eval c env); pure (ForInStep.yield ok) else pure (ForInStep.yield r)) >>= fun ok =>
        if ok = true then (eval elt env >>= fun x => call (.builtin "list.append") [acc, x] >>= fun _ => pure ()) >>= fun _ => again (.compLoop (.ListComp elt [⟨t0, i0, [], 0⟩, ⟨t1, i1, [c], 0⟩] scope pos) 1 it acc env)
        else again (.compLoop (.ListComp elt [⟨t0, i0, [], 0⟩, ⟨t1, i1, [c], 0⟩] scope pos) 1 it acc env)) := by rfl

theorem W.base {h₀ h₁ h : Heap} {L : Addr} {m : Str → Option Value} {ow : List (Addr × Ob)} (e : Ext h₀ h₁) (hs : h₀.objs.size ≤ h₁.objs.size) (x : W h₁ L m ow h) : W h₀ L m ow h :=
  ⟨⟨x.fr.ns, Ext.trans e x.fr.keep, Nat.le_trans hs x.fr.above⟩, fun p hp => ⟨(x.own p hp).1, (x.own p hp).2.1, fresh_of e (x.own p hp).2.2⟩, x.dis⟩
theorem W.join {h₀ h : Heap} {L : Addr} {m : Str → Option Value} {ow : List (Addr × Ob)} {a : Addr} {b : Ob} (x : W h₀ L m ow h) (at' : b.At h a) (hL : a ≠ L) (n : h₀.get? a = none) (ha : ∀ p ∈ ow, a ≠ p.1) : W h₀ L m ((a, b) :: ow) h := by
  refine ⟨x.fr, fun p hp => ?_, List.pairwise_cons.mpr ⟨ha, x.dis⟩⟩
  rcases List.mem_cons.mp hp with rfl | hp
  · exact ⟨at', hL, n⟩
  · exact x.own p hp
theorem W.leave {h₀ h h' : Heap} {L : Addr} {m : Str → Option Value} {ow : List (Addr × Ob)} (x : W h₀ L m ow h) (hs : Heap.SameBut L h h') : Ext h₀ h' ∧ ∀ p ∈ ow, p.2.At h' p.1 :=
  ⟨fun b o e => hs.extBut b o (fun q => Nat.lt_irrefl _ (Nat.lt_of_lt_of_le (Heap.lt_size e) (q ▸ x.fr.above))) (x.fr.keep b o e), fun p hp => (x.own p hp).1.at fun o e => hs.extBut _ o (x.own p hp).2.1 e⟩
section
variable {prog : Program} {w : World} {A : Around} {env : Env} {h : Heap}
theorem tSelfRange {I : Addr} {n : Nat} {R : Value → Heap → Prop} (hh : A.handled = none) (hit : IsRangeIter h I 0 n 1) (hr : R (.ref I) h) : T (model prog w) A (pyIter (.ref I)) h R := fun s Q E hs hQ => by
  subst hs
  have Wk := Walks.range (prog := prog) (w := w) (A := A) hh I 0 1 n
  exact Wk.self 0 _ _ _ (by simpa using hit) (hQ _ _ s.toks hr)
theorem cStart1 {elt t0 i0 t1 i1 : Expr} {ifs : List Expr} {scope : Scope} {pos : Pos} {it acc : Value} {R : Flow → Heap → Prop}
    (H0 : C (model prog w) A (.compLoop (.ListComp elt [⟨t0, i0, [], 0⟩, ⟨t1, i1, ifs, 0⟩] scope pos) 1 it acc env) h R)
    (H : T (model prog w) A (pyIter it) h (fun it' h' => C (model prog w) A (.compLoop (.ListComp elt [⟨t0, i0, [], 0⟩, ⟨t1, i1, ifs, 0⟩] scope pos) 1 it' acc env) h' R)) :
    C (model prog w) A (.compStart (.ListComp elt [⟨t0, i0, [], 0⟩, ⟨t1, i1, ifs, 0⟩] scope pos) 1 it acc env) h R := fun s P hs hP => by
  refine codeAny_of_tree ?_
  show wpAny _ _ ((compStart (.ListComp elt [⟨t0, i0, [], 0⟩, ⟨t1, i1, ifs, 0⟩] scope pos) 1 it acc env).onRaise (fun x => do noteFrame x env; standAt theWindowsPlace)) _ _ s
  refine wpAny_notedAt ?_
  unfold compStart
  show wpAny _ _ (ask >>= _) _ _ s
  refine wpAny_bind (wpAny_askSetting (wpAny_ite ?_))
  split
  · first
      | exact wpAny_bind (wpAny_pure (wpAny_pure (And.intro rfl (H0 _ _ hs hP))))
      | exact wpAny_pure (And.intro rfl (H0 _ _ hs hP))
  · refine wpAny_bind (wpAny_rule ?_)
    show wpAny _ _ (standAt i1.pos >>= _) _ _ s
    exact wpAny_bind (wpAny_standAt (wpAny_bind (H _ _ _ hs fun it' h' k H' => wpAny_pure (And.intro rfl (H' _ _ rfl hP)))))
theorem cStart0 {elt t0 i0 : Expr} {ifs : List Expr} {rest : List Comprehension} {scope : Scope} {pos : Pos} {it acc : Value} {R : Flow → Heap → Prop}
    (H0 : C (model prog w) A (.compLoop (.ListComp elt (⟨t0, i0, ifs, 0⟩ :: rest) scope pos) 0 it acc env) h R)
    (H : T (model prog w) A (pyIter it) h (fun it' h' => C (model prog w) A (.compLoop (.ListComp elt (⟨t0, i0, ifs, 0⟩ :: rest) scope pos) 0 it' acc env) h' R)) :
    C (model prog w) A (.compStart (.ListComp elt (⟨t0, i0, ifs, 0⟩ :: rest) scope pos) 0 it acc env) h R := fun s P hs hP =>
  codeAny_compStart_list (H0 _ _ hs hP) (H _ _ _ hs fun it' h' k H' => H' _ _ rfl hP)
theorem cOut {elt i0 t1 i1 : Expr} {x : Str} {px : Pos} {ifs : List Expr} {scope : Scope} {pos : Pos} {it acc : Value} {R : Flow → Heap → Prop} (I : Nat → Heap → Prop)
    (turn : ∀ n h, I n h → T (model prog w) A (pyNext it) h (fun r h₁ => match r with
      | none => R .next h₁
      | some v => T (model prog w) A (storeName env x v) h₁ (fun _ h₂ => T (model prog w) A (eval i1 env) h₂ (fun xv h₃ => T (model prog w) A (pyIter xv) h₃ (fun it' h₄ =>
          C (model prog w) A (.compStart (.ListComp elt [⟨.Name x px, i0, [], 0⟩, ⟨t1, i1, ifs, 0⟩] scope pos) 1 it' acc env) h₄ (fun _ h₅ => ∃ m, m < n ∧ I m h₅))))))
    (n : Nat) (hI : I n h) (hs' : ∀ x, foldedSetIterable i1 env x = pure x := by intro _; rfl) : C (model prog w) A (.compLoop (.ListComp elt [⟨.Name x px, i0, [], 0⟩, ⟨t1, i1, ifs, 0⟩] scope pos) 0 it acc env) h R := fun s P hs hP => by
  subst hs
  refine codeAny_loop rfl (fun n s' => I n s'.heap ∧ ∃ h' k, s' = { s with heap := h', toks := k }) (fun n s' hI => ?_) n ⟨hI, s.heap, s.toks, rfl⟩
  obtain ⟨hI, h', k, rfl⟩ := hI
  show wpAny _ A ((compTurn (.ListComp elt [⟨.Name x px, i0, [], 0⟩, ⟨t1, i1, ifs, 0⟩] scope pos) 0 it acc env).onRaise (fun x => do noteFrame x env; theTreesLotGoes x)) _ _ _
  refine wpAny_noted ?_
  rw [compTurn_out]
  refine wpAny_bind (wpAny_standAt (wpAny_bind (turn n h' hI _ _ _ rfl fun r h₁ k₁ H => ?_)))
  cases r with
  | none => exact wpAny_pure (hP _ _ _ H)
  | some v =>
    refine wpAny_bind (wpAny_of_eq (a := ()) rfl ?_)
    refine wpAny_bind ((tAssignName H) _ _ _ rfl fun _ h₂ k₂ H2 => wpAny_bind (H2 _ _ _ rfl fun xv h₃ k₃ H3 => wpAny_bind (wpAny_standAt (wpAny_bind (wpAny_of_eq (hs' xv) (wpAny_bind (wpAny_holding (H3 _ _ _ rfl fun it' h₄ k₄ H4 => ?_))))))))
    refine wpAny_bind ((tRunOwn H4) _ _ _ rfl fun fl h₅ k₅ H5 => ?_)
    obtain ⟨m, hm, hI⟩ := H5
    exact wpAny_pure ⟨rfl, m, hm, hI, h₅, k₅, rfl⟩
theorem cIn {elt t0 i0 i1 c : Expr} {x : Str} {px : Pos} {scope : Scope} {pos : Pos} {it acc : Value} {R : Flow → Heap → Prop} (I : Nat → Heap → Prop)
    (turn : ∀ n h, I n h → T (model prog w) A (pyNext it) h (fun r h₁ => match r with
      | none => R .next h₁
      | some v => T (model prog w) A (storeName env x v) h₁ (fun _ h₂ => T (model prog w) A (isTrue c env (eval c env)) h₂ (fun ok h₃ =>
          if ok then T (model prog w) A (eval elt env) h₃ (fun y h₄ => T (model prog w) A (call (.builtin "list.append") [acc, y]) h₄ (fun _ h₅ => ∃ m, m < n ∧ I m h₅)) else ∃ m, m < n ∧ I m h₃))))
    (n : Nat) (hI : I n h) : C (model prog w) A (.compLoop (.ListComp elt [⟨t0, i0, [], 0⟩, ⟨.Name x px, i1, [c], 0⟩] scope pos) 1 it acc env) h R := fun s P hs hP => by
  subst hs
  refine codeAny_loop rfl (fun n s' => I n s'.heap ∧ ∃ h' k, s' = { s with heap := h', toks := k }) (fun n s' hI => ?_) n ⟨hI, s.heap, s.toks, rfl⟩
  obtain ⟨hI, h', k, rfl⟩ := hI
  show wpAny _ A ((compTurn (.ListComp elt [⟨t0, i0, [], 0⟩, ⟨.Name x px, i1, [c], 0⟩] scope pos) 1 it acc env).onRaise (fun x => do noteFrame x env; theTreesLotGoes x)) _ _ _
  refine wpAny_noted ?_
  rw [compTurn_in]
  refine wpAny_bind (wpAny_standAt (wpAny_bind (turn n h' hI _ _ _ rfl fun r h₁ k₁ H => ?_)))
  cases r with
  | none => exact wpAny_pure (hP _ _ _ H)
  | some v =>
    refine wpAny_bind (wpAny_of_eq (a := ()) rfl ?_)
    refine wpAny_bind ((tAssignName H) _ _ _ rfl fun _ h₂ k₂ H2 => ?_)
    refine wpAny_bind ?_
    rw [List.forIn_cons, if_pos rfl]
    refine wpAny_bind (wpAny_bind (H2 _ _ _ rfl fun ok h₃ k₃ H3 => wpAny_pure ?_))
    dsimp only
    rw [List.forIn_nil]
    refine wpAny_pure ?_
    cases ok with
    | false =>
      obtain ⟨m, hm, hI⟩ := H3
      exact wpAny_pure ⟨rfl, m, hm, hI, h₃, k₃, rfl⟩
    | true =>
      exact wpAny_bind (wpAny_bind (H3 _ _ _ rfl fun y h₄ k₄ H4 => wpAny_bind (H4 _ _ _ rfl fun _ h₅ k₅ H5 => wpAny_pure (by
        obtain ⟨m, hm, hI⟩ := H5
        exact wpAny_pure ⟨rfl, m, hm, hI, h₅, k₅, rfl⟩))))
theorem tCompG {elt : Expr} {g : Comprehension} {gs : List Comprehension} {scope : Scope} {cl : List (Str × Addr)} {pos : Pos} {R : Value → Heap → Prop}
    (hclos : closureFor scope env = pure cl) (hcell : ∀ y ∈ scope.names, y.2 ≠ .cell) (hkind : scope.kind = .function)
    (hnames : ∀ y ∈ scope.names, y.2 = .local → scope.names.lookup y.1 = some .local) (hga : firstAsync (g :: gs) = false)
    (H : T (model prog w) A (firstIter (g :: gs) env) h (fun xv h₁ => T (model prog w) A (pyIter xv) h₁ (fun it h₂ => ∀ h₃, W h₂ (h₂.objs.size + 1) (fun _ => none) [(h₂.objs.size, .list [])] h₃ →
      C (model prog w) A (.compStart (.ListComp elt (g :: gs) scope pos) 0 it (.ref h₂.objs.size) (compEnvC scope cl (h₂.objs.size + 1) env)) h₃
        (fun _ h₄ => ∃ m, h₄.Ns (h₂.objs.size + 1) m ∧ ∀ h', Heap.SameBut (h₂.objs.size + 1) h₄ h' → R (.ref h₂.objs.size) h'))))
    (hs' : ∀ x, foldedSetIterable g.iter env x = pure x := by intro _; rfl) : T (model prog w) A (eval (.ListComp elt (g :: gs) scope pos) env) h R := fun s Q E hs hQ => by
  rw [eval_ListComp, hga]
  refine wpAny_comprehension_free (use := none) rfl hs' hclos hkind hnames (H _ _ _ hs fun xv h₁ k₁ H1 => H1 _ _ _ rfl fun it h₂ k₂ H2 => ?_)
  refine wpAny_newObj_type (wpAny_newFunctionEnv hcell (by intro y hy; simp at hy) (fun h₃ hns hsb => ?_) hkind)
  dsimp only at hns hsb ⊢
  have e1 : (h₂.push { cls := .type "list", dict := none, data := .seq ([] : List Value).toArray }).objs.size = h₂.objs.size + 1 := Heap.size_push _ _
  simp only [e1] at hns hsb ⊢
  have F : Fr h₂ (h₂.objs.size + 1) h₃ (fun _ => none) := by
    refine ⟨hns, fun b o e => ?_, Nat.le_succ _⟩
    exact hsb.extBut b o (Nat.ne_of_lt (Nat.lt_succ_of_lt (Heap.lt_size e))) (Heap.get?_push_of_some _ (Heap.get?_push_of_some _ e))
  have W₃ : W h₂ (h₂.objs.size + 1) (fun _ => none) [(h₂.objs.size, .list [])] h₃ := by
    refine ⟨F, fun p hp => ?_, List.pairwise_singleton _ _⟩
    rw [List.mem_singleton.mp hp]
    exact ⟨⟨0, hsb.extBut _ _ (Nat.ne_of_lt (Nat.lt_succ_self _)) (Heap.get?_push_of_some _ (Heap.get?_push_size _ rfl))⟩, Nat.ne_of_lt (Nat.lt_succ_self _), fresh_size h₂⟩
  refine H2 h₃ W₃ _ _ rfl fun fl h₄ k₄ H4 => ?_
  obtain ⟨m, n₄, hr⟩ := H4
  exact ⟨m, n₄, fun h' hs => hQ _ _ k₄ (hr h' hs)⟩
end
end Mine

namespace Mine

def cntI (l : List UInt8) (k : Nat) : Nat → Nat
  | 0 => 0
  | j + 1 => cntI l k j + (if l.getD k 0 < l.getD j 0 then 1 else 0)
def cntO (l : List UInt8) : Nat → Nat
  | 0 => 0
  | k + 1 => cntO l k + cntI l k k
def evenL (i : Nat) : Bool := (cntO (PL i) 4) % 2 == 0
theorem cntI_le (l : List UInt8) (k : Nat) : ∀ j, cntI l k j ≤ j
  | 0 => Nat.le_refl _
  | j + 1 => by have := cntI_le l k j; simp only [cntI]; split <;> omega
theorem cntO_le (l : List UInt8) : ∀ k, cntO l k ≤ k * k
  | 0 => Nat.le_refl _
  | k + 1 => by have := cntO_le l k; have := cntI_le l k k; simp only [cntO, Nat.succ_mul, Nat.mul_succ]; omega

theorem cell_ext {h h' : Heap} {a : Addr} {v : Option Value} (x : h.IsCell a v) (e : Ext h h') : h'.IsCell a v := let ⟨o, ho, r⟩ := x; ⟨o, e _ _ ho, r⟩

section
variable {prog : Program} {w : World} {A : Around} {mg mb : Str → Option Value} {h : Heap}
set_option maxHeartbeats 2000000 in
theorem even_ok (B : Base w mg mb h) (room : Room A 1) {i : Nat} {t : Tok} (hi : i < 24) {R : Value → Heap → Prop}
    (hr : ∀ h', Ext h h' → R (.bool (evenL i)) h') : T (model prog w) A (call (.ref 70) [bv i t]) h R := by
  refine tCallFnC (binds := [("order", bv i t)]) room.depth (B.K 70 _ rfl) rfl B.lim (codeRec_of B.K (by kernel_rfl)) rfl (by kernel_rfl) rfl (all1 (.inr ⟨rfl, rfl⟩)) (fun h₁ F hc => ?_)
  have hcell : h₁.IsCell (h.objs.size + 1) (some (bv i t)) := hc "order" _ rfl
  have B₁ := B.ext F.keep
  have hP4 := PL_length i hi
  refine tThen (tReturn (tCmp (tBinOp (tCall (B₁.blt B.N.nlen B.N.len (tCallBlt (tArgs (tCompG rfl (by decide) rfl (by decide) rfl ?_))))))))
  show T _ _ (eval _ _) _ _
  refine tCall (B₁.blt B.N.nrange B.N.range (tCallTy (tArgs (tInt fun t₁ => tArgs0 (tRange1 fun h₂ u₂ v₂ e₂ g₂ => tIterRange g₂ rfl ?_)))))
  intro h₃ W₃
  have eD := Heap.size_push h₂ { cls := .type "range_iterator", data := .fields #[rawInt 0, rawInt (Builtin.Range.rangeSize 0 4 1), rawInt 1] }
  have hit₃ : IsRangeIter h₃ h₂.objs.size 0 4 1 := W₃.keep _ _ (Heap.get?_push_size h₂ (o := { cls := .type "range_iterator", data := .fields #[rawInt 0, rawInt (Builtin.Range.rangeSize 0 4 1), rawInt 1] }) rfl)
  have W₄ := W.base (Ext.push _ _) (by rw [eD]; exact Nat.le_succ _) W₃
  generalize (h₂.push { cls := .type "range_iterator", data := .fields #[rawInt 0, rawInt (Builtin.Range.rangeSize 0 4 1), rawInt 1] }).objs.size = D at W₄ eD ⊢
  have W₅ := W.join (a := h₂.objs.size) (b := .riter 0 4 1) W₄ hit₃ (by rw [eD]; exact Nat.ne_of_lt (Nat.lt_succ_of_lt (Nat.lt_succ_self _))) (fresh_size h₂) (fun p hp => by rw [List.mem_singleton.mp hp, eD]; exact Nat.ne_of_lt (Nat.lt_succ_self _))
  clear W₄ W₃ hit₃ eD
  have B₂ := B₁.ext e₂
  have hcell₂ := cell_ext hcell e₂
  generalize h₂.objs.size = I0 at W₅ ⊢
  refine (fun (m : C _ _ (.compLoop _ _ _ _ _) _ _) => cStart0 m (tSelfRange room.deeper.handled (W₅.get (b := .riter 0 4 1) (by simp)) m)) ?_
  refine cOut (fun n h' => ∃ (m' : Str → Option Value) (k : Nat) (ys : List Value), W h₂ (D + 1) m' [(I0, .riter k (4 - k) 1), (D, .list ys)] h' ∧ ys.length = cntO (PL i) k ∧ k ≤ 4 ∧ n = 4 - k) ?_ 4 ⟨_, 0, [], W₅, rfl, by decide, rfl⟩
  clear W₅
  rintro n h₃ ⟨m', k, ys, W₃, hy, hk, hn⟩
  have hit : IsRangeIter h₃ I0 k (4 - k) 1 := W₃.get (b := .riter k (4 - k) 1) (by simp)
  rcases Nat.lt_or_ge k 4 with hlt | hge
  · refine tNextRange hit (by omega) fun h₄ tk i₄ s₄ => ?_
    have W₄ := W₃.upd (pre := []) (b' := .riter (k + 1) (4 - k - 1) 1) s₄.extBut i₄
    refine tStoreL W₄.fr.ns fun h₅ n₅ s₅ => ?_
    have W₅ := W₄.set n₅ s₅
    clear n₅ s₅ W₄ W₃ hit i₄ s₄
    have B₅ := B₂.ext W₅.keep
    refine tCall (B₅.blt B.N.nrange B.N.range (tCallTy (tArgs (tLoc W₅.fr.ns rfl (tArgs0 (tRange1 fun h₆ u₆ v₆ e₆ g₆ => tIterRange g₆ (small_one (by omega) (by omega) (by omega) (by omega)) ?_))))))
    have hsz : Builtin.Range.rangeSize 0 k 1 = k := by rw [rangeSize_one]; split <;> omega
    rw [hsz]
    have W₇ := (W₅.ext e₆).add (b := .riter 0 k 1) (Ext.push _ { cls := .type "range_iterator", data := .fields #[rawInt 0, rawInt k, rawInt 1] }) (fresh_size h₆) (Heap.get?_push_size h₆ rfl)
    clear W₅ B₅ e₆ g₆
    generalize h₆.objs.size = J at W₇ ⊢
    refine (fun (m : C _ _ (.compLoop _ _ _ _ _) _ _) => cStart1 m (tSelfRange room.deeper.handled (W₇.get (b := .riter 0 k 1) (by simp)) m)) ?_
    refine cIn (fun n' h' => ∃ (m' : Str → Option Value) (j : Nat) (ys : List Value), W h₂ (D + 1) m' [(J, .riter j (k - j) 1), (I0, .riter (k + 1) (4 - k - 1) 1), (D, .list ys)] h' ∧ m' "k" = some (.int k tk) ∧ ys.length = cntO (PL i) k + cntI (PL i) k j ∧ j ≤ k ∧ n' = k - j)
      ?_ k ⟨_, 0, ys, W₇, rfl, by rw [hy]; rfl, Nat.zero_le _, rfl⟩
    clear W₇ hy ys
    rintro n' h₃ ⟨m', j, ys, W₃, hmk, hy, hj, hn'⟩
    have hit : IsRangeIter h₃ J j (k - j) 1 := W₃.get (b := .riter j (k - j) 1) (by simp)
    rcases Nat.lt_or_ge j k with hjl | hjg
    · refine tNextRange hit (by omega) fun h₄ tj i₄ s₄ => ?_
      have W₄ := W₃.upd (pre := []) (b' := .riter (j + 1) (k - j - 1) 1) s₄.extBut i₄
      refine tStoreL W₄.fr.ns fun h₅ n₅ s₅ => ?_
      have W₅ := W₄.set n₅ s₅
      clear n₅ s₅ W₄ W₃ hit i₄ s₄
      have hc₅ := cell_ext hcell₂ W₅.keep
      refine tIsCmp (tSub (tCell (c := h.objs.size + 1) rfl hc₅ (tLoc W₅.fr.ns rfl (tSubBytes (by rw [hP4]; decide) (by omega) (by rw [hP4]; omega) fun t₇ => tSub (tCell (c := h.objs.size + 1) rfl hc₅ (tLoc W₅.fr.ns hmk (tSubBytes (by rw [hP4]; decide) (by omega) (by rw [hP4]; omega) fun t₈ => tGt (tTruthyBool ?_))))))))
      have e1 : ((k : Int) - (j : Int) - 1) = (k : Int) - ((j + 1 : Nat) : Int) := by omega
      have e2 : ((j : Int) + 1) = ((j + 1 : Nat) : Int) := by omega
      rw [e1, e2] at W₅
      have hgt : decide (((((PL i).getD (k : Int).toNat 0).toNat : Nat) : Int) < (((PL i).getD (j : Int).toNat 0).toNat : Nat)) = decide ((PL i).getD k 0 < (PL i).getD j 0) := by
        simp only [Int.toNat_natCast]
        refine decide_eq_decide.mpr ?_
        rw [UInt8.lt_iff_toNat_lt]
        omega
      rw [hgt]
      by_cases hc' : (PL i).getD k 0 < (PL i).getD j 0
      · refine ifT (by simpa using hc') (tInt fun t₉ => ?_)
        have hyp : h₅.PlainList D ys.toArray := W₅.get (b := .list ys) (by simp)
        have := cntO_le (PL i) k
        have := cntI_le (PL i) k j
        have : k * k ≤ 3 * 3 := Nat.mul_le_mul (by omega) (by omega)
        refine tAppend hyp (small_line (by simp; omega)) fun h₆ p₆ s₆ => ⟨k - (j + 1), by omega, ?_⟩
        have W₆ := W₅.upd (pre := [_, _]) (b' := .list (ys ++ [.int 1 t₉])) s₆.extBut (by simpa [Ob.At] using p₆)
        exact ⟨_, j + 1, _, W₆, hmk, by rw [List.length_append, hy, cntI, if_pos hc', Nat.add_assoc]; rfl, hjl, rfl⟩
      · refine ifF (by simpa using hc') ⟨k - (j + 1), by omega, _, j + 1, ys, W₅, hmk, by rw [hy, cntI, if_neg hc']; rfl, hjl, rfl⟩
    · refine tNextRangeEnd room.deeper.handled hit (by omega) fun h₄ x₄ => ⟨4 - (k + 1), by omega, ?_⟩
      have W₄ := W₃.lose (pre := []) x₄
      have e1 : ((4 : Int) - (k : Int) - 1) = 4 - ((k + 1 : Nat) : Int) := by omega
      have e2 : ((k : Int) + 1) = ((k + 1 : Nat) : Int) := by omega
      rw [e1, e2] at W₄
      have ejk : j = k := by omega
      subst ejk
      exact ⟨_, j + 1, ys, W₄, hy, hlt, rfl⟩
  · refine tNextRangeEnd room.deeper.handled hit (by omega) fun h₄ x₄ => ?_
    have W₄ := W₃.lose (pre := []) x₄
    obtain rfl : k = 4 := by omega
    refine ⟨_, W₄.fr.ns, fun h₅ s₅ => ?_⟩
    obtain ⟨e₅, hat⟩ := W₄.leave s₅
    have hyp : h₅.PlainList D ys.toArray := hat (D, .list ys) (by simp)
    have := cntO_le (PL i) 4
    refine tArgs0 (tLenList hyp.isList (small_len (by simp; omega)) fun t₆ => tInt fun t₇ => tModI (by decide) fun t₈ => tInt fun t₉ => tEqInt ?_)
    have e : ((ys.toArray.size : Int).fmod 2 == 0) = evenL i := by
      simp only [List.size_toArray, hy, evenL]
      rw [Int.fmod_eq_emod_of_nonneg _ (by decide)]
      generalize cntO (PL i) 4 = c
      rw [Bool.eq_iff_iff]
      simp only [beq_iff_eq]
      omega
    rw [e]
    exact hr h₅ (Ext.trans F.keep (Ext.trans e₂ e₅))
end
end Mine

namespace Mine

def insS (x : Nat) : List Nat → List Nat
  | [] => [x]
  | y :: r => if x ≤ y then x :: y :: r else y :: insS x r
def sortL : List Nat → List Nat
  | [] => []
  | x :: r => insS x (sortL r)
theorem insS_perm (x : Nat) : ∀ l, (insS x l).Perm (x :: l)
  | [] => List.Perm.refl _
  | y :: r => by
    rw [insS]
    split
    · exact List.Perm.refl _
    · exact ((insS_perm x r).cons y).trans (List.Perm.swap x y r)
theorem sortL_perm : ∀ l, (sortL l).Perm l
  | [] => List.Perm.refl _
  | x :: r => (insS_perm x _).trans ((sortL_perm r).cons x)
theorem insS_pair (x : Nat) : ∀ {l : List Nat}, l.Pairwise (· ≤ ·) → (insS x l).Pairwise (· ≤ ·)
  | [], _ => List.pairwise_singleton _ _
  | y :: r, h => by
    rw [insS]
    have h' := List.pairwise_cons.mp h
    split
    · rename_i hle
      refine List.pairwise_cons.mpr ⟨fun z hz => ?_, h⟩
      rcases List.mem_cons.mp hz with rfl | hz
      · exact hle
      · exact Nat.le_trans hle (h'.1 z hz)
    · rename_i hle
      refine List.pairwise_cons.mpr ⟨fun z hz => ?_, insS_pair x h'.2⟩
      rcases List.mem_cons.mp ((insS_perm x r).mem_iff.mp hz) with rfl | hz
      · omega
      · exact h'.1 z hz
theorem sortL_pair : ∀ l, (sortL l).Pairwise (· ≤ ·)
  | [] => .nil
  | x :: r => insS_pair x (sortL_pair r)
theorem same_sorted : ∀ {a b : List Nat}, a.Perm b → a.Pairwise (· ≤ ·) → b.Pairwise (· ≤ ·) → a = b
  | [], b, hp, _, _ => (List.Perm.nil_eq hp)
  | x :: a, [], hp, _, _ => by have := hp.length_eq; simp at this
  | x :: a, y :: b, hp, ha, hb => by
    have ha' := List.pairwise_cons.mp ha
    have hb' := List.pairwise_cons.mp hb
    have hx : x ∈ y :: b := hp.mem_iff.mp (List.mem_cons_self ..)
    have hy : y ∈ x :: a := hp.mem_iff.mpr (List.mem_cons_self ..)
    have : x = y := by
      rcases List.mem_cons.mp hx with h | h
      · exact h
      · rcases List.mem_cons.mp hy with h2 | h2
        · exact h2.symm
        · exact Nat.le_antisymm (ha'.1 y h2) (hb'.1 x h)
    subst this
    rw [same_sorted (List.Perm.cons_inv hp) ha'.2 hb'.2]

def ix (l : List UInt8) : Option Nat := PLt.findIdx? (· == l)
theorem ix_PL : ∀ i < 24, ix (PL i) = some i := by decide +kernel
theorem ix_some {l : List UInt8} {a : Nat} (h : ix l = some a) : a < 24 ∧ l = PL a := by
  unfold ix at h
  obtain ⟨hlt, hp, _⟩ := List.findIdx?_eq_some_iff_getElem.mp h
  refine ⟨hlt, ?_⟩
  have : PLt[a] = l := by simpa using hp
  rw [← this]
  unfold PL
  rw [List.getD_eq_getElem?_getD, List.getElem?_eq_getElem hlt]
  rfl
def idxOf : Value → Nat
  | .bytes b _ => (ix b.toList).getD 0
  | _ => 0
theorem Ord1.idx {v : Value} {i : Nat} (h : Ord1 v i) : idxOf v = i := by
  obtain ⟨hi, t, rfl⟩ := h
  simp [idxOf, ix_PL i hi]
theorem Ords.idx {vs : List Value} {is : List Nat} (h : Ords vs is) : vs.map idxOf = is := by
  induction h with
  | nil => rfl
  | cons h1 _ ih => rw [List.map_cons, h1.idx, ih]
theorem Ords.all {vs : List Value} {is : List Nat} (h : Ords vs is) : ∀ v ∈ vs, Ord1 v (idxOf v) := by
  induction h with
  | nil => intro v hv; cases hv
  | cons h1 _ ih =>
    intro v hv
    rcases List.mem_cons.mp hv with rfl | hv
    · rw [h1.idx]; exact h1
    · exact ih v hv
theorem ords_map : ∀ {vs : List Value}, (∀ v ∈ vs, Ord1 v (idxOf v)) → Ords vs (vs.map idxOf)
  | [], _ => .nil
  | v :: vs, h => .cons (h v (List.mem_cons_self ..)) (ords_map fun u hu => h u (List.mem_cons_of_mem _ hu))

abbrev ordKind : PyProof.Rows.KeyKind where
  α := Nat
  blt a b := decide (a < b)
  irrefl a := by simp
  trans a b c h1 h2 := by simp only [decide_eq_true_eq] at *; omega
  negTrans a b c h := by simp only [decide_eq_true_eq] at *; omega
  total a b h1 h2 := by simp only [decide_eq_false_iff_not] at *; omega
  keyOf v := match v with | .bytes b _ => ix b.toList | _ => none
  dflt := 0
theorem ordKind_oneLt : ordKind.OneLt := by
  intro prog w A E s x y a b Q ha hb h
  cases x <;> simp only [ordKind, reduceCtorEq] at ha
  cases y <;> simp only [ordKind, reduceCtorEq] at hb
  rename_i bx tx by' ty
  obtain ⟨ha24, ea⟩ := ix_some ha
  obtain ⟨hb24, eb⟩ := ix_some hb
  rw [oneLt'_eq]
  simp only [if_true]
  refine wpAny_bind (wpAny_cRoomFor_byValue rfl ?_)
  refine wpAny_bind (wpAny_callSpecialIfBound?_slot (PySem.W.typeIs_bytes s bx tx) FB2.slot_bytes_lt (wpAny_call_entry FB2.slot_bytes_lt (PySem.W.typeIs_bytes s bx tx) FB2.entry_bytes_lt ?_ (FB2.args_bytes_lt _ _)))
  show wpAny _ _ (isInstance (.bytes by' ty) (.type "bytes") >>= fun r => _) _ _ s
  refine wpAny_bind (wpAny_isInstance (PySem.W.typeIs_bytes s by' ty) PySem.F.bm_sub ?_)
  refine wpAny_pure ⟨_, rfl, ?_⟩
  refine wpAny_truthy_bool ?_
  rw [ea, eb, PL_lt a ha24 b hb24]
  exact h

theorem firstOf_bytes (b : Array UInt8) (t : Tok) : firstOfTuple' (.bytes b t) = pure none := rfl
theorem mapM_first_ords {vs : List Value} {is : List Nat} (h : Ords vs is) : vs.mapM firstOfTuple' = pure (vs.map fun _ => none) := by
  induction h with
  | nil => simp
  | cons h1 _ ih => obtain ⟨_, t, rfl⟩ := h1; rw [List.mapM_cons, firstOf_bytes, ih]; simp
theorem mapM_type_ords {vs : List Value} {is : List Nat} (h : Ords vs is) : vs.mapM typeOf = pure (vs.map fun _ => Value.type "bytes") := by
  induction h with
  | nil => simp
  | cons h1 _ ih =>
    obtain ⟨_, t, rfl⟩ := h1
    rw [List.mapM_cons, ih]
    show (pure (Value.type "bytes") >>= fun b => pure _ >>= fun bs => pure (b :: bs)) = _
    simp
theorem keyKind_ords {v₁ v₂ : Value} {vs : List Value} {is : List Nat} (hS : Ords (v₁ :: v₂ :: vs) is) : keyKind' (v₁ :: v₂ :: vs).toArray = pure oneType' := by
  rw [keyKind'_eq, List.mapM_toArray, mapM_first_ords hS]
  simp only [map_pure, pure_bind]
  rw [if_neg (by simp), if_neg (by simp)]
  rw [oneTypeOnly'_eq, List.mapM_toArray, mapM_type_ords hS]
  simp only [map_pure, pure_bind]
  have hall : ((List.map (fun _ => Value.type "bytes") (v₁ :: v₂ :: vs)).toArray.all fun x => x == Value.type "bytes") = true := by
    simp only [List.all_toArray, List.all_map, List.all_eq_true]
    intro _ _
    rfl
  have h0 : (List.map (fun _ => Value.type "bytes") (v₁ :: v₂ :: vs)).toArray[0]? = some (Value.type "bytes") := by simp
  rw [h0]
  simp only [hall, if_true, pure_bind, Option.isSome_some]
theorem keyOf_idx {v : Value} (h : Ord1 v (idxOf v)) : ordKind.keyOf v = some (idxOf v) := by
  obtain ⟨hi, t, e⟩ := h
  have e2 : idxOf v = idxOf v := rfl
  generalize hj : idxOf v = j at hi e
  subst e
  show ix (PL j).toArray.toList = _
  rw [List.toList_toArray, ix_PL j hi]
theorem sorted_out_ord {vs : List Value} {is : List Nat} (hS : Ords vs is) {xs : Array Keyed} (hp : xs.Perm (pairsOf vs)) (hs : SortedToK ordKind xs (pairsOf vs).size) :
    Ords (xs.map (·.2)).toList (sortL is) := by
  have hl : xs.toList.Perm (vs.zip vs) := by rw [← pairsOf_toList]; exact Array.perm_iff_toList_perm.mp hp
  have hmem : ∀ p, p ∈ xs.toList → p.1 = p.2 ∧ p.1 ∈ vs := fun p hp' => mem_zip_self (hl.mem_iff.mp hp')
  have e : (xs.map (·.2)).toList = xs.toList.map (·.1) := by
    rw [Array.toList_map]; exact List.map_congr_left fun p hp' => (hmem p hp').1.symm
  rw [e]
  have h1 : Ords (xs.toList.map (·.1)) ((xs.toList.map (·.1)).map idxOf) := ords_map fun v hv => by
    obtain ⟨p, hp', rfl⟩ := List.mem_map.mp hv
    exact hS.all _ (hmem p hp').2
  have e2 : (xs.toList.map (·.1)).map idxOf = sortL is := by
    refine same_sorted (List.Perm.trans ?_ (sortL_perm is).symm) ?_ (sortL_pair is)
    · have h1 := (hl.map (·.1)).map idxOf
      rw [List.map_fst_zip (Nat.le_refl _), hS.idx] at h1
      exact h1
    · rw [List.pairwise_iff_getElem]
      intro i j hi hj hij
      have hi' : i < xs.size := by simpa using hi
      have hj' : j < xs.size := by simpa using hj
      have h1 := hs i j (Nat.le_of_lt hij) (by rw [← hp.size_eq]; exact hj')
      have ei := keyOf_idx (hS.all _ (hmem xs[i] (by simp)).2)
      have ej := keyOf_idx (hS.all _ (hmem xs[j] (by simp)).2)
      have hki : KK ordKind xs i = idxOf xs[i].1 := by unfold KK; rw [getElem?_pos xs i hi']; exact congrArg (fun o => Option.getD o 0) ei
      have hkj : KK ordKind xs j = idxOf xs[j].1 := by unfold KK; rw [getElem?_pos xs j hj']; exact congrArg (fun o => Option.getD o 0) ej
      rw [hki, hkj] at h1
      change decide (idxOf xs[j].1 < idxOf xs[i].1) = false at h1
      simp only [List.getElem_map, Array.getElem_toList]
      simpa using h1
  rw [e2] at h1
  exact h1
section
variable {prog : Program} {w : World} {A : Around} {h : Heap}
theorem tSorted {l : Addr} {vs : List Value} {is : List Nat} {R : Value → Heap → Prop} (hl : h.IsList l vs.toArray) (ho : Ords vs is) (hn : is.length < 64)
    (hr : ∀ h' vs', Ext h h' → h.get? (h.objs.size + 1) = none → h'.PlainList (h.objs.size + 1) vs'.toArray → Ords vs' (sortL is) → R (.ref (h.objs.size + 1)) h') : T (model prog w) A (call (.builtin "sorted") [.ref l]) h R := fun s Q E hs hQ => by
  subst hs
  refine sortedK ordKind_oneLt hl ?_ (fun v₁ v₂ rest e => keyKind_ords (by rw [← e]; exact ho)) (by rw [ho.length]; exact hn) fun st' hp hs => ?_
  · intro p hp
    rw [pairsOf_toList] at hp
    exact ⟨_, by
      have := mem_zip_self hp
      exact keyOf_idx (ho.all _ this.2)⟩
  · obtain ⟨e, he⟩ := sortedAll_at s.heap vs ((arrOf st').map (·.2))
    refine hQ _ _ s.toks (hr _ ((arrOf st').map (·.2)).toList (fun b o hb => sortedAll_old hb) ?_ ⟨e, he⟩ (sorted_out_ord ho hp hs))
    cases q : s.heap.get? (s.heap.objs.size + 1) with
    | none => rfl
    | some o => exact absurd (Heap.lt_size q) (Nat.not_lt.mpr (Nat.le_succ _))
end
end Mine

namespace Mine

theorem eqAt_ord {A : Around} {s : Shared} {i j : Nat} {t u : Tok} (hi : i < 24) (hj : j < 24) : SeqAt.EqAt A s (bv i t) (bv j u) (i == j) := fun prog w E Q h => by
  unfold eqBool
  show wpAny _ _ (if (bv i t == bv j u) = true then _ else _) Q E s
  by_cases hab : (bv i t == bv j u) = true
  · rw [if_pos hab]
    have e : (PL i).toArray = (PL j).toArray := by have := eq_of_beq hab; injection this
    have e2 : (PL i == PL j) = true := by rw [show PL i = PL j by have := congrArg Array.toList e; simpa using this]; exact beq_self_eq_true _
    rw [PL_eq i hi j hj] at e2
    rw [e2] at h
    exact wpAny_bind (wpAny_rule (wpAny_pure h))
  · rw [if_neg hab]
    refine wpAny_bind (eq_bytes (wpAny_truthy_bool ?_))
    rw [List.toList_toArray, List.toList_toArray, PL_eq i hi j hj]
    exact h
theorem all_eq {is js : List Nat} (hlen : is.length = js.length) : ((List.range is.length).all fun k => is.getD k 0 == js.getD k 0) = (is == js) := by
  induction is generalizing js with
  | nil => cases js with
    | nil => rfl
    | cons => simp at hlen
  | cons a is ih =>
    cases js with
    | nil => simp at hlen
    | cons b js =>
      have := ih (js := js) (by simpa using hlen)
      rw [List.length_cons, List.range_succ_eq_map, List.all_cons, List.all_map]
      simp only [List.getD_cons_zero, Function.comp_def, List.getD_cons_succ] at this ⊢
      rw [this]
      simp

section
variable {prog : Program} {w : World} {A : Around} {h : Heap}
theorem tNeOrds {a b : Addr} {vs ws : List Value} {is js : List Nat} {R : Value → Heap → Prop} (hu : A.units < cLine) (ha : h.IsList a vs.toArray) (hb : h.IsList b ws.toArray) (hi : Ords vs is) (hj : Ords ws js)
    (hr : R (.bool (is != js)) h) : T (model prog w) A (compareOp .NotEq (.ref a) (.ref b)) h R := fun s Q E hs hQ => by
  subst hs
  have e1 := hi.length
  have e2 := hj.length
  by_cases hlen : is.length = js.length
  · refine SeqAt.RcNeAt.lists (e := fun k => is.getD k 0 == js.getD k 0) ha hb (by simp; omega) hu (fun k h1 h2 => ?_) prog w E Q ?_
    · have hk1 : k < is.length := by simpa [e1] using h1
      have hk2 : k < js.length := by simpa [e2] using h2
      obtain ⟨t, ht, h24⟩ := hi.get (k := k) (List.getElem?_eq_getElem hk1)
      obtain ⟨u, hu, h24'⟩ := hj.get (k := k) (List.getElem?_eq_getElem hk2)
      have g1 : vs.toArray[k] = bv is[k] t := by
        have := List.getElem?_eq_getElem (l := vs) (i := k) (by omega)
        rw [ht] at this
        simpa using (Option.some.inj this).symm
      have g2 : ws.toArray[k] = bv js[k] u := by
        have := List.getElem?_eq_getElem (l := ws) (i := k) (by omega)
        rw [hu] at this
        simpa using (Option.some.inj this).symm
      rw [g1, g2]
      have := eqAt_ord (A := A.in1) (s := s) (t := t) (u := u) h24 h24'
      simpa [hk1, hk2] using this
    · refine hQ _ _ s.toks ?_
      have e : vs.toArray.size = is.length := by simpa using e1
      rw [e, all_eq hlen]
      exact hr
  · refine SeqAt.RcNeAt.lists_lengths ha hb (by simp; omega) hu prog w E Q (hQ _ _ s.toks ?_)
    have : (is != js) = true := by
      simp only [bne_iff_ne, ne_eq]
      intro e
      exact hlen (by rw [e])
    rw [this] at hr
    exact hr
theorem tNeNil {a b : Addr} {vs : List Value} {R : Value → Heap → Prop} (hu : A.units < cLine) (ha : h.IsList a vs.toArray) (hb : h.IsList b #[]) (hr : R (.bool (decide (vs ≠ []))) h) : T (model prog w) A (compareOp .NotEq (.ref a) (.ref b)) h R := fun s Q E hs hQ => by
  subst hs
  cases vs with
  | nil =>
    refine SeqAt.RcNeAt.lists (e := fun _ => true) ha hb rfl hu (fun k h1 h2 => by simp at h1) prog w E Q (hQ _ _ s.toks ?_)
    simpa using hr
  | cons v vs =>
    refine SeqAt.RcNeAt.lists_lengths ha hb (by simp) hu prog w E Q (hQ _ _ s.toks ?_)
    simpa using hr
theorem tInOrds {a : Addr} {vs : List Value} {is : List Nat} {i : Nat} {t : Tok} {R : Value → Heap → Prop} (ha : h.IsList a vs.toArray) (ho : Ords vs is) (hi : i < 24)
    (hr : R (.bool (is.any fun k => k == i)) h) : T (model prog w) A (compareOp .In (bv i t) (.ref a)) h R := fun s Q E hs hQ => by
  subst hs
  refine SeqAt.in_listAt (fun v => idxOf v == i) ha (fun y hy => ?_) (hQ _ _ s.toks ?_)
  · have hy' : y ∈ vs := by simpa using hy
    have := ho.all y hy'
    obtain ⟨h24, u, e⟩ := this
    rw [e]
    have e2 : idxOf (bv (idxOf y) u) = idxOf y := Ord1.idx ⟨h24, u, rfl⟩
    rw [e2]
    exact eqAt_ord h24 hi
  · have e : (vs.toArray.any fun v => idxOf v == i) = is.any fun k => k == i := by
      rw [← ho.idx, List.any_map]
      simp [Function.comp_def]
    rw [e]
    exact hr
theorem tInInts {a : Addr} {vs : List Value} {ns : List Int} {n : Int} {t : Tok} {R : Value → Heap → Prop} (ha : h.IsList a vs.toArray) (hi : IntsAre vs ns) 
    (hr : R (.bool (ns.any fun k => k == n)) h) : T (model prog w) A (compareOp .In (.int n t) (.ref a)) h R := fun s Q E hs hQ => by
  subst hs
  refine SeqAt.in_listAt (fun v => numOf v == n) ha (fun y hy => ?_) (hQ _ _ s.toks ?_)
  · have hy' : y ∈ vs := by simpa using hy
    obtain ⟨m, u, rfl⟩ := hi.all y hy'
    exact SeqAt.EqAt.int_int m u n t
  · have e : (vs.toArray.any fun v => numOf v == n) = ns.any fun k => k == n := by
      rw [← hi.nums, List.any_map]
      simp [Function.comp_def]
    rw [e]
    exact hr
end
end Mine

namespace Mine

theorem list_no_keys : typeLookup (.type "list") "keys" = pure none := by rw [typeLookup_type, builtinLookup_eq_fast]; kernel_rfl
section
variable {prog : Program} {w : World} {A : Around} {h : Heap}
theorem tNoKeys {l : Addr} {items : Array Value} {R : Option Value → Heap → Prop} (hh : A.handled = none) (hl : h.PlainList l items) (hr : ∀ h', Ext h h' → R none h') : T (model prog w) A (getAttr? (.ref l) "keys") h R := fun s Q E hs hQ => by
  obtain ⟨k, hx⟩ := hl
  obtain ⟨hp, g, d, tk, os⟩ := s
  subst hs
  have hT : ∀ tk', (⟨hp, g, d, tk', os⟩ : Shared).TypeIs (.ref l) "list" := fun _ => ⟨_, hx, rfl⟩
  have f1 := sub_AttributeError
  have f3 := F.slot_list_getattribute.lookup
  have f4 := F.slot_list_getattribute.bind (.ref l)
  have f5 := am_list_getattr_none
  unfold getAttr? getAttrBy? getAttrBy
  repeat (any_goals (first | assumption | exact hT _ | ((with_reducible show wpAny _ _ (call (Value.builtin "list.__getattribute__") _ _) _ _ _); refine call_meets F.slot_list_getattribute (hT _) am_entry_list_getattribute (F.args_list_getattribute_2 _ _) (meets_getattribute_miss_list l items k _ "keys" _ list_no_keys (by decide) (by decide)) ⟨hx, hh, fun h' tk' e hx' => ?_⟩) | wp_step))
  obtain ⟨t', u', he⟩ := hx'.there
  show wpAny _ _ (getattributeRaised _ _ _ _ _ _ _) _ _ _
  unfold getattributeRaised
  repeat (any_goals (first | assumption | wp_step))
  exact hQ none h' _ (hr h' hx'.keeps)

def PairAt (h : Heap) (v : Value) (i : Nat) : Prop := i < 24 ∧ ∃ a t x, v = .ref a ∧ h.get? a = some (tupObj [bv i t, x])
def dist : List Nat → List Nat → List Nat
  | acc, [] => acc
  | acc, i :: r => if acc.contains i then dist acc r else dist (acc ++ [i]) r
theorem dict_loop_plain : plainId "dict.update.loop" = true := by decide +kernel
theorem dict_loop_entry : entryFor table "dict.update.loop" = some Builtin.«dict.update.loop» := entryFor_of_tree (by kernel_rfl)
theorem stored_keys {kvs : List (List UInt8 × Value)} {ds : List Nat} {i : Nat} {v : Value} (hk : kvs.map (·.1) = ds.map PL) (hd : ∀ d ∈ ds, d < 24) (hi : i < 24) :
    (stored kvs (PL i) v).map (·.1) = (if ds.contains i then ds else ds ++ [i]).map PL := by
  have hany : (kvs.any fun kv => decide (kv.1 = PL i)) = ds.contains i := by
    have : (kvs.any fun kv => decide (kv.1 = PL i)) = (kvs.map (·.1)).any fun k => decide (k = PL i) := by rw [List.any_map]; rfl
    rw [this, hk, List.any_map, List.contains_eq_any_beq]
    rw [Bool.eq_iff_iff]
    simp only [List.any_eq_true, Function.comp_apply, decide_eq_true_eq, beq_iff_eq]
    constructor
    · rintro ⟨x, hx, e⟩
      have := PL_eq x (hd x hx) i hi
      rw [e] at this
      exact ⟨x, hx, (by simpa using this : x = i).symm⟩
    · rintro ⟨x, hx, e⟩
      exact ⟨x, hx, by rw [e]⟩
  unfold stored
  rw [hany]
  split
  · rw [← hk, List.map_map]
    refine List.map_congr_left fun kv _ => ?_
    simp only [Function.comp_apply]
    split <;> rfl
  · rw [List.map_append, List.map_append, hk]
    rfl
theorem dict_loop {I l D : Addr} {vs : List Value} (hh : A.handled = none) (hDI : D ≠ I) {R : Value → Heap → Prop} : ∀ (is : List Nat) (j : Nat) (h : Heap) (ds : List Nat) (kvs : List (List UInt8 × Value)),
    h.IsListIter I l j → h.IsList l vs.toArray → vs.length = j + is.length → (∀ k i, is[k]? = some i → ∃ v, vs[j + k]? = some v ∧ PairAt h v i) → l ≠ I → l ≠ D → h.DictOf (bytesKind prog w) D kvs → kvs.map (·.1) = ds.map PL → (∀ d ∈ ds, d < 24) → (∀ (k : Nat) (v : Value) (a : Addr), vs[k]? = some v → v = .ref a → a ≠ I ∧ a ≠ D) → ds.length + is.length ≤ 1000 →
    (∀ h' kvs', (∀ b o, b ≠ D → b ≠ I → h.get? b = some o → h'.get? b = some o) → h'.DictOf (bytesKind prog w) D kvs' → kvs'.map (·.1) = (dist ds is).map PL → R .none h') →
    C (model prog w) A (.builtin "dict.update.loop" ⟨[.ref D, .ref I, rawInt j, .none], []⟩) h (Rv R)
  | [], j, h, ds, kvs, hit, hl, hlen, hp, hlI, hlD, hD, hk, hd, hne, hsz, hR => by
    refine cBuiltin dict_loop_entry dict_loop_plain ?_
    show T _ A.in1 (pyNext (.ref I) >>= _) _ _
    refine tBind (tNextEnd hh hit hl (by simp at hlen; simp; omega) fun h₁ x₁ => ?_)
    show T _ A.in1 (Builtin.Dict.addKeywords D [] >>= _) _ _
    refine tBind (tRet (tRet (hR h₁ kvs (fun b o _ hI e => x₁ b o hI e) ?_ hk)))
    obtain ⟨o, es, ep, ho, r⟩ := hD
    exact ⟨o, es, ep, x₁ _ _ hDI ho, r⟩
  | i :: is, j, h, ds, kvs, hit, hl, hlen, hp, hlI, hlD, hD, hk, hd, hne, hsz, hR => by
    refine cBuiltin dict_loop_entry dict_loop_plain ?_
    obtain ⟨v, hv, hi24, a, t, x, rfl, ha⟩ := hp 0 i rfl
    rw [Nat.add_zero] at hv
    obtain ⟨haI, haD⟩ := hne j _ a hv rfl
    show T _ A.in1 (pyNext (.ref I) >>= _) _ _
    refine tBind (tNextItem hit hl (by simpa using hv) fun h₁ i₁ s₁ => ?_)
    have ha₁ := s₁.extBut _ _ haI ha
    have hD₁ : h₁.DictOf (bytesKind prog w) D kvs := by obtain ⟨o, es, ep, ho, r⟩ := hD; exact ⟨o, es, ep, s₁.extBut _ _ hDI ho, r⟩
    have body : T (model prog w) A.in1 (Builtin.Dict.pairItems (.ref a)) h₁ (fun xs h₂ => xs = [bv i t, x] ∧ h₂ = h₁) := fun s Q E hs hQ => by
      subst hs
      unfold Builtin.Dict.pairItems
      refine wpAny_bind (wpAny_typeOf (T := "tuple") ⟨_, ha₁, rfl⟩ ?_)
      refine bm_if_true (by decide) ?_
      refine wpAny_bind (wpAny_seqItems ha₁ rfl (wpAny_pure ?_))
      exact hQ _ _ s.toks ⟨rfl, rfl⟩
    refine tBind (tHolding (tBind (fun s Q E hs hQ => wpAny_tryCatch (body s _ _ hs fun xs h₂ k r => ?_))))
    obtain ⟨rfl, rfl⟩ := r
    refine hQ _ _ _ ?_
    refine tHolding fun s Q E hs hQ => by
      subst hs
      have hkl : kvs.length = ds.length := by have := congrArg List.length hk; simpa using this
      refine wpAny_dictSet_pairs (knd := bytesKind prog w) (k := PL i) (by simp [bytesKind, isBytes]) hD₁ (fun h₃ d₃ s₃ => hQ _ _ _ ?_) (small_line (by simp at hsz; omega))
      refine tRet ⟨plainId_quiet dict_loop_plain _, ?_⟩
      have hj : (rawInt ((j : Int) + 1)) = rawInt ((j + 1 : Nat) : Int) := rfl
      have key := stored_keys (v := x) hk hd hi24
      have hd' : ∀ d ∈ (if ds.contains i then ds else ds ++ [i]), d < 24 := fun d hdm => by
        split at hdm
        · exact hd d hdm
        · rcases List.mem_append.mp hdm with q | q
          · exact hd d q
          · rw [List.mem_singleton.mp q]; exact hi24
      refine dict_loop hh hDI is (j + 1) h₃ (if ds.contains i then ds else ds ++ [i]) _ (i₁.at fun o e => s₃.extBut _ _ (Ne.symm hDI) e) ((hl.at fun o e => s₁.extBut _ _ hlI e).at fun o e => s₃.extBut _ _ hlD e) (by simp at hlen; omega) ?_ hlI hlD d₃ key hd' hne ?_ ?_
      · intro k i' hk'
        obtain ⟨v, hv, h24, a', t', x', rfl, ha'⟩ := hp (k + 1) i' (by simpa using hk')
        rw [show j + (k + 1) = j + 1 + k by omega] at hv
        obtain ⟨q1, q2⟩ := hne _ _ a' hv rfl
        exact ⟨_, hv, h24, a', t', x', rfl, s₃.extBut _ _ q2 (s₁.extBut _ _ q1 ha')⟩
      · simp only [List.length_cons] at hsz
        split
        · omega
        · simp; omega
      · intro h' kvs' hx hD' hk'
        refine hR h' kvs' (fun b o hbD hbI e => hx b o hbD hbI (s₃.extBut _ _ hbD (s₁.extBut _ _ hbI e))) hD' ?_
        rw [hk', dist]
        split <;> rfl
theorem tDictOf {l : Addr} {vs : List Value} {is : List Nat} {R : Value → Heap → Prop} (hh : A.handled = none) (hlim : h.NoLimit) (hl : h.PlainList l vs.toArray) (hlen : vs.length = is.length) (hp : ∀ (k i : Nat), is[k]? = some i → ∃ v, vs[k]? = some v ∧ PairAt h v i) (hsz : is.length ≤ 1000)
    (hr : ∀ h' d kvs, Ext h h' → (d == sysModules) = false → h'.DictOf (bytesKind prog w) d kvs → kvs.length = (dist [] is).length → R (.ref d) h') : T (model prog w) A (call (.type "dict") [.ref l]) h R := fun s Q E hs hQ => by
  subst hs
  refine callType_codes (Q₁ := fun obj s₁ => obj = .ref s.heap.objs.size ∧ s₁ = { s with heap := s.heap.push { cls := .type "dict", data := .dict #[] } }) F.kt_called_dict (F.kt_typeCall_dict_1 _) F.entry_dict_init (kt_code_dict_new _ ⟨rfl, rfl⟩) ?_
  rintro obj s₁ ⟨rfl, rfl⟩
  have hnew : (s.heap.push { cls := .type "dict", data := .dict #[] }).DictOf (bytesKind prog w) s.heap.objs.size [] := Heap.DictOf.new s.heap
  refine ⟨hnew.typeIs, F.args_dict_init_2 _ _, ?_⟩
  have low := modules_low hlim
  obtain ⟨n, hlo⟩ := id hl
  have hlt : l < s.heap.objs.size := Heap.lt_size hlo
  have hp' : (s.heap.push { cls := .type "dict", data := .dict #[] }).PlainList l vs.toArray := ⟨n, Heap.get?_push_of_some _ hlo⟩
  unfold Builtin.«dict.__init__»
  refine wpAny_bind ?_
  unfold Builtin.Dict.selfAndRest
  refine wpAny_bind (wpAny_notOrdered_dict hnew.typeIs ?_)
  show wpAny _ _ (pure (s.heap.objs.size, [Value.ref l])) _ _ _
  refine wpAny_pure ?_
  show wpAny _ _ (Builtin.Dict.updateFrom "dict.__init__" s.heap.objs.size (.ref l) [] .none) _ _ _
  unfold Builtin.Dict.updateFrom
  refine wpAny_bind (wpAny_typeOf (T := "list") ⟨_, hp'.choose_spec, rfl⟩ ?_)
  refine bm_if_true (by decide) ?_
  refine wpAny_bind (tNoKeys (A := A.in1.in1) hh hp' (R := fun o h' => o = none ∧ Ext (s.heap.push { cls := .type "dict", data := .dict #[] }) h') (fun h' e => ⟨rfl, e⟩) _ _ _ rfl fun o h₂ k₂ r => ?_)
  obtain ⟨rfl, e₂⟩ := r
  refine bm_if_true rfl ?_
  refine wpAny_bind (wpAny_rule (wpAny_bind ?_))
  have hl₂ : h₂.PlainList l vs.toArray := ⟨n, e₂ _ _ hp'.choose_spec |> fun _ => e₂ _ _ (Heap.get?_push_of_some _ hlo)⟩
  refine wpAny_pyIter_list hl₂.isList ?_
  have hD₂ : h₂.DictOf (bytesKind prog w) s.heap.objs.size [] := by obtain ⟨o, es, ep, ho, r⟩ := hnew; exact ⟨o, es, ep, e₂ _ _ ho, r⟩
  have hDlt : s.heap.objs.size < h₂.objs.size := by obtain ⟨o, es, ep, ho, r⟩ := hD₂; exact Heap.lt_size ho
  have hold : ∀ b o, s.heap.get? b = some o → (h₂.push { cls := .type "list_iterator", data := .fields #[.ref l, .int 0 0] }).get? b = some o := fun b o e => Heap.get?_push_of_some _ (e₂ _ _ (Heap.get?_push_of_some _ e))
  refine wpAny_pure ⟨plainId_quiet dict_loop_plain _, ?_⟩
  have go := dict_loop (prog := prog) (w := w) (A := A.in1) (I := h₂.objs.size) (l := l) (D := s.heap.objs.size) (vs := vs) hh (Nat.ne_of_lt hDlt)
    (R := fun v h' => v = .none ∧ Ext s.heap h' ∧ ∃ kvs, h'.DictOf (bytesKind prog w) s.heap.objs.size kvs ∧ kvs.length = (dist [] is).length) is 0
    (h₂.push { cls := .type "list_iterator", data := .fields #[.ref l, .int 0 0] }) [] [] ⟨_, Heap.get?_push_size _ rfl, rfl, rfl⟩ (hl₂.isList.push _) (by simp [hlen])
    (fun k i e => by
      obtain ⟨v, hv, h24, a, t, x, rfl, ha⟩ := hp k i e
      exact ⟨_, by rw [Nat.zero_add]; exact hv, h24, a, t, x, rfl, hold _ _ ha⟩)
    (Nat.ne_of_lt (Nat.lt_trans hlt hDlt)) (Nat.ne_of_lt hlt) (by obtain ⟨o, es, ep, ho, r⟩ := hD₂; exact ⟨o, es, ep, Heap.get?_push_of_some _ ho, r⟩) rfl (fun d hd => by cases hd)
    (fun k v a hv e => by
      have hk : k < is.length := by
        rw [← hlen]
        rcases Nat.lt_or_ge k vs.length with q | q
        · exact q
        · rw [List.getElem?_eq_none q] at hv; cases hv
      obtain ⟨v', hv', _, a', t, x, e', ha⟩ := hp k is[k] (List.getElem?_eq_getElem hk)
      rw [hv] at hv'
      cases hv'
      rw [e] at e'
      cases e'
      exact ⟨Nat.ne_of_lt (Nat.lt_trans (Heap.lt_size ha) hDlt), Nat.ne_of_lt (Heap.lt_size ha)⟩)
    (by simpa using hsz)
    (fun h' kvs' hx hD' hk' => ⟨rfl, fun b o e => hx b o (Nat.ne_of_lt (Heap.lt_size e)) (Nat.ne_of_lt (Nat.lt_trans (Heap.lt_size e) hDlt)) (hold b o e), kvs', hD', by have := congrArg List.length hk'; simpa using this⟩)
  refine go _ _ rfl fun f h' k r => ?_
  cases f with
  | ret v =>
    obtain ⟨rfl, e, kvs, hD', hk'⟩ := r
    exact ⟨rfl, hQ _ _ _ (hr h' _ kvs e (beq_eq_false_iff_ne.mpr (Nat.ne_of_gt low)) hD' hk')⟩
  | _ => exact r.elim
theorem tLenDict {d : Addr} {kvs : List (List UInt8 × Value)} {R : Value → Heap → Prop} (hd : (d == sysModules) = false) (hD : h.DictOf (bytesKind prog w) d kvs) (hsz : (kvs.length : Int) < 2 ^ 63) (hr : ∀ t, R (.int kvs.length t) h) :
    T (model prog w) A (call (.builtin "len") [.ref d]) h R := fun s Q E hs hQ => by
  subst hs
  exact call_len_dict hd hD hsz (hQ _ _ _ (hr _))
end
end Mine

namespace Mine

namespace FX
theorem slot_bytes_index : Slot "bytes" "index" "bytes.index" :=
  .of (owner := "bytes") (n := "index") (by rw [typeLookup_type, builtinLookup_eq_fast]; kernel_rfl) (by decide +kernel) (by decide +kernel) (by decide +kernel)
    (by first | exact .inl (by decide +kernel) | exact .inr (by decide +kernel)) (by rw [isSubtype_type]; kernel_rfl)
theorem entry_bytes_index : entryFor table "bytes.index" = some Builtin.«bytes.index» := entryFor_of_tree (by kernel_rfl)
theorem args_bytes_index (a b : Value) : argsOk "bytes.index" ⟨[a, b], []⟩ := by unfold argsOk; kernel_rfl
theorem type_bytes_index : typeOf (.builtin "bytes.index") = pure (.type "method_descriptor") := by show builtinType _ = _; rw [builtinType_eq_fast]; kernel_rfl
end FX
section
variable {prog : Program} {w : World} {A : Around} {h : Heap}
theorem int_noBuffer : typeLookup (.type "int") "__buffer__" = pure none := by rw [typeLookup_type, builtinLookup_eq_fast]; kernel_rfl
theorem int_index : ∃ v, typeLookup (.type "int") "__index__" = pure (some v) := ⟨_, PySem.F.slot_int_index.lookup⟩
set_option maxHeartbeats 4000000 in
theorem tIndexBytes {l : List UInt8} {t u : Tok} {c : Int} {n : Nat} {R : Value → Heap → Prop} (h0 : 0 ≤ c) (h1 : c < 256) (hl : 1 ≤ l.length) (hi : Builtin.Bytes.find? l.toArray #[c.toNat.toUInt8] 0 l.length = some n) (hr : ∀ t', R (.int n t') h) :
    T (model prog w) A (call (.builtin "bytes.index") [.bytes l.toArray t, .int c u]) h R := by
  refine tCallB FX.slot_bytes_index (fun s e => PySem.W.typeIs_bytes s _ _) FX.entry_bytes_index (FX.args_bytes_index _ _) fun s Q E hs hQ => ?_
  subst hs
  show wpAny _ _ (Builtin.Bytes.searchM .bytes "index" false true ⟨[.bytes l.toArray t, .int c u], []⟩) _ _ _
  have hT : ∀ s' : Shared, s'.TypeIs (.int c u) "int" := fun s' => typeIs_int s' c u
  have f1 := int_noBuffer
  have f2 := PySem.F.slot_int_index.lookup
  have hc : ¬ (c < 0 ∨ c ≥ 256) := by omega
  have hc2 : (decide (c < 0) || decide (c ≥ 256)) = false := by simp; omega
  unfold Builtin.Bytes.searchM Builtin.Bytes.searchArgs
  obtain ⟨hp, g, d, tk, os⟩ := s
  repeat (any_goals (first | assumption | wp_step))
  have hw : Builtin.Bytes.window l.toArray.size none none = (0, (l.length : Int)) := by
    simp only [Builtin.Bytes.window, Option.getD_none, List.size_toArray]
    rw [if_neg (by omega), if_neg (by omega), Int.min_self]
  rw [hw]
  have hs : ¬ ((l.length : Int) - 0 < ((#[c.toNat.toUInt8].size : Nat) : Int)) := by
    show ¬ ((l.length : Int) - 0 < ((1 : Nat) : Int))
    omega
  dsimp only
  rw [if_neg hs]
  simp only [Option.bind_some, Bool.false_eq_true, if_false, Int.toNat_natCast, Int.toNat_zero]
  rw [hi]
  show wpAny _ _ (do ret (← mkInt n)) _ _ _
  exact wpAny_bind (wpAny_mkInt (wpAny_pure (hQ _ _ _ (hr _))))

/-- where an octet stands -/
def posOf (i : Nat) (c : Nat) : Nat := ((PL i).findIdx? fun x => x == c.toUInt8).getD 0
theorem find_PL : ∀ i < 24, ∀ c < 4, Builtin.Bytes.find? (PL i).toArray #[c.toUInt8] 0 (PL i).length = some (posOf i c) := by decide +kernel
theorem posOf_lt : ∀ i < 24, ∀ c < 4, posOf i c < 4 := by decide +kernel
def invTab : List Nat := (List.range 24).map fun i => (ix ((List.range 4).map fun c => (posOf i c).toUInt8)).getD 0
def inv (i : Nat) : Nat := (ix ((List.range 4).map fun c => (posOf i c).toUInt8)).getD 0
theorem inv_PL : ∀ i < 24, inv i < 24 ∧ PL (inv i) = (List.range 4).map fun c => (posOf i c).toUInt8 := by decide +kernel
theorem tIndexOrd {i c : Nat} {t u : Tok} {R : Value → Heap → Prop} (hi : i < 24) (hc : c < 4) (hr : ∀ t', R (.int (posOf i c : Nat) t') h) : T (model prog w) A (call (.builtin "bytes.index") [bv i t, .int (c : Int) u]) h R :=
  tIndexBytes (by omega) (by omega) (by rw [PL_length i hi]; decide) (by rw [Int.toNat_natCast]; exact find_PL i hi c hc) hr
end
end Mine

namespace Mine

section
variable {prog : Program} {w : World} {A : Around} {h : Heap}
theorem bytes_split : splitId "bytes.__len__" = some ("bytes", "__len__") := by decide +kernel
theorem hint_bytes {b : Array UInt8} {t : Tok} {R : Bool → Heap → Prop} (hb : b.size ≤ 200) (hr : R false h) : T (model prog w) A (Builtin.List.listLengthHint (.bytes b t)) h R := fun s Q E hs hQ => by
  subst hs
  unfold Builtin.List.listLengthHint
  refine wpAny_bind (wpAny_specialOf (PySem.W.typeIs_bytes s b t) FB.slot_bytes_len.lookup ?_)
  generalize hid : ("bytes.__len__" : String) = id0
  wp_delta
  rw [show splitId id0 = some ("bytes", "__len__") from by subst hid; decide +kernel]
  subst hid
  refine wpAny_bind (wpAny_isInstance (T := "bytes") (b := true) (PySem.W.typeIs_bytes s b t) (by rw [isSubtype_type]; kernel_rfl) ?_)
  refine wpAny_ite_split (fun hab => absurd hab (by decide)) (fun _ => ?_)
  refine wpAny_ite_split (fun _ => ?_) (fun hab => absurd (by decide +kernel) hab)
  refine wpAny_bind (wpAny_typeOf (PySem.W.typeIs_bytes s b t) ?_)
  exact wpAny_pure (hQ false _ s.toks hr)
theorem tListBytes {b : List UInt8} {t : Tok} {R : Value → Heap → Prop} (hh : A.handled = none) (hb : b.length ≤ 200)
    (hr : ∀ h' ys, Ext h h' → h'.PlainList h.objs.size ys.toArray → IntsAre ys (b.map fun c => (c.toNat : Int)) → R (.ref h.objs.size) h') : T (model prog w) A (call (.type "list") [.bytes b.toArray t]) h R := fun s Q E hs hQ => by
  subst hs
  refine callType_codes (Q₁ := fun obj s₁ => obj = .ref s.heap.objs.size ∧ s₁ = { s with heap := s.heap.push { cls := .type "list", data := .seq #[] } }) F.called_list (F.typeCall_list_1 _) F.entry_list_init
    (code_list_new _ ⟨rfl, rfl⟩) fun obj s₁ h₁ => ?_
  obtain ⟨rfl, rfl⟩ := h₁
  have hS : (s.heap.push { cls := .type "list", data := .seq #[] }).get? s.heap.objs.size = some { cls := .type "list", data := .seq #[] } := Heap.get?_push_size _ rfl
  refine ⟨⟨_, hS, rfl⟩, F.args_list_init_2 _ _, ?_⟩
  generalize hS₀ : s.heap.objs.size = S at hS hr ⊢
  generalize hh₀ : s.heap.push { cls := .type "list", data := .seq #[] } = H at hS ⊢
  show wpAny _ _ (do let old ← Builtin.List.listItems (.ref S); Builtin.List.listUpdate (.ref S) (fun _ => #[]); letGo old.toList.reverse; Builtin.List.listExtendWith (.ref S) (.bytes b.toArray t) .none) _ _ _
  refine wpAny_bind ?_
  unfold Builtin.List.listItems
  refine wpAny_bind (wpAny_seqItems hS rfl (wpAny_pure ?_))
  show wpAny _ _ (updateSeq S (fun _ => #[]) >>= fun _ => letGo (#[] : Array Value).toList.reverse >>= fun _ => Builtin.List.listExtendWith (.ref S) (.bytes b.toArray t) .none) _ _ _
  refine wpAny_bind (wpAny_updateSeq hS rfl ?_)
  have hS₂ := Heap.get?_update_self (Obj.mapSeq (fun _ => (#[] : Array Value))) hS rfl
  have oth : ∀ b o, b ≠ S → H.get? b = some o → (H.update S (Obj.mapSeq (fun _ => (#[] : Array Value)))).get? b = some o :=
    fun b o hb e => (Heap.get?_update_other _ _ (Ne.symm hb)).trans e
  refine wpAny_bind (wpAny_letGo ?_)
  generalize H.update S (Obj.mapSeq (fun _ => (#[] : Array Value))) = H₂ at hS₂ oth ⊢
  unfold Builtin.List.listExtendWith
  refine wpAny_bind (wpAny_typeOf (T := "bytes") rfl ?_)
  have h1 : Builtin.List.listSameRef (.ref S) (.bytes b.toArray t) = false := rfl
  have h2 : (Value.type "bytes" == Value.type "list") = false := by decide
  have h3 : (Value.type "bytes" == Value.type "tuple") = false := by decide
  simp only [h1, h2, h3, Bool.or_false, Bool.false_eq_true, if_false]
  refine wpAny_bind (KBw.pyIter_bytes ?_)
  refine wpAny_bind (wpAny_holding (hint_bytes (R := fun x h' => x = false ∧ h' = H₂.push { cls := .type "bytes_iterator", data := .fields #[.bytes b.toArray t, .int 0 0] }) (by simpa using hb) ⟨rfl, rfl⟩ _ _ _ rfl fun x h' k r => ?_))
  obtain ⟨rfl, rfl⟩ := r
  have hSlt : S < H₂.objs.size := Heap.lt_size hS₂
  have hS₃ := Heap.get?_push_of_some { cls := .type "bytes_iterator", data := .fields #[.bytes b.toArray t, .int 0 0] } hS₂
  have W := (KBw.walks (prog := prog) (w := w) (A := A.in1.in1) hh H₂.objs.size b.toArray t).toS
  refine wpAny_ite_split (fun hab => absurd hab (by decide)) (fun _ => wpAny_pure ⟨plainId_quiet F.plain_extend_loop _, ?_⟩)
  refine codeAny_extend_loopS W (by simp; exact small_line (by omega)) S (fun hm => Nat.ne_of_lt hSlt (List.mem_singleton.mp hm)) .none _ 0 _ #[] _ rfl (Nat.zero_le _) ⟨_, Heap.get?_push_size _ rfl, rfl, rfl⟩ hS₃ (ItemsOf.nil _) fun s' acc' c' hm hS' hacc => ?_
  rw [Moved.eq_with hm]
  refine ⟨rfl, hQ _ _ _ (hr s'.heap acc'.toList (fun a o e => ?_) ⟨c', by simpa using hS'⟩ (ints_of (by simp [hacc.1]) fun k n e => ?_))⟩
  · have hlt : a < S := hS₀ ▸ Heap.lt_size e
    have e1 : H.get? a = some o := hh₀ ▸ Heap.get?_push_of_some _ e
    refine hm.heap a o (fun q => ?_) (Heap.get?_push_of_some _ (oth a o (Nat.ne_of_lt hlt) e1))
    rcases List.mem_cons.mp q with q | q
    · exact Nat.ne_of_lt hlt q
    · exact Nat.ne_of_lt (Nat.lt_trans hlt hSlt) (List.mem_singleton.mp q)
  · have hk : k < b.length := by
      rcases Nat.lt_or_ge k b.length with q | q
      · exact q
      · rw [List.getElem?_eq_none (by simpa using q)] at e; cases e
    have hk' : k < acc'.size := by rw [hacc.1]; simpa using hk
    obtain ⟨c, u, hc, hv⟩ := hacc.2 k _ (Array.getElem?_eq_getElem hk')
    rw [List.getElem?_map] at e
    have hc' : b[k]? = some c := by simpa using hc
    rw [hc'] at e
    cases e
    exact ⟨u, by rw [Array.getElem?_toList, Array.getElem?_eq_getElem hk', hv]⟩
end
end Mine

namespace Mine

def X {α : Type} (M : Model) (A : Around) (t : Sem α) (h : Heap) (R : α → Heap → Prop) : Prop :=
  ∀ (s : Shared) (Q : α → Shared → Prop) (E : Value → Shared → Prop), s.heap = h → (∀ a h' k, R a h' → Q a { s with heap := h', toks := k }) → wpX M A t Q E s
def CX (M : Model) (A : Around) (c : Code) (h : Heap) (R : Flow → Heap → Prop) : Prop :=
  ∀ (s : Shared) (P : Result → Shared → Prop), s.heap = h → (∀ a h' k, R a h' → P (.ok a) { s with heap := h', toks := k }) → ∀ Γ p, Γ.code = c → Γ.Below A → (∀ x ∈ Γ.below, holds x.1 = false) → wpCode M Γ P p s

section
variable {α β : Type} {M : Model} {A : Around} {h : Heap} {R : α → Heap → Prop}
theorem X.of {t : Sem α} (H : T M A t h R) : X M A t h R := fun s Q E hs hQ Γ p hΓ _ => H s Q E hs hQ Γ p hΓ
theorem xMono {t : Sem α} {R' : α → Heap → Prop} (H : X M A t h R') (f : ∀ a h', R' a h' → R a h') : X M A t h R :=
  fun s Q E hs hQ => H s Q E hs fun a h' k r => hQ a h' k (f a h' r)
theorem xBind {m : Sem β} {f : β → Sem α} (H : X M A m h (fun b h₁ => X M A (f b) h₁ R)) : X M A (m >>= f) h R := fun s Q E hs hQ Γ p hΓ hc => by
  rw [Sem.wp_bind']
  refine H s (fun b s₁ => ∀ p, wp M Γ (f b) (fun a _ s' => Q a s') (fun e _ s' => E e s') p s₁) E hs (fun b h₁ k r p' => ?_) Γ p hΓ hc |> fun w => Sem.wp_mono M Γ m (fun a p' s' h' => h' p') (fun _ _ _ h' => h') p s w
  exact r { s with heap := h₁, toks := k } Q E rfl (fun a h' k' r' => hQ a h' k' r') Γ p' hΓ hc
theorem xHolding {vs : List Value} {t : Sem α} (H : X M A t h R) : X M A (holding vs t) h R := fun s Q E hs hQ Γ p hΓ hc => by rw [Sem.wp_holding]; exact H s Q E hs hQ Γ p hΓ hc
theorem xRet {a : α} (hr : R a h) : X M A (pure a) h R := X.of (tRet hr)
theorem tStand {pos : Pos} {R : Unit → Heap → Prop} (hr : R () h) : T M A (standAt pos) h R := fun s Q E hs hQ => by subst hs; exact wpAny_standAt (hQ _ _ s.toks hr)
theorem tPoint {R : Unit → Heap → Prop} (hr : R () h) : T M A point h R := fun s Q E hs hQ => by subst hs; exact wpAny_point (hQ _ _ s.toks hr)
theorem xStand {pos : Pos} {t : Sem α} (H : X M A t h R) : X M A (standAt pos >>= fun _ => t) h R := xBind (X.of (tStand H))
theorem xOnRaise {t : Sem α} {k : Value → Sem Unit} (H : X M A t h R) : X M A (t.onRaise k) h R := fun s Q E hs hQ Γ p hΓ hc => by
  rw [Sem.wp_onRaise]
  have := H s Q (fun e s' => ∀ p', wp M Γ (k e) (fun _ _ s'' => E e s'') (fun e _ s'' => E e s'') p' s') hs hQ Γ p hΓ hc
  exact Sem.wp_mono M Γ t (fun _ _ _ h' => h') (fun e p' s' h' => h' p') p s this
theorem xEq {t t' : Sem α} (e : t = t') (H : X M A t' h R) : X M A t h R := e ▸ H
theorem xIteT {c : Prop} [Decidable c] {a b : Sem α} (hc : c) (H : X M A a h R) : X M A (if c then a else b) h R := by rw [if_pos hc]; exact H
theorem xIteF {c : Prop} [Decidable c] {a b : Sem α} (hc : ¬ c) (H : X M A b h R) : X M A (if c then a else b) h R := by rw [if_neg hc]; exact H
end
section
variable {M : Model} {A : Around} {h : Heap}
theorem xRunValue {c : Code} {R : Value → Heap → Prop} (H : CX M A c h (Rv R)) : X M A (runValue c) h R := fun s Q E hs hQ Γ p hΓ hc => by
  rw [Sem.wp_runValue]
  refine H s _ hs (fun f h' k r => ?_) _ p rfl (hΓ.enter c none p (by intro x; cases x)) fun x hx => ?_
  · cases f with
    | ret v => exact hQ _ _ _ r
    | _ => exact r.elim
  · rcases List.mem_cons.mp hx with rfl | hx
    · exact hc.1
    · exact hc.2 x hx
theorem xCallV {f : Value} {pos : List Value} {kw : List (Str × Value)} {R : Value → Heap → Prop} (H : CX M A (.call f ⟨pos, kw⟩) h (Rv R)) : X M A (call f pos kw) h R := xRunValue H
def FX' (M : Model) (A : Around) (R : Flow → Heap → Prop) (fin : Fin) (h' : Heap) : Prop := match fin with
  | .done f => R f h'
  | .again c' => c'.quiet = true ∧ CX M A c' h' R
theorem cxTree {c : Code} {R : Flow → Heap → Prop} (hc : holds c = false) (H : X M (A.under c) (M.den c) h (FX' M A R)) : CX M A c h R := fun s P hs hP Γ p hcd hΓ hb => by
  rw [wpCode_iff_wp, hcd]
  refine Sem.wp_mono M Γ _ (fun fin p' s' h' => ?_) (fun _ _ _ h' => h') p s
    (H s (fun fin s' => match fin with | .done f => P (.ok f) s' | .again c' => c'.quiet = true ∧ ∀ (Γ' : Ctx) p', Γ'.code = c' → Γ'.Below A → (∀ x ∈ Γ'.below, holds x.1 = false) → wpCode M Γ' P p' s') (fun e s' => P (.error e) s') hs (fun fin h' k r => ?_) Γ p (hcd ▸ hΓ.in) ⟨hcd ▸ hc, hb⟩)
  · cases fin with
    | done f => exact h'
    | again c' => exact ⟨h'.1, h'.2 (Γ.goto c') p' rfl (hΓ.goto c') hb⟩
  · cases fin with
    | done f => exact hP _ _ _ r
    | again c' => exact ⟨r.1, fun Γ' p' hc' hΓ' hb' => r.2 { s with heap := h', toks := k } P rfl (fun a h'' k' r' => hP a h'' k' r') Γ' p' hc' hΓ' hb'⟩
theorem CX.of {c : Code} {R : Flow → Heap → Prop} (H : C M A c h R) : CX M A c h R := fun s P hs hP Γ p hc hΓ _ => H s P hs hP Γ p hc hΓ
end
end Mine

namespace Mine
section
variable {prog : Program} {w : World} {A : Around} {h : Heap}
theorem cxFunc {body : List Stmt} {env : Env} {R : Flow → Heap → Prop} (H : X (model prog w) (A.deeper env) (execs body env) h (fun fl h' => R (.ret (match fl with | .ret v => v | _ => .none)) h')) : CX (model prog w) A (.func body env) h R := by
  refine cxTree rfl ?_
  show X _ (A.deeper env) (do point; match ← (execs body env).onRaise (leaving env) with | .ret v => ret v | _ => ret .none) _ _
  refine xBind (X.of (tPoint (xBind (xOnRaise (xMono H fun f h' r => ?_)))))
  cases f <;> exact xRet r
theorem xCallFn {f : Addr} {o : Obj} {fd : FuncData} {body : List Stmt} {args : List Value} {binds : List (Str × Value)} {R : Value → Heap → Prop}
    (hroom : A.depth < recursionLimit) (ho : h.get? f = some o) (hdata : o.data = .func fd) (hlim : h.NoLimit) (hcd : h.CodeRec fd.code fd.qualname)
    (hbody : fd.body = .stmts body) (hbind : ∀ s : Shared, s.heap = h → BindsTo s fd ⟨args, []⟩ binds)
    (hcell : ∀ x ∈ fd.scope.names, x.2 ≠ .cell) (hloc : ∀ x ∈ binds, fd.scope.names.lookup x.1 = some .local)
    (H : ∀ h₁, Fr h h.objs.size h₁ (fun x => binds.reverse.lookup x) →
      X (model prog w) (A.deeper (callEnv fd h.objs.size f)) (execs body (callEnv fd h.objs.size f)) h₁ (fun fl h' => R (match fl with | .ret v => v | _ => .none) h'))
    (hco : fd.scope.isCoroutine = false := by rfl) (hgen : fd.scope.isGenerator = false := by rfl) (hk : fd.scope.kind = .function := by rfl) :
    X (model prog w) A (call (.ref f) args) h R := by
  refine xCallV (cxTree rfl ?_)
  show X _ A.in1 (callAny (.ref f) ⟨args, []⟩) _ _
  have part : T (model prog w) A.in1 (callAny (.ref f) ⟨args, []⟩) h (fun fin h₁ => fin = .again (.func body (callEnv fd h.objs.size f)) ∧ Fr h h.objs.size h₁ (fun x => binds.reverse.lookup x)) := fun s Q E hs hQ => by
    subst hs
    simp only [callAny]
    refine wpAny_bind (wpAny_load ho ?_)
    obtain ⟨c, oc, vs, tq, hc, hoc, hdc, hq⟩ := hcd
    simp only [hdata, callFunction, hco, hgen, hbody, hc]
    refine wpAny_bind (m := field (.ref c) 1) (wpAny_field hoc hdc hq (wpAny_bind (wpAny_pure ?_)))
    refine wpAny_bind (hbind s rfl _ _ _ _ ?_)
    refine wpAny_bind (wpAny_newFunctionEnv hcell hloc (fun h₀ hns₀ hsb₀ => ?_) hk)
    refine wpAny_bind (wpAny_enterFrame (hlim.fresh _ hsb₀) hroom (wpAny_pure (hQ _ _ _ ⟨?_, hns₀, fun b o e => ?_, Nat.le_refl _⟩)))
    · rw [← hc]; rfl
    · exact hsb₀.extBut b o (Nat.ne_of_lt (Heap.lt_size e)) (Heap.get?_push_of_some _ e)
  refine X.of (tMono part fun fin h₁ r => ?_)
  obtain ⟨rfl, F⟩ := r
  exact ⟨rfl, cxFunc (H h₁ F)⟩
theorem xCallFnC {f : Addr} {o : Obj} {fd : FuncData} {body : List Stmt} {args : List Value} {binds : List (Str × Value)} {R : Value → Heap → Prop}
    (hroom : A.depth < recursionLimit) (ho : h.get? f = some o) (hdata : o.data = .func fd) (hlim : h.NoLimit) (hcd : h.CodeRec fd.code fd.qualname)
    (hbody : fd.body = .stmts body) (hbind : bindArgs fd ⟨args, []⟩ = pure binds) (hclo : fd.closure = [])
    (hkind : ∀ x ∈ binds, fd.scope.names.lookup x.1 = some .local ∨ (fd.scope.names.lookup x.1 = some .cell ∧ ((cellsFrom (h.objs.size + 1) fd.scope.names []).lookup x.1).isSome = true))
    (H : ∀ h₁, Fr h h.objs.size h₁ (bindL (callEnvC fd h.objs.size f).kindOf binds fun _ => none) →
      (∀ n c, (callEnvC fd h.objs.size f).cells.lookup n = some c → h₁.IsCell c (bindC (callEnvC fd h.objs.size f).kindOf binds (fun _ => none) n) ∧ h.get? c = none ∧ c ≠ h.objs.size) →
      X (model prog w) (A.deeper (callEnvC fd h.objs.size f)) (execs body (callEnvC fd h.objs.size f)) h₁ (fun fl h' => R (match fl with | .ret v => v | _ => .none) h'))
    (hco : fd.scope.isCoroutine = false := by rfl) (hgen : fd.scope.isGenerator = false := by rfl) (hk : fd.scope.kind = .function := by rfl) :
    X (model prog w) A (call (.ref f) args) h R := by
  refine xCallV (cxTree rfl ?_)
  show X _ A.in1 (callAny (.ref f) ⟨args, []⟩) _ _
  have part : T (model prog w) A.in1 (callAny (.ref f) ⟨args, []⟩) h (fun fin h₁ => fin = .again (.func body (callEnvC fd h.objs.size f)) ∧ Fr h h.objs.size h₁ (bindL (callEnvC fd h.objs.size f).kindOf binds fun _ => none) ∧
      (∀ n c, (callEnvC fd h.objs.size f).cells.lookup n = some c → h₁.IsCell c (bindC (callEnvC fd h.objs.size f).kindOf binds (fun _ => none) n) ∧ h.get? c = none ∧ c ≠ h.objs.size)) := fun s Q E hs hQ => by
    subst hs
    simp only [callAny]
    refine wpAny_bind (wpAny_load ho ?_)
    obtain ⟨c, oc, vs, tq, hc, hoc, hdc, hq⟩ := hcd
    simp only [hdata, callFunction, hco, hgen, hbody, hc]
    refine wpAny_bind (m := field (.ref c) 1) (wpAny_field hoc hdc hq (wpAny_bind (wpAny_pure ?_)))
    rw [hbind, hclo]
    refine wpAny_bind (wpAny_pure ?_)
    refine wpAny_bind (wpAny_newFunctionEnv_cells hk hkind fun env he s' x => ?_)
    subst he
    obtain ⟨h₁, tk, rfl⟩ := x.toInCall.same
    refine wpAny_bind (wpAny_enterFrame (hlim.keeps x.toInCall.keep) hroom (wpAny_pure (hQ _ _ _ ⟨?_, ⟨x.toInCall.ns, x.toInCall.keep, x.toInCall.fresh⟩, fun n c hn => ⟨x.cell n c hn, ?_, ?_⟩⟩)))
    · rw [← hc]; rfl
    · have hlt : s.heap.objs.size < c := x.above n c (mem_of_lookup hn)
      cases q : s.heap.get? c with
      | none => rfl
      | some o => exact absurd (Heap.lt_size q) (Nat.not_lt.mpr (Nat.le_of_lt hlt))
    · exact Nat.ne_of_gt (x.above n c (mem_of_lookup hn))
  refine X.of (tMono part fun fin h₁ r => ?_)
  obtain ⟨rfl, F, hc⟩ := r
  exact ⟨rfl, cxFunc (H h₁ F hc)⟩
end
end Mine

namespace Mine
section
variable {M : Model} {A : Around} {env : Env} {h : Heap}
theorem xOperate {vs : List Value} {m : Sem Value} {R : Value → Heap → Prop} (H : X M A m h R) : X M A (operate vs m) h R := fun s Q E hs hQ Γ p hΓ hc => by rw [Sem.wp_operate]; exact H s Q E hs hQ Γ p hΓ hc
theorem xKeep {α : Type} {vs : List Value} {m : Sem α} {R : α → Heap → Prop} (H : X M A m h R) : X M A (m.keep vs) h R := fun s Q E hs hQ Γ p hΓ hc => by rw [Sem.wp_keep]; exact H s Q E hs hQ Γ p hΓ hc
theorem xThen {st rest} {R : Flow → Heap → Prop} (H : X M A (exec st env) h (fun f h₁ => match f with | .next => X M A (execs rest env) h₁ R | f => R f h₁)) : X M A (execs (st :: rest) env) h R := by
  rw [execs_cons]
  refine xBind (xMono H fun f h₁ r => ?_)
  cases f <;> first | exact r | exact xRet r
theorem xIf {test body orelse pos} {R : Flow → Heap → Prop} (H : X M A (isTrue test env (eval test env)) h (fun b h₁ => if b then X M A (execs body env) h₁ R else X M A (execs orelse env) h₁ R)) : X M A (exec (.If test body orelse pos) env) h R := by
  rw [exec_If]
  refine xStand (xBind (xMono H fun b h₁ r => ?_))
  cases b <;> exact r
theorem xIsBool {op values pos whole} {R : Bool → Heap → Prop} (H : X M A (allTrue op values env) h R) : X M A (isTrue (.BoolOp op values pos) env whole) h R := by rw [arm_isTrue_BoolOp]; exact H
theorem xOrCons {x rest} {R : Bool → Heap → Prop} (H : X M A (isTrue x env (eval x env)) h (fun b h₁ => if b then R true h₁ else X M A (allTrue .Or rest env) h₁ R)) : X M A (allTrue .Or (x :: rest) env) h R := by
  show X M A (do match BoolOp.Or, ← isTrue x env (eval x env) with | .And, false => pure false | .Or, true => pure true | _, _ => allTrue .Or rest env) h R
  refine xBind (xMono H fun b h₁ r => ?_)
  cases b
  · exact r
  · exact xRet r
theorem xIsCmp {l op r pos whole} {R : Bool → Heap → Prop} (H : X M A (eval l env) h (fun a h₁ => X M A (eval r env) h₁ (fun b h₂ => T M A (compareOp op a b) h₂ (fun c h₃ => T M A (truthy c) h₃ R))))
    (hm : behindInMarks op r = false := by with_unfolding_all rfl) : X M A (isTrue (.Compare l [op] [r] pos) env whole) h R := by
  rw [isTrue_Compare1, markedBehindIn_of_false hm]
  exact xBind (xMono H fun a h₁ H1 => xBind (xHolding (xMono H1 fun b h₂ H2 => xStand (xBind (xOperate (X.of (tMono H2 fun c h₃ H3 => xHolding (X.of H3))))))))
theorem xReturn {e pos} {R : Flow → Heap → Prop} (H : X M A (eval e env) h (fun v h₁ => R (.ret v) h₁)) : X M A (exec (.Return (some e) pos) env) h R := by
  rw [exec_Return_some]
  exact xStand (xBind (xMono H fun v h₁ r => xRet r))
theorem xAssign {x pos' value pos} {R : Flow → Heap → Prop} (H : X M A (eval value env) h (fun v h₁ => T M A (storeName env x v) h₁ (fun _ => R .next)))
    (hs : swapsWith value (some (.Name x pos')) pos.line env = pure false := by rfl) : X M A (exec (.Assign [.Name x pos'] value pos) env) h R := by
  rw [exec_Assign_Name env x pos' value pos hs]
  exact xStand (xBind (xMono H fun v h₁ H1 => xStand (xBind (X.of (tBindName (tMono H1 fun _ h₂ r => xRet r))))))
theorem xArgs {pos e rest} {R : List Value → Heap → Prop} (H : X M A (eval e env) h (fun v h₁ => X M A (spliced (backTo pos (starEach rest env))) h₁ (fun vs h₂ => R (v :: vs) h₂)))
    (he : starEach (e :: rest) env = (false, eval e env) :: starEach rest env := by rfl) : X M A (spliced (backTo pos (starEach (e :: rest) env))) h R := by
  rw [he]
  show X M A (do
    let v ← eval e env
    let here ← (pure [v] : Sem (List Value))
    return here ++ (← holding here (spliced (backTo pos (starEach rest env))))) h R
  exact xBind (xMono H fun v h₁ H1 => xBind (xRet (xBind (xHolding (xMono H1 fun vs h₂ r => xRet r)))))
theorem xList {elts pos} {R : Value → Heap → Prop} (H : X M A (spliced (backTo pos (starEach elts env))) h (fun vs h₁ => vs.length ≤ sizeLine ∧ R (.ref h₁.objs.size) (h₁.push (listObj vs)))) : X M A (eval (.List elts pos) env) h R := by
  rw [arm_eval_List]
  refine xStand (xBind (xMono H fun vs h₁ r => X.of fun s Q E hs hQ => ?_))
  subst hs
  exact wpAny_newObj_type (hQ _ _ s.toks r.2) (by show vs.toArray.size ≤ sizeLine; rw [List.size_toArray]; exact r.1)
theorem xCall {func : Expr} {args : List Expr} {pos : Pos} {R : Value → Heap → Prop} (H : T M A (eval func env) h (fun f h₁ => X M A (callWith pos f [] (backTo pos (starEach args env)) []) h₁ R))
    (he : eval (.Call func args [] pos) env = (do callWith pos (← eval func env) [] (backTo pos (starEach args env)) (backToKw pos (keywordEach [] env))) := by rfl) : X M A (eval (.Call func args [] pos) env) h R := by
  rw [he]
  exact xBind (X.of H)
theorem xEvalArgs {f : Value} {x : Sem Value} {rest : List (Bool × Sem Value)} {R : Args → Heap → Prop} (H : X M A (spliced ((false, x) :: rest)) h (fun vs h₁ => R ⟨vs, []⟩ h₁)) : X M A (evalArgs f true ((false, x) :: rest) []) h R := by
  unfold evalArgs
  show X M A (spliced ((false, x) :: rest) >>= _) h R
  refine xBind (xMono H fun vs h₁ r => ?_)
  refine xHolding ?_
  exact xBind (xRet (xBind (xRet (xRet r))))
theorem xCallWithTy {pos : Pos} {t : String} {first : List Value} {args : List (Bool × Sem Value)} {R : Value → Heap → Prop} (hplain : args.any (·.1) = false)
    (H : X M A (evalArgs (.type t) true args []) h (fun a h₁ => X M A (call (.type t) (first ++ a.pos) a.kw) h₁ R)) : X M A (callWith pos (.type t) first args []) h R := by
  unfold callWith
  refine xBind (xHolding (xMono H fun a h₁ H1 => xStand ?_))
  simp only [hplain, List.any_nil, Bool.or_false]
  refine xBind (xRet ?_)
  exact xBind (xMono H1 fun r h₂ hr => xBind (xHolding (X.of (tPoint (xRet hr)))))
theorem xCallWithBlt {pos : Pos} {id : String} {first : List Value} {args : List (Bool × Sem Value)} {R : Value → Heap → Prop} (hplain : args.any (·.1) = false)
    (H : X M A (evalArgs (.builtin id) true args []) h (fun a h₁ => X M A (call (.builtin id) (first ++ a.pos) a.kw) h₁ R)) : X M A (callWith pos (.builtin id) first args []) h R := by
  unfold callWith
  refine xBind (xHolding (xMono H fun a h₁ H1 => xStand ?_))
  simp only [hplain, List.any_nil, Bool.or_false]
  refine xBind (xRet ?_)
  exact xBind (xMono H1 fun r h₂ hr => xBind (xHolding (X.of (tPoint (xRet hr)))))
theorem xCallWithFn {pos : Pos} {a : Addr} {o : Obj} {fd : FuncData} {first : List Value} {args : List (Bool × Sem Value)} {R : Value → Heap → Prop} (hdat : o.data = .func fd)
    (H : X M A (evalArgs (.ref a) true args []) h (fun x h₁ => h₁.get? a = some o ∧ X M A (call (.ref a) (first ++ x.pos) x.kw) h₁ R)) : X M A (callWith pos (.ref a) first args []) h R := by
  unfold callWith
  refine xBind (xHolding (xMono H fun x h₁ H1 => xStand ?_))
  have tail : ∀ {t : Sem Value}, X M A t h₁ R → X M A (t >>= fun r => holding [r] point >>= fun _ => pure r) h₁ R :=
    fun ht => xBind (xMono ht fun r h₂ hr => xBind (xHolding (X.of (tPoint (xRet hr)))))
  cases hs : args.any (·.1) <;> simp only [List.any_nil, Bool.or_false] <;>
    refine xBind (m := keeperOf (.ref a)) ?_ <;> unfold keeperOf <;>
    refine xBind (X.of (tLoad H1.1 ?_)) <;> rw [hdat] <;> refine xRet ?_
  · dsimp only
    split
    · exact tail H1.2
    · exact tail (by unfold callMarked; exact xKeep H1.2)
  · exact tail (by unfold callMarked; exact xKeep H1.2)
theorem xCallDef {pos : Pos} {f : Addr} {o : Obj} {fd : FuncData} {e : Expr} {rest : List Expr} {R : Value → Heap → Prop} (hdat : o.data = .func fd)
    (H : X M A (spliced (backTo pos (starEach (e :: rest) env))) h (fun vs h₁ => h₁.get? f = some o ∧ X M A (call (.ref f) vs) h₁ R))
    (he : starEach (e :: rest) env = (false, eval e env) :: starEach rest env := by rfl) : X M A (callWith pos (.ref f) [] (backTo pos (starEach (e :: rest) env)) []) h R := by
  rw [he] at H ⊢
  exact xCallWithFn hdat (xEvalArgs (xMono H fun vs h₁ r => r))
theorem xCallTy {pos : Pos} {t : String} {e : Expr} {rest : List Expr} {R : Value → Heap → Prop} (H : X M A (spliced (backTo pos (starEach (e :: rest) env))) h (fun vs h₁ => X M A (call (.type t) vs) h₁ R))
    (he : starEach (e :: rest) env = (false, eval e env) :: starEach rest env := by rfl) (hplain : (backTo pos (starEach rest env)).any (·.1) = false := by rfl) :
    X M A (callWith pos (.type t) [] (backTo pos (starEach (e :: rest) env)) []) h R := by
  rw [he] at H ⊢
  exact xCallWithTy (by show (false || (backTo pos (starEach rest env)).any (·.1)) = false; rw [hplain]; rfl) (xEvalArgs H)
theorem xCallBlt {pos : Pos} {id : String} {e : Expr} {rest : List Expr} {R : Value → Heap → Prop} (H : X M A (spliced (backTo pos (starEach (e :: rest) env))) h (fun vs h₁ => X M A (call (.builtin id) vs) h₁ R))
    (he : starEach (e :: rest) env = (false, eval e env) :: starEach rest env := by rfl) (hplain : (backTo pos (starEach rest env)).any (·.1) = false := by rfl) :
    X M A (callWith pos (.builtin id) [] (backTo pos (starEach (e :: rest) env)) []) h R := by
  rw [he] at H ⊢
  exact xCallWithBlt (by show (false || (backTo pos (starEach rest env)).any (·.1)) = false; rw [hplain]; rfl) (xEvalArgs H)
end
section
variable {prog : Program} {w : World} {A : Around} {env : Env} {h : Heap}
/-- a comprehension whose source is worked out in a calm context -/
theorem xComp {elt iter : Expr} {x : Str} {px : Pos} {ifs : List Expr} {scope : Scope} {cl : List (Str × Addr)} {pos : Pos} {R : Value → Heap → Prop} (p : Value → Bool) (F : Value → Value → Prop)
    (hclos : closureFor scope env = pure cl) (hcell : ∀ y ∈ scope.names, y.2 ≠ .cell) (hkind : scope.kind = .function)
    (hnames : ∀ y ∈ scope.names, y.2 = .local → scope.names.lookup y.1 = some .local) (hx : scope.names.lookup x = some .local)
    (H : X (model prog w) A (eval iter env) h (fun xv h₁ => T (model prog w) A (pyIter xv) h₁ (fun it h₂ => ∃ I wr n P, it = .ref I ∧ Src prog w A I wr n P h₂ ∧ n ≤ sizeLine ∧
      (∀ C i v h₃ m₃, h₂.objs.size ≤ C → P i v → h₃.Ns C m₃ → m₃ x = some v → (∀ b o, b ∉ wr → h₂.get? b = some o → h₃.get? b = some o) →
        T (model prog w) A (forIn ifs true fun c r => if r = true then do let ok ← isTrue c (compEnvC scope cl C env) (eval c (compEnvC scope cl C env)); pure (ForInStep.yield ok) else pure (ForInStep.yield r)) h₃ (fun ok h₄ => ok = p v ∧ Ext h₃ h₄)) ∧
      (∀ C i v h₃ m₃, h₂.objs.size ≤ C → P i v → p v = true → h₃.Ns C m₃ → m₃ x = some v → (∀ b o, b ∉ wr → h₂.get? b = some o → h₃.get? b = some o) →
        T (model prog w) A (eval elt (compEnvC scope cl C env)) h₃ (fun y h₄ => F v y ∧ Ext h₃ h₄)) ∧
      (∀ D h' (ys vs : List Value), h₂.get? D = none → h'.PlainList D ys.toArray → vs.length = n → (∀ j v, vs[j]? = some v → P j v) → Paired F (vs.filter p) ys →
        (∀ b o, b ∉ wr → h₂.get? b = some o → h'.get? b = some o) → R (.ref D) h'))))
    (hs' : ∀ x, foldedSetIterable iter env x = pure x := by intro _; rfl) :
    X (model prog w) A (eval (.ListComp elt [⟨.Name x px, iter, ifs, 0⟩] scope pos) env) h R := by
  have split : eval (.ListComp elt [⟨.Name x px, iter, ifs, 0⟩] scope pos) env = (eval iter env >>= fun xv =>
      comprehension (.ListComp elt [⟨.Name x px, iter, ifs, 0⟩] scope pos) scope env (firstIterPos [⟨.Name x px, iter, ifs, 0⟩] pos) (newList []) false (pure xv) none) := by
    rw [eval_ListComp]
    unfold comprehension
    rw [hclos]
    rfl
  rw [split]
  refine xBind (xMono H fun xv h₁ H1 => X.of fun s Q E hs hQ => ?_)
  refine wpAny_comprehension_free (use := none) rfl hs' hclos hkind hnames (wpAny_pure (H1 _ _ _ hs fun it h₂ k₂ H2 => ?_))
  obtain ⟨I, wr, n, P, rfl, ⟨fp, St, Wk, hst, hfp⟩, hsz, hT, hE, hR⟩ := H2
  refine comp_block_walkC (RR := fun acc C => compPost (model prog w) A E none Q acc C) (s₂ := { s with heap := h₂, toks := k₂ }) Wk hsz p F hcell hkind hx hst hfp ⟨?_, ?_⟩ ?_
  · intro C i v s₃ m₃ E' hC hP hns hm hk _
    exact hT C i v s₃.heap m₃ hC hP hns hm hk s₃ _ E' rfl fun ok h₄ k₄ r => ⟨r.1, h₄, k₄, rfl, r.2⟩
  · intro C i v s₃ m₃ E' hC hP hpv hns hm hk _
    exact hE C i v s₃.heap m₃ hC hP hpv hns hm hk s₃ _ E' rfl fun y h₄ k₄ r => ⟨r.1, h₄, k₄, rfl, r.2⟩
  · intro D C h' tk m' ys vs hD hC hDC hn hl hpl hlen hP hF hk
    exact ⟨m', hn, fun h'' hs'' => hQ _ _ _ (hR D h'' ys.toList vs hD (by simpa using hpl.extBut hs''.extBut hDC) hlen hP hF fun b o hbf e => hs''.extBut b o (by rintro rfl; rw [hC] at e; cases e) (hk b o hbf e))⟩
end
end Mine

namespace Mine
namespace FY
theorem slot_init : Slot "bytearray" "__init__" "bytearray.__init__" :=
  .of (owner := "bytearray") (n := "__init__") (by rw [typeLookup_type, builtinLookup_eq_fast]; kernel_rfl) (by decide +kernel) (by decide +kernel) (by decide +kernel)
    (by first | exact .inl (by decide +kernel) | exact .inr (by decide +kernel)) (by rw [isSubtype_type]; kernel_rfl)
theorem entry_init : entryFor table "bytearray.__init__" = some Builtin.«bytearray.__init__» := entryFor_of_tree (by kernel_rfl)
theorem args_init (a b : Value) : argsOk "bytearray.__init__" ⟨[a, b], []⟩ := by unfold argsOk; kernel_rfl
theorem mro : mroOf (.type "bytearray") = pure [.type "bytearray", .type "object"] := by rw [mroOf_type]; kernel_rfl
theorem lookup_new : typeLookup (.type "bytearray") "__new__" = pure (some (.builtin "bytearray.__new__")) := by rw [typeLookup_type, builtinLookup_eq_fast]; kernel_rfl
theorem called : TypeCalled "bytearray" "bytearray.__new__" "bytearray.__init__" :=
  ⟨by decide +kernel, by decide +kernel, ⟨_, _, mro⟩, madeBy_type mro lookup_new (by decide +kernel), by decide +kernel, by rw [isSubtype_type]; kernel_rfl, slot_init⟩
theorem typeCall (a : Value) : checkTypeCall "bytearray" ⟨[a], []⟩ = pure () := by kernel_rfl
theorem newCall (a : Value) : checkBuiltinCall "bytearray.__new__" ⟨[.type "bytearray", a], []⟩ = pure () := by kernel_rfl
theorem entry_new : entryFor table "bytearray.__new__" = some Builtin.«list.__new__» :=
  entryFor_alias (id' := "list.__new__") (by kernel_rfl) (by first | rfl | decide +kernel) (by decide +kernel) (by kernel_rfl)
theorem plain_new : plainId "bytearray.__new__" = true := by decide +kernel
theorem plain_init : plainId "bytearray.__init__" = true := by decide +kernel
set_option maxRecDepth 1000000 in
set_option maxHeartbeats 4000000 in
theorem owner_new : ("bytearray.__new__".splitOn ".__new__").headD "" = "bytearray" := by simp +decide [String.splitOn, String.splitOnAux]
theorem sub_self : isSubtype (.type "bytearray") (.type "bytearray") = pure true := by rw [isSubtype_type]; kernel_rfl
end FY
section
variable {prog : Program} {w : World} {A : Around} {E : Value → Shared → Prop} {s : Shared} {h : Heap}
theorem code_bytearray_new (a : Value) {Q₁ : Value → Shared → Prop}
    (h : Q₁ (.ref s.heap.objs.size) { s with heap := s.heap.push { cls := .type "bytearray", data := .bytearray #[] } }) :
    codeAny (model prog w) A (.call (.builtin "bytearray.__new__") ⟨[.type "bytearray", a], []⟩) (wants Q₁ E) s := by
  refine codeAny_of_tree ?_
  show wpAny _ A.in1 (do checkBuiltinCall "bytearray.__new__" ⟨[.type "bytearray", a], []⟩; again (.builtin "bytearray.__new__" ⟨[.type "bytearray", a], []⟩)) _ _ s
  refine wpAny_bind (wpAny_of_eq (FY.newCall a) (wpAny_pure ⟨plainId_quiet FY.plain_new _, codeAny_builtin_stack FY.entry_new rfl fun p st => ?_⟩))
  rw [Around.under_plainId FY.plain_new _]
  have hsub := FY.sub_self
  have hown := FY.owner_new
  obtain ⟨hp, g, d, tk, os⟩ := s
  simp only [hown]
  wp_walk
  exact h
theorem tNewBytearray (a : Value) {R : Value → Heap → Prop} (hr : R (.ref h.objs.size) (h.push { cls := .type "bytearray", data := .bytearray #[] })) : T (model prog w) A (call (.builtin "bytearray.__new__") [.type "bytearray", a]) h R := fun s Q E hs hQ => by
  subst hs
  exact wpAny_call (codeAny_mono (code_bytearray_new (E := E) a (Q₁ := Q) (hQ _ _ s.toks hr)) fun r s' hr' => hr')
theorem cxBuiltin {id : String} {args : Args} {b : Builtin} {R : Flow → Heap → Prop} (hb : entryFor table id = some b) (hh : holdIds.contains id = false)
    (H : X (model prog w) (A.under (.builtin id args)) (b args) h (FX' (model prog w) A R)) : CX (model prog w) A (.builtin id args) h R := by
  refine cxTree hh ?_
  show X _ _ (match entryFor table id with | some b => b args | none => unsupported ((withoutEnding? id "#data").getD id)) _ _
  rw [hb]
  exact H
theorem xTypeCall {n : Int} {t : Tok} {R : Value → Heap → Prop}
    (H : X (model prog w) A.in1 (call (.builtin "bytearray.__init__") [.ref h.objs.size, .int n t]) (h.push { cls := .type "bytearray", data := .bytearray #[] }) (fun v h₂ => v = .none ∧ R (.ref h.objs.size) h₂)) :
    X (model prog w) A (call (.type "bytearray") [.int n t]) h R := by
  obtain ⟨c, tl, hmro⟩ := FY.called.mro
  have hmade := FY.called.made
  have hsub := FY.called.sub
  have h1 := FY.called.notType
  have h2 := FY.called.canCreate
  have h3 := FY.typeCall (.int n t)
  refine xCallV (cxTree rfl ?_)
  show X _ _ (callAny (.type "bytearray") _) _ _
  refine xRet ⟨Code.quiet_builtin _ (by decide +kernel), cxBuiltin F.entry_type_call (by decide +kernel) ?_⟩
  rw [Around.under_plain (weight_type_call_type "bytearray" [.int n t] []) rfl]
  show X _ _ (Builtin.«type.__call__» ⟨[.type "bytearray", .int n t], []⟩) _ _
  unfold Builtin.«type.__call__»
  dsimp only
  refine xIteF (by rw [h1]; decide) ?_
  refine xIteF (by rw [h2]; decide) ?_
  rw [h3, hmro, hmade]
  simp only [pure_bind, List.isEmpty_cons, Bool.false_eq_true, if_false]
  refine xBind (xHolding (X.of (tNewBytearray _ ?_)))
  have hT : ∀ s' : Shared, s'.heap = h.push { cls := .type "bytearray", data := .bytearray #[] } → s'.TypeIs (.ref h.objs.size) "bytearray" := fun s' e => by
    rw [Shared.TypeIs]
    exact ⟨_, by rw [e]; exact Heap.get?_push_size h (o := { cls := .type "bytearray", data := .bytearray #[] }) rfl, rfl⟩
  refine xBind (X.of fun s Q E hs hQ => wpAny_isInstance (hT s hs) hsub (hQ true _ s.toks ?_))
  rw [hs]
  refine xIteF (by decide) ?_
  refine xBind (xHolding ?_)
  unfold callSpecial?
  refine xBind (X.of fun s' Q' E' hs' hQ' => wpAny_specialOf (hT s' hs') FY.slot_init.lookup (hQ' _ _ s'.toks ?_))
  rw [hs']
  dsimp only
  refine xHolding ?_
  rw [FY.slot_init.bind]
  refine xBind (xRet (xBind (xMono H fun v h₂ r => xRet ?_)))
  obtain ⟨rfl, r⟩ := r
  dsimp only
  exact xIteF (by decide) (xRet r)
end
end Mine

namespace Mine
namespace FZ
theorem bind2 (v : Value) : Builtin.Bytes.bindOptional "bytearray.__init__" "bytearray" ["source", "encoding", "errors"] [v] [] = pure [some v, none, none] := by kernel_rfl
theorem look_release : typeLookup (.type "bytearray") "__release_buffer__" = pure (some (.builtin "bytearray.__release_buffer__")) := by rw [typeLookup_type, builtinLookup_eq_fast]; kernel_rfl
end FZ
section
variable {prog : Program} {w : World} {A : Around} {E : Value → Shared → Prop} {s : Shared} {h : Heap}
theorem hold_dec {id : String} (h : holdIds.contains id = false) : Builtin.Bytes.decodersThatHold.contains id = false := by
  unfold holdIds at h
  rw [List.contains_eq_any_beq, List.any_append] at h
  rw [List.contains_eq_any_beq]
  exact (Bool.or_eq_false_iff.mp h).2
theorem holds_at {id : String} {args : Args} (h : holds (.builtin id args) = false) : holdIds.contains id = false := h
theorem xExported {v : Value} {R : Bool → Heap → Prop} (hr : R false h) : X (model prog w) A (Builtin.Bytes.exported v) h R := fun s Q E hs hQ Γ p hΓ hc => by
  subst hs
  unfold Builtin.Bytes.exported
  show Q (List.any ((Γ.code, p) :: Γ.below) _) s
  have key : ∀ (f : Code × Pos → Bool), (∀ x : Code × Pos, holds x.1 = false → f x = false) → List.any ((Γ.code, p) :: Γ.below) f = false := fun f hf => by
    rw [List.any_eq_false]
    intro x hx
    rcases List.mem_cons.mp hx with rfl | hx
    · simpa using hf _ hc.1
    · simpa using hf _ (hc.2 x hx)
  rw [key _ ?_]
  · exact hQ false _ s.toks hr
  · rintro ⟨c, pp⟩ hh
    dsimp only at hh ⊢
    split
    all_goals first
      | rfl
      | (rename_i heq
         obtain ⟨rfl, _⟩ := Prod.mk.inj heq
         first
           | exact absurd (holds_at hh) (by decide +kernel)
           | (have hd : Builtin.Bytes.decodersThatHold.contains _ = false := hold_dec (holds_at hh)
              rw [hd, Bool.and_false]))
theorem xInitBytearray {a : Addr} {n : Nat} {t : Tok} (hn : n ≤ 200) (hpos : 0 < n) {nz : Int} (hnz : nz = n) (ha : h.get? a = some { cls := .type "bytearray", data := .bytearray #[] }) {R : Value → Heap → Prop}
    (hr : ∀ h', Heap.SameBut a h h' → h'.get? a = some { cls := .type "bytearray", data := .bytearray (List.replicate n 0).toArray } → R .none h') :
    X (model prog w) A (call (.builtin "bytearray.__init__") [.ref a, .int nz t]) h R := by
  refine xCallV (cxTree rfl ?_)
  show X _ A.in1 (do checkBuiltinCall "bytearray.__init__" ⟨[.ref a, .int nz t], []⟩; again (.builtin "bytearray.__init__" ⟨[.ref a, .int nz t], []⟩)) _ _
  have hT : ∀ s' : Shared, s'.heap = h → s'.TypeIs (.ref a) "bytearray" := fun s' e => ⟨_, by rw [e]; exact ha, rfl⟩
  refine xBind (X.of fun s Q E hs hQ => FY.slot_init.check _ _ _ _ _ _ _ _ (hT s hs) (FY.args_init _ _) (hQ () _ s.toks ?_))
  rw [hs]
  refine xRet ⟨plainId_quiet FY.plain_init _, cxBuiltin FY.entry_init (by decide +kernel) ?_⟩
  rw [Around.under_plainId FY.plain_init _]
  unfold Builtin.«bytearray.__init__»
  dsimp only
  have rel : T (model prog w) A.in1 (Builtin.Bytes.ownRelease (.ref a)) h (fun b h' => b = false ∧ h' = h) := fun s Q E hs hQ => by
    have f1 := FZ.look_release
    have hT' := hT s hs
    obtain ⟨hp, g, d, tk, os⟩ := s
    subst hs
    unfold Builtin.Bytes.ownRelease
    repeat (any_goals (first | assumption | wp_step))
    rw [if_neg (by decide +kernel)]
    have e : "bytearray.__release_buffer__".dropRight ("__release_buffer__".length + 1) = "bytearray" := by decide +kernel
    rw [e]
    refine wpAny_isInstance hT' FY.sub_self (wpAny_pure ?_)
    exact hQ false _ _ ⟨rfl, rfl⟩
  refine xBind (X.of (tMono rel fun b h₁ r => ?_))
  obtain ⟨rfl, rfl⟩ := r
  refine xIteF (by decide) ?_
  rw [FZ.bind2]
  simp only [pure_bind]
  refine xBind (xEq (t' := pure ()) rfl (xRet ?_))
  refine xBind (xEq (t' := pure ()) rfl (xRet ?_))
  refine xBind ?_
  unfold orM
  refine xBind (xExported ?_)
  refine X.of fun s Q E hs hQ => ?_
  obtain ⟨hp, g, d, tk, os⟩ := s
  subst hs
  have hT' := hT ⟨hp, g, d, tk, os⟩ rfl
  unfold Builtin.Bytes.exportsOf
  repeat (any_goals (first | assumption | wp_step))
  refine hQ _ _ _ (xIteF (by decide) ?_)
  clear hQ Q E
  refine X.of fun s Q E hs hQ => ?_
  have wr : ∀ (f : Array UInt8 → Array UInt8) (b : Array UInt8) (H : Heap) (R' : Unit → Heap → Prop), H.get? a = some { cls := .type "bytearray", data := .bytearray b } → (f b).size ≤ 400 →
      (∀ H', Heap.SameBut a H H' → H'.get? a = some { cls := .type "bytearray", data := .bytearray (f b) } → R' () H') → T (model prog w) A.in1 (Builtin.Bytes.write (.ref a) f) H R' := fun f b H R' hb hsz hR s Q E hs hQ => by
    subst hs
    show wpAny _ _ (updateBytearray a f) _ _ _
    have hb' := Heap.get?_update_self (Obj.mapBytearray f) hb rfl
    unfold updateBytearray
    refine wpAny_bind (wpAny_load hb ?_)
    show wpAny _ _ (update a (Obj.mapBytearray f) >>= fun _ => lookBehind a) _ _ _
    refine wpAny_bind (wpAny_update hb ?_)
    refine wpAny_lookBehind hb' ?_ (hQ _ _ s.toks (hR _ (Heap.SameBut.update ..) hb'))
    show (if (f b).size > sizeLine then some "bytearray:memory" else none) = none
    rw [if_neg]
    have := small_line (n := (f b).size) (by omega)
    omega
  refine wpAny_bind (wr (fun _ => #[]) #[] _ (fun _ H' => Heap.SameBut a hp H' ∧ H'.get? a = some { cls := .type "bytearray", data := .bytearray #[] }) (hs ▸ ha) (by simp) (fun h₁ s₁ g₁ => ⟨hs ▸ s₁, g₁⟩) _ _ _ rfl fun _ h₁ k₁ r => ?_)
  obtain ⟨s₁, g₁⟩ := r
  have f2 := PySem.F.slot_int_index.lookup
  have hTi : ∀ s' : Shared, s'.TypeIs (.int nz t) "int" := fun s' => typeIs_int s' nz t
  have c0 : 0 < nz ∧ nz ≤ 200 := by omega
  have c1 : (!Builtin.Bytes.fitsIndex nz) = false := by simp [Builtin.Bytes.fitsIndex]; omega
  have c2 : ¬ (nz < 0) := by omega
  have c3 : (nz == 2 ^ 63 - 1) = false := beq_eq_false_iff_ne.mpr (by omega)
  have c4 : Builtin.Bytes.tooLong (nz.toNat) = false := by
    simp only [Builtin.Bytes.tooLong, decide_eq_false_iff_not]
    have := small_line (n := nz.toNat) (by omega)
    omega
  have c5 : nz > 0 := by omega
  refine wpAny_bind (wpAny_of_eq (a := none) rfl ?_)
  repeat (any_goals (first | assumption | wp_step))
  refine bm_if_false c1 ?_
  rw [if_neg c2]
  refine bm_if_false c3 ?_
  refine bm_if_false c4 ?_
  refine wpAny_bind (wpAny_rule ?_)
  rw [if_pos c5]
  refine wpAny_bind (wr (fun _ => Array.replicate nz.toNat 0) #[] _ (fun _ H' => Heap.SameBut a h₁ H' ∧ H'.get? a = some { cls := .type "bytearray", data := .bytearray (Array.replicate nz.toNat 0) }) g₁ (by simp; omega) (fun h₂ s₂ g₂ => ⟨s₂, g₂⟩) _ _ _ rfl fun _ h₂ k₂ r => ?_)
  obtain ⟨s₂, g₂⟩ := r
  refine wpAny_pure (hQ _ _ _ (hr h₂ ?_ ?_))
  · exact ⟨s₂.1.trans s₁.1, fun b hb => (s₂.2 b hb).trans (s₁.2 b hb)⟩
  · rw [g₂]
    have e : nz.toNat = n := by omega
    rw [e]
    simp
end
end Mine

namespace Mine
namespace FS
theorem slot_set : Slot "bytearray" "__setitem__" "bytearray.__setitem__" :=
  .of (owner := "bytearray") (n := "__setitem__") (by rw [typeLookup_type, builtinLookup_eq_fast]; kernel_rfl) (by decide +kernel) (by decide +kernel) (by decide +kernel)
    (by first | exact .inl (by decide +kernel) | exact .inr (by decide +kernel)) (by rw [isSubtype_type]; kernel_rfl)
theorem entry_set : entryFor table "bytearray.__setitem__" = some Builtin.«bytearray.__setitem__» := entryFor_of_tree (by kernel_rfl)
theorem args_set (a b c : Value) : argsOk "bytearray.__setitem__" ⟨[a, b, c], []⟩ := by unfold argsOk; kernel_rfl
theorem typeInt : ∀ s : Shared, ∀ k t, s.TypeIs (.int k t) "int" := fun s k t => typeIs_int s k t
end FS
section
variable {prog : Program} {w : World} {A : Around} {env : Env} {h : Heap}
theorem tWriteBytes {a : Addr} {f : Array UInt8 → Array UInt8} {b : Array UInt8} {R : Unit → Heap → Prop} (hb : h.get? a = some { cls := .type "bytearray", data := .bytearray b }) (hsz : (f b).size ≤ 400)
    (hr : ∀ h', Heap.SameBut a h h' → h'.get? a = some { cls := .type "bytearray", data := .bytearray (f b) } → R () h') : T (model prog w) A (Builtin.Bytes.write (.ref a) f) h R := fun s Q E hs hQ => by
  subst hs
  show wpAny _ _ (updateBytearray a f) _ _ _
  have hb' := Heap.get?_update_self (Obj.mapBytearray f) hb rfl
  unfold updateBytearray
  refine wpAny_bind (wpAny_load hb ?_)
  show wpAny _ _ (update a (Obj.mapBytearray f) >>= fun _ => lookBehind a) _ _ _
  refine wpAny_bind (wpAny_update hb ?_)
  refine wpAny_lookBehind hb' ?_ (hQ _ _ s.toks (hr _ (Heap.SameBut.update ..) hb'))
  show (if (f b).size > sizeLine then some "bytearray:memory" else none) = none
  rw [if_neg]
  have := small_line (n := (f b).size) (by omega)
  omega
theorem tPayload {a : Addr} {b : Array UInt8} {R : Array UInt8 → Heap → Prop} (hb : h.get? a = some { cls := .type "bytearray", data := .bytearray b }) (hr : R b h) : T (model prog w) A (Builtin.Bytes.payload (.ref a)) h R := by
  unfold Builtin.Bytes.payload Builtin.Bytes.payload?
  exact tBind (tBind (tLoad hb (tRet (tRet hr))))
theorem tSubscr {k : Int} {t : Tok} {R : Option Int → Heap → Prop} (hk : Builtin.Bytes.fitsIndex k = true) (hr : R (some k) h) : T (model prog w) A (Builtin.Bytes.subscript? (.int k t)) h R := fun s Q E hs hQ => by
  subst hs
  unfold Builtin.Bytes.subscript?
  refine wpAny_bind (wpAny_specialOf (FS.typeInt s k t) PySem.F.slot_int_index.lookup ?_)
  refine bm_if_false rfl ?_
  refine wpAny_bind (wpAny_of_eq (a := k) rfl ?_)
  refine bm_if_false (by rw [hk]; rfl) ?_
  exact wpAny_pure (hQ _ _ s.toks hr)
theorem tByteValue {x : Int} {u : Tok} {R : UInt8 → Heap → Prop} (h0 : 0 ≤ x) (h1 : x < 256) (hr : R x.toNat.toUInt8 h) : T (model prog w) A (Builtin.Bytes.byteValue (.int x u)) h R := fun s Q E hs hQ => by
  subst hs
  unfold Builtin.Bytes.byteValue
  refine wpAny_bind (wpAny_of_eq (a := x) rfl ?_)
  refine bm_if_false (by simp only [Bool.or_eq_false_iff, decide_eq_false_iff_not]; omega) ?_
  exact wpAny_pure (hQ _ _ s.toks hr)
theorem tSetByte {a : Addr} {b : List UInt8} {k x : Int} {p : Nat} {c : UInt8} {t u : Tok} {R : Unit → Heap → Prop} (hb : h.get? a = some { cls := .type "bytearray", data := .bytearray b.toArray }) (hk : k = p) (hp : p < b.length) (hsz : b.length ≤ 400) (hx : x = c.toNat)
    (hr : ∀ h', Heap.SameBut a h h' → h'.get? a = some { cls := .type "bytearray", data := .bytearray (b.set p c).toArray } → R () h') : T (model prog w) A (setItem (.ref a) (.int k t) (.int x u)) h R := fun s Q E hs hQ => by
  have hT : ∀ s : Shared, s.heap = h → s.TypeIs (.ref a) "bytearray" := fun s e => ⟨_, by rw [e]; exact hb, rfl⟩
  have hc : c.toNat < 256 := c.toNat_lt
  have hf : Builtin.Bytes.fitsIndex k = true := by simp [Builtin.Bytes.fitsIndex]; omega
  have hsi : seqIndex? k b.toArray.size = some p := by subst hk; simp [seqIndex?]; omega
  have hxc : x.toNat.toUInt8 = c := by subst hx; rw [Int.toNat_natCast]; exact UInt8.ofNat_toNat
  unfold setItem
  refine wpAny_holding ?_
  first | refine wpAny_bind (wpAny_pure ?_) | skip
  refine wpAny_bind (wpAny_sequenceKey (hT s hs) (by decide) ?_)
  have body : T (model prog w) A (call (.builtin "bytearray.__setitem__") [.ref a, .int k t, .int x u]) h (fun _ => R ()) := by
    refine tCallB FS.slot_set hT FS.entry_set (FS.args_set _ _ _) ?_
    unfold Builtin.«bytearray.__setitem__»
    dsimp only
    refine tIteF (by decide) ?_
    refine tBind (tSubscr hf ?_)
    dsimp only
    refine tBind (tByteValue (by omega) (by omega) ?_)
    refine tBind (tPayload hb ?_)
    rw [hsi]
    dsimp only
    refine tBind (tWriteBytes hb (by simp; omega) fun h' s' g' => tBind (tRet (tRet ?_)))
    refine hr h' s' ?_
    rw [g', hxc]
    simp [Array.setIfInBounds, hp]
  refine wpAny_bind (wpAny_callSpecial?_slot (name := Str.ofString "__setitem__") (hT s hs) FS.slot_set (body s _ _ hs fun v h' k' r => ?_))
  exact wpAny_pure (hQ _ _ _ r)
theorem tAssignSub {o i pos' value pos} {R : Flow → Heap → Prop}
    (H : T (model prog w) A (eval value env) h (fun v h₁ => T (model prog w) A (eval o env) h₁ (fun ov h₂ => T (model prog w) A (eval i env) h₂ (fun iv h₃ => T (model prog w) A (setItem ov iv v) h₃ (fun _ => R .next)))))
    (hs : swapsWith value (some (.Subscript o i pos')) pos.line env = pure false := by rfl) : T (model prog w) A (exec (.Assign [.Subscript o i pos'] value pos) env) h R :=
  fun s Q E he hQ => wpAny_Assign_Subscript (H s _ E he fun v h₁ k₁ H1 => H1 _ _ E rfl fun ov h₂ k₂ H2 => H2 _ _ E rfl fun iv h₃ k₃ H3 => H3 _ _ E rfl fun _ h₄ k₄ r => hQ _ _ _ r) hs
end
end Mine

namespace Mine
namespace FB3
theorem noBytes : typeLookup (.type "bytearray") "__bytes__" = pure none := by rw [typeLookup_type, builtinLookup_eq_fast]; kernel_rfl
theorem noIndex : typeLookup (.type "bytearray") "__index__" = pure none := by rw [typeLookup_type, builtinLookup_eq_fast]; kernel_rfl
theorem buffer : typeLookup (.type "bytearray") "__buffer__" = pure (some (.builtin "bytearray.__buffer__")) := by rw [typeLookup_type, builtinLookup_eq_fast]; kernel_rfl
theorem sub_self : isSubtype (.type "bytearray") (.type "bytearray") = pure true := by rw [isSubtype_type]; kernel_rfl
end FB3
section
variable {prog : Program} {w : World} {A : Around} {h : Heap}
theorem tOwnRelease {a : Addr} {b : Array UInt8} {R : Bool → Heap → Prop} (ha : h.get? a = some { cls := .type "bytearray", data := .bytearray b }) (hr : R false h) : T (model prog w) A (Builtin.Bytes.ownRelease (.ref a)) h R := fun s Q E hs hQ => by
  have f1 := FZ.look_release
  have hT' : s.TypeIs (.ref a) "bytearray" := ⟨_, by rw [hs]; exact ha, rfl⟩
  obtain ⟨hp, g, d, tk, os⟩ := s
  subst hs
  unfold Builtin.Bytes.ownRelease
  repeat (any_goals (first | assumption | wp_step))
  rw [if_neg (by decide +kernel)]
  have e : "bytearray.__release_buffer__".dropRight ("__release_buffer__".length + 1) = "bytearray" := by decide +kernel
  rw [e]
  refine wpAny_isInstance hT' FY.sub_self (wpAny_pure ?_)
  exact hQ false _ _ hr
theorem tOwnBuffer {a : Addr} {b : Array UInt8} {R : Bool → Heap → Prop} (ha : h.get? a = some { cls := .type "bytearray", data := .bytearray b }) (hr : R true h) : T (model prog w) A (Builtin.Bytes.slotIsOwn (.ref a) "__buffer__") h R := fun s Q E hs hQ => by
  have f1 := FB3.buffer
  have hT' : s.TypeIs (.ref a) "bytearray" := ⟨_, by rw [hs]; exact ha, rfl⟩
  obtain ⟨hp, g, d, tk, os⟩ := s
  subst hs
  repeat (any_goals (first | assumption | wp_step))
  rw [if_neg (by decide +kernel)]
  have e : "bytearray.__buffer__".dropRight ("__buffer__".length + 1) = "bytearray" := by decide +kernel
  rw [e]
  refine wpAny_isInstance hT' FY.sub_self ?_
  exact hQ true _ _ hr
theorem tBuffer {a : Addr} {b : Array UInt8} {R : Option (Array UInt8) → Heap → Prop} (ha : h.get? a = some { cls := .type "bytearray", data := .bytearray b }) (hr : R (some b) h) : T (model prog w) A (Builtin.Bytes.buffer? "bytes.__new__" (.ref a) true) h R := by
  have hT' : ∀ s : Shared, s.heap = h → s.TypeIs (.ref a) "bytearray" := fun s e => ⟨_, by rw [e]; exact ha, rfl⟩
  unfold Builtin.Bytes.buffer?
  refine tBind fun s Q E hs hQ => wpAny_specialOf (hT' s hs) FB3.buffer (hQ _ _ s.toks ?_)
  rw [hs]
  dsimp only
  refine tBind (tOwnBuffer ha ?_)
  refine tIteF (by decide) ?_
  refine tBind fun s Q E hs hQ => wpAny_specialOf (hT' s hs) FB3.buffer (hQ _ _ s.toks ?_)
  rw [hs]
  dsimp only
  refine tBind (tOwnRelease ha ?_)
  refine tIteF (by decide) ?_
  exact tBind (tPayload ha (tRet hr))
theorem tBytesArr {a : Addr} {b : Array UInt8} {R : Value → Heap → Prop} (ha : h.get? a = some { cls := .type "bytearray", data := .bytearray b }) (hb : b.size ≤ 400) (hr : ∀ t, R (.bytes b t) h) : T (model prog w) A (call (.type "bytes") [.ref a]) h R := fun s Q E hs hQ => by
  subst hs
  refine callType_codes (Q₁ := fun obj s₁ => s₁.TypeIs obj "bytes" ∧ Q obj s₁) PySem.F.bm_called (PySem.F.bm_typeCall _) PySem.F.entry_object_init ?_ fun obj s₁ h₁ =>
    ⟨h₁.1, PySem.F.args_object_init_2 obj _, object_init_meets PySem.F.bm_called.init.lookup PySem.F.bm_called.made (by decide) prog w A.in1 _ s₁ ⟨h₁.1, rfl, h₁.2⟩⟩
  refine codeAny_of_tree ?_
  show wpAny _ A.in1.in1 (do checkBuiltinCall "bytes.__new__" ⟨[.type "bytes", .ref a], []⟩; again (.builtin "bytes.__new__" ⟨[.type "bytes", .ref a], []⟩)) _ _ s
  refine wpAny_bind (wpAny_of_eq (PySem.F.bm_newCall _) (wpAny_pure ⟨plainId_quiet PySem.F.bm_plain _, codeAny_builtin PySem.F.bm_entry ?_⟩))
  rw [Around.under_plainId PySem.F.bm_plain _]
  have hT : s.TypeIs (.ref a) "bytearray" := ⟨_, ha, rfl⟩
  unfold Builtin.«bytes.__new__»
  refine wpAny_bind (wpAny_of_eq (a := true) rfl ?_)
  refine bm_if_false rfl ?_
  refine wpAny_bind (wpAny_of_eq PySem.F.bm_sub ?_)
  refine bm_if_false rfl ?_
  refine wpAny_bind (wpAny_of_eq (PySem.F.bm_bind _) ?_)
  refine wpAny_bind (wpAny_of_eq (a := ()) rfl ?_)
  refine wpAny_bind (wpAny_of_eq (a := ()) rfl ?_)
  refine bm_if_false rfl ?_
  refine wpAny_bind (wpAny_specialOf hT FB3.noBytes ?_)
  refine wpAny_bind (wpAny_bind ?_)
  show wpAny _ _ (load a >>= _) _ _ _
  refine wpAny_bind (wpAny_load ha ?_)
  refine wpAny_pure (wpAny_pure ?_)
  refine bm_if_false rfl ?_
  refine wpAny_bind (wpAny_specialOf hT FB3.noIndex ?_)
  refine bm_if_true rfl ?_
  refine wpAny_bind ?_
  show wpAny _ _ (Builtin.Bytes.buffer? "bytes.__new__" (.ref a) true) _ _ _
  refine tBuffer ha (R := fun o h' => o = some b ∧ h' = s.heap) ⟨rfl, rfl⟩ _ _ _ rfl fun o h' k r => ?_
  obtain ⟨rfl, rfl⟩ := r
  refine wpAny_bind (wpAny_rule (wpAny_bind (wpAny_mkBytes ?_ (small_line (by omega)))))
  refine bm_if_true (by decide) ?_
  refine wpAny_bind (wpAny_pure (wpAny_pure ?_))
  exact ⟨PySem.W.typeIs_bytes _ _ _, hQ _ _ _ (hr _)⟩
end
end Mine

namespace Mine

def cont (l : List UInt8) (j : Nat) : List UInt8 := (List.range 4).map fun p => if 4 ≤ p + j then l.getD (3 - p) 0 else 0
theorem cont_set (l : List UInt8) : ∀ j, j < 4 → (cont l j).set (3 - j) (l.getD j 0) = cont l (j + 1)
  | 0, _ => rfl
  | 1, _ => rfl
  | 2, _ => rfl
  | 3, _ => rfl
theorem cont_len (l : List UInt8) (j : Nat) : (cont l j).length = 4 := by simp [cont]
theorem cont_all (l : List UInt8) (h : l.length = 4) : cont l 4 = l.reverse := by
  match l, h with
  | [a, b, c, d], _ => rfl
theorem cont_nil (l : List UInt8) : cont l 0 = List.replicate 4 0 := rfl

section
variable {prog : Program} {w : World} {A : Around} {mg mb : Str → Option Value} {h : Heap}
set_option maxHeartbeats 2000000 in
theorem swap_ok (B : Base w mg mb h) (room : Room A 1) {i : Nat} {t u : Tok} (hi : i < 24) {R : Value → Heap → Prop}
    (hr : ∀ h' t', Ext h h' → R (.bytes (PL i).reverse.toArray t') h') : X (model prog w) A (call (.ref 21) [bv i t, .int 4 u]) h R := by
  refine xCallFn (binds := [("data", bv i t), ("width", .int 4 u)]) room.depth (B.K 21 _ rfl) rfl B.lim (codeRec_of B.K (by kernel_rfl)) rfl (fun s e => .of_eq (by kernel_rfl)) (by decide) (locs rfl) (fun h₁ F => ?_)
  have B₁ := B.ext F.keep
  have W₁ := W.nil F
  have h4 := PL_length i hi
  refine xThen (xAssign (xCall (B₁.blt B.N.nbytearray B.N.bytearray (xCallTy (xArgs (X.of (tCall (B₁.blt B.N.nlen B.N.len (tCallBlt (tArgs (tLoc F.ns rfl (tArgs0 (tLenBytes (by simp [h4]) fun t₁ => X.of (tArgs0 ?_))))))))))))))
  rw [show ((PL i).toArray.size : Int) = 4 by simp [h4]]
  refine xTypeCall (xInitBytearray (n := 4) (by decide) (by decide) rfl (Heap.get?_push_size _ rfl) fun h₂ s₂ g₂ => ⟨rfl, ?_⟩)
  have W₂ : W h h.objs.size _ [(h₁.objs.size, .barr (cont (PL i) 0))] h₂ := W.add (b := .barr (cont (PL i) 0)) W₁ (fun b o e => s₂.extBut b o (Nat.ne_of_lt (Heap.lt_size e)) (Heap.get?_push_of_some _ e)) (fresh_size h₁) g₂
  generalize h₁.objs.size = S at W₂ ⊢
  refine tStoreL W₂.fr.ns fun h₃ n₃ s₃ => ?_
  have W₃ := W₂.set n₃ s₃
  clear n₃ s₃ W₂ s₂ g₂
  have B₃ := B.ext W₃.keep
  show X _ _ (execs _ _) _ _
  refine X.of (tThen (tFor (tCall (B₃.blt B.N.nrange B.N.range (tCallTy (tArgs (tInt fun t₄ => tArgs (tCall (B₃.blt B.N.nlen B.N.len (tCallBlt (tArgs (tLoc W₃.fr.ns rfl (tArgs0 (tLenBytes (by simp [h4]) fun t₅ => tArgs (tLoc W₃.fr.ns rfl (tArgs0 ?_))))))))))))))))
  rw [show ((PL i).toArray.size : Int) = 4 by simp [h4]]
  refine tRange3 (by decide) (by decide) fun h₆ e₆ g₆ => tIterRange g₆ (by decide) ?_
  rw [show Builtin.Range.rangeSize 0 4 4 = 1 by decide]
  have W₇ := (W₃.ext e₆).add (b := .riter 0 1 4) (Ext.push _ { cls := .type "range_iterator", data := .fields #[rawInt 0, rawInt 1, rawInt 4] }) (fresh_size h₆) (Heap.get?_push_size h₆ rfl)
  clear W₃ e₆ g₆ B₃
  generalize h₆.objs.size = I at W₇ ⊢
  refine cFor (fun n h' => ∃ (m' : Str → Option Value) (k : Nat), W h h.objs.size m' [(I, .riter (4 * k) (1 - k) 4), (S, .barr (cont (PL i) (4 * k)))] h' ∧ m' "data" = some (bv i t) ∧ m' "width" = some (.int 4 u) ∧ m' "swapped_data" = some (.ref S) ∧ k ≤ 1 ∧ n = 1 - k)
    ?_ 1 ⟨_, 0, W₇, rfl, rfl, rfl, by decide, rfl⟩
  clear W₇
  rintro n h₁ ⟨m', k, W₁, hda, hwi, hsw, hk, hn⟩
  have hit : IsRangeIter h₁ I (4 * k) (1 - k) 4 := W₁.get (b := .riter (4 * k) (1 - k) 4) (by simp)
  rcases Nat.lt_or_ge k 1 with hlt | hge
  · obtain rfl : k = 0 := by omega
    refine tNextRange hit (by decide) fun h₂ tk i₂ s₂ => ?_
    have W₂ := W₁.upd (pre := []) (b' := .riter 4 0 4) s₂.extBut i₂
    refine tStoreL W₂.fr.ns fun h₃ n₃ s₃ => ?_
    have W₃ := W₂.set n₃ s₃
    clear n₃ s₃ W₂ W₁ hit i₂ s₂
    have B₃ := B.ext W₃.keep
    refine tThen (tFor (tCall (B₃.blt B.N.nrange B.N.range (tCallTy (tArgs (tLoc W₃.fr.ns hwi (tArgs0 (tRange1 fun h₆ u₆ v₆ e₆ g₆ => tIterRange g₆ (by decide) ?_))))))))
    rw [show Builtin.Range.rangeSize 0 4 1 = 4 by decide]
    have W₇ := (W₃.ext e₆).add (b := .riter 0 4 1) (Ext.push _ { cls := .type "range_iterator", data := .fields #[rawInt 0, rawInt 4, rawInt 1] }) (fresh_size h₆) (Heap.get?_push_size h₆ rfl)
    clear W₃ e₆ g₆ B₃
    generalize h₆.objs.size = J at W₇ ⊢
    refine cFor (fun n' h' => ∃ (m' : Str → Option Value) (j : Nat), W h h.objs.size m' [(J, .riter j (4 - j) 1), (I, .riter 4 0 4), (S, .barr (cont (PL i) j))] h' ∧ m' "data" = some (bv i t) ∧ m' "width" = some (.int 4 u) ∧ m' "swapped_data" = some (.ref S) ∧ m' "i" = some (.int (4 * ((0 : Nat) : Int)) tk) ∧ j ≤ 4 ∧ n' = 4 - j)
      ?_ 4 ⟨fun y => if y = "i" then some (.int (4 * ((0 : Nat) : Int)) tk) else m' y, 0, W₇, hda, hwi, hsw, rfl, by decide, rfl⟩
    clear W₇
    rintro n' h₁ ⟨m', j, W₁, hda, hwi, hsw, hi0, hj, hn'⟩
    have hit : IsRangeIter h₁ J j (4 - j) 1 := W₁.get (b := .riter j (4 - j) 1) (by simp)
    rcases Nat.lt_or_ge j 4 with hjl | hjg
    · refine tNextRange hit (by omega) fun h₂ tj i₂ s₂ => ?_
      have W₂ := W₁.upd (pre := []) (b' := .riter (j + 1) (4 - j - 1) 1) s₂.extBut i₂
      refine tStoreL W₂.fr.ns fun h₃ n₃ s₃ => ?_
      have W₃ := W₂.set n₃ s₃
      clear n₃ s₃ W₂ W₁ hit i₂ s₂
      have hS : h₃.get? S = some { cls := .type "bytearray", data := .bytearray (cont (PL i) j).toArray } := W₃.get (b := .barr (cont (PL i) j)) (by simp)
      refine tThen (tAssignSub (tSub (tLoc W₃.fr.ns hda (tBinOp (tLoc W₃.fr.ns hi0 (tLoc W₃.fr.ns rfl (tAdd fun t₄ => tSubBytes (by rw [h4]; decide) (by omega) (by rw [h4]; omega) fun t₅ => tLoc W₃.fr.ns hsw (tBinOp (tBinOp (tBinOp (tLoc W₃.fr.ns hi0 (tLoc W₃.fr.ns hwi (tAdd fun t₆ => tInt fun t₇ => tSubI fun t₈ => tLoc W₃.fr.ns rfl (tSubI fun t₉ => tSetByte (p := 3 - j) (c := (PL i).getD j 0) hS (by omega) (by rw [cont_len]; omega) (by rw [cont_len]; decide) ?_ fun h₅ s₅ g₅ => ?_))))))))))))))
      · have e : (4 * ((0 : Nat) : Int) + (j : Int)).toNat = j := by omega
        rw [e]
      · rw [cont_set (PL i) j hjl] at g₅
        have W₅ := W₃.upd (pre := [_, _]) (b' := .barr (cont (PL i) (j + 1))) s₅.extBut g₅
        have e1 : (4 : Int) - (j : Int) - 1 = 4 - ((j + 1 : Nat) : Int) := by omega
        have e2 : (j : Int) + 1 = ((j + 1 : Nat) : Int) := by omega
        rw [e1, e2] at W₅
        refine tDone ⟨rfl, 4 - (j + 1), by omega, _, j + 1, W₅, hda, hwi, hsw, hi0, by omega, rfl⟩
    · refine tNextRangeEnd room.deeper.handled hit (by omega) fun h₂ x₂ => tDone (tDone ⟨rfl, 0, by omega, _, 1, ?_, hda, hwi, hsw, by decide, rfl⟩)
      have W₂ := W₁.lose (pre := []) x₂
      obtain rfl : j = 4 := by omega
      exact W₂
  · refine tNextRangeEnd room.deeper.handled hit (by omega) fun h₂ x₂ => tDone ?_
    have W₂ := W₁.lose (pre := []) x₂
    obtain rfl : k = 1 := by omega
    have B₂ := B.ext W₂.keep
    have hS : h₂.get? S = some { cls := .type "bytearray", data := .bytearray (cont (PL i) 4).toArray } := W₂.get (b := .barr (cont (PL i) 4)) (by simp)
    show T _ _ (execs _ _) _ _
    refine tThen (tReturn (tCall (B₂.blt B.N.nbytes B.N.bytes (tCallTy (tArgs (tLoc W₂.fr.ns hsw (tArgs0 (tBytesArr hS (by simp [cont_len]) fun t₃ => ?_))))))))
    rw [cont_all _ h4]
    exact hr h₂ t₃ W₂.keep
end
end Mine

namespace Mine

def turnL (i : Nat) : Nat := (ix ((PL i).reverse.map fun c => 3 - c)).getD 0
theorem turn_PL : ∀ i < 24, turnL i < 24 ∧ PL (turnL i) = (PL i).reverse.map fun c => 3 - c := by decide +kernel
section
variable {prog : Program} {w : World} {A : Around} {mg mb : Str → Option Value} {h : Heap}
set_option maxHeartbeats 2000000 in
theorem turned_ok (B : Base w mg mb h) (room : Room A 2) {i : Nat} {t : Tok} (hi : i < 24) {R : Value → Heap → Prop}
    (hr : ∀ h' t', Ext h h' → R (bv (turnL i) t') h') : X (model prog w) A (call (.ref 75) [bv i t]) h R := by
  refine xCallFn (binds := [("order", bv i t)]) room.depth (B.K 75 _ rfl) rfl B.lim (codeRec_of B.K (by kernel_rfl)) rfl (fun s e => .of_eq (by kernel_rfl)) (by decide) (locs rfl) (fun h₁ F => ?_)
  have B₁ := B.ext F.keep
  have h4 := PL_length i hi
  have hrl : (PL i).reverse.length = 4 := by simp [h4]
  refine xThen (xReturn (xCall (B₁.blt B.N.nbytes B.N.bytes (xCallTy (xArgs (xComp (fun _ => true) (fun v y => ∃ (c : UInt8) (t u : Tok), v = .int c.toNat t ∧ c.toNat < 4 ∧ y = .int (3 - (c.toNat : Int)) u) rfl (by decide) rfl (by decide) rfl (xCall (B₁.glo B.N.byteswap (xCallDef rfl (xArgs (X.of (tLoc F.ns rfl (xArgs (X.of (tInt fun t₁ => X.of (tArgs0 ⟨B₁.K 21 _ rfl, swap_ok B₁ (room.deeper) hi fun h₂ t₂ e₂ => tIterBytes ?_⟩))))))))))))))))
  refine ⟨_, _, _, _, rfl, src_bytes room.deeper.handled (PL i).reverse t₂ h₂, hrl ▸ (by decide), fun C k v h₃ m₃ hC hP hns hm hk => tests_nil rfl, ?_, ?_⟩
  · rintro C k v h₃ m₃ hC ⟨c, u', hcu, rfl⟩ _ hns hm hk
    have hcm : c.toNat < 4 := PL_small i hi c (List.mem_reverse.mp (List.mem_of_getElem? hcu))
    exact tBinOp (tInt fun t₃ => tLoc hns hm (tSubI fun t₄ => ⟨⟨c, u', t₄, rfl, hcm, rfl⟩, Ext.refl _⟩))
  · intro D h' ys vs hD hpl hlen hP hF hk
    obtain ⟨hyl, hy⟩ := pair_all hlen hP hF
    refine X.of (tArgs0 (X.of (tBytesInts (ns := (PL i).reverse.map fun c => ((3 - c : UInt8).toNat : Int)) hpl.isList (ints_of (by simp [hyl]) fun k n hn => ?_) ?_ (by rw [hyl, hrl]; decide) room.deeper.handled fun h'' t'' e => ?_)))
    · have hkl : k < (PL i).reverse.length := by
        rcases Nat.lt_or_ge k (PL i).reverse.length with q | q
        · exact q
        · rw [List.getElem?_eq_none (by simpa using q)] at hn; cases hn
      obtain ⟨v, y, hyk, ⟨c, u', hcu, rfl⟩, ⟨c', t', u'', hv, hc4, rfl⟩⟩ := hy k hkl
      cases (Value.int.inj hv).1 |> u8_inj
      rw [List.getElem?_map, hcu] at hn
      cases hn
      refine ⟨u'', ?_⟩
      rw [hyk]
      congr 2
      have : (3 - c : UInt8).toNat = 3 - c.toNat := by
        rw [UInt8.toNat_sub_of_le _ _ (by rw [UInt8.le_iff_toNat_le]; show c.toNat ≤ 3; omega)]
        rfl
      dsimp only
      rw [this]
      omega
    · intro n hn
      obtain ⟨c, _, rfl⟩ := List.mem_map.mp hn
      have := (3 - c : UInt8).toNat_lt
      omega
    · rw [byteArr_u8 (PL i).reverse fun c => 3 - c, ← (turn_PL i hi).2]
      exact hr _ _ (Ext.trans F.keep (Ext.trans e₂ fun b o q => e b o (hk b o (by simp; exact Nat.ne_of_lt (Heap.lt_size q)) (Heap.get?_push_of_some _ q))))
end
end Mine

namespace Mine

/-! ### the plain law -/
def whGo (o : Nat) : Nat → Nat → Nat → Nat
  | 0, _, k => k
  | f + 1, a, k => if a = 0 then k else whGo o f (mul a o) (k + 1)
def turnsOf (o : Nat) : Nat := whGo o 19 o 1
def firsts (i j : Nat) : List Nat := [i, j, 6, 9, 2]
def lotOf (made : List Nat) (f : Nat) : List Nat := sortL (made.map fun o => mul o f)
def clash (known lot : List Nat) : Bool := (known != lot) && (lot.any fun o => known.any fun k => k == o)
def lotsGood (n : Nat) : List (List Nat) → List (List Nat) → Bool
  | _, [] => true
  | ls, l :: r => decide ((dist [] l).length = n) && !(ls.any fun k => clash k l) && lotsGood n (ls ++ [l]) r
def invT (i : Nat) : Nat := (978321207349091352592539713606387744 >>> (5 * i)) % 32
def turnT (i : Nat) : Nat := (978316295202967168895658715385301184 >>> (5 * i)) % 32
def evenT (i : Nat) : Bool := (10066329 >>> i) % 2 == 1
theorem inv_tab : ∀ i < 24, invT i = inv i := by decide +kernel
theorem turn_tab : ∀ i < 24, turnT i = turnL i := by decide +kernel
theorem even_tab : ∀ i < 24, evenT i = evenL i := by decide +kernel
def goodB (i j : Nat) : Bool :=
  let made := madeL [i, j]
  let n := made.length
  let last := made.getD (n - 1) 0
  decide (0 < n) && decide (24 % n = 0) && (made == sortL made) && (made.all fun o => hasL made (invT o) && decide (n % turnsOf o = 0) && hasL made (mul o last)) &&
    lotsGood n [] ((firsts i j).map (lotOf made)) && decide ((madeL [turnT i, turnT j]).length = n) && ([(n : Int), 2 * (n : Int)].any fun k => k == (((made.filter evenT).length : Int) * 2))
end Mine

namespace Mine
section
variable {prog : Program} {w : World} {A : Around} {env : Env} {h : Heap}
theorem compTurn_one (elt t0 i0 : Expr) (ifs : List Expr) (scope : Scope) (pos : Pos) (it acc : Value) (env : Env) :
    compTurn (.ListComp elt [⟨t0, i0, ifs, 0⟩] scope pos) 0 it acc env = (standAt i0.pos >>= fun _ => pyNext it >>= fun r => match r with
      | none => pure (.done .next)
      | some v => letOwnedTupleGo t0 it v >>= fun _ => assign t0 env v >>= fun _ => (forIn ifs true fun c r => if r = true then do let ok ← isTrue c env (eval c env); pure (ForInStep.yield ok) else pure (ForInStep.yield r)) >>= fun ok =>
        if ok = true then (eval elt env >>= fun x => call (.builtin "list.append") [acc, x] >>= fun _ => pure ()) >>= fun _ => again (.compLoop (.ListComp elt [⟨t0, i0, ifs, 0⟩] scope pos) 0 it acc env)
        else again (.compLoop (.ListComp elt [⟨t0, i0, ifs, 0⟩] scope pos) 0 it acc env)) := by rfl
/-- one for, its tests as one tree -/
def tests (ifs : List Expr) (env : Env) : Sem Bool := forIn ifs true fun c r => if r = true then do let ok ← isTrue c env (eval c env); pure (ForInStep.yield ok) else pure (ForInStep.yield r)
theorem tTests0 {R : Bool → Heap → Prop} (hr : R true h) : T (model prog w) A (tests [] env) h R := by
  unfold tests; rw [List.forIn_nil]; exact tRet hr
theorem tTests1 {c : Expr} {R : Bool → Heap → Prop} (H : T (model prog w) A (isTrue c env (eval c env)) h R) : T (model prog w) A (tests [c] env) h R := by
  unfold tests
  rw [List.forIn_cons, if_pos rfl]
  refine tBind (tBind (tMono H fun ok h₄ r => tRet ?_))
  show T _ _ (forIn ([] : List Expr) ok _) _ _
  rw [List.forIn_nil]
  exact tRet r
theorem cOne {elt i0 : Expr} {ifs : List Expr} {x : Str} {px : Pos} {scope : Scope} {pos : Pos} {it acc : Value} {R : Flow → Heap → Prop} (I : Nat → Heap → Prop)
    (turn : ∀ n h, I n h → T (model prog w) A (pyNext it) h (fun r h₁ => match r with
      | none => R .next h₁
      | some v => T (model prog w) A (storeName env x v) h₁ (fun _ h₂ => T (model prog w) A (tests ifs env) h₂ (fun ok h₃ =>
          if ok then T (model prog w) A (eval elt env) h₃ (fun y h₄ => T (model prog w) A (call (.builtin "list.append") [acc, y]) h₄ (fun _ h₅ => ∃ m, m < n ∧ I m h₅)) else ∃ m, m < n ∧ I m h₃))))
    (n : Nat) (hI : I n h) : C (model prog w) A (.compLoop (.ListComp elt [⟨.Name x px, i0, ifs, 0⟩] scope pos) 0 it acc env) h R := fun s P hs hP => by
  subst hs
  refine codeAny_loop rfl (fun n s' => I n s'.heap ∧ ∃ h' k, s' = { s with heap := h', toks := k }) (fun n s' hI => ?_) n ⟨hI, s.heap, s.toks, rfl⟩
  obtain ⟨hI, h', k, rfl⟩ := hI
  show wpAny _ A ((compTurn (.ListComp elt [⟨.Name x px, i0, ifs, 0⟩] scope pos) 0 it acc env).onRaise (fun x => do noteFrame x env; theTreesLotGoes x)) _ _ _
  refine wpAny_noted ?_
  rw [compTurn_one]
  refine wpAny_bind (wpAny_standAt (wpAny_bind (turn n h' hI _ _ _ rfl fun r h₁ k₁ H => ?_)))
  cases r with
  | none => exact wpAny_pure (hP _ _ _ H)
  | some v =>
    refine wpAny_bind (wpAny_of_eq (a := ()) rfl ?_)
    refine wpAny_bind ((tAssignName H) _ _ _ rfl fun _ h₂ k₂ H2 => ?_)
    refine wpAny_bind (H2 _ _ _ rfl fun ok h₃ k₃ H3 => ?_)
    cases ok with
    | false =>
      obtain ⟨m, hm, hI⟩ := H3
      exact wpAny_pure ⟨rfl, m, hm, hI, h₃, k₃, rfl⟩
    | true =>
      exact wpAny_bind (wpAny_bind (H3 _ _ _ rfl fun y h₄ k₄ H4 => wpAny_bind (H4 _ _ _ rfl fun _ h₅ k₅ H5 => wpAny_pure (by
        obtain ⟨m, hm, hI⟩ := H5
        exact wpAny_pure ⟨rfl, m, hm, hI, h₅, k₅, rfl⟩))))
theorem tSelfList {I l : Addr} {i : Nat} {R : Value → Heap → Prop} (hit : h.IsListIter I l i) (hr : R (.ref I) h) : T (model prog w) A (pyIter (.ref I)) h R := fun s Q E hs hQ => by
  subst hs
  exact wpAny_pyIter_listiter hit (hQ _ _ s.toks hr)
/-- a comprehension with one cell of its own -/
theorem tCompK {elt : Expr} {g : Comprehension} {gs : List Comprehension} {y : Str} {scope : Scope} {cl : List (Str × Addr)} {pos : Pos} {R : Value → Heap → Prop}
    (hclos : closureFor scope env = pure cl) (hcells : ∀ (hp : Heap), cellsFrom hp.objs.size scope.names cl = (y, hp.objs.size) :: cl ∧ pushCells hp scope.names = hp.push { cls := .type "cell", data := .cell none }) (hkind : scope.kind = .function)
    (hnames : ∀ y ∈ scope.names, y.2 = .local → scope.names.lookup y.1 = some .local) (hga : firstAsync (g :: gs) = false)
    (H : T (model prog w) A (firstIter (g :: gs) env) h (fun xv h₁ => T (model prog w) A (pyIter xv) h₁ (fun it h₂ => ∀ h₃, W h₂ (h₂.objs.size + 1) (fun _ => none) [(h₂.objs.size + 1 + 1, .cell none), (h₂.objs.size, .list [])] h₃ →
      C (model prog w) A (.compStart (.ListComp elt (g :: gs) scope pos) 0 it (.ref h₂.objs.size) (compEnvC scope ((y, h₂.objs.size + 1 + 1) :: cl) (h₂.objs.size + 1) env)) h₃
        (fun _ h₄ => ∃ m, h₄.Ns (h₂.objs.size + 1) m ∧ ∀ h', Heap.SameBut (h₂.objs.size + 1) h₄ h' → R (.ref h₂.objs.size) h'))))
    (hs' : ∀ x, foldedSetIterable g.iter env x = pure x := by intro _; rfl) : T (model prog w) A (eval (.ListComp elt (g :: gs) scope pos) env) h R := fun s Q E hs hQ => by
  rw [eval_ListComp, hga]
  refine wpAny_comprehension_free (use := none) rfl hs' hclos hkind hnames (H _ _ _ hs fun xv h₁ k₁ H1 => H1 _ _ _ rfl fun it h₂ k₂ H2 => ?_)
  refine wpAny_newObj_type ?_
  simp only [newFunctionEnv, Option.isSome_some, if_true]
  refine wpAny_bind (wpAny_alloc ?_)
  refine wpAny_bind (wpAny_layCells _ (fun name kind cells => by cases hkc : kind == NameKind.cell <;> simp [hkc]) _ _ _ _ ?_)
  rw [List.forIn_nil]
  refine wpAny_bind (wpAny_pure (wpAny_pure ?_))
  dsimp only
  have e1 : (h₂.push { cls := .type "list", dict := none, data := .seq ([] : List Value).toArray }).objs.size = h₂.objs.size + 1 := Heap.size_push _ _
  have e2 : ((h₂.push { cls := .type "list", dict := none, data := .seq ([] : List Value).toArray }).push { cls := .type "dict", data := .dict #[] }).objs.size = h₂.objs.size + 1 + 1 := by rw [Heap.size_push, e1]
  have hcl := hcells ((h₂.push { cls := .type "list", dict := none, data := .seq ([] : List Value).toArray }).push { cls := .type "dict", data := .dict #[] })
  rw [hcl.1, hcl.2, e2, e1]
  generalize hH : ((h₂.push { cls := .type "list", dict := none, data := .seq ([] : List Value).toArray }).push { cls := .type "dict", data := .dict #[] }).push { cls := .type "cell", data := .cell none } = H₃
  have ka : Ext h₂ H₃ := fun b o e => hH ▸ Heap.get?_push_of_some _ (Heap.get?_push_of_some _ (Heap.get?_push_of_some _ e))
  have kD : H₃.get? h₂.objs.size = some { cls := .type "list", data := .seq #[] } := hH ▸ Heap.get?_push_of_some _ (Heap.get?_push_of_some _ (Heap.get?_push_size h₂ rfl))
  have kC : H₃.Ns (h₂.objs.size + 1) (fun _ => none) := by
    have := Heap.Ns.new (h₂.push { cls := .type "list", dict := none, data := .seq ([] : List Value).toArray }) (.type "dict")
    rw [e1] at this
    exact hH ▸ this.push _
  have kK : H₃.IsCell (h₂.objs.size + 1 + 1) none := by
    refine ⟨{ cls := .type "cell", data := .cell none }, ?_, rfl⟩
    rw [← e2]
    exact hH ▸ Heap.get?_push_size _ rfl
  have nf : ∀ q, h₂.objs.size ≤ q → h₂.get? q = none := fun q hq => by
    cases e : h₂.get? q with
    | none => rfl
    | some o => exact absurd (Heap.lt_size e) (Nat.not_lt.mpr hq)
  have W₃ : W h₂ (h₂.objs.size + 1) (fun _ => none) [(h₂.objs.size + 1 + 1, .cell none), (h₂.objs.size, .list [])] H₃ := by
    refine ⟨⟨kC, ka, Nat.le_succ _⟩, fun p hp => ?_, List.pairwise_cons.mpr ⟨fun q hq => ?_, List.pairwise_singleton _ _⟩⟩
    · rcases List.mem_cons.mp hp with rfl | hp
      · exact ⟨kK, Nat.ne_of_gt (Nat.lt_succ_self _), nf _ (Nat.le_succ_of_le (Nat.le_succ _))⟩
      · rw [List.mem_singleton.mp hp]
        exact ⟨⟨0, kD⟩, Nat.ne_of_lt (Nat.lt_succ_self _), nf _ (Nat.le_refl _)⟩
    · rw [List.mem_singleton.mp hq]
      exact Nat.ne_of_gt (Nat.lt_succ_of_lt (Nat.lt_succ_self _))
  refine H2 H₃ W₃ _ _ rfl fun fl h₄ k₄ H4 => ?_
  obtain ⟨m, n₄, hr⟩ := H4
  exact ⟨m, n₄, fun h' hs => hQ _ _ k₄ (hr h' hs)⟩
end
end Mine

namespace Mine

theorem pair_ext {h h' : Heap} {v : Value} {i : Nat} (x : PairAt h v i) (e : Ext h h') : PairAt h' v i := by
  obtain ⟨hi, a, t, y, rfl, ha⟩ := x
  exact ⟨hi, a, t, y, rfl, e _ _ ha⟩
theorem pair_but {h h' : Heap} {v : Value} {i : Nat} {q : Addr} (x : PairAt h v i) (e : Heap.ExtBut q h h') (hq : ∀ o, h.get? q = some o → o.cls ≠ .type "tuple") : PairAt h' v i := by
  obtain ⟨hi, a, t, y, rfl, ha⟩ := x
  exact ⟨hi, a, t, y, rfl, e _ _ (fun e' => hq _ (e' ▸ ha) rfl) ha⟩
theorem list_cls {h : Heap} {a : Addr} {xs : Array Value} (x : h.PlainList a xs) : ∀ o, h.get? a = some o → o.cls ≠ .type "tuple" := fun o e => by
  obtain ⟨n, ho⟩ := x
  rw [ho] at e
  cases e
  simp
theorem ns_cls {h : Heap} {a : Addr} {m} (x : h.Ns a m) : ∀ v i, PairAt h v i → v ≠ .ref a := fun v i p e => by
  obtain ⟨o, es, ep, ho, hd, _⟩ := x
  obtain ⟨_, b, t, y, rfl, hb⟩ := p
  cases e
  rw [hb] at ho
  cases ho
  cases hd
theorem pair_ns {h h' : Heap} {v : Value} {i : Nat} {q : Addr} {m} (x : PairAt h v i) (e : Heap.SameBut q h h') (n : h.Ns q m) : PairAt h' v i := by
  have := ns_cls n v i x
  obtain ⟨hi, a, t, y, rfl, ha⟩ := x
  exact ⟨hi, a, t, y, rfl, e.extBut _ _ (fun q => this (by rw [q])) ha⟩
theorem liter_cls {h : Heap} {I l : Addr} {i : Nat} (x : h.IsListIter I l i) : ∀ v j, PairAt h v j → v ≠ .ref I := fun v j p e => by
  obtain ⟨o, ho, hc, hd⟩ := x
  obtain ⟨_, b, t, y, rfl, hb⟩ := p
  cases e
  rw [hb] at ho
  cases ho
  simp [tupObj] at hc
theorem pair_liter {h h' : Heap} {v : Value} {i j : Nat} {I l : Addr} (x : PairAt h v i) (e : Heap.ExtBut I h h') (n : h.IsListIter I l j) : PairAt h' v i := by
  have := liter_cls n v i x
  obtain ⟨hi, a, t, y, rfl, ha⟩ := x
  exact ⟨hi, a, t, y, rfl, e _ _ (fun q => this (by rw [q])) ha⟩

section
variable {prog : Program} {w : World} {A : Around} {env : Env} {h : Heap}
theorem tPairs {iter : Expr} {p1 p2 p3 p4 : Pos} {kk k3 : Nat} {scope : Scope} {cl : List (Str × Addr)} {pos : Pos} {R : Value → Heap → Prop} (hh : A.handled = none)
    (hclos : closureFor scope env = pure cl) (hcell : ∀ y ∈ scope.names, y.2 ≠ .cell) (hkind : scope.kind = .function)
    (hnames : ∀ y ∈ scope.names, y.2 = .local → scope.names.lookup y.1 = some .local) (hx : scope.names.lookup (Str.ofString "order") = some NameKind.local)
    (H : T (model prog w) A (eval iter env) h (fun xv h₁ => ∃ l vs is, xv = .ref l ∧ h₁.PlainList l vs.toArray ∧ Ords vs is ∧ is.length ≤ 100 ∧ ∀ (D : Addr) (h' : Heap) (ys : List Value), Ext h₁ h' → h₁.get? D = none → h'.PlainList D ys.toArray → ys.length = is.length →
      (∀ (k i : Nat), is[k]? = some i → ∃ v, ys[k]? = some v ∧ PairAt h' v i) → R (.ref D) h'))
    (hs' : ∀ x, foldedSetIterable iter env x = pure x := by intro _; rfl) :
    T (model prog w) A (eval (.ListComp (.Tuple [.Name "order" p1, .Constant (.int 1) kk p2] k3 p3) [⟨.Name "order" p4, iter, [], 0⟩] scope pos) env) h R := by
  refine tCompG hclos hcell hkind hnames rfl ?_ hs'
  refine tMono H fun xv h₁ r => ?_
  obtain ⟨l, vs, is, rfl, hl, ho, hn, hr⟩ := r
  refine tIterList hl.isList ?_
  intro h₃ W₃
  have hlen := ho.length
  have eD := Heap.size_push h₁ { cls := .type "list_iterator", data := .fields #[.ref l, .int 0 0] }
  have hit₃ : h₃.IsListIter h₁.objs.size l 0 := ⟨_, W₃.keep _ _ (Heap.get?_push_size h₁ rfl), rfl, rfl⟩
  have W₄ := W.base (Ext.push _ _) (by rw [eD]; exact Nat.le_succ _) W₃
  generalize (h₁.push { cls := .type "list_iterator", data := .fields #[.ref l, .int 0 0] }).objs.size = D at W₄ eD ⊢
  have W₅ := W.join (a := h₁.objs.size) (b := .liter l 0) W₄ hit₃ (by rw [eD]; exact Nat.ne_of_lt (Nat.lt_succ_of_lt (Nat.lt_succ_self _))) (fresh_size h₁) (fun p hp => by rw [List.mem_singleton.mp hp, eD]; exact Nat.ne_of_lt (Nat.lt_succ_self _))
  have hDf : h₁.get? D = none := W₅.fresh (b := .list []) (by simp)
  clear W₄ W₃ hit₃ eD
  generalize h₁.objs.size = I at W₅ ⊢
  have hxk : (compEnvC scope cl (D + 1) env).kindOf "order" = some .local := lookup_relabel_local hx
  have hk : (compEnvC scope cl (D + 1) env).scope.kind = .function := by simp [compEnvC, relabel, hkind]
  refine (fun (m : C _ _ (.compLoop _ _ _ _ _) _ _) => cStart0 m (tSelfList (W₅.get (b := .liter l 0) (by simp)) m)) ?_
  refine cOne (fun n h' => ∃ (m' : Str → Option Value) (q : Nat) (ys : List Value), W h₁ (D + 1) m' [(I, .liter l q), (D, .list ys)] h' ∧ ys.length = q ∧ (∀ (k i : Nat), k < q → is[k]? = some i → ∃ v, ys[k]? = some v ∧ PairAt h' v i) ∧ q ≤ is.length ∧ n = is.length - q)
    ?_ is.length ⟨_, 0, [], W₅, rfl, fun k i hk => by omega, Nat.zero_le _, rfl⟩
  clear W₅
  rintro n h₃ ⟨m', q, ys, W₃, hy, hp, hq, hn'⟩
  have hit : h₃.IsListIter I l q := W₃.get (b := .liter l q) (by simp)
  have hl₃ := hl.isList.at (W₃.keep _)
  rcases Nat.lt_or_ge q is.length with hlt | hge
  · obtain ⟨t, hv, h24⟩ := ho.get (k := q) (List.getElem?_eq_getElem hlt)
    refine tNextItem hit hl₃ (by simpa using hv) fun h₄ i₄ s₄ => ?_
    have W₄ := W₃.upd (pre := []) (b' := .liter l (q + 1)) s₄.extBut i₄
    refine tStoreL W₄.fr.ns (fun h₅ n₅ s₅ => tTests0 ?_) hk hxk
    have W₅ := W₄.set n₅ s₅
    have hp₅ : ∀ (k i : Nat), k < q → is[k]? = some i → ∃ v, ys[k]? = some v ∧ PairAt h₅ v i := fun k i hkq hi => by
      obtain ⟨v, hv, pa⟩ := hp k i hkq hi
      exact ⟨v, hv, pair_ns (pair_liter pa s₄.extBut hit) s₅ W₄.fr.ns⟩
    refine ifT rfl (tTuple (tArgs (tLoc n₅ (by simp; rfl) (tArgs (tInt fun t₆ => tArgs0 ⟨small_line (by simp), ?_⟩)) hk hxk)))
    have W₆ := W₅.ext (Ext.push _ (tupObj [bv is[q] t, .int 1 t₆]))
    have hyp : (h₅.push (tupObj [bv is[q] t, .int 1 t₆])).PlainList D ys.toArray := W₆.get (b := .list ys) (by simp)
    refine tAppend hyp (small_line (by simp; omega)) fun h₇ p₇ s₇ => ⟨is.length - (q + 1), by omega, ?_⟩
    have W₇ := W₆.upd (pre := [_]) (b' := .list (ys ++ [.ref h₅.objs.size])) s₇.extBut (by simpa [Ob.At] using p₇)
    refine ⟨_, q + 1, _, W₇, by simp [hy], fun k i hkq hi => ?_, hlt, rfl⟩
    rcases Nat.lt_or_ge k q with hk' | hk'
    · obtain ⟨v, hv, pa⟩ := hp₅ k i hk' hi
      exact ⟨v, by rw [List.getElem?_append_left (by omega)]; exact hv, pair_but (pair_ext pa (Ext.push _ _)) s₇.extBut (list_cls hyp)⟩
    · obtain rfl : k = q := by omega
      rw [List.getElem?_eq_getElem hlt] at hi
      cases hi
      refine ⟨.ref h₅.objs.size, by rw [List.getElem?_append_right (by omega)]; simp [hy], pair_but (h := h₅.push (tupObj [bv is[k] t, .int 1 t₆])) ⟨h24, h₅.objs.size, t, _, rfl, Heap.get?_push_size _ rfl⟩ s₇.extBut (list_cls hyp)⟩
  · refine tNextEnd hh hit hl₃ (by simp; omega) fun h₄ x₄ => ?_
    have W₄ := W₃.lose (pre := []) x₄
    refine ⟨_, W₄.fr.ns, fun h₅ s₅ => ?_⟩
    obtain ⟨e₅, hat⟩ := W₄.leave s₅
    refine hr D h₅ ys e₅ hDf (hat (D, .list ys) (by simp)) (by omega) fun k i hi => ?_
    have hkq : k < q := by
      rcases Nat.lt_or_ge k is.length with h' | h'
      · omega
      · rw [List.getElem?_eq_none h'] at hi; cases hi
    obtain ⟨v, hv, pa⟩ := hp k i hkq hi
    exact ⟨v, hv, pair_ns (pair_liter pa x₄ hit) s₅ W₄.fr.ns⟩
end
end Mine

namespace Mine
theorem paired_get' {α β : Type} {F : α → β → Prop} {vs : List α} {ys : List β} (hF : Paired F vs ys) : ∀ {j : Nat} {v}, vs[j]? = some v → ∃ y, ys[j]? = some y ∧ F v y := by
  induction hF with
  | nil => intro j v e; simp at e
  | cons h _ ih =>
    intro j v e
    cases j with
    | zero => simp at e; subst e; exact ⟨_, rfl, h⟩
    | succ j => exact ih (by simpa using e)
section
variable {prog : Program} {w : World} {A : Around} {env : Env} {h : Heap}
theorem tAndTwo {M : Model} {env : Env} {x y : Expr} {b1 b2 : Bool} {P : Heap → Prop} {R : Bool → Heap → Prop} (H1 : T M A (isTrue x env (eval x env)) h (fun b h₁ => b = b1 ∧ P h₁)) (H2 : ∀ h₁, P h₁ → T M A (isTrue y env (eval y env)) h₁ (fun b h₂ => b = b2 ∧ P h₂))
    (hr : ∀ h', P h' → R (b1 && b2) h') : T M A (allTrue .And [x, y] env) h R := by
  refine tAndCons (tMono H1 fun b h₁ r => ?_)
  obtain ⟨rfl, p⟩ := r
  cases b
  · exact hr h₁ p
  · refine tAndCons (tMono (H2 h₁ p) fun b' h₂ r' => ?_)
    obtain ⟨rfl, p'⟩ := r'
    cases b'
    · exact hr h₂ p'
    · exact tAndNil (hr h₂ p')
abbrev S4 : Scope := { kind := .function, names := [(".0", .local), ("known", .cell), ("lot", .free)], isGenerator := false, isCoroutine := false }
abbrev S5 : Scope := { kind := .function, names := [(".0", .local), ("order", .local), ("known", .free)], isGenerator := false, isCoroutine := false }
theorem same_list {vs ws : List Value} (hl : vs.length = ws.length) (h : ∀ (j : Nat) (v : Value), vs[j]? = some v → ws[j]? = some v) : vs = ws := by
  refine List.ext_getElem? fun j => ?_
  cases e : vs[j]? with
  | none =>
    have : ws.length ≤ j := by rw [← hl]; exact List.getElem?_eq_none_iff.mp e
    rw [List.getElem?_eq_none this]
  | some v => rw [h j v e]
theorem paired_eq {vs ys : List Value} (h : Paired (fun v y => y = v) vs ys) : ys = vs := by
  induction h with
  | nil => rfl
  | cons h _ ih => rw [h, ih]
set_option maxHeartbeats 2000000 in
theorem tClash {p1 p2 p3 p4 p5 p6 p7 p8 p9 p10 p11 p12 p13 p14 p15 p16 pos : Pos} {kk : Nat} {c al lotA : Addr} {lo : List (Addr × List Value)} {ls : List (List Nat)} {lvs : List Value} {lot : List Nat} {R : Value → Heap → Prop} (hh : A.handled = none) (hu : A.units < cLine)
    (hk : env.scope.kind = .function) (hlotk : env.kindOf "lot" = some .cell) (hclos : closureFor S4 env = pure [(Str.ofString "lot", c)])
    (hlots : ∀ R' : Value → Heap → Prop, R' (.ref al) h → T (model prog w) A (eval (.Name "lots" p3) env) h R')
    (hc : h.IsCell c (some (.ref lotA))) (hlot : h.PlainList lotA lvs.toArray) (ho : Ords lvs lot) (hal : h.PlainList al (lo.map fun p => Value.ref p.1).toArray) (hlo : ∀ p ∈ lo, h.PlainList p.1 p.2.toArray)
    (hls : Paired (fun (p : Addr × List Value) l => Ords p.2 l) lo ls) (hz : ls.length ≤ 10) (hz' : lot.length ≤ 100)
    (hr : ∀ (h' : Heap) (D : Addr) (xs : List Value), Ext h h' → h.get? D = none → h'.PlainList D xs.toArray → decide (xs ≠ []) = (ls.any fun k => clash k lot) → R (.ref D) h')
    (hs' : ∀ x, foldedSetIterable (.Name "lots" p3) env x = pure x := by intro _; rfl) :
    T (model prog w) A (eval (.ListComp (.Constant (.int 1) kk p1) [⟨.Name "known" p2, .Name "lots" p3, [.BoolOp .And [.Compare (.Name "known" p4) [.NotEq] [.Name "lot" p5] p6,
      .Compare (.ListComp (.Name "order" p7) [⟨.Name "order" p8, .Name "lot" p9, [.Compare (.Name "order" p10) [.In] [.Name "known" p11] p12], 0⟩] S5 p13) [.NotEq] [.List [] p14] p15] p16], 0⟩] S4 pos) env) h R := by
  refine tCompK (y := "known") hclos (fun hp => ⟨rfl, rfl⟩) rfl (by decide) rfl ?_ hs'
  refine hlots _ (tIterList hal.isList ?_)
  intro h₃ W₃
  have hlen : lo.length = ls.length := hls.length
  have eD := Heap.size_push h { cls := .type "list_iterator", data := .fields #[.ref al, .int 0 0] }
  have hit₃ : h₃.IsListIter h.objs.size al 0 := ⟨_, W₃.keep _ _ (Heap.get?_push_size h rfl), rfl, rfl⟩
  have W₄ := W.base (Ext.push _ _) (by rw [eD]; exact Nat.le_succ _) W₃
  generalize (h.push { cls := .type "list_iterator", data := .fields #[.ref al, .int 0 0] }).objs.size = D at W₄ eD ⊢
  have W₅ := W.join (a := h.objs.size) (b := .liter al 0) W₄ hit₃ (by rw [eD]; exact Nat.ne_of_lt (Nat.lt_succ_of_lt (Nat.lt_succ_self _))) (fresh_size h) (fun p hp => by
    rcases List.mem_cons.mp hp with rfl | hp
    · rw [eD]; exact Nat.ne_of_lt (Nat.lt_succ_of_lt (Nat.lt_succ_of_lt (Nat.lt_succ_self _)))
    · rw [List.mem_singleton.mp hp, eD]; exact Nat.ne_of_lt (Nat.lt_succ_self _))
  have hDf : h.get? D = none := W₅.fresh (b := .list []) (by simp)
  clear W₄ W₃ hit₃ eD
  generalize h.objs.size = I at W₅ ⊢
  have hk2 : (compEnvC S4 [(Str.ofString "known", D + 1 + 1), (Str.ofString "lot", c)] (D + 1) env).kindOf "lot" = some .cell := by
    have e : (relabel S4 env).names = [(Str.ofString ".0", .local), (Str.ofString "known", .cell), (Str.ofString "lot", .cell)] := by
      unfold relabel
      simp [S4, hk, hlotk]
    show ((relabel S4 env).names.lookup _) = _
    rw [e]
    rfl
  refine (fun (m : C _ _ (.compLoop _ _ _ _ _) _ _) => cStart0 m (tSelfList (W₅.get (b := .liter al 0) (by simp)) m)) ?_
  refine cOne (fun n h' => ∃ (m' : Str → Option Value) (q : Nat) (co : Option Value) (xs : List Value), W h (D + 1) m' [(I, .liter al q), (D + 1 + 1, .cell co), (D, .list xs)] h' ∧ decide (xs ≠ []) = ((ls.take q).any fun k => clash k lot) ∧ xs.length ≤ q ∧ q ≤ ls.length ∧ n = ls.length - q)
    ?_ ls.length ⟨_, 0, none, [], W₅, by simp, Nat.le_refl _, Nat.zero_le _, rfl⟩
  clear W₅
  rintro n h₃ ⟨m', q, co, xs, W₃, hxs, hxl, hq, hn'⟩
  have hit : h₃.IsListIter I al q := W₃.get (b := .liter al q) (by simp)
  have hal₃ := hal.isList.at (W₃.keep _)
  rcases Nat.lt_or_ge q ls.length with hlt | hge
  · have hlt' : q < lo.length := by omega
    have hpq : Ords lo[q].2 ls[q] := by
      have := paired_get' hls (List.getElem?_eq_getElem hlt')
      obtain ⟨l, hl, hp⟩ := this
      rw [List.getElem?_eq_getElem hlt] at hl
      cases hl
      exact hp
    have hmem := hlo lo[q] (List.getElem_mem hlt')
    refine tNextItem hit hal₃ (x := .ref lo[q].1) (by simp [hlt']) fun h₄ i₄ s₄ => ?_
    have W₄ := W₃.upd (pre := []) (b' := .liter al (q + 1)) s₄.extBut i₄
    have hco : h₄.IsCell (D + 1 + 1) co := W₄.get (b := .cell co) (by simp)
    refine tStoreC (c := D + 1 + 1) rfl hco fun h₅ c₅ s₅ => ?_
    have W₅ := W₄.upd (pre := [_]) (b' := .cell (some (.ref lo[q].1))) s₅.extBut c₅
    have hkn := hmem.at (W₅.keep _)
    have hlo₅ := hlot.at (W₅.keep _)
    have hc₅ := cell_ext hc W₅.keep
    have hkc : h₅.IsCell (D + 1 + 1) (some (.ref lo[q].1)) := c₅
    clear s₅ s₄ i₄ hco W₄ W₃ hit
    refine tTests1 (tIsBool (tAndTwo (b1 := ls[q] != lot) (b2 := lot.any fun o => ls[q].any fun k => k == o) (P := Ext h₅) (tIsCmp (tCell (c := D + 1 + 1) rfl hkc (tCell (c := c) rfl hc₅ (tNeOrds hu hkn.isList hlo₅.isList hpq ho (tTruthyBool ⟨rfl, Ext.refl _⟩)) rfl hk2))) (fun h₆ e₆ => ?_) fun h₆ e₆ => ?_))
    · have hc₆ := cell_ext hc₅ e₆
      have hkc₆ := cell_ext hkc e₆
      have hlo₆ : h₆.PlainList lotA lvs.toArray := Heap.PlainList.at hlo₅ (e₆ _)
      have hkn₆ : h₆.PlainList lo[q].1 lo[q].2.toArray := Heap.PlainList.at hkn (e₆ _)
      have hll := ho.length
      refine tIsCmp (tComp (fun v => ls[q].any fun k => k == idxOf v) (fun v y => y = v) rfl (by decide) rfl (by decide) rfl (tCell (c := c) rfl hc₆ (tIterList hlo₆.isList ?_) rfl hk2))
      have kept : ∀ {hX : Heap}, (∀ b o, b ∉ [h₆.objs.size] → (h₆.push { cls := .type "list_iterator", data := .fields #[.ref lotA, .int 0 0] }).get? b = some o → hX.get? b = some o) → Ext h₆ hX := fun hkp b o e =>
        hkp b o (fun m => Nat.ne_of_lt (Heap.lt_size e) (List.mem_singleton.mp m)) (Heap.get?_push_of_some _ e)
      refine ⟨_, _, _, _, rfl, src_list hh hlo₆.isList, small_line (by omega), fun C k v hX mX hC hP hns hm hkp => tests_one ?_, fun C k v hX mX hC hP hpv hns hm hkp => tLoc hns hm ⟨rfl, Ext.refl _⟩, fun D2 hX ys2 vs2 hD2 hpl hl2 hP2 hF2 hkp => ?_⟩
      · have eX := kept hkp
        obtain ⟨hv24, tv, hv⟩ := ho.all v (List.mem_of_getElem? hP)
        have hkX := cell_ext hkc₆ eX
        have hknX : hX.PlainList lo[q].1 lo[q].2.toArray := Heap.PlainList.at hkn₆ (eX _)
        refine tIsCmp (tLoc hns hm (tCell (c := D + 1 + 1) rfl hkX ?_))
        rw [hv]
        refine tInOrds hknX.isList hpq hv24 (tTruthyBool ⟨?_, Ext.refl _⟩)
        rw [show idxOf (bv (idxOf v) tv) = idxOf v from Ord1.idx ⟨hv24, tv, rfl⟩]
      · have eX := kept hkp
        have hvs : vs2 = lvs := same_list (by rw [hl2]) hP2
        have hys : ys2 = vs2.filter _ := paired_eq hF2
        subst hvs
        refine tList (tArgs0 ⟨small_line (by simp), ?_⟩)
        refine tNeNil hu (vs := ys2) (hpl.isList.at fun o e => Heap.get?_push_of_some _ e) (Heap.PlainList.isList ⟨0, Heap.get?_push_size _ rfl⟩) (tTruthyBool ⟨?_, Ext.trans e₆ (Ext.trans eX (Ext.push _ _))⟩)
        rw [hys, ← ho.idx, List.any_map]
        rw [Bool.eq_iff_iff]
        simp only [decide_eq_true_eq, List.any_eq_true, ne_eq, List.filter_eq_nil_iff, Function.comp_apply]
        constructor
        · intro hne
          refine Classical.byContradiction fun hno => hne fun v hv ht => hno ⟨v, hv, ht⟩
        · rintro ⟨v, hv, ht⟩ hno
          exact hno v hv ht
    · have W₆ := W₅.ext e₆
      have step : ((ls.take (q + 1)).any fun k => clash k lot) = (((ls.take q).any fun k => clash k lot) || (ls[q] != lot && lot.any fun o => ls[q].any fun k => k == o)) := by
        rw [List.take_succ_eq_append_getElem hlt, List.any_append]
        simp [clash]
      cases hb : (ls[q] != lot && lot.any fun o => ls[q].any fun k => k == o) with
      | true =>
        rw [hb] at step
        refine ifT rfl (tInt fun t₇ => ?_)
        have hxp : h₆.PlainList D xs.toArray := W₆.get (b := .list xs) (by simp)
        refine tAppend hxp (small_line (by simp; omega)) fun h₇ p₇ s₇ => ⟨ls.length - (q + 1), by omega, ?_⟩
        have W₇ := W₆.upd (pre := [_, _]) (b' := .list (xs ++ [.int 1 t₇])) s₇.extBut (by simpa [Ob.At] using p₇)
        exact ⟨_, q + 1, _, _, W₇, by rw [step]; simp, by simp; omega, hlt, rfl⟩
      | false =>
        rw [hb] at step
        exact ifF rfl ⟨ls.length - (q + 1), by omega, _, q + 1, _, _, W₆, by rw [step, Bool.or_false]; exact hxs, by omega, hlt, rfl⟩
  · refine tNextEnd hh hit hal₃ (by simp; omega) fun h₄ x₄ => ?_
    have W₄ := W₃.lose (pre := []) x₄
    refine ⟨_, W₄.fr.ns, fun h₅ s₅ => ?_⟩
    obtain ⟨e₅, hat⟩ := W₄.leave s₅
    refine hr h₅ D xs e₅ hDf (hat (D, .list xs) (by simp)) ?_
    rw [hxs, List.take_of_length_le hge]
end
end Mine

namespace Mine
theorem rev4 (ys : List Value) (h : ys.length = 4) : slicePick ys.toArray none none (some (-1)) = ys.reverse.toArray := by
  match ys, h with
  | [a, b, c, d], _ =>
    have e : sliceRange (sliceBounds none none (some (-1)) 4).1 (sliceBounds none none (some (-1)) 4).2.1 (sliceBounds none none (some (-1)) 4).2.2 = [3, 2, 1, 0] := by decide +kernel
    unfold slicePick
    show (List.filterMap _ (sliceRange (sliceBounds none none (some (-1)) 4).1 (sliceBounds none none (some (-1)) 4).2.1 (sliceBounds none none (some (-1)) 4).2.2)).toArray = _
    rw [e]
    rfl
section
variable {prog : Program} {w : World} {A : Around} {mg mb : Str → Option Value} {h : Heap}
theorem xDone {M : Model} {env : Env} {R : Flow → Heap → Prop} (hr : R .next h) : X M A (execs [] env) h R := X.of (tDone hr)
theorem tCallDef' {M : Model} {env : Env} {h₀ : Heap} {pos : Pos} {f : Addr} {o : Obj} {fd : FuncData} {e : Expr} {rest : List Expr} {R : Value → Heap → Prop} (_ : h₀.get? f = some o) (hdat : o.data = .func fd)
    (H : T M A (spliced (backTo pos (starEach (e :: rest) env))) h (fun vs h₁ => h₁.get? f = some o ∧ T M A (call (.ref f) vs) h₁ R))
    (he : starEach (e :: rest) env = (false, eval e env) :: starEach rest env := by rfl) : T M A (callWith pos (.ref f) [] (backTo pos (starEach (e :: rest) env)) []) h R := tCallDef hdat H he
theorem tLit4 (B : Base w mg mb h) (hh : A.handled = none) {env : Env} {a b c d : Int} {n : Nat} {p1 p2 p3 q1 q2 q3 q4 : Pos} {k1 k2 k3 k4 : Nat} {R : Value → Heap → Prop} (hb : byteArr [a, b, c, d] = (PL n).toArray) (hin : ∀ x ∈ [a, b, c, d], 0 ≤ x ∧ x < 256) (hr : ∀ h' t, Ext h h' → R (bv n t) h')
    (hg : env.globals = mainGlobals := by rfl) (hbb : env.builtins = builtinsNs := by rfl) (hk : env.scope.kind = .function := by rfl) (hl1 : env.kindOf "bytes" = some .globalImplicit := by rfl) :
    T (model prog w) A (eval (.Call (.Name "bytes" p1) [.List [.Constant (.int a) k1 q1, .Constant (.int b) k2 q2, .Constant (.int c) k3 q3, .Constant (.int d) k4 q4] p2] [] p3) env) h R := by
  refine tCall (B.blt B.N.nbytes B.N.bytes ?_ hg hbb hk hl1)
  refine tCallTy (tArgs (tList (tArgs (tInt fun t1 => tArgs (tInt fun t2 => tArgs (tInt fun t3 => tArgs (tInt fun t4 => tArgs0 ⟨small_line (by simp), tArgs0 ?_⟩)))))))
  refine tBytesInts (ns := [a, b, c, d]) (Heap.PlainList.isList ⟨0, Heap.get?_push_size _ rfl⟩) (.cons _ _ (.cons _ _ (.cons _ _ (.cons _ _ .nil)))) hin (small_line (by simp)) hh fun h' t e => ?_
  rw [hb]
  exact hr h' t (Ext.trans (Ext.push _ _) e)
theorem whGo_stop (o f a q : Nat) (hh : a = 0 ∨ f = 0) : whGo o f a q = q := by
  cases f with
  | zero => rfl
  | succ f => rw [whGo]; rcases hh with rfl | hh; rfl; omega
theorem tLenOrds {a : Addr} {vs : List Value} {is : List Nat} {R : Value → Heap → Prop} (hl : h.PlainList a vs.toArray) (ho : Ords vs is) (hn : is.length ≤ 2000) (hr : ∀ t, R (.int (is.length : Nat) t) h) : T (model prog w) A (call (.builtin "len") [.ref a]) h R := by
  have e := ho.length
  refine tLenList hl.isList (by simp only [List.size_toArray]; exact small_len (by omega)) ?_
  simp only [List.size_toArray, e]
  exact hr
end
theorem W.perm {h₀ h : Heap} {L : Addr} {m : Str → Option Value} {ow ow' : List (Addr × Ob)} (x : W h₀ L m ow h) (p : ow.Perm ow') : W h₀ L m ow' h :=
  ⟨x.fr, fun q hq => x.own q (p.mem_iff.mpr hq), (p.pairwise_iff (fun h => Ne.symm h)).mp x.dis⟩
theorem W.lst {h₀ h : Heap} {L a : Addr} {m : Str → Option Value} {ow : List (Addr × Ob)} {xs : List Value} (x : W h₀ L m ow h) (hp : (a, Ob.list xs) ∈ ow) : h.PlainList a xs.toArray := x.get hp
theorem mul_ords {vs ys : List Value} {is : List Nat} {f : Nat} (hf : f < 24) (ho : Ords vs is) (hF : Paired (fun v y => ∃ (o : Nat) (t u : Tok), o < 24 ∧ v = bv o t ∧ y = bv (mul o f) u) vs ys) : Ords ys (is.map fun o => mul o f) := by
  induction ho generalizing ys with
  | nil => cases hF; exact .nil
  | cons h1 _ ih =>
    cases hF with
    | cons h2 hr =>
      obtain ⟨o, t, u, ho24, rfl, rfl⟩ := h2
      have := h1.idx
      rw [show idxOf (bv o t) = o from Ord1.idx ⟨ho24, t, rfl⟩] at this
      subst this
      exact .cons ⟨mul_lt _ ho24 _ hf, u, rfl⟩ (ih hr)
theorem sortL_length (l : List Nat) : (sortL l).length = l.length := (sortL_perm l).length_eq
theorem filter_true {vs : List Value} : vs.filter (fun _ => true) = vs := List.filter_eq_self.mpr fun _ _ => rfl
theorem paired_snoc {α β : Type} {F : α → β → Prop} {a : List α} {b : List β} {x : α} {y : β} (h : Paired F a b) (hx : F x y) : Paired F (a ++ [x]) (b ++ [y]) := Paired.snoc h hx
section
variable {M : Model} {A : Around} {env : Env} {h : Heap}
theorem xCallDef' {h₀ : Heap} {pos : Pos} {f : Addr} {o : Obj} {fd : FuncData} {e : Expr} {rest : List Expr} {R : Value → Heap → Prop} (_ : h₀.get? f = some o) (hdat : o.data = .func fd)
    (H : X M A (spliced (backTo pos (starEach (e :: rest) env))) h (fun vs h₁ => h₁.get? f = some o ∧ X M A (call (.ref f) vs) h₁ R))
    (he : starEach (e :: rest) env = (false, eval e env) :: starEach rest env := by rfl) : X M A (callWith pos (.ref f) [] (backTo pos (starEach (e :: rest) env)) []) h R := xCallDef hdat H he
theorem even_len {mvs : List Value} {made : List Nat} (ho : Ords mvs made) : (mvs.filter fun v => evenL (idxOf v)).length = (made.filter evenT).length := by
  have e1 : made.filter evenT = made.filter evenL := List.filter_congr fun x hx => even_tab x (Ords.lt ho x hx)
  rw [e1, ← ho.idx, List.filter_map, List.length_map]
  rfl
end
section
variable {prog : Program} {w : World} {A : Around} {h : Heap}
theorem src_rangeB (hh : A.handled = none) (n : Nat) (h : Heap) :
    Src prog w A h.objs.size [h.objs.size] n (fun i v => i < n ∧ ∃ t, v = .int (i : Int) t) (h.push { cls := .type "range_iterator", data := .fields #[rawInt 0, rawInt (n : Int), rawInt 1] }) := by
  have W := (Walks.range (prog := prog) (w := w) hh h.objs.size 0 1 n).bound
  simp only [Int.mul_one, Int.zero_add] at W
  refine ⟨[h.objs.size], _, W, ?_, ?_⟩
  · simpa using Heap.get?_push_size h (o := { cls := .type "range_iterator", data := .fields #[rawInt 0, rawInt (n : Int), rawInt 1] }) rfl
  · intro b hb; rw [List.mem_singleton.mp hb, Heap.size_push]; exact Nat.lt_succ_self _
end
end Mine

namespace Mine
section
variable {prog : Program} {w : World} {A : Around} {mg mb : Str → Option Value} {h : Heap}
set_option maxHeartbeats 4000000 in
theorem law_ok (B : Base w mg mb h) (room : Room A 5) {a : Addr} {vs : List Value} {ns : List Int} (hl : h.IsList a vs.toArray) (hi : IntsAre vs ns) (hsz : vs.length ≤ sizeLine) (good : ∀ i < 24, ∀ j < 24, goodB i j = true) {R : Value → Heap → Prop}
    (hr : ∀ h', Ext h h' → R (.bool true) h') : X (model prog w) A (call (.ref 80) [.ref a]) h R := by
  refine xCallFnC (binds := [("script", .ref a)]) room.depth (B.K 80 _ rfl) rfl B.lim (codeRec_of B.K (by kernel_rfl)) rfl (by kernel_rfl) rfl (all1 (.inl rfl)) (fun h₁ F hc => ?_)
  obtain ⟨k1, f1, l1⟩ := hc "order" _ rfl
  obtain ⟨k2, f2, l2⟩ := hc "first" _ rfl
  obtain ⟨k3, f3, l3⟩ := hc "lot" _ rfl
  have W₁ := W.join (b := .cell none) (W.join (b := .cell none) (W.join (b := .cell none) (W.nil F) k1 l1 f1 (fun p hp => nomatch hp)) k2 l2 f2 (fun p hp => by rw [List.mem_singleton.mp hp]; exact Nat.ne_of_gt (Nat.lt_succ_self _))) k3 l3 f3
    (fun p hp => by
      rcases List.mem_cons.mp hp with rfl | hp
      · exact Nat.ne_of_gt (Nat.lt_succ_self _)
      · rw [List.mem_singleton.mp hp]; exact Nat.ne_of_gt (Nat.lt_succ_of_lt (Nat.lt_succ_self _)))
  have B₁ := B.ext W₁.keep
  have hl₁ := hl.at (W₁.keep _)
  refine xThen (X.of (tAssignSwap (tTuple (tArgs (tCall (B₁.glo B.N.drawn (tCallDef rfl (tArgs (tSlice (tLoc F.ns rfl (tNoPart (tPart (tInt fun t₁ => tNoPart ⟨_, _, none, some 4, none, rfl, hl₁, by simpa using hsz, .none, .int _ _, .none, by simp, fun h₂ e₂ n₂ p₂ => tArgs0 ⟨(B₁.ext e₂).K 65 _ rfl, ?_⟩⟩)))))))))))))
  have c₂ := slice_ints_uptoW hi (y := 4) (by decide)
  refine drawn_ok (B₁.ext e₂) (room.deeper.le (by decide)) (a := h₁.objs.size + 1) (vs := (slicePick vs.toArray none (some 4) none).toList) (by simpa using p₂) c₂ (by simp; omega) fun h₃ i ti e₃ hi24 => ?_
  have W₃ := W₁.ext (Ext.trans e₂ e₃)
  have B₃ := B.ext W₃.keep
  have hl₃ := hl.at (W₃.keep _)
  clear c₂ p₂ n₂
  refine tArgs (tCall (B₃.glo B.N.drawn (tCallDef rfl (tArgs (tSlice (tLoc W₃.fr.ns rfl (tPart (tInt fun t₄ => tPart (tInt fun t₅ => tNoPart ⟨_, _, some 4, some 8, none, rfl, hl₃, by simpa using hsz, .int _ _, .int _ _, .none, by simp, fun h₅ e₅ n₅ p₅ => tArgs0 ⟨(B₃.ext e₅).K 65 _ rfl, ?_⟩⟩)))))))))
  have c₅ := slice_ints_plain hi 4 8
  have hlen5 : (((ns.drop (clipAt ns.length 4)).take (clipAt ns.length 8 - clipAt ns.length 4))).length ≤ 4 := by
    have q4 := clipAt_min (n := ns.length) (y := 4) (by decide)
    have q8 := clipAt_min (n := ns.length) (y := 8) (by decide)
    rw [List.length_take]
    refine Nat.le_trans (Nat.min_le_left _ _) ?_
    split at q4 <;> split at q8 <;> omega
  refine drawn_ok (B₃.ext e₅) (room.deeper.le (by decide)) (a := h₃.objs.size + 1) (vs := (slicePick vs.toArray (some 4) (some 8) none).toList) (by simpa using p₅) c₅ hlen5 fun h₆ j tj e₆ hj24 => ?_
  have W₆ := W₃.ext (Ext.trans e₅ e₆)
  clear c₅ hlen5 p₅ n₅ e₅ e₆ hl₃ B₃ W₃ e₃ e₂ hl₁ B₁ W₁
  refine tArgs0 ⟨small_line (by simp), ?_⟩
  have W₇ := W₆.ext (Ext.push _ (tupObj [bv i ti, bv j tj]))
  refine tUnpack room.deeper.handled ⟨_, Heap.get?_push_size _ rfl, rfl, 0, rfl⟩ rfl fun h₈ e₈ => ?_
  have W₈ := W₇.ext e₈
  refine tOrder (tBindName (tStoreL W₈.fr.ns fun h₉ n₉ s₉ => ?_))
  have W₉ := W₈.set n₉ s₉
  refine tOrder (tBindName (tStoreL W₉.fr.ns fun hA nA sA => tOrder0 ?_))
  have WA := W₉.set nA sA
  clear nA sA n₉ s₉ e₈ W₉ W₈ W₇ W₆
  have G := good i hi24 j hj24
  have BA := B.ext WA.keep
  show X _ _ (execs _ _) _ _
  -- made
  refine xThen (X.of (tAssign (tCall (BA.glo B.N.made (tCallDef rfl (tArgs (tList (tArgs (tLoc WA.fr.ns rfl (tArgs (tLoc WA.fr.ns rfl (tArgs0 ⟨small_line (by simp), tArgs0 ⟨(BA.ext (Ext.push _ _)).K 58 _ rfl, ?_⟩⟩))))))))))))
  refine made_ok (BA.ext (Ext.push _ _)) (room.deeper.le (by decide)) (mks := [i, j]) (mvs := [bv i ti, bv j tj]) (Heap.PlainList.isList ⟨0, Heap.get?_push_size _ rfl⟩) (.cons ⟨hi24, _, rfl⟩ (.cons ⟨hj24, _, rfl⟩ .nil)) fun hB am mvs eB nB pB oB m30 => ?_
  have WB := WA.add (b := .list mvs) (Ext.trans (Ext.push _ (listObj [bv i ti, bv j tj])) eB) (fresh_of (Ext.push _ (listObj [bv i ti, bv j tj])) nB) pB
  refine tStoreL WB.fr.ns fun hC nC sC => ?_
  have WC := WB.set nC sC
  clear nC sC WB eB nB pB WA BA
  unfold goodB at G
  simp only [Bool.and_eq_true, decide_eq_true_eq] at G
  obtain ⟨⟨⟨⟨⟨⟨g0, g24⟩, gs⟩, gall⟩, glots⟩, gturn⟩, geven⟩ := G
  generalize hmade : madeL [i, j] = made at *
  have gs : made = sortL made := eq_of_beq gs
  have hml := Ords.length oB
  have BC := B.ext WC.keep
  have hm : hC.PlainList am mvs.toArray := WC.get (b := .list mvs) (by simp)
  show X _ _ (execs _ _) _ _
  refine xThen (xIf (xIsBool (xOrCons (X.of (tIsCmp (tBinOp (tInt fun t₁ => tCall (BC.blt B.N.nlen B.N.len (tCallBlt (tArgs (tLoc WC.fr.ns rfl (tArgs0 (tLenOrds hm oB (by omega) fun t₂ => tModI (by omega) fun t₃ => tInt fun t₄ => tNeInt (tTruthyBool ?_))))))))))))))
  have q24 : ((24 : Int).fmod (made.length : Nat) != 0) = false := by
    rw [Int.fmod_eq_emod_of_nonneg _ (by omega)]
    simp only [bne_eq_false_iff_eq]
    rw [show (24 : Int) = ((24 : Nat) : Int) from rfl, ← Int.natCast_emod, g24]
    rfl
  refine ifF q24 (xOrCons (X.of (tIsCmp (tLoc WC.fr.ns rfl (tCall (BC.blt B.N.nsorted B.N.sorted (tCallBlt (tArgs (tLoc WC.fr.ns rfl (tArgs0 (tSorted hm.isList oB (by omega) fun hD svs eD nD pD oD => tNeOrds room.deeper.units (hm.isList.at (eD _)) pD.isList oB oD (tTruthyBool ?_))))))))))))
  refine ifF (by rw [← gs]; simp) ?_
  have WD := WC.ext eD
  have BD := B.ext WD.keep
  refine xOrCons (xIsCmp (xCall (BD.glo B.N.byteswap (xCallDef rfl (xArgs (X.of (tLoc WD.fr.ns rfl (xArgs (X.of (tInt fun t₁ => X.of (tArgs0 ⟨BD.K 21 _ rfl, swap_ok BD (room.deeper.le (by decide)) hi24 fun hE tE eE => X.of ?_⟩)))))))))))
  have WE := WD.ext eE
  have BE := B.ext WE.keep
  have h4i := PL_length i hi24
  refine tCall (BE.blt B.N.nbytes B.N.bytes (tCallTy (tArgs (tSlice (tCall (BE.blt B.N.nlist B.N.list (tCallTy (tArgs (tLoc WE.fr.ns rfl (tArgs0 (tListBytes room.deeper.handled (by rw [h4i]; decide) fun hF ys eF pF iF => tNoPart (tNoPart (tPart (tUn (tInt fun t₂ => tNegI fun t₃ => ⟨_, _, none, none, some (-1), rfl, pF.isList, by simp only [List.size_toArray]; exact small_line (by rw [iF.length]; simp [h4i]), .none, .none, .int _ _, by simp, fun hG eG nG pG => tArgs0 ?_⟩)))))))))))))))
  rw [rev4 ys (by rw [iF.length]; simp [h4i])] at pG
  refine tBytesInts (ns := (PL i).reverse.map fun c => (c.toNat : Int)) pG.isList ?_ ?_ (small_line (by rw [List.length_reverse, iF.length]; simp [h4i])) room.deeper.handled fun hH tH eH => ?_
  · rw [List.map_reverse]; exact IntsAre.reverse iF
  · intro n hn
    obtain ⟨c, _, rfl⟩ := List.mem_map.mp hn
    have := c.toNat_lt
    omega
  rw [byteArr_u8 (PL i).reverse fun c => c, List.map_id']
  refine tNeBytes (tTruthyBool ?_)
  refine ifF (by simp) (X.of (tOrNil (ifF rfl ?_)))
  have WH := WE.ext (Ext.trans eF (Ext.trans eG eH))
  clear WE BE WD BD WC BC eF eG eH pG pF iF eE eD pD oD nG nD hm
  show X _ _ (execs _ _) _ _
  refine xDone ?_
  show X _ _ (execs _ _) _ _
  have hmH : hH.PlainList am mvs.toArray := WH.get (b := .list mvs) (by simp)
  refine xThen (X.of (tFor (tLoc WH.fr.ns rfl (tIterList hmH.isList ?_))))
  have WI := WH.add (b := .liter am 0) (Ext.push _ { cls := .type "list_iterator", data := .fields #[.ref am, .int 0 0] }) (fresh_size hH) ⟨_, Heap.get?_push_size _ rfl, rfl, rfl⟩
  clear WH hmH
  generalize hH.objs.size = I at WI ⊢
  refine cFor (fun n h' => ∃ (m' : Str → Option Value) (k : Nat) (co : Option Value), W h h.objs.size m' [(I, .liter am k), (am, .list mvs), (h.objs.size + 1 + 1 + 1, .cell none), (h.objs.size + 1 + 1, .cell none), (h.objs.size + 1, .cell co)] h' ∧
    m' "made" = some (.ref am) ∧ m' "one" = some (bv i ti) ∧ m' "other" = some (bv j tj) ∧ k ≤ made.length ∧ n = made.length - k) ?_ made.length ⟨_, 0, none, WI, rfl, rfl, rfl, Nat.zero_le _, rfl⟩
  clear WI
  rintro n h₁ ⟨m', k, co, W₁, hma, hon, hot, hk, hn⟩
  have hit : h₁.IsListIter I am k := W₁.get (b := .liter am k) (by simp)
  have hm₁ : h₁.PlainList am mvs.toArray := W₁.get (b := .list mvs) (by simp)
  rcases Nat.lt_or_ge k made.length with hlt | hge
  · obtain ⟨to, hmo, ho24⟩ := oB.get (k := k) (List.getElem?_eq_getElem hlt)
    have go := List.all_eq_true.mp gall _ (List.getElem_mem hlt)
    generalize made[k] = o at hmo ho24 go
    simp only [Bool.and_eq_true, decide_eq_true_eq] at go
    obtain ⟨⟨go1, go2⟩, go3⟩ := go
    rw [inv_tab o ho24] at go1
    refine tNextItem hit hm₁.isList (by simpa using hmo) fun h₂ i₂ s₂ => ?_
    have W₂ := W₁.upd (pre := []) (b' := .liter am (k + 1)) s₂.extBut i₂
    have hco : h₂.IsCell (h.objs.size + 1) co := W₂.get (b := .cell co) (by simp)
    refine tStoreC rfl hco fun h₃ c₃ s₃ => ?_
    have W₃ := W₂.upd (pre := [_, _, _, _]) (b' := .cell (some (bv o to))) s₃.extBut c₃
    clear s₃ W₂ W₁ hit hm₁ i₂ s₂ hco
    have B₃ := B.ext W₃.keep
    have hcell : h₃.IsCell (h.objs.size + 1) (some (bv o to)) := c₃
    have h4o := PL_length o ho24
    refine tThen (tAssignSwap (tTuple (tArgs (tCall (B₃.blt B.N.nbytes B.N.bytes (tCallTy (tArgs (tComp (fun _ => true) (fun v y => ∃ (c : Nat) (t u : Tok), c < 4 ∧ v = .int c t ∧ y = .int (posOf o c : Nat) u) rfl (by decide) rfl (by decide) rfl (tCall (B₃.blt B.N.nrange B.N.range (tCallTy (tArgs (tInt fun t₇ => tArgs0 (tRange1 fun h₄ u₄ v₄ e₄ g₄ => tIterRange g₄ rfl ?_))))))))))))))
    have hsz4 : Builtin.Range.rangeSize 0 4 1 = ((4 : Nat) : Int) := by decide
    rw [hsz4]
    refine ⟨_, _, _, _, rfl, src_rangeB room.deeper.handled 4 h₄, by decide, fun C k v h₃ m₃ hC hP hns hm hk => tests_nil rfl, ?_, ?_⟩
    · rintro C q v hX mX hC ⟨hq4, tq, rfl⟩ _ hns hm hkp
      have hcX : hX.IsCell (h.objs.size + 1) (some (bv o to)) := cell_ext hcell (Ext.trans e₄ fun b ob e => hkp b ob (fun q => Nat.ne_of_lt (Heap.lt_size e) (List.mem_singleton.mp q)) (Heap.get?_push_of_some _ e))
      exact tMethod (tCell (c := h.objs.size + 1) rfl hcX ⟨"bytes", "bytes.index", FB.plainAttrs_bytes, FX.slot_bytes_index, FX.type_bytes_index, fun s e => PySem.W.typeIs_bytes s _ _, fun a e => (nomatch e), tCallSelf (tArgs (tLoc hns hm (tArgs0 (tIndexOrd ho24 hq4 fun t' => ⟨⟨q, tq, t', hq4, rfl, rfl⟩, Ext.refl _⟩))))⟩)
    · intro D hX ys vsX hD hpl hlen hP hF hkp
      obtain ⟨hyl, hy⟩ := pair_all hlen hP hF
      have W₅ : W h h.objs.size _ [(I, .liter am (k + 1)), (am, .list mvs), (h.objs.size + 1 + 1 + 1, .cell none), (h.objs.size + 1 + 1, .cell none), (h.objs.size + 1, .cell (some (bv o to)))] hX :=
        W₃.ext (Ext.trans e₄ fun b ob e => hkp b ob (fun q => Nat.ne_of_lt (Heap.lt_size e) (List.mem_singleton.mp q)) (Heap.get?_push_of_some _ e))
      refine tArgs0 (tBytesInts (ns := (List.range 4).map fun c => ((posOf o c : Nat) : Int)) hpl.isList (ints_of (by simp [hyl]) fun q n hn => ?_) ?_ (by rw [hyl]; decide) room.deeper.handled fun hY tY eY => ?_)
      · have hq : q < 4 := by
          rcases Nat.lt_or_ge q 4 with q' | q'
          · exact q'
          · rw [List.getElem?_eq_none (by simpa using q')] at hn; cases hn
        obtain ⟨v, y, hyk, ⟨_, tv, rfl⟩, ⟨c, tc, uc, hc4, hv, rfl⟩⟩ := hy q hq
        have hcq : c = q := by have := (Value.int.inj hv).1; omega
        subst hcq
        rw [List.getElem?_map, List.getElem?_range hq] at hn
        cases hn
        exact ⟨_, hyk⟩
      · intro n hn
        obtain ⟨c, hc, rfl⟩ := List.mem_map.mp hn
        have := posOf_lt o ho24 c (List.mem_range.mp hc)
        omega
      have eb : byteArr ((List.range 4).map fun c => ((posOf o c : Nat) : Int)) = (PL (inv o)).toArray := by
        rw [(inv_PL o ho24).2]
        rfl
      rw [eb]
      have W₆ := W₅.ext eY
      have hcY : hY.IsCell (h.objs.size + 1) (some (bv o to)) := W₆.get (b := .cell (some (bv o to))) (by simp)
      refine tArgs (tCell (c := h.objs.size + 1) rfl hcY (tArgs (tInt fun t₈ => tArgs0 ⟨small_line (by simp), ?_⟩)))
      have W₇ := W₆.ext (Ext.push _ (tupObj [bv (inv o) tY, bv o to, .int 1 t₈]))
      refine tUnpack room.deeper.handled ⟨_, Heap.get?_push_size _ rfl, rfl, 0, rfl⟩ rfl fun hZ eZ => ?_
      have W₈ := W₇.ext eZ
      refine tOrder (tBindName (tStoreL W₈.fr.ns fun h₉ n₉ s₉ => ?_))
      have W₉ := W₈.set n₉ s₉
      refine tOrder (tBindName (tStoreL W₉.fr.ns fun hA nA sA => ?_))
      have WA := W₉.set nA sA
      refine tOrder (tBindName (tStoreL WA.fr.ns fun hB nB sB => tOrder0 ?_))
      have WB := WA.set nB sB
      clear nB sB WA nA sA W₉ n₉ s₉ W₈ W₇ W₆ W₅ hcY eY eZ hy hyl hF hP hpl eb hkp hcell c₃ B₃ W₃ g₄ e₄
      show T _ _ (execs _ _) _ _
      refine tThen (tWhile (cWhile (fun n h' => ∃ (m₂ : Str → Option Value) (a q : Nat) (ta tq : Tok), W h h.objs.size m₂ [(I, .liter am (k + 1)), (am, .list mvs), (h.objs.size + 1 + 1 + 1, .cell none), (h.objs.size + 1 + 1, .cell none), (h.objs.size + 1, .cell (some (bv o to)))] h' ∧
        m₂ "made" = some (.ref am) ∧ m₂ "one" = some (bv i ti) ∧ m₂ "other" = some (bv j tj) ∧ m₂ "back" = some (bv (inv o) tY) ∧ m₂ "here" = some (bv a ta) ∧ m₂ "turns" = some (.int (q : Nat) tq) ∧ a < 24 ∧ q ≤ 20 ∧ whGo o (20 - q) a q = turnsOf o ∧ n = 20 - q) ?_ 19 ⟨_, o, 1, _, _, WB, hma, hon, hot, rfl, rfl, rfl, ho24, by decide, rfl, rfl⟩))
      clear WB
      rintro n₂ h₁ ⟨m₂, a, q, ta, tq, W₁, hma, hon, hot, hba, hhe, htu, ha24, hq20, hwh, hn₂⟩
      have B₁ := B.ext W₁.keep
      refine tIsBool (tAndTwo (b1 := a != 0) (b2 := decide (q < 20)) (P := Ext h₁) (tIsCmp (tLoc W₁.fr.ns hhe (tBR4 B₁ room.deeper.handled fun h₂ t₂ e₂ => tNeOrd ha24 (by decide) (tTruthyBool ⟨rfl, e₂⟩)))) (fun h₂ e₂ => tIsCmp (tLoc (W₁.ext e₂).fr.ns htu (tInt fun t₃ => tLt (tTruthyBool ⟨?_, e₂⟩)))) fun h₂ e₂ => ?_)
      · exact decide_eq_decide.mpr (by omega)
      have W₂ := W₁.ext e₂
      have B₂ := B.ext W₂.keep
      cases hgo : (a != 0 && decide (q < 20)) with
      | true =>
        obtain ⟨ha0, hq'⟩ : a ≠ 0 ∧ q < 20 := by simpa using hgo
        refine ifT rfl ?_
        have hc₂ : h₂.IsCell (h.objs.size + 1) (some (bv o to)) := W₂.get (b := .cell (some (bv o to))) (by simp)
        refine tThen (tAssignSwap (tTuple (tArgs (tCall (B₂.glo B.N.then' (tCallDef rfl (tArgs (tLoc W₂.fr.ns hhe (tArgs (tCell (c := h.objs.size + 1) rfl hc₂ (tArgs0 ⟨B₂.K 44 _ rfl, then_ok B₂ (room.deeper.le (by decide)) ha24 ho24 fun h₃ t₃ e₃ => ?_⟩)))))))))))
        have W₃ := W₂.ext e₃
        refine tArgs (tBinOp (tLoc W₃.fr.ns htu (tInt fun t₄ => tAdd fun t₅ => tArgs0 ⟨small_line (by simp), ?_⟩)))
        have W₄ := W₃.ext (Ext.push _ (tupObj [bv (mul a o) t₃, .int ((q : Int) + 1) t₅]))
        refine tUnpack room.deeper.handled ⟨_, Heap.get?_push_size _ rfl, rfl, 0, rfl⟩ rfl fun h₅ e₅ => ?_
        have W₅ := W₄.ext e₅
        refine tOrder (tBindName (tStoreL W₅.fr.ns fun h₆ n₆ s₆ => ?_))
        have W₆ := W₅.set n₆ s₆
        refine tOrder (tBindName (tStoreL W₆.fr.ns fun h₇ n₇ s₇ => tOrder0 ?_))
        have W₇ := W₆.set n₇ s₇
        have eq1 : (q : Int) + 1 = ((q + 1 : Nat) : Int) := by omega
        rw [eq1] at W₇
        refine tDone ⟨rfl, 20 - (q + 1), by omega, _, mul a o, q + 1, _, _, W₇, hma, hon, hot, hba, rfl, rfl, mul_lt a ha24 o ho24, hq', ?_, rfl⟩
        rw [← hwh, show 20 - q = (20 - (q + 1)) + 1 by omega, whGo, if_neg ha0]
      | false =>
        refine ifF rfl (tDone ?_)
        have hst : q = turnsOf o := by
          rw [← hwh]
          refine (whGo_stop o _ a q ?_).symm
          by_cases ha0 : a = 0
          · exact .inl ha0
          · have : ¬ q < 20 := fun hq => by simp [ha0, hq] at hgo
            exact .inr (by omega)
        subst hst
        show T _ _ (execs _ _) _ _
        have hm₂ : h₂.PlainList am mvs.toArray := W₂.get (b := .list mvs) (by simp)
        refine tThen (tIf (tIsBool (tOrCons (tIsNot (tIsVal (tCall (B₂.glo B.N.has (tCallDef rfl (tArgs (tLoc W₂.fr.ns hma (tArgs (tLoc W₂.fr.ns hba (tArgs0 ⟨B₂.K 51 _ rfl, has_ok B₂ (room.deeper.le (by decide)) hm₂.isList oB (by omega) (inv_PL o ho24).1 fun h₃ e₃ => tTruthyBool ?_⟩)))))))))))))
        rw [go1]
        refine ifF rfl ?_
        have W₃ := W₂.ext e₃
        have B₃ := B.ext W₃.keep
        have hm₃ : h₃.PlainList am mvs.toArray := W₃.get (b := .list mvs) (by simp)
        have htp : 0 < turnsOf o := by
          rcases Nat.eq_zero_or_pos (turnsOf o) with q0 | q0
          · rw [q0, Nat.mod_zero] at go2; omega
          · exact q0
        refine tOrCons (tIsCmp (tBinOp (tCall (B₃.blt B.N.nlen B.N.len (tCallBlt (tArgs (tLoc W₃.fr.ns hma (tArgs0 (tLenOrds hm₃ oB (by omega) fun t₄ => tLoc W₃.fr.ns htu (tModI (by omega) fun t₅ => tInt fun t₆ => tNeInt (tTruthyBool ?_)))))))))))
        refine ifF ?_ ?_
        · rw [Int.fmod_eq_emod_of_nonneg _ (by omega)]
          simp only [bne_eq_false_iff_eq]
          rw [← Int.natCast_emod, go2]
          rfl
        have hlast : made.length - 1 < made.length := by omega
        obtain ⟨tl, hml', hl24⟩ := oB.get (k := made.length - 1) (List.getElem?_eq_getElem hlast)
        have hgl : made.getD (made.length - 1) 0 = made[made.length - 1] := by simp [hlast]
        rw [hgl] at go3
        have hc₃ : h₃.IsCell (h.objs.size + 1) (some (bv o to)) := W₃.get (b := .cell (some (bv o to))) (by simp)
        refine tOrCons (tIsNot (tIsVal (tCall (B₃.glo B.N.has (tCallDef' (B₃.K 51 _ rfl) rfl (tArgs (tLoc W₃.fr.ns hma (tArgs (tCall (B₃.glo B.N.then' (tCallDef rfl (tArgs (tCell (c := h.objs.size + 1) rfl hc₃ (tArgs (tSub (tLoc W₃.fr.ns hma (tUn (tInt fun t₇ => tNegI fun t₈ => tSubListNeg hm₃.isList (by decide) (by decide) (by simp; omega) (x := bv made[made.length - 1] tl) ?_ (tArgs0 ⟨B₃.K 44 _ rfl, then_ok B₃ (room.deeper.le (by decide)) ho24 hl24 fun h₄ t₉ e₄ => ?_⟩)))))))))))))))))))
        · rw [List.getElem?_toArray, ← hml']
          congr 1
          simp only [List.size_toArray]
          omega
        have W₄ := W₃.ext e₄
        have B₄ := B.ext W₄.keep
        have hm₄ : h₄.PlainList am mvs.toArray := W₄.get (b := .list mvs) (by simp)
        refine tArgs0 ⟨B₄.K 51 _ rfl, has_ok B₄ (room.deeper.le (by decide)) hm₄.isList oB (by omega) (mul_lt o ho24 _ hl24) fun h₅ e₅ => tTruthyBool ?_⟩
        rw [go3]
        refine ifF rfl (tOrNil (ifF rfl (tDone (tDone ⟨rfl, made.length - (k + 1), by omega, _, k + 1, _, W₄.ext e₅, hma, hon, hot, hlt, rfl⟩))))
  · refine tNextEnd room.deeper.handled hit hm₁.isList (by simp; omega) fun h₂ x₂ => tDone ?_
    have W₂ := W₁.lose (pre := []) x₂
    clear W₁ hit hm₁ x₂
    show X _ _ (execs _ _) _ _
    refine xThen (X.of (tAssign (tList (tArgs0 ⟨small_line (by simp), ?_⟩))))
    have W₃ := W₂.add (b := .list []) (Ext.push _ (listObj [])) (fresh_size h₂) ⟨0, Heap.get?_push_size _ rfl⟩
    generalize h₂.objs.size = al at W₃ ⊢
    refine tStoreL W₃.fr.ns fun h₃ n₃ s₃ => ?_
    have W₄ := W₃.set n₃ s₃
    clear n₃ s₃ W₃ W₂
    have B₄ := B.ext W₄.keep
    show X _ _ (execs _ _) _ _
    refine xThen (X.of (tFor (tList (tArgs (tLoc W₄.fr.ns hon (tArgs (tLoc W₄.fr.ns hot (tArgs (tLit4 (n := 6) B₄ room.deeper.handled (by decide +kernel) (by decide) fun h₅ t₅ e₅ => tArgs (tLit4 (n := 9) (B₄.ext e₅) room.deeper.handled (by decide +kernel) (by decide) fun h₆ t₆ e₆ => tArgs (tLit4 (n := 2) (B₄.ext (Ext.trans e₅ e₆)) room.deeper.handled (by decide +kernel) (by decide) fun h₇ t₇ e₇ => tArgs0 ⟨small_line (by simp), ?_⟩)))))))))))
    have W₇ := W₄.ext (Ext.trans e₅ (Ext.trans e₆ e₇))
    have W₈ := W₇.add (b := .list [bv i ti, bv j tj, bv 6 t₅, bv 9 t₆, bv 2 t₇]) (Ext.push _ (listObj [bv i ti, bv j tj, bv 6 t₅, bv 9 t₆, bv 2 t₇])) (fresh_size h₇) ⟨0, Heap.get?_push_size _ rfl⟩
    have oF : Ords [bv i ti, bv j tj, bv 6 t₅, bv 9 t₆, bv 2 t₇] (firsts i j) := .cons ⟨hi24, _, rfl⟩ (.cons ⟨hj24, _, rfl⟩ (.cons ⟨by decide, _, rfl⟩ (.cons ⟨by decide, _, rfl⟩ (.cons ⟨by decide, _, rfl⟩ .nil))))
    generalize [bv i ti, bv j tj, bv 6 t₅, bv 9 t₆, bv 2 t₇] = fvs at W₈ oF ⊢
    generalize h₇.objs.size = af at W₈ ⊢
    refine tIterList (W₈.get (b := .list fvs) (by simp) : Ob.At _ _ (.list fvs)).isList ?_
    have W₉ := W₈.add (b := .liter af 0) (Ext.push _ { cls := .type "list_iterator", data := .fields #[.ref af, .int 0 0] }) (fresh_size _) ⟨_, Heap.get?_push_size _ rfl, rfl, rfl⟩
    generalize (h₇.push (listObj fvs)).objs.size = If at W₉ ⊢
    clear W₈ W₇ W₄ B₄ e₅ e₆ e₇
    refine cFor (fun n h' => ∃ (m' : Str → Option Value) (k : Nat) (cf cl : Option Value) (lo : List (Addr × List Value)) (ls : List (List Nat)), W h h.objs.size m' ([(If, .liter af k), (af, .list fvs), (al, .list (lo.map fun p => Value.ref p.1)), (am, .list mvs), (h.objs.size + 1 + 1 + 1, .cell cl), (h.objs.size + 1 + 1, .cell cf), (h.objs.size + 1, .cell co)] ++ lo.map fun p => (p.1, Ob.list p.2)) h' ∧
      m' "made" = some (.ref am) ∧ m' "one" = some (bv i ti) ∧ m' "other" = some (bv j tj) ∧ m' "lots" = some (.ref al) ∧ Paired (fun (p : Addr × List Value) l => Ords p.2 l) lo ls ∧ lotsGood made.length ls (((firsts i j).drop k).map (lotOf made)) = true ∧ ls.length = k ∧ k ≤ 5 ∧ n = 5 - k) ?_ 5 ⟨fun y => if y = "lots" then some (.ref al) else m' y, 0, none, none, [], [], W₉, hma, hon, hot, rfl, .nil, glots, rfl, by decide, rfl⟩
    clear W₉ hma hon hot
    rintro n h₁ ⟨m', k, cf, cl, lo, ls, W₁, hma, hon, hot, hlt, hls, hgood, hlsk, hk5, hn'⟩
    have hit : h₁.IsListIter If af k := W₁.get (b := .liter af k) (by simp)
    have hf₁ : h₁.PlainList af fvs.toArray := W₁.get (b := .list fvs) (by simp)
    rcases Nat.lt_or_ge k 5 with hk | hk
    · obtain ⟨tf, hff, hf24⟩ := oF.get (k := k) (List.getElem?_eq_getElem (show k < (firsts i j).length from hk))
      rw [List.drop_eq_getElem_cons (show k < (firsts i j).length from hk), List.map_cons, lotsGood] at hgood
      generalize (firsts i j)[k] = f at hff hf24 hgood
      simp only [Bool.and_eq_true, decide_eq_true_eq, Bool.not_eq_true'] at hgood
      obtain ⟨⟨hg1, hg2⟩, hg3⟩ := hgood
      refine tNextItem hit hf₁.isList (by simpa using hff) fun h₂ i₂ s₂ => ?_
      have W₂ := W₁.upd (pre := []) (b' := .liter af (k + 1)) s₂.extBut i₂
      have hcf : h₂.IsCell (h.objs.size + 1 + 1) cf := W₂.get (b := .cell cf) (by simp)
      refine tStoreC rfl hcf fun h₃ c₃ s₃ => ?_
      have W₃ := W₂.upd (pre := [_, _, _, _, _]) (b' := .cell (some (bv f tf))) s₃.extBut c₃
      clear s₃ W₂ W₁ hit hf₁ i₂ s₂ hcf
      have B₃ := B.ext W₃.keep
      have hm₃ : h₃.PlainList am mvs.toArray := W₃.get (b := .list mvs) (by simp)
      have hf₃ : h₃.IsCell (h.objs.size + 1 + 1) (some (bv f tf)) := c₃
      refine tThen (tAssign (tCall (B₃.blt B.N.nsorted B.N.sorted (tCallBlt (tArgs (tComp (fun _ => true) (fun v y => ∃ (o : Nat) (t u : Tok), o < 24 ∧ v = bv o t ∧ y = bv (mul o f) u) rfl (by decide) rfl (by decide) rfl (tLoc W₃.fr.ns hma (tIterList hm₃.isList ?_))))))))
      have kept : ∀ {hX : Heap}, (∀ b o, b ∉ [h₃.objs.size] → (h₃.push { cls := .type "list_iterator", data := .fields #[.ref am, .int 0 0] }).get? b = some o → hX.get? b = some o) → Ext h₃ hX := fun hkp b o e =>
        hkp b o (fun m => Nat.ne_of_lt (Heap.lt_size e) (List.mem_singleton.mp m)) (Heap.get?_push_of_some _ e)
      refine ⟨_, _, _, _, rfl, src_list room.deeper.handled hm₃.isList, small_line (by omega), fun C q v hX mX hC hP hns hm hkp => tests_nil rfl, fun C q v hX mX hC hP hpv hns hm hkp => ?_, fun D hX ys vsX hD hpl hlX hP hF hkp => ?_⟩
      · have eX := kept hkp
        have BX := B₃.ext eX
        obtain ⟨o, ho, ho24, tv, rfl⟩ := oB.get' hP
        exact tCall (BX.glo B.N.then' (tCallDef rfl (tArgs (tLoc hns hm (tArgs (tCell (c := h.objs.size + 1 + 1) rfl (cell_ext hf₃ eX) (tArgs0 ⟨BX.K 44 _ rfl, then_ok BX (room.deeper.le (by decide)) ho24 hf24 fun h' t' e' => ⟨⟨o, tv, t', ho24, rfl, rfl⟩, e'⟩⟩)))))))
      have eX := kept hkp
      have hvs : mvs = vsX := (same_list hlX hP).symm
      subst hvs
      rw [filter_true] at hF
      have oX := mul_ords hf24 oB hF
      have W₄ := W₃.ext eX
      refine tArgs0 (tSorted hpl.isList oX (by simp; omega) fun hY svs eY nY pY oY => ?_)
      have W₅ := W.add (b := .list svs) W₄ eY nY pY
      generalize hX.objs.size + 1 = lotA at W₅ ⊢
      have hcl : hY.IsCell (h.objs.size + 1 + 1 + 1) cl := W₅.get (b := .cell cl) (by simp)
      refine tStoreC rfl hcl fun h₆ c₆ s₆ => ?_
      have W₆ := W₅.upd (pre := [_, _, _, _, _]) (b' := .cell (some (.ref lotA))) s₆.extBut c₆
      clear W₅ W₄ W₃ s₆ hcl nY eY pY hpl hkp kept eX hF hP
      have oY : Ords svs (lotOf made f) := oY
      have hll : (lotOf made f).length = made.length := by unfold lotOf; rw [sortL_length]; simp
      generalize lotOf made f = lot at *
      show T _ _ (execs _ _) _ _
      have B₆ := B.ext W₆.keep
      have hlotA : h₆.PlainList lotA svs.toArray := W₆.get (b := .list svs) (by simp)
      refine tThen (tIf (tIsCmp (tCall (B₆.blt B.N.nlen B.N.len (tCallBlt (tArgs (tCall (B₆.blt B.N.ndict B.N.dict (tCallTy (tArgs (tPairs room.deeper.handled rfl (by decide) rfl (by decide) rfl (tCell (c := h.objs.size + 1 + 1 + 1) rfl c₆ ⟨lotA, svs, lot, rfl, hlotA, oY, by omega, fun D7 h₇ ys7 e₇ n₇ p₇ l₇ q₇ => tArgs0 (tDictOf room.deeper.handled (B₆.ext e₇).lim p₇ l₇ q₇ (by omega) fun h₈ d8 kvs e₈ d8s d8d d8l => tArgs0 (tLenDict d8s d8d (by rw [d8l, hg1]; exact small_len (by omega)) fun t₈ => ?_))⟩))))))))))))
      have W₈ : W h h.objs.size m' ([(lotA, .list svs), (If, .liter af (k + 1)), (af, .list fvs), (al, .list (lo.map fun p => Value.ref p.1)), (am, .list mvs), (h.objs.size + 1 + 1 + 1, .cell (some (.ref lotA))), (h.objs.size + 1 + 1, .cell (some (bv f tf))), (h.objs.size + 1, .cell co)] ++ lo.map fun p => (p.1, Ob.list p.2)) h₈ := W₆.ext (Ext.trans e₇ e₈)
      have B₈ := B.ext W₈.keep
      have hm₈ : h₈.PlainList am mvs.toArray := W₈.get (b := .list mvs) (by simp)
      refine tCall (B₈.blt B.N.nlen B.N.len (tCallBlt (tArgs (tLoc W₈.fr.ns hma (tArgs0 (tLenOrds hm₈ oB (by omega) fun t₉ => tNeInt (tTruthyBool ?_)))))))
      refine ifF (by rw [d8l, hg1]; simp) (tDone ?_)
      have hlot₈ : h₈.PlainList lotA svs.toArray := W₈.get (b := .list svs) (by simp)
      have hal₈ : h₈.PlainList al (lo.map fun p => Value.ref p.1).toArray := W₈.lst (by simp)
      have hc₈ : h₈.IsCell (h.objs.size + 1 + 1 + 1) (some (.ref lotA)) := W₈.get (b := .cell (some (.ref lotA))) (by simp)
      show T _ _ (execs _ _) _ _
      refine tThen (tIf (tIsCmp (tClash (c := h.objs.size + 1 + 1 + 1) (al := al) (lotA := lotA) (lo := lo) (ls := ls) (lvs := svs) (lot := lot) room.deeper.handled room.deeper.units rfl rfl rfl (fun R' r => tLoc W₈.fr.ns hlt r) hc₈ hlot₈ oY hal₈ (fun p hp => W₈.get (a := p.1) (b := .list p.2) (List.mem_append_right _ (List.mem_map.mpr ⟨p, hp, rfl⟩))) hls (by omega) (by omega) fun h₉ D9 xs e₉ n₉ p₉ x₉ => ?_)))
      refine tList (tArgs0 ⟨small_line (by simp), ?_⟩)
      refine tNeNil room.deeper.units (vs := xs) (p₉.isList.at fun o e => Heap.get?_push_of_some _ e) (Heap.PlainList.isList ⟨0, Heap.get?_push_size _ rfl⟩) (tTruthyBool ?_)
      rw [x₉, hg2]
      refine ifF rfl (tDone ?_)
      have W₉ := W₈.ext (Ext.trans e₉ (Ext.push _ (listObj [])))
      clear W₈ B₈ hm₈ hal₈ hc₈ hlot₈ e₉ n₉ p₉
      have hal₉ : (h₉.push (listObj [])).PlainList al (lo.map fun p => Value.ref p.1).toArray := W₉.lst (by simp)
      have hc₉ : (h₉.push (listObj [])).IsCell (h.objs.size + 1 + 1 + 1) (some (.ref lotA)) := W₉.get (b := .cell (some (.ref lotA))) (by simp)
      have hlol : lo.length = ls.length := hls.length
      show T _ _ (execs _ _) _ _
      refine tThen (tExpr (tMethList PySem.F.slot_list_append PySem.F.type_list_append (tLoc W₉.fr.ns hlt ⟨al, _, rfl, hal₉, tCallSelf (tArgs (tCell (c := h.objs.size + 1 + 1 + 1) rfl hc₉ (tArgs0 (tAppend hal₉ (small_line (by simp; omega)) fun hA pA sA => ?_))))⟩)))
      have WA := W.upd (pre := [(lotA, .list svs), (If, .liter af (k + 1)), (af, .list fvs)]) (a := al) (b := .list (lo.map fun p => Value.ref p.1)) (b' := .list ((lo ++ [(lotA, svs)]).map fun p => Value.ref p.1)) (post := [(am, .list mvs), (h.objs.size + 1 + 1 + 1, .cell (some (.ref lotA))), (h.objs.size + 1 + 1, .cell (some (bv f tf))), (h.objs.size + 1, .cell co)] ++ lo.map fun p => (p.1, Ob.list p.2)) W₉ sA.extBut (by simpa [Ob.At] using pA)
      have WB : W h h.objs.size m' ([(If, .liter af (k + 1)), (af, .list fvs), (al, .list ((lo ++ [(lotA, svs)]).map fun p => Value.ref p.1)), (am, .list mvs), (h.objs.size + 1 + 1 + 1, .cell (some (.ref lotA))), (h.objs.size + 1 + 1, .cell (some (bv f tf))), (h.objs.size + 1, .cell co)] ++ (lo ++ [(lotA, svs)]).map fun p => (p.1, Ob.list p.2)) hA := by
        have WA' : W h h.objs.size m' ((lotA, .list svs) :: ([(If, .liter af (k + 1)), (af, .list fvs), (al, .list ((lo ++ [(lotA, svs)]).map fun p => Value.ref p.1)), (am, .list mvs), (h.objs.size + 1 + 1 + 1, .cell (some (.ref lotA))), (h.objs.size + 1 + 1, .cell (some (bv f tf))), (h.objs.size + 1, .cell co)] ++ lo.map fun p => (p.1, Ob.list p.2))) hA := WA
        refine W.perm WA' ?_
        rw [List.map_append (l₁ := lo) (f := fun p => (p.1, Ob.list p.2)), ← List.append_assoc]
        exact (List.perm_append_singleton _ _).symm
      show T _ _ (execs _ _) _ _
      refine tDone ⟨rfl, 5 - (k + 1), by omega, m', k + 1, _, _, lo ++ [(lotA, svs)], ls ++ [lot], WB, hma, hon, hot, hlt, Paired.snoc hls oY, hg3, by simp [hlsk], hk, rfl⟩
    · refine tNextEnd room.deeper.handled hit hf₁.isList (by simp; rw [oF.length]; exact hk) fun h₂ x₂ => tDone ?_
      have W₂ := W₁.lose (pre := []) x₂
      clear W₁ hit hf₁ x₂
      show X _ _ (execs _ _) _ _
      have B₂ := B.ext W₂.keep
      refine xThen (xIf (xIsCmp (xCall (B₂.blt B.N.nlen B.N.len (xCallBlt (xArgs (xCall (B₂.glo B.N.made (xCallDef' (B₂.K 58 _ rfl) rfl (xArgs (xList (xArgs (xCall (B₂.glo B.N.turned (xCallDef rfl (xArgs (X.of (tLoc W₂.fr.ns hon (X.of (tArgs0 ⟨B₂.K 75 _ rfl, turned_ok B₂ (room.deeper.le (by decide)) hi24 fun h₃ t₃ e₃ => ?_⟩))))))))))))))))))))
      have W₃ := W₂.ext e₃
      have B₃ := B.ext W₃.keep
      refine xArgs (xCall (B₃.glo B.N.turned (xCallDef rfl (xArgs (X.of (tLoc W₃.fr.ns hot (X.of (tArgs0 ⟨B₃.K 75 _ rfl, turned_ok B₃ (room.deeper.le (by decide)) hj24 fun h₄ t₄ e₄ => X.of (tArgs0 ⟨small_line (by simp), X.of (tArgs0 ⟨(B₃.ext (Ext.trans e₄ (Ext.push _ _))).K 58 _ rfl, X.of ?_⟩)⟩)⟩))))))))
      have W₄ := W₃.ext (Ext.trans e₄ (Ext.push _ (listObj [bv (turnL i) t₃, bv (turnL j) t₄])))
      refine made_ok (B.ext W₄.keep) (room.deeper.le (by decide)) (mks := [turnL i, turnL j]) (mvs := [bv (turnL i) t₃, bv (turnL j) t₄]) (Heap.PlainList.isList ⟨0, Heap.get?_push_size _ rfl⟩) (.cons ⟨(turn_PL i hi24).1, _, rfl⟩ (.cons ⟨(turn_PL j hj24).1, _, rfl⟩ .nil)) fun h₅ a₅ v₅ e₅ n₅ p₅ o₅ m₅ => ?_
      have W₅ := W₄.ext e₅
      have B₅ := B.ext W₅.keep
      have hm₅ : h₅.PlainList am mvs.toArray := W₅.get (b := .list mvs) (by simp)
      refine X.of (tArgs0 (X.of (tLenOrds p₅ o₅ (by omega) fun t₆ => X.of (tCall (B₅.blt B.N.nlen B.N.len (tCallBlt (tArgs (tLoc W₅.fr.ns hma (tArgs0 (tLenOrds hm₅ oB (by omega) fun t₇ => tNeInt (tTruthyBool ?_)))))))))))
      rw [turn_tab i hi24, turn_tab j hj24] at gturn
      refine ifF (by rw [gturn]; simp) (xDone ?_)
      clear W₄ W₃ W₂ B₃ B₂
      show X _ _ (execs _ _) _ _
      refine X.of (tThen (tReturn (tCmp (tBinOp (tCall (B₅.blt B.N.nlen B.N.len (tCallBlt (tArgs (tComp (fun v => evenL (idxOf v)) (fun v y => y = v) rfl (by decide) rfl (by decide) rfl (tLoc W₅.fr.ns hma (tIterList hm₅.isList ?_)))))))))))
      have kept : ∀ {hX : Heap}, (∀ b o, b ∉ [h₅.objs.size] → (h₅.push { cls := .type "list_iterator", data := .fields #[.ref am, .int 0 0] }).get? b = some o → hX.get? b = some o) → Ext h₅ hX := fun hkp b o e =>
        hkp b o (fun m => Nat.ne_of_lt (Heap.lt_size e) (List.mem_singleton.mp m)) (Heap.get?_push_of_some _ e)
      refine ⟨_, _, _, _, rfl, src_list room.deeper.handled hm₅.isList, small_line (by omega), fun C q v hX mX hC hP hns hm hkp => tests_one ?_, fun C q v hX mX hC hP hpv hns hm hkp => tLoc hns hm ⟨rfl, Ext.refl _⟩, fun D hX ys vsX hD hpl hlX hP hF hkp => ?_⟩
      · have eX := kept hkp
        have BX := B₅.ext eX
        obtain ⟨o, ho, ho24, tv, rfl⟩ := oB.get' hP
        rw [show idxOf (bv o tv) = o from Ord1.idx ⟨ho24, tv, rfl⟩]
        exact tIsVal (tCall (BX.glo B.N.even (tCallDef rfl (tArgs (tLoc hns hm (tArgs0 ⟨BX.K 70 _ rfl, even_ok BX (room.deeper.le (by decide)) ho24 fun h' e' => tTruthyBool ⟨rfl, e'⟩⟩))))))
      have eX := kept hkp
      have hvs : mvs = vsX := (same_list hlX hP).symm
      subst hvs
      have hys := paired_eq hF
      have hylen : ys.length = (made.filter evenT).length := by rw [hys]; exact even_len oB
      have hfl : (made.filter evenT).length ≤ made.length := List.length_filter_le _ _
      have W₆ := W₅.ext eX
      have B₆ := B.ext W₆.keep
      have hm₆ : hX.PlainList am mvs.toArray := W₆.get (b := .list mvs) (by simp)
      refine tArgs0 (tLenList hpl.isList (small_len (by simp; omega)) fun t₈ => tInt fun t₉ => tMulI ?_ fun tA => ?_)
      · exact IntMulOk.of_right (by decide +kernel)
      refine tList (tArgs (tCall (B₆.blt B.N.nlen B.N.len (tCallBlt (tArgs (tLoc W₆.fr.ns hma (tArgs0 (tLenOrds hm₆ oB (by omega) fun tB => tArgs (tBinOp (tInt fun tC => tCall (B₆.blt B.N.nlen B.N.len (tCallBlt (tArgs (tLoc W₆.fr.ns hma (tArgs0 (tLenOrds hm₆ oB (by omega) fun tD => tMulI ?_ fun tE => tArgs0 ⟨small_line (by simp), ?_⟩))))))))))))))))
      · exact IntMulOk.of_left (by decide +kernel)
      refine tInInts (Heap.PlainList.isList ⟨0, Heap.get?_push_size _ rfl⟩) (.cons _ _ (.cons _ _ .nil)) ?_
      have ge : ([(made.length : Int), 2 * (made.length : Int)].any fun k => k == ((ys.toArray.size : Int) * 2)) = true := by
        simp only [List.size_toArray, hylen]
        exact geven
      rw [ge]
      exact hr _ (Ext.trans W₆.keep (Ext.push _ _))
end
end Mine

namespace Mine

/-! ### sets of orders as bits -/
def toL (m : Nat) : List Nat := (List.range 24).filter fun b => m.testBit b
theorem toL_mem {m b : Nat} : b ∈ toL m ↔ b < 24 ∧ m.testBit b = true := by simp [toL]
theorem toL_lt (m : Nat) : (toL m).Pairwise (· < ·) := List.Pairwise.filter _ List.pairwise_lt_range
theorem toL_len (m : Nat) : (toL m).length ≤ 24 := Nat.le_trans (List.length_filter_le _ _) (by simp)
theorem lt_nodup {l : List Nat} (h : l.Pairwise (· < ·)) : l.Nodup := h.imp (fun h => Nat.ne_of_lt h)
theorem lt_le {l : List Nat} (h : l.Pairwise (· < ·)) : l.Pairwise (· ≤ ·) := h.imp (fun h => Nat.le_of_lt h)
theorem eq_of_mem {a b : List Nat} (ha : a.Pairwise (· < ·)) (hb : b.Pairwise (· < ·)) (h : ∀ x, x ∈ a ↔ x ∈ b) : a = b :=
  same_sorted ((List.perm_ext_iff_of_nodup (lt_nodup ha) (lt_nodup hb)).mpr h) (lt_le ha) (lt_le hb)

theorem bisGo_spec (is : List Nat) (x : Nat) : ∀ f lo hi, lo ≤ hi → hi ≤ is.length → hi - lo ≤ f → (∀ k, k < lo → is.getD k 0 < x) → (∀ k, hi ≤ k → k < is.length → x ≤ is.getD k 0) →
    (∀ a b, a < b → b < is.length → is.getD a 0 < is.getD b 0) →
    (∀ k, k < bisGo is x f lo hi → is.getD k 0 < x) ∧ (∀ k, bisGo is x f lo hi ≤ k → k < is.length → x ≤ is.getD k 0)
  | 0, lo, hi, h1, h2, h3, h4, h5, h6 => by
    have : lo = hi := by omega
    subst this
    exact ⟨h4, h5⟩
  | f + 1, lo, hi, h1, h2, h3, h4, h5, h6 => by
    rw [bisGo]
    split
    · rename_i hlt
      split
      · rename_i hx
        refine bisGo_spec is x f _ hi (by omega) h2 (by omega) (fun k hk => ?_) h5 h6
        rcases Nat.lt_or_ge k ((lo + hi) / 2) with q | q
        · exact Nat.lt_trans (h6 k _ q (by omega)) hx
        · obtain rfl : k = (lo + hi) / 2 := by omega
          exact hx
      · rename_i hx
        refine bisGo_spec is x f lo _ (by omega) (by omega) (by omega) h4 (fun k hk hkl => ?_) h6
        rcases Nat.lt_or_ge ((lo + hi) / 2) k with q | q
        · exact Nat.le_of_lt (Nat.lt_of_le_of_lt (Nat.not_lt.mp hx) (h6 _ k q hkl))
        · obtain rfl : k = (lo + hi) / 2 := by omega
          exact Nat.not_lt.mp hx
    · have : lo = hi := by omega
      subst this
      exact ⟨h4, h5⟩
theorem getD_lt {is : List Nat} (h : is.Pairwise (· < ·)) : ∀ a b, a < b → b < is.length → is.getD a 0 < is.getD b 0 := fun a b hab hb => by
  have ha : a < is.length := Nat.lt_trans hab hb
  simp only [List.getD_eq_getElem?_getD, List.getElem?_eq_getElem ha, List.getElem?_eq_getElem hb, Option.getD_some]
  exact List.pairwise_iff_getElem.mp h a b ha hb hab
theorem bis_spec {is : List Nat} (h : is.Pairwise (· < ·)) (x : Nat) : (∀ k, k < bis is x → is.getD k 0 < x) ∧ (∀ k, bis is x ≤ k → k < is.length → x ≤ is.getD k 0) :=
  bisGo_spec is x _ _ _ (Nat.zero_le _) (Nat.le_refl _) (by omega) (fun k hk => absurd hk (Nat.not_lt_zero _)) (fun k h1 h2 => by omega) (getD_lt h)
theorem hasL_mem {is : List Nat} (h : is.Pairwise (· < ·)) (x : Nat) : hasL is x = decide (x ∈ is) := by
  obtain ⟨s1, s2⟩ := bis_spec h x
  unfold hasL
  by_cases hx : x ∈ is
  · rw [decide_eq_true hx]
    obtain ⟨k, hk, e⟩ := List.mem_iff_getElem.mp hx
    have ek : is.getD k 0 = x := by simp [List.getD_eq_getElem?_getD, List.getElem?_eq_getElem hk, e]
    have hbk : bis is x ≤ k := by
      rcases Nat.lt_or_ge k (bis is x) with q | q
      · have := s1 k q; omega
      · exact q
    have hb : bis is x < is.length := by omega
    have e1 : is.getD (bis is x) 24 = is.getD (bis is x) 0 := by simp [List.getD_eq_getElem?_getD, List.getElem?_eq_getElem hb]
    have : is.getD (bis is x) 0 = x := by
      rcases Nat.lt_or_ge (bis is x) k with q | q
      · have := getD_lt h _ _ q hk
        have := s2 _ (Nat.le_refl _) hb
        omega
      · obtain rfl : k = bis is x := by omega
        exact ek
    rw [e1, this]
    simp [hb]
  · rw [decide_eq_false hx]
    by_cases hb : bis is x < is.length
    · have : is.getD (bis is x) 24 ≠ x := fun e => hx (by
        have e1 : is.getD (bis is x) 24 = is[bis is x] := by simp [List.getD_eq_getElem?_getD, List.getElem?_eq_getElem hb]
        rw [← e, e1]
        exact List.getElem_mem hb)
      rw [beq_eq_false_iff_ne.mpr this, Bool.and_false]
    · simp [hb]
theorem insL_lt {is : List Nat} (h : is.Pairwise (· < ·)) {x : Nat} (hx : x ∉ is) : (insL is x).Pairwise (· < ·) := by
  obtain ⟨s1, s2⟩ := bis_spec h x
  unfold insL
  refine List.pairwise_append.mpr ⟨h.sublist (List.take_sublist _ _), List.pairwise_cons.mpr ⟨fun y hy => ?_, h.sublist (List.drop_sublist _ _)⟩, fun a ha b hb => ?_⟩
  · obtain ⟨k, hk, e⟩ := List.mem_iff_getElem.mp hy
    have hk' : bis is x + k < is.length := by simp at hk; omega
    have e' : is[bis is x + k] = y := by rw [← e, List.getElem_drop]
    have := s2 (bis is x + k) (Nat.le_add_right _ _) hk'
    rw [List.getD_eq_getElem?_getD, List.getElem?_eq_getElem hk', Option.getD_some, e'] at this
    rcases Nat.lt_or_ge x y with q | q
    · exact q
    · exact absurd (e' ▸ List.getElem_mem hk' : y ∈ is) (by rw [show y = x by omega]; exact hx)
  · obtain ⟨k, hk, e⟩ := List.mem_iff_getElem.mp ha
    have hk2 : k < is.length := by simp at hk; omega
    have hk3 : k < bis is x := by simp at hk; omega
    have hax : a < x := by
      have := s1 k hk3
      rw [List.getD_eq_getElem?_getD, List.getElem?_eq_getElem hk2, Option.getD_some] at this
      rw [← e, List.getElem_take]
      exact this
    rcases List.mem_cons.mp hb with rfl | hb
    · exact hax
    · obtain ⟨q, hq, e2⟩ := List.mem_iff_getElem.mp hb
      have hq' : bis is x + q < is.length := by simp at hq; omega
      have := s2 (bis is x + q) (Nat.le_add_right _ _) hq'
      rw [List.getD_eq_getElem?_getD, List.getElem?_eq_getElem hq', Option.getD_some] at this
      rw [← e2, List.getElem_drop]
      omega
theorem insL_mem {is : List Nat} {x y : Nat} : y ∈ insL is x ↔ y ∈ is ∨ y = x := by
  unfold insL
  rw [List.mem_append, List.mem_cons]
  have := List.take_append_drop (bis is x) is
  constructor
  · rintro (h | h | h)
    · exact .inl (List.mem_of_mem_take h)
    · exact .inr h
    · exact .inl (List.mem_of_mem_drop h)
  · rintro (h | h)
    · rw [← this] at h
      rcases List.mem_append.mp h with h | h
      · exact .inl h
      · exact .inr (.inr h)
    · exact .inr (.inl h)
theorem toL_has {m x : Nat} (hx : x < 24) : hasL (toL m) x = m.testBit x := by
  rw [hasL_mem (toL_lt m)]
  cases h : m.testBit x with
  | true => exact decide_eq_true (toL_mem.mpr ⟨hx, h⟩)
  | false => exact decide_eq_false fun q => by rw [(toL_mem.mp q).2] at h; cases h
theorem toL_ins {m x : Nat} (hx : x < 24) (h : m.testBit x = false) : insL (toL m) x = toL (m ||| 2 ^ x) := by
  refine eq_of_mem (insL_lt (toL_lt m) fun q => by rw [(toL_mem.mp q).2] at h; cases h) (toL_lt _) fun y => ?_
  rw [insL_mem, toL_mem, toL_mem, Nat.testBit_or, Nat.testBit_two_pow]
  constructor
  · rintro (⟨h1, h2⟩ | rfl)
    · exact ⟨h1, by simp [h2]⟩
    · exact ⟨hx, by simp⟩
  · rintro ⟨h1, h2⟩
    rcases Bool.or_eq_true_iff.mp h2 with q | q
    · exact .inl ⟨h1, q⟩
    · exact .inr (of_decide_eq_true q).symm

def stepF (st : Nat × List Nat) (one mk : Nat) : Nat × List Nat := if st.1.testBit (mul one mk) then st else (st.1 ||| 2 ^ mul one mk, st.2 ++ [mul one mk])
def stepOneF (mks : List Nat) (st : Nat × List Nat) (one : Nat) : Nat × List Nat := mks.foldl (fun st mk => stepF st one mk) st
def madeGoF (mks : List Nat) : Nat → Nat × List Nat → Nat → Nat
  | 0, st, _ => st.1
  | f + 1, st, k => match st.2[k]? with
    | none => st.1
    | some one => madeGoF mks f (stepOneF mks st one) (k + 1)
def madeF (mks : List Nat) : Nat := madeGoF mks 40 (1, [0]) 0
def lay (st : Nat × List Nat) : List Nat × List Nat := (toL st.1, st.2)
theorem stepMk_lay {st : Nat × List Nat} {one mk : Nat} (h1 : one < 24) (h2 : mk < 24) : stepMk (lay st) one mk = lay (stepF st one mk) := by
  have hm := mul_lt one h1 mk h2
  unfold stepMk stepF
  have hl : (lay st).1.length < 30 := Nat.lt_of_le_of_lt (toL_len st.1) (by decide)
  have hh : hasL (lay st).1 (mul one mk) = st.1.testBit (mul one mk) := toL_has hm
  rw [hh]
  cases h : st.1.testBit (mul one mk) with
  | true => simp
  | false =>
    rw [if_pos (by simp [hl])]
    simp only [Bool.false_eq_true, if_false, lay]
    rw [toL_ins hm h]
theorem stepF_lt {st : Nat × List Nat} {one mk : Nat} (h1 : one < 24) (h2 : mk < 24) (h : ∀ x ∈ st.2, x < 24) : ∀ x ∈ (stepF st one mk).2, x < 24 := by
  unfold stepF
  split
  · exact h
  · intro x hx
    rcases List.mem_append.mp hx with q | q
    · exact h x q
    · rw [List.mem_singleton.mp q]; exact mul_lt one h1 mk h2
theorem stepOne_lay {one : Nat} (h1 : one < 24) : ∀ (mks : List Nat), (∀ m ∈ mks, m < 24) → ∀ st : Nat × List Nat, (∀ x ∈ st.2, x < 24) → stepOne mks (lay st) one = lay (stepOneF mks st one) ∧ ∀ x ∈ (stepOneF mks st one).2, x < 24
  | [], _, st, hs => ⟨rfl, hs⟩
  | m :: mks, hm, st, hs => by
    have := stepOne_lay h1 mks (fun x hx => hm x (List.mem_cons_of_mem _ hx)) (stepF st one m) (stepF_lt h1 (hm m (List.mem_cons_self ..)) hs)
    unfold stepOne stepOneF at this ⊢
    rw [List.foldl_cons, List.foldl_cons, stepMk_lay h1 (hm m (List.mem_cons_self ..))]
    exact this
theorem madeGo_lay {mks : List Nat} (hm : ∀ m ∈ mks, m < 24) : ∀ (f : Nat) (st : Nat × List Nat) (k : Nat), (∀ x ∈ st.2, x < 24) → madeGo mks f (lay st) k = toL (madeGoF mks f st k)
  | 0, st, k, _ => rfl
  | f + 1, st, k, hs => by
    unfold madeGo madeGoF
    show (match st.2[k]? with | none => toL st.1 | some one => madeGo mks f (stepOne mks (lay st) one) (k + 1)) = _
    cases h : st.2[k]? with
    | none => rfl
    | some one =>
      have ho := hs one (List.mem_of_getElem? h)
      obtain ⟨e1, e2⟩ := stepOne_lay ho mks hm st hs
      dsimp only
      rw [e1]
      exact madeGo_lay hm f _ (k + 1) e2
theorem madeL_eq {mks : List Nat} (hm : ∀ m ∈ mks, m < 24) : madeL mks = toL (madeF mks) := by
  have : madeL mks = madeGo mks 40 (lay (1, [0])) 0 := by unfold madeL lay; rw [show toL 1 = [0] by decide +kernel]
  rw [this]
  exact madeGo_lay hm 40 (1, [0]) 0 (by simp)

/-! ### the lots as bits -/
def imgF (l : List Nat) (f : Nat) : Nat := l.foldl (fun m o => m ||| 2 ^ mul o f) 0
theorem imgF_bit (f b : Nat) : ∀ (l : List Nat) (m : Nat), (l.foldl (fun m o => m ||| 2 ^ mul o f) m).testBit b = (m.testBit b || l.any fun o => mul o f == b)
  | [], m => by simp
  | o :: l, m => by
    rw [List.foldl_cons, imgF_bit f b l, Nat.testBit_or, Nat.testBit_two_pow, List.any_cons, Bool.or_assoc]
    rfl
theorem mul_inj : ∀ f < 24, ∀ a < 24, ∀ b < 24, mul a f = mul b f → a = b := by decide +kernel
theorem lot_pair {l : List Nat} {f : Nat} (hf : f < 24) (hl : l.Nodup) (h24 : ∀ o ∈ l, o < 24) : (lotOf l f).Pairwise (· < ·) := by
  have hn : (l.map fun o => mul o f).Nodup := by
    refine List.pairwise_map.mpr (List.Pairwise.imp_of_mem (fun {a b} ha hb hne e => hne ?_) hl)
    exact mul_inj f hf a (h24 a ha) b (h24 b hb) e
  have hs : (lotOf l f).Nodup := (sortL_perm _).nodup_iff.mpr hn
  exact List.Pairwise.imp₂ (fun a b hab hne => Nat.lt_of_le_of_ne hab hne) (sortL_pair _) hs
theorem lot_eq {l : List Nat} {f : Nat} (hf : f < 24) (hl : l.Nodup) (h24 : ∀ o ∈ l, o < 24) : lotOf l f = toL (imgF l f) := by
  refine eq_of_mem (lot_pair hf hl h24) (toL_lt _) fun x => ?_
  unfold lotOf
  rw [(sortL_perm _).mem_iff, toL_mem, imgF, imgF_bit]
  simp only [List.mem_map, Nat.zero_testBit, Bool.false_or, List.any_eq_true, beq_iff_eq]
  constructor
  · rintro ⟨o, ho, rfl⟩
    exact ⟨mul_lt o (h24 o ho) f hf, o, ho, rfl⟩
  · rintro ⟨_, o, ho, e⟩
    exact ⟨o, ho, e⟩
theorem dist_nodup : ∀ (l acc : List Nat), (acc ++ l).Nodup → dist acc l = acc ++ l
  | [], acc, _ => by simp [dist]
  | i :: r, acc, h => by
    have hi : acc.contains i = false := by
      rw [List.contains_eq_mem, decide_eq_false_iff_not]
      intro q
      have := (List.nodup_append.mp h).2.2 i q i (List.mem_cons_self ..)
      exact this rfl
    rw [dist, hi]
    simp only [Bool.false_eq_true, if_false]
    have e : acc ++ i :: r = (acc ++ [i]) ++ r := by simp
    rw [e] at h ⊢
    exact dist_nodup r (acc ++ [i]) h
theorem clash_bits {K L : Nat} (h : K = L ∨ K &&& L = 0) : clash (toL K) (toL L) = false := by
  unfold clash
  rcases h with rfl | h
  · simp
  · rw [Bool.and_eq_false_iff]
    right
    rw [List.any_eq_false]
    intro o ho
    rw [Bool.not_eq_true, List.any_eq_false]
    intro k hk e
    have e := eq_of_beq e
    subst e
    have := (congrArg (fun n => n.testBit k) h)
    rw [Nat.testBit_and, (toL_mem.mp hk).2, (toL_mem.mp ho).2] at this
    simp at this

def lotsF : List Nat → List Nat → Bool
  | _, [] => true
  | ks, k :: r => (ks.all fun q => (q == k) || ((q &&& k) == 0)) && lotsF (ks ++ [k]) r
theorem lots_of {n : Nat} : ∀ (ms ks : List Nat), lotsF ks ms = true → (∀ m ∈ ms, (toL m).length = n) → lotsGood n (ks.map toL) (ms.map toL) = true
  | [], ks, _, _ => rfl
  | m :: ms, ks, h, hn => by
    rw [lotsF, Bool.and_eq_true] at h
    rw [List.map_cons, lotsGood, Bool.and_eq_true, Bool.and_eq_true]
    refine ⟨⟨?_, ?_⟩, ?_⟩
    · have : dist [] (toL m) = toL m := by
        have := dist_nodup (toL m) [] (by simpa using lt_nodup (toL_lt m))
        simpa using this
      rw [this]
      exact decide_eq_true (hn m (List.mem_cons_self ..))
    · rw [Bool.not_eq_true', List.any_eq_false]
      intro l hl
      obtain ⟨q, hq, rfl⟩ := List.mem_map.mp hl
      have := List.all_eq_true.mp h.1 q hq
      rw [clash_bits]
      · simp
      · rcases Bool.or_eq_true_iff.mp this with e | e
        · exact .inl (eq_of_beq e)
        · exact .inr (eq_of_beq e)
    · have := lots_of ms (ks ++ [m]) h.2 fun x hx => hn x (List.mem_cons_of_mem _ hx)
      simpa using this
def goodF (i j : Nat) : Bool :=
  let M := madeF [i, j]
  let l := toL M
  let n := l.length
  decide (0 < n) && decide (24 % n = 0) && (l.all fun o => M.testBit (invT o) && decide (n % turnsOf o = 0) && M.testBit (mul o (l.getD (n - 1) 0))) &&
    lotsF [] ((firsts i j).map (imgF l)) && decide ((toL (madeF [turnT i, turnT j])).length = n) && ([(n : Int), 2 * (n : Int)].any fun k => k == (((l.filter evenT).length : Int) * 2))
theorem pair_lt {a b : Nat} (ha : a < 24) (hb : b < 24) : ∀ m ∈ [a, b], m < 24 := fun m hm => by
  rcases List.mem_cons.mp hm with rfl | hm
  · exact ha
  · rw [List.mem_singleton.mp hm]; exact hb
theorem good_of {i j : Nat} (hi : i < 24) (hj : j < 24) (h : goodF i j = true) : goodB i j = true := by
  have hti : turnT i < 24 := by rw [turn_tab i hi]; exact (turn_PL i hi).1
  have htj : turnT j < 24 := by rw [turn_tab j hj]; exact (turn_PL j hj).1
  unfold goodF at h
  unfold goodB
  rw [madeL_eq (pair_lt hi hj), madeL_eq (pair_lt hti htj)]
  simp only [Bool.and_eq_true] at h ⊢
  obtain ⟨⟨⟨⟨⟨h1, h2⟩, h3⟩, h4⟩, h5⟩, h6⟩ := h
  generalize madeF [i, j] = M at *
  have hn := lt_nodup (toL_lt M)
  have h24 : ∀ o ∈ toL M, o < 24 := fun o ho => (toL_mem.mp ho).1
  have hpos : 0 < (toL M).length := of_decide_eq_true h1
  have hlast : (toL M).getD ((toL M).length - 1) 0 < 24 := by
    have : (toL M).length - 1 < (toL M).length := by omega
    rw [List.getD_eq_getElem?_getD, List.getElem?_eq_getElem this, Option.getD_some]
    exact h24 _ (List.getElem_mem this)
  refine ⟨⟨⟨⟨⟨⟨h1, h2⟩, ?_⟩, ?_⟩, ?_⟩, h5⟩, h6⟩
  · exact beq_iff_eq.mpr (same_sorted (sortL_perm _).symm (lt_le (toL_lt M)) (sortL_pair _))
  · refine List.all_eq_true.mpr fun o ho => ?_
    have := List.all_eq_true.mp h3 o ho
    simp only [Bool.and_eq_true] at this ⊢
    have ho24 := h24 o ho
    refine ⟨⟨?_, this.1.2⟩, ?_⟩
    · rw [toL_has (by rw [inv_tab o ho24]; exact (inv_PL o ho24).1)]
      exact this.1.1
    · rw [toL_has (mul_lt o ho24 _ hlast)]
      exact this.2
  · have e : (firsts i j).map (lotOf (toL M)) = ((firsts i j).map (imgF (toL M))).map toL := by
      rw [List.map_map]
      refine List.map_congr_left fun f hf => ?_
      have hf24 : f < 24 := by
        simp only [firsts, List.mem_cons, List.not_mem_nil, or_false] at hf
        rcases hf with rfl | rfl | rfl | rfl | rfl
        · exact hi
        · exact hj
        all_goals decide
      exact lot_eq hf24 hn h24
    rw [e]
    refine lots_of _ [] h4 fun m hm => ?_
    obtain ⟨f, hf, rfl⟩ := List.mem_map.mp hm
    have hf24 : f < 24 := by
      simp only [firsts, List.mem_cons, List.not_mem_nil, or_false] at hf
      rcases hf with rfl | rfl | rfl | rfl | rfl
      · exact hi
      · exact hj
      all_goals decide
    rw [← lot_eq hf24 hn h24]
    unfold lotOf
    rw [(sortL_perm _).length_eq, List.length_map]
theorem good_a : ∀ j < 24, goodF 0 j = true := by decide +kernel
theorem good_b : ∀ j < 24, goodF 1 j = true := by decide +kernel
theorem good_c : ∀ j < 24, goodF 2 j = true := by decide +kernel
theorem good_d : ∀ j < 24, goodF 3 j = true := by decide +kernel
theorem good_e : ∀ j < 24, goodF 4 j = true := by decide +kernel
theorem good_f : ∀ j < 24, goodF 5 j = true := by decide +kernel
theorem good_g : ∀ j < 24, goodF 6 j = true := by decide +kernel
theorem good_h : ∀ j < 24, goodF 7 j = true := by decide +kernel
theorem good_i : ∀ j < 24, goodF 8 j = true := by decide +kernel
theorem good_j : ∀ j < 24, goodF 9 j = true := by decide +kernel
theorem good_k : ∀ j < 24, goodF 10 j = true := by decide +kernel
theorem good_l : ∀ j < 24, goodF 11 j = true := by decide +kernel
theorem good_m : ∀ j < 24, goodF 12 j = true := by decide +kernel
theorem good_n : ∀ j < 24, goodF 13 j = true := by decide +kernel
theorem good_o : ∀ j < 24, goodF 14 j = true := by decide +kernel
theorem good_p : ∀ j < 24, goodF 15 j = true := by decide +kernel
theorem good_q : ∀ j < 24, goodF 16 j = true := by decide +kernel
theorem good_r : ∀ j < 24, goodF 17 j = true := by decide +kernel
theorem good_s : ∀ j < 24, goodF 18 j = true := by decide +kernel
theorem good_t : ∀ j < 24, goodF 19 j = true := by decide +kernel
theorem good_u : ∀ j < 24, goodF 20 j = true := by decide +kernel
theorem good_v : ∀ j < 24, goodF 21 j = true := by decide +kernel
theorem good_w : ∀ j < 24, goodF 22 j = true := by decide +kernel
theorem good_x : ∀ j < 24, goodF 23 j = true := by decide +kernel
theorem good_all : ∀ i < 24, ∀ j < 24, goodB i j = true
  | 0, h => fun j hj => good_of h hj (good_a j hj)
  | 1, h => fun j hj => good_of h hj (good_b j hj)
  | 2, h => fun j hj => good_of h hj (good_c j hj)
  | 3, h => fun j hj => good_of h hj (good_d j hj)
  | 4, h => fun j hj => good_of h hj (good_e j hj)
  | 5, h => fun j hj => good_of h hj (good_f j hj)
  | 6, h => fun j hj => good_of h hj (good_g j hj)
  | 7, h => fun j hj => good_of h hj (good_h j hj)
  | 8, h => fun j hj => good_of h hj (good_i j hj)
  | 9, h => fun j hj => good_of h hj (good_j j hj)
  | 10, h => fun j hj => good_of h hj (good_k j hj)
  | 11, h => fun j hj => good_of h hj (good_l j hj)
  | 12, h => fun j hj => good_of h hj (good_m j hj)
  | 13, h => fun j hj => good_of h hj (good_n j hj)
  | 14, h => fun j hj => good_of h hj (good_o j hj)
  | 15, h => fun j hj => good_of h hj (good_p j hj)
  | 16, h => fun j hj => good_of h hj (good_q j hj)
  | 17, h => fun j hj => good_of h hj (good_r j hj)
  | 18, h => fun j hj => good_of h hj (good_s j hj)
  | 19, h => fun j hj => good_of h hj (good_t j hj)
  | 20, h => fun j hj => good_of h hj (good_u j hj)
  | 21, h => fun j hj => good_of h hj (good_v j hj)
  | 22, h => fun j hj => good_of h hj (good_w j hj)
  | 23, h => fun j hj => good_of h hj (good_x j hj)
  | n + 24, h => absurd h (by omega)
end Mine

namespace Mine
theorem caller_room : Room callerA 5 := ⟨rfl, by decide, by decide⟩
set_option maxHeartbeats 4000000 in
theorem fin : PySem.Challenge.rw_ie0005_01.Holds := by
  refine hd ?_
  intro w s₀ s₁ mg mb G Y fa o pm cd doc dV kV ho hdd hcd hD hmg hg args vals as hpre hlay hrd hwl hlo
  have KX := kIn_of Y
  have Tr := topRead_of G.T
  have B : Base w mg mb s₁.heap := Base.of KX Tr
  have hfa : mg "law" = some (.ref 80) := mg_of KX Tr.g (by kernel_rfl)
  obtain rfl : fa = 80 := by
    have e : some (Value.ref fa) = some (Value.ref 80) := hmg.symm.trans hfa
    cases e
    rfl
  clear ho hdd hcd hD hmg Y G
  wrow_args hpre hlay hrd hwl hlo
  rename_i ns hs0 hlay0 hL1 hr1 hl2 wA wB la vs as' hL ra w1 r0 hI hr hcond1 hcond2
  have hlen := hI.length
  refine law_ok (prog := PySem.Challenge.rw_ie0005_01.row.prog) B caller_room hL hI (small_line (by omega)) good_all (R := fun v h' => v = .bool true ∧ Ext s₁.heap h') (fun h' e => ⟨rfl, e⟩) _ _ _ rfl fun v h' k r => ?_
  obtain ⟨rfl, e⟩ := r
  refine ⟨.inl ⟨.bool true, .bool true, [], rfl, ?_, .bool _, ?_, ?_⟩, .of_keep e, rfl, .of_eq hg⟩
  · intro cls; rfl
  · first
      | kernel_rfl
      | (show (WShape.has [] (WData.bool true) .bool && WTm.holds [] (.eq .res (.lit (.bool true))) _) = true
         simp [WShape.has, WTm.holds, WTm.value])
  · intro _; exact ⟨List.nodup_nil, fun a ha => by cases ha⟩
end Mine

theorem PySem.Challenge.cw_ie0005_01_holds : PySem.Challenge.rw_ie0005_01.Holds := by
  exact Mine.fin
