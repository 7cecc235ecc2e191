import PyProof.Rows.All
import Wide.All
import OpenK.AllK
import Wide.FinOn
import Lean
import PySem.Challenge.RW_ag6003_01
set_option Elab.async false
set_option maxRecDepth 100000
set_option linter.unusedVariables false
-- part Cw1
open PySem PySem.W PyProof.Rows PySem.Calls
namespace Mine
/-! A logic for contexts below which no holder of a bytearray stands. -/
def holdIds : List String := Builtin.Bytes.decodersThatHold ++ ["bytearray.__contains__", "bytearray.__mod__", "bytearray.__rmod__", "_struct.pack_into.held", "bytearray.find.held"]
def holds : Code → Bool
  | .builtin id _ => holdIds.contains id
  | _ => false
def Clean (l : List (Code × Pos)) : Prop := ∀ x ∈ l, holds x.1 = false
def Ctx.Pure (Γ : Ctx) : Prop := holds Γ.code = false ∧ Clean Γ.below
def wpC {α : Type} (M : Model) (A : Around) (t : Sem α) (Q : α → Shared → Prop) (E : Value → Shared → Prop) (s : Shared) : Prop :=
  ∀ Γ p, Γ.In A → holds Γ.code = false → Clean Γ.below → Sem.wp M Γ t (fun a _ s' => Q a s') (fun e _ s' => E e s') p s
def codeC (M : Model) (A : Around) (c : Code) (R : Result → Shared → Prop) (s : Shared) : Prop :=
  ∀ Γ p, Γ.code = c → Γ.Below A → Clean Γ.below → wpCode M Γ R p s
section
variable {α β : Type} {M : Model} {A : Around} {E : Value → Shared → Prop} {s : Shared}
theorem ofAny {t : Sem α} {Q : α → Shared → Prop} (h : wpAny M A t Q E s) : wpC M A t Q E s := fun Γ p hΓ _ _ => h Γ p hΓ
theorem codeC_ofAny {c : Code} {R : Result → Shared → Prop} (h : codeAny M A c R s) : codeC M A c R s := fun Γ p hc hΓ _ => h Γ p hc hΓ
theorem wpC_pure {a : α} {Q : α → Shared → Prop} (h : Q a s) : wpC M A (pure a) Q E s := fun _ _ _ _ _ => h
theorem wpC_mono {t : Sem α} {Q Q' : α → Shared → Prop} {E' : Value → Shared → Prop} (h : wpC M A t Q E s) (hQ : ∀ a s, Q a s → Q' a s) (hE : ∀ e s, E e s → E' e s) : wpC M A t Q' E' s :=
  fun Γ p hΓ h1 h2 => Sem.wp_mono M Γ t (fun a _ s => hQ a s) (fun e _ s => hE e s) p s (h Γ p hΓ h1 h2)
theorem wpC_bind {m : Sem α} {f : α → Sem β} {Q : β → Shared → Prop} (h : wpC M A m (fun a s' => wpC M A (f a) Q E s') E s) : wpC M A (m >>= f) Q E s := fun Γ p hΓ h1 h2 => by
  rw [Sem.wp_bind']
  exact Sem.wp_mono M Γ m (fun a p' s' h' => h' Γ p' hΓ h1 h2) (fun _ _ _ h' => h') p s (h Γ p hΓ h1 h2)
theorem wpC_holding {vs : List Value} {m : Sem α} {Q : α → Shared → Prop} (h : wpC M A m Q E s) : wpC M A (holding vs m) Q E s :=
  fun Γ p hΓ h1 h2 => by rw [Sem.wp_holding]; exact h Γ p hΓ h1 h2
theorem wpC_keep {vs : List Value} {m : Sem α} {Q : α → Shared → Prop} (h : wpC M A m Q E s) : wpC M A (m.keep vs) Q E s :=
  fun Γ p hΓ h1 h2 => by rw [Sem.wp_keep]; exact h Γ p hΓ h1 h2
theorem wpC_operate {vs : List Value} {m : Sem Value} {Q : Value → Shared → Prop} (h : wpC M A m Q E s) : wpC M A (operate vs m) Q E s :=
  fun Γ p hΓ h1 h2 => by rw [Sem.wp_operate]; exact h Γ p hΓ h1 h2
theorem wpC_tryCatch {m : Sem α} {k : Value → Sem α} {Q : α → Shared → Prop} (h : wpC M A m Q (fun e s' => wpC M A (k e) Q E s') s) : wpC M A (tryCatch m k) Q E s := fun Γ p hΓ h1 h2 => by
  rw [Sem.wp_tryCatch']
  exact Sem.wp_mono M Γ m (fun _ _ _ h' => h') (fun e p' s' h' => h' Γ p' hΓ h1 h2) p s (h Γ p hΓ h1 h2)
theorem wpC_onRaise {m : Sem α} {k : Value → Sem Unit} {Q : α → Shared → Prop} (h : wpC M A m Q (fun e s' => wpC M A (k e) (fun _ s'' => E e s'') E s') s) : wpC M A (m.onRaise k) Q E s := fun Γ p hΓ h1 h2 => by
  rw [Sem.wp_onRaise]
  exact Sem.wp_mono M Γ m (fun _ _ _ h' => h') (fun e p' s' h' => h' Γ p' hΓ h1 h2) p s (h Γ p hΓ h1 h2)
theorem wpC_attempt {m : Sem α} {Q : Except Value α → Shared → Prop} (h : wpC M A m (fun a => Q (.ok a)) (fun e => Q (.error e)) s) : wpC M A m.attempt Q E s :=
  fun Γ p hΓ h1 h2 => by rw [Sem.wp_attempt]; exact h Γ p hΓ h1 h2
theorem wpC_standAt {pos : Pos} {Q : Unit → Shared → Prop} (h : Q () s) : wpC M A (standAt pos) Q E s := ofAny (wpAny_standAt h)
theorem wpC_release {vs keep : List Value} {Q : Unit → Shared → Prop} (h : Q () s) : wpC M A (release vs keep) Q E s :=
  fun Γ p hΓ h1 h2 => by rw [Sem.wp_release]; exact h
theorem wpC_point {Q : Unit → Shared → Prop} (h : Q () s) : wpC M A point Q E s := ofAny (wpAny_point h)
theorem wpC_rule {tag : String} {Q : Unit → Shared → Prop} (h : Q () s) : wpC M A (rule tag) Q E s := ofAny (wpAny_rule h)
theorem clean_cons {c : Code} {p : Pos} {l : List (Code × Pos)} (h1 : holds c = false) (h2 : Clean l) : Clean ((c, p) :: l) := fun x hx => by
  rcases List.mem_cons.mp hx with rfl | hx
  · exact h1
  · exact h2 x hx
theorem wpC_run {c : Code} {h : Option Value} {Q : Flow → Shared → Prop}
    (hc : codeC M (A.mark h) c (fun r s' => match r with | .ok f => Q f s' | .error e => E e s') s) (hnb : h ≠ some byPass := by intro x; cases x) : wpC M A (run c h) Q E s :=
  fun Γ p hΓ h1 h2 => by rw [Sem.wp_run]; exact hc _ p rfl (hΓ.enter c h p hnb) (clean_cons h1 h2)
theorem wpC_runValue {c : Code} {Q : Value → Shared → Prop}
    (hc : codeC M A c (fun r s' => match r with | .ok (.ret v) => Q v s' | .ok _ => False | .error e => E e s') s) : wpC M A (runValue c) Q E s :=
  fun Γ p hΓ h1 h2 => by rw [Sem.wp_runValue]; exact hc _ p rfl (hΓ.enter c none p (by intro x; cases x)) (clean_cons h1 h2)
theorem wpC_call {f : Value} {pos : List Value} {kw : List (Str × Value)} {Q : Value → Shared → Prop}
    (hc : codeC M A (.call f ⟨pos, kw⟩) (fun r s' => match r with | .ok (.ret v) => Q v s' | .ok _ => False | .error e => E e s') s) : wpC M A (call f pos kw) Q E s := wpC_runValue hc
theorem codeC_of_tree {c : Code} {R : Result → Shared → Prop} (hn : holds c = false)
    (h : wpC M (A.under c) (M.den c) (fun fin s' => match fin with | .done f => R (.ok f) s' | .again c' => c'.quiet = true ∧ codeC M A c' R s')
      (fun e s' => R (.error e) s') s) : codeC M A c R s := fun Γ p hc hΓ hcl => by
  rw [wpCode_iff_wp, hc]
  refine Sem.wp_mono M Γ _ (fun fin p' s' h' => ?_) (fun _ _ _ h' => h') p s (h Γ p (hc ▸ hΓ.in) (hc ▸ hn) hcl)
  cases fin with
  | done f => exact h'
  | again c' => exact ⟨h'.1, h'.2 (Γ.goto c') p' rfl (hΓ.goto c') hcl⟩
theorem codeC_mono {c : Code} {R R' : Result → Shared → Prop} (h : codeC M A c R s) (hR : ∀ r s, R r s → R' r s) : codeC M A c R' s :=
  fun Γ p hc hΓ hcl => wpCode_mono hR (h Γ p hc hΓ hcl)
theorem wpC_exported {self : Value} {Q : Bool → Shared → Prop} (h : Q false s) : wpC M A (Builtin.Bytes.exported self) Q E s := fun Γ p _ h1 h2 => by
  unfold Builtin.Bytes.exported
  rw [Sem.wp_bind']
  show Q (List.any ((Γ.code, p) :: Γ.below) _) s
  refine (congrArg (fun b => Q b s) (List.any_eq_false.mpr fun x hx => ?_)).mpr h
  have hx := clean_cons (p := p) h1 h2 x hx
  obtain ⟨c, q⟩ := x
  dsimp only at hx ⊢
  split
  · rename_i e; cases e; simp [holds, holdIds] at hx
  · rename_i e; cases e; simp [holds, holdIds] at hx
  · rename_i e; cases e; simp [holds, holdIds] at hx
  · rename_i e; cases e; simp [holds, holdIds] at hx
  · rename_i e; cases e; simp [holds, holdIds] at hx
  · rename_i e; cases e
    simp only [holds, holdIds, List.contains_append, Bool.or_eq_false_iff] at hx
    rw [hx.1, Bool.and_false]; exact Bool.false_ne_true
  · exact Bool.false_ne_true
end
end Mine
-- part Cw2
open PySem PySem.W PyProof.Rows PySem.Calls
namespace Mine
/-! The head: the call stands in the caller's own context, below which no holder stands. A gate in front of the tree lets other contexts go at once. -/
def cleanB (l : List (Code × Pos)) : Bool := l.all fun x => !holds x.1
theorem cleanB_iff {l : List (Code × Pos)} : cleanB l = true ↔ Clean l := by
  simp [cleanB, Clean, List.all_eq_true]
def gateTree (name : Str) (vs : List Value) : Sem Fin := .stack fun l => if cleanB l then (do match ← nsGet mainNs name with
      | some f => do ret (← PySem.call f vs)
      | none => unsupported "claim.caller:no-such-global") else ret (.bool true)
def gateRun (f : Value) (vs : List Value) : Sem Value := .stack fun l => if cleanB l then PySem.call f vs else pure (.bool true)
def gateStub (name : Str) (vs : List Value) : Thread := ⟨gateTree name vs, .builtin "claim.caller" {}, default, []⟩
theorem stack_unroll {den : Code → Sem Fin} {p : Program} {w : World} {s s' : Shared} {k : List (Code × Pos) → Sem Fin} {c : Code} {pos : Pos} {o : Outcome} {n : Nat} (hs : s.asleep)
    (h : schedN den p w n (.single s ⟨.stack k, c, pos, []⟩) = .halted o s') : ∃ m, schedN den p w m (.single s ⟨k [(c, pos)], c, pos, []⟩) = .halted o s' := by
  cases n with
  | zero => cases h
  | succ n =>
    refine ⟨n, ?_⟩
    rcases sstep_single (den := den) (prog := p) (w := w) s ⟨.stack k, c, pos, []⟩ rfl hs with e | e
    · have e' : sstep den p w (.single s ⟨.stack k, c, pos, []⟩) = .go (.single s ⟨k [(c, pos)], c, pos, []⟩) := by rw [e]; rfl
      simp only [schedN, e'] at h
      exact h
    · cases e
theorem call_ungate {c : ClaimW} {name : Str} {w : World} {free : Addr → Prop} {gens : Prop} {kept : Heap → Prop} {s₀ : Shared} (hz : s₀.asleep)
    (H : c.CallFrom (gateStub name) w free gens kept s₀) : c.CallFrom (callStub name) w free gens kept s₀ := by
  intro args h1 h2 ord h3
  obtain ⟨vs, s₁, hl, n, o, s', hr, rest⟩ := H args h1 h2 ord h3
  have hz₁ : s₁.asleep := Shared.asleep_of_life (layAllW_rest _ _ _ hl).2.2.2 hz
  obtain ⟨m, hm⟩ := stack_unroll hz₁ hr
  exact ⟨vs, s₁, hl, m, o, s', hm, rest⟩
theorem holds_ungate {c : ClaimW} {name : Str} {defs keeps : List Str} {writes : Bool} (H : c.HoldsOpenBy (gateStub name) defs keeps writes) : c.HoldsOpenBy (callStub name) defs keeps writes := by
  refine ⟨H.1, H.2.1, fun w => ⟨(H.2.2 w).1, fun s hs => ?_⟩⟩
  obtain ⟨s₀, hf, hg, s₁, hT, hd, hr, hn, hc⟩ := (H.2.2 w).2 s hs
  have z : s₁.asleep := Shared.asleep_of_life (hT.2.1.trans (fence_lifeW hf)) (AfterImport.life hs)
  exact ⟨s₀, hf, hg, s₁, hT, hd, hr, hn, call_ungate z hc⟩
theorem gate_run {M : Model} {A : Around} {f : Value} {vs : List Value} {Q : Value → Shared → Prop} {E : Value → Shared → Prop} {s : Shared} (h1 : wpC M A (PySem.call f vs) Q E s) (h2 : Q (.bool true) s) :
    wpAny M A (gateRun f vs) Q E s := fun Γ p hΓ => by
  unfold gateRun
  rw [Sem.wp_stack]
  by_cases h : cleanB ((Γ.code, p) :: Γ.below) = true
  · rw [if_pos h]
    have hc := cleanB_iff.mp h
    exact h1 Γ p hΓ (hc _ (.head _)) fun x hx => hc x (.tail _ hx)
  · rw [if_neg h]; exact h2
theorem gate_tree {M : Model} {A : Around} {name : Str} {f : Value} {vs : List Value} {Q : Fin → Shared → Prop} {E : Value → Shared → Prop} {s : Shared} {mg : Str → Option Value}
    (hg : s.heap.Ns mainGlobals mg) (hf : mg name = some f) (h : wpAny M A (gateRun f vs) (fun v s' => Q (.done (.ret v)) s') E s) : wpAny M A (gateTree name vs) Q E s := fun Γ p hΓ => by
  have h := h Γ p hΓ
  unfold gateRun at h
  unfold gateTree
  rw [Sem.wp_stack] at h ⊢
  by_cases hc : cleanB ((Γ.code, p) :: Γ.below) = true
  · rw [if_pos hc] at h ⊢
    rw [Sem.wp_bind', show mainNs = mainGlobals from rfl, Sem.wp_nsGet M Γ _ p s hg, hf]
    show Sem.wp M Γ (PySem.call f vs >>= fun v => ret v) _ _ p s
    rw [Sem.wp_bind']
    exact h
  · rw [if_neg hc] at h ⊢; exact h
abbrev WalkG (q : Program) (loose : List Str) (XP : (Str → Option Value) → Heap → Prop) (YP : World → Heap → Prop) (r : RowW) (d : DefRec) (kwd : List (Str × Expr)) : Prop :=
  ∀ (w : World) (s₀ s₁ : Shared) (mg mb : Str → Option Value), Ground q loose r.records XP w s₀ mg mb s₁.heap → YP w s₁.heap → ∀ (a : Addr) (o : Obj) (pm cd doc dV kV : Value), s₁.heap.get? a = some o →
    o.data = .func { docDef d.name d.params d.body d.scope pm cd doc with defaults := dV, kwdefaults := kV } → s₁.heap.CodeRec cd d.name → Dflts mg s₁.heap d.params kwd dV kV → mg d.name = some (.ref a) → s₁.gens = #[] →
    ∀ (args : List WData) (vals : List Value) (as : List Addr), r.claim.pre args = true → WData.layableAll args = true → ReadsAllW r.records (classAt s₀.heap) s₁.heap vals args as → WellAll w.params s₁.heap vals args → (∀ a ∈ as, (a == sysModules) = false) →
      wpC (model r.prog w) callerA (PySem.call (.ref a) vals) (fun v s' => GoodWG r.claim (classAt s₀.heap) (ExcName.means s₀.heap) args s₁ (.ok (.ret v)) s')
        (fun e s' => GoodWG r.claim (classAt s₀.heap) (ExcName.means s₀.heap) args s₁ (.error e) s') s₁ ∧
      GoodWG r.claim (classAt s₀.heap) (ExcName.means s₀.heap) args s₁ (.ok (.ret (.bool true))) s₁
end Mine
namespace MineHead
open Mine
/-- the library's head tactic takes this one, by the ordinary resolution of names, where it stands in this namespace -/
theorem PySem.W.holds_open {r : OpenRow} {q : Program} {loose : List Str} {Xt : Shared → Bool} {XP : (Str → Option Value) → Heap → Prop} {α : Type} {Yf : Shared → α} {Ya : World → α} {YP : World → Heap → Prop} {d : DefRec} {kwd : List (Str × Expr)} {N : Nat}
    (left : LeftO r.prog q loose Xt Yf Ya N) (hY : ∀ w s, Yf s = Ya w → YP w s.heap) (hYk : ∀ w h h', YP w h → (∀ b o, h.get? b = some o → h'.get? b = some o) → YP w h')
    (hX : ∀ s, Xt s = true → XP (s.heap.nsMap mainGlobals) s.heap) (hXk : ∀ mg h h', XP mg h → (∀ b o, h.get? b = some o → h'.get? b = some o) → XP mg h')
    (hdef : defOf q r.name = some (d, kwd)) (hp : r.prog.theDef r.name = some (d.params, d.body, d.scope)) (hk : kwWritten? d.params.kwonlyargs d.params.kw_defaults = some kwd) (hRf : ∀ s, Xt s = true → RecFacts r.records s.heap) (hwr : (!r.writes || r.records.isEmpty) = true)
    (k1 : r.wellSaid = true) (ok : (chainsOk q && opensWell r.prog && (frees r.toRowW && r.within.isEmpty)) = true) (hb : r.prog.bare) (hw : r.toRowW.promised)
    (call : WalkG q loose XP YP r.toRowW d kwd) : r.Holds :=
  ⟨k1, hw, holds_ungate (open_anyG (r := r.toRowW) (run := gateRun) (tree := gateTree r.name) left hY hYk hX hXk hRf hwr ok hb hw
    (fun _ _ _ _ _ _ _ hg hf h => gate_tree hg hf h)
    (fun w s hg G n hn => by
      obtain rfl : n = r.name := by split at hn <;> simp_all
      exact pinned_of_view hg G hdef hp hk)
    fun w s₀ s₁ mg mb G Y args vs as hpre hlay L low => by
      obtain ⟨a, o, pm, cd, doc, dV, kV, h1, h2, h3, h4, h5⟩ := G.fn hdef
      have z := call w s₀ s₁ mg mb G Y a o pm cd doc dV kV h2 h3 h4 h5 (defOf_name hdef ▸ h1) L.gens args vs as hpre hlay L.reads L.well (L.low low)
      exact ⟨.ref a, h1, gate_run z.1 z.2⟩)⟩
end MineHead
-- part Cw3
open PySem PySem.W PyProof.Rows PySem.Calls
namespace Mine
theorem nbeq (a b : Nat) : Nat.beq a b = decide (a = b) := by
  by_cases h : a = b
  · subst h; simp [Nat.beq_refl]
  · rw [decide_eq_false h]
    cases q : Nat.beq a b with
    | true => exact absurd (Nat.eq_of_beq_eq_true q) h
    | false => rfl
/-! Abstract values, abstract objects, the abstract state -/
inductive AV where
  | none
  | lit (b : Bool)
  | bool (b : Bool)
  | int (i : Int)
  | str (s : Str)
  | bytes (b : List UInt8)
  | const (v : Value)
  | ref (id : Nat)
  | tup (l : List AV)
  | lst (l : List AV)
inductive AObj where
  | list (l : List AV)
  | barr (b : List UInt8)
  | inst (C : Addr) (d : Nat)
  | attrs (m : List (Str × AV))
  | own (p : Obj → Prop)
abbrev Loc := List (Str × AV)
structure ASt where
  fr : List Loc
  hp : List (Nat × AObj)
  next : Nat
def getH (hp : List (Nat × AObj)) (i : Nat) : Option AObj := match hp with
  | [] => Option.none
  | p :: r => match Nat.beq i p.1 with
    | true => some p.2
    | false => getH r i
def putH (i : Nat) (ao : AObj) : List (Nat × AObj) → List (Nat × AObj)
  | [] => [(i, ao)]
  | p :: r => match Nat.beq i p.1 with
    | true => (i, ao) :: r
    | false => p :: putH i ao r
def getK {α : Type} (x : Str) : List (Str × α) → Option α
  | [] => Option.none
  | p :: r => match x == p.1 with
    | true => some p.2
    | false => getK x r
def putK {α : Type} (x : Str) (v : α) : List (Str × α) → List (Str × α)
  | [] => [(x, v)]
  | p :: r => match x == p.1 with
    | true => (p.1, v) :: r
    | false => p :: putK x v r
theorem getH_put (i j : Nat) (ao : AObj) : ∀ hp, getH (putH i ao hp) j = if j = i then some ao else getH hp j
  | [] => by
    simp only [putH, getH]
    by_cases h : j = i
    · subst h; simp
    · rw [if_neg h]; have : Nat.beq j i = false := by rw [nbeq]; simpa using h
      simp [this]
  | p :: r => by
    simp only [putH]
    by_cases h : i = p.1
    · have e : Nat.beq i p.1 = true := by rw [nbeq]; simpa using h
      rw [e]
      simp only [getH]
      by_cases q : j = i
      · subst q; simp
      · have e1 : Nat.beq j i = false := by rw [nbeq]; simpa using q
        have e2 : Nat.beq j p.1 = false := by rw [← h]; exact e1
        simp [e1, e2, q]
    · have e : Nat.beq i p.1 = false := by rw [nbeq]; simpa using h
      rw [e]
      simp only [getH]
      by_cases q : j = p.1
      · have e1 : Nat.beq j p.1 = true := by rw [nbeq]; simpa using q
        have : j ≠ i := fun z => h (z ▸ q)
        simp [e1, this]
      · have e1 : Nat.beq j p.1 = false := by rw [nbeq]; simpa using q
        simp only [e1]
        exact getH_put i j ao r
theorem getK_put {α : Type} (x y : Str) (v : α) : ∀ m, getK y (putK x v m) = if y = x then some v else getK y m
  | [] => by
    simp only [putK, getK]
    by_cases h : y = x
    · rw [if_pos h, show (y == x) = true by simpa using h]
    · rw [if_neg h, show (y == x) = false by simpa using h]
  | p :: r => by
    simp only [putK]
    by_cases h : x = p.1
    · rw [show (x == p.1) = true by simpa using h]
      simp only [getK]
      by_cases q : y = p.1
      · rw [show (y == p.1) = true by simpa using q, if_pos (q.trans h.symm)]
      · rw [show (y == p.1) = false by simpa using q, if_neg (fun z => q (z.trans h))]
    · rw [show (x == p.1) = false by simpa using h]
      simp only [getK]
      by_cases q : y = p.1
      · rw [show (y == p.1) = true by simpa using q, if_neg (fun z => h (z.symm.trans q))]
      · rw [show (y == p.1) = false by simpa using q]
        exact getK_put x y v r
structure Wd where
  φ : Nat → Option Addr
  fz : Heap
def Wd.le (W W' : Wd) : Prop := (∀ i a, W.φ i = some a → W'.φ i = some a) ∧ ∀ b o, W.fz.get? b = some o → W'.fz.get? b = some o
theorem Wd.le.refl (W : Wd) : W.le W := ⟨fun _ _ h => h, fun _ _ h => h⟩
theorem Wd.le.trans {a b c : Wd} (x : a.le b) (y : b.le c) : a.le c := ⟨fun i z h => y.1 _ _ (x.1 i z h), fun i z h => y.2 _ _ (x.2 i z h)⟩
def isConst : Value → Bool
  | .type _ => true
  | .builtin _ => true
  | .ref _ => true
  | .ellipsis => true
  | _ => false
mutual
inductive VRel (W : Wd) : AV → Value → Prop
  | none : VRel W .none .none
  | lit {b} : VRel W (.lit b) (.bool b)
  | bool {b} : VRel W (.bool b) (.bool b)
  | int {i t} : VRel W (.int i) (.int i t)
  | str {s t} : VRel W (.str s) (.str s t)
  | bytes {b t} : VRel W (.bytes b) (.bytes b.toArray t)
  | const {v} : isConst v = true → VRel W (.const v) v
  | ref {id a} : W.φ id = some a → VRel W (.ref id) (.ref a)
  | tup {l vs a n} : W.fz.get? a = some ⟨.type "tuple", Option.none, .seq vs.toArray n, #[]⟩ → VRels W l vs → VRel W (.tup l) (.ref a)
  | lst {l vs a n} : W.fz.get? a = some ⟨.type "list", Option.none, .seq vs.toArray n, #[]⟩ → VRels W l vs → VRel W (.lst l) (.ref a)
inductive VRels (W : Wd) : List AV → List Value → Prop
  | nil : VRels W [] []
  | cons {a v l vs} : VRel W a v → VRels W l vs → VRels W (a :: l) (v :: vs)
end
mutual
theorem VRel.mono {W W' : Wd} (h : W.le W') : ∀ {a v}, VRel W a v → VRel W' a v
  | _, _, .none => .none
  | _, _, .lit => .lit
  | _, _, .bool => .bool
  | _, _, .int => .int
  | _, _, .str => .str
  | _, _, .bytes => .bytes
  | _, _, .const e => .const e
  | _, _, .ref e => .ref (h.1 _ _ e)
  | _, _, .tup e r => .tup (h.2 _ _ e) (VRels.mono h r)
  | _, _, .lst e r => .lst (h.2 _ _ e) (VRels.mono h r)
theorem VRels.mono {W W' : Wd} (h : W.le W') : ∀ {l vs}, VRels W l vs → VRels W' l vs
  | _, _, .nil => .nil
  | _, _, .cons a r => .cons (VRel.mono h a) (VRels.mono h r)
end
theorem VRels.length {W : Wd} : ∀ {l vs}, VRels W l vs → l.length = vs.length
  | _, _, .nil => rfl
  | _, _, .cons _ r => by simp [r.length]
theorem VRels.append {W : Wd} : ∀ {l vs l' vs'}, VRels W l vs → VRels W l' vs' → VRels W (l ++ l') (vs ++ vs')
  | _, _, _, _, .nil, r => r
  | _, _, _, _, .cons a r, r' => .cons a (r.append r')
theorem VRels.get {W : Wd} : ∀ {l vs}, VRels W l vs → ∀ {i : Nat} {a}, l[i]? = some a → ∃ v, vs[i]? = some v ∧ VRel W a v
  | _, _, .nil, i, a, h => by simp at h
  | _, _, .cons (v := v) x r, 0, a, h => by simp at h; subst h; exact ⟨v, rfl, x⟩
  | _, _, .cons x r, i + 1, a, h => by simp at h; obtain ⟨v, e, q⟩ := r.get h; exact ⟨v, by simpa using e, q⟩
theorem VRels.set {W : Wd} : ∀ {l vs}, VRels W l vs → ∀ {i : Nat} {a v}, VRel W a v → VRels W (l.set i a) (vs.set i v)
  | _, _, .nil, i, a, v, h => by simp; exact .nil
  | _, _, .cons x r, 0, a, v, h => by simp; exact .cons h r
  | _, _, .cons x r, i + 1, a, v, h => by simp; exact .cons x (r.set h)
theorem VRels.take {W : Wd} : ∀ {l vs}, VRels W l vs → ∀ n, VRels W (l.take n) (vs.take n)
  | _, _, .nil, n => by simp; exact .nil
  | _, _, .cons x r, 0 => by simp; exact .nil
  | _, _, .cons x r, n + 1 => by simp; exact .cons x (r.take n)
theorem VRels.drop {W : Wd} : ∀ {l vs}, VRels W l vs → ∀ n, VRels W (l.drop n) (vs.drop n)
  | _, _, .nil, n => by simp; exact .nil
  | _, _, .cons x r, 0 => by simp; exact .cons x r
  | _, _, .cons x r, n + 1 => by simp; exact r.drop n
def avOf : Value → Option AV
  | .none => some .none
  | .bool b => some (.lit b)
  | .int i _ => some (.int i)
  | .str s _ => some (.str s)
  | .bytes b _ => some (.bytes b.toList)
  | .type n => some (.const (.type n))
  | .builtin n => some (.const (.builtin n))
  | .ref a => some (.const (.ref a))
  | .ellipsis => some (.const .ellipsis)
  | _ => none
/-! What is asked of the written part, and a table of answers -/
def globalX (K : Frag) (x : Str) : Option AV := match nsIn K mainGlobals x with
  | some (some v) => avOf v
  | some none => match x == ("__name__" : Str) with
    | true => none
    | false => (bootBuiltins x).bind avOf
  | none => none
def keepOk (K : Frag) : Value → Bool
  | .builtin _ => true
  | .type _ => true
  | .ref a => keepIn K (.ref a)
  | _ => false
def attrOk (K : Frag) (C : Addr) (name : Str) : Bool :=
  (clsIn K C).any (·.hasDict) && findIn K (.ref C) "__getattribute__" == some (some (.builtin "object.__getattribute__")) && findIn K (.ref C) name == some none && !copiedNames.contains name
def setOk (K : Frag) (C : Addr) (name : Str) : Bool :=
  (clsIn K C).any (·.hasDict) && findIn K (.ref C) "__setattr__" == some (some (.builtin "object.__setattr__")) && plainOver K C && takerIn K C name == some none
def methOk (K : Frag) (C : Addr) (name : Str) : Option Addr := match findIn K (.ref C) name with
  | some (some (.ref f)) => match findIn K (.ref C) "__getattribute__" == some (some (.builtin "object.__getattribute__")) && findIn K (.ref C) "__getattr__" == some none && typeIn K (.ref f) == some (.type "function") && keepIn K (.ref f) with
    | true => some f
    | false => none
  | _ => none
def fnOf? (K : Frag) (a : Addr) : Option FuncData := match K.lookup a with
  | some ⟨_, _, .func fd, _⟩ => some fd
  | _ => none
def scOk (sc : Scope) : Bool := sc.names.all fun p => p.2 != .cell || sc.names.lookup p.1 == some .cell
def fnOk (K : Frag) (a : Addr) : Bool := match fnOf? K a with
  | some fd => fd.scope.isCoroutine == false && fd.scope.isGenerator == false && fd.scope.kind == .function && fd.closure.isEmpty && fd.params.posonlyargs.isEmpty && fd.params.vararg.isNone && fd.params.kwarg.isNone &&
      Nat.beq fd.globals mainGlobals && Nat.beq fd.builtins builtinsNs && codeIn K fd.code fd.qualname && scOk fd.scope
  | none => false
def mkOk (K : Frag) (C f : Addr) : Bool := makesIn K C && findIn K (.ref C) "__init__" == some (some (.ref f)) && typeIn K (.ref f) == some (.type "function")
def excOk (K : Frag) (C : Addr) : Bool := typeIn K (.ref C) == some (.type "type") && instIn K (.ref C) (.type "type") == some true && instIn K (.ref C) (.type "tuple") == some false && mroIn K C (.type "BaseException") == some true && mroIn K C (.ref C) == some true && (clsIn K C).isSome
def OwnExc (h : Heap) (C : Addr) : Prop := ∃ x bm newId initId B mg, OwnCls x C bm newId mg h ∧ ExcBaseFacts B newId initId bm
theorem OwnExc.keeps {h h' : Heap} {C : Addr} (x : OwnExc h C) (hk : ∀ b o, h.get? b = some o → h'.get? b = some o) : OwnExc h' C :=
  let ⟨x, bm, n, i, B, mg, O, F⟩ := x; ⟨x, bm, n, i, B, mg, O.keeps hk, F⟩
structure Tab where
  gl : List (Str × AV)
  rd : List (Addr × Str)
  wr : List (Addr × Str)
  me : List (Addr × Str × Addr)
  kp : List Addr
  cl : List Addr
  fn : List Addr
  nw : List (Addr × Addr)
  ex : List Addr
def get1 (C : Addr) : List (Addr × Addr) → Option Addr
  | [] => none
  | p :: r => match Nat.beq p.1 C with
    | true => some p.2
    | false => get1 C r
def has2 (C : Addr) (n : Str) : List (Addr × Str) → Bool
  | [] => false
  | p :: r => match Nat.beq p.1 C with
    | true => match p.2 == n with
      | true => true
      | false => has2 C n r
    | false => has2 C n r
def get2 (C : Addr) (n : Str) : List (Addr × Str × Addr) → Option Addr
  | [] => none
  | p :: r => match Nat.beq p.1 C with
    | true => match p.2.1 == n with
      | true => some p.2.2
      | false => get2 C n r
    | false => get2 C n r
def has1 (C : Addr) : List Addr → Bool
  | [] => false
  | p :: r => match Nat.beq p C with
    | true => true
    | false => has1 C r
structure Tab.Ok (T : Tab) (K : Frag) : Prop where
  gl : ∀ p ∈ T.gl, globalX K p.1 = some p.2
  rd : ∀ p ∈ T.rd, attrOk K p.1 p.2 = true
  wr : ∀ p ∈ T.wr, setOk K p.1 p.2 = true
  me : ∀ p ∈ T.me, methOk K p.1 p.2.1 = some p.2.2
  kp : ∀ p ∈ T.kp, keepOk K (.ref p) = true
  cl : ∀ p ∈ T.cl, (specialIn K (.ref p) "__call__").any (·.isSome) = true
  fn : ∀ p ∈ T.fn, fnOk K p = true
  nw : ∀ p ∈ T.nw, mkOk K p.1 p.2 = true
  ex : ∀ p ∈ T.ex, excOk K p = true
theorem getK_mem {α : Type} {x : Str} {a : α} : ∀ {l : List (Str × α)}, getK x l = some a → (x, a) ∈ l
  | [], h => by cases h
  | p :: r, h => by
    unfold getK at h
    split at h
    · rename_i q; cases h; rw [eq_of_beq q]; exact .head _
    · exact .tail _ (getK_mem h)
theorem has2_mem {C : Addr} {n : Str} : ∀ {l : List (Addr × Str)}, has2 C n l = true → (C, n) ∈ l
  | [], h => by cases h
  | p :: r, h => by
    unfold has2 at h
    split at h
    · rename_i q1
      split at h
      · rename_i q; rw [← eq_of_beq q, ← Nat.eq_of_beq_eq_true q1]; exact .head _
      · exact .tail _ (has2_mem h)
    · exact .tail _ (has2_mem h)
theorem get2_mem {C : Addr} {n : Str} {f : Addr} : ∀ {l : List (Addr × Str × Addr)}, get2 C n l = some f → (C, n, f) ∈ l
  | [], h => by cases h
  | p :: r, h => by
    unfold get2 at h
    split at h
    · rename_i q1
      split at h
      · rename_i q; cases h; rw [← eq_of_beq q, ← Nat.eq_of_beq_eq_true q1]; exact .head _
      · exact .tail _ (get2_mem h)
    · exact .tail _ (get2_mem h)
theorem get1_mem {C f : Addr} : ∀ {l : List (Addr × Addr)}, get1 C l = some f → (C, f) ∈ l
  | [], h => by cases h
  | p :: r, h => by
    unfold get1 at h
    split at h
    · rename_i q1; cases h; rw [← Nat.eq_of_beq_eq_true q1]; exact .head _
    · exact .tail _ (get1_mem h)
theorem has1_mem {C : Addr} : ∀ {l : List Addr}, has1 C l = true → C ∈ l
  | [], h => by cases h
  | p :: r, h => by
    unfold has1 at h
    split at h
    · rename_i q1; rw [← Nat.eq_of_beq_eq_true q1]; exact .head _
    · exact .tail _ (has1_mem h)
def Tab.keep (T : Tab) : Value → Bool
  | .builtin _ => true
  | .type _ => true
  | .ref a => has1 a T.kp
  | _ => false
theorem Tab.Ok.keeps {T : Tab} {K : Frag} (h : T.Ok K) {v : Value} (e : T.keep v = true) : keepOk K v = true := by
  cases v with
  | ref a => exact h.kp a (has1_mem e)
  | builtin n => rfl
  | type n => rfl
  | _ => cases e
theorem Tab.Ok.glob {T : Tab} {K : Frag} (h : T.Ok K) {x : Str} {a : AV} (e : getK x T.gl = some a) : globalX K x = some a := h.gl _ (getK_mem e)
theorem Tab.Ok.read {T : Tab} {K : Frag} (h : T.Ok K) {C : Addr} {x : Str} (e : has2 C x T.rd = true) : attrOk K C x = true := h.rd _ (has2_mem e)
theorem Tab.Ok.write {T : Tab} {K : Frag} (h : T.Ok K) {C : Addr} {x : Str} (e : has2 C x T.wr = true) : setOk K C x = true := h.wr _ (has2_mem e)
theorem Tab.Ok.meth {T : Tab} {K : Frag} (h : T.Ok K) {C : Addr} {x : Str} {f : Addr} (e : get2 C x T.me = some f) : methOk K C x = some f := h.me _ (get2_mem e)
/-! The static part, and what stands in the heap for an abstract object -/
structure Stc where
  prog : Program
  w : World
  K : Frag
  T : Tab
  hb : Heap
  os : OsState
  p : Program
  loose : List Str
  mg : Str → Option Value
  mb : Str → Option Value
structure Stc.Ok (S : Stc) : Prop where
  tab : S.T.Ok S.K
  exc : ∀ C ∈ S.T.ex, OwnExc S.hb C
  kin : S.K.In S.hb
  top : TopRead S.p S.loose S.mg S.mb S.hb
inductive ARel (S : Stc) (W : Wd) : List (Str × AV) → List DictEntry → Prop
  | nil : ARel S W [] []
  | cons {x a t v m es} : VRel W a v → ARel S W m es → ARel S W ((x, a) :: m) (⟨PyData.keyHash S.w.params x, .str x t, v⟩ :: es)
theorem ARel.mono {S : Stc} {W W' : Wd} (h : W.le W') : ∀ {m es}, ARel S W m es → ARel S W' m es
  | _, _, .nil => .nil
  | _, _, .cons v r => .cons (v.mono h) (r.mono h)
inductive ORel (S : Stc) (W : Wd) : AObj → Obj → Prop
  | list {l vs n} : VRels W l vs → ORel S W (.list l) ⟨.type "list", Option.none, .seq vs.toArray n, #[]⟩
  | barr {b} : ORel S W (.barr b) ⟨.type "bytearray", Option.none, .bytearray b.toArray 0, #[]⟩
  | inst {C d dx} : W.φ d = some dx → ORel S W (.inst C d) (instObj C dx)
  | attrs {m es n} : ARel S W m es → ORel S W (.attrs m) (dictOf es n)
  | own {p o} : o.isFreed = false → p o → ORel S W (.own p) o
theorem ORel.mono {S : Stc} {W W' : Wd} (h : W.le W') {ao o} (r : ORel S W ao o) : ORel S W' ao o := by
  cases r with
  | list r => exact .list (r.mono h)
  | barr => exact .barr
  | inst e => exact .inst (h.1 _ _ e)
  | attrs r => exact .attrs (r.mono h)
  | own h1 h2 => exact .own h1 h2
theorem ORel.notFreed {S : Stc} {W : Wd} {ao o} (r : ORel S W ao o) : o.isFreed = false := by cases r <;> first | rfl | assumption
/-- a frame: its locals, and its cells -/
abbrev FrA := Addr × List (Str × Addr)
abbrev adr (fs : List FrA) : List Addr := fs.map (·.1)
def LRel (W : Wd) (h : Heap) (L : FrA) (loc : Loc) : Prop := ∃ m, h.Ns L.1 m ∧ ∀ x a, getK x loc = some a → ∃ v, VRel W a v ∧ match L.2.lookup x with
  | none => m x = some v
  | some c => ∃ o, W.fz.get? c = some o ∧ o.data = .cell (some v)
inductive FRel (W : Wd) (h : Heap) : List FrA → List Loc → Prop
  | nil : FRel W h [] []
  | cons {L loc Ls locs} : LRel W h L loc → FRel W h Ls locs → FRel W h (L :: Ls) (loc :: locs)
theorem LRel.mono {W W' : Wd} {h h' : Heap} {L loc} (w : W.le W') (k : ∀ m, h.Ns L.1 m → h'.Ns L.1 m) : LRel W h L loc → LRel W' h' L loc :=
  fun ⟨m, a, b⟩ => ⟨m, k m a, fun x y e => by
    obtain ⟨v, q, p⟩ := b x y e
    refine ⟨v, q.mono w, ?_⟩
    cases hl : L.2.lookup x with
    | none => rw [hl] at p; exact p
    | some c => rw [hl] at p; obtain ⟨o, h1, h2⟩ := p; exact ⟨o, w.2 _ _ h1, h2⟩⟩
theorem FRel.mono {W W' : Wd} {h h' : Heap} (w : W.le W') : ∀ {Ls locs}, FRel W h Ls locs → (∀ L ∈ adr Ls, ∀ m, h.Ns L m → h'.Ns L m) → FRel W' h' Ls locs
  | _, _, .nil, _ => .nil
  | _, _, .cons a r, k => .cons (a.mono w (k _ (.head _))) (r.mono w fun L hL => k L (.tail _ hL))
theorem FRel.lt {W : Wd} {h : Heap} : ∀ {Ls locs}, FRel W h Ls locs → ∀ L ∈ adr Ls, L < h.objs.size
  | _, _, .cons ⟨_, n, _⟩ _, _, .head _ => n.lt
  | _, _, .cons _ r, _, .tail _ hL => r.lt _ hL
structure Rep (S : Stc) (W : Wd) (fs : List FrA) (st : ASt) (s : Shared) : Prop where
  old : ∀ b o, S.hb.get? b = some o → W.fz.get? b = some o
  keep : ∀ b o, W.fz.get? b = some o → s.heap.get? b = some o
  inj : ∀ i j a, W.φ i = some a → W.φ j = some a → i = j
  sepφ : ∀ i a, W.φ i = some a → W.fz.get? a = Option.none ∧ a ∉ adr fs ∧ S.hb.objs.size ≤ a ∧ ∃ o, s.heap.get? a = some o
  sepf : ∀ L ∈ adr fs, W.fz.get? L = Option.none ∧ S.hb.objs.size ≤ L
  nd : (adr fs).Nodup
  fresh : ∀ i, st.next ≤ i → W.φ i = Option.none
  hp : ∀ i ao, getH st.hp i = some ao → ∃ a o, W.φ i = some a ∧ s.heap.get? a = some o ∧ ORel S W ao o
  fr : FRel W s.heap fs st.fr
  gens : s.gens = #[]
  os : s.os = S.os
section
variable {S : Stc} {W : Wd} {fs : List FrA} {st : ASt} {s : Shared}
theorem Rep.kin (O : S.Ok) (R : Rep S W fs st s) : S.K.In s.heap := O.kin.keeps fun b o e => R.keep _ _ (R.old _ _ e)
theorem Rep.top (O : S.Ok) (R : Rep S W fs st s) : TopRead S.p S.loose S.mg S.mb s.heap := O.top.keeps fun b o e => R.keep _ _ (R.old _ _ e)
theorem Rep.size (R : Rep S W fs st s) : S.hb.objs.size ≤ s.heap.objs.size ∨ fs = [] := by
  cases fs with
  | nil => exact .inr rfl
  | cons L r => exact .inl (Nat.le_trans (R.sepf L.1 (.head _)).2 (Nat.le_of_lt (R.fr.lt L.1 (.head _))))
theorem Rep.toks (R : Rep S W fs st s) (t : Nat) : Rep S W fs st { s with toks := t } := ⟨R.old, R.keep, R.inj, R.sepφ, R.sepf, R.nd, R.fresh, R.hp, R.fr, R.gens, R.os⟩
/-- the heap may change wherever nothing that is told of stands -/
theorem Rep.lt (R : Rep S W fs st s) {i : Nat} {a : Addr} (h : W.φ i = some a) : a < s.heap.objs.size := let ⟨_, e⟩ := (R.sepφ i a h).2.2.2; Heap.lt_size e
theorem Rep.other (R : Rep S W fs st s) {h' : Heap} {t : Nat} (hf : ∀ b o, W.fz.get? b = some o → s.heap.get? b = some o → h'.get? b = some o)
    (hφ : ∀ i a o, W.φ i = some a → s.heap.get? a = some o → h'.get? a = some o) (hL : ∀ L ∈ adr fs, ∀ m, s.heap.Ns L m → h'.Ns L m) : Rep S W fs st { s with heap := h', toks := t } :=
  ⟨R.old, fun b o e => hf b o e (R.keep b o e), R.inj, fun i a e => let z := R.sepφ i a e; let ⟨o, q⟩ := z.2.2.2; ⟨z.1, z.2.1, z.2.2.1, o, hφ i a o e q⟩, R.sepf, R.nd, R.fresh,
    fun i ao e => let ⟨a, o, p, q, r⟩ := R.hp i ao e; ⟨a, o, p, hφ i a o p q, r⟩, R.fr.mono (.refl _) hL, R.gens, R.os⟩
theorem Rep.grow (R : Rep S W fs st s) {h' : Heap} {t : Nat} (hk : ∀ b o, s.heap.get? b = some o → h'.get? b = some o) : Rep S W fs st { s with heap := h', toks := t } :=
  R.other (fun b o _ e => hk b o e) (fun _ a o _ e => hk a o e) fun _ _ _ n => n.keeps hk
theorem Rep.push (R : Rep S W fs st s) (o : Obj) (t : Nat) : Rep S W fs st { s with heap := s.heap.push o, toks := t } :=
  R.grow fun _ _ e => Heap.get?_push_of_some o e
def Wd.at (W : Wd) (i : Nat) (a : Addr) : Wd := ⟨fun j => if j = i then some a else W.φ j, W.fz⟩
theorem Wd.le_at {i : Nat} {a : Addr} (h : W.φ i = Option.none) : W.le (W.at i a) :=
  ⟨fun j b e => by show (if j = i then some a else W.φ j) = some b; rw [if_neg (fun z => by rw [z, h] at e; cases e)]; exact e, fun _ _ e => e⟩
/-- a new object of the abstract heap -/
theorem Rep.alloc (R : Rep S W fs st s) (hsz : S.hb.objs.size ≤ s.heap.objs.size) {ao : AObj} {o : Obj} {t : Nat} (h : ORel S (W.at st.next s.heap.objs.size) ao o) :
    W.le (W.at st.next s.heap.objs.size) ∧
    Rep S (W.at st.next s.heap.objs.size) fs { st with hp := (st.next, ao) :: st.hp, next := st.next + 1 } { s with heap := s.heap.push o, toks := t } := by
  have le := Wd.le_at (a := s.heap.objs.size) (R.fresh _ (Nat.le_refl st.next))
  have hk : ∀ b x, s.heap.get? b = some x → (s.heap.push o).get? b = some x := fun _ _ e => Heap.get?_push_of_some o e
  refine ⟨le, R.old, fun b x e => hk _ _ (R.keep b x e), fun i j a e1 e2 => ?_, fun i a e => ?_, R.sepf, R.nd, fun i hi => ?_, fun i x e => ?_, R.fr.mono le fun L _ m n => n.keeps hk, R.gens, R.os⟩
  · dsimp only [Wd.at] at e1 e2
    have nope : ∀ j, W.φ j = some s.heap.objs.size → False := fun j z => Nat.lt_irrefl _ (R.lt z)
    split at e1 <;> split at e2
    · omega
    · cases e1; exact (nope _ e2).elim
    · cases e2; exact (nope _ e1).elim
    · exact R.inj i j a e1 e2
  · dsimp only [Wd.at] at e ⊢
    split at e
    · cases e
      refine ⟨?_, fun hm => ?_, hsz, o, Heap.get?_push_size _ h.notFreed⟩
      · cases q : W.fz.get? s.heap.objs.size with
        | none => rfl
        | some x => exact absurd (Heap.lt_size (R.keep _ _ q)) (Nat.lt_irrefl _)
      · exact absurd (R.fr.lt _ hm) (Nat.lt_irrefl _)
    · have z := R.sepφ i a e
      obtain ⟨x, hx⟩ := z.2.2.2
      exact ⟨z.1, z.2.1, z.2.2.1, x, hk _ _ hx⟩
  · have hi : st.next + 1 ≤ i := hi
    dsimp only [Wd.at]
    rw [if_neg (by omega)]
    exact R.fresh i (by omega)
  · simp only [getH] at e
    by_cases q : i = st.next
    · subst q
      rw [show Nat.beq st.next st.next = true by rw [nbeq]; simp] at e
      cases e
      exact ⟨s.heap.objs.size, o, by simp [Wd.at], Heap.get?_push_size _ h.notFreed, h⟩
    · rw [show Nat.beq i st.next = false by rw [nbeq]; simpa using q] at e
      obtain ⟨a, x, p1, p2, p3⟩ := R.hp i _ e
      exact ⟨a, x, le.1 _ _ p1, hk _ _ p2, p3.mono le⟩
/-- an object of the abstract heap is changed -/
theorem Rep.update (R : Rep S W fs st s) {i : Nat} {a : Addr} {ao' : AObj} {o : Obj} {f : Obj → Obj} {t : Nat} (ha : W.φ i = some a) (ho : s.heap.get? a = some o) (h : ORel S W ao' (f o)) :
    Rep S W fs { st with hp := putH i ao' st.hp } { s with heap := s.heap.update a f, toks := t } := by
  have sep := R.sepφ i a ha
  have hself : (s.heap.update a f).get? a = some (f o) := Heap.get?_update_self _ ho h.notFreed
  have ne : ∀ b, b ≠ a → (s.heap.update a f).get? b = s.heap.get? b := fun b hb => Heap.get?_update_ne _ _ _ _ hb
  refine ⟨R.old, fun b x e => ?_, R.inj, fun i b e => ?_, R.sepf, R.nd, R.fresh, fun j x e => ?_, R.fr.mono (.refl _) fun L hL m n => ?_, R.gens, R.os⟩
  · show (s.heap.update a f).get? b = some x
    rw [ne b (fun z => by rw [z, sep.1] at e; cases e)]; exact R.keep b x e
  · have z := R.sepφ i b e
    obtain ⟨x, hx⟩ := z.2.2.2
    by_cases q : b = a
    · subst q; exact ⟨z.1, z.2.1, z.2.2.1, f o, hself⟩
    · exact ⟨z.1, z.2.1, z.2.2.1, x, (ne b q).trans hx⟩
  · show ∃ b x', W.φ j = some b ∧ (s.heap.update a f).get? b = some x' ∧ ORel S W x x'
    replace e : getH (putH i ao' st.hp) j = some x := e
    rw [getH_put] at e
    split at e
    · rename_i q; subst q; cases e
      exact ⟨a, f o, ha, Heap.get?_update_self _ ho h.notFreed, h⟩
    · rename_i q
      obtain ⟨b, y, p1, p2, p3⟩ := R.hp j x e
      refine ⟨b, y, p1, ?_, p3⟩
      rw [ne b (fun z => q (R.inj j i a (z ▸ p1) ha))]; exact p2
  · have : L ≠ a := fun z => sep.2.1 (z ▸ hL)
    obtain ⟨x, es, ep, q, r⟩ := n
    exact ⟨x, es, ep, (ne L this).trans q, r⟩
/-- a name of the frame in hand is stored -/
theorem Rep.store {L : Addr} {cl : List (Str × Addr)} {loc : Loc} {locs : List Loc} (R : Rep S W ((L, cl) :: fs) st s) (hf : st.fr = loc :: locs) {h' : Heap} {m : Str → Option Value} {x : Str} {av : AV} {v : Value} {t : Nat} (hx : cl.lookup x = none)
    (q : ∀ y a, getK y loc = some a → ∃ v, VRel W a v ∧ match cl.lookup y with | none => m y = some v | some c => ∃ o, W.fz.get? c = some o ∧ o.data = .cell (some v))
    (hn : h'.Ns L (fun y => if y = x then some v else m y)) (hs : Heap.SameBut L s.heap h') (hv : VRel W av v) :
    Rep S W ((L, cl) :: fs) { st with fr := putK x av loc :: locs } { s with heap := h', toks := t } := by
  have sL := R.sepf L (.head _)
  have ne : ∀ b o, b ≠ L → s.heap.get? b = some o → h'.get? b = some o := fun b o hb e => (hs.2 b hb).trans e
  refine ⟨R.old, fun b o e => ne b o (fun z => by rw [z, sL.1] at e; cases e) (R.keep b o e), R.inj, fun i a e => ?_, R.sepf, R.nd, R.fresh, fun i ao e => ?_, ?_, R.gens, R.os⟩
  · have z := R.sepφ i a e
    obtain ⟨x, hx⟩ := z.2.2.2
    exact ⟨z.1, z.2.1, z.2.2.1, x, ne a x (fun q => z.2.1 (q ▸ .head _)) hx⟩
  · obtain ⟨a, o, p1, p2, p3⟩ := R.hp i ao e
    exact ⟨a, o, p1, ne a o (fun z => (R.sepφ i a p1).2.1 (z ▸ .head _)) p2, p3⟩
  · have F := R.fr
    rw [hf] at F
    cases F with
    | cons l r =>
      refine .cons ?_ (r.mono (.refl _) fun L' hL' m n => ?_)
      · refine ⟨_, hn, fun y a e => ?_⟩
        rw [getK_put] at e
        split at e
        · rename_i z; cases e; subst z
          refine ⟨v, hv, ?_⟩
          show (match cl.lookup y with | none => _ | some c => _)
          rw [hx]; exact if_pos rfl
        · rename_i z
          obtain ⟨u, p2, p1⟩ := q y a e
          refine ⟨u, p2, ?_⟩
          show (match cl.lookup y with | none => _ | some c => _)
          replace p1 : (match cl.lookup y with | none => m y = some u | some c => ∃ o, W.fz.get? c = some o ∧ o.data = .cell (some u)) := p1
          cases hl : cl.lookup y with
          | none => rw [hl] at p1; exact (if_neg z).trans p1
          | some c => rw [hl] at p1; exact p1
      · have : L' ≠ L := fun z => (List.nodup_cons.mp R.nd).1 (z ▸ hL')
        obtain ⟨o, es, ep, q, r⟩ := n
        exact ⟨o, es, ep, ne L' o this q, r⟩
end
end Mine
-- part Cw4
open PySem PySem.W PyProof.Rows PySem.Calls
namespace Mine
section
variable {S : Stc} {W : Wd} {fs : List FrA} {st : ASt} {s : Shared}
def mutables (fs : List FrA) (st : ASt) (W : Wd) : List Addr := adr fs ++ (List.range st.next).filterMap W.φ
theorem mem_mutables {a : Addr} (R : Rep S W fs st s) : a ∈ mutables fs st W ↔ a ∈ adr fs ∨ ∃ i, W.φ i = some a := by
  unfold mutables
  rw [List.mem_append, List.mem_filterMap]
  constructor
  · rintro (h | ⟨i, _, h⟩)
    · exact .inl h
    · exact .inr ⟨i, h⟩
  · rintro (h | ⟨i, h⟩)
    · exact .inl h
    · refine .inr ⟨i, List.mem_range.mpr ?_, h⟩
      apply Decidable.byContradiction
      intro q
      rw [R.fresh i (by omega)] at h; cases h
/-- all that stands beside the frames and the changeable objects is kept from here on -/
theorem Rep.settle (R : Rep S W fs st s) : W.le ⟨W.φ, hideAll s.heap (mutables fs st W)⟩ ∧ Rep S ⟨W.φ, hideAll s.heap (mutables fs st W)⟩ fs st s := by
  have le : W.le ⟨W.φ, hideAll s.heap (mutables fs st W)⟩ := ⟨fun _ _ h => h, fun b o e => hideAll_get _ (R.keep b o e) fun hm => by
    rcases (mem_mutables R).mp hm with h | ⟨i, h⟩
    · rw [(R.sepf b h).1] at e; cases e
    · rw [(R.sepφ i b h).1] at e; cases e⟩
  refine ⟨le, fun b o e => le.2 _ _ (R.old b o e), fun b o e => of_hideAll _ e, R.inj, fun i a e => ⟨hideAll_none _ ((mem_mutables R).mpr (.inr ⟨i, e⟩)), (R.sepφ i a e).2⟩,
    fun L hL => ⟨hideAll_none _ ((mem_mutables R).mpr (.inl hL)), (R.sepf L hL).2⟩, R.nd, R.fresh, fun i ao e => ?_, R.fr.mono le fun _ _ _ n => n, R.gens, R.os⟩
  obtain ⟨a, o, p, q, r⟩ := R.hp i ao e
  exact ⟨a, o, p, q, r.mono le⟩
theorem Rep.fzNew (R : Rep S W fs st s) {o : Obj} {t : Nat} (hf : o.isFreed = false) : ∃ W', W.le W' ∧ W'.φ = W.φ ∧ W'.fz.get? s.heap.objs.size = some o ∧ Rep S W' fs st { s with heap := s.heap.push o, toks := t } := by
  have R' := R.push o t
  obtain ⟨le, R''⟩ := R'.settle
  refine ⟨_, le, rfl, hideAll_get _ (Heap.get?_push_size _ hf) fun hm => ?_, R''⟩
  rcases (mem_mutables R).mp hm with h | ⟨i, h⟩
  · exact Nat.lt_irrefl _ (R.fr.lt _ h)
  · exact Nat.lt_irrefl _ (R.lt h)
end
/-! The frame in hand and its callers -/
structure Fm where
  cn : Str
  sc : Scope
  L : Addr
  a : Addr
  cd : Value
  cl : List (Str × Addr)
def Fm.env (f : Fm) : Env := envX f.cn f.sc f.L f.a f.cd f.cl
abbrev Las (fs : List Fm) : List FrA := fs.map fun f => (f.L, f.cl)
structure CxOk (k : Nat) (b : Bool) (A : Around) (fs : List Fm) : Prop where
  frames : A.frames = some (fs.map Fm.env)
  depth : A.depth + 2 * k ≤ 890
  units : A.units + 8 * k ≤ 9000
  kind : ∀ f ∈ fs, f.sc.kind = .function
  hand : b = true → A.handled = none
  loc : ∀ f ∈ fs, ∀ x, f.sc.names.lookup x = some .local → f.cl.lookup x = none
  cel : ∀ f ∈ fs, ∀ x, f.sc.names.lookup x = some .cell → ∃ c, f.cl.lookup x = some c
theorem CxOk.le {k k' : Nat} {b : Bool} {A : Around} {fs : List Fm} (h : CxOk k b A fs) (hk : k' ≤ k) : CxOk k' b A fs := ⟨h.frames, by have := h.depth; omega, by have := h.units; omega, h.kind, h.hand, h.loc, h.cel⟩
/-! An exception in flight: its object and its traceback are none of those told of -/
def Apart (W : Wd) (fs : List FrA) (a : Addr) : Prop := W.fz.get? a = none ∧ a ∉ adr fs ∧ ∀ i, W.φ i ≠ some a
def Fly (W : Wd) (fs : List FrA) (h : Heap) (e : Addr) (C : Value) : Prop :=
  Apart W fs e ∧ ∃ oe vs a0, h.get? e = some oe ∧ oe.cls = C ∧ oe.data = .fields vs ∧ vs[0]? = some a0 ∧
    (vs[1]? = some .none ∨ ∃ T oT ts, vs[1]? = some (.ref T) ∧ Apart W fs T ∧ T ≠ e ∧ h.get? T = some oT ∧ oT.data = .fields ts ∧ ts[3]? = some .none)
theorem Apart.tail {W : Wd} {f : FrA} {fs : List FrA} {a : Addr} (h : Apart W (f :: fs) a) : Apart W fs a := ⟨h.1, fun m => h.2.1 (.tail _ m), h.2.2⟩
theorem Fly.tail {W : Wd} {f : FrA} {fs : List FrA} {h : Heap} {e : Addr} {C : Value} (x : Fly W (f :: fs) h e C) : Fly W fs h e C := by
  obtain ⟨a, oe, vs, a0, h1, h2, h3, h4, h5⟩ := x
  refine ⟨a.tail, oe, vs, a0, h1, h2, h3, h4, ?_⟩
  rcases h5 with h5 | ⟨T, oT, ts, p1, p2, p3⟩
  · exact .inl h5
  · exact .inr ⟨T, oT, ts, p1, p2.tail, p3⟩
/-! The monad of the abstract run: a path says how each test goes; what is gathered is what the tests ask -/
inductive R (α : Type) where
  | ok (a : α)
  | exc (C : Value)
abbrev X (α : Type) := List Bool → ASt → Option (R α × List Bool × Prop × ASt)
def X.pure {α : Type} (a : α) : X α := fun p st => some (.ok a, p, True, st)
def X.bind {α β : Type} (m : X α) (f : α → X β) : X β := fun p st => match m p st with
  | none => none
  | some (.exc C, p', c, st') => some (.exc C, p', c, st')
  | some (.ok a, p', c, st') => match f a p' st' with
    | none => none
    | some (r, p'', c', st'') => some (r, p'', c ∧ c', st'')
instance : Monad X where
  pure := X.pure
  bind := X.bind
def X.fail {α : Type} : X α := fun _ _ => none
def X.test (b : Bool) : X Bool := fun p st => match p with
  | d :: p' => some (.ok d, p', b = d, st)
  | [] => none
def Post {α β : Type} (S : Stc) (fs : List Fm) (rel : Wd → α → β → Prop) (W : Wd) (r : R α) (st' : ASt) (Q : β → Shared → Prop) (E : Value → Shared → Prop) : Prop :=
  ∀ W' s', W.le W' → Rep S W' (Las fs) st' s' → match r with
    | .ok a => ∀ b, rel W' a b → Q b s'
    | .exc C => ∀ e, Fly W' (Las fs) s'.heap e C → E (.ref e) s'
def Sim {α β : Type} (S : Stc) (A : Around) (fs : List Fm) (rel : Wd → α → β → Prop) (W : Wd) (m : X α) (t : Sem β) : Prop :=
  ∀ p st r p' c st', m p st = some (r, p', c, st') → c → ∀ s, Rep S W (Las fs) st s → ∀ Q E, Post S fs rel W r st' Q E → wpC (model S.prog S.w) A t Q E s
section
variable {α β α' β' : Type} {S : Stc} {A : Around} {fs : List Fm} {rel : Wd → α → β → Prop} {rel' : Wd → α' → β' → Prop} {W : Wd}
theorem Post.le {W' : Wd} {r : R α} {st' : ASt} {Q : β → Shared → Prop} {E : Value → Shared → Prop} (h : W.le W') (P : Post S fs rel W r st' Q E) : Post S fs rel W' r st' Q E :=
  fun W'' s' h' => P W'' s' (h.trans h')
theorem Sim.pure {a : α} {b : β} (h : ∀ W', W.le W' → rel W' a b) : Sim S A fs rel W (Pure.pure a) (Pure.pure b) := by
  intro p st r p' c st' e hc s R Q E P
  cases e
  exact wpC_pure (P W s (.refl W) R b (h W (.refl W)))
theorem Sim.bind {m : X α} {t : Sem β} {f : α → X α'} {g : β → Sem β'} (h : Sim S A fs rel W m t) (hf : ∀ W' a b, W.le W' → rel W' a b → Sim S A fs rel' W' (f a) (g b)) :
    Sim S A fs rel' W (m >>= f) (t >>= g) := by
  intro p st r p' c st' e hc s R Q E P
  have e : X.bind m f p st = some (r, p', c, st') := e
  unfold X.bind at e
  split at e
  · cases e
  · rename_i C p₁ c₁ st₁ e₁
    cases e
    refine wpC_bind (h _ _ _ _ _ _ e₁ hc s R _ _ fun W' s' le R' => ?_)
    exact P W' s' le R'
  · rename_i a p₁ c₁ st₁ e₁
    split at e
    · cases e
    · rename_i r₂ p₂ c₂ st₂ e₂
      cases e
      refine wpC_bind (h _ _ _ _ _ _ e₁ hc.1 s R _ _ fun W' s' le R' b hb => ?_)
      exact hf W' a b le hb _ _ _ _ _ _ e₂ hc.2 s' R' Q E (P.le le)
theorem Sim.fail {t : Sem β} : Sim S A fs rel W (X.fail : X α) t := fun _ _ _ _ _ _ e => by cases e
theorem Sim.test {b : Bool} {m : Bool → X α} {t : Bool → Sem β} (h : ∀ d, b = d → Sim S A fs rel W (m d) (t d)) : Sim S A fs rel W (X.test b >>= m) (t b) := by
  intro p st r p' c st' e hc s R Q E P
  have e : X.bind (X.test b) m p st = some (r, p', c, st') := e
  unfold X.bind X.test at e
  cases p with
  | nil => cases e
  | cons d p =>
    dsimp only at e
    split at e
    · cases e
    · rename_i r₂ p₂ c₂ st₂ e₂
      cases e
      obtain ⟨rfl, hc⟩ := hc
      exact h b rfl _ _ _ _ _ _ e₂ hc s R Q E P
theorem Sim.holding {m : X α} {vs : List Value} {t : Sem β} (h : Sim S A fs rel W m t) : Sim S A fs rel W m (holding vs t) :=
  fun _ _ _ _ _ _ e hc s R Q E P => wpC_holding (h _ _ _ _ _ _ e hc s R Q E P)
theorem Sim.operate {m : X α} {vs : List Value} {t : Sem Value} {rel : Wd → α → Value → Prop} (h : Sim S A fs rel W m t) : Sim S A fs rel W m (operate vs t) :=
  fun _ _ _ _ _ _ e hc s R Q E P => wpC_operate (h _ _ _ _ _ _ e hc s R Q E P)
theorem Sim.standAt {m : X α} {pos : Pos} {t : Unit → Sem β} (h : Sim S A fs rel W m (t ())) : Sim S A fs rel W m (standAt pos >>= t) :=
  fun _ _ _ _ _ _ e hc s R Q E P => wpC_bind (wpC_standAt (h _ _ _ _ _ _ e hc s R Q E P))
theorem Sim.point {m : X α} {t : Unit → Sem β} (h : Sim S A fs rel W m (t ())) : Sim S A fs rel W m (PySem.point >>= t) :=
  fun _ _ _ _ _ _ e hc s R Q E P => wpC_bind (wpC_point (h _ _ _ _ _ _ e hc s R Q E P))
theorem Sim.rule {m : X α} {tag : String} {t : Unit → Sem β} (h : Sim S A fs rel W m (t ())) : Sim S A fs rel W m (PySem.rule tag >>= t) :=
  fun _ _ _ _ _ _ e hc s R Q E P => wpC_bind (wpC_rule (h _ _ _ _ _ _ e hc s R Q E P))
theorem Sim.release {m : X α} {vs keep : List Value} {t : Unit → Sem β} (h : Sim S A fs rel W m (t ())) : Sim S A fs rel W m (PySem.release vs keep >>= t) :=
  fun _ _ _ _ _ _ e hc s R Q E P => wpC_bind (wpC_release (h _ _ _ _ _ _ e hc s R Q E P))
theorem Sim.congr {m : X α} {t t' : Sem β} (e : t = t') (h : Sim S A fs rel W m t') : Sim S A fs rel W m t := e ▸ h
/-- a tree whose end is handed on by a pure map -/
theorem Sim.then {m : X α} {t : Sem β} {g : β → Sem β'} {rel' : Wd → α → β' → Prop} (h : Sim S A fs rel W m t) (hg : ∀ W' a b, W.le W' → rel W' a b → ∃ b', g b = Pure.pure b' ∧ ∀ W'', W'.le W'' → rel' W'' a b') :
    Sim S A fs rel' W m (t >>= g) := by
  intro p st r p' c st' e hc s R Q E P
  refine wpC_bind (h _ _ _ _ _ _ e hc s R _ _ fun W' s' le R' => ?_)
  cases r with
  | exc C => exact P W' s' le R'
  | ok a =>
    intro b hb
    obtain ⟨b', eg, hr⟩ := hg W' a b le hb
    rw [eg]
    exact wpC_pure (P W' s' le R' b' (hr W' (.refl _)))
/-- what is done behind it changes nothing that is told -/
theorem Sim.after {m : X α} {t : Sem β} {g : β → Sem β} (h : Sim S A fs rel W m t) (hg : ∀ b (Q : β → Shared → Prop) E s, Q b s → wpC (model S.prog S.w) A (g b) Q E s) : Sim S A fs rel W m (t >>= g) := by
  intro p st r p' c st' e hc s R Q E P
  refine wpC_bind (h _ _ _ _ _ _ e hc s R _ _ fun W' s' le R' => ?_)
  cases r with
  | exc C => exact P W' s' le R'
  | ok a => exact fun b hb => hg b Q E s' (P W' s' le R' b hb)
end
end Mine
-- part Ba1
open PySem PySem.W PyProof.Rows PySem.Calls
namespace Mine
open Builtin
/-! Objects of type bytearray: what is asked of them -/
abbrev baObj (b : Array UInt8) : Obj := ⟨.type "bytearray", none, .bytearray b 0, #[]⟩
theorem typeIs_ba {s : Shared} {a : Addr} {b : Array UInt8} (h : s.heap.get? a = some (baObj b)) : s.TypeIs (.ref a) "bytearray" := ⟨_, h, rfl⟩
theorem ba_mro : mroOf (.type "bytearray") = pure [.type "bytearray", .type "object"] := by rw [mroOf_type]; kernel_rfl
theorem ba_look_new : typeLookup (.type "bytearray") "__new__" = pure (some (.builtin "bytearray.__new__")) := by rw [typeLookup_type, builtinLookup_eq_fast]; kernel_rfl
theorem ba_look_buffer : typeLookup (.type "bytearray") "__buffer__" = pure (some (.builtin "bytearray.__buffer__")) := by rw [typeLookup_type, builtinLookup_eq_fast]; kernel_rfl
theorem ba_look_release : typeLookup (.type "bytearray") "__release_buffer__" = pure (some (.builtin "bytearray.__release_buffer__")) := by rw [typeLookup_type, builtinLookup_eq_fast]; kernel_rfl
theorem ba_no_bytes : typeLookup (.type "bytearray") "__bytes__" = pure none := by rw [typeLookup_type, builtinLookup_eq_fast]; kernel_rfl
theorem ba_no_index : typeLookup (.type "bytearray") "__index__" = pure none := by rw [typeLookup_type, builtinLookup_eq_fast]; kernel_rfl
theorem bytes_no_index : typeLookup (.type "bytes") "__index__" = pure none := by rw [typeLookup_type, builtinLookup_eq_fast]; kernel_rfl
theorem ba_sub : isSubtype (.type "bytearray") (.type "bytearray") = pure true := by rw [isSubtype_type]; kernel_rfl
theorem ba_sub_bytes : isSubtype (.type "bytearray") (.type "bytes") = pure false := by rw [isSubtype_type]; kernel_rfl
theorem bytes_sub_ba : isSubtype (.type "bytes") (.type "bytearray") = pure false := by rw [isSubtype_type]; kernel_rfl
theorem ba_sub_str : isSubtype (.type "bytearray") (.type "str") = pure false := by rw [isSubtype_type]; kernel_rfl
theorem slot_ba_len : Slot "bytearray" "__len__" "bytearray.__len__" :=
  .of (owner := "bytearray") (n := "__len__") (by rw [typeLookup_type, builtinLookup_eq_fast]; kernel_rfl) (by decide +kernel) (by decide +kernel) (by decide +kernel)
    (by first | exact .inl (by decide +kernel) | exact .inr (by decide +kernel)) (by rw [isSubtype_type]; kernel_rfl)
theorem slot_ba_getitem : Slot "bytearray" "__getitem__" "bytearray.__getitem__" :=
  .of (owner := "bytearray") (n := "__getitem__") (by rw [typeLookup_type, builtinLookup_eq_fast]; kernel_rfl) (by decide +kernel) (by decide +kernel) (by decide +kernel)
    (by first | exact .inl (by decide +kernel) | exact .inr (by decide +kernel)) (by rw [isSubtype_type]; kernel_rfl)
theorem slot_ba_setitem : Slot "bytearray" "__setitem__" "bytearray.__setitem__" :=
  .of (owner := "bytearray") (n := "__setitem__") (by rw [typeLookup_type, builtinLookup_eq_fast]; kernel_rfl) (by decide +kernel) (by decide +kernel) (by decide +kernel)
    (by first | exact .inl (by decide +kernel) | exact .inr (by decide +kernel)) (by rw [isSubtype_type]; kernel_rfl)
theorem slot_ba_delitem : Slot "bytearray" "__delitem__" "bytearray.__delitem__" :=
  .of (owner := "bytearray") (n := "__delitem__") (by rw [typeLookup_type, builtinLookup_eq_fast]; kernel_rfl) (by decide +kernel) (by decide +kernel) (by decide +kernel)
    (by first | exact .inl (by decide +kernel) | exact .inr (by decide +kernel)) (by rw [isSubtype_type]; kernel_rfl)
theorem slot_ba_ne : Slot "bytearray" "__ne__" "bytearray.__ne__" :=
  .of (owner := "bytearray") (n := "__ne__") (by rw [typeLookup_type, builtinLookup_eq_fast]; kernel_rfl) (by decide +kernel) (by decide +kernel) (by decide +kernel)
    (by first | exact .inl (by decide +kernel) | exact .inr (by decide +kernel)) (by rw [isSubtype_type]; kernel_rfl)
theorem slot_ba_init : Slot "bytearray" "__init__" "bytearray.__init__" :=
  .of (owner := "bytearray") (n := "__init__") (by rw [typeLookup_type, builtinLookup_eq_fast]; kernel_rfl) (by decide +kernel) (by decide +kernel) (by decide +kernel)
    (by first | exact .inl (by decide +kernel) | exact .inr (by decide +kernel)) (by rw [isSubtype_type]; kernel_rfl)
theorem slot_ba_extend : Slot "bytearray" "extend" "bytearray.extend" :=
  .of (owner := "bytearray") (n := "extend") (by rw [typeLookup_type, builtinLookup_eq_fast]; kernel_rfl) (by decide +kernel) (by decide +kernel) (by decide +kernel)
    (by first | exact .inl (by decide +kernel) | exact .inr (by decide +kernel)) (by rw [isSubtype_type]; kernel_rfl)
theorem slot_bytes_join : Slot "bytes" "join" "bytes.join" :=
  .of (owner := "bytes") (n := "join") (by rw [typeLookup_type, builtinLookup_eq_fast]; kernel_rfl) (by decide +kernel) (by decide +kernel) (by decide +kernel)
    (by first | exact .inl (by decide +kernel) | exact .inr (by decide +kernel)) (by rw [isSubtype_type]; kernel_rfl)
theorem entry_ba_len : entryFor table "bytearray.__len__" = some «bytearray.__len__» := by first | exact entryFor_of_fast (by kernel_rfl) | exact entryFor_of_tree (by kernel_rfl)
theorem entry_ba_getitem : entryFor table "bytearray.__getitem__" = some «bytearray.__getitem__» := by first | exact entryFor_of_fast (by kernel_rfl) | exact entryFor_of_tree (by kernel_rfl)
theorem entry_ba_setitem : entryFor table "bytearray.__setitem__" = some «bytearray.__setitem__» := by first | exact entryFor_of_fast (by kernel_rfl) | exact entryFor_of_tree (by kernel_rfl)
theorem entry_ba_delitem : entryFor table "bytearray.__delitem__" = some «bytearray.__delitem__» := by first | exact entryFor_of_fast (by kernel_rfl) | exact entryFor_of_tree (by kernel_rfl)
theorem entry_ba_ne : entryFor table "bytearray.__ne__" = some «bytearray.__ne__» := by first | exact entryFor_of_fast (by kernel_rfl) | exact entryFor_of_tree (by kernel_rfl)
theorem entry_ba_init : entryFor table "bytearray.__init__" = some «bytearray.__init__» := by first | exact entryFor_of_fast (by kernel_rfl) | exact entryFor_of_tree (by kernel_rfl)
theorem entry_ba_extend : entryFor table "bytearray.extend" = some «bytearray.extend» := by first | exact entryFor_of_fast (by kernel_rfl) | exact entryFor_of_tree (by kernel_rfl)
theorem entry_bytes_join : entryFor table "bytes.join" = some «bytes.join» := by first | exact entryFor_of_fast (by kernel_rfl) | exact entryFor_of_tree (by kernel_rfl)
theorem args_ba_len (v : Value) : argsOk "bytearray.__len__" ⟨[v], []⟩ := by unfold argsOk; kernel_rfl
theorem args_ba_getitem (v i : Value) : argsOk "bytearray.__getitem__" ⟨[v, i], []⟩ := by unfold argsOk; kernel_rfl
theorem args_ba_setitem (v i x : Value) : argsOk "bytearray.__setitem__" ⟨[v, i, x], []⟩ := by unfold argsOk; kernel_rfl
theorem args_ba_delitem (v i : Value) : argsOk "bytearray.__delitem__" ⟨[v, i], []⟩ := by unfold argsOk; kernel_rfl
theorem args_ba_ne (v i : Value) : argsOk "bytearray.__ne__" ⟨[v, i], []⟩ := by unfold argsOk; kernel_rfl
theorem args_ba_init0 (v : Value) : argsOk "bytearray.__init__" ⟨[v], []⟩ := by unfold argsOk; kernel_rfl
theorem args_ba_init1 (v i : Value) : argsOk "bytearray.__init__" ⟨[v, i], []⟩ := by unfold argsOk; kernel_rfl
theorem args_ba_extend (v i : Value) : argsOk "bytearray.extend" ⟨[v, i], []⟩ := by unfold argsOk; kernel_rfl
theorem args_bytes_join (v i : Value) : argsOk "bytes.join" ⟨[v, i], []⟩ := by unfold argsOk; kernel_rfl
section
variable {M : Model} {A : Around} {E : Value → Shared → Prop} {s : Shared} {a : Addr} {b : Array UInt8}
theorem payload_ba {Q : Array UInt8 → Shared → Prop} (h : s.heap.get? a = some (baObj b)) (hQ : Q b s) : wpAny M A (Bytes.payload (.ref a)) Q E s := by
  unfold Bytes.payload Bytes.payload?
  exact wpAny_bind (wpAny_bind (wpAny_load h (wpAny_pure (wpAny_pure hQ))))
theorem payload?_ba {Q : Option (Array UInt8) → Shared → Prop} (h : s.heap.get? a = some (baObj b)) (hQ : Q (some b) s) : wpAny M A (Bytes.payload? (.ref a)) Q E s := by
  unfold Bytes.payload?
  exact wpAny_bind (wpAny_load h (wpAny_pure hQ))
theorem own_buffer_ba {Q : Bool → Shared → Prop} (h : s.heap.get? a = some (baObj b)) (hQ : Q true s) : wpAny M A (Bytes.slotIsOwn (.ref a) "__buffer__") Q E s := by
  unfold Bytes.slotIsOwn
  refine wpAny_bind (wpAny_specialOf (typeIs_ba h) ba_look_buffer ?_)
  dsimp only
  rw [show (!"bytearray.__buffer__".endsWith ("." ++ "__buffer__")) = false by decide +kernel, show "bytearray.__buffer__".dropRight ("__buffer__".length + 1) = "bytearray" by decide +kernel]
  exact wpAny_isInstance (typeIs_ba h) ba_sub hQ
theorem own_release_ba {Q : Bool → Shared → Prop} (h : s.heap.get? a = some (baObj b)) (hQ : Q false s) : wpAny M A (Bytes.ownRelease (.ref a)) Q E s := by
  unfold Bytes.ownRelease Bytes.slotIsOwn
  refine wpAny_bind (wpAny_bind (wpAny_specialOf (typeIs_ba h) ba_look_release ?_))
  dsimp only
  rw [show (!"bytearray.__release_buffer__".endsWith ("." ++ "__release_buffer__")) = false by decide +kernel, show "bytearray.__release_buffer__".dropRight ("__release_buffer__".length + 1) = "bytearray" by decide +kernel]
  exact wpAny_isInstance (typeIs_ba h) ba_sub (wpAny_pure hQ)
theorem buffer_ba {id : String} {full : Bool} {Q : Option (Array UInt8) → Shared → Prop} (h : s.heap.get? a = some (baObj b)) (hQ : Q (some b) s) : wpAny M A (Bytes.buffer? id (.ref a) full) Q E s := by
  unfold Bytes.buffer?
  refine wpAny_bind (wpAny_specialOf (typeIs_ba h) ba_look_buffer ?_)
  refine wpAny_bind (own_buffer_ba h ?_)
  refine wpAny_bind (wpAny_specialOf (typeIs_ba h) ba_look_buffer ?_)
  refine wpAny_bind (own_release_ba h ?_)
  exact wpAny_bind (payload_ba h (wpAny_pure hQ))
theorem bufferQuiet_ba {id : String} {Q : Option (Array UInt8) → Shared → Prop} (h : s.heap.get? a = some (baObj b)) (hQ : Q (some b) s) : wpAny M A (Bytes.bufferQuiet? id (.ref a)) Q E s := by
  unfold Bytes.bufferQuiet?
  exact wpAny_bind (wpAny_attempt (buffer_ba h (wpAny_pure hQ)))
theorem exportsOf_ba {Q : Nat → Shared → Prop} (h : s.heap.get? a = some (baObj b)) (hQ : Q 0 s) : wpAny M A (Bytes.exportsOf (.ref a)) Q E s := by
  unfold Bytes.exportsOf
  exact wpAny_bind (wpAny_load h (wpAny_pure hQ))
theorem write_ba {f : Array UInt8 → Array UInt8} {Q : Unit → Shared → Prop} (h : s.heap.get? a = some (baObj b)) (hz : (f b).size ≤ sizeLine) (hQ : Q () { s with heap := s.heap.update a (Obj.mapBytearray f) }) :
    wpAny M A (Bytes.write (.ref a) f) Q E s := by
  show wpAny _ _ (updateBytearray a f) _ _ _
  unfold updateBytearray
  refine wpAny_bind (wpAny_load h ?_)
  show wpAny _ _ (update a (Obj.mapBytearray f) >>= fun _ => lookBehind a) _ _ _
  refine wpAny_bind (wpAny_update h ?_)
  have h2 : (s.heap.update a (Obj.mapBytearray f)).get? a = some (baObj (f b)) := Heap.get?_update_self (Obj.mapBytearray f) h rfl
  refine wpAny_lookBehind h2 ?_ hQ
  show (if (f b).size > sizeLine then some "bytearray:memory" else none) = none
  rw [if_neg (by omega)]
theorem newBytearray_at {Q : Value → Shared → Prop} (hz : b.size ≤ sizeLine) (hQ : Q (.ref s.heap.objs.size) { s with heap := s.heap.push (baObj b) }) : wpAny M A (Bytes.newBytearray b) Q E s := by
  unfold Bytes.newBytearray
  exact wpAny_newObj_type hQ hz
theorem checkResize_ba {Q : Unit → Shared → Prop} (h : s.heap.get? a = some (baObj b)) (hQ : Q () s) : wpC M A (Bytes.checkResize (.ref a)) Q E s := by
  unfold Bytes.checkResize
  refine wpC_bind ?_
  show wpC M A (Bytes.exported (.ref a) >>= _) _ E s
  refine wpC_bind (wpC_exported ?_)
  refine ofAny ?_
  show wpAny M A (Bytes.exportsOf (.ref a) >>= _) _ E s
  exact wpAny_bind (exportsOf_ba h (wpAny_pure (ofAny (wpAny_pure hQ))))
end
end Mine
-- part Ba2
open PySem PySem.W PyProof.Rows PySem.Calls
namespace Mine
open Builtin
abbrev finC (M : Model) (A : Around) (R : Result → Shared → Prop) : Fin → Shared → Prop := fun fin s' => match fin with | .done f => R (.ok f) s' | .again c' => c'.quiet = true ∧ codeC M A c' R s'
section
variable {prog : Program} {w : World} {A : Around} {E : Value → Shared → Prop} {s : Shared} {R : Result → Shared → Prop}
theorem codeC_builtin {id : String} {args : Args} {b : Builtin} (hb : entryFor table id = some b) (hh : holds (.builtin id args) = false)
    (h : wpC (model prog w) (A.under (.builtin id args)) (b args) (finC (model prog w) A R) (fun e s' => R (.error e) s') s) :
    codeC (model prog w) A (.builtin id args) R s := by
  refine codeC_of_tree hh ?_
  show wpC _ _ (match entryFor table id with | some b => b args | none => unsupported ((withoutEnding? id "#data").getD id)) _ _ s
  rw [hb]; exact h
theorem codeC_call_builtin {id : String} {args : Args} {b : Builtin} (hq : plainId id = true) (hb : entryFor table id = some b) (hh : holdIds.contains id = false)
    (h : wpAny (model prog w) A.in1 (checkBuiltinCall id args) (fun _ s₁ => wpC (model prog w) A.in1 (b args) (finC (model prog w) A R) (fun e s' => R (.error e) s') s₁)
      (fun e s' => R (.error e) s') s) : codeC (model prog w) A (.call (.builtin id) args) R s := by
  refine codeC_of_tree rfl ?_
  show wpC _ A.in1 (do checkBuiltinCall id args; again (.builtin id args)) _ _ s
  refine wpC_bind (wpC_mono (ofAny h) (fun _ s₁ h₁ => wpC_pure (And.intro (plainId_quiet hq args) (codeC_builtin hb hh ?_))) fun _ _ h' => h')
  rw [Around.under_plainId hq args]; exact h₁
theorem wpC_call_entry {T : String} {name : PySem.Str} {id : String} {b : Builtin} {self : Value} {rest : List Value} {Q : Value → Shared → Prop} (h : Slot T name id) (hh : holdIds.contains id = false) (hT : s.TypeIs self T)
    (hb : entryFor table id = some b)
    (hc : wpC (model prog w) A.in1 (b ⟨self :: rest, []⟩) (finC (model prog w) A (wants Q E)) E s)
    (ha : argsOk id ⟨self :: rest, []⟩) : wpC (model prog w) A (call (.builtin id) (self :: rest)) Q E s :=
  wpC_call (codeC_call_builtin h.plain hb hh (h.check _ _ _ _ _ _ _ _ hT ha hc))
theorem callTypeC {T newId initId : String} {Bi : Builtin} {args : List Value} {Q Q₁ : Value → Shared → Prop} (ft : TypeCalled T newId initId) (hi : holdIds.contains initId = false)
    (hct : checkTypeCall T ⟨args, []⟩ = pure ()) (entryI : entryFor table initId = some Bi)
    (hnew : codeC (model prog w) A.in1 (.call (.builtin newId) ⟨.type T :: args, []⟩) (wants Q₁ E) s)
    (hnext : ∀ obj s₁, Q₁ obj s₁ → s₁.TypeIs obj T ∧ argsOk initId ⟨obj :: args, []⟩ ∧
      wpC (model prog w) A.in1.in1 (Bi ⟨obj :: args, []⟩) (finC (model prog w) A.in1 (wants (fun r s₂ => r = .none ∧ Q obj s₂) E)) E s₁) :
    wpC (model prog w) A (call (.type T) args) Q E s := by
  obtain ⟨c, tl, hmro⟩ := ft.mro
  have hmade := ft.made
  have hsub := ft.sub
  refine wpC_call (codeC_of_tree rfl ?_)
  show wpC _ _ (callAny (.type T) _) _ _ _
  refine wpC_pure ⟨Code.quiet_builtin _ (by decide +kernel), codeC_builtin F.entry_type_call (show holdIds.contains "type.__call__" = false by decide +kernel) ?_⟩
  rw [Around.under_plain (weight_type_call_type T args []) rfl]
  have h1 := ft.notType
  have h2 := ft.canCreate
  unfold Builtin.«type.__call__»
  show wpC _ _ (if (Value.type T == Value.type "type") = true then _ else _) _ _ _
  rw [if_neg (by rw [h1]; exact Bool.false_ne_true)]
  show wpC _ _ (if (_ : Bool) = true then _ else _) _ _ _
  rw [if_neg (by rw [h2]; exact Bool.false_ne_true)]
  refine wpC_bind (ofAny (wpAny_of_eq hct ?_))
  refine wpC_bind (ofAny (wpAny_of_eq hmro ?_))
  show wpC _ _ (if false = true then _ else _) _ _ _
  rw [if_neg Bool.false_ne_true]
  refine wpC_bind (ofAny (wpAny_of_eq hmade ?_))
  show wpC _ _ (pure (Value.builtin newId) >>= _) _ _ _
  refine wpC_bind (wpC_pure ?_)
  refine wpC_bind (wpC_holding (wpC_call (codeC_mono hnew fun r s₁ hr => ?_)))
  cases r with
  | error e => exact hr
  | ok fl =>
    cases fl with
    | ret obj =>
      obtain ⟨hT, hok, hsi⟩ := hnext _ _ hr
      show wpC _ _ (isInstance obj (.type T) >>= _) _ _ _
      refine wpC_bind (ofAny (wpAny_isInstance hT hsub ?_))
      show wpC _ _ (if false = true then _ else _) _ _ _
      rw [if_neg Bool.false_ne_true]
      refine wpC_bind (wpC_holding ?_)
      unfold callSpecial?
      refine wpC_bind (ofAny (wpAny_specialOf hT ft.init.lookup ?_))
      dsimp only
      refine wpC_holding (wpC_bind (ofAny (wpAny_of_eq (ft.init.bind obj) ?_)))
      dsimp only
      refine wpC_bind (wpC_call (codeC_call_builtin ft.init.plain entryI hi (ft.init.check _ _ _ _ _ _ _ _ hT hok (wpC_mono hsi (fun fin s₂ h₂ => ?_) fun _ _ e => e))))
      cases fin with
      | again c' => 
        refine ⟨h₂.1, codeC_mono h₂.2 fun r s₃ hr => ?_⟩
        cases r with
        | error e => exact hr
        | ok fl =>
          cases fl with
          | ret r =>
            obtain ⟨rfl, hq⟩ := hr
            refine wpC_pure ?_
            exact wpC_pure hq
          | _ => exact hr.elim
      | done fl =>
        cases fl with
        | ret r =>
          obtain ⟨rfl, hq⟩ := h₂
          refine wpC_pure ?_
          exact wpC_pure hq
        | _ => exact h₂.elim
    | _ => exact hr.elim
end
end Mine
-- part Ba3
open PySem PySem.W PyProof.Rows PySem.Calls
namespace Mine
open Builtin
def cut (lo hi : Option Int) (l : List UInt8) : List UInt8 := (l.drop (lo.elim 0 (clipAt l.length))).take (hi.elim l.length (clipAt l.length) - lo.elim 0 (clipAt l.length))
theorem picked_cut (lo hi : Option Int) (l : List UInt8) : KBy.picked l.toArray lo hi = (cut lo hi l).toArray := by rw [KBc.picked_eq]; rfl
theorem cut_length (lo hi : Option Int) (l : List UInt8) : (cut lo hi l).length ≤ l.length := by unfold cut; rw [List.length_take, List.length_drop]; omega
section
variable {M : Model} {prog : Program} {w : World} {A : Around} {E : Value → Shared → Prop} {s : Shared} {a : Addr} {l : List UInt8}
theorem if_no {α : Type} {c : Prop} [Decidable c] {t u : Sem α} {Q : α → Shared → Prop} (h : ¬ c) (k : wpAny M A u Q E s) : wpAny M A (if c then t else u) Q E s := by rw [if_neg h]; exact k
theorem if_yes {α : Type} {c : Prop} [Decidable c] {t u : Sem α} {Q : α → Shared → Prop} (h : c) (k : wpAny M A t Q E s) : wpAny M A (if c then t else u) Q E s := by rw [if_pos h]; exact k
theorem if_noC {α : Type} {c : Prop} [Decidable c] {t u : Sem α} {Q : α → Shared → Prop} (h : ¬ c) (k : wpC M A u Q E s) : wpC M A (if c then t else u) Q E s := by rw [if_neg h]; exact k
theorem if_yesC {α : Type} {c : Prop} [Decidable c] {t u : Sem α} {Q : α → Shared → Prop} (h : c) (k : wpC M A t Q E s) : wpC M A (if c then t else u) Q E s := by rw [if_pos h]; exact k
theorem partB {v : Value} {k : Option Int} {Q : Value → Shared → Prop} (hv : IsPart v k) (h : Q (rawPart k) s) :
    wpAny M A (do if v == .none then return .none
                  if (← specialOf v "__index__").isNone then
                    rule "bytes.slice.part-no-index"; raiseErrorWords "TypeError" "slice indices must be integers or None or have an __index__ method"
                  return rawInt (← asIndex v)) Q E s := by
  cases hv with
  | none => exact wpAny_pure h
  | int i t =>
    refine if_no (show ¬ ((Value.int i t == Value.none) = true) from Bool.false_ne_true) ?_
    refine wpAny_bind (wpAny_specialOf (T := "int") (typeIs_int s i t) int_index ?_)
    refine if_no (show ¬ ((some _ : Option Value).isNone = true) from Bool.false_ne_true) ?_
    exact wpAny_bind (wpAny_of_eq (a := i) rfl (wpAny_pure h))
theorem slicePartsB {sl : Addr} {vl vu : Value} {lo hi : Option Int} {Q : Value × Value × Value → Shared → Prop} (hs : s.heap.IsSliceOf sl vl vu .none) (pl : IsPart vl lo) (pu : IsPart vu hi)
    (h : Q (rawPart lo, rawPart hi, rawPart none) s) : wpAny M A (Bytes.sliceParts (.ref sl)) Q E s := by
  obtain ⟨os, hos, hcs, hds⟩ := hs
  unfold Bytes.sliceParts
  refine wpAny_bind (wpAny_field hos hds (x := .none) rfl ?_)
  refine wpAny_bind (wpAny_of_eq (a := Value.none) rfl ?_)
  refine if_no (show ¬ ((Value.none == rawInt 0) = true) from Bool.false_ne_true) ?_
  refine wpAny_bind (wpAny_field hos hds (x := vl) rfl ?_)
  refine wpAny_bind (partB pl ?_)
  refine wpAny_bind (wpAny_field hos hds (x := vu) rfl ?_)
  refine wpAny_bind (partB pu ?_)
  exact wpAny_pure h
theorem subscript_slice {sl : Addr} {Q : Option Int → Shared → Prop} (hT : s.TypeIs (.ref sl) "slice") (h : Q none s) : wpAny M A (Bytes.subscript? (.ref sl)) Q E s := by
  unfold Bytes.subscript?
  exact wpAny_bind (wpAny_specialOf hT slice_no_index (wpAny_pure h))
theorem subscript_int {i : Int} {t : Tok} {Q : Option Int → Shared → Prop} (hf : Bytes.fitsIndex i = true) (h : Q (some i) s) : wpAny M A (Bytes.subscript? (.int i t)) Q E s := by
  unfold Bytes.subscript?
  refine wpAny_bind (wpAny_specialOf (typeIs_int s i t) F.slot_int_index.lookup ?_)
  show wpAny M A (if (!Bytes.fitsIndex i) = true then _ else pure (some i)) _ E s
  rw [hf]
  exact wpAny_pure h
theorem slice_typeIs {sl : Addr} {vl vu vs : Value} (hs : s.heap.IsSliceOf sl vl vu vs) : s.TypeIs (.ref sl) "slice" := let ⟨o, h, c, _⟩ := hs; ⟨o, h, c⟩
theorem len_ba {b : Array UInt8} {Q : Value → Shared → Prop} (h : s.heap.get? a = some (baObj b)) (hfit : b.size ≤ sizeLine) (hQ : ∀ t k, Q (.int b.size t) { s with toks := k }) :
    wpAny (model prog w) A (call (.builtin "len") [.ref a]) Q E s := by
  rw [sizeLine_eq] at hfit
  refine Calls.call_function_entry kind_len plain_len entry_len (args_len1 _) ?_
  unfold Builtin.«len»
  refine wpAny_bind (m := oneArg "len" _) (wpAny_pure ?_)
  refine wpAny_bind (m := callSpecial? _ (Str.ofString "__len__")) (wpAny_callSpecial?_slot (name := Str.ofString "__len__") (typeIs_ba h) slot_ba_len
    (wpAny_call_entry slot_ba_len (typeIs_ba h) entry_ba_len ?_ (args_ba_len _)))
  show wpAny _ _ (Bytes.payload (.ref a) >>= _) _ _ _
  refine wpAny_bind (payload_ba h ?_)
  refine wpAny_bind (wpAny_mkInt (wpAny_pure ⟨_, rfl, ?_⟩))
  refine wpAny_bind (wpAny_holding (wpAny_pure ?_))
  refine wpAny_bind (wpAny_letGo ?_)
  refine if_no (by omega) ?_
  refine if_no (by omega) ?_
  exact wpAny_bind (wpAny_mkInt (wpAny_pure ⟨_, rfl, hQ _ _⟩))
theorem getItem_ba {i : Int} {u : Tok} {Q : Value → Shared → Prop} (h : s.heap.get? a = some (baObj l.toArray)) (h0 : 0 ≤ i) (h1 : i < l.length) (hz : l.length ≤ sizeLine)
    (hQ : ∀ t k, Q (.int (l.getD i.toNat 0).toNat t) { s with toks := k }) : wpAny (model prog w) A (getItem (.ref a) (.int i u)) Q E s := by
  rw [sizeLine_eq] at hz
  refine wpAny_getItem_slot (typeIs_ba h) (by decide) slot_ba_getitem (wpAny_call_entry slot_ba_getitem (typeIs_ba h) entry_ba_getitem ?_ (args_ba_getitem _ _))
  show wpAny _ _ (Bytes.subscript? (.int i u) >>= _) _ _ _
  refine wpAny_bind (subscript_int (by simp only [Bytes.fitsIndex, Bool.and_eq_true, decide_eq_true_eq]; omega) ?_)
  refine wpAny_bind (payload_ba h ?_)
  have hl : i.toNat < l.length := by omega
  have e : seqIndex? i l.toArray.size = some i.toNat := by
    have hn : ¬ i < 0 := by omega
    simp [seqIndex?, hn, h0, h1]
  have e2 : (seqIndex? i l.toArray.size).bind (l.toArray[·]?) = some (l.getD i.toNat 0) := by rw [e]; simp [hl]
  rw [e2]
  exact wpAny_bind (wpAny_mkInt (wpAny_pure ⟨_, rfl, hQ _ _⟩))
theorem getSlice_ba {sl : Addr} {vl vu : Value} {lo hi : Option Int} {Q : Value → Shared → Prop} (h : s.heap.get? a = some (baObj l.toArray)) (hs : s.heap.IsSliceOf sl vl vu .none) (pl : IsPart vl lo) (pu : IsPart vu hi) (hz : l.length ≤ sizeLine)
    (hQ : Q (.ref s.heap.objs.size) { s with heap := s.heap.push (baObj (cut lo hi l).toArray) }) : wpAny (model prog w) A (getItem (.ref a) (.ref sl)) Q E s := by
  have hT := slice_typeIs hs
  refine wpAny_getItem_slot (typeIs_ba h) (by decide) slot_ba_getitem (wpAny_call_entry slot_ba_getitem (typeIs_ba h) entry_ba_getitem ?_ (args_ba_getitem _ _))
  show wpAny _ _ (Bytes.subscript? (.ref sl) >>= _) _ _ _
  refine wpAny_bind (subscript_slice hT ?_)
  show wpAny _ _ (typeOf (.ref sl) >>= _) _ _ _
  refine wpAny_bind (wpAny_typeOf hT ?_)
  refine if_no (by decide) ?_
  refine wpAny_bind (slicePartsB hs pl pu ?_)
  refine wpAny_bind (payload_ba h ?_)
  refine wpAny_bind (wpAny_of_eq (sliceIndices_raw lo hi none _ (fun e => nomatch e)) ?_)
  have e : Bytes.sliced l.toArray (sliceBounds lo hi none l.toArray.size).1 (sliceBounds lo hi none l.toArray.size).2.1 (sliceBounds lo hi none l.toArray.size).2.2 = (cut lo hi l).toArray := picked_cut lo hi l
  dsimp only
  rw [e]
  exact wpAny_bind (newBytearray_at (by simpa using Nat.le_trans (cut_length lo hi l) hz) (wpAny_pure ⟨_, rfl, hQ⟩))
theorem byteValueB {x : Int} {t : Tok} {Q : UInt8 → Shared → Prop} (h0 : 0 ≤ x) (h1 : x < 256) (hQ : Q x.toNat.toUInt8 s) : wpAny M A (Bytes.byteValue (.int x t)) Q E s := by
  unfold Bytes.byteValue
  refine wpAny_bind (wpAny_of_eq (rfl : asIndex (.int x t) = pure x) ?_)
  refine if_no (by simp only [Bool.or_eq_true, decide_eq_true_eq]; omega) ?_
  exact wpAny_pure hQ
theorem setItem_ba {i x : Int} {u t : Tok} {Q : Unit → Shared → Prop} (h : s.heap.get? a = some (baObj l.toArray)) (h0 : 0 ≤ i) (h1 : i < l.length) (hz : l.length ≤ sizeLine) (x0 : 0 ≤ x) (x1 : x < 256)
    (hQ : Q () { s with heap := s.heap.update a (Obj.mapBytearray (·.setIfInBounds i.toNat x.toNat.toUInt8)) }) : wpAny (model prog w) A (setItem (.ref a) (.int i u) (.int x t)) Q E s := by
  have hz' := hz
  rw [sizeLine_eq] at hz
  unfold setItem
  refine wpAny_holding ?_
  refine wpAny_bind (wpAny_sequenceKey (typeIs_ba h) (by decide) ?_)
  refine wpAny_bind (wpAny_callSpecial?_slot (name := Str.ofString "__setitem__") (typeIs_ba h) slot_ba_setitem
    (wpAny_call_entry slot_ba_setitem (typeIs_ba h) entry_ba_setitem ?_ (args_ba_setitem _ _ _)))
  show wpAny _ _ (Bytes.subscript? (.int i u) >>= _) _ _ _
  refine wpAny_bind (subscript_int (by simp only [Bytes.fitsIndex, Bool.and_eq_true, decide_eq_true_eq]; omega) ?_)
  refine wpAny_bind (byteValueB x0 x1 ?_)
  refine wpAny_bind (payload_ba h ?_)
  have hl : i.toNat < l.length := by omega
  have e : seqIndex? i l.toArray.size = some i.toNat := by
    have hn : ¬ i < 0 := by omega
    simp [seqIndex?, hn, h0, h1]
  rw [e]
  refine wpAny_bind (write_ba h (by simpa using hz') ?_)
  exact wpAny_pure ⟨_, rfl, wpAny_pure hQ⟩
end
end Mine
-- part Ba4
open PySem PySem.W PyProof.Rows PySem.Calls
namespace Mine
open Builtin
theorem del_front (l : List UInt8) (k : Nat) : (l.zipIdx.filterMap fun (x, i) => if Bytes.selects 0 k 1 i then none else some x) = l.drop k := by
  have key : ∀ (l : List UInt8) (n : Nat), ((l.zipIdx n).filterMap fun (x, i) => if Bytes.selects 0 k 1 i then none else some x) = l.drop (k - n) := by
    intro l
    induction l with
    | nil => intro n; simp
    | cons x r ih =>
      intro n
      rw [List.zipIdx_cons, List.filterMap_cons]
      by_cases h : n < k
      · have e : Bytes.selects 0 k 1 n = true := by simp [Bytes.selects, h, Int.emod_one]
        simp only [e, if_true]
        rw [ih (n + 1), show k - n = (k - (n + 1)) + 1 by omega, List.drop_succ_cons]
      · have e : Bytes.selects 0 k 1 n = false := by simp [Bytes.selects, h]
        simp only [e, Bool.false_eq_true, if_false]
        rw [ih (n + 1), show k - n = 0 by omega, show k - (n + 1) = 0 by omega]
        rfl
  exact key l 0
section
variable {M : Model} {prog : Program} {w : World} {A : Around} {E : Value → Shared → Prop} {s : Shared} {a : Addr} {l : List UInt8}
theorem callSpecialC {self : Value} {T : String} {name : PySem.Str} {id : String} {args : List Value} {Q : Option Value → Shared → Prop} (hT : s.TypeIs self T) (h : Slot T name id)
    (hc : wpC M A (call (.builtin id) (self :: args)) (fun v => Q (some v)) E s) : wpC M A (callSpecial? self name args) Q E s := by
  unfold callSpecial?
  refine wpC_bind (ofAny (wpAny_specialOf hT h.lookup ?_))
  refine wpC_holding (wpC_bind (ofAny (wpAny_of_eq (h.bind self) ?_)))
  exact wpC_bind (wpC_mono hc (fun v s' h' => wpC_pure h') fun _ _ e => e)
theorem delFront_ba {sl : Addr} {vl vu : Value} {k : Int} {Q : Unit → Shared → Prop} (h : s.heap.get? a = some (baObj l.toArray)) (hs : s.heap.IsSliceOf sl vl vu .none) (pl : IsPart vl none) (pu : IsPart vu (some k)) (hz : l.length ≤ sizeLine)
    (h0 : 0 ≤ k) (hk : k ≤ l.length)
    (hQ : ∀ f, f l.toArray = (l.drop k.toNat).toArray → Q () { s with heap := s.heap.update a (Obj.mapBytearray f) }) : wpC (model prog w) A (delItem (.ref a) (.ref sl)) Q E s := by
  have hT := slice_typeIs hs
  unfold delItem
  refine wpC_holding ?_
  refine wpC_bind (ofAny (wpAny_sequenceKey (typeIs_ba h) (by decide) ?_))
  refine wpC_bind (callSpecialC (name := Str.ofString "__delitem__") (typeIs_ba h) slot_ba_delitem (wpC_call_entry slot_ba_delitem (by decide +kernel) (typeIs_ba h) entry_ba_delitem ?_ (args_ba_delitem _ _)))
  show wpC _ _ (Bytes.subscript? (.ref sl) >>= _) _ _ _
  refine wpC_bind (ofAny (subscript_slice hT ?_))
  show wpC _ _ (typeOf (.ref sl) >>= _) _ _ _
  refine wpC_bind (ofAny (wpAny_typeOf hT ?_))
  refine if_noC (by decide) ?_
  refine wpC_bind (ofAny (slicePartsB hs pl pu ?_))
  refine wpC_bind (ofAny (payload_ba h ?_))
  refine wpC_bind (ofAny (wpAny_of_eq (sliceIndices_raw none (some k) none _ (fun e => nomatch e)) ?_))
  rw [sliceBounds_plain]
  have hc : (some k).elim l.toArray.size (clipAt l.toArray.size) = k.toNat := by
    show clipAt l.toArray.size k = _
    unfold clipAt
    simp only [List.size_toArray]
    rw [if_neg (by omega)]; omega
  rw [hc]
  refine wpC_bind (wpC_rule ?_)
  have fin : wpC (model prog w) A.in1 (do Bytes.write (.ref a) fun b => (b.toList.zipIdx.filterMap fun (x, k_1) => if Bytes.selects 0 (k.toNat : Int) 1 k_1 then none else some x).toArray; ret .none)
      (finC (model prog w) A (wants (fun v s' => wpC (model prog w) A (match some v with | some _ => pure () | none => do
        if (← specialOf (.ref a) "__setitem__").isSome then rule "delitem.setitem-only"; raiseErrorWords "AttributeError" "__setitem__"
        let asIndex ← takenAsIndex (.ref a) (.ref sl)
        rule "delitem.unsupported"
        raiseErrorMade "TypeError" s!"'{← typeNameOf (.ref a)}' object {if asIndex then "doesn't" else "does not"} support item deletion") Q E s') E)) E s := by
    refine wpC_bind (ofAny (write_ba h ?_ ?_))
    · show (Array.size (List.toArray _)) ≤ _
      rw [List.size_toArray]
      have := del_front l k.toNat
      simp only [Array.toList] at this ⊢
      rw [this, List.length_drop]; omega
    · refine ofAny (wpAny_pure ?_)
      refine wpC_pure (hQ _ ?_)
      exact congrArg List.toArray (del_front l k.toNat)
  by_cases hlt : (0 : Int) < (k.toNat : Int)
  · refine if_yesC (by simpa using hlt) ?_
    refine wpC_bind (checkResize_ba h ?_)
    exact fin
  · refine if_noC (by simpa using hlt) ?_
    exact fin
theorem extend_ba {m : List UInt8} {t : Tok} {Q : Value → Shared → Prop} (h : s.heap.get? a = some (baObj l.toArray)) (hz : l.length + m.length ≤ sizeLine)
    (hQ : Q .none { s with heap := s.heap.update a (Obj.mapBytearray (· ++ m.toArray)) }) : wpC (model prog w) A (call (.builtin "bytearray.extend") [.ref a, .bytes m.toArray t]) Q E s := by
  refine wpC_call_entry slot_ba_extend (by decide +kernel) (typeIs_ba h) entry_ba_extend ?_ (args_ba_extend _ _)
  unfold «bytearray.extend»
  refine wpC_bind (ofAny (wpAny_of_eq (a := (Value.ref a, Value.bytes m.toArray t)) rfl ?_))
  dsimp only
  refine wpC_bind (ofAny (wpAny_of_eq (KBy.special_eq KBy.look_buffer) ?_))
  refine if_yesC rfl ?_
  refine wpC_bind (wpC_rule ?_)
  refine wpC_bind (ofAny (payload_ba h ?_))
  have tb : Bytes.takeBufferQuiet? "bytearray.extend" (.bytes m.toArray t) 0 = pure (some (m.toArray, none)) := by
    have e1 : Bytes.takeBuffer? "bytearray.extend" (.bytes m.toArray t) 0 = pure (some (m.toArray, none)) := by
      unfold Bytes.takeBuffer?
      rw [KBy.special_eq KBy.look_buffer, KBy.own_buffer]
      show (Bytes.buffer? "bytearray.extend" (.bytes m.toArray t) _ >>= _) = _
      rw [show ((0 : Int) == Bytes.fullReadOnly) = false by decide]
      rw [KBy.buffer_eq]
      rfl
    unfold Bytes.takeBufferQuiet?
    rw [e1]; rfl
  refine wpC_bind (ofAny (wpAny_of_eq tb ?_))
  dsimp only
  refine if_yesC rfl ?_
  have fin : wpC (model prog w) A.in1 (do Bytes.write (.ref a) (· ++ m.toArray); ret .none) (finC (model prog w) A (wants Q E)) E s :=
    wpC_bind (ofAny (write_ba h (by simpa using hz) (wpC_pure hQ)))
  show wpC _ _ ((if (!m.toArray.isEmpty) = true then _ else _) : Sem Fin) _ _ _
  by_cases hm : m.toArray.isEmpty = true
  · refine if_noC (by rw [hm]; exact Bool.false_ne_true) ?_
    exact fin
  · refine if_yesC (by simpa using hm) ?_
    exact wpC_bind (checkResize_ba h fin)
end
end Mine
-- part Ba5
open PySem PySem.W PyProof.Rows PySem.Calls
namespace Mine
open Builtin
theorem ba_plain_new : plainId "bytearray.__new__" = true := by decide +kernel
theorem ba_called : TypeCalled "bytearray" "bytearray.__new__" "bytearray.__init__" :=
  ⟨by decide +kernel, by decide +kernel, ⟨_, _, ba_mro⟩, madeBy_type ba_mro ba_look_new (by decide +kernel), ba_plain_new, by rw [isSubtype_type]; kernel_rfl, slot_ba_init⟩
theorem ba_typeCall0 : checkTypeCall "bytearray" ⟨[], []⟩ = pure () := by kernel_rfl
theorem ba_typeCall1 (a : Value) : checkTypeCall "bytearray" ⟨[a], []⟩ = pure () := by kernel_rfl
theorem ba_newCall0 : checkBuiltinCall "bytearray.__new__" ⟨[.type "bytearray"], []⟩ = pure () := by kernel_rfl
theorem ba_newCall1 (a : Value) : checkBuiltinCall "bytearray.__new__" ⟨[.type "bytearray", a], []⟩ = pure () := by kernel_rfl
theorem ba_entry_new : entryFor table "bytearray.__new__" = some «list.__new__» := entryFor_alias (id' := "list.__new__") (by kernel_rfl) (by first | rfl | decide +kernel) (by decide +kernel) (by kernel_rfl)
set_option maxHeartbeats 4000000 in
theorem ba_owner : ("bytearray.__new__".splitOn ".__new__").headD "" = "bytearray" := by simp +decide [String.splitOn, String.splitOnAux]
theorem ba_bind0 : Bytes.bindOptional "bytearray.__init__" "bytearray" ["source", "encoding", "errors"] [] [] = pure [none, none, none] := by kernel_rfl
theorem ba_bind1 (v : Value) : Bytes.bindOptional "bytearray.__init__" "bytearray" ["source", "encoding", "errors"] [v] [] = pure [some v, none, none] := by kernel_rfl
section
variable {M : Model} {prog : Program} {w : World} {A : Around} {E : Value → Shared → Prop} {s : Shared} {a : Addr} {l : List UInt8}
theorem code_ba_new {args : List Value} {Q₁ : Value → Shared → Prop} (hc : checkBuiltinCall "bytearray.__new__" ⟨.type "bytearray" :: args, []⟩ = pure ())
    (h : Q₁ (.ref s.heap.objs.size) { s with heap := s.heap.push (baObj #[]) }) :
    codeAny (model prog w) A (.call (.builtin "bytearray.__new__") ⟨.type "bytearray" :: args, []⟩) (wants Q₁ E) s := by
  refine codeAny_of_tree ?_
  show wpAny _ A.in1 (do checkBuiltinCall "bytearray.__new__" ⟨.type "bytearray" :: args, []⟩; again (.builtin "bytearray.__new__" ⟨.type "bytearray" :: args, []⟩)) _ _ s
  refine wpAny_bind (wpAny_of_eq hc (wpAny_pure ⟨plainId_quiet ba_plain_new _, codeAny_builtin_stack ba_entry_new rfl fun p st => ?_⟩))
  rw [Around.under_plainId ba_plain_new _]
  have hsub := ba_sub
  have hown := ba_owner
  dsimp only
  simp only [hown]
  refine wpAny_bind (wpAny_of_eq (a := true) rfl ?_)
  refine if_no (by decide) ?_
  refine wpAny_bind (wpAny_of_eq hsub ?_)
  refine if_no (by decide) ?_
  refine wpAny_bind (wpAny_of_eq (a := Data.bytearray #[]) rfl ?_)
  refine if_yes (by decide +kernel) ?_
  refine wpAny_bind ?_
  exact wpAny_newObj_type (wpAny_pure h) (Nat.zero_le _)
theorem init0_ba {Q : Value → Shared → Prop} (h : s.heap.get? a = some (baObj #[])) (hQ : ∀ h', h' = s.heap.update a (Obj.mapBytearray fun _ => #[]) → Q .none { s with heap := h' }) :
    wpC (model prog w) A.in1 («bytearray.__init__» ⟨[.ref a], []⟩) (finC (model prog w) A (wants Q E)) E s := by
  unfold «bytearray.__init__»
  refine wpC_bind (ofAny (own_release_ba h ?_))
  refine if_noC (by decide) ?_
  refine wpC_bind (ofAny (wpAny_of_eq ba_bind0 ?_))
  refine wpC_bind (ofAny (wpAny_of_eq (a := ()) rfl ?_))
  refine wpC_bind (ofAny (wpAny_of_eq (a := ()) rfl ?_))
  refine wpC_bind ?_
  show wpC _ _ (Bytes.exported (.ref a) >>= _) _ _ _
  refine wpC_bind (wpC_exported ?_)
  refine ofAny ?_
  show wpAny _ _ (Bytes.exportsOf (.ref a) >>= _) _ _ _
  refine wpAny_bind (exportsOf_ba h (wpAny_pure ?_))
  refine if_noC (by decide) ?_
  refine wpC_bind (ofAny (write_ba h (by simp) ?_))
  exact wpC_pure (hQ _ rfl)
theorem init1_ba {m : List UInt8} {t : Tok} {Q : Value → Shared → Prop} (h : s.heap.get? a = some (baObj #[])) (hz : m.length ≤ sizeLine)
    (hQ : ∀ h', h' = (s.heap.update a (Obj.mapBytearray fun _ => #[])).update a (Obj.mapBytearray fun _ => m.toArray) → Q .none { s with heap := h' }) :
    wpC (model prog w) A.in1 («bytearray.__init__» ⟨[.ref a, .bytes m.toArray t], []⟩) (finC (model prog w) A (wants Q E)) E s := by
  unfold «bytearray.__init__»
  refine wpC_bind (ofAny (own_release_ba h ?_))
  refine if_noC (by decide) ?_
  refine wpC_bind (ofAny (wpAny_of_eq (ba_bind1 _) ?_))
  refine wpC_bind (ofAny (wpAny_of_eq (a := ()) rfl ?_))
  refine wpC_bind (ofAny (wpAny_of_eq (a := ()) rfl ?_))
  refine wpC_bind ?_
  show wpC _ _ (Bytes.exported (.ref a) >>= _) _ _ _
  refine wpC_bind (wpC_exported ?_)
  refine ofAny ?_
  show wpAny _ _ (Bytes.exportsOf (.ref a) >>= _) _ _ _
  refine wpAny_bind (exportsOf_ba h (wpAny_pure ?_))
  refine if_noC (by decide) ?_
  refine wpC_bind (ofAny (write_ba h (by simp) ?_))
  dsimp only
  have h2 : (s.heap.update a (Obj.mapBytearray fun _ => #[])).get? a = some (baObj #[]) := Heap.get?_update_self (Obj.mapBytearray fun _ => #[]) h rfl
  refine wpC_bind (ofAny (wpAny_of_eq (a := none) rfl ?_))
  refine if_noC (by decide) ?_
  refine wpC_bind (ofAny (wpAny_of_eq (a := ()) rfl ?_))
  refine wpC_bind (ofAny (wpAny_of_eq (KBy.special_eq bytes_no_index) ?_))
  refine if_noC (by decide) ?_
  refine wpC_bind (ofAny (wpAny_of_eq (a := some m.toArray) ?_ ?_))
  · unfold Bytes.buffer?
    rw [KBy.special_eq KBy.look_buffer, KBy.own_buffer, KBy.own_release]
    rfl
  · dsimp only
    refine wpC_bind (wpC_rule ?_)
    refine wpC_bind (ofAny (write_ba (s := { s with heap := s.heap.update a (Obj.mapBytearray fun _ => #[]) }) h2 (by simpa using hz) ?_))
    exact wpC_pure (hQ _ rfl)
theorem update_push_self (h : Heap) (o : Obj) (f : Obj → Obj) : (h.push o).update h.objs.size f = h.push (f o) := by
  obtain ⟨objs, life⟩ := h
  show (⟨(objs.push o).modify objs.size f, life⟩ : Heap) = ⟨objs.push (f o), life⟩
  congr 1
  apply Array.ext
  · simp
  · intro i h1 h2
    rw [Array.getElem_modify, Array.getElem_push, Array.getElem_push]
    by_cases q : i < objs.size
    · rw [dif_pos q, dif_pos q, if_neg (by omega)]
    · rw [dif_neg q, dif_neg q, if_pos (by simp at h1; omega)]
theorem new_ba {Q : Value → Shared → Prop} (hQ : Q (.ref s.heap.objs.size) { s with heap := s.heap.push (baObj #[]) }) : wpC (model prog w) A (call (.type "bytearray") []) Q E s := by
  refine callTypeC (Q₁ := fun obj s₁ => obj = .ref s.heap.objs.size ∧ s₁ = { s with heap := s.heap.push (baObj #[]) }) ba_called (by decide +kernel) ba_typeCall0 entry_ba_init (codeC_ofAny (code_ba_new ba_newCall0 ⟨rfl, rfl⟩)) ?_
  rintro obj s₁ ⟨rfl, rfl⟩
  have h2 : (s.heap.push (baObj #[])).get? s.heap.objs.size = some (baObj #[]) := Heap.get?_push_size _ rfl
  refine ⟨typeIs_ba h2, args_ba_init0 _, init0_ba h2 ?_⟩
  rintro h' rfl
  refine ⟨rfl, ?_⟩
  dsimp only
  rw [update_push_self]; exact hQ
theorem new1_ba {m : List UInt8} {t : Tok} {Q : Value → Shared → Prop} (hz : m.length ≤ sizeLine) (hQ : Q (.ref s.heap.objs.size) { s with heap := s.heap.push (baObj m.toArray) }) : wpC (model prog w) A (call (.type "bytearray") [.bytes m.toArray t]) Q E s := by
  refine callTypeC (Q₁ := fun obj s₁ => obj = .ref s.heap.objs.size ∧ s₁ = { s with heap := s.heap.push (baObj #[]) }) ba_called (by decide +kernel) (ba_typeCall1 _) entry_ba_init (codeC_ofAny (code_ba_new (ba_newCall1 _) ⟨rfl, rfl⟩)) ?_
  rintro obj s₁ ⟨rfl, rfl⟩
  have h2 : (s.heap.push (baObj #[])).get? s.heap.objs.size = some (baObj #[]) := Heap.get?_push_size _ rfl
  refine ⟨typeIs_ba h2, args_ba_init1 _ _, init1_ba h2 hz ?_⟩
  rintro h' rfl
  refine ⟨rfl, ?_⟩
  dsimp only
  rw [update_push_self, update_push_self]; exact hQ
theorem bytes_of_ba {Q : Value → Shared → Prop} (h : s.heap.get? a = some (baObj l.toArray)) (hz : l.length ≤ sizeLine) (hQ : ∀ t k, Q (.bytes l.toArray t) { s with toks := k }) :
    wpAny (model prog w) A (call (.type "bytes") [.ref a]) Q E s := by
  refine callType_codes (Q₁ := fun obj s₁ => s₁.TypeIs obj "bytes" ∧ Q obj s₁) F.bm_called (F.bm_typeCall _) F.entry_object_init ?_ fun obj s₁ h₁ => ?_
  · refine codeAny_of_tree ?_
    show wpAny _ _ (do checkBuiltinCall "bytes.__new__" ⟨[.type "bytes", .ref a], []⟩; again (.builtin "bytes.__new__" ⟨[.type "bytes", .ref a], []⟩)) _ _ s
    refine wpAny_bind (wpAny_of_eq (F.bm_newCall _) (wpAny_pure ⟨plainId_quiet F.bm_plain _, codeAny_builtin F.bm_entry ?_⟩))
    rw [Around.under_plainId F.bm_plain _]
    unfold «bytes.__new__»
    refine wpAny_bind (wpAny_of_eq (a := true) rfl ?_)
    refine if_no (by decide) ?_
    refine wpAny_bind (wpAny_of_eq F.bm_sub ?_)
    refine if_no (by decide) ?_
    refine wpAny_bind (wpAny_of_eq (F.bm_bind _) ?_)
    refine wpAny_bind (wpAny_of_eq (a := ()) rfl ?_)
    refine wpAny_bind (wpAny_of_eq (a := ()) rfl ?_)
    refine if_no (by decide) ?_
    refine wpAny_bind (wpAny_specialOf (typeIs_ba h) ba_no_bytes ?_)
    refine wpAny_bind (wpAny_bind ?_)
    show wpAny _ _ (load a >>= _) _ _ _
    refine wpAny_bind (wpAny_load h ?_)
    refine wpAny_pure (wpAny_pure ?_)
    refine if_no (by decide) ?_
    refine wpAny_bind (wpAny_specialOf (typeIs_ba h) ba_no_index ?_)
    refine if_yes rfl ?_
    first
      | show wpAny _ _ (Bytes.buffer? "bytes.__new__" (.ref a) true >>= _) _ _ _
      | (refine wpAny_bind ?_; show wpAny _ _ (Bytes.buffer? "bytes.__new__" (.ref a) true >>= _) _ _ _)
    refine wpAny_bind (buffer_ba h ?_)
    dsimp only
    refine wpAny_bind (wpAny_rule ?_)
    refine wpAny_bind (wpAny_mkBytes ?_ (by simpa using hz))
    first
      | exact wpAny_bind (wpAny_pure (wpAny_pure ⟨PySem.W.typeIs_bytes _ _ _, hQ _ _⟩))
      | exact wpAny_bind (wpAny_pure (wpAny_pure (wpAny_pure ⟨PySem.W.typeIs_bytes _ _ _, hQ _ _⟩)))
      | exact wpAny_pure ⟨PySem.W.typeIs_bytes _ _ _, hQ _ _⟩
  · exact ⟨h₁.1, F.args_object_init_2 obj _, object_init_meets F.bm_called.init.lookup F.bm_called.made (by decide) prog w A.in1 _ s₁ ⟨h₁.1, rfl, h₁.2⟩⟩
end
end Mine
-- part Ba6
open PySem PySem.W PyProof.Rows PySem.Calls
namespace Mine
open Builtin
section
variable {M : Model} {prog : Program} {w : World} {A : Around} {E : Value → Shared → Prop} {s : Shared} {a : Addr} {l : List UInt8}
theorem ne_ba_bytes {m : List UInt8} {t : Tok} {Q : Value → Shared → Prop} (h : s.heap.get? a = some (baObj l.toArray)) (hu : A.units < cLine) (hQ : Q (.bool (l != m)) s) :
    wpAny (model prog w) A (compareOp .NotEq (.ref a) (.bytes m.toArray t)) Q E s := by
  show wpAny _ _ (richCompare .NotEq _ _) _ _ _
  have hT := typeIs_ba h
  unfold richCompare
  refine wpAny_holding ?_
  refine wpAny_bind (wpAny_cRoomFor_or (.inr hu) ?_)
  rw [hT.oneThing_none]
  dsimp only
  refine wpAny_bind (wpAny_typeOf hT ?_)
  refine wpAny_bind (wpAny_typeOf (PySem.W.typeIs_bytes _ _ _) ?_)
  refine if_yes (by decide) ?_
  refine wpAny_bind (wpAny_of_eq bytes_sub_ba ?_)
  refine if_no (by decide) ?_
  refine wpAny_bind (wpAny_tryCompare_slot hT slot_ba_ne (wpAny_call_entry slot_ba_ne hT entry_ba_ne ?_ (args_ba_ne _ _)))
  show wpAny _ _ (Bytes.buffer? s!"bytearray.{"__ne__"}" (.ref a) >>= _) _ _ _
  refine wpAny_bind (buffer_ba h ?_)
  dsimp only
  refine wpAny_bind (wpAny_of_eq KBy.quiet_eq ?_)
  dsimp only
  refine wpAny_pure ⟨_, rfl, (by intro e; cases e), wpAny_pure ?_⟩
  rw [show Bytes.holds "__ne__" (Bytes.order l.toArray.toList m.toArray.toList) = (l != m) by
    show (Bytes.order l m != .eq) = _
    rw [bne, order_eq]; rfl]
  exact hQ
theorem isinstance_ba {Q : Value → Shared → Prop} (h : s.heap.get? a = some (baObj l.toArray)) (hQ : Q (.bool true) s) : wpAny (model prog w) A (call (.builtin "isinstance") [.ref a, .type "bytearray"]) Q E s :=
  call_isinstance (isinstance_true (Tx := "bytearray") F.isi_meta_bytearray ba_sub) ⟨typeIs_ba h, hQ⟩
theorem isinstance_by {m : List UInt8} {t : Tok} {Q : Value → Shared → Prop} (hQ : Q (.bool true) s) : wpAny (model prog w) A (call (.builtin "isinstance") [.bytes m.toArray t, .type "bytes"]) Q E s :=
  call_isinstance (isinstance_true (Tx := "bytes") F.isi_meta_bytes F.bm_sub) ⟨PySem.W.typeIs_bytes _ _ _, hQ⟩
theorem join_name : s!"{Bytes.Kind.bytes.name}.join" = "bytes.join" := by decide +kernel
theorem seqItems_list {x : Addr} {n : Nat} {vs : Array Value} {Q : Option (Array Value) → Shared → Prop} (h : s.heap.get? x = some ⟨.type "list", none, .seq vs n, #[]⟩) (hQ : Q (some vs) s) : wpAny M A (seqItems? (.ref x)) Q E s := by
  unfold seqItems?
  exact wpAny_bind (wpAny_load h (wpAny_pure hQ))
theorem join_by {e : Array UInt8} {et : Tok} {x : Addr} {n : Nat} {m : List UInt8} {t : Tok} {Q : Value → Shared → Prop} (h : s.heap.get? x = some ⟨.type "list", none, .seq #[.bytes m.toArray t] n, #[]⟩) (hQ : Q (.bytes m.toArray t) s) :
    wpAny (model prog w) A (call (.builtin "bytes.join") [.bytes e et, .ref x]) Q E s := by
  have hT : s.TypeIs (.ref x) "list" := ⟨_, h, rfl⟩
  refine wpAny_call_entry slot_bytes_join (PySem.W.typeIs_bytes _ _ _) entry_bytes_join ?_ (args_bytes_join _ _)
  show wpAny _ _ (Bytes.joinM .bytes _) _ _ _
  unfold Bytes.joinM
  refine wpAny_bind (wpAny_of_eq (a := (Value.bytes e et, Value.ref x)) rfl ?_)
  dsimp only
  refine if_yes rfl ?_
  refine wpAny_bind ?_
  unfold Bytes.joinItems
  refine wpAny_bind (wpAny_typeOf hT ?_)
  refine if_yes (by decide) (wpAny_pure ?_)
  refine wpAny_bind (seqItems_list h ?_)
  dsimp only
  refine if_yes rfl ?_
  refine wpAny_bind (wpAny_typeOf (PySem.W.typeIs_bytes _ _ _) ?_)
  refine if_yes (by decide) ?_
  exact wpAny_bind (wpAny_rule (wpAny_pure ⟨_, rfl, hQ⟩))
theorem join_ba {et : Tok} {x : Addr} {n : Nat} {Q : Value → Shared → Prop} (h : s.heap.get? x = some ⟨.type "list", none, .seq #[.ref a] n, #[]⟩) (ha : s.heap.get? a = some (baObj l.toArray)) (hz : l.length ≤ sizeLine)
    (hQ : ∀ t k, Q (.bytes l.toArray t) { s with toks := k }) :
    wpAny (model prog w) A (call (.builtin "bytes.join") [.bytes #[] et, .ref x]) Q E s := by
  have hT : s.TypeIs (.ref x) "list" := ⟨_, h, rfl⟩
  have hTa := typeIs_ba ha
  refine wpAny_call_entry slot_bytes_join (PySem.W.typeIs_bytes _ _ _) entry_bytes_join ?_ (args_bytes_join _ _)
  show wpAny _ _ (Bytes.joinM .bytes _) _ _ _
  unfold Bytes.joinM
  refine wpAny_bind (wpAny_of_eq (a := (Value.bytes #[] et, Value.ref x)) rfl ?_)
  dsimp only
  refine if_yes rfl ?_
  refine wpAny_bind ?_
  unfold Bytes.joinItems
  refine wpAny_bind (wpAny_typeOf hT ?_)
  refine if_yes (by decide) (wpAny_pure ?_)
  refine wpAny_bind (seqItems_list h ?_)
  dsimp only
  refine if_yes rfl ?_
  refine wpAny_bind (wpAny_typeOf hTa ?_)
  refine if_no (by decide) ?_
  simp only [Std.Legacy.Range.forIn_eq_forIn_range', Std.Legacy.Range.size]
  refine wpAny_bind ?_
  rw [show List.range' 0 ((#[Value.ref a].size - 0 + 1 - 1) / 1) = [0] by simp [List.range'], List.forIn_cons]
  refine wpAny_bind (wpAny_bind (seqItems_list h ?_))
  dsimp only
  refine if_no (by decide) ?_
  refine wpAny_bind (wpAny_holding ?_)
  unfold Bytes.takeBufferQuiet?
  refine wpAny_bind (wpAny_attempt ?_)
  unfold Bytes.takeBuffer?
  refine wpAny_bind (wpAny_specialOf hTa ba_look_buffer ?_)
  refine wpAny_bind (own_buffer_ba ha ?_)
  refine if_no (by decide) ?_
  refine wpAny_bind (wpAny_specialOf hTa ba_look_buffer ?_)
  refine wpAny_bind (buffer_ba ha (wpAny_pure ?_))
  refine wpAny_pure ?_
  dsimp only
  refine wpAny_bind (seqItems_list h ?_)
  dsimp only
  refine if_no (by simp) ?_
  refine wpAny_pure ?_
  dsimp only
  rw [List.forIn_nil]
  refine wpAny_pure ?_
  dsimp only
  refine wpAny_bind (wpAny_of_eq (a := #[]) rfl ?_)
  have e1 : Bytes.tooLong (Array.foldl (fun x1 x2 => x1 + Array.size x2) ((#[] : Array UInt8).size * ((#[].push l.toArray : Array (Array UInt8)).size - 1)) (#[].push l.toArray)) = false := by
    show decide (0 + l.toArray.size > sizeLine) = false
    simp; omega
  refine if_no (by rw [e1]; exact Bool.false_ne_true) ?_
  show wpAny _ _ (mkBytes _ >>= _) _ _ _
  have e2 : Bytes.joined #[] (#[].push l.toArray : Array (Array UInt8)).toList = l.toArray := by
    show ((#[] : Array UInt8) ++ l.toArray) = l.toArray
    simp
  rw [e2]
  refine wpAny_bind (wpAny_mkBytes ?_ (by simpa using hz))
  refine wpAny_bind (wpAny_holding (wpAny_point ?_))
  unfold Bytes.joinLetGo
  refine wpAny_bind (wpAny_bind (wpAny_letGo ?_))
  unfold Bytes.joinLetGo
  exact wpAny_pure (wpAny_pure ⟨_, rfl, hQ _ _⟩)
end
end Mine
-- part Iv1
open PySem PySem.W PyProof.Rows PySem.Calls
namespace Mine
/-! Names, constants, arguments -/
theorem avOf_rel {W : Wd} {v : Value} {a : AV} (h : avOf v = some a) : VRel W a v := by
  cases v with
  | bytes b t =>
    cases h
    have := VRel.bytes (W := W) (b := b.toList) (t := t)
    rwa [Array.toArray_toList] at this
  | _ => first | (cases h; first | exact .none | exact .lit | exact .int | exact .str | exact .const rfl) | cases h
def X.ofOpt {α : Type} (o : Option α) : X α := fun p st => match o with
  | some a => some (.ok a, p, True, st)
  | none => none
def X.need (c : Prop) : X Unit := fun p st => some (.ok (), p, c, st)
def localX (x : Str) : X AV := fun p st => match st.fr with
  | [] => none
  | loc :: _ => match getK x loc with
    | some a => some (.ok a, p, True, st)
    | none => none
def nameX (T : Tab) (sc : Scope) (x : Str) : X AV := match x == ("__debug__" : Str) with
  | true => X.fail
  | false => match sc.names.lookup x with
    | some .local => localX x
    | some .cell => localX x
    | some .globalImplicit => X.ofOpt (getK x T.gl)
    | _ => X.fail
def constX : Const → X AV
  | .none => pure .none
  | .bool b => pure (.lit b)
  | .int i => pure (.int i)
  | .str s => pure (.str s)
  | .bytes b => fun p st => some (.ok (.bytes b), p, True, st)
  | _ => X.fail
section
variable {S : Stc} {A : Around} {fs : List Fm} {W : Wd} {f : Fm}
/-- a tree that changes nothing but tokens -/
theorem Sim.still {α β : Type} {rel : Wd → α → β → Prop} {o : Option α} {t : Sem β}
    (h : ∀ a st s, o = some a → Rep S W (Las fs) st s → ∀ (Q : β → Shared → Prop) E, (∀ b k, rel W a b → Q b { s with toks := k }) → wpC (model S.prog S.w) A t Q E s) : Sim S A fs rel W (X.ofOpt o) t := by
  intro p st r p' c st' e hc s R Q E P
  unfold X.ofOpt at e
  split at e
  · rename_i a
    cases e
    exact h a st s rfl R Q E fun b k hb => P W _ (.refl W) (R.toks k) b hb
  · cases e
theorem sim_name (O : S.Ok) {k : Nat} {hb : Bool} {fs : List Fm} (C : CxOk k hb A (f :: fs)) {x : Str} {pos : Pos} : Sim S A (f :: fs) VRel W (nameX S.T f.sc x) (eval (.Name x pos) f.env) := by
  have hk := C.kind f (.head _)
  unfold nameX
  split
  · exact .fail
  · rename_i hd
    split
    · rename_i hl
      intro p st r p' c st' e hc s R Q E P
      unfold localX at e
      split at e
      · cases e
      · rename_i loc locs hfr
        split at e
        · rename_i a ha
          cases e
          have F := R.fr
          rw [hfr] at F
          cases F with
          | cons l _ =>
            obtain ⟨m, hn, hm⟩ := l
            obtain ⟨v, hr, hv⟩ := hm x a ha
            rw [C.loc f (.head _) x hl] at hv
            exact ofAny (wpAny_Name (wpAny_loadName_local (m := m) hk hl hn hv (P W s (.refl W) R v hr)) hd)
        · cases e
    · rename_i hl
      intro p st r p' c st' e hc s R Q E P
      unfold localX at e
      split at e
      · cases e
      · rename_i loc locs hfr
        split at e
        · rename_i a ha
          cases e
          have F := R.fr
          rw [hfr] at F
          cases F with
          | cons l _ =>
            obtain ⟨m, hn, hm⟩ := l
            obtain ⟨v, hr, hv⟩ := hm x a ha
            obtain ⟨c, hcl⟩ := C.cel f (.head _) x hl
            rw [hcl] at hv
            obtain ⟨o, ho, hd2⟩ := hv
            exact ofAny (wpAny_Name (wpAny_loadName_cell hk hl hcl ⟨o, R.keep _ _ ho, hd2⟩ (P W s (.refl W) R v hr)) hd)
        · cases e
    · rename_i hl
      refine .still fun a st s e R Q E h => ?_
      have R' := R.toks s.toks
      have kin := R.kin O
      have T := R.top O
      replace e := O.tab.glob e
      unfold globalX at e
      split at e
      · rename_i v hv
        have q := h v s.toks (avOf_rel e)
        exact ofAny (Name_function_global hk hl (loadGlobal_global (env := f.env) T.g (mg_of kin T.g hv) q) hd)
      · rename_i hv
        split at e
        · cases e
        · rename_i hn
          obtain ⟨v, hb, e⟩ := Option.bind_eq_some_iff.mp e
          have q := h v s.toks (avOf_rel e)
          exact ofAny (Name_function_global hk hl (loadGlobal_builtin (env := f.env) T.g (mg_none_of kin T.g hv) T.b ((T.builtins x (by simpa using hn)).trans hb) q) hd)
      · cases e
    · exact .fail
theorem sim_const {env : Env} {c : Const} {k : Nat} {pos : Pos} : Sim S A fs VRel W (constX c) (eval (.Constant c k pos) env) := by
  intro p st r p' c' st' e hc s R Q E P
  show wpC _ _ (constValue env c) _ _ _
  cases c with
  | none => cases e; exact ofAny (wpAny_pure (P W _ (.refl W) R _ .none))
  | bool b => cases e; exact ofAny (wpAny_pure (P W _ (.refl W) R _ .lit))
  | int i => cases e; exact ofAny (wpAny_mkInt (P W _ (.refl W) (R.toks _) _ .int))
  | str x => cases e; exact ofAny (wpAny_mkText (P W _ (.refl W) (R.toks _) _ .str))
  | bytes b => cases e; exact ofAny (Constant_bytes (k := k) (pos := pos) (env := env) (P W _ (.refl W) (R.toks _) _ .bytes))
  | _ => cases e
/-! lists of arguments -/
def evsX (ev : Expr → X AV) : List Expr → X (List AV)
  | [] => pure []
  | .Starred _ _ :: _ => X.fail
  | e :: r => do let a ← ev e; let l ← evsX ev r; pure (a :: l)
def isStarred : Expr → Bool
  | .Starred _ _ => true
  | _ => false
theorem starEach_plain {e : Expr} {r : List Expr} {env : Env} (h : isStarred e = false) : starEach (e :: r) env = (false, eval e env) :: starEach r env := by
  cases e <;> first | rfl | cases h
theorem evsX_cons {ev : Expr → X AV} {e : Expr} {r : List Expr} (h : isStarred e = false) : evsX ev (e :: r) = (do let a ← ev e; let l ← evsX ev r; pure (a :: l)) := by
  cases e <;> first | rfl | cases h
theorem sim_spliced {ev : Expr → X AV} {env : Env} {pos : Pos} (h : ∀ W e, Sim S A fs VRel W (ev e) (eval e env)) : ∀ (es : List Expr) (W : Wd), Sim S A fs VRels W (evsX ev es) (spliced (backTo pos (starEach es env)))
  | [], W => .pure fun _ _ => .nil
  | e :: r, W => by
    cases q : isStarred e with
    | true => cases e <;> first | exact .fail | cases q
    | false =>
      rw [starEach_plain q, evsX_cons q]
      show Sim S A fs VRels W _ (eval e env >>= fun v => (pure [v] : Sem (List Value)) >>= fun here => holding here (spliced (backTo pos (starEach r env))) >>= fun l => pure (here ++ l))
      refine .bind (h W e) fun W' a v le hv => ?_
      refine .congr (t' := holding [v] (spliced (backTo pos (starEach r env))) >>= fun l => pure ([v] ++ l)) rfl ?_
      refine .bind (.holding (sim_spliced h r W')) fun W'' l vs le' hl => ?_
      exact .pure fun W₃ le₃ => .cons ((hv.mono le').mono le₃) (hl.mono le₃)
def kwsX (ev : Expr → X AV) : List Keyword → X (List (Str × AV))
  | [] => pure []
  | ⟨some n, e, _⟩ :: r => do let a ← ev e; let l ← kwsX ev r; pure ((n, a) :: l)
  | ⟨none, _, _⟩ :: _ => X.fail
inductive KRels (W : Wd) : List (Str × AV) → List (Str × Value) → Prop
  | nil : KRels W [] []
  | cons {x a v l m} : VRel W a v → KRels W l m → KRels W ((x, a) :: l) ((x, v) :: m)
theorem KRels.mono {W W' : Wd} (h : W.le W') : ∀ {l m}, KRels W l m → KRels W' l m
  | _, _, .nil => .nil
  | _, _, .cons a r => .cons (a.mono h) (r.mono h)
/-- the values of the keywords, one behind the other -/
theorem sim_kws {ev : Expr → X AV} {env : Env} {pos : Pos} (h : ∀ W e, Sim S A fs VRel W (ev e) (eval e env)) : ∀ (ks : List Keyword) (W : Wd),
    Sim S A fs (fun W l vs => ∃ ns, (backToKw pos (keywordEach ks env)).filterMap (·.1) = ns ∧ (backToKw pos (keywordEach ks env)).all (·.1.isSome) = true ∧ KRels W l (ns.zip vs)) W (kwsX ev ks) (evalAll ((backToKw pos (keywordEach ks env)).map (·.2)))
  | [], W => .pure fun _ _ => ⟨_, rfl, rfl, .nil⟩
  | ⟨none, e, p⟩ :: r, W => .fail
  | ⟨some n, e, p⟩ :: r, W => by
    show Sim S A fs _ W _ ((eval e env >>= fun v => standAt pos >>= fun _ => pure v) >>= fun v => holding [v] (evalAll ((backToKw pos (keywordEach r env)).map (·.2))) >>= fun l => pure (v :: l))
    refine .bind (rel := VRel) ?_ fun W' a v le hv => ?_
    · exact .after (h W e) fun b Q E s hq => wpC_bind (wpC_standAt (wpC_pure hq))
    · refine .bind (.holding (sim_kws h r W')) fun W'' l vs le' hl => ?_
      obtain ⟨ns, e1, e2, hk⟩ := hl
      exact .pure fun W₃ le₃ => ⟨n :: ns, by
        show ((some n, _) :: backToKw pos (keywordEach r env)).filterMap (·.1) = _
        rw [List.filterMap_cons]; exact congrArg (n :: ·) e1, e2, .cons ((hv.mono le').mono le₃) (hk.mono le₃)⟩
end
end Mine
-- part Iv2
open PySem PySem.W PyProof.Rows PySem.Calls
namespace Mine
/-! Calls: what is asked ahead of the call itself -/
theorem keepOk_looks {K : Frag} {M : Model} {h : Heap} {f : Value} (X : K.In h) (hk : keepOk K f = true) : ∃ k, (k = Keeper.frame ∨ k = Keeper.machine) ∧ Looks M h (keeperOf f) k := by
  cases f with
  | ref a => exact looks_keep hk X
  | builtin n => exact ⟨.machine, .inr rfl, .now⟩
  | type n => exact ⟨.machine, .inr rfl, .now⟩
  | _ => cases hk
theorem any_backTo {pos : Pos} {l : List (Bool × Sem Value)} : (backTo pos l).any (·.1) = l.any (·.1) := by
  unfold backTo; rw [List.any_map]; rfl
def plainL (es : List Expr) : Bool := es.all fun e => !isStarred e
theorem plain_starEach {env : Env} : ∀ {es : List Expr}, plainL es = true → (starEach es env).any (·.1) = false
  | [], _ => rfl
  | e :: r, h => by
    simp only [plainL, List.all_cons, Bool.and_eq_true, Bool.not_eq_true'] at h
    rw [starEach_plain h.1]
    exact plain_starEach (es := r) h.2
theorem evalArgs_eq {f : Value} {l : List (Bool × Sem Value)} {k : List (Option Str × Sem Value)} (h : l.any (·.1) = false) (hk : k.all (·.1.isSome) = true) :
    evalArgs f true l k = (spliced l >>= fun vs => holding (vs ++ []) (evalAll (k.map (·.2)) >>= fun kv => pure ⟨vs, (k.filterMap (·.1)).zip kv⟩)) := by
  unfold evalArgs
  rcases l with _ | ⟨⟨b, x⟩, _ | ⟨y, r⟩⟩
  · simp only [hk, if_true]; rfl
  · obtain rfl : b = false := by simpa using h
    simp only [hk, if_true]; rfl
  · obtain rfl : b = false := by cases b; rfl; simp at h
    simp only [hk, if_true]; rfl
section
variable {S : Stc} {A : Around} {fs : List Fm} {W : Wd} {f : Fm}
def named : List Keyword → Bool
  | [] => true
  | ⟨none, _, _⟩ :: _ => false
  | ⟨some _, _, _⟩ :: r => named r
def argsX (ev : Expr → X AV) (es : List Expr) (ks : List Keyword) : X (List AV × List (Str × AV)) := match plainL es && named ks with
  | true => do
    let l ← evsX ev es
    let k ← kwsX ev ks
    pure (l, k)
  | false => X.fail
theorem named_all {pos : Pos} {env : Env} : ∀ {ks : List Keyword}, named ks = true → (backToKw pos (keywordEach ks env)).all (·.1.isSome) = true ∧ (backToKw pos (keywordEach ks env)).any (·.1.isNone) = false
  | [], _ => ⟨rfl, rfl⟩
  | ⟨none, _, _⟩ :: _, h => by cases h
  | ⟨some _, _, _⟩ :: r, h => named_all (ks := r) h
theorem sim_callWith (O : S.Ok) {ev : Expr → X AV} {env : Env} {pos : Pos} {fv : Value} {first : List Value} {es : List Expr} {ks : List Keyword} (h : ∀ W e, Sim S A fs VRel W (ev e) (eval e env)) (hk : S.T.keep fv = true) {β : Type} {rel : Wd → β → Value → Prop}
    {ap : List AV → List (Str × AV) → X β} (hap : ∀ W' l k vs kw, W.le W' → VRels W' l vs → KRels W' k kw → Sim S A fs rel W' (ap l k) (call fv (first ++ vs) kw)) :
    Sim S A fs rel W (argsX ev es ks >>= fun x => ap x.1 x.2) (callWith pos fv first (backTo pos (starEach es env)) (backToKw pos (keywordEach ks env))) := by
  unfold argsX
  split
  · rename_i hp
    rw [Bool.and_eq_true] at hp
    have p1 : (backTo pos (starEach es env)).any (·.1) = false := by rw [any_backTo]; exact plain_starEach hp.1
    obtain ⟨p2, p3⟩ := named_all (pos := pos) (env := env) hp.2
    unfold callWith
    refine .bind (rel := fun W (x : List AV × List (Str × AV)) (a : Args) => VRels W x.1 a.pos ∧ KRels W x.2 a.kw) ?_ fun W' x a le hx => ?_
    · rw [evalArgs_eq p1 p2]
      refine .holding (.bind (sim_spliced h es W) fun W' l vs le hl => .holding (.bind (sim_kws h ks W') fun W'' k kw le' hk => ?_))
      obtain ⟨ns, e1, e2, hk⟩ := hk
      exact .pure fun W₃ le₃ => ⟨(hl.mono le').mono le₃, by rw [e1]; exact hk.mono le₃⟩
    · refine .standAt ?_
      have hap := hap W' x.1 x.2 a.pos a.kw le hx.1 hx.2
      intro p st r p' c st' e hc s R Q E P
      obtain ⟨k, hk', L⟩ := keepOk_looks (M := model S.prog S.w) (R.kin O) (O.tab.keeps hk)
      simp only [p1, p3, Bool.or_false]
      refine wpC_bind (ofAny (L.here ?_))
      have main := hap p st r p' c st' e hc s R Q E P
      have tail : ∀ {t : Sem Value}, wpC (model S.prog S.w) A t Q E s → wpC (model S.prog S.w) A (t >>= fun r => holding [r] point >>= fun _ => pure r) Q E s :=
        fun ht => wpC_bind (wpC_mono ht (fun r s₂ hr => wpC_bind (wpC_holding (wpC_point (wpC_pure hr)))) fun _ _ x => x)
      have marked (mk : Value) : wpC (model S.prog S.w) A (callMarked mk fv (first ++ a.pos) a.kw) Q E s := by unfold callMarked; exact wpC_keep main
      rcases hk' with rfl | rfl <;> dsimp only <;> first | exact tail main | (split <;> first | exact tail main | exact tail (marked _))
  · exact .fail
end
end Mine
-- part Iv3
open PySem PySem.W PyProof.Rows PySem.Calls
namespace Mine
/-! Attributes of instances: read, method, store -/
section
variable {S : Stc} {W : Wd} {fs : List Addr} {st : ASt} {s : Shared}
theorem isStr_of {x y : Str} {t : Tok} : (Value.str y t).isStr x = (x == y) := by
  show (y == x) = (x == y)
  rw [Bool.eq_iff_iff]
  constructor <;> intro h <;> simp at h ⊢ <;> exact h.symm
theorem ARel.getSome {m : List (Str × AV)} {es : List DictEntry} (R : ARel S W m es) {x : Str} {a : AV} (h : getK x m = some a) : ∃ v, getL x es = some (some v) ∧ VRel W a v := by
  induction R with
  | nil => cases h
  | @cons y b t v m es hv r ih =>
    unfold getK at h
    unfold getL
    rw [List.find?_cons, isStr_of]
    dsimp only at h
    cases q : x == y with
    | true => rw [q] at h; cases h; exact ⟨v, rfl, hv⟩
    | false =>
      rw [q] at h
      obtain ⟨u, hu, hr⟩ := ih h
      refine ⟨u, ?_, hr⟩
      unfold getL at hu
      dsimp only
      cases q2 : es.find? (·.key.isStr x) with
      | some e => rw [q2] at hu; exact hu
      | none => rw [q2] at hu; dsimp only at hu; split at hu <;> cases hu
theorem ARel.noRef {m : List (Str × AV)} {es : List DictEntry} (R : ARel S W m es) : es.any (·.refKey) = false := by
  induction R with
  | nil => rfl
  | cons v r ih => rw [List.any_cons, ih]; rfl
theorem ARel.getNone {m : List (Str × AV)} {es : List DictEntry} (R : ARel S W m es) {x : Str} (h : getK x m = none) : getL x es = some none := by
  have key : es.find? (·.key.isStr x) = none := by
    induction R with
    | nil => rfl
    | @cons y b t v m es hv r ih =>
      unfold getK at h
      rw [List.find?_cons, isStr_of]
      dsimp only at h
      cases q : x == y with
      | true => rw [q] at h; cases h
      | false => rw [q] at h; exact ih h
  unfold getL
  rw [key, R.noRef]; rfl
theorem ARel.put {m : List (Str × AV)} {es : List DictEntry} (R : ARel S W m es) {x : Str} {a : AV} {v : Value} (t : Tok) (h : VRel W a v) : ARel S W (putK x a m) (putL x (PyData.keyHash S.w.params x) (.str x t) v es) := by
  induction R with
  | nil => exact .cons h .nil
  | @cons y b u w m es hv r ih =>
    unfold putK putL
    rw [isStr_of]
    cases q : x == y with
    | true => exact .cons h r
    | false => exact .cons hv ih
theorem ARel.length {m : List (Str × AV)} {es : List DictEntry} (R : ARel S W m es) : m.length = es.length := by
  induction R with
  | nil => rfl
  | cons _ _ ih => simp [ih]
end
def handedAV : AV → Bool
  | .const v => handedIn v
  | _ => true
theorem handedAV_of {W : Wd} {a : AV} {v : Value} (h : handedAV a = true) (r : VRel W a v) : handedIn v = true := by
  cases r <;> first | rfl | exact h
def getAttrX (T : Tab) (o : AV) (name : Str) : X AV := fun p st => match o with
  | .ref u => match getH st.hp u with
    | some (.inst C d) => match getH st.hp d with
      | some (.attrs m) => match getK name m with
        | some v => match has2 C name T.rd && handedAV v with
          | true => some (.ok v, p, True, st)
          | false => none
        | none => none
      | _ => none
    | _ => none
  | _ => none
section
variable {S : Stc} {A : Around} {fs : List Fm} {W : Wd} {st : ASt} {s : Shared}
theorem Rep.inst (R : Rep S W (Las fs) st s) {u : Nat} {C : Addr} {d : Nat} {m : List (Str × AV)} {a : Addr} (hu : getH st.hp u = some (.inst C d)) (hd : getH st.hp d = some (.attrs m)) (ha : W.φ u = some a) :
    ∃ dx es n, W.φ d = some dx ∧ InstAt s.heap a (instObj C dx) C (some (dictOf es n)) ∧ ARel S W m es ∧ s.heap.get? dx = some (dictOf es n) := by
  obtain ⟨b, o, p1, p2, p3⟩ := R.hp u _ hu
  obtain rfl : b = a := Option.some.inj (p1.symm.trans ha)
  cases p3 with
  | inst hdx =>
    obtain ⟨b', o', q1, q2, q3⟩ := R.hp d _ hd
    obtain rfl := Option.some.inj (q1.symm.trans hdx)
    cases q3 with
    | attrs r => exact ⟨b', _, _, q1, ⟨p2, rfl, rfl, q2⟩, r, q2⟩
theorem sim_getAttr (O : S.Ok) {oa : AV} {ov : Value} {name : Str} {e : Bool} (ho : VRel W oa ov) : Sim S A fs VRel W (getAttrX S.T oa name) (getAttr ov name e) := by
  intro p st r p' c st' h hc s R Q E P
  unfold getAttrX at h
  split at h
  · rename_i u
    split at h
    · rename_i C d hu
      split at h
      · rename_i m hd
        split at h
        · rename_i v hv
          split at h
          · rename_i hok
            cases h
            rw [Bool.and_eq_true] at hok
            obtain ⟨hok, hh⟩ := hok
            replace hok := O.tab.read hok
            simp only [attrOk, Bool.and_eq_true, beq_iff_eq] at hok
            obtain ⟨⟨⟨h1, h2⟩, h3⟩, h4⟩ := hok
            cases ho with
            | ref ha =>
              obtain ⟨dx, es, n, q1, I, ar, -⟩ := R.inst hu hd ha
              obtain ⟨w, hw, hr⟩ := ar.getSome hv
              obtain ⟨cd, hcd, hcd2⟩ := any_some h1
              refine ofAny (get_value (R.kin O) I h2 (v := w) ?_ (handedAV_of hh hr) (P W _ (.refl W) (R.toks _) w hr))
              unfold findObj
              rw [hcd, h3]
              show (PySem.W.ownOf cd (some (dictOf es n)) name).bind _ = _
              unfold PySem.W.ownOf
              rw [if_pos hcd2]
              show (lookIn name (dictOf es n)).bind _ = _
              rw [lookIn_dict, hw]; rfl
          · cases h
        · cases h
      · cases h
    · cases h
  · cases h
def plainBase : Expr → Bool
  | .Call (.Name _ _) [] [] _ => false
  | _ => true
theorem attributeBase_plain {o : Expr} {attr : Str} {env : Env} {t : Sem Value} (h : plainBase o = true) : attributeBase o attr env t = t := by
  unfold attributeBase
  split
  · cases h
  · rfl
def attrX (T : Tab) (ev : Expr → X AV) (value : Expr) (attr : Str) : X AV := match plainBase value with
  | true => do let o ← ev value; getAttrX T o attr
  | false => X.fail
theorem sim_attr (O : S.Ok) {ev : Expr → X AV} {env : Env} {value : Expr} {attr : Str} {pos : Pos} (h : ∀ W e, Sim S A fs VRel W (ev e) (eval e env)) : Sim S A fs VRel W (attrX S.T ev value attr) (eval (.Attribute value attr pos) env) := by
  unfold attrX
  split
  · rename_i hb
    rw [arm_eval_Attribute, attributeBase_plain hb]
    refine .bind (h W value) fun W' o v le hv => .standAt ?_
    refine .congr (t' := holding [v] (getAttr v attr true) >>= fun r => (letTemporaryGo value v r >>= fun _ => pure r)) rfl ?_
    exact .after (.holding (sim_getAttr O hv)) fun b Q E s hq => ofAny (wpAny_bind (wpAny_letTemporaryGo (wpAny_pure hq)))
  · exact .fail
/-! the store -/
def setAttrX (T : Tab) (o : AV) (name : Str) (v : AV) : X Unit := fun p st => match o with
  | .ref u => match getH st.hp u with
    | some (.inst C d) => match getH st.hp d with
      | some (.attrs m) => match has2 C name T.wr && Nat.blt m.length 200 with
        | true => some (.ok (), p, True, { st with hp := putH d (.attrs (putK name v m)) st.hp })
        | false => none
      | _ => none
    | _ => none
  | _ => none
theorem osa_at {prog : Program} {w : World} {A : Around} {s : Shared} {K : Frag} {R : Result → Shared → Prop} {ox : Obj} {x C dx : Addr} {name : Str} {tk : Tok} {v : Value} {es : List DictEntry} {n : Nat} (X : K.In s.heap)
    (I : InstAt s.heap x ox C (some (dictOf es n))) (hd : ox.dict = some dx) (D : s.heap.get? dx = some (dictOf es n)) (hp : plainOver K C = true) (ht : takerIn K C name = some none) (hh : (clsIn K C).any (·.hasDict) = true)
    (hr : es.any (·.refKey) = false) (hz : es.length ≤ 1000)
    (h : R (.ok (.ret .none)) { s with heap := s.heap.update dx (Obj.putName name (PyData.keyHash w.params name) (.str name s.toks) v), toks := s.toks + 1 }) :
    codeAny (model prog w) A (.call (.builtin "object.__setattr__") ⟨[.ref x, .str name tk, v], []⟩) R s := by
  refine osa_open X I hp ht fun b => ?_
  obtain ⟨cd, hc, hd'⟩ := any_some hh
  obtain ⟨hx, hcl, hn, -⟩ := I
  obtain ⟨oc, odi, oda, osl⟩ := ox
  dsimp only at hcl hd
  subst hcl hd
  refine wpAny_bind (wpAny_pure (wpAny_bind (wpAny_bind (wpAny_loadPart hx (wpAny_bind ((looks_clsIn X hc).here ?_))))))
  rw [hd']
  refine wpAny_pure (a := some dx) (wpAny_bind (wpAny_pure (wpAny_bind ?_)))
  unfold nsSet
  refine wpAny_bind (wpAny_bind (wpAny_askSetting (wpAny_pure (wpAny_bind (wpAny_mkText (wpAny_bind (wpAny_loadPart D ?_)))))))
  dsimp only
  have c : (!es.toArray.any (·.key.isStr name) && es.toArray.any (·.refKey)) = false := by
    rw [← Array.any_toList, ← Array.any_toList, show es.toArray.toList = es from rfl, hr, Bool.and_false]
  rw [aRefKeyMayBeTheName_at, c]
  refine wpAny_updatePart D ?_
  have D' : (s.heap.update dx (Obj.putName name (PyData.keyHash w.params name) (.str name s.toks) v)).get? dx = some (dictOf (putL name (PyData.keyHash w.params name) (.str name s.toks) v es) (putN name es n)) := by
    rw [← putName_dict]
    exact Heap.get?_update_self _ D (by rw [putName_dict]; rfl)
  have len : ∀ es : List DictEntry, (putL name (PyData.keyHash w.params name) (.str name s.toks) v es).length ≤ es.length + 1 := by
    intro es
    induction es with
    | nil => simp [putL]
    | cons e r ih => unfold putL; split <;> simp; omega
  refine wpAny_bind (wpAny_lookBehind D' (pastItsLine_dict (by have := len es; rw [List.size_toArray, sizeLine_eq]; omega)) ?_)
  exact wpAny_pure h
theorem sim_setAttr (O : S.Ok) {oa va : AV} {ov v : Value} {name : Str} (ho : VRel W oa ov) (hv : VRel W va v) : Sim S A fs (fun _ _ _ => True) W (setAttrX S.T oa name va) (setAttr ov name v) := by
  intro p st r p' c st' h hc s R Q E P
  unfold setAttrX at h
  split at h
  · rename_i u
    split at h
    · rename_i C d hu
      split at h
      · rename_i m hd
        split at h
        · rename_i hok
          cases h
          rw [Bool.and_eq_true] at hok
          obtain ⟨hok, hlen⟩ := hok
          replace hok := O.tab.write hok
          simp only [setOk, Bool.and_eq_true, beq_iff_eq] at hok
          obtain ⟨⟨⟨h1, h2⟩, h3⟩, h4⟩ := hok
          have hlen : m.length < 200 := Nat.ble_eq.mp hlen
          cases ho with
          | ref ha =>
            obtain ⟨dx, es, n, q1, I, ar, D⟩ := R.inst hu hd ha
            have hl := ar.length
            refine ofAny (set_plain (R.kin O) I h2 (osa_at (s := { s with toks := s.toks + 1 }) ((R.toks _).kin O) I rfl D h3 h4 h1 ar.noRef (by omega) ?_))
            refine P W _ (.refl W) ?_ () trivial
            refine R.update (ao' := .attrs (putK name va m)) q1 D ?_
            rw [putName_dict]
            exact .attrs (ar.put _ hv)
        · cases h
      · cases h
    · cases h
  · cases h
end
end Mine
-- part Iv4
open PySem PySem.W PyProof.Rows PySem.Calls
namespace Mine
/-! Truth and comparison -/
def truthyX : AV → X Bool
  | .none => pure false
  | .lit b => pure b
  | .bool b => X.test b
  | .int i => X.test (i != 0)
  | _ => X.fail
def atomEq : AV → AV → Option Bool
  | .none, .none => some true
  | .none, .str _ => some false
  | .str _, .none => some false
  | .str a, .str b => some (a == b)
  | .int a, .int b => some (a == b)
  | .bool a, .bool b => some (a == b)
  | .bool a, .lit b => some (a == b)
  | .lit a, .bool b => some (a == b)
  | .lit a, .lit b => some (a == b)
  | _, _ => none
def tupEq : List AV → List AV → Option Bool
  | [], [] => some true
  | [], _ :: _ => some false
  | _ :: _, [] => some false
  | a :: l, b :: m => match atomEq a b, tupEq l m with
    | some r, some q => some (r && q)
    | _, _ => none
def eqX : AV → AV → Option Bool
  | .tup l, .tup m => tupEq l m
  | .bytes a, .bytes b => some (a == b)
  | a, b => atomEq a b
def isX : AV → AV → Option Bool
  | .none, .none => some true
  | .const (.ref _), .none => some false
  | .ref _, .none => some false
  | .str _, .none => some false
  | .int _, .none => some false
  | .bytes _, .none => some false
  | .tup _, .none => some false
  | _, _ => none
def cmpX (op : CmpOp) (a b : AV) : X AV := fun p st => match op, a, b with
  | .Eq, a, b => match eqX a b with
    | some r => some (.ok (.bool r), p, True, st)
    | none => none
  | .NotEq, .ref i, .bytes m => match getH st.hp i with
    | some (.barr l) => some (.ok (.bool (l != m)), p, True, st)
    | _ => none
  | .NotEq, .lst l, .ref i => match getH st.hp i with
    | some (.list []) => some (.ok (.bool (l.length != 0)), p, True, st)
    | _ => none
  | .NotEq, a, b => match atomEq a b with
    | some r => some (.ok (.bool (!r)), p, True, st)
    | none => none
  | .Lt, .int a, .int b => some (.ok (.bool (decide (a < b))), p, True, st)
  | .LtE, .int a, .int b => some (.ok (.bool (decide (a ≤ b))), p, True, st)
  | .Gt, .int a, .int b => some (.ok (.bool (decide (a > b))), p, True, st)
  | .GtE, .int a, .int b => some (.ok (.bool (decide (a ≥ b))), p, True, st)
  | .Is, a, b => match isX a b with
    | some r => some (.ok (.lit r), p, True, st)
    | none => none
  | .IsNot, a, b => match isX a b with
    | some r => some (.ok (.lit (!r)), p, True, st)
    | none => none
  | _, _, _ => none
section
variable {S : Stc} {A : Around} {fs : List Fm} {W : Wd} {st : ASt} {s : Shared}
theorem sim_truthy {a : AV} {v : Value} (h : VRel W a v) : Sim S A fs (fun _ x y => x = y) W (truthyX a) (truthy v) := by
  cases h with
  | none => exact .congr (t' := pure false) rfl (.pure fun _ _ => rfl)
  | @lit b => exact .congr (t' := pure b) rfl (.pure fun _ _ => rfl)
  | bool =>
    intro p st r p' c st' e hc s R Q E P
    unfold truthyX X.test at e
    cases p with
    | nil => cases e
    | cons d p => cases e; subst hc; exact ofAny (wpAny_truthy_bool (P W s (.refl W) R _ rfl))
  | int =>
    intro p st r p' c st' e hc s R Q E P
    unfold truthyX X.test at e
    cases p with
    | nil => cases e
    | cons d p => cases e; subst hc; exact ofAny (PySem.P.truthy_int (P W s (.refl W) R _ rfl))
  | _ => exact .fail
open SeqAt in
theorem rcAtom {a b : AV} {v w : Value} {r : Bool} (ha : VRel W a v) (hb : VRel W b w) (e : atomEq a b = some r) : RcAt A s v w r := by
  unfold atomEq at e
  split at e <;> cases e <;> cases ha <;> cases hb
  · exact .none_none
  · exact .none_str _ _
  · exact .str_none _ _
  · exact .str_str _ _ _ _
  · exact .int_int _ _ _ _
  all_goals exact .bool_bool _ _
open SeqAt in
theorem eqAtom {a b : AV} {v w : Value} {r : Bool} (ha : VRel W a v) (hb : VRel W b w) (e : atomEq a b = some r) : EqAt A s v w r := by
  unfold atomEq at e
  split at e <;> cases e <;> cases ha <;> cases hb
  · exact .same _
  · exact .none_str _ _
  · exact .str_none _ _
  · exact .str_str _ _ _ _
  · exact .int_int _ _ _ _
  all_goals exact .bool_bool _ _
open SeqAt in
theorem rcNeAtom {a b : AV} {v w : Value} {r : Bool} (ha : VRel W a v) (hb : VRel W b w) (e : atomEq a b = some r) : RcNeAt A s v w (!r) := by
  unfold atomEq at e
  split at e <;> cases e <;> cases ha <;> cases hb
  · exact .none_none
  · exact .none_str _ _
  · exact .str_none _ _
  · exact .str_str _ _ _ _
  · exact .int_int _ _ _ _
  all_goals exact .bool_bool _ _
open SeqAt in
theorem tupEq_at : ∀ {l : List AV} {vs : List Value}, VRels W l vs → ∀ {m : List AV} {ws : List Value} {r : Bool}, VRels W m ws → tupEq l m = some r →
    ∃ e : Nat → Bool, (∀ j (h1 : j < vs.length) (h2 : j < ws.length), EqAt A s vs[j] ws[j] (e j)) ∧ ((List.range (min vs.length ws.length)).all e && vs.length == ws.length) = r
  | _, _, .nil, _, _, _, .nil, e => by cases e; exact ⟨fun _ => true, fun j h => absurd h (Nat.not_lt_zero _), rfl⟩
  | _, _, .nil, _, _, _, .cons b r, e => by cases e; exact ⟨fun _ => true, fun j h => absurd h (Nat.not_lt_zero _), by simp⟩
  | _, _, .cons a r1, _, _, _, .nil, e => by cases e; exact ⟨fun _ => true, fun j _ h => absurd h (Nat.not_lt_zero _), by simp⟩
  | _, _, .cons (v := v) (vs := vs) ha r1, _, _, _, .cons (v := w) (vs := ws) hb r2, e => by
      unfold tupEq at e
      split at e
      · rename_i r q er eq
        cases e
        obtain ⟨f, hf, hq⟩ := tupEq_at r1 r2 eq
        refine ⟨fun j => match j with | 0 => r | j + 1 => f j, fun j h1 h2 => ?_, ?_⟩
        · cases j with
          | zero => exact eqAtom ha hb er
          | succ j => exact hf j (by simpa using h1) (by simpa using h2)
        · rw [← hq, List.length_cons, List.length_cons, Nat.add_min_add_right, List.range_succ_eq_map, List.all_cons, List.all_map]
          have : (vs.length + 1 == ws.length + 1) = (vs.length == ws.length) := by rw [Bool.eq_iff_iff]; simp
          rw [this, Bool.and_assoc]; rfl
      · cases e
theorem isX_at {a b : AV} {v w : Value} {r : Bool} (ha : VRel W a v) (hb : VRel W b w) (e : isX a b = some r) : (isSame v w = pure r) := by
  unfold isX at e
  split at e <;> cases e <;> cases ha <;> cases hb <;> exact isSame_plain rfl
theorem Rep.tuple (R : Rep S W (Las fs) st s) {a : Addr} {vs : List Value} {n : Nat} (h : W.fz.get? a = some ⟨.type "tuple", Option.none, .seq vs.toArray n, #[]⟩) : s.heap.IsTuple a vs.toArray :=
  ⟨_, R.keep _ _ h, rfl, n, rfl⟩
theorem Rep.flist (R : Rep S W (Las fs) st s) {a : Addr} {vs : List Value} {n : Nat} (h : W.fz.get? a = some ⟨.type "list", Option.none, .seq vs.toArray n, #[]⟩) : s.heap.IsList a vs.toArray :=
  ⟨_, R.keep _ _ h, rfl, n, rfl⟩
theorem CxOk.cline {k : Nat} {b : Bool} (C : CxOk k b A fs) : A.units < cLine := by have := C.units; unfold cLine; omega
/-- a comparison that changes nothing -/
theorem Sim.stillC {α β : Type} {rel : Wd → α → β → Prop} {m : X α} {t : Sem β} {a : α} {p0 : List Bool} {st0 : ASt} {r : R α} {p' : List Bool} {c : Prop} {st' : ASt} (e : some (R.ok a, p0, True, st0) = some (r, p', c, st'))
    (Rp : Rep S W (Las fs) st0 s) {Q : β → Shared → Prop} {E : Value → Shared → Prop} (P : Post S fs rel W r st' Q E) : ∀ b k, rel W a b → Q b { s with toks := k } := by
  cases e
  exact fun b k h => P W _ (.refl W) (Rp.toks k) b h
theorem sim_cmp {k : Nat} {hb : Bool} (C : CxOk k hb A fs) {op : CmpOp} {a b : AV} {v w : Value} (ha : VRel W a v) (hb : VRel W b w) : Sim S A fs VRel W (cmpX op a b) (compareOp op v w) := by
  intro p st r p' c st' e hc s R Q E P
  have hu := C.cline
  unfold cmpX at e
  split at e
  · split at e
    · rename_i q hq
      have fin := Sim.stillC (β := Value) (s := s) (m := (X.fail : X AV)) (t := pure Value.none) e R P
      cases e
      unfold eqX at hq
      have fin2 := fin _ s.toks .bool
      split at hq
      · cases ha with
        | tup h1 h2 => cases hb with
          | tup h3 h4 =>
            obtain ⟨f, hf, hr⟩ := tupEq_at (A := A.in1) (s := s) h2 h4 hq
            refine ofAny (SeqAt.eq_tupleAt (e := f) (R.tuple h1) (R.tuple h3) hu (fun j h1 h2 => hf j (by simpa using h1) (by simpa using h2)) ?_)
            rw [List.size_toArray, List.size_toArray, hr]; exact fin2
      · cases hq
        cases ha; cases hb
        exact ofAny (eq_bytes fin2)
      · exact ofAny (rcAtom ha hb hq _ _ _ _ fin2)
    · cases e
  · rename_i i m
    split at e
    · rename_i l hl
      have fin := Sim.stillC (β := Value) (s := s) (m := (X.fail : X AV)) (t := pure Value.none) e R P
      cases e
      cases ha with
      | ref h =>
        cases hb
        obtain ⟨x, o, p1, p2, p3⟩ := R.hp _ _ hl
        obtain rfl := Option.some.inj (p1.symm.trans h)
        cases p3
        exact ofAny (ne_ba_bytes p2 hu (fin _ s.toks .bool))
    · cases e
  · rename_i l i
    split at e
    · rename_i hl
      have fin := Sim.stillC (β := Value) (s := s) (m := (X.fail : X AV)) (t := pure Value.none) e R P
      cases e
      cases ha with
      | lst h1 h2 => cases hb with
        | ref h =>
          obtain ⟨x, o, p1, p2, p3⟩ := R.hp _ _ hl
          obtain rfl := Option.some.inj (p1.symm.trans h)
          cases p3 with
          | list r =>
            cases r
            have L2 : s.heap.IsList x #[] := ⟨_, p2, rfl, _, rfl⟩
            have hlen := h2.length
            cases h2 with
            | nil =>
              exact ofAny (SeqAt.RcNeAt.lists (e := fun _ => true) (R.flist h1) L2 rfl hu (fun j h => absurd h (by simp)) _ _ _ _ (fin _ s.toks .bool))
            | cons a r => exact ofAny (SeqAt.RcNeAt.lists_lengths (R.flist h1) L2 (by simp) hu _ _ _ _ (by
                have := fin _ s.toks (.bool (b := true)); simpa using this))
    · cases e
  · split at e
    · rename_i q hq
      have fin := Sim.stillC (β := Value) (s := s) (m := (X.fail : X AV)) (t := pure Value.none) e R P
      cases e
      exact ofAny (rcNeAtom ha hb hq _ _ _ _ (fin _ s.toks .bool))
    · cases e
  · have fin := Sim.stillC (β := Value) (s := s) (m := (X.fail : X AV)) (t := pure Value.none) e R P
    cases e; cases ha; cases hb; exact ofAny (PySem.P.lt_int (fin _ s.toks .bool))
  · have fin := Sim.stillC (β := Value) (s := s) (m := (X.fail : X AV)) (t := pure Value.none) e R P
    cases e; cases ha; cases hb; exact ofAny (PySem.P.le_int (fin _ s.toks .bool))
  · have fin := Sim.stillC (β := Value) (s := s) (m := (X.fail : X AV)) (t := pure Value.none) e R P
    cases e; cases ha; cases hb; exact ofAny (PySem.P.gt_int (fin _ s.toks .bool))
  · have fin := Sim.stillC (β := Value) (s := s) (m := (X.fail : X AV)) (t := pure Value.none) e R P
    cases e; cases ha; cases hb; exact ofAny (PySem.P.ge_int (fin _ s.toks .bool))
  · split at e
    · rename_i q hq
      have fin := Sim.stillC (β := Value) (s := s) (m := (X.fail : X AV)) (t := pure Value.none) e R P
      cases e
      exact ofAny (wpAny_bind (wpAny_of_eq (isX_at ha hb hq) (wpAny_pure (fin _ s.toks .lit))))
    · cases e
  · split at e
    · rename_i q hq
      have fin := Sim.stillC (β := Value) (s := s) (m := (X.fail : X AV)) (t := pure Value.none) e R P
      cases e
      exact ofAny (wpAny_bind (wpAny_of_eq (isX_at ha hb hq) (wpAny_pure (fin _ s.toks .lit))))
    · cases e
  · cases e
end
end Mine
-- part Iv5
open PySem PySem.W PyProof.Rows PySem.Calls
namespace Mine
/-! Arithmetic -/
def binX (op : Operator) (a b : AV) : X AV := fun p st => match op, a, b with
  | .Add, .int a, .int b => some (.ok (.int (a + b)), p, True, st)
  | .Sub, .int a, .int b => some (.ok (.int (a - b)), p, True, st)
  | .Mult, .int a, .int b => some (.ok (.int (a * b)), p, IntMulOk a b, st)
  | .Mod, .int a, .int b => some (.ok (.int (a.fmod b)), p, b ≠ 0, st)
  | .FloorDiv, .int a, .int b => some (.ok (.int (a.fdiv b)), p, b ≠ 0 ∧ b.natAbs < 1073741824, st)
  | .Add, .bytes a, .bytes b => some (.ok (.bytes (a ++ b)), p, a.length + b.length ≤ 16777216, st)
  | _, _, _ => none
def ibinX (op : Operator) (a b : AV) : X AV := fun p st => match op, a, b with
  | .Add, .int a, .int b => some (.ok (.int (a + b)), p, True, st)
  | .Sub, .int a, .int b => some (.ok (.int (a - b)), p, True, st)
  | _, _, _ => none
def unX (op : UnaryOp) (a : AV) : X AV := fun p st => match op, a with
  | .USub, .int a => some (.ok (.int (-a)), p, True, st)
  | .Not, .bool a => some (.ok (.bool (!a)), p, True, st)
  | .Not, .lit a => some (.ok (.lit (!a)), p, True, st)
  | .Not, .none => some (.ok (.lit true), p, True, st)
  | .Not, .int a => some (.ok (.bool (!(a != 0))), p, True, st)
  | _, _ => none
section
variable {S : Stc} {A : Around} {fs : List Fm} {W : Wd} {st : ASt} {s : Shared}
theorem Post.ok {α β : Type} {rel : Wd → α → β → Prop} {a : α} {b : β} {Q : β → Shared → Prop} {E : Value → Shared → Prop} (P : Post S fs rel W (.ok a) st Q E) (R : Rep S W (Las fs) st s) (k : Nat) (h : rel W a b) : Q b { s with toks := k } :=
  P W _ (.refl W) (R.toks k) b h
theorem sim_bin {op : Operator} {a b : AV} {v w : Value} (ha : VRel W a v) (hb : VRel W b w) : Sim S A fs VRel W (binX op a b) (binaryOp op v w) := by
  intro p st r p' c st' e hc s R Q E P
  unfold binX at e
  split at e
  · cases e; cases ha; cases hb; exact ofAny (PySem.P.add_int (P.ok R _ .int))
  · cases e; cases ha; cases hb; exact ofAny (PySem.P.sub_int (P.ok R _ .int))
  · cases e; cases ha; cases hb; exact ofAny (PySem.P.mul_int (P.ok R _ .int) hc)
  · cases e; cases ha; cases hb; exact ofAny (mod_int' hc (P.ok R _ .int))
  · cases e; cases ha; cases hb; exact ofAny (PyProof.Rows.floordiv_int hc.1 (P.ok R _ .int) (.inl (PyProof.noPylong_small hc.2)))
  · rename_i x y
    cases e; cases ha; cases hb
    refine ofAny (KBy.add_bytes (by simpa using hc) fun t k => ?_)
    have := P.ok R k (VRel.bytes (b := x ++ y) (t := t))
    simpa using this
  · cases e
theorem sim_ibin {op : Operator} {a b : AV} {v w : Value} (ha : VRel W a v) (hb : VRel W b w) : Sim S A fs VRel W (ibinX op a b) (inplaceOp op v w) := by
  intro p st r p' c st' e hc s R Q E P
  unfold ibinX at e
  split at e
  · cases e; cases ha; cases hb; exact ofAny (PySem.P.iadd_int (P.ok R _ .int))
  · cases e; cases ha; cases hb; exact ofAny (PySem.P.isub_int (P.ok R _ .int))
  · cases e
theorem sim_un {op : UnaryOp} {a : AV} {v : Value} (ha : VRel W a v) : Sim S A fs VRel W (unX op a) (unaryOp op v) := by
  intro p st r p' c st' e hc s R Q E P
  unfold unX at e
  split at e
  · cases e; cases ha; exact ofAny (PySem.P.neg_int (P.ok R _ .int))
  · cases e; cases ha; exact ofAny (wpAny_bind (wpAny_truthy_bool (wpAny_pure (P.ok R s.toks .bool))))
  · cases e; cases ha; exact ofAny (wpAny_bind (wpAny_truthy_bool (wpAny_pure (P.ok R s.toks .lit))))
  · cases e; cases ha; exact ofAny (wpAny_bind (wpAny_of_eq (a := false) rfl (wpAny_pure (P.ok R s.toks .lit))))
  · cases e; cases ha; exact ofAny (wpAny_bind (PySem.P.truthy_int (wpAny_pure (P.ok R s.toks .bool))))
  · cases e
end
/-! Subscripts -/
def pickAt {α : Type} (k : Int) : Nat → List α → List Bool → Option (α × List Bool × Prop)
  | _, _, [] => none
  | _, [], _ => none
  | j, a :: r, d :: p => match d with
    | true => some (a, p, k = j)
    | false => pickAt k (j + 1) r p
/-- a part of a row: by a written number at once, otherwise as the path says -/
def atX (lit : Bool) (l : List AV) (k : Int) : X AV := fun p st => match lit with
  | true => match l[k.toNat]? with
    | some a => some (.ok a, p, 0 ≤ k ∧ k < 1000, st)
    | none => none
  | false => match Nat.ble l.length 1000, pickAt k 0 l p with
    | true, some (a, p', c) => some (.ok a, p', c, st)
    | _, _ => none
def itemX (lit : Bool) (o i : AV) : X AV := fun p st => match o, i with
  | .tup l, .int k => atX lit l k p st
  | .lst l, .int k => atX lit l k p st
  | .ref u, .int k => match getH st.hp u with
    | some (.list l) => atX lit l k p st
    | some (.barr b) => some (.ok (.int (b.getD k.toNat 0).toNat), p, 0 ≤ k ∧ k < b.length ∧ b.length ≤ 16777216, st)
    | _ => none
  | _, _ => none
def sliceX (o : AV) (lo hi : Option Int) : X AV := fun p st => match o with
  | .bytes b => some (.ok (.bytes (cut lo hi b)), p, b.length ≤ 16777216, st)
  | .lst l => some (.ok (.lst ((l.drop (lo.elim 0 (clipAt l.length))).take (hi.elim l.length (clipAt l.length) - lo.elim 0 (clipAt l.length)))), p, l.length ≤ 16777216, st)
  | .ref u => match getH st.hp u with
    | some (.barr b) => some (.ok (.ref st.next), p, b.length ≤ 16777216, { st with hp := (st.next, .barr (cut lo hi b)) :: st.hp, next := st.next + 1 })
    | _ => none
  | _ => none
section
variable {S : Stc} {A : Around} {fs : List Fm} {W : Wd} {st : ASt} {s : Shared}
theorem pickAt_of {α : Type} {k : Int} : ∀ {j : Nat} {l : List α} {p p' : List Bool} {a : α} {c : Prop}, pickAt k j l p = some (a, p', c) → c → ∃ i : Nat, l[i]? = some a ∧ k = ((j + i : Nat) : Int)
  | _, _, [], _, _, _, h => by simp [pickAt] at h
  | _, [], _ :: _, _, _, _, h => by simp [pickAt] at h
  | j, x :: r, d :: p, p', a, c, h => by
    intro hc
    unfold pickAt at h
    cases d with
    | true => cases h; exact ⟨0, rfl, by simpa using hc⟩
    | false =>
      obtain ⟨i, hi, e⟩ := pickAt_of (j := j + 1) h hc
      exact ⟨i + 1, by simpa using hi, by rw [e]; congr 1; omega⟩
theorem atX_of {lit : Bool} {l : List AV} {k : Int} {p p' : List Bool} {c : Prop} {r : R AV} {st' : ASt} (e : atX lit l k p st = some (r, p', c, st')) (hc : c) :
    ∃ a, r = .ok a ∧ st' = st ∧ l[k.toNat]? = some a ∧ 0 ≤ k ∧ k < 2 ^ 63 := by
  unfold atX at e
  split at e
  · split at e
    · rename_i a ha
      cases e
      exact ⟨a, rfl, rfl, ha, hc.1, by omega⟩
    · cases e
  · split at e
    · rename_i a p'' c' hb hp
      cases e
      obtain ⟨i, hi, ek⟩ := pickAt_of hp hc
      have hb : l.length ≤ 1000 := Nat.ble_eq.mp hb
      have hlt : i < l.length := by
        rw [List.getElem?_eq_some_iff] at hi
        exact hi.1
      refine ⟨a, rfl, rfl, ?_, by omega, by omega⟩
      rw [ek]; simpa using hi
    · cases e
theorem list_at {x : Addr} {vs : Array Value} {k : Int} {t : Tok} {v : Value} {Q : Value → Shared → Prop} {E : Value → Shared → Prop} (h : s.heap.IsList x vs) (h0 : 0 ≤ k) (h1 : k < 2 ^ 63) (hv : vs[k.toNat]? = some v) (q : Q v s) :
    wpC (model S.prog S.w) A (getItem (.ref x) (.int k t)) Q E s := ofAny (wpAny_getItem_list h h0 h1 hv q)
theorem inPy {o : Value} {T id : String} {Q : Bool → Shared → Prop} {E : Value → Shared → Prop} (hT : s.TypeIs o T) (hl : typeLookup (.type T) "__getitem__" = pure (some (.builtin id))) (h : Q false s) :
    wpC (model S.prog S.w) A (getitemInPython o) Q E s := by
  rw [getitemInPython_of_ne hT.not_modules]
  exact ofAny (wpAny_bind (wpAny_specialOf hT hl (wpAny_pure h)))
/-- a thing whose part is asked: of one of the four sorts -/
def Sub4 (s : Shared) (v : Value) : Prop := ∃ T id, s.TypeIs v T ∧ typeLookup (.type T) "__getitem__" = pure (some (.builtin id))
theorem sub4_list {x : Addr} {vs : Array Value} (h : s.heap.IsList x vs) : Sub4 s (.ref x) := ⟨_, _, h.typeIs, slot_list_getitem.lookup⟩
theorem sub4_tup {x : Addr} {vs : Array Value} (h : s.heap.IsTuple x vs) : Sub4 s (.ref x) := let ⟨o, ho, hc, _⟩ := h; ⟨_, _, ⟨o, ho, hc⟩, F.slot_tuple_getitem.lookup⟩
theorem sub4_ba {x : Addr} {b : Array UInt8} (h : s.heap.get? x = some (baObj b)) : Sub4 s (.ref x) := ⟨_, _, typeIs_ba h, slot_ba_getitem.lookup⟩
theorem sub4_bytes {b : Array UInt8} {t : Tok} : Sub4 s (.bytes b t) := ⟨_, _, PySem.W.typeIs_bytes _ _ _, FB.slot_bytes_getitem.lookup⟩
theorem Rep.olist (R : Rep S W (Las fs) st s) {u : Nat} {l : List AV} {x : Addr} (h : getH st.hp u = some (.list l)) (hx : W.φ u = some x) : ∃ vs n, s.heap.get? x = some ⟨.type "list", none, .seq vs.toArray n, #[]⟩ ∧ VRels W l vs := by
  obtain ⟨y, o, p1, p2, p3⟩ := R.hp _ _ h
  obtain rfl := Option.some.inj (p1.symm.trans hx)
  cases p3 with
  | list r => exact ⟨_, _, p2, r⟩
theorem Rep.obarr (R : Rep S W (Las fs) st s) {u : Nat} {b : List UInt8} {x : Addr} (h : getH st.hp u = some (.barr b)) (hx : W.φ u = some x) : s.heap.get? x = some (baObj b.toArray) := by
  obtain ⟨y, o, p1, p2, p3⟩ := R.hp _ _ h
  obtain rfl := Option.some.inj (p1.symm.trans hx)
  cases p3 with
  | barr => exact p2
theorem item_sub4 {lit : Bool} {oa ia : AV} {ov : Value} (ho : VRel W oa ov) (R : Rep S W (Las fs) st s) {p : List Bool} {x : _} (e : itemX lit oa ia p st = some x) : Sub4 s ov := by
  unfold itemX at e
  split at e
  · cases ho with | tup h1 h2 => exact sub4_tup (R.tuple h1)
  · cases ho with | lst h1 h2 => exact sub4_list (R.flist h1)
  · cases ho with
    | ref h =>
      split at e
      · rename_i hl
        obtain ⟨vs, n, h1, h2⟩ := R.olist hl h
        exact sub4_list ⟨_, h1, rfl, _, rfl⟩
      · rename_i hb
        exact sub4_ba (R.obarr hb h)
      · cases e
  · cases e
theorem sim_item {lit : Bool} {oa ia : AV} {ov iv : Value} (ho : VRel W oa ov) (hi : VRel W ia iv) : Sim S A fs VRel W (itemX lit oa ia) (getItem ov iv) := by
  intro p st r p' c st' e hc s R Q E P
  unfold itemX at e
  split at e
  · rename_i l k
    cases ho with
    | tup h1 h2 =>
      cases hi
      obtain ⟨a, rfl, rfl, ha, h0, hk⟩ := atX_of e hc
      obtain ⟨v, hv, hr⟩ := h2.get ha
      have hlt := (List.getElem?_eq_some_iff.mp hv).1
      refine ofAny (PyProof.Rows.getItem_tuple (R.tuple h1) (by omega) hk (j := k.toNat) ?_ (by simpa using hv) (P.ok R s.toks hr))
      have hn : ¬ k < 0 := by omega
      simp [seqIndex?, hn, h0]; omega
  · cases ho with
    | lst h1 h2 =>
      cases hi
      obtain ⟨a, rfl, rfl, ha, h0, hk⟩ := atX_of e hc
      obtain ⟨v, hv, hr⟩ := h2.get ha
      exact list_at (R.flist h1) h0 hk (by simpa using hv) (P.ok R s.toks hr)
  · cases ho with
    | ref h =>
      cases hi
      split at e
      · rename_i hl
        obtain ⟨a, rfl, rfl, ha, h0, hk⟩ := atX_of e hc
        obtain ⟨vs, n, h1, h2⟩ := R.olist hl h
        obtain ⟨v, hv, hr⟩ := h2.get ha
        exact list_at ⟨_, h1, rfl, _, rfl⟩ h0 hk (by simpa using hv) (P.ok R s.toks hr)
      · rename_i hb
        cases e
        exact ofAny (getItem_ba (R.obarr hb h) hc.1 hc.2.1 (by rw [sizeLine_eq]; exact hc.2.2) fun t k => P.ok R k .int)
      · cases e
  · cases e
/-- the object of a cut, and its parts -/
def SRel (W : Wd) (x : Option Int × Option Int) (v : Value) : Prop := ∃ a l u, v = .ref a ∧ W.fz.get? a = some ⟨.type "slice", none, .fields #[l, u, .none], #[]⟩ ∧ IsPart l x.1 ∧ IsPart u x.2
theorem SRel.mono {W W' : Wd} (h : W.le W') {x : Option Int × Option Int} {v : Value} (r : SRel W x v) : SRel W' x v := let ⟨a, l, u, e, g, p, q⟩ := r; ⟨a, l, u, e, h.2 _ _ g, p, q⟩
theorem slice_sub4 {oa : AV} {lo hi : Option Int} {ov : Value} (ho : VRel W oa ov) (R : Rep S W (Las fs) st s) {p : List Bool} {x : _} (e : sliceX oa lo hi p st = some x) : Sub4 s ov := by
  unfold sliceX at e
  split at e
  · cases ho; exact sub4_bytes
  · cases ho with | lst h1 h2 => exact sub4_list (R.flist h1)
  · cases ho with
    | ref h =>
      split at e
      · rename_i hb; exact sub4_ba (R.obarr hb h)
      · cases e
  · cases e
theorem sim_slice {oa : AV} {x : Option Int × Option Int} {ov iv : Value} (hf : fs ≠ []) (ho : VRel W oa ov) (hi : SRel W x iv) : Sim S A fs VRel W (sliceX oa x.1 x.2) (getItem ov iv) := by
  intro p st r p' c st' e hc s R Q E P
  obtain ⟨sl, l, u, rfl, hsl, pl, pu⟩ := hi
  have hs : s.heap.IsSliceOf sl l u .none := ⟨_, R.keep _ _ hsl, rfl, rfl⟩
  unfold sliceX at e
  split at e
  · rename_i b
    cases e
    cases ho with
    | @bytes _ t =>
      refine ofAny (getItem_meets (PySem.W.typeIs_bytes _ _ _) (by decide) FB.slot_bytes_getitem FB.entry_bytes_getitem (FB.args_bytes_getitem_2 _ _) (KBc.meets_slice2 b.toArray t sl pl pu) ⟨hs, ?_, fun t' k => ?_⟩)
      · rw [picked_cut, List.size_toArray, sizeLine_eq]; exact Nat.le_trans (cut_length _ _ _) hc
      · rw [picked_cut]; exact P.ok R k .bytes
  · rename_i l'
    cases e
    cases ho with
    | lst h1 h2 =>
      have hlen := h2.length
      refine ofAny (wpAny_getItem_list_slice (R.flist h1) hs pl pu .none (fun e => nomatch e) ?_ (by rw [List.size_toArray, sizeLine_eq, ← hlen]; exact hc))
      obtain ⟨W', le, _, hg, R'⟩ := R.fzNew (o := { cls := .type "list", data := .seq (slicePick _ x.1 x.2 none) }) (t := s.toks) rfl
      refine P W' _ le R' _ ?_
      rw [slicePick_plain] at hg
      refine .lst (vs := _) hg ?_
      simp only [List.size_toArray]
      rw [← hlen]
      exact ((h2.mono le).drop _).take _
  · cases ho with
    | ref h =>
      split at e
      · rename_i b hb
        cases e
        refine ofAny (getSlice_ba (R.obarr hb h) hs pl pu (by rw [sizeLine_eq]; exact hc) ?_)
        have hsz : S.hb.objs.size ≤ s.heap.objs.size := by
          rcases R.size with h | h
          · exact h
          · cases fs with
            | nil => exact absurd rfl hf
            | cons _ _ => cases h
        obtain ⟨le, R'⟩ := R.alloc (o := baObj (cut x.1 x.2 b).toArray) (ao := .barr (cut x.1 x.2 b)) (t := s.toks) hsz .barr
        exact P _ _ le R' _ (.ref (by simp [Wd.at]))
      · cases e
  · cases e
end
end Mine
-- part Iv6
open PySem PySem.W PyProof.Rows PySem.Calls
namespace Mine
/-! Expressions -/
structure Ops where
  ev : Expr → X AV
  tr : Expr → X Bool
  lc : Expr → X AV
  ap : AV → List AV → List (Str × AV) → X AV
def boolX (ev : Expr → X AV) (op : BoolOp) : List Expr → X AV
  | [] => X.fail
  | [x] => ev x
  | x :: y :: r => do
    let v ← ev x
    let t ← truthyX v
    match op, t with
    | .And, false => pure v
    | .Or, true => pure v
    | _, _ => boolX ev op (y :: r)
def allX (tr : Expr → X Bool) (op : BoolOp) : List Expr → X Bool
  | [] => pure (op == .And)
  | x :: r => do
    let t ← tr x
    match op, t with
    | .And, false => pure false
    | .Or, true => pure true
    | _, _ => allX tr op r
def chainX (ev : Expr → X AV) (a : AV) : List CmpOp → List Expr → X AV
  | [op], [e] => match behindInMarks op e with
    | false => do let b ← ev e; cmpX op a b
    | true => X.fail
  | op :: op2 :: ops, e :: e2 :: es => do
    let b ← ev e
    let c ← cmpX op a b
    let t ← truthyX c
    match t with
    | true => chainX ev b (op2 :: ops) (e2 :: es)
    | false => pure c
  | _, _ => X.fail
def testX (ev : Expr → X AV) (a : AV) : List CmpOp → List Expr → X Bool
  | [op], [e] => match behindInMarks op e with
    | false => do let b ← ev e; let c ← cmpX op a b; truthyX c
    | true => X.fail
  | op :: op2 :: ops, e :: e2 :: es => do
    let b ← ev e
    let c ← cmpX op a b
    let t ← truthyX c
    match t with
    | true => testX ev b (op2 :: ops) (e2 :: es)
    | false => pure false
  | _, _ => X.fail
def newListX (l : List AV) : X AV := fun p st => match Nat.ble l.length 1000 with
  | true => some (.ok (.ref st.next), p, True, { st with hp := (st.next, .list l) :: st.hp, next := st.next + 1 })
  | false => none
def newTupX (l : List AV) : X AV := fun p st => match Nat.ble l.length 1000 with
  | true => some (.ok (.tup l), p, True, st)
  | false => none
def partX (ev : Expr → X AV) : Option Expr → X (Option Int)
  | none => pure none
  | some e => do let v ← ev e; (match v with | .int i => pure (some i) | .none => pure none | _ => X.fail)
def cutX (ev : Expr → X AV) (lo hi : Option Expr) : X (Option Int × Option Int) := do
  let l ← partX ev lo
  let u ← partX ev hi
  pure (l, u)
def subX (ev : Expr → X AV) (value slice : Expr) : X AV := match slice with
  | .Slice lo hi none _ => do
    let o ← ev value
    let x ← cutX ev lo hi
    sliceX o x.1 x.2
  | .Slice _ _ (some _) _ => X.fail
  | .Constant _ _ _ => do let o ← ev value; let i ← ev slice; itemX true o i
  | _ => do let o ← ev value; let i ← ev slice; itemX false o i
def bmeth : AObj → Str → Option String
  | .barr _, n => match n == ("extend" : Str) with
    | true => some "bytearray.extend"
    | false => none
  | .list _, n => match n == ("append" : Str) with
    | true => some "list.append"
    | false => none
  | _, _ => none
def calleeX (T : Tab) (o : AV) (name : Str) : X AV := fun p st => match o with
  | .ref u => match getH st.hp u with
    | some (.inst C d) => match getH st.hp d with
      | some (.attrs m) => match getK name m with
        | none => match get2 C name T.me with
          | some f => match has1 f T.kp with
            | true => some (.ok (.const (.ref f)), p, True, st)
            | false => none
          | none => none
        | some _ => none
      | _ => none
    | some ao => match bmeth ao name with
      | some id => some (.ok (.const (.builtin id)), p, True, st)
      | none => none
    | none => none
  | .bytes _ => match name == ("join" : Str) with
    | true => some (.ok (.const (.builtin "bytes.join")), p, True, st)
    | false => none
  | _ => none
def constOf : AV → X Value
  | .const v => pure v
  | _ => X.fail
def evF (T : Tab) (sc : Scope) (o : Ops) : Expr → X AV
  | .Constant c _ _ => constX c
  | .Name id _ => nameX T sc id
  | .BoolOp op values _ => boolX o.ev op values
  | .BinOp l op r _ => do let a ← o.ev l; let b ← o.ev r; binX op a b
  | .UnaryOp op x _ => do let a ← o.ev x; unX op a
  | .IfExp t b e _ => do let d ← o.tr t; (match d with | true => o.ev b | false => o.ev e)
  | .List elts _ => do let l ← evsX o.ev elts; newListX l
  | .Tuple elts _ _ => do let l ← evsX o.ev elts; newTupX l
  | .Compare l ops cs _ => do let a ← o.ev l; chainX o.ev a ops cs
  | .Attribute v a _ => attrX T o.ev v a
  | .Subscript v s _ => subX o.ev v s
  | .Call (.Attribute ob name apos) args kws pos => match plainBase ob && methodCallForm' args kws && apos.endLine == pos.line with
    | true => do
      let ov ← o.ev ob
      let f ← calleeX T ov name
      let x ← argsX o.ev args kws
      o.ap f (ov :: x.1) x.2
    | false => X.fail
  | .Call f args kws _ => do
    let fv ← o.ev f
    (match fv with
    | .const v => (match T.keep v with | true => (do let x ← argsX o.ev args kws; o.ap (.const v) x.1 x.2) | false => X.fail)
    | _ => X.fail)
  | e@(.ListComp _ _ _ _) => o.lc e
  | _ => X.fail
where methodCallForm' (args : List Expr) (kws : List Keyword) : Bool := plainL args && named kws && Nat.blt (args.length + kws.length + 1) 30
def trF (o : Ops) : Expr → X Bool
  | .UnaryOp .Not x _ => do let b ← o.tr x; pure (!b)
  | .BoolOp op values _ => allX o.tr op values
  | .IfExp t b e _ => do let d ← o.tr t; (match d with | true => o.tr b | false => o.tr e)
  | .Compare l ops cs _ => do let a ← o.ev l; testX o.ev a ops cs
  | e => do let v ← o.ev e; truthyX v
section
variable {S : Stc} {A : Around} {fs : List Fm} {W : Wd} {st : ASt} {s : Shared} {env : Env}
def SBool : Wd → Bool → Bool → Prop := fun _ x y => x = y
theorem sim_boolOp {ev : Expr → X AV} {op : BoolOp} {pos : Pos} (h : ∀ W e, Sim S A fs VRel W (ev e) (eval e env)) : ∀ (l : List Expr) (W : Wd), Sim S A fs VRel W (boolX ev op l) (boolOp pos op (evalEach l env))
  | [], W => .fail
  | [x], W => h W x
  | x :: y :: r, W => by
    show Sim S A fs VRel W _ (eval x env >>= fun v => standAt pos >>= fun _ => holding [v] (truthy v) >>= fun t => match op, t with
      | .And, false | .Or, true => pure v
      | _, _ => boolOp pos op (evalEach (y :: r) env))
    refine .bind (h W x) fun W' a v le hv => .standAt (.bind (.holding (sim_truthy hv)) fun W'' t t' le' ht => ?_)
    subst ht
    cases op <;> cases t
    · exact .pure fun W₃ le₃ => (hv.mono le').mono le₃
    · exact sim_boolOp h (y :: r) W''
    · exact sim_boolOp h (y :: r) W''
    · exact .pure fun W₃ le₃ => (hv.mono le').mono le₃
theorem sim_allTrue {tr : Expr → X Bool} {op : BoolOp} (h : ∀ W e, Sim S A fs SBool W (tr e) (isTrue e env (eval e env))) : ∀ (l : List Expr) (W : Wd), Sim S A fs SBool W (allX tr op l) (allTrue op l env)
  | [], W => .pure fun _ _ => rfl
  | x :: r, W => by
    rw [arm_allTrue_cons]
    refine .bind (h W x) fun W' t t' le ht => ?_
    obtain rfl : t = t' := ht
    cases op <;> cases t
    · exact .pure fun _ _ => rfl
    · exact sim_allTrue h r W'
    · exact sim_allTrue h r W'
    · exact .pure fun _ _ => rfl
theorem sim_chain {k : Nat} {hb : Bool} (C : CxOk k hb A fs) {ev : Expr → X AV} {pos : Pos} (h : ∀ W e, Sim S A fs VRel W (ev e) (eval e env)) : ∀ (ops : List CmpOp) (es : List Expr) {a : AV} {v : Value} {W : Wd}, VRel W a v →
    Sim S A fs VRel W (chainX ev a ops es) (compareChain pos v ops (markedEach ops es (evalEach es env)))
  | [], _, _, _, _, _ => by unfold chainX; exact .fail
  | [op], [], _, _, _, _ => .fail
  | [op], [e], a, v, W, ha => by
    unfold chainX
    split
    · rename_i hm
      show Sim S A fs VRel W _ (holding [v] (markedBehindIn op e (eval e env)) >>= fun rv => standAt pos >>= fun _ => operate [v, rv] (compareOp op v rv))
      rw [markedBehindIn_of_false hm]
      exact .bind (.holding (h W e)) fun W' b w le hw => .standAt (.operate (sim_cmp C (ha.mono le) hw))
    · exact .fail
  | [op], _ :: _ :: _, _, _, _, _ => .fail
  | op :: op2 :: ops, [], _, _, _, _ => .fail
  | op :: op2 :: ops, [_], _, _, _, _ => .fail
  | op :: op2 :: ops, e :: e2 :: es, a, v, W, ha => by
    show Sim S A fs VRel W _ (holding [v] (eval e env) >>= fun rv => standAt pos >>= fun _ => holding [v, rv] (compareOp op v rv) >>= fun c => release [v, rv] [c] >>= fun _ => holding [c, rv] (truthy c) >>= fun t =>
      if t then compareChain pos rv (op2 :: ops) (markedEach (op2 :: ops) (e2 :: es) (evalEach (e2 :: es) env)) else pure c)
    refine .bind (.holding (h W e)) fun W' b w le hw => .standAt (.bind (.holding (sim_cmp C (ha.mono le) hw)) fun W'' c c' le' hc => ?_)
    refine .release (.bind (.holding (sim_truthy hc)) fun W₃ t t' le'' ht => ?_)
    subst ht
    cases t
    · exact .pure fun W₄ le₄ => (hc.mono le'').mono le₄
    · exact sim_chain C h (op2 :: ops) (e2 :: es) ((hw.mono le').mono le'')
theorem sim_test {k : Nat} {hb : Bool} (C : CxOk k hb A fs) {ev : Expr → X AV} {pos : Pos} (h : ∀ W e, Sim S A fs VRel W (ev e) (eval e env)) : ∀ (ops : List CmpOp) (es : List Expr) {a : AV} {v : Value} {W : Wd}, VRel W a v →
    Sim S A fs SBool W (testX ev a ops es) (testChain pos v ops (markedEach ops es (evalEach es env)))
  | [], _, _, _, _, _ => by unfold testX; exact .fail
  | [op], [], _, _, _, _ => .fail
  | [op], [e], a, v, W, ha => by
    unfold testX
    split
    · rename_i hm
      show Sim S A fs SBool W _ (holding [v] (markedBehindIn op e (eval e env)) >>= fun rv => standAt pos >>= fun _ => operate [v, rv] (compareOp op v rv) >>= fun c => holding [c] (truthy c))
      rw [markedBehindIn_of_false hm]
      exact .bind (.holding (h W e)) fun W' b w le hw => .standAt (.bind (.operate (sim_cmp C (ha.mono le) hw)) fun W'' c c' le' hc => .holding (sim_truthy hc))
    · exact .fail
  | [op], _ :: _ :: _, _, _, _, _ => .fail
  | op :: op2 :: ops, [], _, _, _, _ => .fail
  | op :: op2 :: ops, [_], _, _, _, _ => .fail
  | op :: op2 :: ops, e :: e2 :: es, a, v, W, ha => by
    show Sim S A fs SBool W _ (holding [v] (eval e env) >>= fun rv => standAt pos >>= fun _ => holding [v, rv] (compareOp op v rv) >>= fun c => release [v, rv] [c] >>= fun _ => holding [c, rv] (truthy c) >>= fun t =>
      if t then testChain pos rv (op2 :: ops) (markedEach (op2 :: ops) (e2 :: es) (evalEach (e2 :: es) env)) else pure false)
    refine .bind (.holding (h W e)) fun W' b w le hw => .standAt (.bind (.holding (sim_cmp C (ha.mono le) hw)) fun W'' c c' le' hc => ?_)
    refine .release (.bind (.holding (sim_truthy hc)) fun W₃ t t' le'' ht => ?_)
    subst ht
    cases t
    · exact .pure fun _ _ => rfl
    · exact sim_test C h (op2 :: ops) (e2 :: es) ((hw.mono le').mono le'')
theorem Rep.hsz {f : Fm} {fs' : List Fm} (R : Rep S W (Las (f :: fs')) st s) : S.hb.objs.size ≤ s.heap.objs.size := by
  rcases R.size with h | h
  · exact h
  · cases h
theorem sim_newList {f : Fm} {fs' : List Fm} {l : List AV} {vs : List Value} (hl : VRels W l vs) : Sim S A (f :: fs') VRel W (newListX l) (newList vs) := by
  intro p st r p' c st' e hc s R Q E P
  unfold newListX at e
  split at e
  · rename_i hb
    cases e
    have hb : l.length ≤ 1000 := Nat.ble_eq.mp hb
    refine ofAny (wpAny_newList ?_ (by rw [← hl.length, sizeLine_eq]; omega))
    obtain ⟨le, R'⟩ := R.alloc (o := { cls := .type "list", data := .seq vs.toArray }) (ao := .list l) (t := s.toks) R.hsz (.list (hl.mono (Wd.le_at (R.fresh _ (Nat.le_refl _)))))
    exact P _ _ le R' _ (.ref (by simp [Wd.at]))
  · cases e
theorem sim_newTuple {l : List AV} {vs : List Value} (hl : VRels W l vs) : Sim S A fs VRel W (newTupX l) (newTuple vs) := by
  intro p st r p' c st' e hc s R Q E P
  unfold newTupX at e
  split at e
  · rename_i hb
    cases e
    have hb : l.length ≤ 1000 := Nat.ble_eq.mp hb
    refine ofAny (wpAny_newTuple ?_ (by rw [← hl.length, sizeLine_eq]; omega))
    obtain ⟨W', le, _, hg, R'⟩ := R.fzNew (o := { cls := .type "tuple", data := .seq vs.toArray }) (t := s.toks) rfl
    exact P _ _ le R' _ (.tup hg (hl.mono le))
  · cases e
theorem sim_part {ev : Expr → X AV} (h : ∀ W e, Sim S A fs VRel W (ev e) (eval e env)) : ∀ (o : Option Expr) (W : Wd), Sim S A fs (fun _ x v => IsPart v x) W (partX ev o) (valueOrNone (evalOpt o env))
  | none, W => .congr (t' := pure Value.none) rfl (.pure fun _ _ => .none)
  | some e, W => by
    show Sim S A fs _ W _ (eval e env)
    refine .congr (t' := eval e env >>= fun v => pure v) (by rw [bind_pure]) ?_
    refine .bind (h W e) fun W' a v le hv => ?_
    cases hv with
    | none => exact .pure fun _ _ => .none
    | int => exact .pure fun _ _ => .int _ _
    | _ => exact .fail
theorem Sim.held {α β γ : Type} {rel : Wd → α → β → Prop} {m : X α} {vs : List Value} {a : γ} {t : γ → Sem β} (h : Sim S A fs rel W m (t a)) : Sim S A fs rel W m (PySem.holding vs (Pure.pure a) >>= t) :=
  fun _ _ _ _ _ _ e hc s R Q E P => wpC_bind (wpC_holding (wpC_pure (h _ _ _ _ _ _ e hc s R Q E P)))
theorem sim_sliceObj {l u : Option Int} {lv uv : Value} (hl : IsPart lv l) (hu : IsPart uv u) : Sim S A fs SRel W (pure (l, u)) (newFields "slice" [lv, uv, .none]) := by
  intro p st r p' c st' e hc s R Q E P
  cases e
  refine ofAny ?_
  unfold newFields
  refine wpAny_newObj_type ?_ (by show (3 : Nat) ≤ _; rw [sizeLine_eq]; omega)
  obtain ⟨W', le, _, hg, R'⟩ := R.fzNew (o := { cls := .type "slice", data := .fields #[lv, uv, .none] }) (t := s.toks) rfl
  exact P W' _ le R' _ ⟨_, lv, uv, rfl, hg, hl, hu⟩
theorem sim_cut {ev : Expr → X AV} {lo hi : Option Expr} (h : ∀ W e, Sim S A fs VRel W (ev e) (eval e env)) :
    Sim S A fs SRel W (cutX ev lo hi) (valueOrNone (evalOpt lo env) >>= fun l => holding [l] (valueOrNone (evalOpt hi env)) >>= fun u => holding [l, u] (valueOrNone (evalOpt none env)) >>= fun s => newFields "slice" [l, u, s]) := by
  refine .bind (sim_part h lo W) fun W' l lv le hl => .bind (.holding (sim_part h hi W')) fun W'' u uv le' hu => ?_
  exact .held (sim_sliceObj hl hu)
/-- the part of a subscript behind its value and its key -/
theorem sim_subTail {m : X AV} {value slice : Expr} {o i : Value} (hs : ∀ st p x s, m p st = some x → Rep S W (Las fs) st s → Sub4 s o) (h : Sim S A fs VRel W m (getItem o i))
    (hsub : subscripted slice false o i = operate [o, i] (getItem o i) ∨ subscripted slice false o i = operate [i, o] (getItem o i)) :
    Sim S A fs VRel W m (getitemInPython o >>= fun b => subscripted slice b o i >>= fun r => letTemporaryGo value o r >>= fun _ => pure r) := by
  have h2 : Sim S A fs VRel W m (subscripted slice false o i >>= fun r => letTemporaryGo value o r >>= fun _ => pure r) := by
    refine .after ?_ fun b Q E s hq => ofAny (wpAny_bind (wpAny_letTemporaryGo (wpAny_pure hq)))
    rcases hsub with e | e <;> rw [e] <;> exact .operate h
  intro p st r p' c st' e hc s R Q E P
  obtain ⟨T, id, hT, hl⟩ := hs _ _ _ _ e R
  exact wpC_bind (inPy hT hl (h2 _ _ _ _ _ _ e hc s R Q E P))
theorem sim_sub {f : Fm} {fs' : List Fm} {ev : Expr → X AV} {value slice : Expr} {pos : Pos} (h : ∀ W e, Sim S A (f :: fs') VRel W (ev e) (eval e env)) : Sim S A (f :: fs') VRel W (subX ev value slice) (eval (.Subscript value slice pos) env) := by
  have item : ∀ lit, (∀ o i, subscripted slice false o i = operate [o, i] (getItem o i) ∨ subscripted slice false o i = operate [i, o] (getItem o i)) →
      Sim S A (f :: fs') VRel W (ev value >>= fun o => ev slice >>= fun i => itemX lit o i) (eval (.Subscript value slice pos) env) := by
    intro lit hsub
    rw [arm_eval_Subscript]
    refine .bind (h W value) fun W' o v le hv => .bind (.holding (h W' slice)) fun W'' i w le' hw => .standAt ?_
    exact sim_subTail (fun st p x s e R => item_sub4 (hv.mono le') R e) (sim_item (hv.mono le') hw) (hsub v w)
  unfold subX
  split
  · rename_i lo hi pos'
    rw [arm_eval_Subscript]
    refine .bind (h W value) fun W' o v le hv => ?_
    rw [arm_eval_Slice]
    refine .bind (.holding (sim_cut h)) fun W'' x w le' hw => .standAt ?_
    exact sim_subTail (fun st p y s e R => slice_sub4 (hv.mono le') R e) (sim_slice (List.cons_ne_nil _ _) (hv.mono le') hw) (.inr rfl)
  · exact .fail
  · exact item true fun _ _ => .inl rfl
  · rename_i n1 n2 n3
    refine item false fun o i => ?_
    cases slice <;> first | exact .inl rfl | skip
    rename_i lo hi st ps
    cases st with
    | none => exact absurd rfl (n1 _ _ _)
    | some x => exact absurd rfl (n2 _ _ _ _)
end
end Mine
-- part Iv7
open PySem PySem.W PyProof.Rows PySem.Calls
namespace Mine
/-! Methods; the expressions together -/
theorem ba_plain : PlainAttrs "bytearray" :=
  ⟨⟨"bytearray.__getattribute__", by rw [typeLookup_type, builtinLookup_eq_fast]; kernel_rfl, by decide +kernel⟩, by rw [typeLookup_type, builtinLookup_eq_fast]; kernel_rfl⟩
theorem bytes_plain : PlainAttrs "bytes" :=
  ⟨⟨"bytes.__getattribute__", by rw [typeLookup_type, builtinLookup_eq_fast]; kernel_rfl, by decide +kernel⟩, by rw [typeLookup_type, builtinLookup_eq_fast]; kernel_rfl⟩
theorem type_ba_extend : typeOf (.builtin "bytearray.extend") = pure (.type "method_descriptor") := by show builtinType _ = _; rw [builtinType_eq_fast]; kernel_rfl
theorem type_bytes_join : typeOf (.builtin "bytes.join") = pure (.type "method_descriptor") := by show builtinType _ = _; rw [builtinType_eq_fast]; kernel_rfl
section
variable {S : Stc} {A : Around} {fs : List Fm} {W : Wd} {st : ASt} {s : Shared} {env : Env}
/-- what is called, and with what in front -/
def CRel (T : Tab) (o : Value) : Wd → AV → Value × List Value → Prop := fun W f x => ∃ v, f = .const v ∧ x = (v, [o]) ∧ T.keep v = true ∧ isConst v = true
theorem sim_callee (O : S.Ok) {oa : AV} {ov : Value} {name : Str} {pl : Sem Bool} (ho : VRel W oa ov) : Sim S A fs (CRel S.T ov) W (calleeX S.T oa name) (getMethod ov name pl) := by
  intro p st r p' c st' e hc s R Q E P
  unfold calleeX at e
  split at e
  · cases ho with
    | ref h =>
      split at e
      · rename_i C d hu
        split at e
        · rename_i m hd
          split at e
          · rename_i hm
            split at e
            · rename_i f hf
              split at e <;> try cases e
              rename_i hkp
              replace hf := O.tab.meth hf
              unfold methOk at hf
              split at hf
              · rename_i g hg
                split at hf
                · rename_i hok
                  cases hf
                  simp only [Bool.and_eq_true, beq_iff_eq] at hok
                  obtain ⟨⟨⟨h1, h2⟩, h3⟩, h4⟩ := hok
                  obtain ⟨dx, es, n, q1, I, ar, -⟩ := R.inst hu hd h
                  refine ofAny (method_fn (R.kin O) I h1 h2 hg h3 ?_ (P.ok R s.toks ⟨_, rfl, rfl, hkp, rfl⟩))
                  show shadowIn (some (dictOf es n)) name = _
                  have := ar.getNone hm
                  show Option.map (·.isSome) (lookIn name (dictOf es n)) = _
                  rw [lookIn_dict, this]; rfl
                · cases hf
              · cases hf
            · cases e
          · cases e
        · cases e
      · rename_i ao hn hu
        split at e
        · rename_i id hid
          cases e
          unfold bmeth at hid
          split at hid
          · split at hid
            · rename_i hnm
              cases hid
              have hb := R.obarr hu h
              rw [eq_of_beq hnm]
              refine ofAny (getMethod_builtin (typeIs_ba hb) ba_plain slot_ba_extend type_ba_extend (fun a ea => ?_) (P.ok R s.toks ⟨_, rfl, rfl, rfl, rfl⟩))
              cases ea; exact ⟨_, hb, rfl⟩
            · cases hid
          · split at hid
            · rename_i hnm
              cases hid
              obtain ⟨vs, n, h1, h2⟩ := R.olist hu h
              rw [eq_of_beq hnm]
              refine ofAny (getMethod_builtin (T := "list") ⟨_, h1, rfl⟩ F.plainAttrs_list slot_list_append F.type_list_append (fun a ea => ?_) (P.ok R s.toks ⟨_, rfl, rfl, rfl, rfl⟩))
              cases ea; exact ⟨_, h1, rfl⟩
            · cases hid
          · cases hid
        · cases e
      · cases e
  · cases ho
    split at e
    · rename_i hnm
      cases e
      rw [eq_of_beq hnm]
      exact ofAny (getMethod_builtin (PySem.W.typeIs_bytes _ _ _) bytes_plain slot_bytes_join type_bytes_join (fun a ea => by cases ea) (P.ok R s.toks ⟨_, rfl, rfl, rfl, rfl⟩))
    · cases e
  · cases e
def isLC : Expr → Bool
  | .ListComp _ _ _ _ => true
  | _ => false
structure OpsOk (S : Stc) (A : Around) (f : Fm) (fs' : List Fm) (o : Ops) : Prop where
  ev : ∀ W e, Sim S A (f :: fs') VRel W (o.ev e) (eval e f.env)
  tr : ∀ W e, Sim S A (f :: fs') SBool W (o.tr e) (isTrue e f.env (eval e f.env))
  lc : ∀ W e, isLC e = true → Sim S A (f :: fs') VRel W (o.lc e) (eval e f.env)
  ap : ∀ W fa fv l vs k kw, VRel W fa fv → VRels W l vs → KRels W k kw → Sim S A (f :: fs') VRel W (o.ap fa l k) (call fv vs kw)
theorem methodCallForm_of {args : List Expr} {kws : List Keyword} {pos : Pos} (h : evF.methodCallForm' args kws = true) :
    methodCallForm (args.length + kws.length) (backTo pos (starEach args env)) (backToKw pos (keywordEach kws env)) = true := by
  unfold evF.methodCallForm' at h
  simp only [Bool.and_eq_true] at h
  obtain ⟨⟨h1, h2⟩, h3⟩ := h
  have p1 : (backTo pos (starEach args env)).any (·.1) = false := by rw [any_backTo]; exact plain_starEach h1
  obtain ⟨p2, p3⟩ := named_all (pos := pos) (env := env) h2
  unfold methodCallForm
  rw [p2]
  have p4 : (backTo pos (starEach args env)).all (!·.1) = true := by
    rw [List.any_eq_false] at p1
    rw [List.all_eq_true]
    intro x hx; have := p1 x hx; simpa using this
  rw [p4]
  have h3 : args.length + kws.length + 1 < 30 := Nat.ble_eq.mp h3
  simp only [Bool.true_and, decide_eq_true_eq]
  split <;> omega
theorem sim_ev (O : S.Ok) {k : Nat} {hb : Bool} {f : Fm} {fs' : List Fm} (C : CxOk k hb A (f :: fs')) {o : Ops} (h : OpsOk S A f fs' o) (e : Expr) (W : Wd) : Sim S A (f :: fs') VRel W (evF S.T f.sc o e) (eval e f.env) := by
  have hk : f.sc.kind = .function := C.kind f (.head _)
  unfold evF
  split
  · exact sim_const
  · exact sim_name O C
  · rw [arm_eval_BoolOp]; exact sim_boolOp h.ev _ W
  · rw [arm_eval_BinOp]
    exact .bind (h.ev W _) fun W' a v le hv => .bind (.holding (h.ev W' _)) fun W'' b w le' hw => .standAt (.operate (sim_bin (hv.mono le') hw))
  · rw [arm_eval_UnaryOp]
    exact .bind (h.ev W _) fun W' a v le hv => .standAt (.holding (sim_un hv))
  · rw [arm_eval_IfExp]
    refine .bind (h.tr W _) fun W' d d' le hd => ?_
    obtain rfl : d = d' := hd
    cases d
    · exact h.ev W' _
    · exact h.ev W' _
  · rw [arm_eval_List]
    exact .standAt (.bind (sim_spliced h.ev _ W) fun W' l vs le hl => sim_newList hl)
  · rw [arm_eval_Tuple]
    exact .standAt (.bind (sim_spliced h.ev _ W) fun W' l vs le hl => sim_newTuple hl)
  · rw [arm_eval_Compare]
    exact .bind (h.ev W _) fun W' a v le hv => sim_chain C h.ev _ _ hv
  · exact sim_attr O h.ev
  · exact sim_sub h.ev
  · rename_i ob name apos args kws pos
    split
    · rename_i hok
      simp only [Bool.and_eq_true] at hok
      obtain ⟨⟨h1, h2⟩, h3⟩ := hok
      rw [arm_eval_Call, attributeBase_plain h1]
      refine .bind (h.ev W ob) fun W' a v le hv => .standAt ?_
      unfold methodCall
      rw [methodCallForm_of h2]
      have e1 : calleeOf true ob f.env v name = getMethod v name (do return (← importBound ob f.env).getD true) := rfl
      rw [e1]
      have e2 : methodCallPos true ob f.env apos pos = pure pos := by
        unfold methodCallPos
        rw [if_pos (by rw [h3]; rfl)]
      refine .bind (.holding (sim_callee O hv)) fun W'' g x le' hg => ?_
      obtain ⟨gv, rfl, rfl, hkeep, hcon⟩ := hg
      refine .congr (t' := callWith pos gv [v] (backTo pos (starEach args f.env)) (backToKw pos (keywordEach kws f.env))) ?_ ?_
      · dsimp only; rw [e2]; rfl
      · exact sim_callWith O h.ev hkeep (ap := fun l k => o.ap (.const gv) (a :: l) k) fun W₃ l k vs kw le₃ hl hk => h.ap W₃ _ _ _ _ _ _ (.const hcon) (.cons ((hv.mono le').mono le₃) hl) hk
    · exact .fail
  · rename_i fe args kws pos hna
    have e1 : eval (.Call fe args kws pos) f.env = (eval fe f.env >>= fun fv => callWith pos fv [] (backTo pos (starEach args f.env)) (backToKw pos (keywordEach kws f.env))) := by
      cases fe <;> first | rfl | exact absurd rfl (hna _ _ _)
    rw [e1]
    refine .bind (h.ev W fe) fun W' a v le hv => ?_
    cases hv with
    | const hcon =>
      dsimp only
      split
      · rename_i hkeep
        exact sim_callWith O h.ev hkeep (first := []) (ap := fun l k => o.ap (.const v) l k) (fun W₃ l k vs kw le₃ hl hk => h.ap W₃ _ _ _ _ _ _ (.const hcon) hl hk)
      · exact .fail
    | _ => exact .fail
  · exact h.lc W _ rfl
  · exact .fail
theorem sim_tr {k : Nat} {hb : Bool} {f : Fm} {fs' : List Fm} (C : CxOk k hb A (f :: fs')) {o : Ops} (h : OpsOk S A f fs' o) (e : Expr) (W : Wd) : Sim S A (f :: fs') SBool W (trF o e) (isTrue e f.env (eval e f.env)) := by
  have dflt : isTrue e f.env (eval e f.env) = (eval e f.env >>= fun v => standAt e.pos >>= fun _ => holding [v] (truthy v)) → Sim S A (f :: fs') SBool W (o.ev e >>= fun v => truthyX v) (isTrue e f.env (eval e f.env)) := by
    intro q
    rw [q]
    exact .bind (h.ev W e) fun W' a v le hv => .standAt (.holding (sim_truthy hv))
  unfold trF
  split
  · rw [arm_isTrue_UnaryOp]
    refine .bind (h.tr W _) fun W' b b' le hb => ?_
    obtain rfl : b = b' := hb
    exact .pure fun _ _ => rfl
  · rw [arm_isTrue_BoolOp]; exact sim_allTrue h.tr _ W
  · rw [arm_isTrue_IfExp]
    refine .bind (h.tr W _) fun W' d d' le hd => ?_
    obtain rfl : d = d' := hd
    cases d
    · exact h.tr W' _
    · exact h.tr W' _
  · rw [arm_isTrue_Compare]
    exact .bind (h.ev W _) fun W' a v le hv => sim_test C h.ev _ _ hv
  · rename_i n1 n2 n3 n4
    refine dflt ?_
    cases e with
    | UnaryOp op x p => cases op <;> first | rfl | exact absurd rfl (n1 _ _)
    | BoolOp op x p => exact absurd rfl (n2 _ _ _)
    | IfExp a b c p => exact absurd rfl (n3 _ _ _ _)
    | Compare a b c p => exact absurd rfl (n4 _ _ _ _)
    | _ => rfl
end
end Mine
-- part Iv8
open PySem PySem.W PyProof.Rows PySem.Calls
namespace Mine
/-! Built-in functions and types called -/
theorem kind_callable : builtinKind "callable" = none := by decide +kernel
theorem plain_callable : plainId "callable" = true := by decide +kernel
theorem entry_callable : entryFor table "callable" = some Builtin.«callable» := by first | exact entryFor_of_fast (by kernel_rfl) | exact entryFor_of_tree (by kernel_rfl)
theorem args_callable (v : Value) : argsOk "callable" ⟨[v], []⟩ := by unfold argsOk; kernel_rfl
def lenX (l : List AV) : X AV := fun p st => match l with
  | [.bytes b] => some (.ok (.int b.length), p, b.length ≤ 16777216, st)
  | [.ref u] => match getH st.hp u with
    | some (.barr b) => some (.ok (.int b.length), p, b.length ≤ 16777216, st)
    | _ => none
  | _ => none
def intsOf : List AV → Option (List Int)
  | [] => some []
  | .int i :: r => match intsOf r with
    | some l => some (i :: l)
    | none => none
  | _ => none
def bytesX (hb : Bool) (l : List AV) : X AV := fun p st => match l with
  | [.ref u] => match getH st.hp u with
    | some (.barr b) => some (.ok (.bytes b), p, b.length ≤ 16777216, st)
    | some (.list l) => match hb, intsOf l with
      | true, some ns => some (.ok (.bytes (ns.map fun n => n.toNat.toUInt8)), p, (∀ n ∈ ns, 0 ≤ n ∧ n < 256) ∧ ns.length ≤ 16777216, st)
      | _, _ => none
    | _ => none
  | [.lst l] => match hb with
    | true => some (.ok (.bytes (((intsOf l).getD []).map fun n => n.toNat.toUInt8)), p, intsOf l = some ((intsOf l).getD []) ∧ (∀ n ∈ (intsOf l).getD [], 0 ≤ n ∧ n < 256) ∧ ((intsOf l).getD []).length ≤ 16777216, st)
    | false => none
  | _ => none
def barrX (l : List AV) : X AV := fun p st => match l with
  | [] => some (.ok (.ref st.next), p, True, { st with hp := (st.next, .barr []) :: st.hp, next := st.next + 1 })
  | [.bytes m] => some (.ok (.ref st.next), p, m.length ≤ 16777216, { st with hp := (st.next, .barr m) :: st.hp, next := st.next + 1 })
  | _ => none
def isinstX (l : List AV) : X AV := fun p st => match l with
  | [.ref u, .const (.type t)] => match getH st.hp u, t == "bytearray" with
    | some (.barr _), true => some (.ok (.lit true), p, True, st)
    | _, _ => none
  | [.bytes _, .const (.type t)] => match t == "bytes" with
    | true => some (.ok (.lit true), p, True, st)
    | false => none
  | _ => none
def truthX (l : List AV) : X AV := fun p st => match l with
  | [.none] => some (.ok (.lit false), p, True, st)
  | [.bool b] => some (.ok (.bool b), p, True, st)
  | [.lit b] => some (.ok (.lit b), p, True, st)
  | [.int i] => some (.ok (.bool (i != 0)), p, True, st)
  | _ => none
def minX (hb : Bool) (l : List AV) : X AV := fun p st => match hb, l with
  | true, [.int a, .int b] => some (.ok (.int (if b < a then b else a)), p, True, st)
  | _, _ => none
def callableX (T : Tab) (l : List AV) : X AV := fun p st => match l with
  | [.const (.ref C)] => match has1 C T.cl with
    | true => some (.ok (.lit true), p, True, st)
    | false => none
  | _ => none
def extendX (l : List AV) : X AV := fun p st => match l with
  | [.ref u, .bytes m] => match getH st.hp u with
    | some (.barr b) => some (.ok .none, p, b.length + m.length ≤ 16777216, { st with hp := putH u (.barr (b ++ m)) st.hp })
    | _ => none
  | _ => none
def joinX (l : List AV) : X AV := fun p st => match l with
  | [.bytes [], .ref u] => match getH st.hp u with
    | some (.list [.bytes m]) => some (.ok (.bytes m), p, True, st)
    | some (.list [.ref v]) => match getH st.hp v with
      | some (.barr b) => some (.ok (.bytes b), p, b.length ≤ 16777216, st)
      | _ => none
    | _ => none
  | _ => none
def builtinX (T : Tab) (hb : Bool) (id : String) (l : List AV) : X AV := match id == "len" with
  | true => lenX l
  | false => match id == "isinstance" with
    | true => isinstX l
    | false => match id == "min" with
      | true => minX hb l
      | false => match id == "callable" with
        | true => callableX T l
        | false => match id == "bytearray.extend" with
          | true => extendX l
          | false => match id == "bytes.join" with
            | true => joinX l
            | false => X.fail
def typeX (hb : Bool) (t : String) (l : List AV) : X AV := match t == "bytes" with
  | true => bytesX hb l
  | false => match t == "bytearray" with
    | true => barrX l
    | false => match t == "bool" with
      | true => truthX l
      | false => X.fail
section
variable {S : Stc} {A : Around} {W : Wd} {f : Fm} {fs' : List Fm} {st : ASt} {s : Shared}
theorem sim_len {l : List AV} {vs : List Value} (h : VRels W l vs) : Sim S A (f :: fs') VRel W (lenX l) (call (.builtin "len") vs) := by
  intro p st r p' c st' e hc s R Q E P
  unfold lenX at e
  split at e
  · cases e
    cases h with | cons a r => cases r; cases a; exact ofAny (len_bytes (by simp; omega) (by have := P.ok R (s.toks + 2) (VRel.int (t := s.toks + 1)); simpa using this))
  · split at e
    · rename_i b hb
      cases e
      cases h with | cons a r => cases r; cases a with | ref h => exact ofAny (len_ba (R.obarr hb h) (by rw [sizeLine_eq]; simpa using hc) fun t k => by have := P.ok R k (VRel.int (t := t)); simpa using this)
    · cases e
  · cases e
theorem intsAre_of : ∀ {l : List AV} {vs : List Value} {ns : List Int}, VRels W l vs → intsOf l = some ns → IntsAre vs ns
  | _, _, _, .nil, e => by cases e; exact .nil
  | _, _, _, .cons a r, e => by
    cases a with
    | int =>
      unfold intsOf at e
      split at e
      · rename_i l hl; cases e; exact .cons _ _ (intsAre_of r hl)
      · cases e
    | _ => cases e
theorem sim_bytes {k : Nat} {hb : Bool} (C : CxOk k hb A (f :: fs')) {l : List AV} {vs : List Value} (h : VRels W l vs) : Sim S A (f :: fs') VRel W (bytesX hb l) (call (.type "bytes") vs) := by
  intro p st r p' c st' e hc s R Q E P
  unfold bytesX at e
  split at e
  · split at e
    · rename_i b hb
      cases e
      cases h with | cons a r => cases r; cases a with | ref h => exact ofAny (bytes_of_ba (R.obarr hb h) (by rw [sizeLine_eq]; exact hc) fun t k => P.ok R k .bytes)
    · rename_i l hl
      split at e
      · rename_i ns hns
        cases e
        cases h with | cons a r => cases r; cases a with
          | ref h =>
            obtain ⟨ws, n, h1, h2⟩ := R.olist hl h
            have hi := intsAre_of h2 hns
            refine ofAny (call_bytes_ints ⟨_, h1, rfl, _, rfl⟩ hi hc.1 (by rw [hi.length, sizeLine_eq]; exact hc.2) (C.hand rfl) fun h' t k hk => ?_)
            exact P W _ (.refl W) (R.grow hk) _ .bytes
      · cases e
    · cases e
  · split at e
    · rename_i l
      cases e
      cases h with | cons a r => cases r; cases a with
        | lst h1 h2 =>
          have hi := intsAre_of h2 hc.1
          refine ofAny (call_bytes_ints ⟨_, R.keep _ _ h1, rfl, _, rfl⟩ hi hc.2.1 (by rw [hi.length, sizeLine_eq]; exact hc.2.2) (C.hand rfl) fun h' t k hk => ?_)
          exact P W _ (.refl W) (R.grow hk) _ .bytes
    · cases e
  · cases e
theorem sim_barr {l : List AV} {vs : List Value} (h : VRels W l vs) : Sim S A (f :: fs') VRel W (barrX l) (call (.type "bytearray") vs) := by
  intro p st r p' c st' e hc s R Q E P
  unfold barrX at e
  split at e
  · cases e
    cases h
    refine new_ba ?_
    obtain ⟨le, R'⟩ := R.alloc (o := baObj #[]) (ao := .barr []) (t := s.toks) R.hsz .barr
    exact P _ _ le R' _ (.ref (by simp [Wd.at]))
  · rename_i m
    cases e
    cases h with | cons a r => cases r; cases a with
      | bytes =>
        refine new1_ba (by rw [sizeLine_eq]; exact hc) ?_
        obtain ⟨le, R'⟩ := R.alloc (o := baObj m.toArray) (ao := .barr m) (t := s.toks) R.hsz .barr
        exact P _ _ le R' _ (.ref (by simp [Wd.at]))
  · cases e
theorem sim_isinst {l : List AV} {vs : List Value} (h : VRels W l vs) : Sim S A (f :: fs') VRel W (isinstX l) (call (.builtin "isinstance") vs) := by
  intro p st r p' c st' e hc s R Q E P
  unfold isinstX at e
  split at e
  · split at e
    · rename_i hb ht
      cases e
      rw [eq_of_beq ht] at h
      cases h with | cons a r => cases r with | cons b r => cases r; cases a with | ref h => cases b; exact ofAny (isinstance_ba (R.obarr hb h) (P.ok R s.toks .lit))
    · cases e
  · split at e
    · rename_i ht
      cases e
      rw [eq_of_beq ht] at h
      cases h with | cons a r => cases r with | cons b r => cases r; cases a; cases b; exact ofAny (isinstance_by (P.ok R s.toks .lit))
    · cases e
  · cases e
theorem sim_truth {l : List AV} {vs : List Value} (h : VRels W l vs) : Sim S A (f :: fs') VRel W (truthX l) (call (.type "bool") vs) := by
  intro p st r p' c st' e hc s R Q E P
  unfold truthX at e
  split at e
  · cases e; cases h with | cons a r => cases r; cases a; exact ofAny (call_bool_none (P.ok R s.toks .lit))
  · cases e; cases h with | cons a r => cases r; cases a; exact ofAny (call_bool_bool (P.ok R s.toks .bool))
  · cases e; cases h with | cons a r => cases r; cases a; exact ofAny (call_bool_bool (P.ok R s.toks .lit))
  · cases e; cases h with | cons a r => cases r; cases a; exact ofAny (call_bool_int (P.ok R s.toks .bool))
  · cases e
theorem sim_min {k : Nat} {hb : Bool} (C : CxOk k hb A (f :: fs')) {l : List AV} {vs : List Value} (h : VRels W l vs) : Sim S A (f :: fs') VRel W (minX hb l) (call (.builtin "min") vs) := by
  intro p st r p' c st' e hc s R Q E P
  unfold minX at e
  split at e
  · rename_i x y
    cases e
    cases h with | cons a r => cases r with | cons b r => cases r; cases a; cases b; exact ofAny (min_two_ints (C.hand rfl) fun h' tk hk => by
      have := fun t => P W _ (.refl W) (R.grow (t := tk) hk) _ (VRel.int (i := if y < x then y else x) (t := t))
      by_cases q : y < x
      · rw [if_pos q] at this ⊢; exact this _
      · rw [if_neg q] at this ⊢; exact this _)
  · cases e
theorem sim_callable (O : S.Ok) {l : List AV} {vs : List Value} (h : VRels W l vs) : Sim S A (f :: fs') VRel W (callableX S.T l) (call (.builtin "callable") vs) := by
  intro p st r p' c st' e hc s R Q E P
  unfold callableX at e
  split at e
  · split at e
    · rename_i C hcl
      cases e
      have hs := O.tab.cl _ (has1_mem hcl)
      obtain ⟨o, ho, hso⟩ := any_some hs
      cases h with | cons a r => cases r; cases a with
        | const =>
          refine ofAny (Calls.call_function_entry kind_callable plain_callable entry_callable (args_callable _) ?_)
          unfold Builtin.«callable»
          refine wpAny_bind (m := oneArg "callable" _) (wpAny_pure ?_)
          refine wpAny_bind ((looks_specialIn (R.kin O) ho).here ?_)
          rw [hso]
          exact wpAny_pure ⟨_, rfl, P.ok R s.toks .lit⟩
    · cases e
  · cases e
theorem sim_extend {l : List AV} {vs : List Value} (h : VRels W l vs) : Sim S A (f :: fs') VRel W (extendX l) (call (.builtin "bytearray.extend") vs) := by
  intro p st r p' c st' e hc s R Q E P
  unfold extendX at e
  split at e
  · split at e
    · rename_i m x b0 hb
      cases e
      cases h with | cons a r => cases r with | cons b r => cases r; cases a with | ref h => cases b with
        | bytes =>
          have ho := R.obarr hb h
          refine extend_ba ho (by rw [sizeLine_eq]; exact hc) ?_
          refine P W _ (.refl W) (R.update (t := s.toks) (f := Obj.mapBytearray (· ++ m.toArray)) h ho ?_) _ .none
          have := ORel.barr (S := S) (W := W) (b := b0 ++ m)
          rw [← List.append_toArray] at this
          exact this
    · cases e
  · cases e
theorem sim_join {l : List AV} {vs : List Value} (h : VRels W l vs) : Sim S A (f :: fs') VRel W (joinX l) (call (.builtin "bytes.join") vs) := by
  intro p st r p' c st' e hc s R Q E P
  unfold joinX at e
  split at e
  · split at e
    · rename_i m hl
      cases e
      cases h with | cons a r => cases r with | cons b r => cases r; cases a; cases b with
        | ref h =>
          obtain ⟨ws, n, h1, h2⟩ := R.olist hl h
          cases h2 with | cons x r => cases r; cases x; exact ofAny (join_by h1 (P.ok R s.toks .bytes))
    · rename_i v hl
      split at e
      · rename_i b hb
        cases e
        cases h with | cons a r => cases r with | cons b r => cases r; cases a; cases b with
          | ref h =>
            obtain ⟨ws, n, h1, h2⟩ := R.olist hl h
            cases h2 with | cons x r => cases r; cases x with | ref hx => exact ofAny (join_ba h1 (R.obarr hb hx) (by rw [sizeLine_eq]; exact hc) fun t k => P.ok R k .bytes)
      · cases e
    · cases e
  · cases e
theorem sim_builtin (O : S.Ok) {k : Nat} {hb : Bool} (C : CxOk k hb A (f :: fs')) {id : String} {l : List AV} {vs : List Value} (h : VRels W l vs) : Sim S A (f :: fs') VRel W (builtinX S.T hb id l) (call (.builtin id) vs) := by
  unfold builtinX
  split
  · rename_i q; rw [eq_of_beq q]; exact sim_len h
  · split
    · rename_i q; rw [eq_of_beq q]; exact sim_isinst h
    · split
      · rename_i q; rw [eq_of_beq q]; exact sim_min C h
      · split
        · rename_i q; rw [eq_of_beq q]; exact sim_callable O h
        · split
          · rename_i q; rw [eq_of_beq q]; exact sim_extend h
          · split
            · rename_i q; rw [eq_of_beq q]; exact sim_join h
            · exact .fail
theorem sim_type {k : Nat} {hb : Bool} (C : CxOk k hb A (f :: fs')) {t : String} {l : List AV} {vs : List Value} (h : VRels W l vs) : Sim S A (f :: fs') VRel W (typeX hb t l) (call (.type t) vs) := by
  unfold typeX
  split
  · rename_i q; rw [eq_of_beq q]; exact sim_bytes C h
  · split
    · rename_i q; rw [eq_of_beq q]; exact sim_barr h
    · split
      · rename_i q; rw [eq_of_beq q]; exact sim_truth h
      · exact .fail
end
end Mine
-- part Iv9
open PySem PySem.W PyProof.Rows PySem.Calls
namespace Mine
/-! Arguments bound to names -/
section
variable {α : Type}
def addKw (names : List Str) : List (Str × α) → List (Str × α) → Option (List (Str × α))
  | [], s => some s
  | p :: r, s => match names.contains p.1, s.lookup p.1 with
    | true, none => addKw names r (s ++ [p])
    | _, _ => none
def addDf : List (Str × α) → List (Str × α) → List (Str × α)
  | [], s => s
  | p :: r, s => match s.lookup p.1 with
    | none => addDf r (s ++ [p])
    | some _ => addDf r s
def addKd (kwd : Str → Option α) : List Str → List (Str × α) → Option (List (Str × α))
  | [], s => some s
  | n :: r, s => match s.lookup n with
    | some _ => addKd kwd r s
    | none => match kwd n with
      | some v => addKd kwd r (s ++ [(n, v)])
      | none => none
def pickB (s : List (Str × α)) : List Str → List (Str × α)
  | [] => []
  | n :: r => match s.lookup n with
    | some v => (n, v) :: pickB s r
    | none => pickB s r
def allIn (s : List (Str × α)) : List Str → Bool
  | [] => true
  | n :: r => match s.lookup n with
    | some _ => allIn s r
    | none => false
def bindL (normal kwonly : List Str) (pos : List α) (kw : List (Str × α)) (dfl : List α) (kwd : Str → Option α) : Option (List (Str × α)) :=
  match Nat.ble pos.length normal.length, addKw (normal ++ kwonly) kw (normal.zip pos) with
  | true, some s1 =>
    match allIn s1 (normal.take (normal.length - (dfl.drop (dfl.length - normal.length)).length)),
      addKd kwd kwonly (addDf ((normal.drop (normal.length - (dfl.drop (dfl.length - normal.length)).length)).zip (dfl.drop (dfl.length - normal.length))) s1) with
    | true, some s2 => some (pickB s2 (normal ++ kwonly))
    | _, _ => none
  | _, _ => none
end
theorem pickB_eq {α : Type} (s : List (Str × α)) : ∀ l, pickB s l = l.filterMap fun n => (s.lookup n).map (n, ·)
  | [] => rfl
  | n :: r => by
    unfold pickB
    rw [List.filterMap_cons]
    cases h : s.lookup n with
    | none => simp [pickB_eq s r]
    | some v => simp [pickB_eq s r]
theorem allIn_eq {α : Type} {s : List (Str × α)} : ∀ {l}, allIn s l = true → l.filter (fun n => (s.lookup n).isNone) = []
  | [], _ => rfl
  | n :: r, h => by
    unfold allIn at h
    cases q : s.lookup n with
    | none => rw [q] at h; cases h
    | some v => rw [q] at h; rw [List.filter_cons]; simp [q, allIn_eq h]
theorem loop_kw {M : Model} {names : List Str} {f : Str × Value → List (Str × Value) × List (Str × Value) → Sem (ForInStep (List (Str × Value) × List (Str × Value)))}
    (hf : ∀ x sl ex, names.contains x.1 = true → sl.lookup x.1 = none → f x (sl, ex) = pure (.yield (sl ++ [x], ex))) : ∀ (kw : List (Str × Value)) {sl s1 : List (Str × Value)} (ex), addKw names kw sl = some s1 → forIn kw (sl, ex) f = (pure (s1, ex) : Sem _)
  | [], sl, s1, ex, h => by cases h; rfl
  | p :: r, sl, s1, ex, h => by
    unfold addKw at h
    split at h
    · rename_i h1 h2
      rw [List.forIn_cons, hf p sl ex h1 h2, pure_bind]
      exact loop_kw (M := M) hf r ex h
    · cases h
theorem loop_df {f : Str × Value → List (Str × Value) → Sem (ForInStep (List (Str × Value)))}
    (hf : ∀ x sl, f x sl = if (sl.lookup x.1).isNone = true then pure (.yield (sl ++ [x])) else pure (.yield sl)) : ∀ (l : List (Str × Value)) (sl : List (Str × Value)), forIn l sl f = (pure (addDf l sl) : Sem _)
  | [], sl => rfl
  | p :: r, sl => by
    rw [List.forIn_cons, hf]
    unfold addDf
    cases h : sl.lookup p.1 with
    | none => simp only [Option.isNone_none, if_true, pure_bind]; exact loop_df hf r _
    | some v => simp only [Option.isNone_some, Bool.false_eq_true, if_false, pure_bind]; exact loop_df hf r _
theorem loop_kd {M : Model} {A : Around} {E : Value → Shared → Prop} {s : Shared} {kwd : Str → Option Value} {f : Str → List (Str × Value) × List Str → Sem (ForInStep (List (Str × Value) × List Str))}
    (hf1 : ∀ n sl v, sl.lookup n = some v → f n (sl, []) = pure (.yield (sl, [])))
    (hf2 : ∀ n sl v, sl.lookup n = none → kwd n = some v → ∀ (Q : ForInStep (List (Str × Value) × List Str) → Shared → Prop), Q (.yield (sl ++ [(n, v)], [])) s → wpAny M A (f n (sl, [])) Q E s) :
    ∀ (l : List Str) {sl s2 : List (Str × Value)} {Q : List (Str × Value) × List Str → Shared → Prop}, addKd kwd l sl = some s2 → Q (s2, []) s → wpAny M A (forIn l (sl, []) f) Q E s
  | [], sl, s2, Q, h, hq => by cases h; exact wpAny_pure hq
  | n :: r, sl, s2, Q, h, hq => by
    unfold addKd at h
    rw [List.forIn_cons]
    split at h
    · rename_i v hv
      rw [hf1 n sl v hv, pure_bind]
      exact loop_kd hf1 hf2 r h hq
    · rename_i hn
      split at h
      · rename_i v hv
        exact wpAny_bind (hf2 n sl v hn hv _ (loop_kd hf1 hf2 r h hq))
      · cases h
theorem bindsTo_of {s : Shared} {fd : FuncData} {args : Args} {binds : List (Str × Value)} {dfl : List Value} {kwd : Str → Option Value}
    (hp : fd.params.posonlyargs = []) (hv : fd.params.vararg = none) (hk : fd.params.kwarg = none)
    (hd : ∀ (M : Model) (A : Around) (E : Value → Shared → Prop) (Q : Option (Array Value) → Shared → Prop), (∀ o, (o.getD #[]).toList = dfl → Q o s) → wpAny M A (seqItems? fd.defaults) Q E s)
    (hkd : ∀ n v, kwd n = some v → ∃ d, fd.kwdefaults = .ref d ∧ ∀ (M : Model) (A : Around) (E : Value → Shared → Prop) (Q : Option Value → Shared → Prop), Q (some v) s → wpAny M A (nsGet d n) Q E s)
    (h : bindL (fd.params.args.map (·.arg)) (fd.params.kwonlyargs.map (·.arg)) args.pos args.kw dfl kwd = some binds) : BindsTo s fd args binds := by
  intro M A E Q hq
  unfold bindL at h
  split at h
  · rename_i s1 hlen hs1
    split at h
    · rename_i s2 hall hs2
      cases h
      have hlen := Nat.ble_eq.mp hlen
      unfold bindArgs
      simp only [hp, hv, hk, List.map_nil, List.nil_append]
      refine wpAny_bind (wpAny_of_eq (loop_kw (M := M) (names := fd.params.args.map (·.arg) ++ fd.params.kwonlyargs.map (·.arg)) (fun x sl ex h1 h2 => ?_) _ _ hs1) ?_)
      · have h1' : ((fd.params.args.map (·.arg)).contains x.1 || (fd.params.kwonlyargs.map (·.arg)).contains x.1) = true := by rw [← h1]; simp [List.contains_append]
        rw [if_pos h1']
        dsimp only
        rw [h2]; rfl
      dsimp only
      refine wpAny_bind (hd _ _ _ _ fun o ho => ?_)
      rw [ho]
      refine if_no (by simpa using hlen) ?_
      refine if_no (by rw [allIn_eq hall]; simp) ?_
      refine wpAny_bind (wpAny_of_eq (loop_df (fun x sl => rfl) _ _) ?_)
      refine wpAny_bind (loop_kd (kwd := kwd) (fun n sl v hn => ?_) (fun n sl v hn hv Q hq => ?_) _ hs2 ?_)
      · dsimp only; rw [hn]; rfl
      · dsimp only
        rw [hn]
        refine if_yes rfl ?_
        obtain ⟨d, hd, hg⟩ := hkd n v hv
        rw [hd]
        exact wpAny_bind (hg _ _ _ _ (wpAny_pure hq))
      dsimp only
      refine if_no (by simp) ?_
      rw [pickB_eq] at hq
      exact wpAny_pure hq
    · cases h
  · cases h
section
variable {S : Stc} {W : Wd} {fs : List FrA} {st : ASt} {s : Shared}
theorem KRels.lookup {l : List (Str × AV)} {m : List (Str × Value)} (h : KRels W l m) (x : Str) : (l.lookup x = none ∧ m.lookup x = none) ∨ ∃ a v, l.lookup x = some a ∧ m.lookup x = some v ∧ VRel W a v := by
  induction h with
  | nil => exact .inl ⟨rfl, rfl⟩
  | @cons y a v l m hv r ih =>
    rw [List.lookup_cons, List.lookup_cons]
    cases q : x == y with
    | true => exact .inr ⟨a, v, rfl, rfl, hv⟩
    | false => exact ih
theorem KRels.snoc {l : List (Str × AV)} {m : List (Str × Value)} {x : Str} {a : AV} {v : Value} (h : KRels W l m) (hv : VRel W a v) : KRels W (l ++ [(x, a)]) (m ++ [(x, v)]) := by
  induction h with
  | nil => exact .cons hv .nil
  | cons a r ih => exact .cons a ih
theorem KRels.rev {l : List (Str × AV)} {m : List (Str × Value)} (h : KRels W l m) : KRels W l.reverse m.reverse := by
  induction h with
  | nil => exact .nil
  | cons a r ih => rw [List.reverse_cons, List.reverse_cons]; exact ih.snoc a
theorem KRels.zip : ∀ {names : List Str} {l : List AV} {vs : List Value}, VRels W l vs → KRels W (names.zip l) (names.zip vs)
  | [], _, _, _ => .nil
  | _ :: _, _, _, .nil => .nil
  | n :: r, _, _, .cons a q => .cons a (KRels.zip (names := r) q)
theorem addKw_rel {names : List Str} {kw : List (Str × AV)} {kw' : List (Str × Value)} (hk : KRels W kw kw') : ∀ {s : List (Str × AV)} {s' : List (Str × Value)} {r}, KRels W s s' → addKw names kw s = some r → ∃ r', addKw names kw' s' = some r' ∧ KRels W r r' := by
  induction hk with
  | nil => intro s s' r hs e; cases e; exact ⟨_, rfl, hs⟩
  | @cons x a v l m hv q ih =>
    intro s s' r hs e
    unfold addKw at e ⊢
    dsimp only at e ⊢
    split at e
    · rename_i h1 h2
      rcases hs.lookup x with ⟨p1, p2⟩ | ⟨b, w, p1, p2, _⟩
      · rw [h1, p2]; exact ih (hs.snoc hv) e
      · rw [p1] at h2; cases h2
    · cases e
theorem addDf_rel {kw : List (Str × AV)} {kw' : List (Str × Value)} (hk : KRels W kw kw') : ∀ {s : List (Str × AV)} {s' : List (Str × Value)}, KRels W s s' → KRels W (addDf kw s) (addDf kw' s') := by
  induction hk with
  | nil => intro s s' hs; exact hs
  | @cons x a v l m hv q ih =>
    intro s s' hs
    unfold addDf
    dsimp only
    rcases hs.lookup x with ⟨p1, p2⟩ | ⟨b, w, p1, p2, _⟩
    · rw [p1, p2]; exact ih (hs.snoc hv)
    · rw [p1, p2]; exact ih hs
theorem addKd_rel {kwd : Str → Option AV} {kwd' : Str → Option Value} (hk : ∀ n a, kwd n = some a → ∃ v, kwd' n = some v ∧ VRel W a v) : ∀ (l : List Str) {s : List (Str × AV)} {s' : List (Str × Value)} {r}, KRels W s s' → addKd kwd l s = some r →
    ∃ r', addKd kwd' l s' = some r' ∧ KRels W r r'
  | [], s, s', r, hs, e => by cases e; exact ⟨_, rfl, hs⟩
  | n :: l, s, s', r, hs, e => by
    unfold addKd at e ⊢
    rcases hs.lookup n with ⟨p1, p2⟩ | ⟨b, w, p1, p2, _⟩
    · rw [p1] at e; rw [p2]
      dsimp only at e ⊢
      split at e
      · rename_i a ha
        obtain ⟨v, hv, hr⟩ := hk n a ha
        rw [hv]
        exact addKd_rel hk l (hs.snoc hr) e
      · cases e
    · rw [p1] at e; rw [p2]
      exact addKd_rel hk l hs e
theorem pickB_rel {s : List (Str × AV)} {s' : List (Str × Value)} (hs : KRels W s s') : ∀ l, KRels W (pickB s l) (pickB s' l)
  | [] => .nil
  | n :: l => by
    unfold pickB
    rcases hs.lookup n with ⟨p1, p2⟩ | ⟨b, w, p1, p2, h⟩
    · rw [p1, p2]; exact pickB_rel hs l
    · rw [p1, p2]; exact .cons h (pickB_rel hs l)
theorem allIn_rel {s : List (Str × AV)} {s' : List (Str × Value)} (hs : KRels W s s') : ∀ {l}, allIn s l = true → allIn s' l = true
  | [], _ => rfl
  | n :: l, h => by
    unfold allIn at h ⊢
    rcases hs.lookup n with ⟨p1, p2⟩ | ⟨b, w, p1, p2, _⟩
    · rw [p1] at h; cases h
    · rw [p1] at h; rw [p2]; exact allIn_rel hs (l := l) h
theorem bindL_rel {normal kwonly : List Str} {pos : List AV} {pos' : List Value} {kw : List (Str × AV)} {kw' : List (Str × Value)} {dfl : List AV} {dfl' : List Value} {kwd : Str → Option AV} {kwd' : Str → Option Value} {binds : List (Str × AV)}
    (hp : VRels W pos pos') (hk : KRels W kw kw') (hd : VRels W dfl dfl') (hkd : ∀ n a, kwd n = some a → ∃ v, kwd' n = some v ∧ VRel W a v) (h : bindL normal kwonly pos kw dfl kwd = some binds) :
    ∃ binds', bindL normal kwonly pos' kw' dfl' kwd' = some binds' ∧ KRels W binds binds' := by
  unfold bindL at h ⊢
  have hl := hp.length
  have hdl := hd.length
  split at h
  · rename_i s1 h1 h2
    obtain ⟨s1', e1, r1⟩ := addKw_rel hk (.zip hp) h2
    rw [← hl, h1, e1]
    dsimp only
    split at h
    · rename_i s2 h3 h4
      cases h
      have hdrop : (dfl.drop (dfl.length - normal.length)).length = (dfl'.drop (dfl'.length - normal.length)).length := by rw [List.length_drop, List.length_drop, hdl]
      have z : VRels W (dfl.drop (dfl.length - normal.length)) (dfl'.drop (dfl'.length - normal.length)) := by rw [hdl]; exact hd.drop _
      obtain ⟨s2', e2, r2⟩ := addKd_rel hkd _ (addDf_rel (.zip z) r1) h4
      rw [← hdrop, allIn_rel r1 h3, e2]
      exact ⟨_, rfl, pickB_rel r2 _⟩
    · cases h
  · cases h
theorem getK_lookup {α : Type} (x : Str) : ∀ l : List (Str × α), getK x l = l.lookup x
  | [] => rfl
  | (y, a) :: r => by
    unfold getK
    rw [List.lookup_cons]
    dsimp only
    cases q : x == y with
    | true => rfl
    | false => exact getK_lookup x r
end
end Mine
-- part Iv10
open PySem PySem.W PyProof.Rows PySem.Calls
namespace Mine
/-! An exception on its way through the frames -/
section
variable {S : Stc} {A : Around} {W : Wd} {fs : List Fm} {st : ASt} {s : Shared} {M : Model} {E : Value → Shared → Prop}
theorem funFrames {W : Wd} {h base : Heap} : ∀ {fs : List Fm} {locs : List Loc}, (∀ f ∈ fs, f.sc.kind = .function) → FRel W h (Las fs) locs → (∀ L ∈ adr (Las fs), base.get? L = none) → h.FunFrames base (fs.map Fm.env)
  | [], _, _, _, _ => trivial
  | f :: fs, _, hk, .cons ⟨m, ⟨o, es, ep, ho, hd, r⟩, _⟩ rest, hb => by
    show f.env.scope.kind ≠ .module ∧ (∃ L o, f.env.frame = some L ∧ base.get? L = none ∧ h.get? L = some o ∧ ∀ vs, o.data ≠ .fields vs) ∧ h.FunFrames base (fs.map Fm.env)
    refine ⟨fun e => ?_, ⟨f.L, o, rfl, hb _ (.head _), ho, fun vs q => ?_⟩, funFrames (fun g hg => hk g (.tail _ hg)) rest fun L hL => hb L (.tail _ hL)⟩
    · have e : f.sc.kind = .module := e
      rw [hk f (.head _)] at e; cases e
    · rw [hd] at q; cases q
/-- what stands apart from the exception is as before -/
theorem Rep.flyBack (R : Rep S W (Las fs) st s) {ex : List Addr} (hex : ∀ a ∈ ex, Apart W (Las fs) a) {h' : Heap} {t : Nat} (hB : (hideAll s.heap (ex ++ adr (Las fs))).StaysIn h') (hU : s.heap.UpToSlots h') : Rep S W (Las fs) st { s with heap := h', toks := t } := by
  have keep : ∀ b o, s.heap.get? b = some o → b ∉ ex → b ∉ adr (Las fs) → h'.get? b = some o := fun b o e n1 n2 => hB b o (hideAll_get _ e fun m => (List.mem_append.mp m).elim n1 n2)
  refine R.other (fun b o e1 e2 => keep b o e2 (fun m => ?_) fun m => ?_) (fun i a o e1 e2 => keep a o e2 (fun m => ?_) (R.sepφ i a e1).2.1) fun L hL m n => hU.ns n
  · rw [(hex b m).1] at e1; cases e1
  · rw [(R.sepf b m).1] at e1; cases e1
  · exact (hex a m).2.2 i e1
/-- a thing that was not told of before, and is no frame -/
theorem Rep.apartNew (R : Rep S W (Las fs) st s) {ex : List Addr} (hex : ∀ a ∈ ex, Apart W (Las fs) a) {T : Addr} (hn : (hideAll s.heap (ex ++ adr (Las fs))).get? T = none) (hL : T ∉ adr (Las fs)) : Apart W (Las fs) T := by
  have alive : ∀ o, s.heap.get? T = some o → T ∈ ex := fun o e => Decidable.byContradiction fun n => by
    rw [hideAll_get _ e fun m => (List.mem_append.mp m).elim n hL] at hn; cases hn
  refine ⟨?_, hL, fun i e => ?_⟩
  · cases q : W.fz.get? T with
    | none => rfl
    | some o => rw [(hex T (alive o (R.keep _ _ q))).1] at q; cases q
  · obtain ⟨o, ho⟩ := (R.sepφ i T e).2.2.2
    exact (hex T (alive o ho)).2.2 i e
theorem FRel.notFields {W : Wd} {h : Heap} : ∀ {fs : List FrA} {locs : List Loc}, FRel W h fs locs → ∀ {T : Addr} {o : Obj} {vs : Array Value}, h.get? T = some o → o.data = .fields vs → T ∉ adr fs
  | _, _, .nil, _, _, _, _, _ => fun m => (nomatch m)
  | _, _, .cons ⟨m, ⟨o, es, ep, ho, hd, r⟩, _⟩ rest, T, o', vs, e, ed => fun hm => by
    rcases List.mem_cons.mp hm with q | q
    · rw [q, ho] at e; cases e; rw [hd] at ed; cases ed
    · exact rest.notFields e ed q
theorem flyOf (R : Rep S W (Las fs) st s) {ex : List Addr} (hex : ∀ a ∈ ex, Apart W (Las fs) a) {h' : Heap} {e : Addr} {C a0 : Value} (he : Apart W (Las fs) e) (R' : Rep S W (Las fs) st { s with heap := h' })
    (ht : h'.TracedW (hideAll s.heap (ex ++ adr (Las fs))) e C a0) : Fly W (Las fs) h' e C := by
  obtain ⟨oe, vs, T, oT, ts, h1, ⟨h2, h3⟩, h4, h5, h6, h7, h8, h9, h10⟩ := ht
  exact ⟨he, oe, vs, a0, h1, h2, h4, h3, .inr ⟨T, oT, ts, h5, R.apartNew hex h6 (R'.fr.notFields h8 h9), h7, h8, h9, h10⟩⟩
theorem leaving_fly {k : Nat} {hb : Bool} {f : Fm} {fs' : List Fm} (Cx : CxOk k hb A (f :: fs')) {e : Addr} {C : Value} {Q : Unit → Shared → Prop} (R : Rep S W (Las (f :: fs')) st s) (F : Fly W (Las (f :: fs')) s.heap e C)
    (h : ∀ h', Rep S W (Las (f :: fs')) st { s with heap := h' } → Fly W (Las (f :: fs')) h' e C → Q () { s with heap := h' }) : wpAny M A (leaving f.env (.ref e)) Q E s := by
  obtain ⟨ae, oe, vs, a0, h1, h2, h3, h4, h5⟩ := F
  rcases h5 with h5 | ⟨T, oT, ts, p1, p2, p3, p4, p5, p6⟩
  · have hex : ∀ a ∈ [e], Apart W (Las (f :: fs')) a := fun a m => by rw [List.mem_singleton.mp m]; exact ae
    refine wpAny_leaving_firstW (base := hideAll s.heap ([e] ++ adr (Las (f :: fs')))) (L := f.L) Cx.frames (funFrames Cx.kind R.fr fun L hL => hideAll_none _ (List.mem_append_right _ hL)) rfl h1 (fun b o q => of_hideAll _ q) (hideAll_none _ (.head _)) h3 h5 h4 fun h' hL => ?_
    obtain ⟨k1, k2, k3, k4⟩ := hL
    have R' : Rep S W (Las (f :: fs')) st { s with heap := h' } := R.flyBack (t := s.toks) hex k1 k4
    exact h h' R' (flyOf R hex ae R' (h2 ▸ k3))
  · have hex : ∀ a ∈ [e, T], Apart W (Las (f :: fs')) a := fun a m => by
      rcases List.mem_cons.mp m with q | q
      · rw [q]; exact ae
      · rw [List.mem_singleton.mp q]; exact p2
    refine wpAny_leaving_nextW (base := hideAll s.heap ([e, T] ++ adr (Las (f :: fs')))) (L := f.L) (cls := C) (a0 := a0) Cx.frames (funFrames Cx.kind R.fr fun L hL => hideAll_none _ (List.mem_append_right _ hL)) rfl
      ⟨oe, vs, T, oT, ts, h1, ⟨h2, h4⟩, h3, p1, hideAll_none _ (.tail _ (.head _)), p3, p4, p5, p6⟩ (fun b o q => of_hideAll _ q) (hideAll_none _ (.head _)) fun h' hL => ?_
    obtain ⟨k1, k2, k3, k4⟩ := hL
    have R' : Rep S W (Las (f :: fs')) st { s with heap := h' } := R.flyBack (t := s.toks) hex k1 k4
    exact h h' R' (flyOf R hex ae R' k3)
/-- noted in the frame in hand, and taken out of flight -/
theorem noted_fly {k : Nat} {hb : Bool} {f : Fm} {fs' : List Fm} (Cx : CxOk k hb A (f :: fs')) {e : Addr} {C : Value} {Q : Unit → Shared → Prop} (R : Rep S W (Las (f :: fs')) st s) (F : Fly W (Las (f :: fs')) s.heap e C)
    (h : ∀ h', Rep S W (Las (f :: fs')) st { s with heap := h' } → Fly W (Las (f :: fs')) h' e C → Q () { s with heap := h' }) : wpAny M A (noteFrame (.ref e) f.env >>= fun _ => setFlight (.ref e) none) Q E s := leaving_fly Cx R F h
/-- taken out of flight again -/
theorem flight_fly {f : Fm} {fs' : List Fm} {e : Addr} {C : Value} {Q : Unit → Shared → Prop} (R : Rep S W (Las (f :: fs')) st s) (F : Fly W (Las (f :: fs')) s.heap e C)
    (h : ∀ h', Rep S W (Las (f :: fs')) st { s with heap := h' } → Fly W (Las (f :: fs')) h' e C → Q () { s with heap := h' }) : wpAny M A (setFlight (.ref e) none) Q E s := by
  obtain ⟨ae, oe, vs, a0, h1, h2, h3, h4, h5⟩ := F
  unfold setFlight
  rcases h5 with h5 | ⟨T, oT, ts, p1, p2, p3, p4, p5, p6⟩
  · refine wpAny_bind (wpAny_field h1 h3 h5 ?_)
    rw [if_neg (by decide)]
    exact wpAny_pure (h s.heap R ⟨ae, oe, vs, a0, h1, h2, h3, h4, .inl h5⟩)
  · refine wpAny_bind (wpAny_field h1 h3 p1 ?_)
    rw [if_pos (show (Value.ref T != Value.none) = true from by simp)]
    have hsz3 : 3 < ts.size := (Array.getElem?_eq_some_iff.mp p6).1
    have other : ∀ b, b ≠ T → (s.heap.update T (Obj.mapFields (·.setIfInBounds 3 ((none : Option Addr).elim Value.none fun f => rawInt f)))).get? b = s.heap.get? b := fun b hb => Heap.get?_update_other _ _ (Ne.symm hb)
    refine wpAny_setField p4 p5 hsz3 (h _ ?_ ?_)
    · refine R.other (t := s.toks) (fun b o e1 e2 => (other b fun q => ?_).trans e2) (fun i a o e1 e2 => (other a fun q => p2.2.2 i (q ▸ e1)).trans e2) fun L hL m n => ?_
      · rw [q, p2.1] at e1; cases e1
      · obtain ⟨x, es, ep, q1, q2, q3⟩ := n
        exact ⟨x, es, ep, (other L fun q => p2.2.1 (q ▸ hL)).trans q1, q2, q3⟩
    · exact ⟨ae, oe, vs, a0, (other e (Ne.symm p3)).trans h1, h2, h3, h4, .inr ⟨T, _, _, p1, p2, p3, Heap.get?_update_self _ p4 (Obj.isFreed_of_fields (Obj.data_mapFields p5 _)), Obj.data_mapFields p5 _, by simp [hsz3]⟩⟩
end
end Mine
-- part Iv11
open PySem PySem.W PyProof.Rows PySem.Calls
namespace Mine
/-! Frames are entered and left -/
section
variable {S : Stc} {W : Wd} {fs : List FrA} {st : ASt} {s : Shared}
theorem Rep.settleBut (R : Rep S W fs st s) (ex : List Addr) (hex : ∀ a ∈ ex, W.fz.get? a = none) :
    W.le ⟨W.φ, hideAll s.heap (ex ++ mutables fs st W)⟩ ∧ Rep S ⟨W.φ, hideAll s.heap (ex ++ mutables fs st W)⟩ fs st s := by
  have le : W.le ⟨W.φ, hideAll s.heap (ex ++ mutables fs st W)⟩ := ⟨fun _ _ h => h, fun b o e => hideAll_get _ (R.keep b o e) fun hm => by
    rcases List.mem_append.mp hm with hm | hm
    · rw [hex b hm] at e; cases e
    · rcases (mem_mutables R).mp hm with h | ⟨i, h⟩
      · rw [(R.sepf b h).1] at e; cases e
      · rw [(R.sepφ i b h).1] at e; cases e⟩
  refine ⟨le, fun b o e => le.2 _ _ (R.old b o e), fun b o e => of_hideAll _ e, R.inj, fun i a e => ⟨hideAll_none _ (List.mem_append_right _ ((mem_mutables R).mpr (.inr ⟨i, e⟩))), (R.sepφ i a e).2⟩,
    fun L hL => ⟨hideAll_none _ (List.mem_append_right _ ((mem_mutables R).mpr (.inl hL))), (R.sepf L hL).2⟩, R.nd, R.fresh, fun i ao e => ?_, R.fr.mono le fun _ _ _ n => n, R.gens, R.os⟩
  obtain ⟨a, o, p, q, r⟩ := R.hp i ao e
  exact ⟨a, o, p, q, r.mono le⟩
theorem Rep.enter (R : Rep S W fs st s) (hsz : S.hb.objs.size ≤ s.heap.objs.size) {h' : Heap} {t : Nat} {m : Str → Option Value} {cl : List (Str × Addr)} {loc : Loc} (hk : ∀ b o, s.heap.get? b = some o → h'.get? b = some o) (hn : h'.Ns s.heap.objs.size m)
    (hl : ∀ x a, getK x loc = some a → ∃ v, VRel W a v ∧ match cl.lookup x with | none => m x = some v | some c => s.heap.objs.size < c ∧ ∃ o, h'.get? c = some o ∧ o.data = .cell (some v)) :
    ∃ W', W.le W' ∧ Rep S W' ((s.heap.objs.size, cl) :: fs) { st with fr := loc :: st.fr } { s with heap := h', toks := t } := by
  have R1 := R.grow (t := t) hk
  have hfz : ∀ a ∈ [s.heap.objs.size], W.fz.get? a = none := fun a ha => by
    rw [List.mem_singleton.mp ha]
    cases q : W.fz.get? s.heap.objs.size with
    | none => rfl
    | some o => exact absurd (Heap.lt_size (R.keep _ _ q)) (Nat.lt_irrefl _)
  obtain ⟨le, R2⟩ := R1.settleBut [s.heap.objs.size] hfz
  refine ⟨_, le, R2.old, R2.keep, R2.inj, fun i a e => ?_, fun L hL => ?_, ?_, R2.fresh, R2.hp, .cons ⟨m, hn, fun x a e => ?_⟩ R2.fr, R2.gens, R2.os⟩
  · have z := R2.sepφ i a e
    refine ⟨z.1, fun hm => ?_, z.2.2⟩
    rcases List.mem_cons.mp hm with q | q
    · exact absurd (R.lt e) (by rw [q]; exact Nat.lt_irrefl _)
    · exact z.2.1 q
  · rcases List.mem_cons.mp hL with q | q
    · rw [q]; exact ⟨hideAll_none _ (.head _), hsz⟩
    · exact R2.sepf L q
  · exact List.nodup_cons.mpr ⟨fun hm => absurd (R.fr.lt _ hm) (Nat.lt_irrefl _), R.nd⟩
  · obtain ⟨v, hv, hc⟩ := hl x a e
    refine ⟨v, hv.mono le, ?_⟩
    show (match cl.lookup x with | none => _ | some c => _)
    cases q : cl.lookup x with
    | none => rw [q] at hc; exact hc
    | some c =>
      rw [q] at hc
      obtain ⟨h1, o, h2, h3⟩ := hc
      refine ⟨o, hideAll_get _ h2 fun hm => ?_, h3⟩
      rcases List.mem_append.mp hm with hm | hm
      · rw [List.mem_singleton.mp hm] at h1; exact Nat.lt_irrefl _ h1
      · rcases (mem_mutables R1).mp hm with h | ⟨i, h⟩
        · exact absurd h1 (Nat.lt_asymm (R.fr.lt _ h))
        · exact absurd h1 (Nat.lt_asymm (R.lt h))
theorem Rep.leave {L : FrA} (R : Rep S W (L :: fs) st s) : Rep S W fs { st with fr := st.fr.tail } s := by
  refine ⟨R.old, R.keep, R.inj, fun i a e => let z := R.sepφ i a e; ⟨z.1, fun m => z.2.1 (.tail _ m), z.2.2⟩, fun M hM => R.sepf M (.tail _ hM), (List.nodup_cons.mp R.nd).2, R.fresh, R.hp, ?_, R.gens, R.os⟩
  have F := R.fr
  cases h : st.fr with
  | nil => rw [h] at F; cases F
  | cons l r => rw [h] at F; cases F with | cons _ q => exact q
end
/-! Functions of the program -/
inductive FlX where
  | next
  | ret (a : AV)
  | brk
  | cont
inductive FlRel (W : Wd) : FlX → Flow → Prop
  | next : FlRel W .next .next
  | ret {a v} : VRel W a v → FlRel W (.ret a) (.ret v)
  | brk : FlRel W .brk .brk
  | cont : FlRel W .cont .cont
def avsOf : List Value → Option (List AV)
  | [] => some []
  | v :: r => match avOf v, avsOf r with
    | some a, some l => some (a :: l)
    | _, _ => none
def dflX (K : Frag) : Value → Option (List AV)
  | .none => some []
  | .ref T => match K.lookup T with
    | some ⟨_, _, .seq items _, _⟩ => avsOf items.toList
    | _ => none
  | _ => none
def kwdX (K : Frag) (v : Value) (n : Str) : Option AV := match v with
  | .ref d => match nsIn K d n with
    | some (some v) => avOf v
    | _ => none
  | _ => none
def bindsOk (sc : Scope) : List (Str × AV) → Bool
  | [] => true
  | p :: r => match sc.names.lookup p.1 with
    | some .local => bindsOk sc r
    | some .cell => bindsOk sc r
    | _ => false
def retOf : FlX → AV
  | .ret a => a
  | _ => .none
def inFrame (loc : Loc) (m : X FlX) : X AV := fun p st => match m p { st with fr := loc :: st.fr } with
  | some (.ok fl, p', c, st') => some (.ok (retOf fl), p', c, { st' with fr := st'.fr.tail })
  | some (.exc C, p', c, st') => some (.exc C, p', c, { st' with fr := st'.fr.tail })
  | none => none
def callFn (K : Frag) (T : Tab) (body : Scope → List Stmt → X FlX) (a : Addr) (l : List AV) (k : List (Str × AV)) : X AV := match has1 a T.fn, fnOf? K a with
  | true, some fd => match fd.body, dflX K fd.defaults with
    | .stmts b, some dfl => match bindL (fd.params.args.map (·.arg)) (fd.params.kwonlyargs.map (·.arg)) l k dfl (kwdX K fd.kwdefaults) with
      | some binds => match bindsOk fd.scope binds with
        | true => inFrame binds.reverse (body fd.scope b)
        | false => X.fail
      | none => X.fail
    | _, _ => X.fail
  | _, _ => X.fail
theorem cellsFrom_some {x : Str} : ∀ (names : List (Str × NameKind)) (n : Nat) (acc : List (Str × Addr)), ((∃ p ∈ names, p.1 = x ∧ p.2 = .cell) ∨ (acc.lookup x).isSome = true) → ((cellsFrom n names acc).lookup x).isSome = true
  | [], n, acc, h => by
    rcases h with ⟨p, hp, _⟩ | h
    · cases hp
    · exact h
  | (y, k) :: r, n, acc, h => by
    unfold cellsFrom
    split
    · rename_i hk
      refine cellsFrom_some r _ _ ?_
      rcases h with ⟨p, hp, e1, e2⟩ | h
      · rcases List.mem_cons.mp hp with q | q
        · right; rw [List.lookup_cons]; rw [q] at e1; dsimp only at e1; rw [e1]; simp
        · exact .inl ⟨p, q, e1, e2⟩
      · right; rw [List.lookup_cons]; split
        · rfl
        · exact h
    · rename_i hk
      refine cellsFrom_some r _ _ ?_
      rcases h with ⟨p, hp, e1, e2⟩ | h
      · rcases List.mem_cons.mp hp with q | q
        · rw [q] at e2; dsimp only at e2; rw [e2] at hk; exact absurd rfl hk
        · exact .inl ⟨p, q, e1, e2⟩
      · exact .inr h
theorem cellsFrom_mem {x : Str} {c : Addr} : ∀ (names : List (Str × NameKind)) (n : Nat) (acc : List (Str × Addr)), (cellsFrom n names acc).lookup x = some c → (∃ p ∈ names, p.1 = x ∧ p.2 = .cell) ∨ (acc.lookup x).isSome = true
  | [], n, acc, h => .inr (by unfold cellsFrom at h; rw [h]; rfl)
  | (y, k) :: r, n, acc, h => by
    unfold cellsFrom at h
    split at h
    · rename_i hk
      rcases cellsFrom_mem r _ _ h with ⟨p, hp, e⟩ | q
      · exact .inl ⟨p, .tail _ hp, e⟩
      · rw [List.lookup_cons] at q
        split at q
        · rename_i hb; exact .inl ⟨(y, k), .head _, (eq_of_beq hb).symm, eq_of_beq hk⟩
        · exact .inr q
    · rcases cellsFrom_mem r _ _ h with ⟨p, hp, e⟩ | q
      · exact .inl ⟨p, .tail _ hp, e⟩
      · exact .inr q
theorem lookup_mem {x : Str} {k : NameKind} {l : List (Str × NameKind)} (h : l.lookup x = some k) : (x, k) ∈ l := mem_of_lookup h
theorem scOk_local {sc : Scope} (h : scOk sc = true) {n : Nat} {x : Str} (hl : sc.names.lookup x = some .local) : (cellsFrom n sc.names []).lookup x = none := by
  cases q : (cellsFrom n sc.names []).lookup x with
  | none => rfl
  | some c =>
    rcases cellsFrom_mem _ _ _ q with ⟨p, hp, e1, e2⟩ | e
    · have := List.all_eq_true.mp h p hp
      rw [e2, e1, hl] at this
      exact absurd this (by decide)
    · cases e
theorem cell_some {sc : Scope} {n : Nat} {x : Str} (hl : sc.names.lookup x = some .cell) : ∃ c, (cellsFrom n sc.names []).lookup x = some c :=
  Option.isSome_iff_exists.mp (cellsFrom_some _ _ _ (.inl ⟨_, lookup_mem hl, rfl, rfl⟩))
end Mine
-- part Iv12
open PySem PySem.W PyProof.Rows PySem.Calls
namespace Mine
/-! A function of the program is called -/
theorem bindL_at (kindOf : Str → Option NameKind) : ∀ (binds : List (Str × Value)) (m : Str → Option Value) (x : Str), kindOf x = some .local → PySem.bindL kindOf binds m x = (binds.reverse.lookup x).or (m x)
  | [], m, x, _ => rfl
  | (n, v) :: r, m, x, h => by
    unfold PySem.bindL
    rw [bindL_at kindOf r _ x h, List.reverse_cons, List.lookup_append, Option.or_assoc]
    congr 1
    rw [List.lookup_cons, List.lookup_nil]
    by_cases q : x = n
    · subst q; rw [if_pos h]; simp
    · have q' : (x == n) = false := by simpa using q
      rw [q']
      split
      · simp [q]
      · rfl
theorem bindC_at (kindOf : Str → Option NameKind) : ∀ (binds : List (Str × Value)) (m : Str → Option Value) (x : Str), kindOf x ≠ some .local → PySem.bindC kindOf binds m x = (binds.reverse.lookup x).or (m x)
  | [], m, x, _ => rfl
  | (n, v) :: r, m, x, h => by
    unfold PySem.bindC
    rw [bindC_at kindOf r _ x h, List.reverse_cons, List.lookup_append, Option.or_assoc]
    congr 1
    rw [List.lookup_cons, List.lookup_nil]
    by_cases q : x = n
    · subst q; rw [if_neg h]; simp
    · have q' : (x == n) = false := by simpa using q
      rw [q']
      split
      · rfl
      · simp [q]
section
variable {prog : Program} {w : World} {A : Around} {s : Shared} {R : Result → Shared → Prop}
theorem codeC_func {body : List Stmt} {env : Env}
    (h : wpC (model prog w) (A.deeper env) (execs body env) (fun f s' => R (.ok (.ret (match f with | .ret v => v | _ => .none))) s')
      (fun e s' => wpC (model prog w) (A.deeper env) (leaving env e) (fun _ s'' => R (.error e) s'') (fun e' s'' => R (.error e') s'') s') s) :
    codeC (model prog w) A (.func body env) R s := by
  refine codeC_of_tree rfl ?_
  show wpC _ (A.deeper env) (do point; match ← (execs body env).onRaise (leaving env) with | .ret v => ret v | _ => ret .none) _ _ s
  refine wpC_bind (wpC_point (wpC_bind (wpC_onRaise (wpC_mono h (fun f s' h' => ?_) fun _ _ h' => h'))))
  cases f <;> exact wpC_pure h'
theorem codeC_call_function {a : Addr} {args : Args} {o : Obj} {fd : FuncData} {body : List Stmt} (hroom : A.depth < recursionLimit)
    (ho : s.heap.get? a = some o)
    (hd' : o.data = .func fd) (hco : fd.scope.isCoroutine = false) (hgen : fd.scope.isGenerator = false) (hbody : fd.body = .stmts body) (hcd : s.heap.CodeRec fd.code fd.qualname)
    (h : wpAny (model prog w) A.in1 (bindArgs fd args) (fun binds s₁ =>
      wpAny (model prog w) A.in1 (newFunctionEnv fd.scope fd.globals fd.closure binds (fd.qualname ++ ".<locals>.") (some a) fd.code none fd.builtins)
        (fun env s₂ => s₂.heap.NoLimit ∧ codeC (model prog w) A (.func body env) R s₂) (fun e s' => R (.error e) s') s₁) (fun e s' => R (.error e) s') s) :
    codeC (model prog w) A (.call (.ref a) args) R s := by
  refine codeC_of_tree rfl ?_
  show wpC _ A.in1 (callAny (.ref a) args) _ _ s
  refine ofAny ?_
  simp only [callAny]
  refine wpAny_bind (wpAny_load ho ?_)
  obtain ⟨c, oc, vs, tq, hc, hoc, hdc, hq⟩ := hcd
  simp only [hd', callFunction, hco, hgen, hbody, hc]
  rw [hc] at h
  refine wpAny_bind (m := field (.ref c) 1) (wpAny_field hoc hdc hq (wpAny_bind (wpAny_pure ?_)))
  exact wpAny_bind (wpAny_mono h (fun binds s₁ h₁ => wpAny_bind (wpAny_mono h₁ (fun env s₂ h₂ => wpAny_bind (wpAny_enterFrame h₂.1 hroom
    (wpAny_pure (And.intro rfl h₂.2)))) fun _ _ h' => h')) fun _ _ h' => h')
end
section
variable {S : Stc} {A : Around} {W : Wd} {fs : List Fm} {st : ASt} {s : Shared}
theorem avsOf_rel {W : Wd} : ∀ {vs : List Value} {l : List AV}, avsOf vs = some l → VRels W l vs
  | [], _, h => by cases h; exact .nil
  | v :: r, l, h => by
    unfold avsOf at h
    split at h
    · rename_i a l h1 h2; cases h; exact .cons (avOf_rel h1) (avsOf_rel h2)
    · cases h
theorem dfl_of {v : Value} {l : List AV} (h : dflX S.K v = some l) : ∃ dfl, VRels W l dfl ∧ ∀ (s : Shared), S.K.In s.heap → ∀ (M : Model) (A : Around) (E : Value → Shared → Prop) (Q : Option (Array Value) → Shared → Prop), (∀ o, (o.getD #[]).toList = dfl → Q o s) → wpAny M A (seqItems? v) Q E s := by
  unfold dflX at h
  split at h
  · cases h
    exact ⟨[], .nil, fun s X M A E Q hq => wpAny_of_eq (a := none) rfl (hq none rfl)⟩
  · rename_i T
    split at h
    · rename_i items n sl hT
      refine ⟨items.toList, avsOf_rel h, fun s X M A E Q hq => ?_⟩
      unfold seqItems?
      exact wpAny_bind (wpAny_load (X _ _ hT) (wpAny_pure (hq _ rfl)))
    · cases h
  · cases h
theorem bindsOk_mem {sc : Scope} : ∀ {l : List (Str × AV)}, bindsOk sc l = true → ∀ p ∈ l, sc.names.lookup p.1 = some .local ∨ sc.names.lookup p.1 = some .cell
  | [], _, p, hp => (nomatch hp)
  | q :: r, h, p, hp => by
    unfold bindsOk at h
    split at h
    · rename_i e
      rcases List.mem_cons.mp hp with z | z
      · rw [z]; exact .inl e
      · exact bindsOk_mem h p z
    · rename_i e
      rcases List.mem_cons.mp hp with z | z
      · rw [z]; exact .inr e
      · exact bindsOk_mem h p z
    · cases h
theorem KRels.mem {l : List (Str × AV)} {m : List (Str × Value)} (h : KRels W l m) : ∀ q ∈ m, ∃ a, (q.1, a) ∈ l := by
  induction h with
  | nil => exact fun _ h => (nomatch h)
  | @cons x a v l m hv r ih =>
    intro q hq
    rcases List.mem_cons.mp hq with e | e
    · rw [e]; exact ⟨a, .head _⟩
    · obtain ⟨b, hb⟩ := ih q e; exact ⟨b, .tail _ hb⟩
def SimZ {α β : Type} (S : Stc) (A : Around) (fs : List Fm) (rel : Wd → α → β → Prop) (W : Wd) (m : X α) (t : Sem β) : Prop :=
  ∀ p st r p' c st', m p st = some (r, p', c, st') → c → ∀ s, Rep S W (Las fs) st s → S.hb.objs.size ≤ s.heap.objs.size → ∀ Q E, Post S fs rel W r st' Q E → wpC (model S.prog S.w) A t Q E s
theorem SimZ.fail {α β : Type} {rel : Wd → α → β → Prop} {t : Sem β} : SimZ S A fs rel W (X.fail : X α) t := fun _ _ _ _ _ _ e => by cases e
theorem callFn_at (O : S.Ok) {k : Nat} {hb : Bool} (C : CxOk (k + 1) hb A fs) {body : Scope → List Stmt → X FlX} {a : Addr} {l : List AV} {vs : List Value} {kw : List (Str × AV)} {kv : List (Str × Value)} (hl : VRels W l vs) (hkw : KRels W kw kv)
    (hbody : ∀ (f : Fm) (A' : Around), CxOk k hb A' (f :: fs) → ∀ W b, Sim S A' (f :: fs) FlRel W (body f.sc b) (execs b f.env)) :
    SimZ S A fs VRel W (callFn S.K S.T body a l kw) (call (.ref a) vs kv) := by
  unfold callFn
  split
  · rename_i fd hfn hfd
    have hok := O.tab.fn _ (has1_mem hfn)
    unfold fnOk at hok
    rw [hfd] at hok
    simp only [Bool.and_eq_true, beq_iff_eq, List.isEmpty_iff, Option.isNone_iff_eq_none] at hok
    obtain ⟨⟨⟨⟨⟨⟨⟨⟨⟨⟨k1, k2⟩, k3⟩, k4⟩, k5⟩, k6⟩, k7⟩, k8⟩, k9⟩, k10⟩, k11⟩ := hok
    have k8 := Nat.eq_of_beq_eq_true k8
    have k9 := Nat.eq_of_beq_eq_true k9
    split
    · rename_i b dfl hbd hdf
      split
      · rename_i binds hbinds
        split
        · rename_i hbo
          intro p st r p' c st' e hc s R hsz Q E P
          obtain ⟨dfl', hd1, hd2⟩ := dfl_of (W := W) hdf
          have kin := R.kin O
          obtain ⟨binds', hb1, hb2⟩ := bindL_rel (kwd' := fun n => match fd.kwdefaults with | .ref d => (match nsIn S.K d n with | some (some v) => some v | _ => none) | _ => none) hl hkw hd1 (fun n x hx => by
            unfold kwdX at hx
            cases hq : fd.kwdefaults with
            | ref d =>
              rw [hq] at hx
              dsimp only at hx ⊢
              split at hx
              · rename_i v hv; first | (rw [hv]; exact ⟨v, rfl, avOf_rel hx⟩) | exact ⟨v, rfl, avOf_rel hx⟩
              · cases hx
            | _ => rw [hq] at hx; cases hx) hbinds
          have hlook : ∃ o, s.heap.get? a = some o ∧ o.data = .func fd := by
            unfold fnOf? at hfd
            split at hfd
            · rename_i h; cases hfd; exact ⟨_, kin _ _ h, rfl⟩
            · cases hfd
          obtain ⟨o, ho, hod⟩ := hlook
          have hkinds : ∀ x ∈ binds', fd.scope.names.lookup x.1 = some .local ∨ (fd.scope.names.lookup x.1 = some .cell ∧ ((cellsFrom (s.heap.objs.size + 1) fd.scope.names []).lookup x.1).isSome = true) := fun x hx => by
            obtain ⟨av, hav⟩ := hb2.mem x hx
            rcases bindsOk_mem hbo _ hav with q | q
            · exact .inl q
            · obtain ⟨c, hc⟩ := cell_some (n := s.heap.objs.size + 1) q
              exact .inr ⟨q, by rw [hc]; rfl⟩
          have hbt : BindsTo s fd ⟨vs, kv⟩ binds' := bindsTo_of k5 k6 k7 (fun M A E Q hq => hd2 s kin M A E Q hq) (fun n v hv => by
            cases hq : fd.kwdefaults with
            | ref d =>
              rw [hq] at hv
              dsimp only at hv
              refine ⟨d, rfl, fun M A E Q hq => ?_⟩
              split at hv
              · rename_i v' hv'; cases hv; exact (looks_nsIn kin hv').here hq
              · cases hv
            | _ => rw [hq] at hv; cases hv) hb1
          refine wpC_call (codeC_call_function (fd := fd) (body := b) (by have := C.depth; unfold recursionLimit; omega) ho hod k1 k2 hbd (codeRec_of kin k10) (hbt _ _ _ _ ?_))
          rw [k4]
          refine wpAny_newFunctionEnv_cells k3 hkinds fun env he s' x => ?_
          obtain ⟨⟨h', tk, rfl⟩, hns, hkeep, -⟩ := x.toInCall
          have hcell := x.cell
          have habove := x.above
          rw [k8, k9] at he
          have henv : env = Fm.env ⟨fd.qualname, fd.scope, s.heap.objs.size, a, fd.code, cellsFrom (s.heap.objs.size + 1) fd.scope.names []⟩ := he
          generalize hf : (⟨fd.qualname, fd.scope, s.heap.objs.size, a, fd.code, cellsFrom (s.heap.objs.size + 1) fd.scope.names []⟩ : Fm) = f at henv
          subst henv
          have e1 : f.env.locals = s.heap.objs.size := by rw [← hf]; rfl
          have e2 : f.env.cells = cellsFrom (s.heap.objs.size + 1) fd.scope.names [] := by rw [← hf]; rfl
          have e3 : ∀ y, f.env.kindOf y = fd.scope.names.lookup y := fun y => by rw [← hf]; rfl
          rw [e1] at hns
          rw [e2] at hcell habove
          obtain ⟨W', le, R'⟩ := R.enter (t := tk) (cl := cellsFrom (s.heap.objs.size + 1) fd.scope.names []) (loc := binds.reverse) hsz hkeep hns (fun y av hy => by
            rw [getK_lookup] at hy
            rcases hb2.rev.lookup y with ⟨q1, q2⟩ | ⟨av', v, q1, q2, q3⟩
            · rw [hy] at q1; cases q1
            · rw [hy] at q1; cases q1
              refine ⟨v, q3, ?_⟩
              have hm : (y, av) ∈ binds := List.mem_reverse.mp (mem_of_lookup hy)
              rcases bindsOk_mem hbo _ hm with z | z
              · rw [scOk_local k11 z]
                dsimp only
                rw [bindL_at _ _ _ _ ((e3 y).trans z), q2]; rfl
              · obtain ⟨c, hcc⟩ := cell_some (n := s.heap.objs.size + 1) z
                rw [hcc]
                dsimp only
                obtain ⟨oc, h1, h2⟩ := hcell y c hcc
                rw [bindC_at _ _ _ _ (fun q => by rw [e3, z] at q; cases q), q2] at h2
                exact ⟨e1 ▸ habove y c (mem_of_lookup hcc), oc, h1, h2⟩)
          refine ⟨(R.top O).nolimit.keeps hkeep, codeC_func ?_⟩
          have C' : CxOk k hb (A.deeper f.env) (f :: fs) := by
            refine ⟨Around.frames_deeper C.frames, ?_, ?_, fun g hg => ?_, C.hand, fun g hg y hy => ?_, fun g hg y hy => ?_⟩
            · have := C.depth; show A.depth + 1 + 2 * k ≤ 890; omega
            · have := C.units; show A.units + 3 + 8 * k ≤ 9000; omega
            · rcases List.mem_cons.mp hg with q | q
              · rw [q, ← hf]; exact k3
              · exact C.kind g q
            · rcases List.mem_cons.mp hg with q | q
              · rw [q, ← hf]; rw [q, ← hf] at hy; exact scOk_local k11 hy
              · exact C.loc g q y hy
            · rcases List.mem_cons.mp hg with q | q
              · rw [q, ← hf]; rw [q, ← hf] at hy; exact cell_some hy
              · exact C.cel g q y hy
          have hR : Las (f :: fs) = (s.heap.objs.size, cellsFrom (s.heap.objs.size + 1) fd.scope.names []) :: Las fs := by rw [← hf]; rfl
          have hsc : f.sc = fd.scope := by rw [← hf]
          have main := hbody f _ C' W' b
          rw [hsc] at main
          unfold inFrame at e
          split at e
          · rename_i fl p₁ c₁ st₁ e₁
            cases e
            refine main _ _ _ _ _ _ e₁ hc _ (by rw [hR]; exact R') _ _ fun W₂ s₂ le₂ R₂ => ?_
            intro fv hfl
            rw [hR] at R₂
            refine P W₂ s₂ (le.trans le₂) R₂.leave _ ?_
            cases hfl with
            | ret h => exact h
            | _ => exact .none
          · rename_i X p₁ c₁ st₁ e₁
            cases e
            refine main _ _ _ _ _ _ e₁ hc _ (by rw [hR]; exact R') _ _ fun W₂ s₂ le₂ R₂ => ?_
            intro ev hfly
            refine ofAny (leaving_fly C' R₂ hfly fun h₃ R₃ F₃ => ?_)
            have R₄ : Rep S W₂ (Las fs) { st₁ with fr := st₁.fr.tail } { s₂ with heap := h₃ } := by rw [hR] at R₃; exact R₃.leave
            exact P W₂ _ (le.trans le₂) R₄ ev F₃.tail
          · cases e
        · exact .fail
      · exact .fail
    · exact .fail
  · exact .fail
theorem sim_callFn (O : S.Ok) {k : Nat} {hb : Bool} (C : CxOk (k + 1) hb A fs) (hne : fs ≠ []) {body : Scope → List Stmt → X FlX} {a : Addr} {l : List AV} {vs : List Value} {kw : List (Str × AV)} {kv : List (Str × Value)} (hl : VRels W l vs) (hkw : KRels W kw kv)
    (hbody : ∀ (f : Fm) (A' : Around), CxOk k hb A' (f :: fs) → ∀ W b, Sim S A' (f :: fs) FlRel W (body f.sc b) (execs b f.env)) :
    Sim S A fs VRel W (callFn S.K S.T body a l kw) (call (.ref a) vs kv) := fun p st r p' c st' e hc s R Q E P =>
  callFn_at O C hl hkw hbody p st r p' c st' e hc s R (by
    rcases R.size with h | h
    · exact h
    · cases fs with
      | nil => exact absurd rfl hne
      | cons _ _ => cases h) Q E P
end
end Mine
-- part Iv13
open PySem PySem.W PyProof.Rows PySem.Calls
namespace Mine
/-! An instance of a class of the program is made -/
section
variable {prog : Program} {w : World} {A : Around} {C : Addr} {R : Result → Shared → Prop} {h : Heap} {g : Array GenState} {d : Drawn} {t : Nat} {os : OsState}
theorem codeC_call_builtin_at {s : Shared} {id : String} {args : Args} {b : Builtin} (hq : (Code.builtin id args).quiet = true) (hb : entryFor table id = some b) (hh : holdIds.contains id = false)
    (h : wpAny (model prog w) A.in1 (checkBuiltinCall id args) (fun _ s₁ => wpC (model prog w) (A.under (.builtin id args)) (b args) (finC (model prog w) A R) (fun e s' => R (.error e) s') s₁)
      (fun e s' => R (.error e) s') s) : codeC (model prog w) A (.call (.builtin id) args) R s := by
  refine codeC_of_tree rfl ?_
  show wpC _ A.in1 (do checkBuiltinCall id args; again (.builtin id args)) _ _ s
  exact wpC_bind (wpC_mono (ofAny h) (fun _ s₁ h₁ => wpC_pure (And.intro hq (codeC_builtin hb hh h₁))) fun _ _ h' => h')
theorem make_coreC {rest : List Value} {kw : List (Str × Value)} {init : Value} (Y : Makes (model prog w) h C) (hi : Looks (model prog w) h (typeLookup (.ref C) "__init__") (some init))
    (hb : ∀ self, Looks (model prog w) h (bindSpecial init self) (init, [self])) (hne : (some init != some (Value.builtin "object.__init__")) = true)
    (hq : wpC (model prog w) (A.under (.builtin "type.__call__" ⟨.ref C :: rest, kw⟩)) (call init (.ref (h.objs.size + 1) :: rest) kw) (fun v s' => v = .none ∧ R (.ok (.ret (.ref (h.objs.size + 1)))) s') (fun e s' => R (.error e) s') ⟨(h.push emptyDict).push (instObj C h.objs.size), g, d, t, os⟩) :
    codeC (model prog w) A (.call (.ref C) ⟨rest, kw⟩) R ⟨h, g, d, t, os⟩ := by
  have Y' := Y
  obtain ⟨⟨oc, od, cd, sl, hC, e1, e2, e4⟩, made, base, self, top, call, typ⟩ := Y
  refine codeC_of_tree rfl (ofAny ?_)
  show wpAny _ _ (callAny (.ref C) _) _ _ _
  refine nd_load hC ?_
  show wpAny _ _ (callAny.viaDunder (.ref C) _) _ _ _
  unfold callAny.viaDunder
  refine wpAny_bind (call.at ?_)
  dsimp only
  rw [tc_bind]
  refine wpAny_bind (wpAny_pure (wpAny_bind (wpAny_pure ?_)))
  refine wpAny_pure (a := Fin.again (.call (.builtin "type.__call__") ⟨.ref C :: rest, kw⟩)) (And.intro rfl ?_)
  refine codeC_call_builtin_at (Code.quiet_builtin _ (by decide +kernel)) entry_typeCall (by decide +kernel) (check_slot tc_kind tc_split typ (tc_args _ _ _) ?_)
  have hm : Looks (model prog w) h (mroOf (.ref C)) cd.mro := ((Looks.ld (part := none) hC).andThen .now).andThen .now
  unfold Builtin.«type.__call__»
  show wpC _ _ (if (Value.ref C == Value.type "type") = true then _ else _) _ _ _
  refine if_noC (by show ¬ (false = true); decide) ?_
  dsimp only
  refine wpC_bind (ofAny (hm.at ?_))
  refine if_noC (by rw [e4]; decide) ?_
  refine wpC_bind (ofAny (made.at ?_))
  dsimp only
  refine wpC_bind (wpC_pure ?_)
  refine wpC_bind (wpC_holding (wpC_call (codeC_ofAny (new_K Y' hi (.inl hne) ?_))))
  have k : ∀ b o, h.get? b = some o → ((h.push emptyDict).push (instObj C h.objs.size)).get? b = some o := fun b o e => Heap.get?_push_of_some _ (Heap.get?_push_of_some _ e)
  have hx : ((h.push emptyDict).push (instObj C h.objs.size)).get? (h.objs.size + 1) = some (instObj C h.objs.size) := by heap_get
  have t1 : Looks (model prog w) ((h.push emptyDict).push (instObj C h.objs.size)) (typeOf (.ref (h.objs.size + 1))) (.ref C) := (Looks.ld hx).andThen .now
  have s1 := self.keeps k
  have i1 := hi.keeps k
  have b1 := (hb (.ref (h.objs.size + 1))).keeps k
  dsimp only
  refine wpC_bind (ofAny ?_)
  unfold isInstance
  refine wpAny_bind (t1.at (s1.at ?_))
  refine if_noC (by decide) ?_
  refine wpC_bind (wpC_holding ?_)
  unfold callSpecial? specialOf
  refine wpC_bind (ofAny (wpAny_bind (t1.at (i1.at ?_))))
  dsimp only
  refine wpC_holding (wpC_bind (ofAny (b1.at ?_)))
  dsimp only
  refine wpC_bind (wpC_mono hq (fun v s' hv => ?_) fun _ _ e => e)
  obtain ⟨rfl, hv⟩ := hv
  refine wpC_pure ?_
  dsimp only
  exact if_noC (by decide) (wpC_pure hv)
end
section
variable {S : Stc} {A : Around} {W : Wd} {f : Fm} {fs' : List Fm} {st : ASt} {s : Shared}
def makeX (T : Tab) (fn : Addr → List AV → List (Str × AV) → X AV) (C : Addr) (l : List AV) (k : List (Str × AV)) : X AV := match get1 C T.nw with
  | some f => fun p st => match fn f (.ref (st.next + 1) :: l) k p { st with hp := (st.next + 1, .inst C st.next) :: (st.next, .attrs []) :: st.hp, next := st.next + 1 + 1 } with
    | some (.ok .none, p', c, st') => some (.ok (.ref (st.next + 1)), p', c, st')
    | some (.exc X, p', c, st') => some (.exc X, p', c, st')
    | _ => none
  | none => X.fail
theorem CxOk.under_make {k : Nat} {hb : Bool} {fs : List Fm} (C : CxOk (k + 1) hb A fs) {c : Addr} {rest : List Value} {kw : List (Str × Value)} : CxOk k hb (A.under (.builtin "type.__call__" ⟨.ref c :: rest, kw⟩)) fs := by
  have hw : (Code.builtin "type.__call__" ⟨.ref c :: rest, kw⟩).weight = 1 := rfl
  have hu : (Code.builtin "type.__call__" ⟨.ref c :: rest, kw⟩).cUnits ≤ 4 := by first | (show (1 : Nat) ≤ 4; decide) | (show (2 : Nat) ≤ 4; decide) | (show (3 : Nat) ≤ 4; decide) | (show (4 : Nat) ≤ 4; decide)
  have he : (Code.builtin "type.__call__" ⟨.ref c :: rest, kw⟩).envs = [] := rfl
  refine ⟨?_, ?_, ?_, C.kind, C.hand, C.loc, C.cel⟩
  · show pushEnvs (Code.builtin "type.__call__" ⟨.ref c :: rest, kw⟩).envs A.frames = _
    rw [he, C.frames]; rfl
  · have := C.depth
    show A.depth + (Code.builtin "type.__call__" ⟨.ref c :: rest, kw⟩).weight + 2 * k ≤ 890
    rw [hw]; omega
  · have := C.units
    show A.units + (Code.builtin "type.__call__" ⟨.ref c :: rest, kw⟩).cUnits + 8 * k ≤ 9000
    omega
theorem sim_make (O : S.Ok) {k : Nat} {hb : Bool} (Cx : CxOk (k + 1) hb A (f :: fs')) {fn : Addr → List AV → List (Str × AV) → X AV} {C : Addr} {l : List AV} {vs : List Value} {kw : List (Str × AV)} {kv : List (Str × Value)} (hl : VRels W l vs) (hkw : KRels W kw kv)
    (hfn : ∀ (A' : Around), CxOk k hb A' (f :: fs') → ∀ W a l vs kw kv, VRels W l vs → KRels W kw kv → Sim S A' (f :: fs') VRel W (fn a l kw) (call (.ref a) vs kv)) :
    Sim S A (f :: fs') VRel W (makeX S.T fn C l kw) (call (.ref C) vs kv) := by
  unfold makeX
  split
  · rename_i fi hmk
    have hok := O.tab.nw _ (get1_mem hmk)
    simp only [mkOk, Bool.and_eq_true, beq_iff_eq] at hok
    obtain ⟨⟨m1, m2⟩, m3⟩ := hok
    intro p st r p' c st' e hc s R Q E P
    have kin := R.kin O
    have hsz := R.hsz
    obtain ⟨le1, R1⟩ := R.alloc (o := emptyDict) (ao := .attrs []) (t := s.toks) hsz (.attrs (n := 0) .nil)
    have hsz1 : S.hb.objs.size ≤ (s.heap.push emptyDict).objs.size := by rw [Heap.size_push]; omega
    obtain ⟨le2, R2⟩ := R1.alloc (o := instObj C s.heap.objs.size) (ao := .inst C st.next) (t := s.toks) hsz1 (.inst (by simp [Wd.at]))
    obtain ⟨hh, g, d, tk, os⟩ := s
    refine wpC_call (make_coreC (makes_of kin m1) (looks_findIn kin m2) (fun self => bind_fn kin self m3) rfl ?_)
    have hx : ((W.at st.next hh.objs.size).at (st.next + 1) (hh.push emptyDict).objs.size).φ (st.next + 1) = some (hh.objs.size + 1) := by simp [Wd.at, Heap.size_push]
    have main := hfn _ (Cx.under_make (c := C) (rest := vs) (kw := kv)) _ fi _ _ _ _ (VRels.cons (.ref hx) (hl.mono (le1.trans le2))) (hkw.mono (le1.trans le2))
    dsimp only at e
    split at e
    · rename_i p₁ c₁ st₁ e₁
      cases e
      refine main _ _ _ _ _ _ e₁ hc _ R2 _ _ fun W' s' le R' => ?_
      intro v hv
      cases hv
      refine ⟨rfl, P W' s' ((le1.trans le2).trans le) R' _ (.ref (le.1 _ _ hx))⟩
    · rename_i X p₁ c₁ st₁ e₁
      cases e
      refine main _ _ _ _ _ _ e₁ hc _ R2 _ _ fun W' s' le R' => ?_
      exact P W' s' ((le1.trans le2).trans le) R'
    · cases e
  · exact .fail
end
end Mine
-- part Iv14
open PySem PySem.W PyProof.Rows PySem.Calls
namespace Mine
/-! An exception of the program's own is raised -/
section
variable {S : Stc} {A : Around} {W : Wd} {f : Fm} {fs' : List Fm} {st : ASt} {s : Shared} {E : Value → Shared → Prop}
theorem looks_isType {M : Model} {K : Frag} {h : Heap} {C : Addr} (X : K.In h) (e : (clsIn K C).isSome = true) : Looks M h (isType (.ref C)) true := by
  unfold clsIn at e
  split at e
  · rename_i ho; exact (Looks.ld (part := some headPart) (X _ _ ho)).andThen .now
  · cases e
theorem issub_own {prog : Program} {w : World} {K : Frag} {C : Addr} {Q : Value → Shared → Prop} (X : K.In s.heap) (h : excOk K C = true) (hq : Q (.bool true) s) : wpAny (model prog w) A (call (.builtin "issubclass") [.ref C, .ref C]) Q E s := by
  simp only [excOk, Bool.and_eq_true, beq_iff_eq] at h
  obtain ⟨⟨⟨⟨⟨h1, h2⟩, h3⟩, h4⟩, h5⟩, h6⟩ := h
  refine wpAny_call (codeAny_call_builtin F.plain_issubclass F.entry_issubclass ?_)
  have fin : wpAny (model prog w) A.in1 (Builtin.«issubclass» ⟨[.ref C, .ref C], []⟩) (fun fin s' => match fin with
      | .done f => (match (Except.ok f : Result) with | .ok (.ret v) => Q v s' | .ok _ => False | .error e => E e s')
      | .again c' => c'.quiet = true ∧ codeAny (model prog w) A c' (fun r s' => match r with | .ok (.ret v) => Q v s' | .ok _ => False | .error e => E e s') s') (fun e s' => E e s') s := by
    refine issubclass_outer ?_
    unfold Builtin.«issubclass.nested»
    show wpAny _ _ (typeOf (.ref C) >>= _) _ _ _
    refine wpAny_bind ((looks_typeIn X h1).here ?_)
    refine if_yes (by decide) ?_
    refine wpAny_bind ?_
    show wpAny _ _ (isType (.ref C) >>= fun a => isType (.ref C) >>= fun b => _) _ _ _
    have it : Looks (model prog w) s.heap (isType (.ref C)) true := looks_isType X h6
    refine wpAny_bind (it.here (wpAny_bind (it.here ?_)))
    refine if_yes rfl ?_
    refine (looks_mroIn X h5).here ?_
    exact wpAny_pure hq
  simp only [checkBuiltinCall, F.kind_issubclass]
  cases hsig : Manifest.signature? "issubclass" with
  | none => exact wpAny_pure fin
  | some sig =>
    have ok := F.args_issubclass_2 (.ref C) (.ref C)
    simp only [argsOk, hsig] at ok
    have h2 : Bind.checkArgs "issubclass" sig ⟨[.ref C, .ref C], []⟩ = pure () := ok
    show wpAny _ _ (Bind.checkArgs "issubclass" sig ⟨[.ref C, .ref C], []⟩) _ _ s
    rw [h2]; exact wpAny_pure fin
theorem raise_own {prog : Program} {w : World} {K : Frag} {C : Addr} {env : Env} {Q : Flow → Shared → Prop} {pos : Pos} {x : Sem Value} (X : K.In s.heap) (h : excOk K C = true) (O : OwnExc s.heap C) (hh : A.handled = none)
    (hE : ∀ h' e, Heap.MadeExcOf s.heap h' e (.ref C) [] → E (.ref e) { s with heap := h' }) : wpAny (model prog w) A (raiseStmt env (some (pure (.ref C))) none) Q E s := by
  have hok := h
  simp only [excOk, Bool.and_eq_true, beq_iff_eq] at h
  obtain ⟨⟨⟨⟨⟨h1, h2⟩, h3⟩, h4⟩, h5⟩, h6⟩ := h
  obtain ⟨x, bm, newId, initId, B, mg, ⟨_, tl, N, nm, q, bs, hdct, sn, sub, ab, col, dd, k0, k1, k2, k3, k5, mN, hC, hN, hni, T⟩, FB⟩ := O
  unfold raiseStmt
  refine wpAny_bind (wpAny_pure ?_)
  refine wpAny_bind (wpAny_pure ?_)
  refine wpAny_bind (wpAny_holding ?_)
  unfold excFromValue isExcClass
  have it : Looks (model prog w) s.heap (isType (.ref C)) true := looks_isType X h6
  refine wpAny_bind (wpAny_bind (it.here ?_))
  refine if_yes rfl ((looks_mroIn X h4).here ?_)
  refine if_yes rfl ?_
  obtain ⟨hp, g, d, t, os⟩ := s
  refine wpAny_bind (wpAny_call_exc_subT FB T hC hN hni fun h' e hm => ?_)
  have Xk : K.In h' := X.keeps hm.keeps
  obtain ⟨tp, he, _, _⟩ := hm.there
  have te : Looks (model prog w) h' (typeOf (.ref e)) (.ref C) := (Looks.ld he).andThen .now
  refine wpAny_bind ?_
  unfold isInstance
  refine wpAny_bind (te.at ((looks_mroIn Xk h4).at ?_))
  refine if_no (by decide) (wpAny_pure ?_)
  dsimp only
  have it' : Looks (model prog w) h' (isType (.ref C)) true := looks_isType Xk h6
  refine wpAny_bind (it'.at ?_)
  refine if_yes rfl ?_
  refine wpAny_bind (wpAny_holding ?_)
  unfold raisedFor
  refine if_no (by decide) ?_
  refine wpAny_bind (te.at ?_)
  refine wpAny_bind (issub_own (s := ⟨h', g, d, t, os⟩) Xk hok ?_)
  refine wpAny_bind (wpAny_truthy_bool ?_)
  refine if_yes rfl (wpAny_pure ?_)
  unfold setFlight raiseNew
  refine wpAny_bind (wpAny_bind (wpAny_field (i := 1) (x := Value.none) he rfl rfl ?_))
  refine if_no (by decide) ?_
  refine wpAny_pure (wpAny_bind (wpAny_handled ?_))
  rw [hh]
  first
    | exact wpAny_throw (hE h' e hm)
    | exact wpAny_bind (wpAny_pure (wpAny_throw (hE h' e hm)))
def raiseX (T : Tab) (hb : Bool) (v : AV) : X FlX := fun p st => match hb, v with
  | true, .const (.ref C) => match has1 C T.ex with
    | true => some (.exc (.ref C), p, True, st)
    | false => none
  | _, _ => none
theorem sim_raise (O : S.Ok) {k : Nat} {hb : Bool} (Cx : CxOk k hb A (f :: fs')) {a : AV} {v : Value} (h : VRel W a v) {env : Env} : Sim S A (f :: fs') FlRel W (raiseX S.T hb a) (raiseStmt env (some (pure v)) none) := by
  intro p st r p' c st' e hc s R Q E P
  unfold raiseX at e
  split at e
  · split at e
    · rename_i C hex
      cases e
      cases h
      refine ofAny (raise_own (pos := default) (x := pure .none) (R.kin O) (O.tab.ex _ (has1_mem hex)) ((O.exc _ (has1_mem hex)).keeps fun b o q => R.keep _ _ (R.old _ _ q)) (Cx.hand rfl) fun h' e hm => ?_)
      refine P W { s with heap := h' } (.refl W) (R.grow (t := s.toks) hm.keeps) e ?_
      obtain ⟨t, he, _, _⟩ := hm.there
      have dead := hm.new
      refine ⟨⟨?_, fun m => ?_, fun i q => ?_⟩, _, _, _, he, rfl, rfl, rfl, .inl rfl⟩
      · cases q : W.fz.get? e with
        | none => rfl
        | some o => rw [R.keep _ _ q] at dead; cases dead
      · have : ∀ {fs : List FrA} {locs}, FRel W s.heap fs locs → e ∈ adr fs → False := by
          intro fs locs F
          induction F with
          | nil => intro m; cases m
          | cons a _ ih =>
            intro m
            obtain ⟨m', ⟨o, _, _, ho, _⟩, _⟩ := a
            rcases List.mem_cons.mp m with q | q
            · have q : e = _ := q; rw [q] at dead; rw [ho] at dead; cases dead
            · exact ih q
        exact this R.fr m
      · obtain ⟨o, ho⟩ := (R.sepφ i e q).2.2.2
        rw [dead] at ho; cases ho
    · cases e
  · cases e
end
end Mine
-- part Iv15
open PySem PySem.W PyProof.Rows PySem.Calls
namespace Mine
/-! Stores -/
def storeX (sc : Scope) (x : Str) (v : AV) : X Unit := fun p st => match sc.names.lookup x, st.fr with
  | some .local, loc :: locs => some (.ok (), p, True, { st with fr := putK x v loc :: locs })
  | _, _ => none
def setAt (l : List AV) (k : Int) (v : AV) (lit : Bool) (p : List Bool) : Option (List AV × List Bool × Prop) := match lit with
  | true => some (l.set k.toNat v, p, 0 ≤ k ∧ k < l.length ∧ l.length ≤ 1000)
  | false => none
def setItemX (lit : Bool) (o i v : AV) : X Unit := fun p st => match o, i with
  | .ref u, .int k => match getH st.hp u with
    | some (.list l) => match setAt l k v lit p with
      | some (l', p', c) => some (.ok (), p', c, { st with hp := putH u (.list l') st.hp })
      | none => none
    | some (.barr b) => match v with
      | .int x => some (.ok (), p, (0 ≤ k ∧ k < b.length ∧ b.length ≤ 16777216) ∧ 0 ≤ x ∧ x < 256, { st with hp := putH u (.barr (b.set k.toNat x.toNat.toUInt8)) st.hp })
      | _ => none
    | _ => none
  | _, _ => none
def isLit : Expr → Bool
  | .Constant _ _ _ => true
  | _ => false
def isSlice : Expr → Bool
  | .Slice _ _ _ _ => true
  | _ => false
def asg1 (T : Tab) (sc : Scope) (ev : Expr → X AV) (t : Expr) (v : AV) : X Unit := match t with
  | .Name id _ => storeX sc id v
  | .Attribute o attr _ => do let ov ← ev o; setAttrX T ov attr v
  | .Subscript o i _ => match isSlice i with
    | false => do let ov ← ev o; let iv ← ev i; setItemX (isLit i) ov iv v
    | true => X.fail
  | _ => X.fail
def asgAll (T : Tab) (sc : Scope) (ev : Expr → X AV) : List Expr → List AV → X Unit
  | [], [] => pure ()
  | t :: ts, v :: vs => do asg1 T sc ev t v; asgAll T sc ev ts vs
  | _, _ => X.fail
def unpackX (hb : Bool) (v : AV) (n : Nat) : X (List AV) := fun p st => match hb, v with
  | true, .ref u => match getH st.hp u with
    | some (.list l) => match Nat.beq l.length n with
      | true => some (.ok l, p, True, st)
      | false => none
    | _ => none
  | true, .tup l => match Nat.beq l.length n with
    | true => some (.ok l, p, True, st)
    | false => none
  | _, _ => none
def asgX (T : Tab) (sc : Scope) (hb : Bool) (ev : Expr → X AV) (t : Expr) (v : AV) : X Unit := match t with
  | .Tuple elts _ _ => match plainL elts with
    | true => do let l ← unpackX hb v elts.length; asgAll T sc ev elts l
    | false => X.fail
  | t => asg1 T sc ev t v
def delX (o : AV) (lo hi : Option Int) : X Unit := fun p st => match o, lo, hi with
  | .ref u, none, some k => match getH st.hp u with
    | some (.barr b) => some (.ok (), p, 0 ≤ k ∧ k ≤ b.length ∧ b.length ≤ 16777216, { st with hp := putH u (.barr (b.drop k.toNat)) st.hp })
    | _ => none
  | _, _, _ => none
theorem setItem_list_at {prog : Program} {w : World} {A : Around} {E : Value → Shared → Prop} {s : Shared} {l : Addr} {items : Array Value} {k : Int} {t : Tok} {v : Value} {Q : Unit → Shared → Prop} (hl : s.heap.IsList l items)
    (h0 : 0 ≤ k) (hfit : k < 2 ^ 63) (hn : k < items.size) (hQ : Q () { s with heap := s.heap.update l (Obj.mapSeq (·.setIfInBounds k.toNat v)) }) :
    wpAny (model prog w) A (setItem (.ref l) (.int k t) v) Q E s := by
  obtain ⟨o, ho, hc, ne, hd⟩ := id hl
  unfold setItem
  refine wpAny_holding ?_
  refine wpAny_bind (wpAny_sequenceKey hl.typeIs (by decide) ?_)
  refine wpAny_bind (wpAny_callSpecial?_slot (name := Str.ofString "__setitem__") hl.typeIs slot_list_setitem
    (wpAny_call_entry slot_list_setitem hl.typeIs entry_list_setitem ?_ (args_list_setitem _ _ _)))
  show wpAny _ _ (Builtin.List.listSubscript? (.int k t) >>= _) _ _ s
  refine wpAny_bind (wpAny_listSubscript_int (fitsIndex_of h0 hfit) ?_)
  clear hfit
  obtain ⟨j, rfl⟩ := Int.eq_ofNat_of_zero_le h0
  have hj : j < items.size := by omega
  have hx' : items[j]? = some items[j] := Array.getElem?_eq_getElem hj
  show wpAny _ _ ((seqItemAt l j >>= fun r => pure (r.map (j, ·))) >>= _) _ _ s
  refine wpAny_bind (wpAny_bind (wpAny_seqItemAt ho hd (wpAny_pure ?_)))
  rw [hx']
  show wpAny _ _ (setSeqItemAt l j v >>= _) _ _ s
  refine wpAny_bind (wpAny_setSeqItemAt ho hd ?_)
  first
    | exact wpAny_bind (wpAny_pure (wpAny_pure ⟨.none, rfl, wpAny_pure hQ⟩))
    | exact wpAny_pure ⟨.none, rfl, wpAny_pure hQ⟩
section
variable {prog : Program} {w : World} {A : Around} {E : Value → Shared → Prop}
theorem draw_list {it t : Addr} {items : Array Value} (hne : t ≠ it) : ∀ (n i : Nat) (s : Shared) (Q : List Value → Shared → Prop), s.heap.IsListIter it t i → s.heap.IsList t items → i + n ≤ items.size →
    (∀ h', h'.IsListIter it t (i + n) → Heap.SameBut it s.heap h' → Q ((items.toList.drop i).take n) { s with heap := h' }) → wpAny (model prog w) A (draw (.ref it) n) Q E s
  | 0, i, s, Q, hit, _, _, hQ => by
    show wpAny _ _ (pure []) Q E s
    exact wpAny_pure (by simpa using hQ s.heap hit (Heap.SameBut.refl ..))
  | n + 1, i, s, Q, hit, ht, hle, hQ => by
    have hlt : i < items.size := by omega
    show wpAny _ _ (pyNext (.ref it) >>= _) Q E s
    refine wpAny_bind (wpAny_pyNext_list_item hit ht (x := items[i]) (by simp [hlt]) fun h₁ hit₁ hs₁ => ?_)
    refine wpAny_bind (wpAny_holding (draw_list hne n (i + 1) _ _ hit₁ (ht.extBut hs₁.extBut hne) (by omega) fun h₂ hit₂ hs₂ => wpAny_pure ?_))
    have hd : items.toList.drop i = items[i] :: items.toList.drop (i + 1) := by simp [List.drop_eq_getElem_cons, hlt]
    have := hQ h₂ (by rw [show i + (n + 1) = i + 1 + n by omega]; exact hit₂) (hs₁.trans hs₂)
    rw [hd, List.take_succ_cons] at this
    exact this
theorem unpackItems_list {s : Shared} {t : Addr} {items : Array Value} {Q : List Value → Shared → Prop} (hh : A.handled = none) (ht : s.heap.IsList t items)
    (hQ : ∀ h', Heap.ExtBut s.heap.objs.size s.heap h' → Q items.toList { s with heap := h' }) : wpAny (model prog w) A (unpackItems (.ref t) items.size none) Q E s := by
  have hlt : t ≠ s.heap.objs.size := by obtain ⟨o, ho, _⟩ := ht; exact Nat.ne_of_lt (Heap.lt_size ho)
  unfold unpackItems
  refine wpAny_bind ?_
  · unfold notIterableAtAll
    refine wpAny_bind (wpAny_specialOf ht.typeIs slot_list_iter.lookup ?_)
    refine wpAny_pure ?_
    simp only [Bool.false_eq_true, if_false]
    refine wpAny_bind (wpAny_holding (wpAny_pyIter_list ht ?_))
    refine wpAny_bind (wpAny_holding (draw_list hlt items.size 0 _ _ ⟨_, Heap.get?_push_size _ rfl, rfl, rfl⟩ (ht.push _) (by omega) fun h₁ hit₁ hs₁ => ?_))
    have hall : List.take items.size (List.drop 0 items.toList) = items.toList := by
      rw [List.drop_zero]; exact List.take_of_length_le (by simp)
    rw [hall]
    rw [if_neg (by simp)]
    have ht₁ : h₁.IsList t items := (ht.push _).extBut hs₁.extBut hlt
    refine wpAny_bind (wpAny_holding (wpAny_pyNext_list_end hh hit₁ ht₁ (by simp) fun h₂ he₂ => ?_))
    simp only [Option.isSome_none, Bool.false_eq_true, if_false]
    refine wpAny_pure (hQ h₂ fun b o hb e => he₂ b o hb (hs₁.extBut b o hb (Heap.get?_push_of_some _ e)))
end
section
variable {S : Stc} {A : Around} {W : Wd} {f : Fm} {fs' : List Fm} {st : ASt} {s : Shared}
def NoRel {α β : Type} : Wd → α → β → Prop := fun _ _ _ => True
theorem sim_store {k : Nat} {hb : Bool} (Cx : CxOk k hb A (f :: fs')) {x : Str} {a : AV} {v : Value} (h : VRel W a v) : Sim S A (f :: fs') NoRel W (storeX f.sc x a) (bindName f.env x v) := by
  intro p st r p' c st' e hc s R Q E P
  unfold storeX at e
  split at e
  · rename_i loc locs hl hfr
    cases e
    have hk := Cx.kind f (.head _)
    have F := R.fr
    rw [hfr] at F
    cases F with
    | cons l _ =>
      obtain ⟨m, hn, q⟩ := l
      refine ofAny (wpAny_bindName (wpAny_storeName_local (m := m) hl hn (fun h' hn' hs' => ?_) (by show (f.sc.kind == .class || (f.sc.kind == .module && f.L != mainGlobals)) = false; rw [hk]; rfl)))
      exact P W _ (.refl W) (Rep.store (fs := Las fs') (L := f.L) (cl := f.cl) R hfr (Cx.loc f (.head _) x hl) q hn' hs' h) () trivial
  · cases e
theorem list_set_get {α : Type} (l : List α) (k : Nat) (v : α) : (l.toArray.setIfInBounds k v) = (l.set k v).toArray := by simp
theorem sim_setItem {lit : Bool} {oa ia va : AV} {ov iv v : Value} (ho : VRel W oa ov) (hi : VRel W ia iv) (hv : VRel W va v) : Sim S A (f :: fs') NoRel W (setItemX lit oa ia va) (setItem ov iv v) := by
  intro p st r p' c st' e hc s R Q E P
  unfold setItemX at e
  split at e
  · rename_i u k
    cases ho with
    | ref h => cases hi with
      | @int _ ti =>
        split at e
        · rename_i l hl
          split at e
          · rename_i l' p1 c1 hs
            cases e
            unfold setAt at hs
            split at hs
            · cases hs
              obtain ⟨vs, n, h1, h2⟩ := R.olist hl h
              have hlen := h2.length
              refine ofAny (setItem_list_at ⟨_, h1, rfl, _, rfl⟩ hc.1 (by omega) (by simp; omega) ?_)
              refine P W _ (.refl W) (R.update (t := s.toks) (f := Obj.mapSeq (·.setIfInBounds k.toNat v)) h h1 ?_) () trivial
              show ORel S W _ (⟨_, _, .seq (vs.toArray.setIfInBounds k.toNat v) _, _⟩ : Obj)
              rw [list_set_get]
              exact .list (h2.set hv)
            · cases hs
          · cases e
        · rename_i b hb
          split at e
          · rename_i x
            cases e
            cases hv
            have ho := R.obarr hb h
            refine ofAny (setItem_ba ho hc.1.1 hc.1.2.1 (by rw [sizeLine_eq]; exact hc.1.2.2) hc.2.1 hc.2.2 ?_)
            refine P W _ (.refl W) (R.update (t := s.toks) (f := Obj.mapBytearray (·.setIfInBounds k.toNat x.toNat.toUInt8)) h ho ?_) () trivial
            have := ORel.barr (S := S) (W := W) (b := b.set k.toNat x.toNat.toUInt8)
            rw [← list_set_get] at this
            exact this
          · cases e
        · cases e
  · cases e
theorem sim_del {oa : AV} {x : Option Int × Option Int} {ov iv : Value} (ho : VRel W oa ov) (hi : SRel W x iv) : Sim S A (f :: fs') NoRel W (delX oa x.1 x.2) (delItem ov iv) := by
  intro p st r p' c st' e hc s R Q E P
  obtain ⟨x1, x2⟩ := x
  obtain ⟨sl, l, u, rfl, hsl, pl, pu⟩ := hi
  have hs : s.heap.IsSliceOf sl l u .none := ⟨_, R.keep _ _ hsl, rfl, rfl⟩
  unfold delX at e
  dsimp only at e pl pu
  split at e
  · rename_i i k
    cases ho with
    | ref h =>
      split at e
      · rename_i b hb
        cases e
        have ho := R.obarr hb h
        refine delFront_ba ho hs pl pu (by rw [sizeLine_eq]; exact hc.2.2) hc.1 hc.2.1 fun g hg => ?_
        refine P W _ (.refl W) (R.update (t := s.toks) (f := Obj.mapBytearray g) h ho ?_) () trivial
        show ORel S W _ (⟨_, _, .bytearray (g b.toArray) 0, _⟩ : Obj)
        rw [hg]; exact .barr
      · cases e
  · cases e
theorem sim_asg1 (O : S.Ok) {k : Nat} {hb : Bool} (Cx : CxOk k hb A (f :: fs')) {ev : Expr → X AV} (hev : ∀ W e, Sim S A (f :: fs') VRel W (ev e) (eval e f.env)) {t : Expr} {a : AV} {v : Value} {W : Wd} (h : VRel W a v) :
    Sim S A (f :: fs') NoRel W (asg1 S.T f.sc ev t a) (assign t f.env v) := by
  unfold asg1
  split
  · rw [arm_assign_Name]; exact .standAt (sim_store Cx h)
  · rw [arm_assign_Attribute]
    refine .bind (.holding (hev W _)) fun W' o ov le ho => .standAt ?_
    refine .congr (t' := holding [v, ov] (setAttr ov _ v) >>= fun _ => release [v, ov] []) rfl ?_
    exact .after (.holding (sim_setAttr O ho (h.mono le))) fun b Q E s hq => wpC_release hq
  · split
    · rename_i o i pos hsl
      rw [arm_assign_Subscript]
      refine .bind (.holding (hev W _)) fun W' o ov le ho => .bind (.holding (hev W' _)) fun W'' j jv le' hj => .standAt ?_
      exact .after (.holding (sim_setItem (ho.mono le') hj ((h.mono le).mono le'))) fun b Q E s hq => wpC_release hq
    · exact .fail
  · exact .fail
theorem sim_asgAll (O : S.Ok) {k : Nat} {hb : Bool} (Cx : CxOk k hb A (f :: fs')) {ev : Expr → X AV} (hev : ∀ W e, Sim S A (f :: fs') VRel W (ev e) (eval e f.env)) : ∀ (ts : List Expr) {l : List AV} {vs : List Value} {W : Wd}, plainL ts = true → VRels W l vs →
    Sim S A (f :: fs') NoRel W (asgAll S.T f.sc ev ts l) (assignInOrder ((assignEach ts f.env).map (·.2)) vs)
  | [], _, _, W, _, .nil => .pure fun _ _ => trivial
  | [], _, _, W, _, .cons _ _ => .fail
  | t :: ts, _, _, W, _, .nil => .fail
  | t :: ts, _, _, W, hp, .cons (v := v) (vs := vs) h r => by
    simp only [plainL, List.all_cons, Bool.and_eq_true, Bool.not_eq_true'] at hp
    have e1 : assignEach (t :: ts) f.env = (false, assign t f.env) :: assignEach ts f.env := by cases t <;> first | rfl | cases hp.1
    rw [e1]
    show Sim S A (f :: fs') NoRel W _ (holding vs (assign t f.env v) >>= fun _ => assignInOrder ((assignEach ts f.env).map (·.2)) vs)
    exact .bind (.holding (sim_asg1 O Cx hev h)) fun W' _ _ le _ => sim_asgAll O Cx hev ts hp.2 (r.mono le)
theorem assignEach_plain {env : Env} : ∀ {ts : List Expr}, plainL ts = true → (assignEach ts env).findIdx? (·.1) = none ∧ (assignEach ts env).length = ts.length
  | [], _ => ⟨rfl, rfl⟩
  | t :: ts, hp => by
    simp only [plainL, List.all_cons, Bool.and_eq_true, Bool.not_eq_true'] at hp
    have e1 : assignEach (t :: ts) env = (false, assign t env) :: assignEach ts env := by cases t <;> first | rfl | cases hp.1
    obtain ⟨a, b⟩ := assignEach_plain (env := env) (ts := ts) hp.2
    rw [e1, List.findIdx?_cons, a]
    exact ⟨rfl, by simp [b]⟩
theorem sim_unpack {k : Nat} {hb : Bool} (Cx : CxOk k hb A (f :: fs')) {a : AV} {v : Value} {n : Nat} (h : VRel W a v) : Sim S A (f :: fs') VRels W (unpackX hb a n) (unpackItems v n none) := by
  intro p st r p' c st' e hc s R Q E P
  unfold unpackX at e
  have new : s.heap.get? s.heap.objs.size = none := Heap.get?_none_of_le (Nat.le_refl _)
  split at e
  · cases h with
    | ref h =>
      split at e
      · rename_i l hl
        split at e
        · rename_i hn
          cases e
          have hn := Nat.eq_of_beq_eq_true hn
          obtain ⟨vs, m, h1, h2⟩ := R.olist hl h
          have hs : vs.toArray.size = n := by rw [List.size_toArray, ← h2.length, hn]
          refine ofAny ?_
          rw [← hs]
          refine unpackItems_list (Cx.hand rfl) ⟨_, h1, rfl, _, rfl⟩ fun h' he => ?_
          exact P W _ (.refl W) (R.grow (t := s.toks) fun b o q => he b o (fun z => by rw [z, new] at q; cases q) q) _ h2
        · cases e
      · cases e
  · cases h with
    | @tup _ ws _ _ h1 h2 =>
      split at e
      · rename_i hn
        cases e
        have hn := Nat.eq_of_beq_eq_true hn
        have hs : ws.toArray.size = n := by rw [List.size_toArray, ← h2.length, hn]
        refine ofAny ?_
        rw [← hs]
        refine wpAny_unpackItems_tuple (Cx.hand rfl) (R.tuple h1) fun h' he => ?_
        exact P W _ (.refl W) (R.grow (t := s.toks) fun b o q => he b o (fun z => by rw [z, new] at q; cases q) q) _ h2
      · cases e
  · cases e
theorem sim_asg (O : S.Ok) {k : Nat} {hb : Bool} (Cx : CxOk k hb A (f :: fs')) {ev : Expr → X AV} (hev : ∀ W e, Sim S A (f :: fs') VRel W (ev e) (eval e f.env)) {t : Expr} {a : AV} {v : Value} {W : Wd} (h : VRel W a v) :
    Sim S A (f :: fs') NoRel W (asgX S.T f.sc hb ev t a) (assign t f.env v) := by
  unfold asgX
  split
  · split
    · rename_i hp
      rw [arm_assign_Tuple]
      refine .standAt ?_
      unfold unpack
      obtain ⟨p1, p2⟩ := assignEach_plain (env := f.env) hp
      rw [p1, p2]
      exact .bind (.holding (sim_unpack Cx h)) fun W' l vs le hl => sim_asgAll O Cx hev _ hp hl
    · exact .fail
  · exact sim_asg1 O Cx hev h
end
end Mine
-- part Iv16
open PySem PySem.W PyProof.Rows PySem.Calls
namespace Mine
/-! Statements -/
def isComp : Expr → Bool
  | .ListComp _ _ _ _ => true
  | .SetComp _ _ _ _ => true
  | .DictComp _ _ _ _ _ => true
  | _ => false
def noSwap : Expr → Expr → Bool
  | .Tuple _ _ _, .Tuple _ _ _ => false
  | .List _ _, .Tuple _ _ _ => false
  | _, _ => true
def exsX (ex : Stmt → X FlX) : List Stmt → X FlX
  | [] => pure .next
  | s :: r => do
    let f ← ex s
    match f with
    | .next => exsX ex r
    | f => pure f
def handX (T : Tab) (sc : Scope) (C : Value) : List ExceptHandler → Option (List Stmt)
  | .ExceptHandler (some (.Name id _)) none (b :: r) _ :: hs => match id == ("__debug__" : Str), sc.names.lookup id, getK id T.gl, C with
    | false, some .globalImplicit, some (.const (.ref D)), .ref C => match Nat.beq C D && has1 D T.ex with
      | true => some (b :: r)
      | false => none
    | _, _, _, _ => none
  | _ => none
def tryX (T : Tab) (sc : Scope) (exs exs0 : List Stmt → X FlX) (body : List Stmt) (hs : List ExceptHandler) (orelse : List Stmt) : X FlX := fun p st => match exs body p st with
  | some (.ok .next, p', c, st') => match exs orelse p' st' with
    | some (r, p'', c', st'') => some (r, p'', c ∧ c', st'')
    | none => none
  | some (.ok f, p', c, st') => some (.ok f, p', c, st')
  | some (.exc C, p', c, st') => match handX T sc C hs with
    | some b => match exs0 b p' st' with
      | some (.ok f, p'', c', st'') => some (.ok f, p'', c ∧ c', st'')
      | _ => none
    | none => none
  | none => none
def augX (T : Tab) (ev : Expr → X AV) (ov : AV) (attr : Str) (op : Operator) (value : Expr) : X AV := do
  let old ← getAttrX T ov attr
  let v ← ev value
  ibinX op old v
def delStX (ev : Expr → X AV) (ob : Expr) (lo hi : Option Expr) : X Unit := do
  let ov ← ev ob
  let x ← cutX ev lo hi
  delX ov x.1 x.2
def exF (T : Tab) (sc : Scope) (hb : Bool) (o : Ops) (exs exs0 : List Stmt → X FlX) (lp : Stmt → X FlX) : Stmt → X FlX
  | .Expr e _ => match isComp e with
    | false => do let _ ← o.ev e; pure .next
    | true => X.fail
  | .Pass _ => pure .next
  | .Return (some e) _ => do let a ← o.ev e; pure (.ret a)
  | .Return none _ => pure (.ret .none)
  | .Assign [t] value _ => match (!isComp value && noSwap t value) && !isStarred t with
    | true => do
      let v ← o.ev value
      asgX T sc hb o.ev t v
      pure .next
    | false => X.fail
  | .AugAssign (.Attribute ob attr _) op value _ => do
    let ov ← o.ev ob
    let new ← augX T o.ev ov attr op value
    setAttrX T ov attr new
    pure .next
  | .If t b e _ => do
    let d ← o.tr t
    match d with
    | true => exs b
    | false => exs e
  | .Raise (some e) none _ => do let v ← o.ev e; raiseX T hb v
  | .Assert t _ _ => do
    let d ← o.tr t
    match d with
    | true => pure .next
    | false => X.fail
  | .Delete [.Subscript ob (.Slice lo hi none _) _] _ => do
    delStX o.ev ob lo hi
    pure .next
  | .Try body hs orelse [] _ => tryX T sc exs exs0 body hs orelse
  | s@(.For _ _ _ _ _) => lp s
  | _ => X.fail
def isFor : Stmt → Bool
  | .For _ _ _ _ _ => true
  | _ => false
section
variable {S : Stc} {A : Around} {W : Wd} {f : Fm} {fs' : List Fm} {st : ASt} {s : Shared}
theorem swaps_no {value : Expr} {t : Option Expr} {n : Nat} {env : Env} (h : isComp value = false) : swapsWith value t n env = pure false := by
  unfold swapsWith
  cases value <;> first | rfl | cases h
theorem stores_no {t value : Expr} {env : Env} (h : noSwap t value = true) : swappedStores [t] value env = pure none := by
  unfold swappedStores
  cases t <;> cases value <;> first | rfl | cases h
theorem sim_execs {ex : Stmt → X FlX} (h : ∀ W s, Sim S A (f :: fs') FlRel W (ex s) (exec s f.env)) : ∀ (l : List Stmt) (W : Wd), Sim S A (f :: fs') FlRel W (exsX ex l) (execs l f.env)
  | [], W => .pure fun _ _ => .next
  | s :: r, W => by
    rw [execs_cons]
    refine .bind (h W s) fun W' a b le hf => ?_
    cases hf with
    | next => exact sim_execs h r W'
    | ret q => exact .pure fun W'' le' => .ret (q.mono le')
    | brk => exact .pure fun _ _ => .brk
    | cont => exact .pure fun _ _ => .cont
theorem Sim.unit {m : X Unit} {t : Sem Unit} {b : Flow} {a : FlX} (h : Sim S A (f :: fs') NoRel W m t) (hr : ∀ W', FlRel W' a b) : Sim S A (f :: fs') FlRel W (m >>= fun _ => Pure.pure a) (t >>= fun _ => Pure.pure b) :=
  .bind h fun W' _ _ _ _ => .pure fun W'' _ => hr W''
section
variable {prog : Program} {w : World} {E : Value → Shared → Prop} {env : Env}
def cameBackC (M : Model) (A : Around) (env : Env) (E : Value → Shared → Prop) : Value → Shared → Prop :=
  fun x s' => wpC M A (do
    if (← field x 1) == .none then unsupported "frame.own-activation:exception-without-traceback"
    setFlight x env.frame) (fun _ s'' => E x s'') E s'
theorem wpC_runOwn {c : Code} {h : Option Value} {Q : Flow → Shared → Prop}
    (hc : codeC (model prog w) (A.mark h) c (fun r s' => match r with | .ok f => Q f s' | .error e => cameBackC (model prog w) A env E e s') s) (hnb : h ≠ some byPass := by intro x; cases x) :
    wpC (model prog w) A (runOwn c env h) Q E s := by
  unfold runOwn
  exact wpC_onRaise (wpC_run hc hnb)
theorem codeC_handlers_test {R : Result → Shared → Prop} {e : Value} {t : Expr} {pos : Pos}
    (h : wpC (model prog w) A (eval t env) (fun c s₁ => wpC (model prog w) A (excMatches e c) (fun b s₂ => R (.ok (if b then .brk else .next)) s₂) (fun _ _ => False) s₁) (fun _ _ => False) s) :
    codeC (model prog w) A (.handlers e [.ExceptHandler (some t) none [] pos] env) R s := by
  refine codeC_of_tree rfl ?_
  show wpC _ A (do return Fin.done (← (handleWith e env [.ExceptHandler (some t) none [] pos]).onRaise (fun x => do noteFrame x env; theTreesLotGoes x))) _ _ s
  refine wpC_bind (wpC_onRaise ?_)
  unfold handleWith
  refine wpC_bind (wpC_standAt (wpC_bind (wpC_mono h (fun c s₁ h₁ => wpC_bind (wpC_standAt (wpC_bind (wpC_mono h₁ (fun b s₂ h₂ => wpC_pure (wpC_pure ?_)) fun _ _ x => x.elim)))) fun _ _ x => x.elim)))
  exact h₂
theorem codeC_handlers_suite {R : Result → Shared → Prop} {e : Value} {b₀ : Stmt} {body : List Stmt} {pos : Pos}
    (h : wpC (model prog w) A (setFlight e none) (fun _ s₁ => wpC (model prog w) A (execs (b₀ :: body) env) (fun f s₂ => R (.ok f) s₂) (fun _ _ => False) s₁) (fun _ _ => False) s) :
    codeC (model prog w) A (.handlers e [.ExceptHandler none none (b₀ :: body) pos] env) R s := by
  refine codeC_of_tree rfl ?_
  show wpC _ A (do return Fin.done (← (handleWith e env [.ExceptHandler none none (b₀ :: body) pos]).onRaise (fun x => do noteFrame x env; theTreesLotGoes x))) _ _ s
  refine wpC_bind (wpC_onRaise ?_)
  unfold handleWith
  exact wpC_bind (wpC_standAt (wpC_bind (wpC_mono h (fun _ s₁ h₁ => wpC_mono h₁ (fun f s₂ h₂ => wpC_pure h₂) fun _ _ x => x.elim) fun _ _ x => x.elim)))
theorem handleBy_first {e : Addr} {t : Expr} {b₀ : Stmt} {body : List Stmt} {pos : Pos} {rest : List ExceptHandler} {Q : Flow → Shared → Prop}
    (h : wpC (model prog w) (A.mark (some (.ref e))) (eval t env) (fun c s₁ => wpC (model prog w) (A.mark (some (.ref e))) (excMatches (.ref e) c) (fun b s₂ => b = true ∧
      wpC (model prog w) (A.mark (some (.ref e))) (setFlight (.ref e) none) (fun _ s₃ => wpC (model prog w) (A.mark (some (.ref e))) (execs (b₀ :: body) env) Q (fun _ _ => False) s₃) (fun _ _ => False) s₂) (fun _ _ => False) s₁) (fun _ _ => False) s) :
    wpC (model prog w) A (handleBy (.ref e) env (.ExceptHandler (some t) none (b₀ :: body) pos :: rest)) Q E s := by
  rw [handleBy]
  have hnb : (some (Value.ref e) : Option Value) ≠ some byPass := by intro x; cases x
  refine wpC_bind (wpC_holding (wpC_runOwn (codeC_handlers_test (wpC_mono h (fun c s₁ h₁ => wpC_mono h₁ (fun b s₂ h₂ => ?_) fun _ _ x => x.elim) fun _ _ x => x.elim)) hnb))
  obtain ⟨rfl, h₂⟩ := h₂
  refine wpC_bind (wpC_pure ?_)
  refine if_noC (by decide) ?_
  refine wpC_bind (wpC_holding (wpC_runOwn (codeC_handlers_suite (wpC_mono h₂ (fun _ s₃ h₃ => wpC_mono h₃ (fun f s₄ h₄ => ?_) fun _ _ x => x.elim) fun _ _ x => x.elim)) hnb))
  exact wpC_pure h₄
theorem excMatches_own {M : Model} {K : Frag} {e C : Addr} {oe : Obj} {Q : Bool → Shared → Prop} (X : K.In s.heap) (h : excOk K C = true) (he : s.heap.get? e = some oe) (hc : oe.cls = .ref C) (hq : Q true s) : wpAny M A (excMatches (.ref e) (.ref C)) Q E s := by
  simp only [excOk, Bool.and_eq_true, beq_iff_eq] at h
  obtain ⟨⟨⟨⟨⟨h1, h2⟩, h3⟩, h4⟩, h5⟩, h6⟩ := h
  have it : Looks M s.heap (isType (.ref C)) true := looks_isType X h6
  have te : Looks M s.heap (typeOf (.ref e)) (.ref C) := hc ▸ (Looks.ld (part := none) he).andThen .now
  unfold excMatches
  refine wpAny_bind ((looks_instIn X h3).here ?_)
  refine if_no (by decide) (wpAny_bind (wpAny_pure ?_))
  dsimp only
  rw [List.forIn_cons]
  refine wpAny_bind (wpAny_bind ?_)
  unfold isExcClass
  refine wpAny_bind (wpAny_bind (it.here ?_))
  refine if_yes rfl ((looks_mroIn X h4).here ?_)
  refine if_no (by decide) (wpAny_pure ?_)
  dsimp only
  rw [List.forIn_nil]
  refine wpAny_pure ?_
  refine wpAny_bind (te.here ?_)
  rw [List.forIn_cons]
  refine wpAny_bind (wpAny_bind (wpAny_bind ((looks_mroIn X h5).here ?_)))
  refine if_yes rfl (wpAny_pure ?_)
  dsimp only
  exact wpAny_pure (wpAny_pure hq)
end
end
end Mine
-- part Iv17
open PySem PySem.W PyProof.Rows PySem.Calls
namespace Mine
section
variable {S : Stc} {A : Around} {W : Wd} {f : Fm} {fs' : List Fm} {st : ASt} {s : Shared}
theorem wpC_assoc {α β γ : Type} {M : Model} {m : Sem α} {n : α → Sem β} {h : β → Sem γ} {Q : γ → Shared → Prop} {E : Value → Shared → Prop} (k : wpC M A ((m >>= n) >>= h) Q E s) : wpC M A (m >>= fun a => n a >>= h) Q E s :=
  fun Γ p hΓ h1 h2 => by have := k Γ p hΓ h1 h2; simp only [Sem.wp_bind'] at this ⊢; exact this
theorem CxOk.mark {k : Nat} {hb : Bool} {fs : List Fm} (C : CxOk k hb A fs) (e : Option Value) : CxOk k false (A.mark e) fs :=
  ⟨C.frames, C.depth, C.units, C.kind, (fun h => by cases h), C.loc, C.cel⟩
theorem handX_of {C : Value} {hs : List ExceptHandler} {b : List Stmt} (h : handX S.T f.sc C hs = some b) : ∃ (id : Str) (np pos : Pos) (b₀ : Stmt) (r : List Stmt) (rest : List ExceptHandler) (D : Addr), hs = .ExceptHandler (some (.Name id np)) none (b₀ :: r) pos :: rest ∧ b = b₀ :: r ∧
    (id == ("__debug__" : Str)) = false ∧ f.sc.names.lookup id = some .globalImplicit ∧ getK id S.T.gl = some (.const (.ref D)) ∧ C = .ref D ∧ has1 D S.T.ex = true := by
  unfold handX at h
  split at h
  · rename_i id np b0 r pos rest
    split at h
    · rename_i D C' h1 h2 h3
      split at h
      · rename_i hq
        rw [Bool.and_eq_true] at hq
        cases h
        have := Nat.eq_of_beq_eq_true hq.1
        subst this
        exact ⟨id, np, pos, b0, r, rest, C', rfl, rfl, h1, h2, h3, rfl, hq.2⟩
      · cases h
    · cases h
  · cases h
theorem eval_class (O : S.Ok) {k : Nat} {hb : Bool} (Cx : CxOk k hb A (f :: fs')) {id : Str} {np : Pos} {D : Addr} {Q : Value → Shared → Prop} {E : Value → Shared → Prop} (R : Rep S W (Las (f :: fs')) st s) (hd : (id == ("__debug__" : Str)) = false) (hl : f.sc.names.lookup id = some .globalImplicit)
    (hg : getK id S.T.gl = some (.const (.ref D))) (hQ : Q (.ref D) s) : wpAny (model S.prog S.w) A (eval (.Name id np) f.env) Q E s := by
  have e := O.tab.glob hg
  have kin := R.kin O
  have T := R.top O
  have hk := Cx.kind f (.head _)
  have only : ∀ v, avOf v = some (.const (.ref D)) → v = .ref D := fun v h => by cases v <;> first | (cases h; rfl) | cases h
  unfold globalX at e
  split at e
  · rename_i v hv
    rw [only v e] at hv
    exact Name_function_global hk hl (loadGlobal_global (env := f.env) T.g (mg_of kin T.g hv) hQ) hd
  · rename_i hv
    split at e
    · cases e
    · rename_i hn
      obtain ⟨v, hb, e⟩ := Option.bind_eq_some_iff.mp e
      rw [only v e] at hb
      exact Name_function_global hk hl (loadGlobal_builtin (env := f.env) T.g (mg_none_of kin T.g hv) T.b ((T.builtins id (by simpa using hn)).trans hb) hQ) hd
  · cases e
theorem sim_try (O : S.Ok) {k : Nat} {hb : Bool} (Cx : CxOk k hb A (f :: fs')) {exs exs0 : List Stmt → X FlX} (hx : ∀ W l, Sim S A (f :: fs') FlRel W (exs l) (execs l f.env))
    (hx0 : ∀ A' W l, CxOk k false A' (f :: fs') → Sim S A' (f :: fs') FlRel W (exs0 l) (execs l f.env)) {body orelse : List Stmt} {hs : List ExceptHandler} {W : Wd} :
    Sim S A (f :: fs') FlRel W (tryX S.T f.sc exs exs0 body hs orelse) (tryStmt false (execs body f.env) hs (execs orelse f.env) [] f.env) := by
  intro p st r p' c st' e hc s R Q E P
  show wpC _ A (do
    match ← (execs body f.env).attempt with
    | .ok .next => execs orelse f.env
    | .ok f => pure f
    | .error e =>
      noteFrame e f.env
      if hs.isEmpty then throw e
      setFlight e none
      handleBy e f.env hs : Sem Flow) _ _ _
  unfold tryX at e
  split at e
  · rename_i p₁ c₁ st₁ e₁
    split at e
    · rename_i r₂ p₂ c₂ st₂ e₂
      cases e
      refine wpC_bind (wpC_attempt (hx W body _ _ _ _ _ _ e₁ hc.1 s R _ _ fun W' s' le R' => ?_))
      intro b hb
      cases hb
      exact hx W' orelse _ _ _ _ _ _ e₂ hc.2 s' R' Q E (P.le le)
    · cases e
  · rename_i fl p₁ c₁ st₁ hnn e₁
    cases e
    refine wpC_bind (wpC_attempt (hx W body _ _ _ _ _ _ e₁ hc s R _ _ fun W' s' le R' => ?_))
    intro b hb
    have q := P W' s' le R' b hb
    cases hb with
    | next => exact (hnn rfl).elim
    | ret h => exact wpC_pure q
    | brk => exact wpC_pure q
    | cont => exact wpC_pure q
  · rename_i C p₁ c₁ st₁ e₁
    split at e
    · rename_i b hb
      split at e
      · rename_i fl p₂ c₂ st₂ e₂
        cases e
        obtain ⟨id, np, pos, b₀, rr, rest, D, rfl, rfl, h1, h2, h3, rfl, h4⟩ := handX_of hb
        refine wpC_bind (wpC_attempt (hx W body _ _ _ _ _ _ e₁ hc.1 s R _ _ fun W' s' le R' => ?_))
        intro ev hfly
        dsimp only
        show wpC _ A (noteFrame (.ref ev) f.env >>= fun _ => setFlight (.ref ev) none >>= fun _ => handleBy (.ref ev) f.env _) _ _ _
        refine wpC_assoc (wpC_bind (ofAny (noted_fly Cx R' hfly fun h' R₂ F₂ => ?_)))
        have hh : has1 D S.T.ex = true := h4
        have hok := O.tab.ex _ (has1_mem hh)
        refine handleBy_first (ofAny (eval_class O (Cx.mark _) R₂ h1 h2 h3 ?_))
        have F₃ := F₂
        obtain ⟨ae, oe, vs, a0, q1, q2, q3, q4, q5⟩ := F₃
        refine ofAny (excMatches_own (R₂.kin O) hok q1 q2 ⟨rfl, ?_⟩)
        refine ofAny (flight_fly R₂ F₂ fun h'' R₃ F₃ => ?_)
        refine hx0 _ W' _ (Cx.mark _) _ _ _ _ _ _ e₂ hc.2 _ R₃ Q _ fun W'' s'' le' R₄ => ?_
        exact P W'' s'' (le.trans le') R₄
      · cases e
    · cases e
  · cases e
end
end Mine
-- part Iv18
open PySem PySem.W PyProof.Rows PySem.Calls
namespace Mine
section
variable {S : Stc} {A : Around} {W : Wd} {f : Fm} {fs' : List Fm} {st : ASt} {s : Shared}
theorem Sim.assoc {α β γ δ : Type} {fs : List Fm} {rel : Wd → δ → γ → Prop} {m : X δ} {a : Sem α} {b : α → Sem β} {c : β → Sem γ} (h : Sim S A fs rel W m ((a >>= b) >>= c)) : Sim S A fs rel W m (a >>= fun x => b x >>= c) :=
  fun _ _ _ _ _ _ e hc s R Q E P => wpC_assoc (h _ _ _ _ _ _ e hc s R Q E P)
theorem inter_no {k : Nat} {hb : Bool} (Cx : CxOk k hb A (f :: fs')) : interactive f.env = false := by
  have hk := Cx.kind f (.head _)
  unfold interactive
  show (f.sc.kind == .module && _) = false
  rw [hk]; rfl
theorem Sim.keepPure {α β γ : Type} {rel : Wd → α → β → Prop} {m : X α} {t : Sem γ} {g : γ → Sem β} {relg : Wd → α → γ → Prop} (h : Sim S A (f :: fs') relg W m t) (hg : ∀ W' a b, W.le W' → relg W' a b → ∀ st s, Rep S W' (Las (f :: fs')) st s → ∀ (Q : β → Shared → Prop) E, (∀ W'' s' b', W'.le W'' → Rep S W'' (Las (f :: fs')) st s' → rel W'' a b' → Q b' s') → wpC (model S.prog S.w) A (g b) Q E s) :
    Sim S A (f :: fs') rel W m (t >>= g) := by
  intro p st r p' c st' e hc s R Q E P
  refine wpC_bind (h _ _ _ _ _ _ e hc s R _ _ fun W' s' le R' => ?_)
  cases r with
  | exc C => exact P W' s' le R'
  | ok a => exact fun b hb => hg W' a b le hb _ _ R' Q E fun W'' s'' b' le' R'' hr => P W'' s'' (le.trans le') R'' b' hr
theorem sim_ex (O : S.Ok) {k : Nat} {hb : Bool} (Cx : CxOk k hb A (f :: fs')) {o : Ops} (h : OpsOk S A f fs' o) {exs exs0 : List Stmt → X FlX} {lp : Stmt → X FlX} (hx : ∀ W l, Sim S A (f :: fs') FlRel W (exs l) (execs l f.env))
    (hx0 : ∀ A' W l, CxOk k false A' (f :: fs') → Sim S A' (f :: fs') FlRel W (exs0 l) (execs l f.env)) (hlp : ∀ W s, isFor s = true → Sim S A (f :: fs') FlRel W (lp s) (exec s f.env)) (st : Stmt) (W : Wd) :
    Sim S A (f :: fs') FlRel W (exF S.T f.sc hb o exs exs0 lp st) (exec st f.env) := by
  unfold exF
  split
  · rename_i e pos
    split
    · rename_i hcomp
      rw [exec_Expr f.env e pos (inter_no Cx) (swaps_no hcomp)]
      refine .standAt (.bind (h.ev W e) fun W' a v le hv => ?_)
      intro p st r p' c st' e1 hc s R Q E P
      cases e1
      exact ofAny (wpAny_dropValue (P W' s (.refl W') R _ .next))
    · exact .fail
  · rw [exec_Pass]; exact .standAt (.pure fun _ _ => .next)
  · rw [exec_Return_some]
    exact .standAt (.bind (h.ev W _) fun W' a v le hv => .pure fun W'' le' => .ret (hv.mono le'))
  · rw [exec_Return_none]; exact .standAt (.pure fun _ _ => .ret .none)
  · rename_i t value pos
    split
    · rename_i hok
      simp only [Bool.and_eq_true, Bool.not_eq_true'] at hok
      obtain ⟨hok, hst⟩ := hok
      have e1 : exec (.Assign [t] value pos) f.env = (standAt pos >>= fun _ => swapsWith value (some t) pos.line f.env >>= fun b => if b = true then (do
          evalThenUse value f.env fun v => assignAll v ((assignEach [t] f.env).map (·.2))
          pure .next) else (do
          let v ← eval value f.env
          assignStores f.env v (← swappedStores [t] value f.env) ((assignEach [t] f.env).map (·.2)))) := rfl
      rw [e1, swaps_no hok.1, stores_no hok.2]
      refine .standAt ?_
      show Sim S A (f :: fs') FlRel W _ (eval value f.env >>= fun v => pure none >>= fun sw => assignStores f.env v sw ((assignEach [t] f.env).map (·.2)))
      refine .bind (h.ev W value) fun W' a v le hv => ?_
      have e2 : assignEach [t] f.env = [((assignEach [t] f.env).head?.elim false (·.1), (match t with | .Starred t _ => assign t f.env | t => assign t f.env))] := by cases t <;> rfl
      have e3 : ∀ x, (assignStores f.env x none ((assignEach [t] f.env).map (·.2))) = ((match t with | .Starred t _ => assign t f.env | t => assign t f.env) x >>= fun _ => pure Flow.next) := fun x => by rw [e2]; rfl
      show Sim S A (f :: fs') FlRel W' _ (assignStores f.env v none ((assignEach [t] f.env).map (·.2)))
      rw [e3]
      have e4 : (match t with | .Starred t _ => assign t f.env | t => assign t f.env) = assign t f.env := by cases t <;> first | rfl | cases hst
      rw [e4]
      exact .unit (sim_asg O Cx h.ev hv) fun _ => .next
    · exact .fail
  · rename_i ob attr tpos op value pos
    show Sim S A (f :: fs') FlRel W _ (standAt pos >>= fun _ => eval ob f.env >>= fun ov => holding [ov] (standAt tpos.atName >>= fun _ => getAttr ov attr true >>= fun old => holding [old] (eval value f.env) >>= fun v => standAt pos >>= fun _ => operate [old, v] (inplaceOp op old v)) >>= fun new =>
      standAt tpos.atName >>= fun _ => holding [new, ov] (setAttr ov attr new) >>= fun _ => release [new, ov] [] >>= fun _ => pure .next)
    refine .standAt (.bind (h.ev W ob) fun W' oa ov le ho => ?_)
    refine .bind (rel := VRel) (.holding ?_) fun W'' na nv le' hn => .standAt ?_
    · refine .standAt (.bind (sim_getAttr O ho) fun W₁ oa' ov' le₁ ho' => .bind (.holding (h.ev W₁ value)) fun W₂ va v le₂ hv => .standAt (.operate (sim_ibin (ho'.mono le₂) hv)))
    · exact .assoc (.unit (.after (.holding (sim_setAttr O (ho.mono le') hn)) fun b Q E s hq => wpC_release hq) fun _ => .next)
  · rename_i t b e pos
    rw [exec_If]
    refine .standAt (.bind (h.tr W t) fun W' d d' le hd => ?_)
    obtain rfl : d = d' := hd
    cases d
    · exact hx W' e
    · exact hx W' b
  · rename_i e pos
    show Sim S A (f :: fs') FlRel W _ (standAt pos >>= fun _ => raiseStmt f.env (some (eval e f.env >>= fun v => standAt pos >>= fun _ => pure v)) none)
    refine .standAt ?_
    have e1 : ∀ x : Sem Value, raiseStmt f.env (some x) none = (x >>= fun v => raiseStmt f.env (some (pure v)) none) := fun x => rfl
    rw [e1]
    refine .bind (rel := VRel) (.after (h.ev W e) fun b Q E s hq => wpC_bind (wpC_standAt (wpC_pure hq))) fun W' a v le hv => sim_raise O Cx hv
  · rename_i t msg pos
    show Sim S A (f :: fs') FlRel W _ (standAt pos >>= fun _ => isTrue t f.env (eval t f.env) >>= fun b => if b = true then pure .next else assertFails t.pos (evalOpt msg f.env))
    refine .standAt (.bind (h.tr W t) fun W' d d' le hd => ?_)
    obtain rfl : d = d' := hd
    cases d
    · exact .fail
    · exact .pure fun _ _ => .next
  · rename_i ob lo hi p1 p2 pos
    show Sim S A (f :: fs') FlRel W _ (standAt pos >>= fun _ => deleteEach [.Subscript ob (.Slice lo hi none p1) p2] f.env >>= fun _ => pure Flow.next)
    refine .standAt (.unit ?_ fun _ => .next)
    rw [arm_deleteEach_cons, arm_delete_Subscript]
    refine .after (rel := NoRel) ?_ fun b Q E s hq => wpC_pure hq
    refine .bind (h.ev W ob) fun W' oa ov le ho => .bind (.holding (by rw [arm_eval_Slice]; exact sim_cut h.ev)) fun W'' x w le' hw => .standAt ?_
    exact .after (.holding (sim_del (ho.mono le') hw)) fun b Q E s hq => wpC_release hq
  · exact .standAt (sim_try O Cx hx hx0)
  · exact hlp W _ rfl
  · exact .fail
end
end Mine
-- part Iv19
open PySem PySem.W PyProof.Rows PySem.Calls
namespace Mine
/-! The levels -/
structure Lv where
  ev : Expr → X AV
  tr : Expr → X Bool
  ex : Stmt → X FlX
  fn : Addr → List AV → List (Str × AV) → X AV
def apX (T : Tab) (hb : Bool) (fn : Addr → List AV → List (Str × AV) → X AV) (f : AV) (l : List AV) (k : List (Str × AV)) : X AV := match f with
  | .const (.builtin id) => match k with
    | [] => builtinX T hb id l
    | _ => X.fail
  | .const (.type t) => match k with
    | [] => typeX hb t l
    | _ => X.fail
  | .const (.ref a) => match get1 a T.nw with
    | some _ => makeX T fn a l k
    | none => fn a l k
  | _ => X.fail
structure Hook where
  lc : Scope → Bool → (Expr → X AV) → Expr → X AV
  lp : Scope → Bool → (Expr → X AV) → Stmt → X FlX
def opsOf (T : Tab) (H : Hook) (hb : Bool) (sc : Scope) (L : Lv) : Ops := ⟨L.ev, L.tr, H.lc sc hb L.ev, apX T hb L.fn⟩
def stepLv (K : Frag) (T : Tab) (H : Hook) (ih : Bool → Scope → Lv) (hb : Bool) (sc : Scope) : Lv :=
  ⟨evF T sc (opsOf T H hb sc (ih hb sc)), trF (opsOf T H hb sc (ih hb sc)), exF T sc hb (opsOf T H hb sc (ih hb sc)) (exsX (ih hb sc).ex) (exsX (ih false sc).ex) (H.lp sc hb (ih hb sc).ev),
    fun a l k => callFn K T (fun sc' b => exsX (ih hb sc').ex b) a l k⟩
def botLv : Lv := ⟨fun _ => X.fail, fun _ => X.fail, fun _ => X.fail, fun _ _ _ => X.fail⟩
noncomputable def lev (K : Frag) (T : Tab) (H : Hook) (n : Nat) : Bool → Scope → Lv := Nat.rec (fun _ _ => botLv) (fun _ ih hb sc => stepLv K T H ih hb sc) n
structure HookOk (S : Stc) (H : Hook) : Prop where
  lc : ∀ {A : Around} {f : Fm} {fs' : List Fm} {k : Nat} {hb : Bool} {ev : Expr → X AV}, CxOk k hb A (f :: fs') → (∀ W e, Sim S A (f :: fs') VRel W (ev e) (eval e f.env)) → ∀ W e, isLC e = true → Sim S A (f :: fs') VRel W (H.lc f.sc hb ev e) (eval e f.env)
  lp : ∀ {A : Around} {f : Fm} {fs' : List Fm} {k : Nat} {hb : Bool} {ev : Expr → X AV}, CxOk k hb A (f :: fs') → (∀ W e, Sim S A (f :: fs') VRel W (ev e) (eval e f.env)) → ∀ W s, isFor s = true → Sim S A (f :: fs') FlRel W (H.lp f.sc hb ev s) (exec s f.env)
structure LvOk (S : Stc) (n : Nat) (L : Bool → Scope → Lv) : Prop where
  ev : ∀ {A f fs' hb}, CxOk (2 * n) hb A (f :: fs') → ∀ W e, Sim S A (f :: fs') VRel W ((L hb f.sc).ev e) (eval e f.env)
  tr : ∀ {A f fs' hb}, CxOk (2 * n) hb A (f :: fs') → ∀ W e, Sim S A (f :: fs') SBool W ((L hb f.sc).tr e) (isTrue e f.env (eval e f.env))
  ex : ∀ {A f fs' hb}, CxOk (2 * n) hb A (f :: fs') → ∀ W s, Sim S A (f :: fs') FlRel W ((L hb f.sc).ex s) (exec s f.env)
  fn : ∀ {A f fs' hb}, CxOk (2 * n - 1) hb A (f :: fs') → ∀ W a l vs kw kv, VRels W l vs → KRels W kw kv → Sim S A (f :: fs') VRel W ((L hb f.sc).fn a l kw) (call (.ref a) vs kv)
theorem sim_ap {S : Stc} {A : Around} {f : Fm} {fs' : List Fm} (O : S.Ok) {k : Nat} {hb : Bool} (C : CxOk (k + 1) hb A (f :: fs')) {fn : Addr → List AV → List (Str × AV) → X AV}
    (hfn : ∀ (A' : Around), CxOk k hb A' (f :: fs') → ∀ W a l vs kw kv, VRels W l vs → KRels W kw kv → Sim S A' (f :: fs') VRel W (fn a l kw) (call (.ref a) vs kv)) {W : Wd} {fa : AV} {fv : Value} {l : List AV} {vs : List Value} {kw : List (Str × AV)} {kv : List (Str × Value)}
    (hf : VRel W fa fv) (hl : VRels W l vs) (hk : KRels W kw kv) : Sim S A (f :: fs') VRel W (apX S.T hb fn fa l kw) (call fv vs kv) := by
  unfold apX
  split
  · cases hf
    cases hk with
    | nil => exact sim_builtin O C hl
    | cons _ _ => exact .fail
  · cases hf
    cases hk with
    | nil => exact sim_type C hl
    | cons _ _ => exact .fail
  · cases hf
    split
    · exact sim_make O C hl hk hfn
    · exact hfn A (C.le (Nat.le_succ _)) W _ _ _ _ _ hl hk
  · exact .fail
theorem lev_ok {S : Stc} (O : S.Ok) {H : Hook} (HO : HookOk S H) : ∀ n, LvOk S n (lev S.K S.T H n)
  | 0 => ⟨fun _ _ _ => .fail, fun _ _ _ => .fail, fun _ _ _ => .fail, fun _ _ _ _ _ _ _ _ _ => .fail⟩
  | n + 1 => by
    have ih := lev_ok O HO n
    have ops : ∀ {A f fs' hb}, CxOk (2 * (n + 1)) hb A (f :: fs') → OpsOk S A f fs' (opsOf S.T H hb f.sc (lev S.K S.T H n hb f.sc)) := fun {A f fs' hb} C =>
      ⟨ih.ev (C.le (by omega)), ih.tr (C.le (by omega)), HO.lc C (ih.ev (C.le (by omega))), fun W fa fv l vs k kw h1 h2 h3 => sim_ap O (k := 2 * n - 1) (C.le (by omega)) (fun A' C' => ih.fn C') h1 h2 h3⟩
    refine ⟨fun {A f fs' hb} C W e => ?_, fun {A f fs' hb} C W e => ?_, fun {A f fs' hb} C W s => ?_, fun {A f fs' hb} C W a l vs kw kv hl hk => ?_⟩
    · exact sim_ev O C (ops C) e W
    · exact sim_tr C (ops C) e W
    · exact sim_ex O C (ops C) (fun W l => sim_execs (ih.ex (C.le (by omega))) l W) (fun A' W l C' => sim_execs (ih.ex (C'.le (by omega))) l W) (HO.lp C (ih.ev (C.le (by omega)))) s W
    · exact sim_callFn O (k := 2 * n) (body := fun sc' b => exsX (lev S.K S.T H n hb sc').ex b) (C.le (by omega)) (List.cons_ne_nil _ _) hl hk fun g A' C' W b => sim_execs (ih.ex C') b W
end Mine
-- part HdM01
section
set_option maxHeartbeats 8000000
namespace MineHead
open _root_.PySem _root_.PySem.W PyProof.Rows _root_.PySem.Calls
open_top hd01 for PySem.Challenge.rw_ag6003_01
end MineHead
end
-- part T01
open PySem PySem.W PyProof.Rows PySem.Calls
namespace Mine
theorem fa {α : Type} {P : α → Prop} {a : α} {l : List α} (h : P a) (t : ∀ p ∈ l, P p) : ∀ p ∈ a :: l, P p := fun p hp => by
  rcases List.mem_cons.mp hp with e | e
  · rw [e]; exact h
  · exact t p e
theorem fz {α : Type} {P : α → Prop} : ∀ p ∈ ([] : List α), P p := fun _ h => (nomatch h)
noncomputable abbrev K01 (P : Params) : Frag := MineHead.hd01.heap_39 P
def tab01 : Tab where
  gl := [("bytes", .const (.type "bytes")), ("bytearray", .const (.type "bytearray")), ("bool", .const (.type "bool")), ("range", .const (.type "range")), ("len", .const (.builtin "len")), ("isinstance", .const (.builtin "isinstance")), ("min", .const (.builtin "min")), ("callable", .const (.builtin "callable")), ("OutOfData", .const (.ref 91)), ("BufferFull", .const (.ref 79)), ("Unpacker", .const (.ref 445)), ("_get_data_from_buffer", .const (.ref 274)), ("_law_try", .const (.ref 456)), ("_law_fed", .const (.ref 463)), ("_law_deed", .const (.ref 468))]
  rd := [(445, "_feeding"), (445, "_buffer"), (445, "_buff_i"), (445, "_buf_checkpoint"), (445, "_max_buffer_size"), (445, "_stream_offset")]
  wr := [(445, "_feeding"), (445, "_buffer"), (445, "_buff_i"), (445, "_buf_checkpoint"), (445, "_max_buffer_size"), (445, "_read_size"), (445, "_raw"), (445, "_strict_map_key"), (445, "_unicode_errors"), (445, "_use_list"), (445, "_timestamp"), (445, "_list_hook"), (445, "_object_hook"), (445, "_object_pairs_hook"), (445, "_ext_hook"), (445, "_max_str_len"), (445, "_max_bin_len"), (445, "_max_array_len"), (445, "_max_map_len"), (445, "_max_ext_len"), (445, "_stream_offset")]
  me := [(445, "feed", 334), (445, "_consume", 341), (445, "_got_extradata", 348), (445, "_get_extradata", 355), (445, "read_bytes", 362), (445, "_read", 370), (445, "_reserve", 378), (445, "tell", 442)]
  kp := [334, 341, 348, 355, 362, 370, 378, 442, 274, 456, 463, 468, 445]
  cl := [160]
  fn := [327, 334, 341, 348, 355, 362, 370, 378, 442, 274, 456, 463, 468, 475]
  nw := [(445, 327)]
  ex := [79, 91]
theorem tab01_ok (P : Params) : tab01.Ok (K01 P) where
  gl := fa (by kernel_rfl) (fa (by kernel_rfl) (fa (by kernel_rfl) (fa (by kernel_rfl) (fa (by kernel_rfl) (fa (by kernel_rfl) (fa (by kernel_rfl) (fa (by kernel_rfl) (fa (by kernel_rfl) (fa (by kernel_rfl) (fa (by kernel_rfl) (fa (by kernel_rfl) (fa (by kernel_rfl) (fa (by kernel_rfl) (fa (by kernel_rfl) (fz)))))))))))))))
  rd := fa (by kernel_rfl) (fa (by kernel_rfl) (fa (by kernel_rfl) (fa (by kernel_rfl) (fa (by kernel_rfl) (fa (by kernel_rfl) (fz))))))
  wr := fa (by kernel_rfl) (fa (by kernel_rfl) (fa (by kernel_rfl) (fa (by kernel_rfl) (fa (by kernel_rfl) (fa (by kernel_rfl) (fa (by kernel_rfl) (fa (by kernel_rfl) (fa (by kernel_rfl) (fa (by kernel_rfl) (fa (by kernel_rfl) (fa (by kernel_rfl) (fa (by kernel_rfl) (fa (by kernel_rfl) (fa (by kernel_rfl) (fa (by kernel_rfl) (fa (by kernel_rfl) (fa (by kernel_rfl) (fa (by kernel_rfl) (fa (by kernel_rfl) (fa (by kernel_rfl) (fz)))))))))))))))))))))
  me := fa (by kernel_rfl) (fa (by kernel_rfl) (fa (by kernel_rfl) (fa (by kernel_rfl) (fa (by kernel_rfl) (fa (by kernel_rfl) (fa (by kernel_rfl) (fa (by kernel_rfl) (fz))))))))
  kp := fa (by kernel_rfl) (fa (by kernel_rfl) (fa (by kernel_rfl) (fa (by kernel_rfl) (fa (by kernel_rfl) (fa (by kernel_rfl) (fa (by kernel_rfl) (fa (by kernel_rfl) (fa (by kernel_rfl) (fa (by kernel_rfl) (fa (by kernel_rfl) (fa (by kernel_rfl) (fa (by kernel_rfl) (fz)))))))))))))
  cl := fa (by kernel_rfl) (fz)
  fn := fa (by kernel_rfl) (fa (by kernel_rfl) (fa (by kernel_rfl) (fa (by kernel_rfl) (fa (by kernel_rfl) (fa (by kernel_rfl) (fa (by kernel_rfl) (fa (by kernel_rfl) (fa (by kernel_rfl) (fa (by kernel_rfl) (fa (by kernel_rfl) (fa (by kernel_rfl) (fa (by kernel_rfl) (fa (by kernel_rfl) (fz))))))))))))))
  nw := fa (by kernel_rfl) (fz)
  ex := fa (by kernel_rfl) (fa (by kernel_rfl) (fz))
end Mine
-- part Lp1
open PySem PySem.W PyProof.Rows PySem.Calls
namespace Mine
/-! Loops over what walks -/
section
variable {M : Model} {A : Around} {s : Shared}
theorem codeC_loop {c : Code} {R : Result → Shared → Prop} (hn : holds c = false) (hq : c.quiet = true) (I : Nat → Shared → Prop)
    (turn : ∀ n s, I n s → wpC M (A.under c) (M.den c)
      (fun fin s' => match fin with
        | .done f => R (.ok f) s'
        | .again c' => (c' = c ∧ ∃ m, m < n ∧ I m s') ∨ (c'.quiet = true ∧ codeC M A c' R s')) (fun e s' => R (.error e) s') s)
    (n : Nat) (h : I n s) : codeC M A c R s := by
  induction n using Nat.strongRecOn generalizing s with
  | ind n ih =>
    refine codeC_of_tree hn (wpC_mono (turn n s h) (fun fin s' hf => ?_) fun _ _ h' => h')
    cases fin with
    | done f => exact hf
    | again c' =>
      rcases hf with ⟨rfl, m, hm, hI⟩ | hf
      · exact ⟨hq, ih m hm hI⟩
      · exact hf
end
section
variable {prog : Program} {w : World} {A : Around} {s : Shared} {env : Env}
theorem codeC_forLoop {R : Result → Shared → Prop} {target it body} (I : Nat → Shared → Prop)
    (turn : ∀ n s, I n s → wpC (model prog w) A (pyNext it) (fun r s₁ => match r with
      | none => R (.ok .next) s₁
      | some v => wpC (model prog w) A (assign target env v) (fun _ s₂ => wpC (model prog w) A (execs body env) (fun f s₃ => f = .next ∧ ∃ m, m < n ∧ I m s₃) (fun _ _ => False) s₂) (fun _ _ => False) s₁) (fun _ _ => False) s)
    (n : Nat) (h : I n s) (ht : ∀ v, letOwnedTupleGo target it v = pure () := by intro _; rfl) : codeC (model prog w) A (.forLoop target it body [] env) R s := by
  refine codeC_loop rfl rfl I (fun n s hI => ?_) n h
  show wpC _ _ ((forTurn target it body [] env).onRaise (fun x => do noteFrame x env; theTreesLotGoes x)) _ _ s
  refine wpC_onRaise ?_
  simp only [forTurn]
  refine wpC_bind (wpC_standAt (wpC_bind (wpC_onRaise (wpC_mono (turn n s hI) (fun r s₁ h₁ => ?_) fun _ _ h' => h'.elim))))
  cases r with
  | none => exact wpC_pure (.inr ⟨rfl, codeC_ofAny (codeAny_block (wpAny_execs_nil h₁))⟩)
  | some v =>
    dsimp only
    rw [ht v]
    refine wpC_bind (wpC_pure ?_)
    refine wpC_bind (wpC_mono h₁ (fun _ s₂ h₂ => wpC_bind (wpC_mono h₂ (fun f s₃ h₃ => ?_) fun _ _ h' => h'.elim)) fun _ _ h' => h'.elim)
    obtain ⟨rfl, h₃⟩ := h₃
    exact wpC_pure (.inl ⟨rfl, h₃⟩)
end
/-! Some ids are forgotten -/
mutual
inductive Low (κ : Nat → Bool) : AV → Prop
  | none : Low κ .none
  | lit {b} : Low κ (.lit b)
  | bool {b} : Low κ (.bool b)
  | int {i} : Low κ (.int i)
  | str {s} : Low κ (.str s)
  | bytes {b} : Low κ (.bytes b)
  | const {v} : Low κ (.const v)
  | ref {id} : κ id = true → Low κ (.ref id)
  | tup {l} : Lows κ l → Low κ (.tup l)
  | lst {l} : Lows κ l → Low κ (.lst l)
inductive Lows (κ : Nat → Bool) : List AV → Prop
  | nil : Lows κ []
  | cons {a l} : Low κ a → Lows κ l → Lows κ (a :: l)
end
def Wd.cut (W : Wd) (κ : Nat → Bool) : Wd := ⟨fun i => match κ i with | true => W.φ i | false => none, W.fz⟩
theorem Wd.cut_some {W : Wd} {κ : Nat → Bool} {i : Nat} {a : Addr} : (W.cut κ).φ i = some a ↔ κ i = true ∧ W.φ i = some a := by
  unfold Wd.cut
  dsimp only
  cases h : κ i <;> simp
mutual
theorem VRel.low {W : Wd} {κ : Nat → Bool} : ∀ {a v}, Low κ a → VRel W a v → VRel (W.cut κ) a v
  | _, _, _, .none => .none
  | _, _, _, .lit => .lit
  | _, _, _, .bool => .bool
  | _, _, _, .int => .int
  | _, _, _, .str => .str
  | _, _, _, .bytes => .bytes
  | _, _, _, .const e => .const e
  | _, _, .ref k, .ref e => .ref (Wd.cut_some.mpr ⟨k, e⟩)
  | _, _, .tup k, .tup e r => .tup e (VRels.low k r)
  | _, _, .lst k, .lst e r => .lst e (VRels.low k r)
theorem VRels.low {W : Wd} {κ : Nat → Bool} : ∀ {l vs}, Lows κ l → VRels W l vs → VRels (W.cut κ) l vs
  | _, _, _, .nil => .nil
  | _, _, .cons x y, .cons a r => .cons (VRel.low x a) (VRels.low y r)
end
inductive LowO (κ : Nat → Bool) : AObj → Prop
  | list {l} : Lows κ l → LowO κ (.list l)
  | barr {b} : LowO κ (.barr b)
  | inst {C d} : κ d = true → LowO κ (.inst C d)
  | attrs {m} : (∀ p ∈ m, Low κ p.2) → LowO κ (.attrs m)
  | own {p} : LowO κ (.own p)
theorem ARel.low {S : Stc} {W : Wd} {κ : Nat → Bool} : ∀ {m es}, (∀ p ∈ m, Low κ p.2) → ARel S W m es → ARel S (W.cut κ) m es
  | _, _, _, .nil => .nil
  | _, _, h, .cons v r => .cons (v.low (h _ (.head _))) (r.low fun p hp => h p (.tail _ hp))
theorem ORel.low {S : Stc} {W : Wd} {κ : Nat → Bool} {ao o} (h : LowO κ ao) (r : ORel S W ao o) : ORel S (W.cut κ) ao o := by
  cases r with
  | list r => cases h with | list h => exact .list (r.low h)
  | barr => exact .barr
  | inst e => cases h with | inst h => exact .inst (Wd.cut_some.mpr ⟨h, e⟩)
  | attrs r => cases h with | attrs h => exact .attrs (r.low h)
  | own h1 h2 => exact .own h1 h2
section
variable {S : Stc} {W : Wd} {fs : List FrA} {st : ASt} {s : Shared}
inductive LowF (κ : Nat → Bool) : List Loc → List Loc → Prop
  | nil : LowF κ [] []
  | cons {l0 l r0 r} : (∀ x a, getK x l0 = some a → getK x l = some a ∧ Low κ a) → LowF κ r0 r → LowF κ (l0 :: r0) (l :: r)
theorem LowF.rel {κ : Nat → Bool} {h : Heap} : ∀ {Ls : List FrA} {locs0 locs}, LowF κ locs0 locs → FRel W h Ls locs → FRel (W.cut κ) h Ls locs0
  | _, _, _, .nil, .nil => .nil
  | _, _, _, .cons q r0, .cons ⟨m, n, l⟩ r => .cons ⟨m, n, fun x a e => by
      obtain ⟨e1, e2⟩ := q x a e
      obtain ⟨v, p1, p2⟩ := l x a e1
      exact ⟨v, p1.low e2, p2⟩⟩ (r0.rel r)
theorem Rep.forget (R : Rep S W fs st s) {κ : Nat → Bool} {st0 : ASt} (hhp : ∀ i ao, getH st0.hp i = some ao → κ i = true ∧ getH st.hp i = some ao ∧ LowO κ ao)
    (hfr : LowF κ st0.fr st.fr) (hnext : ∀ i, st0.next ≤ i → κ i = false ∨ st.next ≤ i) : Rep S (W.cut κ) fs st0 s where
  old := R.old
  keep := R.keep
  inj := fun i j a e1 e2 => R.inj i j a (Wd.cut_some.mp e1).2 (Wd.cut_some.mp e2).2
  sepφ := fun i a e => R.sepφ i a (Wd.cut_some.mp e).2
  sepf := R.sepf
  nd := R.nd
  fresh := fun i hi => by
    cases h : (W.cut κ).φ i with
    | none => rfl
    | some a =>
      obtain ⟨k, e⟩ := Wd.cut_some.mp h
      rcases hnext i hi with q | q
      · rw [q] at k; cases k
      · rw [R.fresh i q] at e; cases e
  hp := fun i ao e => by
    obtain ⟨k, e1, lo⟩ := hhp i ao e
    obtain ⟨a, o, p, q, r⟩ := R.hp i ao e1
    exact ⟨a, o, Wd.cut_some.mpr ⟨k, p⟩, q, r.low lo⟩
  fr := hfr.rel R.fr
  gens := R.gens
  os := R.os
theorem Wd.le_cut {W W' : Wd} {κ : Nat → Bool} (h : W.le W') (hk : ∀ i a, W.φ i = some a → κ i = true) : W.le (W'.cut κ) :=
  ⟨fun i a e => Wd.cut_some.mpr ⟨hk i a e, h.1 i a e⟩, h.2⟩
theorem Rep.change (R : Rep S W fs st s) {i : Nat} {a : Addr} {ao' : AObj} {o' : Obj} {h' : Heap} {tk : Nat} (ha : W.φ i = some a) (ho : h'.get? a = some o') (r : ORel S W ao' o')
    (hk : ∀ b o, b ≠ a → s.heap.get? b = some o → h'.get? b = some o) : Rep S W fs { st with hp := putH i ao' st.hp } { s with heap := h', toks := tk } := by
  have sep := R.sepφ i a ha
  refine ⟨R.old, fun b x e => hk b x (fun z => by rw [z, sep.1] at e; cases e) (R.keep b x e), R.inj, fun j b e => ?_, R.sepf, R.nd, R.fresh, fun j x e => ?_, R.fr.mono (.refl _) fun L hL m n => ?_, R.gens, R.os⟩
  · have z := R.sepφ j b e
    obtain ⟨x, hx⟩ := z.2.2.2
    by_cases q : b = a
    · subst q; exact ⟨z.1, z.2.1, z.2.2.1, o', ho⟩
    · exact ⟨z.1, z.2.1, z.2.2.1, x, hk b x q hx⟩
  · replace e : getH (putH i ao' st.hp) j = some x := e
    show ∃ b x', W.φ j = some b ∧ h'.get? b = some x' ∧ ORel S W x x'
    rw [getH_put] at e
    split at e
    · rename_i q; subst q; cases e
      exact ⟨a, o', ha, ho, r⟩
    · rename_i q
      obtain ⟨b, y, p1, p2, p3⟩ := R.hp j x e
      exact ⟨b, y, p1, hk b y (fun z => q (R.inj j i a (z ▸ p1) ha)) p2, p3⟩
  · have : L ≠ a := fun z => sep.2.1 (z ▸ hL)
    obtain ⟨x, es, ep, q, z⟩ := n
    exact ⟨x, es, ep, hk L x this q, z⟩
end
end Mine
-- part Lp2
open PySem PySem.W PyProof.Rows PySem.Calls
namespace Mine
section
variable {S : Stc} {A : Around} {f : Fm} {fs' : List Fm}
theorem walk_loop {I : Addr} {fp : List Addr} {n : Nat} {P : Nat → Value → Prop} {St : Nat → Heap → Prop} (Wk : Walks S.prog S.w A I fp [I] n P St) {id : Nat} {own : Nat → Obj → Prop} {W0 : Wd}
    (h1 : ∀ i h, (∃ o, h.get? I = some o ∧ own i o) → (∀ b o, W0.fz.get? b = some o → h.get? b = some o) → St i h) (h2 : ∀ i h, St i h → ∃ o, h.get? I = some o ∧ own i o)
    (hid : W0.φ id = some I) (J : Nat → ASt → Prop) (hJ : ∀ i st, J i st → getH st.hp id = some (.own (own i))) {target : Expr} {body : List Stmt} {R : Result → Shared → Prop}
    (ht : ∀ v, letOwnedTupleGo target (.ref I) v = pure ())
    (turn : ∀ i st1 W1 s1 v, i < n → W0.le W1 → J i st1 → P i v → Rep S W1 (Las (f :: fs')) { st1 with hp := putH id (.own (own (i + 1))) st1.hp } s1 →
      wpC (model S.prog S.w) A (assign target f.env v) (fun _ s2 => wpC (model S.prog S.w) A (execs body f.env)
        (fun fl s3 => fl = .next ∧ ∃ W2 st2, W0.le W2 ∧ Rep S W2 (Las (f :: fs')) st2 s3 ∧ J (i + 1) st2) (fun _ _ => False) s2) (fun _ _ => False) s1)
    (fin : ∀ W1 st1 s1 h' tk, W0.le W1 → Rep S W1 (Las (f :: fs')) st1 s1 → J n st1 → (∀ b o, b ≠ I → s1.heap.get? b = some o → h'.get? b = some o) → R (.ok .next) { s1 with heap := h', toks := tk })
    {st : ASt} {s : Shared} (R0 : Rep S W0 (Las (f :: fs')) st s) (hJ0 : J 0 st) : codeC (model S.prog S.w) A (.forLoop target (.ref I) body [] f.env) R s := by
  refine codeC_forLoop (fun k s' => ∃ i W1 st1, W0.le W1 ∧ Rep S W1 (Las (f :: fs')) st1 s' ∧ J i st1 ∧ i ≤ n ∧ k = n + 1 - i) ?_ (n + 1) ⟨0, W0, st, .refl _, R0, hJ0, Nat.zero_le _, rfl⟩ ht
  rintro k s' ⟨i, W1, st1, le, R1, J1, hi, rfl⟩
  have hst : St i s'.heap := by
    obtain ⟨a, o, p, q, r⟩ := R1.hp id _ (hJ i st1 J1)
    obtain rfl : I = a := Option.some.inj ((le.1 _ _ hid).symm.trans p)
    cases r with | own r1 r2 => exact h1 i _ ⟨o, q, r2⟩ fun b o e => R1.keep b o (le.2 _ _ e)
  by_cases hlt : i < n
  · refine ofAny (Wk.item i _ _ _ hlt hst fun v h' tk hP hst' hk => ?_)
    obtain ⟨o', ho, hown⟩ := h2 _ _ hst'
    have R2 := R1.change (tk := tk) (ao' := .own (own (i + 1))) (le.1 _ _ hid) ho (.own (Heap.get?_some_iff.mp ho).2 hown) fun b o hb e => hk b o (by simpa using hb) e
    refine wpC_mono (turn i st1 W1 _ v hlt le J1 hP R2) (fun _ s2 h2 => wpC_mono h2 (fun fl s3 h3 => ?_) fun _ _ x => x) fun _ _ x => x
    obtain ⟨rfl, W2, st2, le2, R3, J3⟩ := h3
    exact ⟨rfl, n + 1 - (i + 1), by omega, i + 1, W2, st2, le2, R3, J3, hlt, rfl⟩
  · obtain rfl : i = n := by omega
    exact ofAny (Wk.done _ _ _ hst fun h' tk hk => fin W1 st1 s' h' tk le R1 J1 fun b o hb e => hk b o (by simpa using hb) e)
theorem wpC_For {env : Env} {target iter body pos} {Q : Flow → Shared → Prop} {E : Value → Shared → Prop} {s : Shared}
    (h : wpC (model S.prog S.w) A (eval iter env) (fun x s₁ => wpC (model S.prog S.w) A (pyIter x) (fun it s₂ =>
      codeC (model S.prog S.w) A (.forLoop target it body [] env) (fun r s' => match r with | .ok f => Q f s' | .error e => cameBackC (model S.prog S.w) A env E e s') s₂) E s₁) E s)
    (hs : ∀ x, foldedSetIterable iter env x = pure x) :
    wpC (model S.prog S.w) A (exec (.For target iter body [] pos) env) Q E s := by
  rw [exec_For]
  exact wpC_bind (wpC_standAt (wpC_bind (wpC_mono h (fun x s₁ h₁ => wpC_bind (by rw [hs x]; exact wpC_pure (wpC_bind (wpC_standAt (wpC_bind (wpC_holding
    (wpC_mono h₁ (fun it s₂ h₂ => wpC_runOwn h₂) fun _ _ h' => h')))))) ) fun _ _ h' => h')))
/-- an iterator made: told of under a new id -/
theorem Rep.fresh_own {W : Wd} {fs : List FrA} {st : ASt} {s : Shared} (R : Rep S W fs st s) (hsz : S.hb.objs.size ≤ s.heap.objs.size) {own : Obj → Prop} {o : Obj} {t : Nat} (hf : o.isFreed = false) (ho : own o) :
    W.le (W.at st.next s.heap.objs.size) ∧ (W.at st.next s.heap.objs.size).φ st.next = some s.heap.objs.size ∧
    Rep S (W.at st.next s.heap.objs.size) fs { st with hp := (st.next, .own own) :: st.hp, next := st.next + 1 } { s with heap := s.heap.push o, toks := t } :=
  let x := R.alloc hsz (ao := .own own) (o := o) (t := t) (.own hf ho); ⟨x.1, by simp [Wd.at], x.2⟩
/-- a list that stays as it is, walked -/
def ownList (ax : Addr) (i : Nat) : Obj → Prop := fun o => o.cls = .type "list_iterator" ∧ o.data = .fields #[.ref ax, .int i 0]
def ownRange (a left c : Int) : Obj → Prop := fun o => o = { cls := .type "range_iterator", dict := none, data := .fields #[rawInt a, rawInt left, rawInt c], slots := #[] }
theorem for_list (hh : A.handled = none) {l : List AV} {W : Wd} {vs : List Value} {ax : Addr} {nn : Nat} (hax : W.fz.get? ax = some ⟨.type "list", none, .seq vs.toArray nn, #[]⟩) (hl : VRels W l vs)
    {st : ASt} {s : Shared} (R : Rep S W (Las (f :: fs')) st s) (J : Nat → ASt → Prop) (own : Nat → Obj → Prop) (hown : own = ownList ax) (hJ : ∀ i st1, J i st1 → getH st1.hp st.next = some (.own (own i)))
    (h0 : J 0 { st with hp := (st.next, .own (own 0)) :: st.hp, next := st.next + 1 }) {x : Str} {px : Pos} {body : List Stmt} {Q : Result → Shared → Prop} {E : Value → Shared → Prop}
    (turn : ∀ i st1 W1 s1 a v, l[i]? = some a → W.le W1 → J i st1 → VRel W1 a v → Rep S W1 (Las (f :: fs')) { st1 with hp := putH st.next (.own (own (i + 1))) st1.hp } s1 →
      wpC (model S.prog S.w) A (assign (.Name x px) f.env v) (fun _ s2 => wpC (model S.prog S.w) A (execs body f.env)
        (fun fl s3 => fl = .next ∧ ∃ W2 st2, W.le W2 ∧ W2.φ st.next = W1.φ st.next ∧ Rep S W2 (Las (f :: fs')) st2 s3 ∧ J (i + 1) st2) (fun _ _ => False) s2) (fun _ _ => False) s1)
    (fin : ∀ W1 st1 s1 I h' tk, W.le W1 → W1.φ st.next = some I → Rep S W1 (Las (f :: fs')) st1 s1 → J l.length st1 → (∀ b o, b ≠ I → s1.heap.get? b = some o → h'.get? b = some o) → Q (.ok .next) { s1 with heap := h', toks := tk }) :
    wpC (model S.prog S.w) A (pyIter (.ref ax)) (fun it s₂ => codeC (model S.prog S.w) A (.forLoop (.Name x px) it body [] f.env) Q s₂) E s := by
  subst hown
  have hil : s.heap.IsList ax vs.toArray := ⟨_, R.keep _ _ hax, rfl, nn, rfl⟩
  refine ofAny (wpAny_pyIter_list hil ?_)
  have hsz : S.hb.objs.size ≤ s.heap.objs.size := by
    rcases R.size with h | h
    · exact h
    · cases h
  obtain ⟨le, hid, R1⟩ := R.fresh_own hsz (own := ownList ax 0) (o := { cls := .type "list_iterator", data := .fields #[.ref ax, .int 0 0] }) (t := s.toks) rfl ⟨rfl, rfl⟩
  have hne : ax ≠ s.heap.objs.size := fun z => Nat.ne_of_lt (Heap.lt_size (R.keep _ _ hax)) z
  refine walk_loop (Walks.list hh s.heap.objs.size ax hne vs.toArray) (own := ownList ax) (fun i h ⟨o, ho, hc, hd⟩ hk => ⟨⟨o, ho, hc, hd⟩, ⟨_, hk _ _ (le.2 _ _ hax), rfl, nn, rfl⟩⟩) (fun i h ⟨⟨o, ho, hc, hd⟩, _⟩ => ⟨o, ho, hc, hd⟩) hid
    J hJ (fun _ => rfl) (fun i st1 W1 s1 v hi le1 j hP R2 => ?_) (fun W1 st1 s1 h' tk le1 R2 j hk => ?_) R1 h0
  · have hlen := hl.length
    obtain ⟨a, ha⟩ : ∃ a, l[i]? = some a := ⟨l[i]'(by simp at hi; omega), by simp⟩
    obtain ⟨v', e, q⟩ := hl.get ha
    obtain rfl : v' = v := Option.some.inj (e.symm.trans (by simpa using hP))
    refine wpC_mono (turn i st1 W1 s1 a v' ha (le.trans le1) j (q.mono (le.trans le1)) R2) (fun _ s2 h2 => wpC_mono h2 (fun fl s3 h3 => ?_) fun _ _ x => x) fun _ _ x => x
    obtain ⟨rfl, W2, st2, le2, e2, R3, j3⟩ := h3
    refine ⟨rfl, W2, st2, ⟨fun k b hb => ?_, le2.2⟩, R3, j3⟩
    by_cases hk : k = st.next
    · subst hk; rw [e2]; exact le1.1 _ _ hb
    · exact le2.1 _ _ (by simpa [Wd.at, hk] using hb)
  · have : (vs.toArray).size = l.length := by simp [hl.length]
    exact fin W1 st1 s1 _ h' tk (le.trans le1) (le1.1 _ _ hid) R2 (this ▸ j) hk
end
end Mine
-- part Lp3
open PySem PySem.W PyProof.Rows PySem.Calls
namespace Mine
/-! Numbers of a comprehension's element -/
def ievX (ρ : Str → Option Int) : Expr → Option (Int × Prop)
  | .Constant (.int i) _ _ => some (i, True)
  | .Name x _ => match x == ("__debug__" : Str), ρ x with
    | false, some i => some (i, True)
    | _, _ => none
  | .BinOp l op r _ => match ievX ρ l, ievX ρ r with
    | some (a, c), some (b, d) => match op with
      | .Add => some (a + b, c ∧ d)
      | .Mult => some (a * b, c ∧ d ∧ IntMulOk a b)
      | .Mod => some (a.fmod b, c ∧ d ∧ b ≠ 0)
      | _ => none
    | _, _ => none
  | _ => none
section
variable {prog : Program} {w : World} {A : Around} {env : Env}
theorem iev_ok {ρ : Str → Option Int} {h : Shared} (hρ : ∀ x i, ρ x = some i → (x == ("__debug__" : Str)) = false → ∀ pos k (Q : Value → Shared → Prop) E, (∀ t, Q (.int i t) { h with toks := k }) → wpAny (model prog w) A (eval (.Name x pos) env) Q E { h with toks := k }) :
    ∀ (e : Expr) {v : Int} {c : Prop}, ievX ρ e = some (v, c) → c → ∀ k (Q : Value → Shared → Prop) E, (∀ t k', Q (.int v t) { h with toks := k' }) → wpAny (model prog w) A (eval e env) Q E { h with toks := k }
  | .Constant (.int i) u pos, v, c, e, hc, k, Q, E, q => by
    cases e
    exact fun _ _ _ => q _ _
  | .Name x pos, v, c, e, hc, k, Q, E, q => by
    unfold ievX at e
    split at e
    · rename_i h1 h2
      cases e
      exact hρ x _ h2 h1 pos k Q E fun t => q t _
    · cases e
  | .BinOp l op r pos, v, c, e, hc, k, Q, E, q => by
    unfold ievX at e
    split at e
    · rename_i a c1 b c2 e1 e2
      refine wpAny_BinOp (iev_ok hρ l e1 (by cases op <;> first | (cases e; exact hc.1) | cases e) k _ E fun t k1 => iev_ok hρ r e2 (by cases op <;> first | (cases e; first | exact hc.2.1 | exact hc.2) | cases e) k1 _ E fun u k2 => ?_)
      cases op <;> try cases e
      · exact PySem.P.add_int (q _ _)
      · exact PySem.P.mul_int (q _ _) hc.2.2
      · exact mod_int' hc.2.2 (q _ _)
    · cases e
end
/-! A range -/
def RngRel : Wd → Int → Value → Prop := fun W n v => ∃ r t u k, v = .ref r ∧ W.fz.get? r = some { cls := .type "range", dict := none, data := .fields #[.int 0 t, .int n u, .int 1 k], slots := #[] }
def rngAp (l : List AV) (k : List (Str × AV)) : X Int := fun p st => match l, k with
  | [.int n], [] => some (.ok n, p, True, st)
  | _, _ => none
def rngX (T : Tab) (ev : Expr → X AV) (r : Str) (rp : Pos) (es : List Expr) : X Int := do
  let fv ← ev (.Name r rp)
  match fv with
  | .const (.type t) => match t == "range" with
    | true => do let x ← argsX ev es []; rngAp x.1 x.2
    | false => X.fail
  | _ => X.fail
section
variable {S : Stc} {A : Around} {f : Fm} {fs' : List Fm} {W : Wd}
theorem sim_rng (O : S.Ok) {ev : Expr → X AV} (h : ∀ W e, Sim S A (f :: fs') VRel W (ev e) (eval e f.env)) {r : Str} {rp pos : Pos} {es : List Expr} :
    Sim S A (f :: fs') RngRel W (rngX S.T ev r rp es) (eval (.Call (.Name r rp) es [] pos) f.env) := by
  have e1 : eval (.Call (.Name r rp) es [] pos) f.env = (eval (.Name r rp) f.env >>= fun fv => callWith pos fv [] (backTo pos (starEach es f.env)) (backToKw pos (keywordEach [] f.env))) := rfl
  rw [e1]
  unfold rngX
  refine .bind (h W _) fun W' a v le hv => ?_
  split
  · rename_i t0
    cases hv
    split
    · rename_i ht
      rw [eq_of_beq ht]
      refine sim_callWith O h rfl (ap := rngAp) fun W'' l k vs kw le' hl hk => ?_
      intro p st r p' c st' e hc s R Q E P
      unfold rngAp at e
      split at e
      · cases e
        cases hk
        cases hl with | cons a b => ?_
        cases b
        cases a
        rename_i n t
        refine ofAny (call_range_1 ?_)
        obtain ⟨W₃, le₃, -, hz, R'⟩ := R.fzNew (o := { cls := .type "range", data := .fields #[.int 0 s.toks, .int n t, .int 1 (s.toks + 1)] }) (t := s.toks + 1 + 1) rfl
        exact P W₃ _ le₃ R' _ ⟨_, _, _, _, rfl, hz⟩
      · cases e
    · exact .fail
  · exact .fail
end
end Mine
-- part Lp4
open PySem PySem.W PyProof.Rows PySem.Calls
namespace Mine
/-! A list made out of a range -/
def lcParts : Expr → Option (Expr × Str × Str × Pos × List Expr × Str)
  | .ListComp elt [⟨.Name x px, .Call (.Name r rp) es [] cp, [], 0⟩] ⟨.function, [(d, .local), (x', .local), (y, .free)], g, co, more⟩ pos => match x' == x && !(y == x) && !(d == x) && !(d == y) with
    | true => some (elt, x, r, rp, es, y)
    | false => none
  | _ => none
theorem lcParts_eq {e elt : Expr} {x r y : Str} {rp : Pos} {es : List Expr} (h : lcParts e = some (elt, x, r, rp, es, y)) :
    ∃ px cp d g co more pos, e = .ListComp elt [⟨.Name x px, .Call (.Name r rp) es [] cp, [], 0⟩] ⟨.function, [(d, .local), (x, .local), (y, .free)], g, co, more⟩ pos ∧ y ≠ x ∧ d ≠ x ∧ d ≠ y := by
  unfold lcParts at h
  split at h
  · split at h
    · rename_i q
      cases h
      simp only [Bool.and_eq_true, beq_iff_eq, Bool.not_eq_true', beq_eq_false_iff_ne, ne_eq] at q
      obtain ⟨⟨⟨rfl, q1⟩, q2⟩, q3⟩ := q
      exact ⟨_, _, _, _, _, _, _, rfl, q1, q2, q3⟩
    · cases h
  · cases h
def eltX (elt : Expr) (x y : Str) (i j : Int) : Option (Int × Prop) := ievX (fun z => match z == x with
  | true => some i
  | false => match z == y with
    | true => some j
    | false => none) elt
def eltV (elt : Expr) (x y : Str) (i j : Int) : Int := match eltX elt x y i j with
  | some (v, _) => v
  | none => 0
def eltC (elt : Expr) (x y : Str) (i j : Int) : Prop := match eltX elt x y i j with
  | some (_, c) => c
  | none => False
def lcTail (elt : Expr) (x y : Str) (n : Int) : X AV := fun p st => match st.fr with
  | loc :: _ => match getK y loc with
    | some (.int j) => some (.ok (.lst ((List.range n.toNat).map fun k : Nat => AV.int (eltV elt x y (k : Int) j))), p, (0 ≤ n ∧ n ≤ 16777216) ∧ ∀ k : Nat, k < n.toNat → eltC elt x y k j, st)
    | _ => none
  | [] => none
def lcX (T : Tab) (sc : Scope) (hb : Bool) (ev : Expr → X AV) (e : Expr) : X AV := match lcParts e, hb with
  | some (elt, x, r, rp, es, y), true => match sc.names.lookup y with
    | some .cell => do
      let n ← rngX T ev r rp es
      lcTail elt x y n
    | _ => X.fail
  | _, _ => X.fail
theorem comp_first {e : Expr} {scope : Scope} {env : Env} {pos : Pos} {acc first : Sem Value} : comprehension e scope env pos acc false first none = first >>= fun x => comprehension e scope env pos acc false (pure x) none := rfl
theorem closure_one {d x y : Str} {g co : Bool} {more} {env : Env} {c : Addr} (h : env.cells.lookup y = some c) : closureFor ⟨.function, [(d, .local), (x, .local), (y, .free)], g, co, more⟩ env = pure [(y, c)] := by
  unfold closureFor cellOf
  simp [h]
theorem lk_x {d x y : Str} (h : d ≠ x) : ([(d, NameKind.local), (x, NameKind.local), (y, NameKind.free)] : List (Str × NameKind)).lookup x = some .local := by
  have : (x == d) = false := beq_eq_false_iff_ne.mpr (Ne.symm h)
  simp [List.lookup_cons, this]
theorem relabel_y {d x y : Str} {g co : Bool} {more} {env : Env} (hk : env.scope.kind = .function) (hy : env.kindOf y = some .cell) :
    (relabel ⟨.function, [(d, .local), (x, .local), (y, .free)], g, co, more⟩ env).names = [(d, .local), (x, .local), (y, .cell)] := by
  simp [relabel, hk, hy]
theorem lk_y {d x y : Str} (h1 : y ≠ x) (h2 : d ≠ y) : ([(d, NameKind.local), (x, NameKind.local), (y, NameKind.cell)] : List (Str × NameKind)).lookup y = some .cell := by
  have e1 : (y == d) = false := beq_eq_false_iff_ne.mpr (Ne.symm h2)
  have e2 : (y == x) = false := beq_eq_false_iff_ne.mpr h1
  simp [List.lookup_cons, e1, e2]
theorem walks_lt {prog : Program} {w : World} {A : Around} {I : Addr} {fp wr : List Addr} {n : Nat} {P : Nat → Value → Prop} {St : Nat → Heap → Prop} (W : Walks prog w A I fp wr n P St) : Walks prog w A I fp wr n (fun i v => i < n ∧ P i v) St :=
  ⟨W.sub, W.frame, fun i s Q E hi st hQ => W.item i s Q E hi st fun v h' tk hP => hQ v h' tk ⟨hi, hP⟩, W.done, W.self⟩
theorem FRel.live {W : Wd} {h : Heap} : ∀ {Ls locs}, FRel W h Ls locs → ∀ L ∈ adr Ls, ∃ o, h.get? L = some o
  | _, _, .cons ⟨_, ⟨o, _, _, e, _⟩, _⟩ _, _, .head _ => ⟨o, e⟩
  | _, _, .cons _ r, _, .tail _ hL => r.live _ hL
theorem Rep.freeze {S : Stc} {W : Wd} {fs : List FrA} {st : ASt} {s : Shared} (R : Rep S W fs st s) {D : Addr} {o : Obj} (ho : s.heap.get? D = some o) (h1 : ∀ i, W.φ i ≠ some D) (h2 : D ∉ adr fs) :
    ∃ W', W.le W' ∧ W'.φ = W.φ ∧ W'.fz.get? D = some o ∧ Rep S W' fs st s :=
  ⟨_, R.settle.1, rfl, hideAll_get _ ho fun hm => by
    rcases (mem_mutables R).mp hm with h | ⟨i, h⟩
    · exact h2 h
    · exact h1 i h, R.settle.2⟩
section
variable {S : Stc} {A : Around} {f : Fm} {fs' : List Fm} {W : Wd}
theorem paired_ints {F : Value → Value → Prop} {g : Nat → Int} (hF : ∀ (k : Nat) t y, F (.int ((0 : Int) + k * 1) t) y → ∃ u, y = .int (g k) u) : ∀ {vs ys : List Value} {j : Nat}, Paired F vs ys → (∀ (i : Nat) (v : Value), vs[i]? = some v → ∃ t, v = Value.int ((0 : Int) + ((j + i : Nat) : Int) * 1) t) →
    VRels W ((List.range' j vs.length).map fun k => AV.int (g k)) ys
  | _, _, _, .nil, _ => .nil
  | _, _, j, .cons (a := v) (b := y) a r, h => by
    obtain ⟨t, rfl⟩ := h 0 _ rfl
    obtain ⟨u, rfl⟩ := hF j t y a
    refine .cons .int (paired_ints (j := j + 1) hF r fun i v hv => ?_)
    obtain ⟨t, e⟩ := h (i + 1) v (by simpa using hv)
    exact ⟨t, by rw [e, show j + 1 + i = j + (i + 1) by omega]⟩
theorem sim_lc (O : S.Ok) {k : Nat} {hb : Bool} (C : CxOk k hb A (f :: fs')) {ev : Expr → X AV} (h : ∀ W e, Sim S A (f :: fs') VRel W (ev e) (eval e f.env)) (W : Wd) (e : Expr) :
    Sim S A (f :: fs') VRel W (lcX S.T f.sc hb ev e) (eval e f.env) := by
  unfold lcX
  split
  · rename_i elt x r rp es y he
    obtain ⟨px, cp, d, g, co, more, pos, rfl, hyx, hdx, hdy⟩ := lcParts_eq he
    split
    · rename_i hy
      rw [eval_ListComp]
      show Sim S A (f :: fs') VRel W _ (comprehension _ _ _ _ _ false (eval (.Call (.Name r rp) es [] cp) f.env) none)
      rw [comp_first]
      refine .bind (sim_rng O h) fun W' n v le hn => ?_
      obtain ⟨rr, t, u, kk, rfl, hr⟩ := hn
      intro p st res p' c st' e hc s R Q E P
      unfold lcTail at e
      split at e
      · rename_i loc locs hfr
        split at e
        · rename_i j hj
          cases e
          obtain ⟨⟨hn0, hn1⟩, hel⟩ := hc
          have hkf : f.env.scope.kind = .function := C.kind f (.head _)
          have hky : f.env.kindOf y = some .cell := hy
          obtain ⟨cc, hcc⟩ := C.cel f (.head _) y hy
          obtain ⟨tj, oc, hoc, hocd⟩ : ∃ t, ∃ o, W'.fz.get? cc = some o ∧ o.data = .cell (some (.int j t)) := by
            have F := R.fr
            rw [hfr] at F
            cases F with | cons l _ => ?_
            obtain ⟨m, -, hm⟩ := l
            obtain ⟨v, hv, q⟩ := hm y _ hj
            rw [hcc] at q
            cases hv
            exact ⟨_, q⟩
          refine ofAny (wpAny_comprehension_free (use := none) (cl := [(y, cc)]) rfl (fun _ => rfl) (closure_one hcc) rfl (fun z hz hl => ?_) (wpAny_pure (wpAny_pyIter_range (R.keep _ _ hr) (small_one (by omega) (by omega) (by omega) (by omega)) ?_)))
          · simp only [List.mem_cons, List.not_mem_nil, or_false] at hz
            rcases hz with rfl | rfl | rfl
            · simp
            · exact lk_x hdx
            · cases hl
          have hrs : Builtin.Range.rangeSize 0 n 1 = n := by rw [rangeSize_one]; split <;> omega
          rw [hrs]
          have Wk := walks_lt (Walks.range (prog := S.prog) (w := S.w) (C.hand rfl) s.heap.objs.size 0 1 n.toNat)
          refine comp_block_walkC (RR := fun acc C => compPost (model S.prog S.w) A E none Q acc C) (elt := elt) (env := f.env) Wk (by rw [sizeLine_eq]; omega) (fun _ => true) (fun v y' => ∃ (k : Nat) (t u : Tok), v = .int ((0 : Int) + k * 1) t ∧ y' = .int (eltV elt x y k j) u) ?_ rfl ?_ ?_ ?_ ?_ ?_
          · intro z hz
            simp only [List.mem_cons, List.not_mem_nil, or_false] at hz
            rcases hz with rfl | rfl | rfl <;> simp
          · exact lk_x hdx
          · have := Heap.get?_push_size s.heap (o := { cls := .type "range_iterator", data := .fields #[rawInt 0, rawInt n, rawInt 1] }) rfl
            show IsRangeIter _ _ _ _ _
            rw [show (0 : Int) + ((0 : Nat) : Int) * 1 = 0 by omega, show ((n.toNat : Nat) : Int) - ((0 : Nat) : Int) = n by omega]
            exact this
          · intro b hb
            rw [List.mem_singleton.mp hb, Heap.size_push]
            exact Nat.lt_succ_self _
          · refine ⟨fun C i v s₃ m₃ E' _ _ _ _ _ _ => ?_, fun C' i v s₃ m₃ E' hC' hPi _ hNs hm₃ hk₃ _ => ?_⟩
            · exact wpAny_pure ⟨rfl, s₃.heap, s₃.toks, rfl, fun _ _ e => e⟩
            · obtain ⟨hi, tv, rfl⟩ := hPi
              have hE := hel i hi
              unfold eltC at hE
              split at hE
              · rename_i vv cv hev
                have hV : eltV elt x y i j = vv := by unfold eltV; rw [hev]
                refine iev_ok (h := s₃) (env := compEnvC _ [(y, cc)] C' f.env) (fun z i' hz hdz pos k Q' E'' hQ' => ?_) elt hev hE s₃.toks _ _ fun t k' => ⟨⟨i, tv, t, rfl, by rw [hV]⟩, s₃.heap, k', rfl, fun _ _ e => e⟩
                split at hz
                · rename_i hzx
                  cases hz
                  rw [eq_of_beq hzx] at hdz ⊢
                  refine wpAny_Name (wpAny_loadName_local (m := m₃) rfl (lookup_relabel_local (lk_x hdx)) hNs hm₃ ?_) hdz
                  have := hQ' tv
                  rwa [show (0 : Int) + (i : Int) * 1 = i by omega]
                · split at hz
                  · rename_i hzx hzy
                    cases hz
                    rw [eq_of_beq hzy] at hdz ⊢
                    refine wpAny_Name (wpAny_loadName_cell (c := cc) rfl ?_ (by simp [compEnvC]) ⟨oc, hk₃ _ _ ?_ (Heap.get?_push_of_some _ (R.keep _ _ hoc)), hocd⟩ (hQ' tj)) hdz
                    · show (relabel _ f.env).names.lookup y = _
                      rw [relabel_y hkf hky]
                      exact lk_y hyx hdy
                    · intro hm
                      have := Heap.lt_size (R.keep _ _ hoc)
                      rw [List.mem_singleton.mp hm] at this
                      exact Nat.lt_irrefl _ this
                  · cases hz
              · exact hE.elim
          · intro D C' h' tk m' ys vs hD hC' hDC hn' hl' hpl hlen hP hF hk
            refine ⟨m', hn', fun h'' hs'' => ?_⟩
            have keepAll : ∀ b o, s.heap.get? b = some o → h''.get? b = some o := fun b o e => by
              have e2 := Heap.get?_push_of_some { cls := .type "range_iterator", data := .fields #[rawInt 0, rawInt n, rawInt 1] } e
              refine hs''.extBut b o (fun z => by rw [z, hC'] at e2; cases e2) (hk b o (fun hm => ?_) e2)
              have := Heap.lt_size e
              rw [List.mem_singleton.mp hm] at this
              exact Nat.lt_irrefl _ this
            have R2 : Rep S W' (Las (f :: fs')) st { s with heap := h'', toks := tk } := R.grow keepAll
            obtain ⟨nl, hpl⟩ := hpl
            have hD'' : h''.get? D = some { cls := .type "list", data := .seq ys nl } := hs''.extBut D _ hDC hpl
            have dead : ∀ o, s.heap.get? D = some o → False := fun o e => by
              rw [Heap.get?_push_of_some _ e] at hD; cases hD
            obtain ⟨W₃, le₃, -, hz, R3⟩ := R2.freeze hD'' (fun i e => let ⟨o, q⟩ := (R.sepφ i D e).2.2.2; dead o q) fun hm => let ⟨o, q⟩ := R.fr.live D hm; dead o q
            refine P W₃ _ le₃ R3 _ ?_
            have hvs : vs.filter (fun _ => true) = vs := by simp
            rw [hvs] at hF
            have := paired_ints (W := W₃) (g := fun k : Nat => eltV elt x y k j) (fun k t y' ⟨k', t', u', e1, e2⟩ => by
              have : (k' : Int) = k := by injection e1 with e1; omega
              rw [this] at e2; exact ⟨u', e2⟩) (j := 0) hF fun i v hv => let ⟨_, t, e⟩ := hP i v hv; ⟨t, by rw [e]; simp⟩
            rw [hlen, ← List.range_eq_range'] at this
            exact .lst (vs := ys.toList) (by simpa using hz) this
        · cases e
      · cases e
    · exact .fail
  · exact .fail
end
end Mine
-- part Lp5
open PySem PySem.W PyProof.Rows PySem.Calls
namespace Mine
/-! The loop that writes a number over all octets of a bytearray -/
def evB (T : Tab) (sc : Scope) : Expr → X AV
  | .Name id _ => nameX T sc id
  | .Constant c _ _ => constX c
  | _ => X.fail
def opB (T : Tab) (sc : Scope) : Ops := ⟨evB T sc, fun _ => X.fail, fun _ => X.fail, fun _ _ _ => X.fail⟩
def dropK {α : Type} (x : Str) : List (Str × α) → List (Str × α)
  | [] => []
  | p :: r => match x == p.1 with
    | true => dropK x r
    | false => p :: dropK x r
theorem getK_drop {α : Type} {x y : Str} : ∀ {l : List (Str × α)}, getK y (dropK x l) = if y = x then none else getK y l
  | [] => by unfold dropK getK; split <;> rfl
  | p :: r => by
    have ih := getK_drop (x := x) (y := y) (l := r)
    unfold dropK
    split
    · rename_i h
      rw [ih]
      split
      · rfl
      · rename_i q
        have : (y == p.1) = false := beq_eq_false_iff_ne.mpr fun z => q (z.trans (eq_of_beq h).symm)
        conv => rhs; unfold getK
        rw [this]
    · rename_i h
      conv => lhs; unfold getK
      conv => rhs; unfold getK
      have hne : x ≠ p.1 := beq_eq_false_iff_ne.mp h
      split
      · rename_i q
        rw [if_neg fun z => hne (z.symm.trans (eq_of_beq q))]
      · exact ih
theorem Rep.locs {S : Stc} {W : Wd} {fs : List FrA} {st : ASt} {s : Shared} (R : Rep S W fs st s) {fr' : List Loc} (h : FRel W s.heap fs fr') : Rep S W fs { st with fr := fr' } s :=
  ⟨R.old, R.keep, R.inj, R.sepφ, R.sepf, R.nd, R.fresh, R.hp, h, R.gens, R.os⟩
theorem Rep.subLoc {S : Stc} {W : Wd} {L : FrA} {fs : List FrA} {st : ASt} {s : Shared} {loc loc' : Loc} {locs : List Loc} (R : Rep S W (L :: fs) st s) (hf : st.fr = loc :: locs) (h : ∀ x a, getK x loc' = some a → getK x loc = some a) :
    Rep S W (L :: fs) { st with fr := loc' :: locs } s := by
  refine R.locs ?_
  have F := R.fr
  rw [hf] at F
  cases F with
  | cons l r =>
    obtain ⟨m, n, q⟩ := l
    exact .cons ⟨m, n, fun x a e => q x a (h x a e)⟩ r
def fillParts : Stmt → Option (Str × Pos × Str × Pos × List Expr × Str × Int × Stmt)
  | .For (.Name k kp) (.Call (.Name r rp) es [] cp) [.Assign [.Subscript (.Name h hp) (.Name k' kp2) sp] (.Constant (.int c) u cpos) apos] [] pos => match k == k' && !(h == k) && !(k == "__debug__") && !(h == "__debug__") with
    | true => some (k, kp, r, rp, es, h, c, .Assign [.Subscript (.Name h hp) (.Name k' kp2) sp] (.Constant (.int c) u cpos) apos)
    | false => none
  | _ => none
theorem fillParts_eq {s b : Stmt} {k r h : Str} {kp rp : Pos} {es : List Expr} {c : Int} (e : fillParts s = some (k, kp, r, rp, es, h, c, b)) :
    ∃ hp kp2 sp u cpos apos cp pos, s = .For (.Name k kp) (.Call (.Name r rp) es [] cp) [b] [] pos ∧ b = .Assign [.Subscript (.Name h hp) (.Name k kp2) sp] (.Constant (.int c) u cpos) apos ∧ h ≠ k ∧ (k == ("__debug__" : Str)) = false ∧ (h == ("__debug__" : Str)) = false := by
  unfold fillParts at e
  split at e
  · split at e
    · rename_i q
      cases e
      simp only [Bool.and_eq_true, Bool.not_eq_true'] at q
      obtain ⟨⟨⟨q1, q2⟩, q3⟩, q4⟩ := q
      have := eq_of_beq q1
      subst this
      exact ⟨_, _, _, _, _, _, _, _, rfl, rfl, beq_eq_false_iff_ne.mp q2, q3, q4⟩
    · cases e
  · cases e
def fillTail (k h : Str) (c n : Int) : X FlX := fun p st => match st.fr with
  | loc :: locs => match getK h loc with
    | some (.ref id) => match getH st.hp id with
      | some (.barr b) => some (.ok .next, p, n = b.length ∧ b.length ≤ 16777216 ∧ 0 ≤ c ∧ c < 256, { st with fr := dropK k loc :: locs, hp := putH id (.barr (List.replicate b.length c.toNat.toUInt8)) st.hp })
      | _ => none
    | _ => none
  | [] => none
def lpX (T : Tab) (sc : Scope) (hb : Bool) (ev : Expr → X AV) (s : Stmt) : X FlX := match fillParts s, hb with
  | some (k, kp, r, rp, es, h, c, b), true => match sc.names.lookup k, sc.names.lookup h with
    | some .local, some .local => do
      let n ← rngX T ev r rp es
      fillTail k h c n
    | _, _ => X.fail
  | _, _ => X.fail
theorem exsX_one {ex : Stmt → X FlX} {b : Stmt} {p p' : List Bool} {st st' : ASt} {c : Prop} (h : ex b p st = some (.ok .next, p', c, st')) : exsX ex [b] p st = some (.ok .next, p', c ∧ True, st') := by
  show X.bind _ _ _ _ = _
  unfold X.bind
  rw [h]
  rfl
theorem fill_step {T : Tab} {sc : Scope} {hb : Bool} {k h : Str} {hp kp2 sp cpos apos : Pos} {u : Nat} {c : Int} (hk : sc.names.lookup k = some .local) (hh : sc.names.lookup h = some .local) (dk : (k == ("__debug__" : Str)) = false) (dh : (h == ("__debug__" : Str)) = false)
    {p : List Bool} {st : ASt} {loc : Loc} {locs : List Loc} {id : Nat} {i : Int} {b : List UInt8} (hf : st.fr = loc :: locs) (e1 : getK h loc = some (.ref id)) (e2 : getK k loc = some (.int i)) (e3 : getH st.hp id = some (.barr b)) :
    exF T sc hb (opB T sc) (fun _ => X.fail) (fun _ => X.fail) (fun _ => X.fail) (.Assign [.Subscript (.Name h hp) (.Name k kp2) sp] (.Constant (.int c) u cpos) apos) p st =
      some (.ok .next, p, (0 ≤ i ∧ i < b.length ∧ b.length ≤ 16777216) ∧ 0 ≤ c ∧ c < 256, { st with hp := putH id (.barr (b.set i.toNat c.toNat.toUInt8)) st.hp }) := by
  simp only [exF, isComp, noSwap, isStarred, opB, evB, constX, asgX, asg1, isSlice, isLit, nameX, dk, dh, hk, hh, localX, hf, e1, e2, e3, setItemX, bind, X.bind, pure, X.pure, Bool.not_false, Bool.and_self, true_and, and_true]
mutual
theorem VRel.isLow {W : Wd} : ∀ {a v}, VRel W a v → Low (fun i => (W.φ i).isSome) a
  | _, _, .none => .none
  | _, _, .lit => .lit
  | _, _, .bool => .bool
  | _, _, .int => .int
  | _, _, .str => .str
  | _, _, .bytes => .bytes
  | _, _, .const _ => .const
  | _, _, .ref e => .ref (by rw [e]; rfl)
  | _, _, .tup _ r => .tup (VRels.isLow r)
  | _, _, .lst _ r => .lst (VRels.isLow r)
theorem VRels.isLow {W : Wd} : ∀ {l vs}, VRels W l vs → Lows (fun i => (W.φ i).isSome) l
  | _, _, .nil => .nil
  | _, _, .cons a r => .cons (VRel.isLow a) (VRels.isLow r)
end
theorem ARel.isLow {S : Stc} {W : Wd} : ∀ {m es}, ARel S W m es → ∀ p ∈ m, Low (fun i => (W.φ i).isSome) p.2
  | _, _, .nil, _, h => by cases h
  | _, _, .cons v r, _, .head _ => v.isLow
  | _, _, .cons v r, _, .tail _ h => r.isLow _ h
theorem ORel.isLow {S : Stc} {W : Wd} {ao o} (r : ORel S W ao o) : LowO (fun i => (W.φ i).isSome) ao := by
  cases r with
  | list r => exact .list r.isLow
  | barr => exact .barr
  | inst e => exact .inst (by rw [e]; rfl)
  | attrs r => exact .attrs r.isLow
  | own => exact .own
theorem FRel.isLow {W : Wd} {h : Heap} : ∀ {Ls locs}, FRel W h Ls locs → LowF (fun i => (W.φ i).isSome) locs locs
  | _, _, .nil => .nil
  | _, _, .cons ⟨_, _, q⟩ r => .cons (fun x a e => ⟨e, let ⟨_, z, _⟩ := q x a e; z.isLow⟩) r.isLow
/-- back to the ids told of before -/
theorem Rep.back {S : Stc} {W W1 : Wd} {fs : List FrA} {st st1 st0 : ASt} {s s1 : Shared} (R : Rep S W fs st s) (R1 : Rep S W1 fs st1 s1) (le : W.le W1)
    (hhp : ∀ i ao, getH st0.hp i = some ao → getH st1.hp i = some ao ∧ (getH st.hp i = some ao ∨ (∃ b, ao = .barr b) ∧ ∃ a, getH st.hp i = some a)) (hfr : st0.fr = st1.fr) (hfr' : st0.fr = st.fr) (hnext : st0.next = st.next) :
    ∃ W2, W.le W2 ∧ Rep S W2 fs st0 s1 ∧ (∀ i a, W2.φ i = some a → (W.φ i).isSome ∧ W1.φ i = some a) ∧ W2.fz = W1.fz := by
  refine ⟨W1.cut fun i => (W.φ i).isSome, Wd.le_cut le fun i a e => by rw [e]; rfl, R1.forget (fun i ao e => ?_) ?_ fun i hi => ?_, fun i a e => Wd.cut_some.mp e, rfl⟩
  · obtain ⟨e1, e2⟩ := hhp i ao e
    rcases e2 with e2 | ⟨⟨b, rfl⟩, a', e2⟩
    · obtain ⟨a, o, p, q, r⟩ := R.hp i ao e2
      exact ⟨by rw [p]; rfl, e1, r.isLow⟩
    · obtain ⟨a, o, p, q, r⟩ := R.hp i a' e2
      exact ⟨by rw [p]; rfl, e1, .barr⟩
  · rw [← hfr, hfr']
    exact R.fr.isLow
  · refine .inl ?_
    rw [R.fresh i (by omega)]; rfl
theorem Rep.hpEq {S : Stc} {W : Wd} {fs : List FrA} {st : ASt} {s : Shared} (R : Rep S W fs st s) {hp' : List (Nat × AObj)} (h : ∀ j ao, getH hp' j = some ao → getH st.hp j = some ao) : Rep S W fs { st with hp := hp' } s :=
  ⟨R.old, R.keep, R.inj, R.sepφ, R.sepf, R.nd, R.fresh, fun i ao e => R.hp i ao (h i ao e), R.fr, R.gens, R.os⟩
section
variable {S : Stc} {A : Around} {f : Fm} {fs' : List Fm} {W : Wd}
theorem sim_evB (O : S.Ok) {k : Nat} {hb : Bool} (C : CxOk k hb A (f :: fs')) (W : Wd) (e : Expr) : Sim S A (f :: fs') VRel W (evB S.T f.sc e) (eval e f.env) := by
  unfold evB
  split
  · exact sim_name O C
  · exact sim_const
  · exact .fail
theorem opB_ok (O : S.Ok) {k : Nat} {hb : Bool} (C : CxOk k hb A (f :: fs')) : OpsOk S A f fs' (opB S.T f.sc) :=
  ⟨sim_evB O C, fun _ _ => .fail, fun _ _ _ => .fail, fun _ _ _ _ _ _ _ _ _ _ => .fail⟩
theorem set_fill {b : List UInt8} {c : UInt8} {i : Nat} (h : i < b.length) : (List.replicate i c ++ b.drop i).set i c = List.replicate (i + 1) c ++ b.drop (i + 1) := by
  apply List.ext_getElem?
  intro j
  rw [List.getElem?_set, List.getElem?_append, List.getElem?_append]
  simp only [List.length_append, List.length_replicate, List.length_drop, List.getElem?_replicate, List.getElem?_drop]
  by_cases h1 : i = j
  · subst h1
    rw [if_pos rfl, if_pos (by omega), if_pos (by omega), if_pos (by omega)]
  · rw [if_neg h1]
    by_cases h2 : j < i
    · rw [if_pos h2, if_pos h2, if_pos (by omega), if_pos (by omega)]
    · rw [if_neg h2, if_neg (by omega)]
      congr 1; omega
theorem sim_fill (O : S.Ok) {n0 : Nat} {hb : Bool} (C : CxOk n0 hb A (f :: fs')) {ev : Expr → X AV} (h : ∀ W e, Sim S A (f :: fs') VRel W (ev e) (eval e f.env)) (W : Wd) (s : Stmt) :
    Sim S A (f :: fs') FlRel W (lpX S.T f.sc hb ev s) (exec s f.env) := by
  unfold lpX
  split
  · rename_i k kp r rp es hh c b he
    obtain ⟨hp, kp2, sp, u, cpos, apos, cp, pos, rfl, hb', hne, dk, dh⟩ := fillParts_eq he
    split
    · rename_i hk hl
      intro p st res p' cc st' e hc s R Q E P
      replace e : X.bind (rngX S.T ev r rp es) (fillTail k hh c) p st = _ := e
      unfold X.bind at e
      split at e
      · cases e
      · rename_i CC p1 c1 st1 e1
        cases e
        refine wpC_For (wpC_mono ((sim_rng O h) _ _ _ _ _ _ e1 hc s R (fun _ _ => False) E fun W' s' le R' => P W' s' le R') (fun _ _ x => False.elim x) fun _ _ x => x) (fun _ => rfl)
      · rename_i n p1 c1 st1 e1
        unfold fillTail at e
        split at e
        · cases e
        · rename_i res2 p2 c2 st2 e2
          cases e
          split at e2
          · rename_i loc locs hfr
            split at e2
            · rename_i id hid
              split at e2
              · rename_i bs hbs
                cases e2
                obtain ⟨hc1, hn, hlen, hc0, hc256⟩ := hc
                refine wpC_For (wpC_mono ((sim_rng O h) _ _ _ _ _ _ e1 hc1 s R (fun x s₁ => ∃ W', W.le W' ∧ Rep S W' (Las (f :: fs')) st1 s₁ ∧ RngRel W' n x) E fun W' s' le R' x hx => ⟨W', le, R', hx⟩) (fun x s₁ hx => ?_) fun _ _ x => x) (fun _ => rfl)
                obtain ⟨W', le, R', rr, t, u', kk, rfl, hr⟩ := hx
                refine ofAny (wpAny_pyIter_range (R'.keep _ _ hr) (small_one (by omega) (by omega) (by omega) (by omega)) ?_)
                have hrs : Builtin.Range.rangeSize 0 n 1 = n := by rw [rangeSize_one]; split <;> omega
                rw [hrs]
                have hsz : S.hb.objs.size ≤ s₁.heap.objs.size := R'.hsz
                obtain ⟨le2, hid2, R2⟩ := R'.fresh_own hsz (own := ownRange ((0 : Int) + ((0 : Nat) : Int) * 1) (((bs.length : Nat) : Int) - ((0 : Nat) : Int)) 1) (o := { cls := .type "range_iterator", data := .fields #[rawInt 0, rawInt n, rawInt 1] }) (t := s₁.toks) rfl (by
                  unfold ownRange
                  rw [show (0 : Int) + ((0 : Nat) : Int) * 1 = 0 by omega, show ((bs.length : Nat) : Int) - ((0 : Nat) : Int) = n by omega])
                have dropSub : ∀ x a, getK x (dropK k loc) = some a → getK x loc = some a := fun x a e => by
                  rw [getK_drop] at e
                  split at e
                  · cases e
                  · exact e
                have R3 := R2.subLoc (loc' := dropK k loc) hfr dropSub
                have R0 := R'.subLoc (loc' := dropK k loc) hfr dropSub
                have hidlt : id ≠ st1.next := fun z => by
                  obtain ⟨a, o, q, -⟩ := R'.hp id _ hbs
                  rw [R'.fresh id (by omega)] at q; cases q
                have hhk : getK hh (dropK k loc) = some (.ref id) := by rw [getK_drop, if_neg hne]; exact hid
                refine walk_loop (walks_lt (Walks.range (prog := S.prog) (w := S.w) (C.hand rfl) s₁.heap.objs.size 0 1 bs.length)) (id := st1.next) (own := fun i => ownRange ((0 : Int) + ((i : Nat) : Int) * 1) (((bs.length : Nat) : Int) - ((i : Nat) : Int)) 1)
                  (fun i h' ⟨o, ho, hc⟩ _ => by rw [hc] at ho; exact ho) (fun i h' hi => ⟨_, hi, rfl⟩) hid2
                  (fun i st => st.fr = dropK k loc :: locs ∧ st.next = st1.next + 1 ∧ ∀ j, getH st.hp j = if j = st1.next then some (.own (ownRange ((0 : Int) + ((i : Nat) : Int) * 1) (((bs.length : Nat) : Int) - ((i : Nat) : Int)) 1)) else if j = id then some (.barr (List.replicate i c.toNat.toUInt8 ++ bs.drop i)) else getH st1.hp j)
                  (fun i st J => by rw [J.2.2, if_pos rfl]) (fun _ => rfl) (fun i st2 W2 s2 v hi le3 J hP R4 => ?_) (fun W2 st2 s2 h' tk le3 R4 J hk' => ?_) R3 ⟨rfl, rfl, fun j => ?_⟩
                · obtain ⟨J1, J2, J3⟩ := J
                  obtain ⟨-, tv, rfl⟩ := hP
                  refine wpC_mono ((sim_asg1 O C (sim_evB O C) (t := .Name k kp) (a := .int i) (v := .int ((0 : Int) + i * 1) tv) (W := W2) (by rw [show (0 : Int) + (i : Int) * 1 = i by omega]; exact .int)) [] { st2 with hp := putH st1.next (.own (ownRange ((0 : Int) + ((i + 1 : Nat) : Int) * 1) (((bs.length : Nat) : Int) - ((i + 1 : Nat) : Int)) 1)) st2.hp } (.ok ()) [] True
                    { st2 with hp := putH st1.next (.own (ownRange ((0 : Int) + ((i + 1 : Nat) : Int) * 1) (((bs.length : Nat) : Int) - ((i + 1 : Nat) : Int)) 1)) st2.hp, fr := putK k (.int i) (dropK k loc) :: locs } (by
                      simp only [asg1, storeX, hk, J1]) trivial s2 R4 (fun _ s3 => ∃ W3, W2.le W3 ∧ Rep S W3 (Las (f :: fs')) _ s3) (fun _ _ => False) fun W3 s3 le4 R5 _ _ => ⟨W3, le4, R5⟩) (fun _ s3 h3 => ?_) fun _ _ x => x
                  obtain ⟨W3, le4, R5⟩ := h3
                  have step := fill_step (T := S.T) (hb := true) (hp := hp) (kp2 := kp2) (sp := sp) (cpos := cpos) (apos := apos) (u := u) (c := c) hk hl dk dh (p := []) (st := { st2 with hp := putH st1.next (.own (ownRange ((0 : Int) + ((i + 1 : Nat) : Int) * 1) (((bs.length : Nat) : Int) - ((i + 1 : Nat) : Int)) 1)) st2.hp, fr := putK k (.int i) (dropK k loc) :: locs })
                    (loc := putK k (.int i) (dropK k loc)) (locs := locs) (id := id) (i := i) (b := List.replicate i c.toNat.toUInt8 ++ bs.drop i) rfl (by rw [getK_put, if_neg hne]; exact hhk) (by rw [getK_put, if_pos rfl]) (by
                      show getH (putH _ _ _) id = _
                      rw [getH_put, if_neg hidlt, J3, if_neg hidlt, if_pos rfl])
                  rw [← hb'] at step
                  refine wpC_mono ((sim_execs (fun W s => sim_ex O C (opB_ok O C) (fun _ _ => .fail) (fun _ _ _ _ => .fail) (fun _ _ _ => .fail) s W) [b] W3) _ _ _ _ _ _ (exsX_one step) ⟨⟨⟨by omega, by simp; omega, by simp; omega⟩, hc0, hc256⟩, trivial⟩ s3 R5 (fun fl s4 => fl = .next ∧ ∃ W4, W3.le W4 ∧ Rep S W4 (Las (f :: fs')) _ s4) (fun _ _ => False) fun W4 s4 le5 R6 fl hfl => ⟨by cases hfl; rfl, W4, le5, R6⟩) (fun fl s4 h4 => ?_) fun _ _ x => x
                  obtain ⟨rfl, W4, le5, R6⟩ := h4
                  refine ⟨rfl, W4, _, (le3.trans le4).trans le5, R6.subLoc (loc' := dropK k loc) rfl (fun x a e => ?_), rfl, J2, fun j => ?_⟩
                  · rw [getK_put]
                    have e' := e
                    rw [getK_drop] at e'
                    split at e'
                    · cases e'
                    · rename_i hx
                      rw [if_neg hx]; exact e
                  · show getH (putH id _ (putH st1.next _ st2.hp)) j = _
                    rw [getH_put, getH_put, J3]
                    have : (((i : Nat) : Int)).toNat = i := by omega
                    rw [this, set_fill hi]
                    by_cases z1 : j = st1.next
                    · rw [if_neg (fun q => hidlt (q.symm.trans z1)), if_pos z1, if_pos z1]
                    · rw [if_neg z1, if_neg z1, if_neg z1]
                      split <;> rfl
                · obtain ⟨J1, J2, J3⟩ := J
                  have leB : W'.le W2 := le2.trans le3
                  obtain ⟨W3, le4, R5, hφ, hfz⟩ := R0.back (st0 := { st1 with fr := dropK k loc :: locs, hp := putH id (.barr (List.replicate bs.length c.toNat.toUInt8)) st1.hp }) R4 leB (fun j ao e => by
                    replace e : getH (putH id _ st1.hp) j = some ao := e
                    rw [getH_put] at e
                    rw [J3]
                    have jlt : ∀ a, getH st1.hp j = some a → j ≠ st1.next := fun a ha z => by
                      obtain ⟨a, o, q, -⟩ := R'.hp j _ ha
                      rw [R'.fresh j (by omega)] at q; cases q
                    split at e
                    · rename_i hj
                      cases e
                      rw [if_neg (fun z => hidlt (hj.symm.trans z)), if_pos hj]
                      exact ⟨by simp, .inr ⟨⟨_, rfl⟩, .barr bs, by rw [hj]; exact hbs⟩⟩
                    · rename_i hj
                      rw [if_neg (jlt _ e), if_neg hj]
                      exact ⟨e, .inl e⟩) J1.symm rfl rfl
                  have hI : W2.φ st1.next = some s₁.heap.objs.size := le3.1 _ _ hid2
                  have sI := R4.sepφ _ _ hI
                  refine P W3 _ (le.trans le4) (R5.other (t := tk) (h' := h') (fun b o e1 e2 => hk' b o (fun z => ?_) e2) (fun i a o e1 e2 => hk' a o (fun z => ?_) e2) fun L hL m hn => hn.at' fun o e => hk' L o (fun z => ?_) e) _ .next
                  · rw [hfz, z, sI.1] at e1; cases e1
                  · obtain ⟨q1, q2⟩ := hφ i a e1
                    have := R4.inj i st1.next a q2 (z ▸ hI)
                    rw [this, R'.fresh _ (Nat.le_refl _)] at q1; cases q1
                  · exact sI.2.1 (z ▸ hL)
                · show getH ((st1.next, _) :: st1.hp) j = _
                  conv => lhs; unfold getH
                  by_cases z1 : j = st1.next
                  · rw [if_pos z1, show Nat.beq j st1.next = true by rw [nbeq]; simpa using z1]
                  · rw [if_neg z1, show Nat.beq j st1.next = false by rw [nbeq]; simpa using z1]
                    by_cases z2 : j = id
                    · rw [if_pos z2, z2]; simpa using hbs
                    · rw [if_neg z2]
              · cases e2
            · cases e2
          · cases e2
    · exact .fail
  · exact .fail
end
end Mine
-- part Lp6
open PySem PySem.W PyProof.Rows PySem.Calls
namespace Mine
def theHook (T : Tab) : Hook := ⟨fun sc hb ev e => lcX T sc hb ev e, fun sc hb ev s => lpX T sc hb ev s⟩
theorem theHook_ok {S : Stc} (O : S.Ok) : HookOk S (theHook S.T) := ⟨fun C h W e _ => sim_lc O C h W e, fun C h W s _ => sim_fill O C h W s⟩
end Mine
-- part R01
open PySem PySem.W PyProof.Rows PySem.Calls
namespace Mine
noncomputable def law01 (P : Params) : List Stmt := match fnOf? (K01 P) 475 with
  | some fd => match fd.body with
    | .stmts b => b
    | _ => []
  | none => []
noncomputable def sc01 (P : Params) : Scope := match fnOf? (K01 P) 475 with
  | some fd => fd.scope
  | none => ⟨.function, [], false, false, []⟩
noncomputable def run01 (P : Params) (l : List Stmt) : X FlX := exsX (lev (K01 P) tab01 (theHook tab01) 60 true (sc01 P)).ex l
noncomputable def forBody (P : Params) (k : Nat) : List Stmt := match (law01 P)[k]? with
  | some (.For _ _ b _ _) => b
  | _ => []
def attrs01 (bid : Nat) (i cp off room : Int) : List (Str × AV) := [("_feeding", AV.lit true), ("_buffer", AV.ref bid), ("_buff_i", AV.int i), ("_buf_checkpoint", AV.int cp), ("_max_buffer_size", AV.int room), ("_read_size", AV.int (if 16 * 1024 < room then 16 * 1024 else room)), ("_raw", AV.lit false), ("_strict_map_key", AV.lit true), ("_unicode_errors", AV.str "strict"), ("_use_list", AV.lit true), ("_timestamp", AV.int 0), ("_list_hook", AV.none), ("_object_hook", AV.none), ("_object_pairs_hook", AV.none), ("_ext_hook", AV.const (Value.ref 160)), ("_max_str_len", AV.int room), ("_max_bin_len", AV.int room), ("_max_array_len", AV.int room), ("_max_map_len", AV.int (room.fdiv 2)), ("_max_ext_len", AV.int room), ("_stream_offset", AV.int off)]
structure Rdr where
  b : List UInt8
  i : Int
  cp : Int
  off : Int
  wire : List UInt8
  told : Int
  place : Int
  room : Int
def hp01 (own : Obj → Prop) (r0 r1 : Rdr) : List (Nat × AObj) := [(16, .own own), (11, .list [.ref 9, .ref 10]), (10, .list [.bytes r1.wire, .int r1.told, .int r1.place, .int r1.room]), (9, .list [.bytes r0.wire, .int r0.told, .int r0.place, .int r0.room]), (8, .list [.ref 3, .ref 6]), (7, .barr r1.b), (6, .inst 445 5), (5, .attrs (attrs01 7 r1.i r1.cp r1.off r1.room)), (4, .barr r0.b), (3, .inst 445 2), (2, .attrs (attrs01 4 r0.i r0.cp r0.off r0.room))]
def loc01 (n : Int) (l : List AV) : Loc := [("script", .lst l), ("first", .int n), ("rooms", .ref 1), ("readers", .ref 8), ("states", .ref 11)]
def st01 (own : Obj → Prop) (n : Int) (l : List AV) (num : Int) (r0 r1 : Rdr) : ASt := { fr := [putK "number" (.int num) (loc01 n l)], hp := hp01 own r0 r1, next := 17 }
def elt01 : Expr := (((Expr.Name (Str.ofString "rest") { line := (482 : Nat), col := (23 : Nat), endLine := (482 : Nat), endCol := (27 : Nat) }).BinOp Operator.Add ((Expr.Constant (Const.int (37 : Int)) (0 : Nat) { line := (482 : Nat), col := (30 : Nat), endLine := (482 : Nat), endCol := (32 : Nat) }).BinOp Operator.Mult (Expr.Name (Str.ofString "k") { line := (482 : Nat), col := (35 : Nat), endLine := (482 : Nat), endCol := (36 : Nat) }) { line := (482 : Nat), col := (30 : Nat), endLine := (482 : Nat), endCol := (36 : Nat) }) { line := (482 : Nat), col := (23 : Nat), endLine := (482 : Nat), endCol := (36 : Nat) }).BinOp Operator.Mod (Expr.Constant (Const.int (256 : Int)) (0 : Nat) { line := (482 : Nat), col := (40 : Nat), endLine := (482 : Nat), endCol := (43 : Nat) }) { line := (482 : Nat), col := (22 : Nat), endLine := (482 : Nat), endCol := (43 : Nat) })
def ints01 (rest : Int) : Option (List Int) := intsOf (List.map (fun (k : Nat) => AV.int (eltV elt01 (Str.ofString "k") (Str.ofString "rest") (↑k : Int) rest)) (List.range (rest.fmod (7 : Int)).toNat))
def C_w0fullo (num : Int) (w : Prop) (r : Rdr) : Prop := ((True ∧ True ∧ (2 : Int) ≠ (0 : Int)) ∧ True ∧ True) ∧ ((((True ∧ (((True ∧ True ∧ w) ∧ ((True ∧ True ∧ w) ∧ (((True ∧ True ∧ (2 : Int) ≠ (0 : Int) ∧ Int.natAbs (2 : Int) < (1073741824 : Nat)) ∧ True ∧ (8 : Int) ≠ (0 : Int)) ∧ ((True ∧ True ∧ (16 : Int) ≠ (0 : Int) ∧ Int.natAbs (16 : Int) < (1073741824 : Nat)) ∧ True ∧ True) ∧ True) ∧ True) ∧ True) ∧ True ∧ True) ∧ (True ∧ (True ∧ True ∧ True ∧ True ∧ True ∧ True) ∧ True) ∧ ((True ∧ True ∧ (6 : Int) ≠ (0 : Int)) ∧ True ∧ True) ∧ ((True ∧ True ∧ True ∧ ((num.fdiv (2 : Int)).fmod (8 : Int) == (0 : Int)) = true) ∧ ((True ∧ ((((True ∧ (((True ∧ True ∧ (7 : Int) ≠ (0 : Int)) ∧ True ∧ True) ∧ True ∧ True) ∧ True) ∧ ((0 : Int) ≤ (num.fdiv (16 : Int)).fmod (7 : Int) ∧ (num.fdiv (16 : Int)).fmod (7 : Int) ≤ (16777216 : Int)) ∧ ∀ (k : Nat), k < ((num.fdiv (16 : Int)).fmod (7 : Int)).toNat → eltC elt01 (Str.ofString "k") (Str.ofString "rest") (↑k : Int) (num.fdiv (16 : Int))) ∧ True ∧ True) ∧ True ∧ True) ∧ ints01 (num.fdiv (16 : Int)) = some ((ints01 (num.fdiv (16 : Int))).getD []) ∧ (∀ (n : Int), n ∈ (ints01 (num.fdiv (16 : Int))).getD [] → (0 : Int) ≤ n ∧ n < (256 : Int)) ∧ ((ints01 (num.fdiv (16 : Int))).getD []).length ≤ (16777216 : Nat)) ∧ True ∧ True) ∧ ((((True ∧ True ∧ (2 : Int) ≠ (0 : Int)) ∧ True ∧ True ∧ ((num.fdiv (16 : Int)).fmod (2 : Int) == (1 : Int)) = true) ∧ True ∧ ((True ∧ True ∧ True) ∧ True ∧ True) ∧ (List.map (fun (n : Int) => n.toNat.toUInt8) ((ints01 (num.fdiv (16 : Int))).getD [])).length ≤ (16777216 : Nat)) ∧ True ∧ True) ∧ (((((True ∧ ((True ∧ True ∧ True) ∧ True ∧ True) ∧ r.wire.length ≤ (16777216 : Nat)) ∧ True ∧ True) ∧ (True ∧ ((True ∧ True ∧ True) ∧ True ∧ True) ∧ (List.map (fun (n : Int) => n.toNat.toUInt8) ((ints01 (num.fdiv (16 : Int))).getD [])).length ≤ (16777216 : Nat)) ∧ True) ∧ True ∧ True) ∧ True ∧ True) ∧ (((True ∧ ((True ∧ (True ∧ True ∧ True) ∧ True) ∧ True ∧ True) ∧ ((True ∧ True ∧ ((True ∧ True ∧ True) ∧ True ∧ True) ∧ (((True ∧ True) ∧ True) ∧ True) ∧ ((True ∧ ((True ∧ True ∧ True) ∧ True ∧ True) ∧ ((True ∧ True ∧ ((((True ∧ True ∧ True) ∧ True) ∧ True ∧ True) ∧ True ∧ True) ∧ (List.map (fun (n : Int) => n.toNat.toUInt8) ((ints01 (num.fdiv (16 : Int))).getD [])).length ≤ (16777216 : Nat)) ∧ True ∧ True) ∧ (True ∧ True) ∧ True) ∧ True ∧ True) ∧ ((((True ∧ (((True ∧ True) ∧ True ∧ True) ∧ True ∧ True) ∧ r.b.length ≤ (16777216 : Nat)) ∧ (True ∧ True) ∧ True) ∧ (True ∧ ((True ∧ True ∧ True) ∧ True ∧ True) ∧ (List.map (fun (n : Int) => n.toNat.toUInt8) ((ints01 (num.fdiv (16 : Int))).getD [])).length ≤ (16777216 : Nat)) ∧ True) ∧ (True ∧ True) ∧ True ∧ decide ((↑r.b.length : Int) - r.i + (↑(List.map (fun (n : Int) => n.toNat.toUInt8) ((ints01 (num.fdiv (16 : Int))).getD [])).length : Int) > r.room) = true) ∧ True ∧ True) ∧ (True ∧ True) ∧ True) ∧ True) ∧ True ∧ True ∧ (false == decide ((↑r.wire.length : Int) - r.place + (↑(List.map (fun (n : Int) => n.toNat.toUInt8) ((ints01 (num.fdiv (16 : Int))).getD [])).length : Int) > r.room)) = false) ∧ True) ∧ (((True ∧ True ∧ (2 : Int) ≠ (0 : Int)) ∧ True ∧ True ∧ ((num.fdiv (16 : Int)).fmod (2 : Int) == (1 : Int)) = true) ∧ ((True ∧ (((True ∧ ((True ∧ True ∧ True) ∧ True ∧ True) ∧ (List.map (fun (n : Int) => n.toNat.toUInt8) ((ints01 (num.fdiv (16 : Int))).getD [])).length ≤ (16777216 : Nat)) ∧ True ∧ True) ∧ True ∧ True) ∧ True) ∧ (↑(List.map (fun (n : Int) => n.toNat.toUInt8) ((ints01 (num.fdiv (16 : Int))).getD [])).length : Int) = (↑(List.map (fun (n : Int) => n.toNat.toUInt8) ((ints01 (num.fdiv (16 : Int))).getD [])).length : Int) ∧ (List.map (fun (n : Int) => n.toNat.toUInt8) ((ints01 (num.fdiv (16 : Int))).getD [])).length ≤ (16777216 : Nat) ∧ (0 : Int) ≤ (193 : Int) ∧ (193 : Int) < (256 : Int)) ∧ True) ∧ (((True ∧ decide ((↑r.wire.length : Int) - r.place + (↑(List.map (fun (n : Int) => n.toNat.toUInt8) ((ints01 (num.fdiv (16 : Int))).getD [])).length : Int) > r.room) = true) ∧ True) ∧ True) ∧ (True ∧ True) ∧ True) ∧ True) ∧ True) ∧ True) ∧ True) ∧ True
def U_w0fullo (num : Int) (r : Rdr) : Rdr := { r with b := r.b, i := r.i, cp := r.cp, off := r.off, wire := r.wire, told := r.told, place := r.place }
theorem run_0_w0fullo (P : Params) (own : Obj → Prop) (n : Int) (l : List AV) (num : Int) (r0 r1 : Rdr) : run01 P (forBody P 7) [true, true, true, true, true, false, true, true] (st01 own n l num r0 r1) = some (.ok .next, [], C_w0fullo num (num.fmod 2 = ((0 : Nat) : Int)) r0, { fr := [[(Str.ofString "script", AV.lst l), (Str.ofString "first", AV.int n), (Str.ofString "rooms", AV.ref (1 : Nat)), (Str.ofString "readers", AV.ref (8 : Nat)), (Str.ofString "states", AV.ref (11 : Nat)), (Str.ofString "number", AV.int num), (Str.ofString "which", AV.int (num.fmod (2 : Int)))]], hp := [((18 : Nat), AObj.list [AV.ref (17 : Nat)]), ((17 : Nat), AObj.barr (List.replicate (List.map (fun (n : Int) => n.toNat.toUInt8) ((ints01 (num.fdiv (16 : Int))).getD [])).length (Int.toNat (193 : Int)).toUInt8))] ++ hp01 own (U_w0fullo num r0) r1, next := (19 : Nat) }) := by kernel_rfl
def C_w0og (num : Int) (w : Prop) (r : Rdr) : Prop := ((True ∧ True ∧ (2 : Int) ≠ (0 : Int)) ∧ True ∧ True) ∧ ((((True ∧ (((True ∧ True ∧ w) ∧ ((True ∧ True ∧ w) ∧ (((True ∧ True ∧ (2 : Int) ≠ (0 : Int) ∧ Int.natAbs (2 : Int) < (1073741824 : Nat)) ∧ True ∧ (8 : Int) ≠ (0 : Int)) ∧ ((True ∧ True ∧ (16 : Int) ≠ (0 : Int) ∧ Int.natAbs (16 : Int) < (1073741824 : Nat)) ∧ True ∧ True) ∧ True) ∧ True) ∧ True) ∧ True ∧ True) ∧ (True ∧ (True ∧ True ∧ True ∧ True ∧ True ∧ True) ∧ True) ∧ ((True ∧ True ∧ (6 : Int) ≠ (0 : Int)) ∧ True ∧ True) ∧ ((True ∧ True ∧ True ∧ ((num.fdiv (2 : Int)).fmod (8 : Int) == (0 : Int)) = true) ∧ ((True ∧ ((((True ∧ (((True ∧ True ∧ (7 : Int) ≠ (0 : Int)) ∧ True ∧ True) ∧ True ∧ True) ∧ True) ∧ ((0 : Int) ≤ (num.fdiv (16 : Int)).fmod (7 : Int) ∧ (num.fdiv (16 : Int)).fmod (7 : Int) ≤ (16777216 : Int)) ∧ ∀ (k : Nat), k < ((num.fdiv (16 : Int)).fmod (7 : Int)).toNat → eltC elt01 (Str.ofString "k") (Str.ofString "rest") (↑k : Int) (num.fdiv (16 : Int))) ∧ True ∧ True) ∧ True ∧ True) ∧ ints01 (num.fdiv (16 : Int)) = some ((ints01 (num.fdiv (16 : Int))).getD []) ∧ (∀ (n : Int), n ∈ (ints01 (num.fdiv (16 : Int))).getD [] → (0 : Int) ≤ n ∧ n < (256 : Int)) ∧ ((ints01 (num.fdiv (16 : Int))).getD []).length ≤ (16777216 : Nat)) ∧ True ∧ True) ∧ ((((True ∧ True ∧ (2 : Int) ≠ (0 : Int)) ∧ True ∧ True ∧ ((num.fdiv (16 : Int)).fmod (2 : Int) == (1 : Int)) = true) ∧ True ∧ ((True ∧ True ∧ True) ∧ True ∧ True) ∧ (List.map (fun (n : Int) => n.toNat.toUInt8) ((ints01 (num.fdiv (16 : Int))).getD [])).length ≤ (16777216 : Nat)) ∧ True ∧ True) ∧ (((((True ∧ ((True ∧ True ∧ True) ∧ True ∧ True) ∧ r.wire.length ≤ (16777216 : Nat)) ∧ True ∧ True) ∧ (True ∧ ((True ∧ True ∧ True) ∧ True ∧ True) ∧ (List.map (fun (n : Int) => n.toNat.toUInt8) ((ints01 (num.fdiv (16 : Int))).getD [])).length ≤ (16777216 : Nat)) ∧ True) ∧ True ∧ True) ∧ True ∧ True) ∧ (((True ∧ ((True ∧ (True ∧ True ∧ True) ∧ True) ∧ True ∧ True) ∧ ((((True ∧ True ∧ ((True ∧ True ∧ True) ∧ True ∧ True) ∧ (((True ∧ True) ∧ True) ∧ True) ∧ ((True ∧ ((True ∧ True ∧ True) ∧ True ∧ True) ∧ ((True ∧ True ∧ ((((True ∧ True ∧ True) ∧ True) ∧ True ∧ True) ∧ True ∧ True) ∧ (List.map (fun (n : Int) => n.toNat.toUInt8) ((ints01 (num.fdiv (16 : Int))).getD [])).length ≤ (16777216 : Nat)) ∧ True ∧ True) ∧ (True ∧ True) ∧ True) ∧ True ∧ True) ∧ (((((True ∧ (((True ∧ True) ∧ True ∧ True) ∧ True ∧ True) ∧ r.b.length ≤ (16777216 : Nat)) ∧ (True ∧ True) ∧ True) ∧ (True ∧ ((True ∧ True ∧ True) ∧ True ∧ True) ∧ (List.map (fun (n : Int) => n.toNat.toUInt8) ((ints01 (num.fdiv (16 : Int))).getD [])).length ≤ (16777216 : Nat)) ∧ True) ∧ (True ∧ True) ∧ True ∧ decide ((↑r.b.length : Int) - r.i + (↑(List.map (fun (n : Int) => n.toNat.toUInt8) ((ints01 (num.fdiv (16 : Int))).getD [])).length : Int) > r.room) = false) ∧ True) ∧ (((True ∧ True) ∧ True ∧ True ∧ decide (r.cp > (0 : Int)) = true) ∧ (((True ∧ True) ∧ (True ∧ ((True ∧ True) ∧ True) ∧ True) ∧ (0 : Int) ≤ r.cp ∧ r.cp ≤ (↑r.b.length : Int) ∧ r.b.length ≤ (16777216 : Nat)) ∧ True) ∧ (True ∧ (True ∧ (True ∧ True) ∧ True) ∧ True ∧ True) ∧ (True ∧ (True ∧ True) ∧ True) ∧ True) ∧ (((True ∧ True) ∧ True ∧ ((True ∧ True ∧ True) ∧ True ∧ True) ∧ (List.drop r.cp.toNat r.b).length + (List.map (fun (n : Int) => n.toNat.toUInt8) ((ints01 (num.fdiv (16 : Int))).getD [])).length ≤ (16777216 : Nat)) ∧ True) ∧ True) ∧ True) ∧ True) ∧ True) ∧ (True ∧ True) ∧ True) ∧ True ∧ True ∧ (true == decide ((↑r.wire.length : Int) - r.place + (↑(List.map (fun (n : Int) => n.toNat.toUInt8) ((ints01 (num.fdiv (16 : Int))).getD [])).length : Int) > r.room)) = false) ∧ True) ∧ (((True ∧ True ∧ (2 : Int) ≠ (0 : Int)) ∧ True ∧ True ∧ ((num.fdiv (16 : Int)).fmod (2 : Int) == (1 : Int)) = true) ∧ ((True ∧ (((True ∧ ((True ∧ True ∧ True) ∧ True ∧ True) ∧ (List.map (fun (n : Int) => n.toNat.toUInt8) ((ints01 (num.fdiv (16 : Int))).getD [])).length ≤ (16777216 : Nat)) ∧ True ∧ True) ∧ True ∧ True) ∧ True) ∧ (↑(List.map (fun (n : Int) => n.toNat.toUInt8) ((ints01 (num.fdiv (16 : Int))).getD [])).length : Int) = (↑(List.map (fun (n : Int) => n.toNat.toUInt8) ((ints01 (num.fdiv (16 : Int))).getD [])).length : Int) ∧ (List.map (fun (n : Int) => n.toNat.toUInt8) ((ints01 (num.fdiv (16 : Int))).getD [])).length ≤ (16777216 : Nat) ∧ (0 : Int) ≤ (193 : Int) ∧ (193 : Int) < (256 : Int)) ∧ True) ∧ (((True ∧ decide ((↑r.wire.length : Int) - r.place + (↑(List.map (fun (n : Int) => n.toNat.toUInt8) ((ints01 (num.fdiv (16 : Int))).getD [])).length : Int) > r.room) = false) ∧ True) ∧ ((True ∧ True ∧ r.wire.length + (List.map (fun (n : Int) => n.toNat.toUInt8) ((ints01 (num.fdiv (16 : Int))).getD [])).length ≤ (16777216 : Nat)) ∧ (True ∧ True ∧ (0 : Int) ≤ (0 : Int) ∧ (0 : Int) < (↑[AV.bytes r.wire, AV.int r.told, AV.int r.place, AV.int r.room].length : Int) ∧ [AV.bytes r.wire, AV.int r.told, AV.int r.place, AV.int r.room].length ≤ (1000 : Nat)) ∧ True) ∧ True) ∧ (True ∧ True) ∧ True) ∧ True) ∧ True) ∧ True) ∧ True) ∧ True
def U_w0og (num : Int) (r : Rdr) : Rdr := { r with b := (List.drop r.cp.toNat r.b ++ List.map (fun (n : Int) => n.toNat.toUInt8) ((ints01 (num.fdiv (16 : Int))).getD [])), i := (r.i - r.cp), cp := (0 : Int), off := r.off, wire := (r.wire ++ List.map (fun (n : Int) => n.toNat.toUInt8) ((ints01 (num.fdiv (16 : Int))).getD [])), told := r.told, place := r.place }
theorem run_0_w0og (P : Params) (own : Obj → Prop) (n : Int) (l : List AV) (num : Int) (r0 r1 : Rdr) : run01 P (forBody P 7) [true, true, true, true, false, true, false, true, false] (st01 own n l num r0 r1) = some (.ok .next, [], C_w0og num (num.fmod 2 = ((0 : Nat) : Int)) r0, { fr := [[(Str.ofString "script", AV.lst l), (Str.ofString "first", AV.int n), (Str.ofString "rooms", AV.ref (1 : Nat)), (Str.ofString "readers", AV.ref (8 : Nat)), (Str.ofString "states", AV.ref (11 : Nat)), (Str.ofString "number", AV.int num), (Str.ofString "which", AV.int (num.fmod (2 : Int)))]], hp := [((18 : Nat), AObj.list [AV.ref (17 : Nat)]), ((17 : Nat), AObj.barr (List.replicate (List.map (fun (n : Int) => n.toNat.toUInt8) ((ints01 (num.fdiv (16 : Int))).getD [])).length (Int.toNat (193 : Int)).toUInt8))] ++ hp01 own (U_w0og num r0) r1, next := (19 : Nat) }) := by kernel_rfl
def C_w0on (num : Int) (w : Prop) (r : Rdr) : Prop := ((True ∧ True ∧ (2 : Int) ≠ (0 : Int)) ∧ True ∧ True) ∧ ((((True ∧ (((True ∧ True ∧ w) ∧ ((True ∧ True ∧ w) ∧ (((True ∧ True ∧ (2 : Int) ≠ (0 : Int) ∧ Int.natAbs (2 : Int) < (1073741824 : Nat)) ∧ True ∧ (8 : Int) ≠ (0 : Int)) ∧ ((True ∧ True ∧ (16 : Int) ≠ (0 : Int) ∧ Int.natAbs (16 : Int) < (1073741824 : Nat)) ∧ True ∧ True) ∧ True) ∧ True) ∧ True) ∧ True ∧ True) ∧ (True ∧ (True ∧ True ∧ True ∧ True ∧ True ∧ True) ∧ True) ∧ ((True ∧ True ∧ (6 : Int) ≠ (0 : Int)) ∧ True ∧ True) ∧ ((True ∧ True ∧ True ∧ ((num.fdiv (2 : Int)).fmod (8 : Int) == (0 : Int)) = true) ∧ ((True ∧ ((((True ∧ (((True ∧ True ∧ (7 : Int) ≠ (0 : Int)) ∧ True ∧ True) ∧ True ∧ True) ∧ True) ∧ ((0 : Int) ≤ (num.fdiv (16 : Int)).fmod (7 : Int) ∧ (num.fdiv (16 : Int)).fmod (7 : Int) ≤ (16777216 : Int)) ∧ ∀ (k : Nat), k < ((num.fdiv (16 : Int)).fmod (7 : Int)).toNat → eltC elt01 (Str.ofString "k") (Str.ofString "rest") (↑k : Int) (num.fdiv (16 : Int))) ∧ True ∧ True) ∧ True ∧ True) ∧ ints01 (num.fdiv (16 : Int)) = some ((ints01 (num.fdiv (16 : Int))).getD []) ∧ (∀ (n : Int), n ∈ (ints01 (num.fdiv (16 : Int))).getD [] → (0 : Int) ≤ n ∧ n < (256 : Int)) ∧ ((ints01 (num.fdiv (16 : Int))).getD []).length ≤ (16777216 : Nat)) ∧ True ∧ True) ∧ ((((True ∧ True ∧ (2 : Int) ≠ (0 : Int)) ∧ True ∧ True ∧ ((num.fdiv (16 : Int)).fmod (2 : Int) == (1 : Int)) = true) ∧ True ∧ ((True ∧ True ∧ True) ∧ True ∧ True) ∧ (List.map (fun (n : Int) => n.toNat.toUInt8) ((ints01 (num.fdiv (16 : Int))).getD [])).length ≤ (16777216 : Nat)) ∧ True ∧ True) ∧ (((((True ∧ ((True ∧ True ∧ True) ∧ True ∧ True) ∧ r.wire.length ≤ (16777216 : Nat)) ∧ True ∧ True) ∧ (True ∧ ((True ∧ True ∧ True) ∧ True ∧ True) ∧ (List.map (fun (n : Int) => n.toNat.toUInt8) ((ints01 (num.fdiv (16 : Int))).getD [])).length ≤ (16777216 : Nat)) ∧ True) ∧ True ∧ True) ∧ True ∧ True) ∧ (((True ∧ ((True ∧ (True ∧ True ∧ True) ∧ True) ∧ True ∧ True) ∧ ((((True ∧ True ∧ ((True ∧ True ∧ True) ∧ True ∧ True) ∧ (((True ∧ True) ∧ True) ∧ True) ∧ ((True ∧ ((True ∧ True ∧ True) ∧ True ∧ True) ∧ ((True ∧ True ∧ ((((True ∧ True ∧ True) ∧ True) ∧ True ∧ True) ∧ True ∧ True) ∧ (List.map (fun (n : Int) => n.toNat.toUInt8) ((ints01 (num.fdiv (16 : Int))).getD [])).length ≤ (16777216 : Nat)) ∧ True ∧ True) ∧ (True ∧ True) ∧ True) ∧ True ∧ True) ∧ (((((True ∧ (((True ∧ True) ∧ True ∧ True) ∧ True ∧ True) ∧ r.b.length ≤ (16777216 : Nat)) ∧ (True ∧ True) ∧ True) ∧ (True ∧ ((True ∧ True ∧ True) ∧ True ∧ True) ∧ (List.map (fun (n : Int) => n.toNat.toUInt8) ((ints01 (num.fdiv (16 : Int))).getD [])).length ≤ (16777216 : Nat)) ∧ True) ∧ (True ∧ True) ∧ True ∧ decide ((↑r.b.length : Int) - r.i + (↑(List.map (fun (n : Int) => n.toNat.toUInt8) ((ints01 (num.fdiv (16 : Int))).getD [])).length : Int) > r.room) = false) ∧ True) ∧ (((True ∧ True) ∧ True ∧ True ∧ decide (r.cp > (0 : Int)) = false) ∧ True) ∧ (((True ∧ True) ∧ True ∧ ((True ∧ True ∧ True) ∧ True ∧ True) ∧ r.b.length + (List.map (fun (n : Int) => n.toNat.toUInt8) ((ints01 (num.fdiv (16 : Int))).getD [])).length ≤ (16777216 : Nat)) ∧ True) ∧ True) ∧ True) ∧ True) ∧ True) ∧ (True ∧ True) ∧ True) ∧ True ∧ True ∧ (true == decide ((↑r.wire.length : Int) - r.place + (↑(List.map (fun (n : Int) => n.toNat.toUInt8) ((ints01 (num.fdiv (16 : Int))).getD [])).length : Int) > r.room)) = false) ∧ True) ∧ (((True ∧ True ∧ (2 : Int) ≠ (0 : Int)) ∧ True ∧ True ∧ ((num.fdiv (16 : Int)).fmod (2 : Int) == (1 : Int)) = true) ∧ ((True ∧ (((True ∧ ((True ∧ True ∧ True) ∧ True ∧ True) ∧ (List.map (fun (n : Int) => n.toNat.toUInt8) ((ints01 (num.fdiv (16 : Int))).getD [])).length ≤ (16777216 : Nat)) ∧ True ∧ True) ∧ True ∧ True) ∧ True) ∧ (↑(List.map (fun (n : Int) => n.toNat.toUInt8) ((ints01 (num.fdiv (16 : Int))).getD [])).length : Int) = (↑(List.map (fun (n : Int) => n.toNat.toUInt8) ((ints01 (num.fdiv (16 : Int))).getD [])).length : Int) ∧ (List.map (fun (n : Int) => n.toNat.toUInt8) ((ints01 (num.fdiv (16 : Int))).getD [])).length ≤ (16777216 : Nat) ∧ (0 : Int) ≤ (193 : Int) ∧ (193 : Int) < (256 : Int)) ∧ True) ∧ (((True ∧ decide ((↑r.wire.length : Int) - r.place + (↑(List.map (fun (n : Int) => n.toNat.toUInt8) ((ints01 (num.fdiv (16 : Int))).getD [])).length : Int) > r.room) = false) ∧ True) ∧ ((True ∧ True ∧ r.wire.length + (List.map (fun (n : Int) => n.toNat.toUInt8) ((ints01 (num.fdiv (16 : Int))).getD [])).length ≤ (16777216 : Nat)) ∧ (True ∧ True ∧ (0 : Int) ≤ (0 : Int) ∧ (0 : Int) < (↑[AV.bytes r.wire, AV.int r.told, AV.int r.place, AV.int r.room].length : Int) ∧ [AV.bytes r.wire, AV.int r.told, AV.int r.place, AV.int r.room].length ≤ (1000 : Nat)) ∧ True) ∧ True) ∧ (True ∧ True) ∧ True) ∧ True) ∧ True) ∧ True) ∧ True) ∧ True
def U_w0on (num : Int) (r : Rdr) : Rdr := { r with b := (r.b ++ List.map (fun (n : Int) => n.toNat.toUInt8) ((ints01 (num.fdiv (16 : Int))).getD [])), i := r.i, cp := r.cp, off := r.off, wire := (r.wire ++ List.map (fun (n : Int) => n.toNat.toUInt8) ((ints01 (num.fdiv (16 : Int))).getD [])), told := r.told, place := r.place }
theorem run_0_w0on (P : Params) (own : Obj → Prop) (n : Int) (l : List AV) (num : Int) (r0 r1 : Rdr) : run01 P (forBody P 7) [true, true, true, true, false, false, false, true, false] (st01 own n l num r0 r1) = some (.ok .next, [], C_w0on num (num.fmod 2 = ((0 : Nat) : Int)) r0, { fr := [[(Str.ofString "script", AV.lst l), (Str.ofString "first", AV.int n), (Str.ofString "rooms", AV.ref (1 : Nat)), (Str.ofString "readers", AV.ref (8 : Nat)), (Str.ofString "states", AV.ref (11 : Nat)), (Str.ofString "number", AV.int num), (Str.ofString "which", AV.int (num.fmod (2 : Int)))]], hp := [((18 : Nat), AObj.list [AV.ref (17 : Nat)]), ((17 : Nat), AObj.barr (List.replicate (List.map (fun (n : Int) => n.toNat.toUInt8) ((ints01 (num.fdiv (16 : Int))).getD [])).length (Int.toNat (193 : Int)).toUInt8))] ++ hp01 own (U_w0on num r0) r1, next := (19 : Nat) }) := by kernel_rfl
def C_w0fulle (num : Int) (w : Prop) (r : Rdr) : Prop := ((True ∧ True ∧ (2 : Int) ≠ (0 : Int)) ∧ True ∧ True) ∧ ((((True ∧ (((True ∧ True ∧ w) ∧ ((True ∧ True ∧ w) ∧ (((True ∧ True ∧ (2 : Int) ≠ (0 : Int) ∧ Int.natAbs (2 : Int) < (1073741824 : Nat)) ∧ True ∧ (8 : Int) ≠ (0 : Int)) ∧ ((True ∧ True ∧ (16 : Int) ≠ (0 : Int) ∧ Int.natAbs (16 : Int) < (1073741824 : Nat)) ∧ True ∧ True) ∧ True) ∧ True) ∧ True) ∧ True ∧ True) ∧ (True ∧ (True ∧ True ∧ True ∧ True ∧ True ∧ True) ∧ True) ∧ ((True ∧ True ∧ (6 : Int) ≠ (0 : Int)) ∧ True ∧ True) ∧ ((True ∧ True ∧ True ∧ ((num.fdiv (2 : Int)).fmod (8 : Int) == (0 : Int)) = true) ∧ ((True ∧ ((((True ∧ (((True ∧ True ∧ (7 : Int) ≠ (0 : Int)) ∧ True ∧ True) ∧ True ∧ True) ∧ True) ∧ ((0 : Int) ≤ (num.fdiv (16 : Int)).fmod (7 : Int) ∧ (num.fdiv (16 : Int)).fmod (7 : Int) ≤ (16777216 : Int)) ∧ ∀ (k : Nat), k < ((num.fdiv (16 : Int)).fmod (7 : Int)).toNat → eltC elt01 (Str.ofString "k") (Str.ofString "rest") (↑k : Int) (num.fdiv (16 : Int))) ∧ True ∧ True) ∧ True ∧ True) ∧ ints01 (num.fdiv (16 : Int)) = some ((ints01 (num.fdiv (16 : Int))).getD []) ∧ (∀ (n : Int), n ∈ (ints01 (num.fdiv (16 : Int))).getD [] → (0 : Int) ≤ n ∧ n < (256 : Int)) ∧ ((ints01 (num.fdiv (16 : Int))).getD []).length ≤ (16777216 : Nat)) ∧ True ∧ True) ∧ ((((True ∧ True ∧ (2 : Int) ≠ (0 : Int)) ∧ True ∧ True ∧ ((num.fdiv (16 : Int)).fmod (2 : Int) == (1 : Int)) = false) ∧ True) ∧ True ∧ True) ∧ (((((True ∧ ((True ∧ True ∧ True) ∧ True ∧ True) ∧ r.wire.length ≤ (16777216 : Nat)) ∧ True ∧ True) ∧ (True ∧ ((True ∧ True ∧ True) ∧ True ∧ True) ∧ (List.map (fun (n : Int) => n.toNat.toUInt8) ((ints01 (num.fdiv (16 : Int))).getD [])).length ≤ (16777216 : Nat)) ∧ True) ∧ True ∧ True) ∧ True ∧ True) ∧ (((True ∧ ((True ∧ (True ∧ True ∧ True) ∧ True) ∧ True ∧ True) ∧ ((True ∧ True ∧ ((True ∧ True ∧ True) ∧ True ∧ True) ∧ (((True ∧ True) ∧ True) ∧ True) ∧ ((True ∧ ((True ∧ True ∧ True) ∧ True ∧ True) ∧ ((True ∧ True ∧ ((((True ∧ True ∧ True) ∧ True) ∧ True ∧ True) ∧ True ∧ True) ∧ True) ∧ True ∧ True) ∧ (True ∧ True) ∧ True) ∧ True ∧ True) ∧ ((((True ∧ (((True ∧ True) ∧ True ∧ True) ∧ True ∧ True) ∧ r.b.length ≤ (16777216 : Nat)) ∧ (True ∧ True) ∧ True) ∧ (True ∧ ((True ∧ True ∧ True) ∧ True ∧ True) ∧ (List.map (fun (n : Int) => n.toNat.toUInt8) ((ints01 (num.fdiv (16 : Int))).getD [])).length ≤ (16777216 : Nat)) ∧ True) ∧ (True ∧ True) ∧ True ∧ decide ((↑r.b.length : Int) - r.i + (↑(List.map (fun (n : Int) => n.toNat.toUInt8) ((ints01 (num.fdiv (16 : Int))).getD [])).length : Int) > r.room) = true) ∧ True ∧ True) ∧ (True ∧ True) ∧ True) ∧ True) ∧ True ∧ True ∧ (false == decide ((↑r.wire.length : Int) - r.place + (↑(List.map (fun (n : Int) => n.toNat.toUInt8) ((ints01 (num.fdiv (16 : Int))).getD [])).length : Int) > r.room)) = false) ∧ True) ∧ (((True ∧ True ∧ (2 : Int) ≠ (0 : Int)) ∧ True ∧ True ∧ ((num.fdiv (16 : Int)).fmod (2 : Int) == (1 : Int)) = false) ∧ True) ∧ (((True ∧ decide ((↑r.wire.length : Int) - r.place + (↑(List.map (fun (n : Int) => n.toNat.toUInt8) ((ints01 (num.fdiv (16 : Int))).getD [])).length : Int) > r.room) = true) ∧ True) ∧ True) ∧ (True ∧ True) ∧ True) ∧ True) ∧ True) ∧ True) ∧ True) ∧ True
def U_w0fulle (num : Int) (r : Rdr) : Rdr := { r with b := r.b, i := r.i, cp := r.cp, off := r.off, wire := r.wire, told := r.told, place := r.place }
theorem run_0_w0fulle (P : Params) (own : Obj → Prop) (n : Int) (l : List AV) (num : Int) (r0 r1 : Rdr) : run01 P (forBody P 7) [true, true, true, false, true, false, false, true] (st01 own n l num r0 r1) = some (.ok .next, [], C_w0fulle num (num.fmod 2 = ((0 : Nat) : Int)) r0, { fr := [[(Str.ofString "script", AV.lst l), (Str.ofString "first", AV.int n), (Str.ofString "rooms", AV.ref (1 : Nat)), (Str.ofString "readers", AV.ref (8 : Nat)), (Str.ofString "states", AV.ref (11 : Nat)), (Str.ofString "number", AV.int num), (Str.ofString "which", AV.int (num.fmod (2 : Int)))]], hp := [((17 : Nat), AObj.list [AV.bytes (List.map (fun (n : Int) => n.toNat.toUInt8) ((ints01 (num.fdiv (16 : Int))).getD []))])] ++ hp01 own (U_w0fulle num r0) r1, next := (18 : Nat) }) := by kernel_rfl
def C_w0eg (num : Int) (w : Prop) (r : Rdr) : Prop := ((True ∧ True ∧ (2 : Int) ≠ (0 : Int)) ∧ True ∧ True) ∧ ((((True ∧ (((True ∧ True ∧ w) ∧ ((True ∧ True ∧ w) ∧ (((True ∧ True ∧ (2 : Int) ≠ (0 : Int) ∧ Int.natAbs (2 : Int) < (1073741824 : Nat)) ∧ True ∧ (8 : Int) ≠ (0 : Int)) ∧ ((True ∧ True ∧ (16 : Int) ≠ (0 : Int) ∧ Int.natAbs (16 : Int) < (1073741824 : Nat)) ∧ True ∧ True) ∧ True) ∧ True) ∧ True) ∧ True ∧ True) ∧ (True ∧ (True ∧ True ∧ True ∧ True ∧ True ∧ True) ∧ True) ∧ ((True ∧ True ∧ (6 : Int) ≠ (0 : Int)) ∧ True ∧ True) ∧ ((True ∧ True ∧ True ∧ ((num.fdiv (2 : Int)).fmod (8 : Int) == (0 : Int)) = true) ∧ ((True ∧ ((((True ∧ (((True ∧ True ∧ (7 : Int) ≠ (0 : Int)) ∧ True ∧ True) ∧ True ∧ True) ∧ True) ∧ ((0 : Int) ≤ (num.fdiv (16 : Int)).fmod (7 : Int) ∧ (num.fdiv (16 : Int)).fmod (7 : Int) ≤ (16777216 : Int)) ∧ ∀ (k : Nat), k < ((num.fdiv (16 : Int)).fmod (7 : Int)).toNat → eltC elt01 (Str.ofString "k") (Str.ofString "rest") (↑k : Int) (num.fdiv (16 : Int))) ∧ True ∧ True) ∧ True ∧ True) ∧ ints01 (num.fdiv (16 : Int)) = some ((ints01 (num.fdiv (16 : Int))).getD []) ∧ (∀ (n : Int), n ∈ (ints01 (num.fdiv (16 : Int))).getD [] → (0 : Int) ≤ n ∧ n < (256 : Int)) ∧ ((ints01 (num.fdiv (16 : Int))).getD []).length ≤ (16777216 : Nat)) ∧ True ∧ True) ∧ ((((True ∧ True ∧ (2 : Int) ≠ (0 : Int)) ∧ True ∧ True ∧ ((num.fdiv (16 : Int)).fmod (2 : Int) == (1 : Int)) = false) ∧ True) ∧ True ∧ True) ∧ (((((True ∧ ((True ∧ True ∧ True) ∧ True ∧ True) ∧ r.wire.length ≤ (16777216 : Nat)) ∧ True ∧ True) ∧ (True ∧ ((True ∧ True ∧ True) ∧ True ∧ True) ∧ (List.map (fun (n : Int) => n.toNat.toUInt8) ((ints01 (num.fdiv (16 : Int))).getD [])).length ≤ (16777216 : Nat)) ∧ True) ∧ True ∧ True) ∧ True ∧ True) ∧ (((True ∧ ((True ∧ (True ∧ True ∧ True) ∧ True) ∧ True ∧ True) ∧ ((((True ∧ True ∧ ((True ∧ True ∧ True) ∧ True ∧ True) ∧ (((True ∧ True) ∧ True) ∧ True) ∧ ((True ∧ ((True ∧ True ∧ True) ∧ True ∧ True) ∧ ((True ∧ True ∧ ((((True ∧ True ∧ True) ∧ True) ∧ True ∧ True) ∧ True ∧ True) ∧ True) ∧ True ∧ True) ∧ (True ∧ True) ∧ True) ∧ True ∧ True) ∧ (((((True ∧ (((True ∧ True) ∧ True ∧ True) ∧ True ∧ True) ∧ r.b.length ≤ (16777216 : Nat)) ∧ (True ∧ True) ∧ True) ∧ (True ∧ ((True ∧ True ∧ True) ∧ True ∧ True) ∧ (List.map (fun (n : Int) => n.toNat.toUInt8) ((ints01 (num.fdiv (16 : Int))).getD [])).length ≤ (16777216 : Nat)) ∧ True) ∧ (True ∧ True) ∧ True ∧ decide ((↑r.b.length : Int) - r.i + (↑(List.map (fun (n : Int) => n.toNat.toUInt8) ((ints01 (num.fdiv (16 : Int))).getD [])).length : Int) > r.room) = false) ∧ True) ∧ (((True ∧ True) ∧ True ∧ True ∧ decide (r.cp > (0 : Int)) = true) ∧ (((True ∧ True) ∧ (True ∧ ((True ∧ True) ∧ True) ∧ True) ∧ (0 : Int) ≤ r.cp ∧ r.cp ≤ (↑r.b.length : Int) ∧ r.b.length ≤ (16777216 : Nat)) ∧ True) ∧ (True ∧ (True ∧ (True ∧ True) ∧ True) ∧ True ∧ True) ∧ (True ∧ (True ∧ True) ∧ True) ∧ True) ∧ (((True ∧ True) ∧ True ∧ ((True ∧ True ∧ True) ∧ True ∧ True) ∧ (List.drop r.cp.toNat r.b).length + (List.map (fun (n : Int) => n.toNat.toUInt8) ((ints01 (num.fdiv (16 : Int))).getD [])).length ≤ (16777216 : Nat)) ∧ True) ∧ True) ∧ True) ∧ True) ∧ True) ∧ (True ∧ True) ∧ True) ∧ True ∧ True ∧ (true == decide ((↑r.wire.length : Int) - r.place + (↑(List.map (fun (n : Int) => n.toNat.toUInt8) ((ints01 (num.fdiv (16 : Int))).getD [])).length : Int) > r.room)) = false) ∧ True) ∧ (((True ∧ True ∧ (2 : Int) ≠ (0 : Int)) ∧ True ∧ True ∧ ((num.fdiv (16 : Int)).fmod (2 : Int) == (1 : Int)) = false) ∧ True) ∧ (((True ∧ decide ((↑r.wire.length : Int) - r.place + (↑(List.map (fun (n : Int) => n.toNat.toUInt8) ((ints01 (num.fdiv (16 : Int))).getD [])).length : Int) > r.room) = false) ∧ True) ∧ ((True ∧ True ∧ r.wire.length + (List.map (fun (n : Int) => n.toNat.toUInt8) ((ints01 (num.fdiv (16 : Int))).getD [])).length ≤ (16777216 : Nat)) ∧ (True ∧ True ∧ (0 : Int) ≤ (0 : Int) ∧ (0 : Int) < (↑[AV.bytes r.wire, AV.int r.told, AV.int r.place, AV.int r.room].length : Int) ∧ [AV.bytes r.wire, AV.int r.told, AV.int r.place, AV.int r.room].length ≤ (1000 : Nat)) ∧ True) ∧ True) ∧ (True ∧ True) ∧ True) ∧ True) ∧ True) ∧ True) ∧ True) ∧ True
def U_w0eg (num : Int) (r : Rdr) : Rdr := { r with b := (List.drop r.cp.toNat r.b ++ List.map (fun (n : Int) => n.toNat.toUInt8) ((ints01 (num.fdiv (16 : Int))).getD [])), i := (r.i - r.cp), cp := (0 : Int), off := r.off, wire := (r.wire ++ List.map (fun (n : Int) => n.toNat.toUInt8) ((ints01 (num.fdiv (16 : Int))).getD [])), told := r.told, place := r.place }
theorem run_0_w0eg (P : Params) (own : Obj → Prop) (n : Int) (l : List AV) (num : Int) (r0 r1 : Rdr) : run01 P (forBody P 7) [true, true, true, false, false, true, false, false, false] (st01 own n l num r0 r1) = some (.ok .next, [], C_w0eg num (num.fmod 2 = ((0 : Nat) : Int)) r0, { fr := [[(Str.ofString "script", AV.lst l), (Str.ofString "first", AV.int n), (Str.ofString "rooms", AV.ref (1 : Nat)), (Str.ofString "readers", AV.ref (8 : Nat)), (Str.ofString "states", AV.ref (11 : Nat)), (Str.ofString "number", AV.int num), (Str.ofString "which", AV.int (num.fmod (2 : Int)))]], hp := [((17 : Nat), AObj.list [AV.bytes (List.map (fun (n : Int) => n.toNat.toUInt8) ((ints01 (num.fdiv (16 : Int))).getD []))])] ++ hp01 own (U_w0eg num r0) r1, next := (18 : Nat) }) := by kernel_rfl
def C_w0en (num : Int) (w : Prop) (r : Rdr) : Prop := ((True ∧ True ∧ (2 : Int) ≠ (0 : Int)) ∧ True ∧ True) ∧ ((((True ∧ (((True ∧ True ∧ w) ∧ ((True ∧ True ∧ w) ∧ (((True ∧ True ∧ (2 : Int) ≠ (0 : Int) ∧ Int.natAbs (2 : Int) < (1073741824 : Nat)) ∧ True ∧ (8 : Int) ≠ (0 : Int)) ∧ ((True ∧ True ∧ (16 : Int) ≠ (0 : Int) ∧ Int.natAbs (16 : Int) < (1073741824 : Nat)) ∧ True ∧ True) ∧ True) ∧ True) ∧ True) ∧ True ∧ True) ∧ (True ∧ (True ∧ True ∧ True ∧ True ∧ True ∧ True) ∧ True) ∧ ((True ∧ True ∧ (6 : Int) ≠ (0 : Int)) ∧ True ∧ True) ∧ ((True ∧ True ∧ True ∧ ((num.fdiv (2 : Int)).fmod (8 : Int) == (0 : Int)) = true) ∧ ((True ∧ ((((True ∧ (((True ∧ True ∧ (7 : Int) ≠ (0 : Int)) ∧ True ∧ True) ∧ True ∧ True) ∧ True) ∧ ((0 : Int) ≤ (num.fdiv (16 : Int)).fmod (7 : Int) ∧ (num.fdiv (16 : Int)).fmod (7 : Int) ≤ (16777216 : Int)) ∧ ∀ (k : Nat), k < ((num.fdiv (16 : Int)).fmod (7 : Int)).toNat → eltC elt01 (Str.ofString "k") (Str.ofString "rest") (↑k : Int) (num.fdiv (16 : Int))) ∧ True ∧ True) ∧ True ∧ True) ∧ ints01 (num.fdiv (16 : Int)) = some ((ints01 (num.fdiv (16 : Int))).getD []) ∧ (∀ (n : Int), n ∈ (ints01 (num.fdiv (16 : Int))).getD [] → (0 : Int) ≤ n ∧ n < (256 : Int)) ∧ ((ints01 (num.fdiv (16 : Int))).getD []).length ≤ (16777216 : Nat)) ∧ True ∧ True) ∧ ((((True ∧ True ∧ (2 : Int) ≠ (0 : Int)) ∧ True ∧ True ∧ ((num.fdiv (16 : Int)).fmod (2 : Int) == (1 : Int)) = false) ∧ True) ∧ True ∧ True) ∧ (((((True ∧ ((True ∧ True ∧ True) ∧ True ∧ True) ∧ r.wire.length ≤ (16777216 : Nat)) ∧ True ∧ True) ∧ (True ∧ ((True ∧ True ∧ True) ∧ True ∧ True) ∧ (List.map (fun (n : Int) => n.toNat.toUInt8) ((ints01 (num.fdiv (16 : Int))).getD [])).length ≤ (16777216 : Nat)) ∧ True) ∧ True ∧ True) ∧ True ∧ True) ∧ (((True ∧ ((True ∧ (True ∧ True ∧ True) ∧ True) ∧ True ∧ True) ∧ ((((True ∧ True ∧ ((True ∧ True ∧ True) ∧ True ∧ True) ∧ (((True ∧ True) ∧ True) ∧ True) ∧ ((True ∧ ((True ∧ True ∧ True) ∧ True ∧ True) ∧ ((True ∧ True ∧ ((((True ∧ True ∧ True) ∧ True) ∧ True ∧ True) ∧ True ∧ True) ∧ True) ∧ True ∧ True) ∧ (True ∧ True) ∧ True) ∧ True ∧ True) ∧ (((((True ∧ (((True ∧ True) ∧ True ∧ True) ∧ True ∧ True) ∧ r.b.length ≤ (16777216 : Nat)) ∧ (True ∧ True) ∧ True) ∧ (True ∧ ((True ∧ True ∧ True) ∧ True ∧ True) ∧ (List.map (fun (n : Int) => n.toNat.toUInt8) ((ints01 (num.fdiv (16 : Int))).getD [])).length ≤ (16777216 : Nat)) ∧ True) ∧ (True ∧ True) ∧ True ∧ decide ((↑r.b.length : Int) - r.i + (↑(List.map (fun (n : Int) => n.toNat.toUInt8) ((ints01 (num.fdiv (16 : Int))).getD [])).length : Int) > r.room) = false) ∧ True) ∧ (((True ∧ True) ∧ True ∧ True ∧ decide (r.cp > (0 : Int)) = false) ∧ True) ∧ (((True ∧ True) ∧ True ∧ ((True ∧ True ∧ True) ∧ True ∧ True) ∧ r.b.length + (List.map (fun (n : Int) => n.toNat.toUInt8) ((ints01 (num.fdiv (16 : Int))).getD [])).length ≤ (16777216 : Nat)) ∧ True) ∧ True) ∧ True) ∧ True) ∧ True) ∧ (True ∧ True) ∧ True) ∧ True ∧ True ∧ (true == decide ((↑r.wire.length : Int) - r.place + (↑(List.map (fun (n : Int) => n.toNat.toUInt8) ((ints01 (num.fdiv (16 : Int))).getD [])).length : Int) > r.room)) = false) ∧ True) ∧ (((True ∧ True ∧ (2 : Int) ≠ (0 : Int)) ∧ True ∧ True ∧ ((num.fdiv (16 : Int)).fmod (2 : Int) == (1 : Int)) = false) ∧ True) ∧ (((True ∧ decide ((↑r.wire.length : Int) - r.place + (↑(List.map (fun (n : Int) => n.toNat.toUInt8) ((ints01 (num.fdiv (16 : Int))).getD [])).length : Int) > r.room) = false) ∧ True) ∧ ((True ∧ True ∧ r.wire.length + (List.map (fun (n : Int) => n.toNat.toUInt8) ((ints01 (num.fdiv (16 : Int))).getD [])).length ≤ (16777216 : Nat)) ∧ (True ∧ True ∧ (0 : Int) ≤ (0 : Int) ∧ (0 : Int) < (↑[AV.bytes r.wire, AV.int r.told, AV.int r.place, AV.int r.room].length : Int) ∧ [AV.bytes r.wire, AV.int r.told, AV.int r.place, AV.int r.room].length ≤ (1000 : Nat)) ∧ True) ∧ True) ∧ (True ∧ True) ∧ True) ∧ True) ∧ True) ∧ True) ∧ True) ∧ True
def U_w0en (num : Int) (r : Rdr) : Rdr := { r with b := (r.b ++ List.map (fun (n : Int) => n.toNat.toUInt8) ((ints01 (num.fdiv (16 : Int))).getD [])), i := r.i, cp := r.cp, off := r.off, wire := (r.wire ++ List.map (fun (n : Int) => n.toNat.toUInt8) ((ints01 (num.fdiv (16 : Int))).getD [])), told := r.told, place := r.place }
theorem run_0_w0en (P : Params) (own : Obj → Prop) (n : Int) (l : List AV) (num : Int) (r0 r1 : Rdr) : run01 P (forBody P 7) [true, true, true, false, false, false, false, false, false] (st01 own n l num r0 r1) = some (.ok .next, [], C_w0en num (num.fmod 2 = ((0 : Nat) : Int)) r0, { fr := [[(Str.ofString "script", AV.lst l), (Str.ofString "first", AV.int n), (Str.ofString "rooms", AV.ref (1 : Nat)), (Str.ofString "readers", AV.ref (8 : Nat)), (Str.ofString "states", AV.ref (11 : Nat)), (Str.ofString "number", AV.int num), (Str.ofString "which", AV.int (num.fmod (2 : Int)))]], hp := [((17 : Nat), AObj.list [AV.bytes (List.map (fun (n : Int) => n.toNat.toUInt8) ((ints01 (num.fdiv (16 : Int))).getD []))])] ++ hp01 own (U_w0en num r0) r1, next := (18 : Nat) }) := by kernel_rfl
def C_w1ok (num : Int) (w : Prop) (r : Rdr) : Prop := ((True ∧ True ∧ (2 : Int) ≠ (0 : Int)) ∧ True ∧ True) ∧ ((((True ∧ (((True ∧ True ∧ w) ∧ ((True ∧ True ∧ w) ∧ (((True ∧ True ∧ (2 : Int) ≠ (0 : Int) ∧ Int.natAbs (2 : Int) < (1073741824 : Nat)) ∧ True ∧ (8 : Int) ≠ (0 : Int)) ∧ ((True ∧ True ∧ (16 : Int) ≠ (0 : Int) ∧ Int.natAbs (16 : Int) < (1073741824 : Nat)) ∧ True ∧ True) ∧ True) ∧ True) ∧ True) ∧ True ∧ True) ∧ (True ∧ (True ∧ True ∧ True ∧ True ∧ True ∧ True) ∧ True) ∧ ((True ∧ True ∧ (6 : Int) ≠ (0 : Int)) ∧ True ∧ True) ∧ ((True ∧ True ∧ True ∧ ((num.fdiv (2 : Int)).fmod (8 : Int) == (0 : Int)) = false) ∧ True) ∧ (((True ∧ True ∧ True ∧ ((num.fdiv (2 : Int)).fmod (8 : Int) == (1 : Int)) = true) ∧ True) ∧ ((True ∧ ((True ∧ (True ∧ (True ∧ True ∧ True) ∧ True) ∧ True) ∧ True ∧ True) ∧ (((True ∧ True ∧ True ∧ ((num.fdiv (2 : Int)).fmod (8 : Int) == (1 : Int)) = true) ∧ (((True ∧ ((True ∧ True ∧ ((True ∧ True ∧ True) ∧ True ∧ True) ∧ ((True ∧ True ∧ ((True ∧ True ∧ True) ∧ (True ∧ True ∧ True) ∧ True) ∧ ((((True ∧ (((True ∧ True) ∧ True ∧ True) ∧ True ∧ True) ∧ r.b.length ≤ (16777216 : Nat)) ∧ (True ∧ True) ∧ True) ∧ True ∧ True) ∧ True ∧ True) ∧ ((True ∧ True ∧ True ∧ decide ((↑r.b.length : Int) - r.i - (num.fdiv (16 : Int)).fmod (6 : Int) ≥ (0 : Int)) = true) ∧ True ∧ True) ∧ True) ∧ True) ∧ ((True ∧ True) ∧ True ∧ True) ∧ (((True ∧ True) ∧ ((True ∧ True) ∧ ((True ∧ True ∧ True) ∧ True) ∧ True) ∧ r.b.length ≤ (16777216 : Nat)) ∧ True ∧ True) ∧ ((True ∧ (True ∧ ((True ∧ True ∧ True) ∧ True ∧ True) ∧ (cut (some r.i) (some (r.i + (num.fdiv (16 : Int)).fmod (6 : Int))) r.b).length ≤ (16777216 : Nat)) ∧ True) ∧ (True ∧ True) ∧ True) ∧ (True ∧ True) ∧ True) ∧ True ∧ True) ∧ True) ∧ True) ∧ True) ∧ True) ∧ True) ∧ True) ∧ True ∧ True) ∧ (((True ∧ True ∧ True) ∧ (True ∧ ((True ∧ True ∧ True) ∧ True ∧ True) ∧ r.wire.length ≤ (16777216 : Nat)) ∧ True ∧ decide (r.place + (num.fdiv (16 : Int)).fmod (6 : Int) > (↑r.wire.length : Int)) = false) ∧ True) ∧ ((True ∧ ((True ∧ True) ∧ ((True ∧ True ∧ True) ∧ True) ∧ True) ∧ r.wire.length ≤ (16777216 : Nat)) ∧ True ∧ True) ∧ ((True ∧ True ∧ True ∧ ((num.fdiv (2 : Int)).fmod (8 : Int) == (1 : Int)) = true) ∧ ((True ∧ True ∧ True) ∧ (True ∧ True ∧ (0 : Int) ≤ (2 : Int) ∧ (2 : Int) < (↑[AV.bytes r.wire, AV.int r.told, AV.int r.place, AV.int r.room].length : Int) ∧ [AV.bytes r.wire, AV.int r.told, AV.int r.place, AV.int r.room].length ≤ (1000 : Nat)) ∧ True) ∧ ((((True ∧ True ∧ (0 : Int) ≤ (0 : Int) ∧ (0 : Int) < (1000 : Int)) ∧ True ∧ True) ∧ (Str.ofString "octets" == Str.ofString "octets") = true ∧ (True ∧ (((True ∧ True ∧ (0 : Int) ≤ (1 : Int) ∧ (1 : Int) < (1000 : Int)) ∧ (True ∧ True ∧ True) ∧ True) ∧ True ∧ True) ∧ True) ∧ True ∧ (True ∧ (((True ∧ True ∧ (0 : Int) ≤ (1 : Int) ∧ (1 : Int) < (1000 : Int)) ∧ True ∧ True) ∧ True ∧ True) ∧ (cut (some r.i) (some (r.i + (num.fdiv (16 : Int)).fmod (6 : Int))) r.b).length ≤ (16777216 : Nat)) ∧ True ∧ True) ∧ True) ∧ True) ∧ True) ∧ True) ∧ (cut (some r.i) (some (r.i + (num.fdiv (16 : Int)).fmod (6 : Int))) r.b == cut (some r.place) (some (r.place + (num.fdiv (16 : Int)).fmod (6 : Int))) r.wire) = true) ∧ True) ∧ True) ∧ True
def U_w1ok (num : Int) (r : Rdr) : Rdr := { r with b := r.b, i := (r.i + (↑(cut (some r.i) (some (r.i + (num.fdiv (16 : Int)).fmod (6 : Int))) r.b).length : Int)), cp := r.cp, off := r.off, wire := r.wire, told := r.told, place := (r.place + (num.fdiv (16 : Int)).fmod (6 : Int)) }
theorem run_0_w1ok (P : Params) (own : Obj → Prop) (n : Int) (l : List AV) (num : Int) (r0 r1 : Rdr) : run01 P (forBody P 7) [true, true, false, true, true, true, false, true, true, true] (st01 own n l num r0 r1) = some (.ok .next, [], C_w1ok num (num.fmod 2 = ((0 : Nat) : Int)) r0, { fr := [[(Str.ofString "script", AV.lst l), (Str.ofString "first", AV.int n), (Str.ofString "rooms", AV.ref (1 : Nat)), (Str.ofString "readers", AV.ref (8 : Nat)), (Str.ofString "states", AV.ref (11 : Nat)), (Str.ofString "number", AV.int num), (Str.ofString "which", AV.int (num.fmod (2 : Int)))]], hp := [((17 : Nat), AObj.barr (cut (some r0.i) (some (r0.i + (num.fdiv (16 : Int)).fmod (6 : Int))) r0.b))] ++ hp01 own (U_w1ok num r0) r1, next := (18 : Nat) }) := by kernel_rfl
def C_w1short (num : Int) (w : Prop) (r : Rdr) : Prop := ((True ∧ True ∧ (2 : Int) ≠ (0 : Int)) ∧ True ∧ True) ∧ ((((True ∧ (((True ∧ True ∧ w) ∧ ((True ∧ True ∧ w) ∧ (((True ∧ True ∧ (2 : Int) ≠ (0 : Int) ∧ Int.natAbs (2 : Int) < (1073741824 : Nat)) ∧ True ∧ (8 : Int) ≠ (0 : Int)) ∧ ((True ∧ True ∧ (16 : Int) ≠ (0 : Int) ∧ Int.natAbs (16 : Int) < (1073741824 : Nat)) ∧ True ∧ True) ∧ True) ∧ True) ∧ True) ∧ True ∧ True) ∧ (True ∧ (True ∧ True ∧ True ∧ True ∧ True ∧ True) ∧ True) ∧ ((True ∧ True ∧ (6 : Int) ≠ (0 : Int)) ∧ True ∧ True) ∧ ((True ∧ True ∧ True ∧ ((num.fdiv (2 : Int)).fmod (8 : Int) == (0 : Int)) = false) ∧ True) ∧ (((True ∧ True ∧ True ∧ ((num.fdiv (2 : Int)).fmod (8 : Int) == (1 : Int)) = true) ∧ True) ∧ ((True ∧ ((True ∧ (True ∧ (True ∧ True ∧ True) ∧ True) ∧ True) ∧ True ∧ True) ∧ (((True ∧ True ∧ True ∧ ((num.fdiv (2 : Int)).fmod (8 : Int) == (1 : Int)) = true) ∧ True ∧ True ∧ True ∧ ((True ∧ True ∧ True) ∧ True ∧ True) ∧ True ∧ True ∧ ((True ∧ True ∧ True) ∧ (True ∧ True ∧ True) ∧ True) ∧ ((((True ∧ (((True ∧ True) ∧ True ∧ True) ∧ True ∧ True) ∧ r.b.length ≤ (16777216 : Nat)) ∧ (True ∧ True) ∧ True) ∧ True ∧ True) ∧ True ∧ True) ∧ ((True ∧ True ∧ True ∧ decide ((↑r.b.length : Int) - r.i - (num.fdiv (16 : Int)).fmod (6 : Int) ≥ (0 : Int)) = false) ∧ True) ∧ ((True ∧ True) ∧ True) ∧ ((True ∧ True) ∧ (True ∧ True) ∧ True) ∧ True ∧ True) ∧ (((True ∧ True ∧ True) ∧ True) ∧ True) ∧ True) ∧ True) ∧ True ∧ True) ∧ (((True ∧ True ∧ True) ∧ (True ∧ ((True ∧ True ∧ True) ∧ True ∧ True) ∧ r.wire.length ≤ (16777216 : Nat)) ∧ True ∧ decide (r.place + (num.fdiv (16 : Int)).fmod (6 : Int) > (↑r.wire.length : Int)) = true) ∧ (True ∧ (True ∧ True ∧ (0 : Int) ≤ (2 : Int) ∧ (2 : Int) < (↑[AV.bytes r.wire, AV.int r.told, AV.int r.place, AV.int r.room].length : Int) ∧ [AV.bytes r.wire, AV.int r.told, AV.int r.place, AV.int r.room].length ≤ (1000 : Nat)) ∧ True) ∧ ((True ∧ ((True ∧ True ∧ True) ∧ True) ∧ True) ∧ True) ∧ True) ∧ True) ∧ True) ∧ (Str.ofString "short" == Str.ofString "short" && true) = true) ∧ True) ∧ True) ∧ True
def U_w1short (num : Int) (r : Rdr) : Rdr := { r with b := r.b, i := r.cp, cp := r.cp, off := r.off, wire := r.wire, told := r.told, place := r.told }
theorem run_0_w1short (P : Params) (own : Obj → Prop) (n : Int) (l : List AV) (num : Int) (r0 r1 : Rdr) : run01 P (forBody P 7) [true, true, false, true, true, false, true, true] (st01 own n l num r0 r1) = some (.ok .next, [], C_w1short num (num.fmod 2 = ((0 : Nat) : Int)) r0, { fr := [[(Str.ofString "script", AV.lst l), (Str.ofString "first", AV.int n), (Str.ofString "rooms", AV.ref (1 : Nat)), (Str.ofString "readers", AV.ref (8 : Nat)), (Str.ofString "states", AV.ref (11 : Nat)), (Str.ofString "number", AV.int num), (Str.ofString "which", AV.int (num.fmod (2 : Int)))]], hp := [] ++ hp01 own (U_w1short num r0) r1, next := (17 : Nat) }) := by kernel_rfl
def C_w2ok (num : Int) (w : Prop) (r : Rdr) : Prop := ((True ∧ True ∧ (2 : Int) ≠ (0 : Int)) ∧ True ∧ True) ∧ ((((True ∧ (((True ∧ True ∧ w) ∧ ((True ∧ True ∧ w) ∧ (((True ∧ True ∧ (2 : Int) ≠ (0 : Int) ∧ Int.natAbs (2 : Int) < (1073741824 : Nat)) ∧ True ∧ (8 : Int) ≠ (0 : Int)) ∧ ((True ∧ True ∧ (16 : Int) ≠ (0 : Int) ∧ Int.natAbs (16 : Int) < (1073741824 : Nat)) ∧ True ∧ True) ∧ True) ∧ True) ∧ True) ∧ True ∧ True) ∧ (True ∧ (True ∧ True ∧ True ∧ True ∧ True ∧ True) ∧ True) ∧ ((True ∧ True ∧ (6 : Int) ≠ (0 : Int)) ∧ True ∧ True) ∧ ((True ∧ True ∧ True ∧ ((num.fdiv (2 : Int)).fmod (8 : Int) == (0 : Int)) = false) ∧ True) ∧ (((True ∧ True ∧ True ∧ ((num.fdiv (2 : Int)).fmod (8 : Int) == (1 : Int)) = false) ∧ (True ∧ True ∧ True ∧ ((num.fdiv (2 : Int)).fmod (8 : Int) == (2 : Int)) = true) ∧ True) ∧ ((True ∧ ((True ∧ (True ∧ (True ∧ True ∧ True) ∧ True) ∧ True) ∧ True ∧ True) ∧ (((True ∧ True ∧ True ∧ ((num.fdiv (2 : Int)).fmod (8 : Int) == (1 : Int)) = false) ∧ True) ∧ ((True ∧ True ∧ True ∧ ((num.fdiv (2 : Int)).fmod (8 : Int) == (2 : Int)) = true) ∧ (((True ∧ ((True ∧ True ∧ ((True ∧ True ∧ True) ∧ True ∧ True) ∧ ((((True ∧ (((True ∧ True) ∧ True ∧ True) ∧ True ∧ True) ∧ r.b.length ≤ (16777216 : Nat)) ∧ (True ∧ True) ∧ True) ∧ True ∧ True) ∧ True ∧ True) ∧ ((True ∧ True ∧ True ∧ decide ((↑r.b.length : Int) - r.i - (num.fdiv (16 : Int)).fmod (6 : Int) ≥ (0 : Int)) = true) ∧ True ∧ True) ∧ True) ∧ True ∧ True) ∧ True) ∧ True) ∧ True) ∧ True) ∧ True) ∧ True) ∧ True ∧ True) ∧ (((True ∧ True ∧ True) ∧ (True ∧ ((True ∧ True ∧ True) ∧ True ∧ True) ∧ r.wire.length ≤ (16777216 : Nat)) ∧ True ∧ decide (r.place + (num.fdiv (16 : Int)).fmod (6 : Int) > (↑r.wire.length : Int)) = false) ∧ True) ∧ ((True ∧ ((True ∧ True) ∧ ((True ∧ True ∧ True) ∧ True) ∧ True) ∧ r.wire.length ≤ (16777216 : Nat)) ∧ True ∧ True) ∧ ((True ∧ True ∧ True ∧ ((num.fdiv (2 : Int)).fmod (8 : Int) == (1 : Int)) = false) ∧ True) ∧ ((True ∧ True ∧ True ∧ ((num.fdiv (2 : Int)).fmod (8 : Int) == (2 : Int)) = true) ∧ ((True ∧ ((True ∧ (True ∧ True ∧ True) ∧ True) ∧ True) ∧ True) ∧ True) ∧ True) ∧ True) ∧ True) ∧ (Str.ofString "kept" == Str.ofString "kept" && (true && true)) = true) ∧ True) ∧ True) ∧ True
def U_w2ok (num : Int) (r : Rdr) : Rdr := { r with b := r.b, i := r.i, cp := r.cp, off := r.off, wire := r.wire, told := r.told, place := r.place }
theorem run_0_w2ok (P : Params) (own : Obj → Prop) (n : Int) (l : List AV) (num : Int) (r0 r1 : Rdr) : run01 P (forBody P 7) [true, true, false, false, true, false, true, true, false, false, true, true] (st01 own n l num r0 r1) = some (.ok .next, [], C_w2ok num (num.fmod 2 = ((0 : Nat) : Int)) r0, { fr := [[(Str.ofString "script", AV.lst l), (Str.ofString "first", AV.int n), (Str.ofString "rooms", AV.ref (1 : Nat)), (Str.ofString "readers", AV.ref (8 : Nat)), (Str.ofString "states", AV.ref (11 : Nat)), (Str.ofString "number", AV.int num), (Str.ofString "which", AV.int (num.fmod (2 : Int)))]], hp := [] ++ hp01 own (U_w2ok num r0) r1, next := (17 : Nat) }) := by kernel_rfl
def C_w2short (num : Int) (w : Prop) (r : Rdr) : Prop := ((True ∧ True ∧ (2 : Int) ≠ (0 : Int)) ∧ True ∧ True) ∧ ((((True ∧ (((True ∧ True ∧ w) ∧ ((True ∧ True ∧ w) ∧ (((True ∧ True ∧ (2 : Int) ≠ (0 : Int) ∧ Int.natAbs (2 : Int) < (1073741824 : Nat)) ∧ True ∧ (8 : Int) ≠ (0 : Int)) ∧ ((True ∧ True ∧ (16 : Int) ≠ (0 : Int) ∧ Int.natAbs (16 : Int) < (1073741824 : Nat)) ∧ True ∧ True) ∧ True) ∧ True) ∧ True) ∧ True ∧ True) ∧ (True ∧ (True ∧ True ∧ True ∧ True ∧ True ∧ True) ∧ True) ∧ ((True ∧ True ∧ (6 : Int) ≠ (0 : Int)) ∧ True ∧ True) ∧ ((True ∧ True ∧ True ∧ ((num.fdiv (2 : Int)).fmod (8 : Int) == (0 : Int)) = false) ∧ True) ∧ (((True ∧ True ∧ True ∧ ((num.fdiv (2 : Int)).fmod (8 : Int) == (1 : Int)) = false) ∧ (True ∧ True ∧ True ∧ ((num.fdiv (2 : Int)).fmod (8 : Int) == (2 : Int)) = true) ∧ True) ∧ ((True ∧ ((True ∧ (True ∧ (True ∧ True ∧ True) ∧ True) ∧ True) ∧ True ∧ True) ∧ ((((True ∧ True ∧ True ∧ ((num.fdiv (2 : Int)).fmod (8 : Int) == (1 : Int)) = false) ∧ True) ∧ (True ∧ True ∧ True ∧ ((num.fdiv (2 : Int)).fmod (8 : Int) == (2 : Int)) = true) ∧ True ∧ True ∧ True ∧ ((True ∧ True ∧ True) ∧ True ∧ True) ∧ ((((True ∧ (((True ∧ True) ∧ True ∧ True) ∧ True ∧ True) ∧ r.b.length ≤ (16777216 : Nat)) ∧ (True ∧ True) ∧ True) ∧ True ∧ True) ∧ True ∧ True) ∧ ((True ∧ True ∧ True ∧ decide ((↑r.b.length : Int) - r.i - (num.fdiv (16 : Int)).fmod (6 : Int) ≥ (0 : Int)) = false) ∧ True) ∧ ((True ∧ True) ∧ True) ∧ ((True ∧ True) ∧ (True ∧ True) ∧ True) ∧ True ∧ True) ∧ (((True ∧ True ∧ True) ∧ True) ∧ True) ∧ True) ∧ True) ∧ True ∧ True) ∧ (((True ∧ True ∧ True) ∧ (True ∧ ((True ∧ True ∧ True) ∧ True ∧ True) ∧ r.wire.length ≤ (16777216 : Nat)) ∧ True ∧ decide (r.place + (num.fdiv (16 : Int)).fmod (6 : Int) > (↑r.wire.length : Int)) = true) ∧ (True ∧ (True ∧ True ∧ (0 : Int) ≤ (2 : Int) ∧ (2 : Int) < (↑[AV.bytes r.wire, AV.int r.told, AV.int r.place, AV.int r.room].length : Int) ∧ [AV.bytes r.wire, AV.int r.told, AV.int r.place, AV.int r.room].length ≤ (1000 : Nat)) ∧ True) ∧ ((True ∧ ((True ∧ True ∧ True) ∧ True) ∧ True) ∧ True) ∧ True) ∧ True) ∧ True) ∧ (Str.ofString "short" == Str.ofString "short" && true) = true) ∧ True) ∧ True) ∧ True
def U_w2short (num : Int) (r : Rdr) : Rdr := { r with b := r.b, i := r.cp, cp := r.cp, off := r.off, wire := r.wire, told := r.told, place := r.told }
theorem run_0_w2short (P : Params) (own : Obj → Prop) (n : Int) (l : List AV) (num : Int) (r0 r1 : Rdr) : run01 P (forBody P 7) [true, true, false, false, true, false, true, false, true, true] (st01 own n l num r0 r1) = some (.ok .next, [], C_w2short num (num.fmod 2 = ((0 : Nat) : Int)) r0, { fr := [[(Str.ofString "script", AV.lst l), (Str.ofString "first", AV.int n), (Str.ofString "rooms", AV.ref (1 : Nat)), (Str.ofString "readers", AV.ref (8 : Nat)), (Str.ofString "states", AV.ref (11 : Nat)), (Str.ofString "number", AV.int num), (Str.ofString "which", AV.int (num.fmod (2 : Int)))]], hp := [] ++ hp01 own (U_w2short num r0) r1, next := (17 : Nat) }) := by kernel_rfl
def C_w6ok (num : Int) (w : Prop) (r : Rdr) : Prop := ((True ∧ True ∧ (2 : Int) ≠ (0 : Int)) ∧ True ∧ True) ∧ ((((True ∧ (((True ∧ True ∧ w) ∧ ((True ∧ True ∧ w) ∧ (((True ∧ True ∧ (2 : Int) ≠ (0 : Int) ∧ Int.natAbs (2 : Int) < (1073741824 : Nat)) ∧ True ∧ (8 : Int) ≠ (0 : Int)) ∧ ((True ∧ True ∧ (16 : Int) ≠ (0 : Int) ∧ Int.natAbs (16 : Int) < (1073741824 : Nat)) ∧ True ∧ True) ∧ True) ∧ True) ∧ True) ∧ True ∧ True) ∧ (True ∧ (True ∧ True ∧ True ∧ True ∧ True ∧ True) ∧ True) ∧ ((True ∧ True ∧ (6 : Int) ≠ (0 : Int)) ∧ True ∧ True) ∧ ((True ∧ True ∧ True ∧ ((num.fdiv (2 : Int)).fmod (8 : Int) == (0 : Int)) = false) ∧ True) ∧ (((True ∧ True ∧ True ∧ ((num.fdiv (2 : Int)).fmod (8 : Int) == (1 : Int)) = false) ∧ (True ∧ True ∧ True ∧ ((num.fdiv (2 : Int)).fmod (8 : Int) == (2 : Int)) = false) ∧ (True ∧ True ∧ True ∧ ((num.fdiv (2 : Int)).fmod (8 : Int) == (6 : Int)) = true) ∧ True) ∧ ((True ∧ ((True ∧ (True ∧ (True ∧ True ∧ True) ∧ True) ∧ True) ∧ True ∧ True) ∧ (((True ∧ True ∧ True ∧ ((num.fdiv (2 : Int)).fmod (8 : Int) == (1 : Int)) = false) ∧ True) ∧ ((True ∧ True ∧ True ∧ ((num.fdiv (2 : Int)).fmod (8 : Int) == (2 : Int)) = false) ∧ True) ∧ (((True ∧ ((True ∧ True ∧ ((True ∧ True ∧ True) ∧ True ∧ True) ∧ ((True ∧ True ∧ ((True ∧ True ∧ True) ∧ (True ∧ True ∧ True) ∧ True) ∧ ((True ∧ True ∧ ((True ∧ True ∧ True) ∧ (True ∧ True ∧ True) ∧ True) ∧ ((((True ∧ (((True ∧ True) ∧ True ∧ True) ∧ True ∧ True) ∧ r.b.length ≤ (16777216 : Nat)) ∧ (True ∧ True) ∧ True) ∧ True ∧ True) ∧ True ∧ True) ∧ ((True ∧ True ∧ True ∧ decide ((↑r.b.length : Int) - r.i - (num.fdiv (16 : Int)).fmod (6 : Int) ≥ (0 : Int)) = true) ∧ True ∧ True) ∧ True) ∧ True) ∧ ((True ∧ True) ∧ True ∧ True) ∧ (((True ∧ True) ∧ ((True ∧ True) ∧ ((True ∧ True ∧ True) ∧ True) ∧ True) ∧ r.b.length ≤ (16777216 : Nat)) ∧ True ∧ True) ∧ ((True ∧ (True ∧ ((True ∧ True ∧ True) ∧ True ∧ True) ∧ (cut (some r.i) (some (r.i + (num.fdiv (16 : Int)).fmod (6 : Int))) r.b).length ≤ (16777216 : Nat)) ∧ True) ∧ (True ∧ True) ∧ True) ∧ (True ∧ True) ∧ True) ∧ True ∧ True) ∧ ((True ∧ True ∧ (True ∧ True ∧ True) ∧ (True ∧ (True ∧ ((True ∧ True) ∧ (True ∧ True) ∧ True) ∧ True) ∧ True ∧ True) ∧ ((True ∧ True) ∧ (True ∧ True) ∧ True) ∧ True) ∧ True) ∧ ((True ∧ ((True ∧ True ∧ True) ∧ True ∧ True) ∧ (cut (some r.i) (some (r.i + (num.fdiv (16 : Int)).fmod (6 : Int))) r.b).length ≤ (16777216 : Nat)) ∧ True) ∧ True) ∧ True ∧ True) ∧ True) ∧ True) ∧ True) ∧ True) ∧ True) ∧ True ∧ True) ∧ (((True ∧ True ∧ True) ∧ (True ∧ ((True ∧ True ∧ True) ∧ True ∧ True) ∧ r.wire.length ≤ (16777216 : Nat)) ∧ True ∧ decide (r.place + (num.fdiv (16 : Int)).fmod (6 : Int) > (↑r.wire.length : Int)) = false) ∧ True) ∧ ((True ∧ ((True ∧ True) ∧ ((True ∧ True ∧ True) ∧ True) ∧ True) ∧ r.wire.length ≤ (16777216 : Nat)) ∧ True ∧ True) ∧ ((True ∧ True ∧ True ∧ ((num.fdiv (2 : Int)).fmod (8 : Int) == (1 : Int)) = false) ∧ True) ∧ ((True ∧ True ∧ True ∧ ((num.fdiv (2 : Int)).fmod (8 : Int) == (2 : Int)) = false) ∧ True) ∧ ((True ∧ True ∧ True) ∧ (True ∧ True ∧ (0 : Int) ≤ (1 : Int) ∧ (1 : Int) < (↑[AV.bytes r.wire, AV.int r.told, AV.int r.place, AV.int r.room].length : Int) ∧ [AV.bytes r.wire, AV.int r.told, AV.int r.place, AV.int r.room].length ≤ (1000 : Nat)) ∧ True) ∧ ((True ∧ True ∧ True) ∧ (True ∧ True ∧ (0 : Int) ≤ (2 : Int) ∧ (2 : Int) < (↑([AV.bytes r.wire, AV.int r.told, AV.int r.place, AV.int r.room].set (Int.toNat (1 : Int)) (AV.int (r.place + (num.fdiv (16 : Int)).fmod (6 : Int)))).length : Int) ∧ ([AV.bytes r.wire, AV.int r.told, AV.int r.place, AV.int r.room].set (Int.toNat (1 : Int)) (AV.int (r.place + (num.fdiv (16 : Int)).fmod (6 : Int)))).length ≤ (1000 : Nat)) ∧ True) ∧ ((((True ∧ True ∧ (0 : Int) ≤ (0 : Int) ∧ (0 : Int) < (1000 : Int)) ∧ True ∧ True) ∧ (Str.ofString "plain" == Str.ofString "plain") = true ∧ (True ∧ (((True ∧ True ∧ (0 : Int) ≤ (1 : Int) ∧ (1 : Int) < (1000 : Int)) ∧ (True ∧ True ∧ True) ∧ True) ∧ True ∧ True) ∧ True) ∧ True ∧ (True ∧ True ∧ (0 : Int) ≤ (1 : Int) ∧ (1 : Int) < (1000 : Int)) ∧ True ∧ True) ∧ True) ∧ True) ∧ True) ∧ (cut (some r.i) (some (r.i + (num.fdiv (16 : Int)).fmod (6 : Int))) r.b == cut (some r.place) (some (r.place + (num.fdiv (16 : Int)).fmod (6 : Int))) r.wire) = true) ∧ True) ∧ True) ∧ True
def U_w6ok (num : Int) (r : Rdr) : Rdr := { r with b := r.b, i := (r.i + (↑(cut (some r.i) (some (r.i + (num.fdiv (16 : Int)).fmod (6 : Int))) r.b).length : Int)), cp := (r.i + (↑(cut (some r.i) (some (r.i + (num.fdiv (16 : Int)).fmod (6 : Int))) r.b).length : Int)), off := (r.off + (r.i + (↑(cut (some r.i) (some (r.i + (num.fdiv (16 : Int)).fmod (6 : Int))) r.b).length : Int) - r.cp)), wire := r.wire, told := (r.place + (num.fdiv (16 : Int)).fmod (6 : Int)), place := (r.place + (num.fdiv (16 : Int)).fmod (6 : Int)) }
theorem run_0_w6ok (P : Params) (own : Obj → Prop) (n : Int) (l : List AV) (num : Int) (r0 r1 : Rdr) : run01 P (forBody P 7) [true, true, false, false, false, true, false, false, true, false, false, false, true, true] (st01 own n l num r0 r1) = some (.ok .next, [], C_w6ok num (num.fmod 2 = ((0 : Nat) : Int)) r0, { fr := [[(Str.ofString "script", AV.lst l), (Str.ofString "first", AV.int n), (Str.ofString "rooms", AV.ref (1 : Nat)), (Str.ofString "readers", AV.ref (8 : Nat)), (Str.ofString "states", AV.ref (11 : Nat)), (Str.ofString "number", AV.int num), (Str.ofString "which", AV.int (num.fmod (2 : Int)))]], hp := [((17 : Nat), AObj.barr (cut (some r0.i) (some (r0.i + (num.fdiv (16 : Int)).fmod (6 : Int))) r0.b))] ++ hp01 own (U_w6ok num r0) r1, next := (18 : Nat) }) := by kernel_rfl
def C_w6short (num : Int) (w : Prop) (r : Rdr) : Prop := ((True ∧ True ∧ (2 : Int) ≠ (0 : Int)) ∧ True ∧ True) ∧ ((((True ∧ (((True ∧ True ∧ w) ∧ ((True ∧ True ∧ w) ∧ (((True ∧ True ∧ (2 : Int) ≠ (0 : Int) ∧ Int.natAbs (2 : Int) < (1073741824 : Nat)) ∧ True ∧ (8 : Int) ≠ (0 : Int)) ∧ ((True ∧ True ∧ (16 : Int) ≠ (0 : Int) ∧ Int.natAbs (16 : Int) < (1073741824 : Nat)) ∧ True ∧ True) ∧ True) ∧ True) ∧ True) ∧ True ∧ True) ∧ (True ∧ (True ∧ True ∧ True ∧ True ∧ True ∧ True) ∧ True) ∧ ((True ∧ True ∧ (6 : Int) ≠ (0 : Int)) ∧ True ∧ True) ∧ ((True ∧ True ∧ True ∧ ((num.fdiv (2 : Int)).fmod (8 : Int) == (0 : Int)) = false) ∧ True) ∧ (((True ∧ True ∧ True ∧ ((num.fdiv (2 : Int)).fmod (8 : Int) == (1 : Int)) = false) ∧ (True ∧ True ∧ True ∧ ((num.fdiv (2 : Int)).fmod (8 : Int) == (2 : Int)) = false) ∧ (True ∧ True ∧ True ∧ ((num.fdiv (2 : Int)).fmod (8 : Int) == (6 : Int)) = true) ∧ True) ∧ ((True ∧ ((True ∧ (True ∧ (True ∧ True ∧ True) ∧ True) ∧ True) ∧ True ∧ True) ∧ ((((True ∧ True ∧ True ∧ ((num.fdiv (2 : Int)).fmod (8 : Int) == (1 : Int)) = false) ∧ True) ∧ ((True ∧ True ∧ True ∧ ((num.fdiv (2 : Int)).fmod (8 : Int) == (2 : Int)) = false) ∧ True) ∧ True ∧ True ∧ True ∧ ((True ∧ True ∧ True) ∧ True ∧ True) ∧ True ∧ True ∧ ((True ∧ True ∧ True) ∧ (True ∧ True ∧ True) ∧ True) ∧ True ∧ True ∧ ((True ∧ True ∧ True) ∧ (True ∧ True ∧ True) ∧ True) ∧ ((((True ∧ (((True ∧ True) ∧ True ∧ True) ∧ True ∧ True) ∧ r.b.length ≤ (16777216 : Nat)) ∧ (True ∧ True) ∧ True) ∧ True ∧ True) ∧ True ∧ True) ∧ ((True ∧ True ∧ True ∧ decide ((↑r.b.length : Int) - r.i - (num.fdiv (16 : Int)).fmod (6 : Int) ≥ (0 : Int)) = false) ∧ True) ∧ ((True ∧ True) ∧ True) ∧ ((True ∧ True) ∧ (True ∧ True) ∧ True) ∧ True ∧ True) ∧ (((True ∧ True ∧ True) ∧ True) ∧ True) ∧ True) ∧ True) ∧ True ∧ True) ∧ (((True ∧ True ∧ True) ∧ (True ∧ ((True ∧ True ∧ True) ∧ True ∧ True) ∧ r.wire.length ≤ (16777216 : Nat)) ∧ True ∧ decide (r.place + (num.fdiv (16 : Int)).fmod (6 : Int) > (↑r.wire.length : Int)) = true) ∧ (True ∧ (True ∧ True ∧ (0 : Int) ≤ (2 : Int) ∧ (2 : Int) < (↑[AV.bytes r.wire, AV.int r.told, AV.int r.place, AV.int r.room].length : Int) ∧ [AV.bytes r.wire, AV.int r.told, AV.int r.place, AV.int r.room].length ≤ (1000 : Nat)) ∧ True) ∧ ((True ∧ ((True ∧ True ∧ True) ∧ True) ∧ True) ∧ True) ∧ True) ∧ True) ∧ True) ∧ (Str.ofString "short" == Str.ofString "short" && true) = true) ∧ True) ∧ True) ∧ True
def U_w6short (num : Int) (r : Rdr) : Rdr := { r with b := r.b, i := r.cp, cp := r.cp, off := r.off, wire := r.wire, told := r.told, place := r.told }
theorem run_0_w6short (P : Params) (own : Obj → Prop) (n : Int) (l : List AV) (num : Int) (r0 r1 : Rdr) : run01 P (forBody P 7) [true, true, false, false, false, true, false, false, false, true, true] (st01 own n l num r0 r1) = some (.ok .next, [], C_w6short num (num.fmod 2 = ((0 : Nat) : Int)) r0, { fr := [[(Str.ofString "script", AV.lst l), (Str.ofString "first", AV.int n), (Str.ofString "rooms", AV.ref (1 : Nat)), (Str.ofString "readers", AV.ref (8 : Nat)), (Str.ofString "states", AV.ref (11 : Nat)), (Str.ofString "number", AV.int num), (Str.ofString "which", AV.int (num.fmod (2 : Int)))]], hp := [] ++ hp01 own (U_w6short num r0) r1, next := (17 : Nat) }) := by kernel_rfl
def C_w3 (num : Int) (w : Prop) (r : Rdr) : Prop := ((True ∧ True ∧ (2 : Int) ≠ (0 : Int)) ∧ True ∧ True) ∧ ((((True ∧ (((True ∧ True ∧ w) ∧ ((True ∧ True ∧ w) ∧ (((True ∧ True ∧ (2 : Int) ≠ (0 : Int) ∧ Int.natAbs (2 : Int) < (1073741824 : Nat)) ∧ True ∧ (8 : Int) ≠ (0 : Int)) ∧ ((True ∧ True ∧ (16 : Int) ≠ (0 : Int) ∧ Int.natAbs (16 : Int) < (1073741824 : Nat)) ∧ True ∧ True) ∧ True) ∧ True) ∧ True) ∧ True ∧ True) ∧ (True ∧ (True ∧ True ∧ True ∧ True ∧ True ∧ True) ∧ True) ∧ ((True ∧ True ∧ (6 : Int) ≠ (0 : Int)) ∧ True ∧ True) ∧ ((True ∧ True ∧ True ∧ ((num.fdiv (2 : Int)).fmod (8 : Int) == (0 : Int)) = false) ∧ True) ∧ (((True ∧ True ∧ True ∧ ((num.fdiv (2 : Int)).fmod (8 : Int) == (1 : Int)) = false) ∧ (True ∧ True ∧ True ∧ ((num.fdiv (2 : Int)).fmod (8 : Int) == (2 : Int)) = false) ∧ (True ∧ True ∧ True ∧ ((num.fdiv (2 : Int)).fmod (8 : Int) == (6 : Int)) = false) ∧ True) ∧ True) ∧ ((True ∧ True ∧ True ∧ ((num.fdiv (2 : Int)).fmod (8 : Int) == (3 : Int)) = true) ∧ ((True ∧ True ∧ (True ∧ True ∧ True) ∧ (True ∧ (True ∧ ((True ∧ True) ∧ (True ∧ True) ∧ True) ∧ True) ∧ True ∧ True) ∧ ((True ∧ True) ∧ (True ∧ True) ∧ True) ∧ True) ∧ True) ∧ (True ∧ (True ∧ True ∧ (0 : Int) ≤ (1 : Int) ∧ (1 : Int) < (↑[AV.bytes r.wire, AV.int r.told, AV.int r.place, AV.int r.room].length : Int) ∧ [AV.bytes r.wire, AV.int r.told, AV.int r.place, AV.int r.room].length ≤ (1000 : Nat)) ∧ True) ∧ (((True ∧ True ∧ (True ∧ True ∧ True) ∧ ((True ∧ True) ∧ True) ∧ True) ∧ True ∧ True) ∧ True) ∧ True) ∧ True) ∧ (r.off + (r.i - r.cp) == r.place) = true) ∧ True) ∧ True) ∧ True
def U_w3 (num : Int) (r : Rdr) : Rdr := { r with b := r.b, i := r.i, cp := r.i, off := (r.off + (r.i - r.cp)), wire := r.wire, told := r.place, place := r.place }
theorem run_0_w3 (P : Params) (own : Obj → Prop) (n : Int) (l : List AV) (num : Int) (r0 r1 : Rdr) : run01 P (forBody P 7) [true, true, false, false, false, false, true, true] (st01 own n l num r0 r1) = some (.ok .next, [], C_w3 num (num.fmod 2 = ((0 : Nat) : Int)) r0, { fr := [[(Str.ofString "script", AV.lst l), (Str.ofString "first", AV.int n), (Str.ofString "rooms", AV.ref (1 : Nat)), (Str.ofString "readers", AV.ref (8 : Nat)), (Str.ofString "states", AV.ref (11 : Nat)), (Str.ofString "number", AV.int num), (Str.ofString "which", AV.int (num.fmod (2 : Int)))]], hp := [] ++ hp01 own (U_w3 num r0) r1, next := (17 : Nat) }) := by kernel_rfl
def C_w4 (num : Int) (w : Prop) (r : Rdr) : Prop := ((True ∧ True ∧ (2 : Int) ≠ (0 : Int)) ∧ True ∧ True) ∧ ((((True ∧ (((True ∧ True ∧ w) ∧ ((True ∧ True ∧ w) ∧ (((True ∧ True ∧ (2 : Int) ≠ (0 : Int) ∧ Int.natAbs (2 : Int) < (1073741824 : Nat)) ∧ True ∧ (8 : Int) ≠ (0 : Int)) ∧ ((True ∧ True ∧ (16 : Int) ≠ (0 : Int) ∧ Int.natAbs (16 : Int) < (1073741824 : Nat)) ∧ True ∧ True) ∧ True) ∧ True) ∧ True) ∧ True ∧ True) ∧ (True ∧ (True ∧ True ∧ True ∧ True ∧ True ∧ True) ∧ True) ∧ ((True ∧ True ∧ (6 : Int) ≠ (0 : Int)) ∧ True ∧ True) ∧ ((True ∧ True ∧ True ∧ ((num.fdiv (2 : Int)).fmod (8 : Int) == (0 : Int)) = false) ∧ True) ∧ (((True ∧ True ∧ True ∧ ((num.fdiv (2 : Int)).fmod (8 : Int) == (1 : Int)) = false) ∧ (True ∧ True ∧ True ∧ ((num.fdiv (2 : Int)).fmod (8 : Int) == (2 : Int)) = false) ∧ (True ∧ True ∧ True ∧ ((num.fdiv (2 : Int)).fmod (8 : Int) == (6 : Int)) = false) ∧ True) ∧ True) ∧ ((True ∧ True ∧ True ∧ ((num.fdiv (2 : Int)).fmod (8 : Int) == (3 : Int)) = false) ∧ True) ∧ ((True ∧ True ∧ True ∧ ((num.fdiv (2 : Int)).fmod (8 : Int) == (4 : Int)) = true) ∧ (((True ∧ True ∧ (True ∧ True ∧ True) ∧ (((True ∧ True) ∧ (True ∧ (((True ∧ True) ∧ True ∧ True) ∧ True ∧ True) ∧ r.b.length ≤ (16777216 : Nat)) ∧ True) ∧ True) ∧ True) ∧ (True ∧ (True ∧ ((True ∧ True ∧ True) ∧ True ∧ True) ∧ r.wire.length ≤ (16777216 : Nat)) ∧ True) ∧ True) ∧ True) ∧ True) ∧ True) ∧ (decide (r.i < (↑r.b.length : Int)) == decide (r.place < (↑r.wire.length : Int))) = true) ∧ True) ∧ True) ∧ True
def U_w4 (num : Int) (r : Rdr) : Rdr := { r with b := r.b, i := r.i, cp := r.cp, off := r.off, wire := r.wire, told := r.told, place := r.place }
theorem run_0_w4 (P : Params) (own : Obj → Prop) (n : Int) (l : List AV) (num : Int) (r0 r1 : Rdr) : run01 P (forBody P 7) [true, true, false, false, false, false, false, true, true] (st01 own n l num r0 r1) = some (.ok .next, [], C_w4 num (num.fmod 2 = ((0 : Nat) : Int)) r0, { fr := [[(Str.ofString "script", AV.lst l), (Str.ofString "first", AV.int n), (Str.ofString "rooms", AV.ref (1 : Nat)), (Str.ofString "readers", AV.ref (8 : Nat)), (Str.ofString "states", AV.ref (11 : Nat)), (Str.ofString "number", AV.int num), (Str.ofString "which", AV.int (num.fmod (2 : Int)))]], hp := [] ++ hp01 own (U_w4 num r0) r1, next := (17 : Nat) }) := by kernel_rfl
def C_w5some (num : Int) (w : Prop) (r : Rdr) : Prop := ((True ∧ True ∧ (2 : Int) ≠ (0 : Int)) ∧ True ∧ True) ∧ ((((True ∧ (((True ∧ True ∧ w) ∧ ((True ∧ True ∧ w) ∧ (((True ∧ True ∧ (2 : Int) ≠ (0 : Int) ∧ Int.natAbs (2 : Int) < (1073741824 : Nat)) ∧ True ∧ (8 : Int) ≠ (0 : Int)) ∧ ((True ∧ True ∧ (16 : Int) ≠ (0 : Int) ∧ Int.natAbs (16 : Int) < (1073741824 : Nat)) ∧ True ∧ True) ∧ True) ∧ True) ∧ True) ∧ True ∧ True) ∧ (True ∧ (True ∧ True ∧ True ∧ True ∧ True ∧ True) ∧ True) ∧ ((True ∧ True ∧ (6 : Int) ≠ (0 : Int)) ∧ True ∧ True) ∧ ((True ∧ True ∧ True ∧ ((num.fdiv (2 : Int)).fmod (8 : Int) == (0 : Int)) = false) ∧ True) ∧ (((True ∧ True ∧ True ∧ ((num.fdiv (2 : Int)).fmod (8 : Int) == (1 : Int)) = false) ∧ (True ∧ True ∧ True ∧ ((num.fdiv (2 : Int)).fmod (8 : Int) == (2 : Int)) = false) ∧ (True ∧ True ∧ True ∧ ((num.fdiv (2 : Int)).fmod (8 : Int) == (6 : Int)) = false) ∧ True) ∧ True) ∧ ((True ∧ True ∧ True ∧ ((num.fdiv (2 : Int)).fmod (8 : Int) == (3 : Int)) = false) ∧ True) ∧ ((True ∧ True ∧ True ∧ ((num.fdiv (2 : Int)).fmod (8 : Int) == (4 : Int)) = false) ∧ True) ∧ ((True ∧ True ∧ True ∧ ((num.fdiv (2 : Int)).fmod (8 : Int) == (5 : Int)) = true) ∧ ((True ∧ True ∧ (True ∧ True ∧ True) ∧ (((True ∧ True) ∧ (((True ∧ True) ∧ True) ∧ True ∧ True) ∧ r.b.length ≤ (16777216 : Nat)) ∧ True) ∧ True) ∧ True ∧ True) ∧ (((True ∧ ((True ∧ (True ∧ True ∧ True) ∧ True) ∧ True ∧ True) ∧ True) ∧ True ∧ (True ∧ ((True ∧ True ∧ True) ∧ True ∧ True) ∧ (cut (some r.i) none r.b).length ≤ (16777216 : Nat)) ∧ (True ∧ ((True ∧ True) ∧ True ∧ True) ∧ r.wire.length ≤ (16777216 : Nat)) ∧ True) ∧ True ∧ True) ∧ (((True ∧ ((True ∧ True ∧ True) ∧ True ∧ True) ∧ (cut (some r.i) none r.b).length ≤ (16777216 : Nat)) ∧ True ∧ True ∧ decide ((↑(cut (some r.i) none r.b).length : Int) > (0 : Int)) = true) ∧ ((((True ∧ True ∧ (0 : Int) ≤ (0 : Int) ∧ (0 : Int) < (↑(cut (some r.i) none r.b).length : Int) ∧ (cut (some r.i) none r.b).length ≤ (16777216 : Nat)) ∧ True ∧ True) ∧ True ∧ (256 : Int) ≠ (0 : Int)) ∧ (True ∧ True ∧ ((0 : Int) ≤ (0 : Int) ∧ (0 : Int) < (↑(cut (some r.i) none r.b).length : Int) ∧ (cut (some r.i) none r.b).length ≤ (16777216 : Nat)) ∧ (0 : Int) ≤ ((↑((cut (some r.i) none r.b).getD (Int.toNat (0 : Int)) (0 : UInt8)).toNat : Int) + (1 : Int)).fmod (256 : Int) ∧ ((↑((cut (some r.i) none r.b).getD (Int.toNat (0 : Int)) (0 : UInt8)).toNat : Int) + (1 : Int)).fmod (256 : Int) < (256 : Int)) ∧ True) ∧ True) ∧ (True ∧ True) ∧ True) ∧ True) ∧ (cut (some r.i) none r.b == cut (some r.place) none r.wire) = true) ∧ True) ∧ True) ∧ True
def U_w5some (num : Int) (r : Rdr) : Rdr := { r with b := r.b, i := r.i, cp := r.cp, off := r.off, wire := r.wire, told := r.told, place := r.place }
theorem run_0_w5some (P : Params) (own : Obj → Prop) (n : Int) (l : List AV) (num : Int) (r0 r1 : Rdr) : run01 P (forBody P 7) [true, true, false, false, false, false, false, false, true, true, true] (st01 own n l num r0 r1) = some (.ok .next, [], C_w5some num (num.fmod 2 = ((0 : Nat) : Int)) r0, { fr := [[(Str.ofString "script", AV.lst l), (Str.ofString "first", AV.int n), (Str.ofString "rooms", AV.ref (1 : Nat)), (Str.ofString "readers", AV.ref (8 : Nat)), (Str.ofString "states", AV.ref (11 : Nat)), (Str.ofString "number", AV.int num), (Str.ofString "which", AV.int (num.fmod (2 : Int)))]], hp := [((17 : Nat), AObj.barr ((cut (some r0.i) none r0.b).set (Int.toNat (0 : Int)) (((↑((cut (some r0.i) none r0.b).getD (Int.toNat (0 : Int)) (0 : UInt8)).toNat : Int) + (1 : Int)).fmod (256 : Int)).toNat.toUInt8))] ++ hp01 own (U_w5some num r0) r1, next := (18 : Nat) }) := by kernel_rfl
def C_w5none (num : Int) (w : Prop) (r : Rdr) : Prop := ((True ∧ True ∧ (2 : Int) ≠ (0 : Int)) ∧ True ∧ True) ∧ ((((True ∧ (((True ∧ True ∧ w) ∧ ((True ∧ True ∧ w) ∧ (((True ∧ True ∧ (2 : Int) ≠ (0 : Int) ∧ Int.natAbs (2 : Int) < (1073741824 : Nat)) ∧ True ∧ (8 : Int) ≠ (0 : Int)) ∧ ((True ∧ True ∧ (16 : Int) ≠ (0 : Int) ∧ Int.natAbs (16 : Int) < (1073741824 : Nat)) ∧ True ∧ True) ∧ True) ∧ True) ∧ True) ∧ True ∧ True) ∧ (True ∧ (True ∧ True ∧ True ∧ True ∧ True ∧ True) ∧ True) ∧ ((True ∧ True ∧ (6 : Int) ≠ (0 : Int)) ∧ True ∧ True) ∧ ((True ∧ True ∧ True ∧ ((num.fdiv (2 : Int)).fmod (8 : Int) == (0 : Int)) = false) ∧ True) ∧ (((True ∧ True ∧ True ∧ ((num.fdiv (2 : Int)).fmod (8 : Int) == (1 : Int)) = false) ∧ (True ∧ True ∧ True ∧ ((num.fdiv (2 : Int)).fmod (8 : Int) == (2 : Int)) = false) ∧ (True ∧ True ∧ True ∧ ((num.fdiv (2 : Int)).fmod (8 : Int) == (6 : Int)) = false) ∧ True) ∧ True) ∧ ((True ∧ True ∧ True ∧ ((num.fdiv (2 : Int)).fmod (8 : Int) == (3 : Int)) = false) ∧ True) ∧ ((True ∧ True ∧ True ∧ ((num.fdiv (2 : Int)).fmod (8 : Int) == (4 : Int)) = false) ∧ True) ∧ ((True ∧ True ∧ True ∧ ((num.fdiv (2 : Int)).fmod (8 : Int) == (5 : Int)) = true) ∧ ((True ∧ True ∧ (True ∧ True ∧ True) ∧ (((True ∧ True) ∧ (((True ∧ True) ∧ True) ∧ True ∧ True) ∧ r.b.length ≤ (16777216 : Nat)) ∧ True) ∧ True) ∧ True ∧ True) ∧ (((True ∧ ((True ∧ (True ∧ True ∧ True) ∧ True) ∧ True ∧ True) ∧ True) ∧ True ∧ (True ∧ ((True ∧ True ∧ True) ∧ True ∧ True) ∧ (cut (some r.i) none r.b).length ≤ (16777216 : Nat)) ∧ (True ∧ ((True ∧ True) ∧ True ∧ True) ∧ r.wire.length ≤ (16777216 : Nat)) ∧ True) ∧ True ∧ True) ∧ (((True ∧ ((True ∧ True ∧ True) ∧ True ∧ True) ∧ (cut (some r.i) none r.b).length ≤ (16777216 : Nat)) ∧ True ∧ True ∧ decide ((↑(cut (some r.i) none r.b).length : Int) > (0 : Int)) = false) ∧ True) ∧ (True ∧ True) ∧ True) ∧ True) ∧ (cut (some r.i) none r.b == cut (some r.place) none r.wire) = true) ∧ True) ∧ True) ∧ True
def U_w5none (num : Int) (r : Rdr) : Rdr := { r with b := r.b, i := r.i, cp := r.cp, off := r.off, wire := r.wire, told := r.told, place := r.place }
theorem run_0_w5none (P : Params) (own : Obj → Prop) (n : Int) (l : List AV) (num : Int) (r0 r1 : Rdr) : run01 P (forBody P 7) [true, true, false, false, false, false, false, false, true, false, true] (st01 own n l num r0 r1) = some (.ok .next, [], C_w5none num (num.fmod 2 = ((0 : Nat) : Int)) r0, { fr := [[(Str.ofString "script", AV.lst l), (Str.ofString "first", AV.int n), (Str.ofString "rooms", AV.ref (1 : Nat)), (Str.ofString "readers", AV.ref (8 : Nat)), (Str.ofString "states", AV.ref (11 : Nat)), (Str.ofString "number", AV.int num), (Str.ofString "which", AV.int (num.fmod (2 : Int)))]], hp := [((17 : Nat), AObj.barr (cut (some r0.i) none r0.b))] ++ hp01 own (U_w5none num r0) r1, next := (18 : Nat) }) := by kernel_rfl
def C_w7 (num : Int) (w : Prop) (r : Rdr) : Prop := ((True ∧ True ∧ (2 : Int) ≠ (0 : Int)) ∧ True ∧ True) ∧ ((((True ∧ (((True ∧ True ∧ w) ∧ ((True ∧ True ∧ w) ∧ (((True ∧ True ∧ (2 : Int) ≠ (0 : Int) ∧ Int.natAbs (2 : Int) < (1073741824 : Nat)) ∧ True ∧ (8 : Int) ≠ (0 : Int)) ∧ ((True ∧ True ∧ (16 : Int) ≠ (0 : Int) ∧ Int.natAbs (16 : Int) < (1073741824 : Nat)) ∧ True ∧ True) ∧ True) ∧ True) ∧ True) ∧ True ∧ True) ∧ (True ∧ (True ∧ True ∧ True ∧ True ∧ True ∧ True) ∧ True) ∧ ((True ∧ True ∧ (6 : Int) ≠ (0 : Int)) ∧ True ∧ True) ∧ ((True ∧ True ∧ True ∧ ((num.fdiv (2 : Int)).fmod (8 : Int) == (0 : Int)) = false) ∧ True) ∧ (((True ∧ True ∧ True ∧ ((num.fdiv (2 : Int)).fmod (8 : Int) == (1 : Int)) = false) ∧ (True ∧ True ∧ True ∧ ((num.fdiv (2 : Int)).fmod (8 : Int) == (2 : Int)) = false) ∧ (True ∧ True ∧ True ∧ ((num.fdiv (2 : Int)).fmod (8 : Int) == (6 : Int)) = false) ∧ True) ∧ True) ∧ ((True ∧ True ∧ True ∧ ((num.fdiv (2 : Int)).fmod (8 : Int) == (3 : Int)) = false) ∧ True) ∧ ((True ∧ True ∧ True ∧ ((num.fdiv (2 : Int)).fmod (8 : Int) == (4 : Int)) = false) ∧ True) ∧ ((True ∧ True ∧ True ∧ ((num.fdiv (2 : Int)).fmod (8 : Int) == (5 : Int)) = false) ∧ True) ∧ (((True ∧ True ∧ (True ∧ True ∧ True) ∧ ((True ∧ True) ∧ True) ∧ True) ∧ True ∧ True) ∧ True) ∧ True) ∧ (r.off == r.told) = true) ∧ True) ∧ True) ∧ True
def U_w7 (num : Int) (r : Rdr) : Rdr := { r with b := r.b, i := r.i, cp := r.cp, off := r.off, wire := r.wire, told := r.told, place := r.place }
theorem run_0_w7 (P : Params) (own : Obj → Prop) (n : Int) (l : List AV) (num : Int) (r0 r1 : Rdr) : run01 P (forBody P 7) [true, true, false, false, false, false, false, false, false, true] (st01 own n l num r0 r1) = some (.ok .next, [], C_w7 num (num.fmod 2 = ((0 : Nat) : Int)) r0, { fr := [[(Str.ofString "script", AV.lst l), (Str.ofString "first", AV.int n), (Str.ofString "rooms", AV.ref (1 : Nat)), (Str.ofString "readers", AV.ref (8 : Nat)), (Str.ofString "states", AV.ref (11 : Nat)), (Str.ofString "number", AV.int num), (Str.ofString "which", AV.int (num.fmod (2 : Int)))]], hp := [] ++ hp01 own (U_w7 num r0) r1, next := (17 : Nat) }) := by kernel_rfl
theorem run_1_w0fullo (P : Params) (own : Obj → Prop) (n : Int) (l : List AV) (num : Int) (r0 r1 : Rdr) : run01 P (forBody P 7) [false, true, false, true, true, true, true, false, true, true] (st01 own n l num r0 r1) = some (.ok .next, [], C_w0fullo num (num.fmod 2 = ((0 + 1 : Nat) : Int)) r1, { fr := [[(Str.ofString "script", AV.lst l), (Str.ofString "first", AV.int n), (Str.ofString "rooms", AV.ref (1 : Nat)), (Str.ofString "readers", AV.ref (8 : Nat)), (Str.ofString "states", AV.ref (11 : Nat)), (Str.ofString "number", AV.int num), (Str.ofString "which", AV.int (num.fmod (2 : Int)))]], hp := [((18 : Nat), AObj.list [AV.ref (17 : Nat)]), ((17 : Nat), AObj.barr (List.replicate (List.map (fun (n : Int) => n.toNat.toUInt8) ((ints01 (num.fdiv (16 : Int))).getD [])).length (Int.toNat (193 : Int)).toUInt8))] ++ hp01 own r0 (U_w0fullo num r1), next := (19 : Nat) }) := by kernel_rfl
theorem run_1_w0og (P : Params) (own : Obj → Prop) (n : Int) (l : List AV) (num : Int) (r0 r1 : Rdr) : run01 P (forBody P 7) [false, true, false, true, true, true, false, true, false, true, false] (st01 own n l num r0 r1) = some (.ok .next, [], C_w0og num (num.fmod 2 = ((0 + 1 : Nat) : Int)) r1, { fr := [[(Str.ofString "script", AV.lst l), (Str.ofString "first", AV.int n), (Str.ofString "rooms", AV.ref (1 : Nat)), (Str.ofString "readers", AV.ref (8 : Nat)), (Str.ofString "states", AV.ref (11 : Nat)), (Str.ofString "number", AV.int num), (Str.ofString "which", AV.int (num.fmod (2 : Int)))]], hp := [((18 : Nat), AObj.list [AV.ref (17 : Nat)]), ((17 : Nat), AObj.barr (List.replicate (List.map (fun (n : Int) => n.toNat.toUInt8) ((ints01 (num.fdiv (16 : Int))).getD [])).length (Int.toNat (193 : Int)).toUInt8))] ++ hp01 own r0 (U_w0og num r1), next := (19 : Nat) }) := by kernel_rfl
theorem run_1_w0on (P : Params) (own : Obj → Prop) (n : Int) (l : List AV) (num : Int) (r0 r1 : Rdr) : run01 P (forBody P 7) [false, true, false, true, true, true, false, false, false, true, false] (st01 own n l num r0 r1) = some (.ok .next, [], C_w0on num (num.fmod 2 = ((0 + 1 : Nat) : Int)) r1, { fr := [[(Str.ofString "script", AV.lst l), (Str.ofString "first", AV.int n), (Str.ofString "rooms", AV.ref (1 : Nat)), (Str.ofString "readers", AV.ref (8 : Nat)), (Str.ofString "states", AV.ref (11 : Nat)), (Str.ofString "number", AV.int num), (Str.ofString "which", AV.int (num.fmod (2 : Int)))]], hp := [((18 : Nat), AObj.list [AV.ref (17 : Nat)]), ((17 : Nat), AObj.barr (List.replicate (List.map (fun (n : Int) => n.toNat.toUInt8) ((ints01 (num.fdiv (16 : Int))).getD [])).length (Int.toNat (193 : Int)).toUInt8))] ++ hp01 own r0 (U_w0on num r1), next := (19 : Nat) }) := by kernel_rfl
theorem run_1_w0fulle (P : Params) (own : Obj → Prop) (n : Int) (l : List AV) (num : Int) (r0 r1 : Rdr) : run01 P (forBody P 7) [false, true, false, true, true, false, true, false, false, true] (st01 own n l num r0 r1) = some (.ok .next, [], C_w0fulle num (num.fmod 2 = ((0 + 1 : Nat) : Int)) r1, { fr := [[(Str.ofString "script", AV.lst l), (Str.ofString "first", AV.int n), (Str.ofString "rooms", AV.ref (1 : Nat)), (Str.ofString "readers", AV.ref (8 : Nat)), (Str.ofString "states", AV.ref (11 : Nat)), (Str.ofString "number", AV.int num), (Str.ofString "which", AV.int (num.fmod (2 : Int)))]], hp := [((17 : Nat), AObj.list [AV.bytes (List.map (fun (n : Int) => n.toNat.toUInt8) ((ints01 (num.fdiv (16 : Int))).getD []))])] ++ hp01 own r0 (U_w0fulle num r1), next := (18 : Nat) }) := by kernel_rfl
theorem run_1_w0eg (P : Params) (own : Obj → Prop) (n : Int) (l : List AV) (num : Int) (r0 r1 : Rdr) : run01 P (forBody P 7) [false, true, false, true, true, false, false, true, false, false, false] (st01 own n l num r0 r1) = some (.ok .next, [], C_w0eg num (num.fmod 2 = ((0 + 1 : Nat) : Int)) r1, { fr := [[(Str.ofString "script", AV.lst l), (Str.ofString "first", AV.int n), (Str.ofString "rooms", AV.ref (1 : Nat)), (Str.ofString "readers", AV.ref (8 : Nat)), (Str.ofString "states", AV.ref (11 : Nat)), (Str.ofString "number", AV.int num), (Str.ofString "which", AV.int (num.fmod (2 : Int)))]], hp := [((17 : Nat), AObj.list [AV.bytes (List.map (fun (n : Int) => n.toNat.toUInt8) ((ints01 (num.fdiv (16 : Int))).getD []))])] ++ hp01 own r0 (U_w0eg num r1), next := (18 : Nat) }) := by kernel_rfl
theorem run_1_w0en (P : Params) (own : Obj → Prop) (n : Int) (l : List AV) (num : Int) (r0 r1 : Rdr) : run01 P (forBody P 7) [false, true, false, true, true, false, false, false, false, false, false] (st01 own n l num r0 r1) = some (.ok .next, [], C_w0en num (num.fmod 2 = ((0 + 1 : Nat) : Int)) r1, { fr := [[(Str.ofString "script", AV.lst l), (Str.ofString "first", AV.int n), (Str.ofString "rooms", AV.ref (1 : Nat)), (Str.ofString "readers", AV.ref (8 : Nat)), (Str.ofString "states", AV.ref (11 : Nat)), (Str.ofString "number", AV.int num), (Str.ofString "which", AV.int (num.fmod (2 : Int)))]], hp := [((17 : Nat), AObj.list [AV.bytes (List.map (fun (n : Int) => n.toNat.toUInt8) ((ints01 (num.fdiv (16 : Int))).getD []))])] ++ hp01 own r0 (U_w0en num r1), next := (18 : Nat) }) := by kernel_rfl
theorem run_1_w1ok (P : Params) (own : Obj → Prop) (n : Int) (l : List AV) (num : Int) (r0 r1 : Rdr) : run01 P (forBody P 7) [false, true, false, true, false, true, true, true, false, true, true, true] (st01 own n l num r0 r1) = some (.ok .next, [], C_w1ok num (num.fmod 2 = ((0 + 1 : Nat) : Int)) r1, { fr := [[(Str.ofString "script", AV.lst l), (Str.ofString "first", AV.int n), (Str.ofString "rooms", AV.ref (1 : Nat)), (Str.ofString "readers", AV.ref (8 : Nat)), (Str.ofString "states", AV.ref (11 : Nat)), (Str.ofString "number", AV.int num), (Str.ofString "which", AV.int (num.fmod (2 : Int)))]], hp := [((17 : Nat), AObj.barr (cut (some r1.i) (some (r1.i + (num.fdiv (16 : Int)).fmod (6 : Int))) r1.b))] ++ hp01 own r0 (U_w1ok num r1), next := (18 : Nat) }) := by kernel_rfl
theorem run_1_w1short (P : Params) (own : Obj → Prop) (n : Int) (l : List AV) (num : Int) (r0 r1 : Rdr) : run01 P (forBody P 7) [false, true, false, true, false, true, true, false, true, true] (st01 own n l num r0 r1) = some (.ok .next, [], C_w1short num (num.fmod 2 = ((0 + 1 : Nat) : Int)) r1, { fr := [[(Str.ofString "script", AV.lst l), (Str.ofString "first", AV.int n), (Str.ofString "rooms", AV.ref (1 : Nat)), (Str.ofString "readers", AV.ref (8 : Nat)), (Str.ofString "states", AV.ref (11 : Nat)), (Str.ofString "number", AV.int num), (Str.ofString "which", AV.int (num.fmod (2 : Int)))]], hp := [] ++ hp01 own r0 (U_w1short num r1), next := (17 : Nat) }) := by kernel_rfl
theorem run_1_w2ok (P : Params) (own : Obj → Prop) (n : Int) (l : List AV) (num : Int) (r0 r1 : Rdr) : run01 P (forBody P 7) [false, true, false, true, false, false, true, false, true, true, false, false, true, true] (st01 own n l num r0 r1) = some (.ok .next, [], C_w2ok num (num.fmod 2 = ((0 + 1 : Nat) : Int)) r1, { fr := [[(Str.ofString "script", AV.lst l), (Str.ofString "first", AV.int n), (Str.ofString "rooms", AV.ref (1 : Nat)), (Str.ofString "readers", AV.ref (8 : Nat)), (Str.ofString "states", AV.ref (11 : Nat)), (Str.ofString "number", AV.int num), (Str.ofString "which", AV.int (num.fmod (2 : Int)))]], hp := [] ++ hp01 own r0 (U_w2ok num r1), next := (17 : Nat) }) := by kernel_rfl
theorem run_1_w2short (P : Params) (own : Obj → Prop) (n : Int) (l : List AV) (num : Int) (r0 r1 : Rdr) : run01 P (forBody P 7) [false, true, false, true, false, false, true, false, true, false, true, true] (st01 own n l num r0 r1) = some (.ok .next, [], C_w2short num (num.fmod 2 = ((0 + 1 : Nat) : Int)) r1, { fr := [[(Str.ofString "script", AV.lst l), (Str.ofString "first", AV.int n), (Str.ofString "rooms", AV.ref (1 : Nat)), (Str.ofString "readers", AV.ref (8 : Nat)), (Str.ofString "states", AV.ref (11 : Nat)), (Str.ofString "number", AV.int num), (Str.ofString "which", AV.int (num.fmod (2 : Int)))]], hp := [] ++ hp01 own r0 (U_w2short num r1), next := (17 : Nat) }) := by kernel_rfl
theorem run_1_w6ok (P : Params) (own : Obj → Prop) (n : Int) (l : List AV) (num : Int) (r0 r1 : Rdr) : run01 P (forBody P 7) [false, true, false, true, false, false, false, true, false, false, true, false, false, false, true, true] (st01 own n l num r0 r1) = some (.ok .next, [], C_w6ok num (num.fmod 2 = ((0 + 1 : Nat) : Int)) r1, { fr := [[(Str.ofString "script", AV.lst l), (Str.ofString "first", AV.int n), (Str.ofString "rooms", AV.ref (1 : Nat)), (Str.ofString "readers", AV.ref (8 : Nat)), (Str.ofString "states", AV.ref (11 : Nat)), (Str.ofString "number", AV.int num), (Str.ofString "which", AV.int (num.fmod (2 : Int)))]], hp := [((17 : Nat), AObj.barr (cut (some r1.i) (some (r1.i + (num.fdiv (16 : Int)).fmod (6 : Int))) r1.b))] ++ hp01 own r0 (U_w6ok num r1), next := (18 : Nat) }) := by kernel_rfl
theorem run_1_w6short (P : Params) (own : Obj → Prop) (n : Int) (l : List AV) (num : Int) (r0 r1 : Rdr) : run01 P (forBody P 7) [false, true, false, true, false, false, false, true, false, false, false, true, true] (st01 own n l num r0 r1) = some (.ok .next, [], C_w6short num (num.fmod 2 = ((0 + 1 : Nat) : Int)) r1, { fr := [[(Str.ofString "script", AV.lst l), (Str.ofString "first", AV.int n), (Str.ofString "rooms", AV.ref (1 : Nat)), (Str.ofString "readers", AV.ref (8 : Nat)), (Str.ofString "states", AV.ref (11 : Nat)), (Str.ofString "number", AV.int num), (Str.ofString "which", AV.int (num.fmod (2 : Int)))]], hp := [] ++ hp01 own r0 (U_w6short num r1), next := (17 : Nat) }) := by kernel_rfl
theorem run_1_w3 (P : Params) (own : Obj → Prop) (n : Int) (l : List AV) (num : Int) (r0 r1 : Rdr) : run01 P (forBody P 7) [false, true, false, true, false, false, false, false, true, true] (st01 own n l num r0 r1) = some (.ok .next, [], C_w3 num (num.fmod 2 = ((0 + 1 : Nat) : Int)) r1, { fr := [[(Str.ofString "script", AV.lst l), (Str.ofString "first", AV.int n), (Str.ofString "rooms", AV.ref (1 : Nat)), (Str.ofString "readers", AV.ref (8 : Nat)), (Str.ofString "states", AV.ref (11 : Nat)), (Str.ofString "number", AV.int num), (Str.ofString "which", AV.int (num.fmod (2 : Int)))]], hp := [] ++ hp01 own r0 (U_w3 num r1), next := (17 : Nat) }) := by kernel_rfl
theorem run_1_w4 (P : Params) (own : Obj → Prop) (n : Int) (l : List AV) (num : Int) (r0 r1 : Rdr) : run01 P (forBody P 7) [false, true, false, true, false, false, false, false, false, true, true] (st01 own n l num r0 r1) = some (.ok .next, [], C_w4 num (num.fmod 2 = ((0 + 1 : Nat) : Int)) r1, { fr := [[(Str.ofString "script", AV.lst l), (Str.ofString "first", AV.int n), (Str.ofString "rooms", AV.ref (1 : Nat)), (Str.ofString "readers", AV.ref (8 : Nat)), (Str.ofString "states", AV.ref (11 : Nat)), (Str.ofString "number", AV.int num), (Str.ofString "which", AV.int (num.fmod (2 : Int)))]], hp := [] ++ hp01 own r0 (U_w4 num r1), next := (17 : Nat) }) := by kernel_rfl
theorem run_1_w5some (P : Params) (own : Obj → Prop) (n : Int) (l : List AV) (num : Int) (r0 r1 : Rdr) : run01 P (forBody P 7) [false, true, false, true, false, false, false, false, false, false, true, true, true] (st01 own n l num r0 r1) = some (.ok .next, [], C_w5some num (num.fmod 2 = ((0 + 1 : Nat) : Int)) r1, { fr := [[(Str.ofString "script", AV.lst l), (Str.ofString "first", AV.int n), (Str.ofString "rooms", AV.ref (1 : Nat)), (Str.ofString "readers", AV.ref (8 : Nat)), (Str.ofString "states", AV.ref (11 : Nat)), (Str.ofString "number", AV.int num), (Str.ofString "which", AV.int (num.fmod (2 : Int)))]], hp := [((17 : Nat), AObj.barr ((cut (some r1.i) none r1.b).set (Int.toNat (0 : Int)) (((↑((cut (some r1.i) none r1.b).getD (Int.toNat (0 : Int)) (0 : UInt8)).toNat : Int) + (1 : Int)).fmod (256 : Int)).toNat.toUInt8))] ++ hp01 own r0 (U_w5some num r1), next := (18 : Nat) }) := by kernel_rfl
theorem run_1_w5none (P : Params) (own : Obj → Prop) (n : Int) (l : List AV) (num : Int) (r0 r1 : Rdr) : run01 P (forBody P 7) [false, true, false, true, false, false, false, false, false, false, true, false, true] (st01 own n l num r0 r1) = some (.ok .next, [], C_w5none num (num.fmod 2 = ((0 + 1 : Nat) : Int)) r1, { fr := [[(Str.ofString "script", AV.lst l), (Str.ofString "first", AV.int n), (Str.ofString "rooms", AV.ref (1 : Nat)), (Str.ofString "readers", AV.ref (8 : Nat)), (Str.ofString "states", AV.ref (11 : Nat)), (Str.ofString "number", AV.int num), (Str.ofString "which", AV.int (num.fmod (2 : Int)))]], hp := [((17 : Nat), AObj.barr (cut (some r1.i) none r1.b))] ++ hp01 own r0 (U_w5none num r1), next := (18 : Nat) }) := by kernel_rfl
theorem run_1_w7 (P : Params) (own : Obj → Prop) (n : Int) (l : List AV) (num : Int) (r0 r1 : Rdr) : run01 P (forBody P 7) [false, true, false, true, false, false, false, false, false, false, false, true] (st01 own n l num r0 r1) = some (.ok .next, [], C_w7 num (num.fmod 2 = ((0 + 1 : Nat) : Int)) r1, { fr := [[(Str.ofString "script", AV.lst l), (Str.ofString "first", AV.int n), (Str.ofString "rooms", AV.ref (1 : Nat)), (Str.ofString "readers", AV.ref (8 : Nat)), (Str.ofString "states", AV.ref (11 : Nat)), (Str.ofString "number", AV.int num), (Str.ofString "which", AV.int (num.fmod (2 : Int)))]], hp := [] ++ hp01 own r0 (U_w7 num r1), next := (17 : Nat) }) := by kernel_rfl
end Mine
-- part Pl1
open PySem PySem.W PyProof.Rows PySem.Calls
namespace Mine
/-! The plain law: a reader is three numbers over all octets fed -/
structure Inv (d : Nat) (r : Rdr) : Prop where
  c0 : 0 ≤ r.cp
  ci : r.cp ≤ r.i
  ib : r.i ≤ r.b.length
  told : r.told = r.off
  off : r.cp ≤ r.off
  place : r.place = r.off + (r.i - r.cp)
  wire : r.wire.drop (r.off - r.cp).toNat = r.b
  len : (r.wire.length : Int) = (r.off - r.cp) + r.b.length
  rm0 : 4 ≤ r.room
  rm1 : r.room ≤ 49
  bd : r.wire.length ≤ d
theorem clip_nat {n : Nat} {i : Int} (h : 0 ≤ i) : clipAt n i = min i.toNat n := by
  unfold clipAt
  split <;> omega
theorem cut_two {l : List UInt8} {i j : Int} (h : 0 ≤ i) (h2 : i ≤ j) : cut (some i) (some j) l = (l.drop i.toNat).take (j - i).toNat := by
  unfold cut
  simp only [Option.elim]
  rw [clip_nat h, clip_nat (by omega)]
  apply List.ext_getElem?
  intro k
  simp only [List.getElem?_take, List.getElem?_drop]
  by_cases h1 : i.toNat ≤ l.length
  · rw [Nat.min_eq_left h1]
    by_cases h3 : j.toNat ≤ l.length
    · rw [Nat.min_eq_left h3]
      have : j.toNat - i.toNat = (j - i).toNat := by omega
      rw [this]
    · rw [Nat.min_eq_right (by omega)]
      by_cases h4 : k < (j - i).toNat
      · rw [if_pos h4]
        split
        · rfl
        · rw [List.getElem?_eq_none (by omega)]
      · rw [if_neg h4, if_neg (by omega)]
  · rw [Nat.min_eq_right (by omega), List.getElem?_eq_none (by omega), List.getElem?_eq_none (by omega)]
    simp
theorem cut_end {l : List UInt8} {i : Int} (h : 0 ≤ i) : cut (some i) none l = l.drop i.toNat := by
  unfold cut
  simp only [Option.elim]
  rw [clip_nat h]
  apply List.ext_getElem?
  intro k
  simp only [List.getElem?_take, List.getElem?_drop]
  by_cases h1 : i.toNat ≤ l.length
  · rw [Nat.min_eq_left h1]
    split
    · rfl
    · rw [List.getElem?_eq_none (by omega)]
  · rw [Nat.min_eq_right (by omega), List.getElem?_eq_none (by omega), List.getElem?_eq_none (by omega)]
    simp
theorem Inv.drop_eq {d : Nat} {r : Rdr} (h : Inv d r) : r.b.drop r.i.toNat = r.wire.drop r.place.toNat := by
  have h1 := h.wire; have h2 := h.c0; have h3 := h.ci; have h4 := h.off; have h5 := h.place
  rw [← h1, List.drop_drop]
  congr 1; omega
theorem Inv.cut_two {d : Nat} {r : Rdr} (h : Inv d r) {n : Int} (hn : 0 ≤ n) : cut (some r.i) (some (r.i + n)) r.b = cut (some r.place) (some (r.place + n)) r.wire := by
  have h2 := h.c0; have h3 := h.ci; have h4 := h.off; have h5 := h.place
  rw [Mine.cut_two (by omega) (by omega), Mine.cut_two (by omega) (by omega), h.drop_eq]
  congr 1; omega
theorem Inv.cut_end {d : Nat} {r : Rdr} (h : Inv d r) : cut (some r.i) none r.b = cut (some r.place) none r.wire := by
  have h2 := h.c0; have h3 := h.ci; have h4 := h.off; have h5 := h.place
  rw [Mine.cut_end (by omega), Mine.cut_end (by omega), h.drop_eq]
theorem Inv.cut_len {d : Nat} {r : Rdr} (h : Inv d r) {n : Int} (hn : 0 ≤ n) (h2 : r.i + n ≤ r.b.length) : ((cut (some r.i) (some (r.i + n)) r.b).length : Int) = n := by
  have h2 := h.c0; have h3 := h.ci
  rw [Mine.cut_two (by omega) (by omega), List.length_take, List.length_drop]
  omega
theorem fmod_pos {a b : Int} (h : 0 < b) : 0 ≤ a.fmod b ∧ a.fmod b < b := ⟨Int.fmod_nonneg_of_pos a h, Int.fmod_lt_of_pos a h⟩
/-! the drawn octets -/
theorem elt01_at (k : Nat) (rest : Int) : eltX elt01 (Str.ofString "k") (Str.ofString "rest") k rest = some ((rest + 37 * k).fmod 256, (True ∧ (True ∧ True ∧ IntMulOk 37 k)) ∧ True ∧ (256 : Int) ≠ 0) := by
  rfl
theorem elt01_v (k : Nat) (rest : Int) : eltV elt01 (Str.ofString "k") (Str.ofString "rest") k rest = (rest + 37 * k).fmod 256 := by
  unfold eltV; rw [elt01_at]
theorem elt01_c (k : Nat) (rest : Int) : eltC elt01 (Str.ofString "k") (Str.ofString "rest") k rest := by
  unfold eltC; rw [elt01_at]
  exact ⟨⟨trivial, trivial, trivial, .of_left (by decide)⟩, trivial, by decide⟩
theorem intsOf_map {f : Nat → Int} : ∀ l : List Nat, intsOf (l.map fun k => AV.int (f k)) = some (l.map f)
  | [] => rfl
  | k :: r => by
    simp only [List.map_cons, intsOf, intsOf_map r]
theorem ints01_eq (rest : Int) : ints01 rest = some ((List.range (rest.fmod 7).toNat).map fun k : Nat => (rest + 37 * (k : Int)).fmod 256) := by
  unfold ints01
  rw [intsOf_map]
  simp only [elt01_v]
def drawn (rest : Int) : List Int := (ints01 rest).getD []
theorem drawn_some (rest : Int) : ints01 rest = some (drawn rest) := by unfold drawn; rw [ints01_eq]; rfl
theorem drawn_in (rest : Int) : ∀ n ∈ drawn rest, 0 ≤ n ∧ n < 256 := by
  unfold drawn
  rw [ints01_eq]
  intro n hn
  simp only [Option.getD_some, List.mem_map] at hn
  obtain ⟨k, -, rfl⟩ := hn
  exact fmod_pos (by decide)
theorem drawn_len (rest : Int) : (drawn rest).length ≤ 6 := by
  unfold drawn
  rw [ints01_eq]
  simp only [Option.getD_some, List.length_map, List.length_range]
  have := @fmod_pos rest 7 (by decide)
  omega
end Mine
-- part Pl2
open PySem PySem.W PyProof.Rows PySem.Calls
namespace Mine
section
variable {d : Nat} {num : Int} {w : Prop} {r : Rdr}
theorem Inv.up (h : Inv d r) : Inv (d + 6) r := ⟨h.c0, h.ci, h.ib, h.told, h.off, h.place, h.wire, h.len, h.rm0, h.rm1, Nat.le_trans h.bd (by omega)⟩
theorem ok_w3 (h : Inv d r) (hd : d ≤ 1000) (hw : w) (hway : (num.fdiv 2).fmod 8 = 3)  : C_w3 num w r ∧ Inv (d + 6) (U_w3 num r) := by
  have h1 := h.c0; have h2 := h.ci; have h3 := h.ib; have h4 := h.told; have h5 := h.off; have h6 := h.place; have h7 := h.len; have h8 := h.bd; have h9 := h.rm0; have h10 := h.rm1; have h11 := h.wire
  have hn := @fmod_pos (num.fdiv 16) 6 (by decide)
  have h7' := @fmod_pos (num.fdiv 16) 7 (by decide)
  have hlen : ((ints01 (num.fdiv 16)).getD []).length ≤ 6 := drawn_len _
  have hcl := fun a b => cut_length a b r.b
  refine ⟨?_, ?_⟩
  · unfold C_w3
    simp only [true_and, and_true]
    and_intros <;> first | exact hw | assumption | decide | omega | exact drawn_some _ | exact drawn_in _ | exact fun k _ => elt01_c k _ | (simp [hway]; done) | (simp; omega) | (exact decide_eq_false (by omega))
  · refine ⟨by show 0 ≤ r.i; omega, Int.le_refl _, h3, h6.trans rfl, by show r.i ≤ r.off + (r.i - r.cp); omega, by show r.place = r.off + (r.i - r.cp) + (r.i - r.i); omega, ?_, by show (r.wire.length : Int) = r.off + (r.i - r.cp) - r.i + r.b.length; omega, h9, h10, by show r.wire.length ≤ d + 6; omega⟩
    show r.wire.drop (r.off + (r.i - r.cp) - r.i).toNat = r.b
    rw [← h11]; congr 1; omega
theorem ok_w4 (h : Inv d r) (hd : d ≤ 1000) (hw : w) (hway : (num.fdiv 2).fmod 8 = 4)  : C_w4 num w r ∧ Inv (d + 6) (U_w4 num r) := by
  have h1 := h.c0; have h2 := h.ci; have h3 := h.ib; have h4 := h.told; have h5 := h.off; have h6 := h.place; have h7 := h.len; have h8 := h.bd; have h9 := h.rm0; have h10 := h.rm1; have h11 := h.wire
  have hn := @fmod_pos (num.fdiv 16) 6 (by decide)
  have h7' := @fmod_pos (num.fdiv 16) 7 (by decide)
  have hlen : ((ints01 (num.fdiv 16)).getD []).length ≤ 6 := drawn_len _
  have hcl := fun a b => cut_length a b r.b
  refine ⟨?_, ?_⟩
  · unfold C_w4
    simp only [true_and, and_true]
    and_intros <;> first | exact hw | assumption | decide | omega | exact drawn_some _ | exact drawn_in _ | exact fun k _ => elt01_c k _ | (simp [hway]; done) | (simp; omega) | (exact decide_eq_false (by omega))
  · exact h.up
theorem ok_w7 (h : Inv d r) (hd : d ≤ 1000) (hw : w) (hway : (num.fdiv 2).fmod 8 = 7)  : C_w7 num w r ∧ Inv (d + 6) (U_w7 num r) := by
  have h1 := h.c0; have h2 := h.ci; have h3 := h.ib; have h4 := h.told; have h5 := h.off; have h6 := h.place; have h7 := h.len; have h8 := h.bd; have h9 := h.rm0; have h10 := h.rm1; have h11 := h.wire
  have hn := @fmod_pos (num.fdiv 16) 6 (by decide)
  have h7' := @fmod_pos (num.fdiv 16) 7 (by decide)
  have hlen : ((ints01 (num.fdiv 16)).getD []).length ≤ 6 := drawn_len _
  have hcl := fun a b => cut_length a b r.b
  refine ⟨?_, ?_⟩
  · unfold C_w7
    simp only [true_and, and_true]
    and_intros <;> first | exact hw | assumption | decide | omega | exact drawn_some _ | exact drawn_in _ | exact fun k _ => elt01_c k _ | (simp [hway]; done) | (simp; omega) | (exact decide_eq_false (by omega))
  · exact h.up
theorem ok_w5some (h : Inv d r) (hd : d ≤ 1000) (hw : w) (hway : (num.fdiv 2).fmod 8 = 5) (hz : r.i < r.b.length) : C_w5some num w r ∧ Inv (d + 6) (U_w5some num r) := by
  have h1 := h.c0; have h2 := h.ci; have h3 := h.ib; have h4 := h.told; have h5 := h.off; have h6 := h.place; have h7 := h.len; have h8 := h.bd; have h9 := h.rm0; have h10 := h.rm1; have h11 := h.wire
  have hn := @fmod_pos (num.fdiv 16) 6 (by decide)
  have h7' := @fmod_pos (num.fdiv 16) 7 (by decide)
  have hlen : ((ints01 (num.fdiv 16)).getD []).length ≤ 6 := drawn_len _
  have hcl := fun a b => cut_length a b r.b
  have hc : _ = _ := h.cut_end
  have hz' : (cut (some r.i) none r.b).length = r.b.length - r.i.toNat := by rw [Mine.cut_end (by omega), List.length_drop]
  have hby := @fmod_pos (((((cut (some r.i) none r.b).getD (Int.toNat (0 : Int)) (0 : UInt8)).toNat : Nat) : Int) + 1) 256 (by decide)
  refine ⟨?_, ?_⟩
  · unfold C_w5some
    simp only [true_and, and_true]
    and_intros <;> first | exact hw | assumption | decide | omega | exact drawn_some _ | exact drawn_in _ | exact fun k _ => elt01_c k _ | (simp [hway]; done) | (simp; omega) | (exact decide_eq_false (by omega)) | (exact beq_iff_eq.mpr hc)
  · exact h.up
theorem ok_w5none (h : Inv d r) (hd : d ≤ 1000) (hw : w) (hway : (num.fdiv 2).fmod 8 = 5) (hz : ¬ r.i < r.b.length) : C_w5none num w r ∧ Inv (d + 6) (U_w5none num r) := by
  have h1 := h.c0; have h2 := h.ci; have h3 := h.ib; have h4 := h.told; have h5 := h.off; have h6 := h.place; have h7 := h.len; have h8 := h.bd; have h9 := h.rm0; have h10 := h.rm1; have h11 := h.wire
  have hn := @fmod_pos (num.fdiv 16) 6 (by decide)
  have h7' := @fmod_pos (num.fdiv 16) 7 (by decide)
  have hlen : ((ints01 (num.fdiv 16)).getD []).length ≤ 6 := drawn_len _
  have hcl := fun a b => cut_length a b r.b
  have hc : _ = _ := h.cut_end
  have hz' : (cut (some r.i) none r.b).length = r.b.length - r.i.toNat := by rw [Mine.cut_end (by omega), List.length_drop]
  refine ⟨?_, ?_⟩
  · unfold C_w5none
    simp only [true_and, and_true]
    and_intros <;> first | exact hw | assumption | decide | omega | exact drawn_some _ | exact drawn_in _ | exact fun k _ => elt01_c k _ | (simp [hway]; done) | (simp; omega) | (exact decide_eq_false (by omega)) | (exact beq_iff_eq.mpr hc)
  · exact h.up
theorem ok_w1ok (h : Inv d r) (hd : d ≤ 1000) (hw : w) (hway : (num.fdiv 2).fmod 8 = 1) (hok : r.i + (num.fdiv 16).fmod 6 ≤ r.b.length) : C_w1ok num w r ∧ Inv (d + 6) (U_w1ok num r) := by
  have h1 := h.c0; have h2 := h.ci; have h3 := h.ib; have h4 := h.told; have h5 := h.off; have h6 := h.place; have h7 := h.len; have h8 := h.bd; have h9 := h.rm0; have h10 := h.rm1; have h11 := h.wire
  have hn := @fmod_pos (num.fdiv 16) 6 (by decide)
  have h7' := @fmod_pos (num.fdiv 16) 7 (by decide)
  have hlen : ((ints01 (num.fdiv 16)).getD []).length ≤ 6 := drawn_len _
  have hcl := fun a b => cut_length a b r.b
  have hc : _ = _ := h.cut_two hn.1
  have hl := h.cut_len hn.1 hok
  refine ⟨?_, ?_⟩
  · unfold C_w1ok
    simp only [true_and, and_true]
    and_intros <;> first | exact hw | assumption | decide | omega | exact drawn_some _ | exact drawn_in _ | exact fun k _ => elt01_c k _ | (simp [hway]; done) | (simp; omega) | (exact decide_eq_false (by omega)) | (exact beq_iff_eq.mpr hc)
  · have e : U_w1ok num r = { r with i := r.i + (num.fdiv 16).fmod 6, place := r.place + (num.fdiv 16).fmod 6 } := by unfold U_w1ok; rw [hl]
    rw [e]
    exact ⟨h1, by show r.cp ≤ r.i + _; omega, hok, h4, h5, by show r.place + _ = r.off + (r.i + _ - r.cp); omega, h11, h7, h9, h10, by show r.wire.length ≤ d + 6; omega⟩
theorem ok_w1short (h : Inv d r) (hd : d ≤ 1000) (hw : w) (hway : (num.fdiv 2).fmod 8 = 1) (hno : ¬ r.i + (num.fdiv 16).fmod 6 ≤ r.b.length) : C_w1short num w r ∧ Inv (d + 6) (U_w1short num r) := by
  have h1 := h.c0; have h2 := h.ci; have h3 := h.ib; have h4 := h.told; have h5 := h.off; have h6 := h.place; have h7 := h.len; have h8 := h.bd; have h9 := h.rm0; have h10 := h.rm1; have h11 := h.wire
  have hn := @fmod_pos (num.fdiv 16) 6 (by decide)
  have h7' := @fmod_pos (num.fdiv 16) 7 (by decide)
  have hlen : ((ints01 (num.fdiv 16)).getD []).length ≤ 6 := drawn_len _
  have hcl := fun a b => cut_length a b r.b
  refine ⟨?_, ?_⟩
  · unfold C_w1short
    simp only [true_and, and_true]
    and_intros <;> first | exact hw | assumption | decide | omega | exact drawn_some _ | exact drawn_in _ | exact fun k _ => elt01_c k _ | (simp [hway]; done) | (simp; omega) | (exact decide_eq_false (by omega))
  · exact ⟨h1, Int.le_refl _, by show r.cp ≤ (r.b.length : Int); omega, h4, h5, by show r.told = r.off + (r.cp - r.cp); omega, h11, h7, h9, h10, by show r.wire.length ≤ d + 6; omega⟩
theorem ok_w2ok (h : Inv d r) (hd : d ≤ 1000) (hw : w) (hway : (num.fdiv 2).fmod 8 = 2) (hok : r.i + (num.fdiv 16).fmod 6 ≤ r.b.length) : C_w2ok num w r ∧ Inv (d + 6) (U_w2ok num r) := by
  have h1 := h.c0; have h2 := h.ci; have h3 := h.ib; have h4 := h.told; have h5 := h.off; have h6 := h.place; have h7 := h.len; have h8 := h.bd; have h9 := h.rm0; have h10 := h.rm1; have h11 := h.wire
  have hn := @fmod_pos (num.fdiv 16) 6 (by decide)
  have h7' := @fmod_pos (num.fdiv 16) 7 (by decide)
  have hlen : ((ints01 (num.fdiv 16)).getD []).length ≤ 6 := drawn_len _
  have hcl := fun a b => cut_length a b r.b
  refine ⟨?_, ?_⟩
  · unfold C_w2ok
    simp only [true_and, and_true]
    and_intros <;> first | exact hw | assumption | decide | omega | exact drawn_some _ | exact drawn_in _ | exact fun k _ => elt01_c k _ | (simp [hway]; done) | (simp; omega) | (exact decide_eq_false (by omega))
  · exact h.up
theorem ok_w2short (h : Inv d r) (hd : d ≤ 1000) (hw : w) (hway : (num.fdiv 2).fmod 8 = 2) (hno : ¬ r.i + (num.fdiv 16).fmod 6 ≤ r.b.length) : C_w2short num w r ∧ Inv (d + 6) (U_w2short num r) := by
  have h1 := h.c0; have h2 := h.ci; have h3 := h.ib; have h4 := h.told; have h5 := h.off; have h6 := h.place; have h7 := h.len; have h8 := h.bd; have h9 := h.rm0; have h10 := h.rm1; have h11 := h.wire
  have hn := @fmod_pos (num.fdiv 16) 6 (by decide)
  have h7' := @fmod_pos (num.fdiv 16) 7 (by decide)
  have hlen : ((ints01 (num.fdiv 16)).getD []).length ≤ 6 := drawn_len _
  have hcl := fun a b => cut_length a b r.b
  refine ⟨?_, ?_⟩
  · unfold C_w2short
    simp only [true_and, and_true]
    and_intros <;> first | exact hw | assumption | decide | omega | exact drawn_some _ | exact drawn_in _ | exact fun k _ => elt01_c k _ | (simp [hway]; done) | (simp; omega) | (exact decide_eq_false (by omega))
  · exact ⟨h1, Int.le_refl _, by show r.cp ≤ (r.b.length : Int); omega, h4, h5, by show r.told = r.off + (r.cp - r.cp); omega, h11, h7, h9, h10, by show r.wire.length ≤ d + 6; omega⟩
theorem ok_w6ok (h : Inv d r) (hd : d ≤ 1000) (hw : w) (hway : (num.fdiv 2).fmod 8 = 6) (hok : r.i + (num.fdiv 16).fmod 6 ≤ r.b.length) : C_w6ok num w r ∧ Inv (d + 6) (U_w6ok num r) := by
  have h1 := h.c0; have h2 := h.ci; have h3 := h.ib; have h4 := h.told; have h5 := h.off; have h6 := h.place; have h7 := h.len; have h8 := h.bd; have h9 := h.rm0; have h10 := h.rm1; have h11 := h.wire
  have hn := @fmod_pos (num.fdiv 16) 6 (by decide)
  have h7' := @fmod_pos (num.fdiv 16) 7 (by decide)
  have hlen : ((ints01 (num.fdiv 16)).getD []).length ≤ 6 := drawn_len _
  have hcl := fun a b => cut_length a b r.b
  have hc : _ = _ := h.cut_two hn.1
  have hl := h.cut_len hn.1 hok
  refine ⟨?_, ?_⟩
  · unfold C_w6ok
    simp only [true_and, and_true]
    and_intros <;> first | exact hw | assumption | decide | omega | exact drawn_some _ | exact drawn_in _ | exact fun k _ => elt01_c k _ | (simp [hway]; done) | (simp; omega) | (exact decide_eq_false (by omega)) | (exact beq_iff_eq.mpr hc)
  · have e : U_w6ok num r = { r with i := r.i + (num.fdiv 16).fmod 6, cp := r.i + (num.fdiv 16).fmod 6, off := r.off + (r.i + (num.fdiv 16).fmod 6 - r.cp), told := r.place + (num.fdiv 16).fmod 6, place := r.place + (num.fdiv 16).fmod 6 } := by unfold U_w6ok; rw [hl]
    rw [e]
    refine ⟨by show 0 ≤ r.i + _; omega, Int.le_refl _, hok, by show r.place + _ = r.off + (r.i + _ - r.cp); omega, by show r.i + _ ≤ r.off + (r.i + _ - r.cp); omega, by show r.place + _ = r.off + (r.i + _ - r.cp) + (r.i + (num.fdiv 16).fmod 6 - (r.i + (num.fdiv 16).fmod 6)); omega, ?_, by show (r.wire.length : Int) = r.off + (r.i + (num.fdiv 16).fmod 6 - r.cp) - (r.i + (num.fdiv 16).fmod 6) + r.b.length; omega, h9, h10, by show r.wire.length ≤ d + 6; omega⟩
    show r.wire.drop (r.off + (r.i + (num.fdiv 16).fmod 6 - r.cp) - (r.i + (num.fdiv 16).fmod 6)).toNat = r.b
    rw [← h11]; congr 1; omega
theorem ok_w6short (h : Inv d r) (hd : d ≤ 1000) (hw : w) (hway : (num.fdiv 2).fmod 8 = 6) (hno : ¬ r.i + (num.fdiv 16).fmod 6 ≤ r.b.length) : C_w6short num w r ∧ Inv (d + 6) (U_w6short num r) := by
  have h1 := h.c0; have h2 := h.ci; have h3 := h.ib; have h4 := h.told; have h5 := h.off; have h6 := h.place; have h7 := h.len; have h8 := h.bd; have h9 := h.rm0; have h10 := h.rm1; have h11 := h.wire
  have hn := @fmod_pos (num.fdiv 16) 6 (by decide)
  have h7' := @fmod_pos (num.fdiv 16) 7 (by decide)
  have hlen : ((ints01 (num.fdiv 16)).getD []).length ≤ 6 := drawn_len _
  have hcl := fun a b => cut_length a b r.b
  refine ⟨?_, ?_⟩
  · unfold C_w6short
    simp only [true_and, and_true]
    and_intros <;> first | exact hw | assumption | decide | omega | exact drawn_some _ | exact drawn_in _ | exact fun k _ => elt01_c k _ | (simp [hway]; done) | (simp; omega) | (exact decide_eq_false (by omega))
  · exact ⟨h1, Int.le_refl _, by show r.cp ≤ (r.b.length : Int); omega, h4, h5, by show r.told = r.off + (r.cp - r.cp); omega, h11, h7, h9, h10, by show r.wire.length ≤ d + 6; omega⟩
theorem ok_w0fullo (h : Inv d r) (hd : d ≤ 1000) (hw : w) (hway : (num.fdiv 2).fmod 8 = 0) (hpar : (num.fdiv 16).fmod 2 = 1) (hfull : (r.b.length : Int) - r.i + ((ints01 (num.fdiv 16)).getD []).length > r.room) : C_w0fullo num w r ∧ Inv (d + 6) (U_w0fullo num r) := by
  have h1 := h.c0; have h2 := h.ci; have h3 := h.ib; have h4 := h.told; have h5 := h.off; have h6 := h.place; have h7 := h.len; have h8 := h.bd; have h9 := h.rm0; have h10 := h.rm1; have h11 := h.wire
  have hn := @fmod_pos (num.fdiv 16) 6 (by decide)
  have h7' := @fmod_pos (num.fdiv 16) 7 (by decide)
  have hlen : ((ints01 (num.fdiv 16)).getD []).length ≤ 6 := drawn_len _
  have hcl := fun a b => cut_length a b r.b
  refine ⟨?_, ?_⟩
  · unfold C_w0fullo
    simp only [true_and, and_true]
    and_intros <;> first | exact hw | assumption | decide | omega | exact drawn_some _ | exact drawn_in _ | exact fun k _ => elt01_c k _ | (simp [hway]; done) | (simp; omega) | (simp [hpar]; done) | (exact decide_eq_false (by omega))
  · exact h.up
theorem ok_w0og (h : Inv d r) (hd : d ≤ 1000) (hw : w) (hway : (num.fdiv 2).fmod 8 = 0) (hpar : (num.fdiv 16).fmod 2 = 1) (hfull : ¬ (r.b.length : Int) - r.i + ((ints01 (num.fdiv 16)).getD []).length > r.room) (hg : r.cp > 0) : C_w0og num w r ∧ Inv (d + 6) (U_w0og num r) := by
  have h1 := h.c0; have h2 := h.ci; have h3 := h.ib; have h4 := h.told; have h5 := h.off; have h6 := h.place; have h7 := h.len; have h8 := h.bd; have h9 := h.rm0; have h10 := h.rm1; have h11 := h.wire
  have hn := @fmod_pos (num.fdiv 16) 6 (by decide)
  have h7' := @fmod_pos (num.fdiv 16) 7 (by decide)
  have hlen : ((ints01 (num.fdiv 16)).getD []).length ≤ 6 := drawn_len _
  have hcl := fun a b => cut_length a b r.b
  refine ⟨?_, ?_⟩
  · unfold C_w0og
    simp only [true_and, and_true]
    and_intros <;> first | exact hw | assumption | decide | omega | exact drawn_some _ | exact drawn_in _ | exact fun k _ => elt01_c k _ | (simp [hway]; done) | (simp; omega) | (simp [hpar]; done) | (exact decide_eq_false (by omega))
  · have hp : (((ints01 (num.fdiv 16)).getD []).map fun n : Int => n.toNat.toUInt8).length = ((ints01 (num.fdiv 16)).getD []).length := by simp
    unfold U_w0og
    generalize (((ints01 (num.fdiv 16)).getD []).map fun n : Int => n.toNat.toUInt8) = q at hp
    refine ⟨Int.le_refl _, by simp; omega, by simp; omega, h4, by show (0 : Int) ≤ r.off; omega, by show r.place = r.off + (r.i - r.cp - 0); omega, ?_, by simp; omega, h9, h10, by simp; omega⟩
    show (r.wire ++ q).drop (r.off - 0).toNat = r.b.drop r.cp.toNat ++ q
    rw [List.drop_append_of_le_length (by omega), ← h11, List.drop_drop]
    congr 2; omega
theorem ok_w0on (h : Inv d r) (hd : d ≤ 1000) (hw : w) (hway : (num.fdiv 2).fmod 8 = 0) (hpar : (num.fdiv 16).fmod 2 = 1) (hfull : ¬ (r.b.length : Int) - r.i + ((ints01 (num.fdiv 16)).getD []).length > r.room) (hg : ¬ r.cp > 0) : C_w0on num w r ∧ Inv (d + 6) (U_w0on num r) := by
  have h1 := h.c0; have h2 := h.ci; have h3 := h.ib; have h4 := h.told; have h5 := h.off; have h6 := h.place; have h7 := h.len; have h8 := h.bd; have h9 := h.rm0; have h10 := h.rm1; have h11 := h.wire
  have hn := @fmod_pos (num.fdiv 16) 6 (by decide)
  have h7' := @fmod_pos (num.fdiv 16) 7 (by decide)
  have hlen : ((ints01 (num.fdiv 16)).getD []).length ≤ 6 := drawn_len _
  have hcl := fun a b => cut_length a b r.b
  refine ⟨?_, ?_⟩
  · unfold C_w0on
    simp only [true_and, and_true]
    and_intros <;> first | exact hw | assumption | decide | omega | exact drawn_some _ | exact drawn_in _ | exact fun k _ => elt01_c k _ | (simp [hway]; done) | (simp; omega) | (simp [hpar]; done) | (exact decide_eq_false (by omega))
  · have hp : (((ints01 (num.fdiv 16)).getD []).map fun n : Int => n.toNat.toUInt8).length = ((ints01 (num.fdiv 16)).getD []).length := by simp
    unfold U_w0on
    generalize (((ints01 (num.fdiv 16)).getD []).map fun n : Int => n.toNat.toUInt8) = q at hp
    have hcp : r.cp = 0 := by omega
    refine ⟨h1, h2, by simp; omega, h4, h5, h6, ?_, by simp; omega, h9, h10, by simp; omega⟩
    show (r.wire ++ q).drop (r.off - r.cp).toNat = r.b ++ q
    rw [List.drop_append_of_le_length (by omega), h11]
theorem ok_w0fulle (h : Inv d r) (hd : d ≤ 1000) (hw : w) (hway : (num.fdiv 2).fmod 8 = 0) (hpar : ¬ (num.fdiv 16).fmod 2 = 1) (hfull : (r.b.length : Int) - r.i + ((ints01 (num.fdiv 16)).getD []).length > r.room) : C_w0fulle num w r ∧ Inv (d + 6) (U_w0fulle num r) := by
  have h1 := h.c0; have h2 := h.ci; have h3 := h.ib; have h4 := h.told; have h5 := h.off; have h6 := h.place; have h7 := h.len; have h8 := h.bd; have h9 := h.rm0; have h10 := h.rm1; have h11 := h.wire
  have hn := @fmod_pos (num.fdiv 16) 6 (by decide)
  have h7' := @fmod_pos (num.fdiv 16) 7 (by decide)
  have hlen : ((ints01 (num.fdiv 16)).getD []).length ≤ 6 := drawn_len _
  have hcl := fun a b => cut_length a b r.b
  refine ⟨?_, ?_⟩
  · unfold C_w0fulle
    simp only [true_and, and_true]
    and_intros <;> first | exact hw | assumption | decide | omega | exact drawn_some _ | exact drawn_in _ | exact fun k _ => elt01_c k _ | (simp [hway]; done) | (simp; omega) | (simp [hpar]; done) | (exact decide_eq_false (by omega))
  · exact h.up
theorem ok_w0eg (h : Inv d r) (hd : d ≤ 1000) (hw : w) (hway : (num.fdiv 2).fmod 8 = 0) (hpar : ¬ (num.fdiv 16).fmod 2 = 1) (hfull : ¬ (r.b.length : Int) - r.i + ((ints01 (num.fdiv 16)).getD []).length > r.room) (hg : r.cp > 0) : C_w0eg num w r ∧ Inv (d + 6) (U_w0eg num r) := by
  have h1 := h.c0; have h2 := h.ci; have h3 := h.ib; have h4 := h.told; have h5 := h.off; have h6 := h.place; have h7 := h.len; have h8 := h.bd; have h9 := h.rm0; have h10 := h.rm1; have h11 := h.wire
  have hn := @fmod_pos (num.fdiv 16) 6 (by decide)
  have h7' := @fmod_pos (num.fdiv 16) 7 (by decide)
  have hlen : ((ints01 (num.fdiv 16)).getD []).length ≤ 6 := drawn_len _
  have hcl := fun a b => cut_length a b r.b
  refine ⟨?_, ?_⟩
  · unfold C_w0eg
    simp only [true_and, and_true]
    and_intros <;> first | exact hw | assumption | decide | omega | exact drawn_some _ | exact drawn_in _ | exact fun k _ => elt01_c k _ | (simp [hway]; done) | (simp; omega) | (simp [hpar]; done) | (exact decide_eq_false (by omega))
  · have hp : (((ints01 (num.fdiv 16)).getD []).map fun n : Int => n.toNat.toUInt8).length = ((ints01 (num.fdiv 16)).getD []).length := by simp
    unfold U_w0eg
    generalize (((ints01 (num.fdiv 16)).getD []).map fun n : Int => n.toNat.toUInt8) = q at hp
    refine ⟨Int.le_refl _, by simp; omega, by simp; omega, h4, by show (0 : Int) ≤ r.off; omega, by show r.place = r.off + (r.i - r.cp - 0); omega, ?_, by simp; omega, h9, h10, by simp; omega⟩
    show (r.wire ++ q).drop (r.off - 0).toNat = r.b.drop r.cp.toNat ++ q
    rw [List.drop_append_of_le_length (by omega), ← h11, List.drop_drop]
    congr 2; omega
theorem ok_w0en (h : Inv d r) (hd : d ≤ 1000) (hw : w) (hway : (num.fdiv 2).fmod 8 = 0) (hpar : ¬ (num.fdiv 16).fmod 2 = 1) (hfull : ¬ (r.b.length : Int) - r.i + ((ints01 (num.fdiv 16)).getD []).length > r.room) (hg : ¬ r.cp > 0) : C_w0en num w r ∧ Inv (d + 6) (U_w0en num r) := by
  have h1 := h.c0; have h2 := h.ci; have h3 := h.ib; have h4 := h.told; have h5 := h.off; have h6 := h.place; have h7 := h.len; have h8 := h.bd; have h9 := h.rm0; have h10 := h.rm1; have h11 := h.wire
  have hn := @fmod_pos (num.fdiv 16) 6 (by decide)
  have h7' := @fmod_pos (num.fdiv 16) 7 (by decide)
  have hlen : ((ints01 (num.fdiv 16)).getD []).length ≤ 6 := drawn_len _
  have hcl := fun a b => cut_length a b r.b
  refine ⟨?_, ?_⟩
  · unfold C_w0en
    simp only [true_and, and_true]
    and_intros <;> first | exact hw | assumption | decide | omega | exact drawn_some _ | exact drawn_in _ | exact fun k _ => elt01_c k _ | (simp [hway]; done) | (simp; omega) | (simp [hpar]; done) | (exact decide_eq_false (by omega))
  · have hp : (((ints01 (num.fdiv 16)).getD []).map fun n : Int => n.toNat.toUInt8).length = ((ints01 (num.fdiv 16)).getD []).length := by simp
    unfold U_w0en
    generalize (((ints01 (num.fdiv 16)).getD []).map fun n : Int => n.toNat.toUInt8) = q at hp
    have hcp : r.cp = 0 := by omega
    refine ⟨h1, h2, by simp; omega, h4, h5, h6, ?_, by simp; omega, h9, h10, by simp; omega⟩
    show (r.wire ++ q).drop (r.off - r.cp).toNat = r.b ++ q
    rw [List.drop_append_of_le_length (by omega), h11]
end
end Mine
-- part Pl3
open PySem PySem.W PyProof.Rows PySem.Calls
namespace Mine
def idsOk : List (Nat × AObj) → Bool
  | [] => true
  | p :: r => Nat.ble 17 p.1 && idsOk r
theorem getH_app {H : List (Nat × AObj)} {i : Nat} (hi : i < 17) : ∀ {G : List (Nat × AObj)}, idsOk G = true → getH (G ++ H) i = getH H i
  | [], _ => rfl
  | p :: r, h => by
    simp only [idsOk, Bool.and_eq_true] at h
    have h1 := Nat.le_of_ble_eq_true h.1
    show getH (p :: (r ++ H)) i = _
    conv => lhs; unfold getH
    rw [show Nat.beq i p.1 = false by rw [nbeq]; simp; omega]
    exact getH_app hi h.2
theorem getH_lt {own : Obj → Prop} {r0 r1 : Rdr} {i : Nat} {ao : AObj} (h : getH (hp01 own r0 r1) i = some ao) : i < 17 := by
  apply Decidable.byContradiction
  intro q
  have : ∀ k : Nat, k < 17 → Nat.beq i k = false := fun k hk => by rw [nbeq]; simp; omega
  simp only [hp01, getH] at h
  simp [this] at h
theorem getK_app {x : Str} {a : AV} {m : Loc} : ∀ {l : Loc}, getK x l = some a → getK x (l ++ m) = some a
  | [], h => by cases h
  | p :: r, h => by
    show getK x (p :: (r ++ m)) = _
    unfold getK at h ⊢
    split at h
    · exact h
    · exact getK_app h
def Turned (P : Params) (own : Obj → Prop) (n : Int) (l : List AV) (num : Int) (r0 r1 : Rdr) (d : Nat) : Prop :=
  ∃ p c st' r0' r1', run01 P (forBody P 7) p (st01 own n l num r0 r1) = some (.ok .next, [], c, st') ∧ c ∧ Inv d r0' ∧ Inv d r1' ∧ (∀ i ao, getH (hp01 own r0' r1') i = some ao → getH st'.hp i = some ao) ∧
    ∃ loc, st'.fr = [loc] ∧ ∀ x a, getK x (loc01 n l) = some a → getK x loc = some a
theorem turned {P : Params} {own : Obj → Prop} {n : Int} {l : List AV} {num : Int} {r0 r1 r0' r1' : Rdr} {d : Nat} {p : List Bool} {c : Prop} {G : List (Nat × AObj)} {N : Nat} {m : Loc}
    (e : run01 P (forBody P 7) p (st01 own n l num r0 r1) = some (.ok .next, [], c, { fr := [loc01 n l ++ m], hp := G ++ hp01 own r0' r1', next := N })) (hc : c) (h0 : Inv d r0') (h1 : Inv d r1') (hG : idsOk G = true) : Turned P own n l num r0 r1 d :=
  ⟨p, c, _, r0', r1', e, hc, h0, h1, fun i ao h => (getH_app (getH_lt h) hG).trans h, _, rfl, fun x a h => getK_app h⟩
section
variable {P : Params} {own : Obj → Prop} {n : Int} {l : List AV} {num : Int} {r0 r1 : Rdr} {d : Nat}
theorem turn_0 (h0 : Inv d r0) (h1 : Inv d r1) (hd : d ≤ 1000) (hw : num.fmod 2 = ((0 : Nat) : Int)) : Turned P own n l num r0 r1 (d + 6) := by
  have hway := @fmod_pos (num.fdiv 2) 8 (by decide)
  by_cases q0 : (num.fdiv 2).fmod 8 = 0
  · by_cases hpar : (num.fdiv 16).fmod 2 = 1
    · by_cases hfull : (r0.b.length : Int) - r0.i + ((ints01 (num.fdiv 16)).getD []).length > r0.room
      · exact turned (run_0_w0fullo P own n l num r0 r1) (ok_w0fullo h0 hd hw q0 hpar hfull).1 (ok_w0fullo h0 hd hw q0 hpar hfull).2 h1.up rfl
      · by_cases hg : r0.cp > 0
        · exact turned (run_0_w0og P own n l num r0 r1) (ok_w0og h0 hd hw q0 hpar hfull hg).1 (ok_w0og h0 hd hw q0 hpar hfull hg).2 h1.up rfl
        · exact turned (run_0_w0on P own n l num r0 r1) (ok_w0on h0 hd hw q0 hpar hfull hg).1 (ok_w0on h0 hd hw q0 hpar hfull hg).2 h1.up rfl
    · by_cases hfull : (r0.b.length : Int) - r0.i + ((ints01 (num.fdiv 16)).getD []).length > r0.room
      · exact turned (run_0_w0fulle P own n l num r0 r1) (ok_w0fulle h0 hd hw q0 hpar hfull).1 (ok_w0fulle h0 hd hw q0 hpar hfull).2 h1.up rfl
      · by_cases hg : r0.cp > 0
        · exact turned (run_0_w0eg P own n l num r0 r1) (ok_w0eg h0 hd hw q0 hpar hfull hg).1 (ok_w0eg h0 hd hw q0 hpar hfull hg).2 h1.up rfl
        · exact turned (run_0_w0en P own n l num r0 r1) (ok_w0en h0 hd hw q0 hpar hfull hg).1 (ok_w0en h0 hd hw q0 hpar hfull hg).2 h1.up rfl
  by_cases hok : r0.i + (num.fdiv 16).fmod 6 ≤ r0.b.length
  · by_cases q1 : (num.fdiv 2).fmod 8 = 1
    · exact turned (run_0_w1ok P own n l num r0 r1) (ok_w1ok h0 hd hw q1 hok).1 (ok_w1ok h0 hd hw q1 hok).2 h1.up rfl
    by_cases q2 : (num.fdiv 2).fmod 8 = 2
    · exact turned (run_0_w2ok P own n l num r0 r1) (ok_w2ok h0 hd hw q2 hok).1 (ok_w2ok h0 hd hw q2 hok).2 h1.up rfl
    by_cases q6 : (num.fdiv 2).fmod 8 = 6
    · exact turned (run_0_w6ok P own n l num r0 r1) (ok_w6ok h0 hd hw q6 hok).1 (ok_w6ok h0 hd hw q6 hok).2 h1.up rfl
    by_cases q3 : (num.fdiv 2).fmod 8 = 3
    · exact turned (run_0_w3 P own n l num r0 r1) (ok_w3 h0 hd hw q3).1 (ok_w3 h0 hd hw q3).2 h1.up rfl
    by_cases q4 : (num.fdiv 2).fmod 8 = 4
    · exact turned (run_0_w4 P own n l num r0 r1) (ok_w4 h0 hd hw q4).1 (ok_w4 h0 hd hw q4).2 h1.up rfl
    by_cases q5 : (num.fdiv 2).fmod 8 = 5
    · by_cases hz : r0.i < r0.b.length
      · exact turned (run_0_w5some P own n l num r0 r1) (ok_w5some h0 hd hw q5 hz).1 (ok_w5some h0 hd hw q5 hz).2 h1.up rfl
      · exact turned (run_0_w5none P own n l num r0 r1) (ok_w5none h0 hd hw q5 hz).1 (ok_w5none h0 hd hw q5 hz).2 h1.up rfl
    have q7 : (num.fdiv 2).fmod 8 = 7 := by omega
    exact turned (run_0_w7 P own n l num r0 r1) (ok_w7 h0 hd hw q7).1 (ok_w7 h0 hd hw q7).2 h1.up rfl
  · by_cases q1 : (num.fdiv 2).fmod 8 = 1
    · exact turned (run_0_w1short P own n l num r0 r1) (ok_w1short h0 hd hw q1 hok).1 (ok_w1short h0 hd hw q1 hok).2 h1.up rfl
    by_cases q2 : (num.fdiv 2).fmod 8 = 2
    · exact turned (run_0_w2short P own n l num r0 r1) (ok_w2short h0 hd hw q2 hok).1 (ok_w2short h0 hd hw q2 hok).2 h1.up rfl
    by_cases q6 : (num.fdiv 2).fmod 8 = 6
    · exact turned (run_0_w6short P own n l num r0 r1) (ok_w6short h0 hd hw q6 hok).1 (ok_w6short h0 hd hw q6 hok).2 h1.up rfl
    by_cases q3 : (num.fdiv 2).fmod 8 = 3
    · exact turned (run_0_w3 P own n l num r0 r1) (ok_w3 h0 hd hw q3).1 (ok_w3 h0 hd hw q3).2 h1.up rfl
    by_cases q4 : (num.fdiv 2).fmod 8 = 4
    · exact turned (run_0_w4 P own n l num r0 r1) (ok_w4 h0 hd hw q4).1 (ok_w4 h0 hd hw q4).2 h1.up rfl
    by_cases q5 : (num.fdiv 2).fmod 8 = 5
    · by_cases hz : r0.i < r0.b.length
      · exact turned (run_0_w5some P own n l num r0 r1) (ok_w5some h0 hd hw q5 hz).1 (ok_w5some h0 hd hw q5 hz).2 h1.up rfl
      · exact turned (run_0_w5none P own n l num r0 r1) (ok_w5none h0 hd hw q5 hz).1 (ok_w5none h0 hd hw q5 hz).2 h1.up rfl
    have q7 : (num.fdiv 2).fmod 8 = 7 := by omega
    exact turned (run_0_w7 P own n l num r0 r1) (ok_w7 h0 hd hw q7).1 (ok_w7 h0 hd hw q7).2 h1.up rfl
theorem turn_1 (h0 : Inv d r0) (h1 : Inv d r1) (hd : d ≤ 1000) (hw : num.fmod 2 = ((0 + 1 : Nat) : Int)) : Turned P own n l num r0 r1 (d + 6) := by
  have hway := @fmod_pos (num.fdiv 2) 8 (by decide)
  by_cases q0 : (num.fdiv 2).fmod 8 = 0
  · by_cases hpar : (num.fdiv 16).fmod 2 = 1
    · by_cases hfull : (r1.b.length : Int) - r1.i + ((ints01 (num.fdiv 16)).getD []).length > r1.room
      · exact turned (run_1_w0fullo P own n l num r0 r1) (ok_w0fullo h1 hd hw q0 hpar hfull).1 h0.up (ok_w0fullo h1 hd hw q0 hpar hfull).2 rfl
      · by_cases hg : r1.cp > 0
        · exact turned (run_1_w0og P own n l num r0 r1) (ok_w0og h1 hd hw q0 hpar hfull hg).1 h0.up (ok_w0og h1 hd hw q0 hpar hfull hg).2 rfl
        · exact turned (run_1_w0on P own n l num r0 r1) (ok_w0on h1 hd hw q0 hpar hfull hg).1 h0.up (ok_w0on h1 hd hw q0 hpar hfull hg).2 rfl
    · by_cases hfull : (r1.b.length : Int) - r1.i + ((ints01 (num.fdiv 16)).getD []).length > r1.room
      · exact turned (run_1_w0fulle P own n l num r0 r1) (ok_w0fulle h1 hd hw q0 hpar hfull).1 h0.up (ok_w0fulle h1 hd hw q0 hpar hfull).2 rfl
      · by_cases hg : r1.cp > 0
        · exact turned (run_1_w0eg P own n l num r0 r1) (ok_w0eg h1 hd hw q0 hpar hfull hg).1 h0.up (ok_w0eg h1 hd hw q0 hpar hfull hg).2 rfl
        · exact turned (run_1_w0en P own n l num r0 r1) (ok_w0en h1 hd hw q0 hpar hfull hg).1 h0.up (ok_w0en h1 hd hw q0 hpar hfull hg).2 rfl
  by_cases hok : r1.i + (num.fdiv 16).fmod 6 ≤ r1.b.length
  · by_cases q1 : (num.fdiv 2).fmod 8 = 1
    · exact turned (run_1_w1ok P own n l num r0 r1) (ok_w1ok h1 hd hw q1 hok).1 h0.up (ok_w1ok h1 hd hw q1 hok).2 rfl
    by_cases q2 : (num.fdiv 2).fmod 8 = 2
    · exact turned (run_1_w2ok P own n l num r0 r1) (ok_w2ok h1 hd hw q2 hok).1 h0.up (ok_w2ok h1 hd hw q2 hok).2 rfl
    by_cases q6 : (num.fdiv 2).fmod 8 = 6
    · exact turned (run_1_w6ok P own n l num r0 r1) (ok_w6ok h1 hd hw q6 hok).1 h0.up (ok_w6ok h1 hd hw q6 hok).2 rfl
    by_cases q3 : (num.fdiv 2).fmod 8 = 3
    · exact turned (run_1_w3 P own n l num r0 r1) (ok_w3 h1 hd hw q3).1 h0.up (ok_w3 h1 hd hw q3).2 rfl
    by_cases q4 : (num.fdiv 2).fmod 8 = 4
    · exact turned (run_1_w4 P own n l num r0 r1) (ok_w4 h1 hd hw q4).1 h0.up (ok_w4 h1 hd hw q4).2 rfl
    by_cases q5 : (num.fdiv 2).fmod 8 = 5
    · by_cases hz : r1.i < r1.b.length
      · exact turned (run_1_w5some P own n l num r0 r1) (ok_w5some h1 hd hw q5 hz).1 h0.up (ok_w5some h1 hd hw q5 hz).2 rfl
      · exact turned (run_1_w5none P own n l num r0 r1) (ok_w5none h1 hd hw q5 hz).1 h0.up (ok_w5none h1 hd hw q5 hz).2 rfl
    have q7 : (num.fdiv 2).fmod 8 = 7 := by omega
    exact turned (run_1_w7 P own n l num r0 r1) (ok_w7 h1 hd hw q7).1 h0.up (ok_w7 h1 hd hw q7).2 rfl
  · by_cases q1 : (num.fdiv 2).fmod 8 = 1
    · exact turned (run_1_w1short P own n l num r0 r1) (ok_w1short h1 hd hw q1 hok).1 h0.up (ok_w1short h1 hd hw q1 hok).2 rfl
    by_cases q2 : (num.fdiv 2).fmod 8 = 2
    · exact turned (run_1_w2short P own n l num r0 r1) (ok_w2short h1 hd hw q2 hok).1 h0.up (ok_w2short h1 hd hw q2 hok).2 rfl
    by_cases q6 : (num.fdiv 2).fmod 8 = 6
    · exact turned (run_1_w6short P own n l num r0 r1) (ok_w6short h1 hd hw q6 hok).1 h0.up (ok_w6short h1 hd hw q6 hok).2 rfl
    by_cases q3 : (num.fdiv 2).fmod 8 = 3
    · exact turned (run_1_w3 P own n l num r0 r1) (ok_w3 h1 hd hw q3).1 h0.up (ok_w3 h1 hd hw q3).2 rfl
    by_cases q4 : (num.fdiv 2).fmod 8 = 4
    · exact turned (run_1_w4 P own n l num r0 r1) (ok_w4 h1 hd hw q4).1 h0.up (ok_w4 h1 hd hw q4).2 rfl
    by_cases q5 : (num.fdiv 2).fmod 8 = 5
    · by_cases hz : r1.i < r1.b.length
      · exact turned (run_1_w5some P own n l num r0 r1) (ok_w5some h1 hd hw q5 hz).1 h0.up (ok_w5some h1 hd hw q5 hz).2 rfl
      · exact turned (run_1_w5none P own n l num r0 r1) (ok_w5none h1 hd hw q5 hz).1 h0.up (ok_w5none h1 hd hw q5 hz).2 rfl
    have q7 : (num.fdiv 2).fmod 8 = 7 := by omega
    exact turned (run_1_w7 P own n l num r0 r1) (ok_w7 h1 hd hw q7).1 h0.up (ok_w7 h1 hd hw q7).2 rfl
theorem turn_any (h0 : Inv d r0) (h1 : Inv d r1) (hd : d ≤ 1000) : Turned P own n l num r0 r1 (d + 6) := by
  have hw := @fmod_pos num 2 (by decide)
  by_cases h : num.fmod 2 = 0
  · exact turn_0 h0 h1 hd h
  · exact turn_1 h0 h1 hd (by show num.fmod 2 = 1; omega)
end
end Mine
-- part R02
open PySem PySem.W PyProof.Rows PySem.Calls
namespace Mine
def st01t (own : Obj → Prop) (n : Int) (l : List AV) (wh : Int) (r0 r1 : Rdr) : ASt := { fr := [putK "which" (.int wh) (loc01 n l)], hp := hp01 own r0 r1, next := 17 }
def D_tail_0 (P : Params) (own : Obj → Prop) (n : Int) (l : List AV) (r0 r1 : Rdr) : Prop := ((True ∧ True ∧ (0 : Int) = (↑(0 : Nat) : Int)) ∧ (True ∧ True ∧ True ∧ True ∧ True ∧ True) ∧ True) ∧ (((((True ∧ True ∧ (0 : Int) = (↑(0 : Nat) : Int)) ∧ True ∧ (True ∧ True ∧ True) ∧ ((True ∧ True) ∧ True) ∧ True) ∧ True ∧ True ∧ (!r0.off == r0.told) = false) ∧ (((True ∧ True ∧ (0 : Int) = (↑(0 : Nat) : Int)) ∧ True ∧ (True ∧ True ∧ True) ∧ (((True ∧ True) ∧ (True ∧ (((True ∧ True) ∧ True ∧ True) ∧ True ∧ True) ∧ r0.b.length ≤ (16777216 : Nat)) ∧ True) ∧ True) ∧ True) ∧ (True ∧ (True ∧ ((True ∧ True ∧ True) ∧ True ∧ True) ∧ r0.wire.length ≤ (16777216 : Nat)) ∧ True) ∧ True ∧ (!decide (r0.i < (↑r0.b.length : Int)) == decide (r0.place < (↑r0.wire.length : Int))) = false) ∧ True) ∧ True) ∧ True
theorem run_tail_0 (P : Params) (own : Obj → Prop) (n : Int) (l : List AV) (r0 r1 : Rdr) : run01 P (forBody P 8) [true, true, false, true, false] (st01t own n l 0 r0 r1) = some (R.ok FlX.next, [], D_tail_0 P own n l r0 r1, { fr := [[(Str.ofString "script", AV.lst l), (Str.ofString "first", AV.int n), (Str.ofString "rooms", AV.ref (1 : Nat)), (Str.ofString "readers", AV.ref (8 : Nat)), (Str.ofString "states", AV.ref (11 : Nat)), (Str.ofString "which", AV.int (0 : Int)), (Str.ofString "wire", AV.bytes r0.wire), (Str.ofString "told", AV.int r0.told), (Str.ofString "place", AV.int r0.place), (Str.ofString "room", AV.int r0.room)]], hp := [((16 : Nat), AObj.own own), ((11 : Nat), AObj.list [AV.ref (9 : Nat), AV.ref (10 : Nat)]), ((10 : Nat), AObj.list [AV.bytes r1.wire, AV.int r1.told, AV.int r1.place, AV.int r1.room]), ((9 : Nat), AObj.list [AV.bytes r0.wire, AV.int r0.told, AV.int r0.place, AV.int r0.room]), ((8 : Nat), AObj.list [AV.ref (3 : Nat), AV.ref (6 : Nat)]), ((7 : Nat), AObj.barr r1.b), ((6 : Nat), AObj.inst (445 : Nat) (5 : Nat)), ((5 : Nat), AObj.attrs [(Str.ofString "_feeding", AV.lit true), (Str.ofString "_buffer", AV.ref (7 : Nat)), (Str.ofString "_buff_i", AV.int r1.i), (Str.ofString "_buf_checkpoint", AV.int r1.cp), (Str.ofString "_max_buffer_size", AV.int r1.room), (Str.ofString "_read_size", AV.int (if (16 : Int) * (1024 : Int) < r1.room then (16 : Int) * (1024 : Int) else r1.room)), (Str.ofString "_raw", AV.lit false), (Str.ofString "_strict_map_key", AV.lit true), (Str.ofString "_unicode_errors", AV.str (Str.ofString "strict")), (Str.ofString "_use_list", AV.lit true), (Str.ofString "_timestamp", AV.int (0 : Int)), (Str.ofString "_list_hook", AV.none), (Str.ofString "_object_hook", AV.none), (Str.ofString "_object_pairs_hook", AV.none), (Str.ofString "_ext_hook", AV.const (Value.ref (160 : Nat))), (Str.ofString "_max_str_len", AV.int r1.room), (Str.ofString "_max_bin_len", AV.int r1.room), (Str.ofString "_max_array_len", AV.int r1.room), (Str.ofString "_max_map_len", AV.int (r1.room.fdiv (2 : Int))), (Str.ofString "_max_ext_len", AV.int r1.room), (Str.ofString "_stream_offset", AV.int r1.off)]), ((4 : Nat), AObj.barr r0.b), ((3 : Nat), AObj.inst (445 : Nat) (2 : Nat)), ((2 : Nat), AObj.attrs [(Str.ofString "_feeding", AV.lit true), (Str.ofString "_buffer", AV.ref (4 : Nat)), (Str.ofString "_buff_i", AV.int r0.i), (Str.ofString "_buf_checkpoint", AV.int r0.cp), (Str.ofString "_max_buffer_size", AV.int r0.room), (Str.ofString "_read_size", AV.int (if (16 : Int) * (1024 : Int) < r0.room then (16 : Int) * (1024 : Int) else r0.room)), (Str.ofString "_raw", AV.lit false), (Str.ofString "_strict_map_key", AV.lit true), (Str.ofString "_unicode_errors", AV.str (Str.ofString "strict")), (Str.ofString "_use_list", AV.lit true), (Str.ofString "_timestamp", AV.int (0 : Int)), (Str.ofString "_list_hook", AV.none), (Str.ofString "_object_hook", AV.none), (Str.ofString "_object_pairs_hook", AV.none), (Str.ofString "_ext_hook", AV.const (Value.ref (160 : Nat))), (Str.ofString "_max_str_len", AV.int r0.room), (Str.ofString "_max_bin_len", AV.int r0.room), (Str.ofString "_max_array_len", AV.int r0.room), (Str.ofString "_max_map_len", AV.int (r0.room.fdiv (2 : Int))), (Str.ofString "_max_ext_len", AV.int r0.room), (Str.ofString "_stream_offset", AV.int r0.off)])], next := (17 : Nat) }) := by kernel_rfl
def D_tail_1 (P : Params) (own : Obj → Prop) (n : Int) (l : List AV) (r0 r1 : Rdr) : Prop := ((True ∧ True ∧ (1 : Int) = (↑((0 : Nat) + (1 : Nat)) : Int)) ∧ (True ∧ True ∧ True ∧ True ∧ True ∧ True) ∧ True) ∧ (((((True ∧ True ∧ (1 : Int) = (↑((0 : Nat) + (1 : Nat)) : Int)) ∧ True ∧ (True ∧ True ∧ True) ∧ ((True ∧ True) ∧ True) ∧ True) ∧ True ∧ True ∧ (!r1.off == r1.told) = false) ∧ (((True ∧ True ∧ (1 : Int) = (↑((0 : Nat) + (1 : Nat)) : Int)) ∧ True ∧ (True ∧ True ∧ True) ∧ (((True ∧ True) ∧ (True ∧ (((True ∧ True) ∧ True ∧ True) ∧ True ∧ True) ∧ r1.b.length ≤ (16777216 : Nat)) ∧ True) ∧ True) ∧ True) ∧ (True ∧ (True ∧ ((True ∧ True ∧ True) ∧ True ∧ True) ∧ r1.wire.length ≤ (16777216 : Nat)) ∧ True) ∧ True ∧ (!decide (r1.i < (↑r1.b.length : Int)) == decide (r1.place < (↑r1.wire.length : Int))) = false) ∧ True) ∧ True) ∧ True
theorem run_tail_1 (P : Params) (own : Obj → Prop) (n : Int) (l : List AV) (r0 r1 : Rdr) : run01 P (forBody P 8) [false, true, false, true, false, false, true, false] (st01t own n l 1 r0 r1) = some (R.ok FlX.next, [], D_tail_1 P own n l r0 r1, { fr := [[(Str.ofString "script", AV.lst l), (Str.ofString "first", AV.int n), (Str.ofString "rooms", AV.ref (1 : Nat)), (Str.ofString "readers", AV.ref (8 : Nat)), (Str.ofString "states", AV.ref (11 : Nat)), (Str.ofString "which", AV.int (1 : Int)), (Str.ofString "wire", AV.bytes r1.wire), (Str.ofString "told", AV.int r1.told), (Str.ofString "place", AV.int r1.place), (Str.ofString "room", AV.int r1.room)]], hp := [((16 : Nat), AObj.own own), ((11 : Nat), AObj.list [AV.ref (9 : Nat), AV.ref (10 : Nat)]), ((10 : Nat), AObj.list [AV.bytes r1.wire, AV.int r1.told, AV.int r1.place, AV.int r1.room]), ((9 : Nat), AObj.list [AV.bytes r0.wire, AV.int r0.told, AV.int r0.place, AV.int r0.room]), ((8 : Nat), AObj.list [AV.ref (3 : Nat), AV.ref (6 : Nat)]), ((7 : Nat), AObj.barr r1.b), ((6 : Nat), AObj.inst (445 : Nat) (5 : Nat)), ((5 : Nat), AObj.attrs [(Str.ofString "_feeding", AV.lit true), (Str.ofString "_buffer", AV.ref (7 : Nat)), (Str.ofString "_buff_i", AV.int r1.i), (Str.ofString "_buf_checkpoint", AV.int r1.cp), (Str.ofString "_max_buffer_size", AV.int r1.room), (Str.ofString "_read_size", AV.int (if (16 : Int) * (1024 : Int) < r1.room then (16 : Int) * (1024 : Int) else r1.room)), (Str.ofString "_raw", AV.lit false), (Str.ofString "_strict_map_key", AV.lit true), (Str.ofString "_unicode_errors", AV.str (Str.ofString "strict")), (Str.ofString "_use_list", AV.lit true), (Str.ofString "_timestamp", AV.int (0 : Int)), (Str.ofString "_list_hook", AV.none), (Str.ofString "_object_hook", AV.none), (Str.ofString "_object_pairs_hook", AV.none), (Str.ofString "_ext_hook", AV.const (Value.ref (160 : Nat))), (Str.ofString "_max_str_len", AV.int r1.room), (Str.ofString "_max_bin_len", AV.int r1.room), (Str.ofString "_max_array_len", AV.int r1.room), (Str.ofString "_max_map_len", AV.int (r1.room.fdiv (2 : Int))), (Str.ofString "_max_ext_len", AV.int r1.room), (Str.ofString "_stream_offset", AV.int r1.off)]), ((4 : Nat), AObj.barr r0.b), ((3 : Nat), AObj.inst (445 : Nat) (2 : Nat)), ((2 : Nat), AObj.attrs [(Str.ofString "_feeding", AV.lit true), (Str.ofString "_buffer", AV.ref (4 : Nat)), (Str.ofString "_buff_i", AV.int r0.i), (Str.ofString "_buf_checkpoint", AV.int r0.cp), (Str.ofString "_max_buffer_size", AV.int r0.room), (Str.ofString "_read_size", AV.int (if (16 : Int) * (1024 : Int) < r0.room then (16 : Int) * (1024 : Int) else r0.room)), (Str.ofString "_raw", AV.lit false), (Str.ofString "_strict_map_key", AV.lit true), (Str.ofString "_unicode_errors", AV.str (Str.ofString "strict")), (Str.ofString "_use_list", AV.lit true), (Str.ofString "_timestamp", AV.int (0 : Int)), (Str.ofString "_list_hook", AV.none), (Str.ofString "_object_hook", AV.none), (Str.ofString "_object_pairs_hook", AV.none), (Str.ofString "_ext_hook", AV.const (Value.ref (160 : Nat))), (Str.ofString "_max_str_len", AV.int r0.room), (Str.ofString "_max_bin_len", AV.int r0.room), (Str.ofString "_max_array_len", AV.int r0.room), (Str.ofString "_max_map_len", AV.int (r0.room.fdiv (2 : Int))), (Str.ofString "_max_ext_len", AV.int r0.room), (Str.ofString "_stream_offset", AV.int r0.off)])], next := (17 : Nat) }) := by kernel_rfl
def D_tail_ret (P : Params) (n : Int) (l : List AV) (r0 r1 : Rdr) : Prop := ((((True ∧ ((((True ∧ True ∧ (0 : Int) ≤ (0 : Int) ∧ (0 : Int) < (1000 : Int)) ∧ True ∧ (True ∧ True ∧ True) ∧ (((True ∧ True) ∧ (((True ∧ True) ∧ True) ∧ True ∧ True) ∧ r0.b.length ≤ (16777216 : Nat)) ∧ True) ∧ True) ∧ True ∧ True) ∧ True ∧ True) ∧ (cut (some r0.i) none r0.b).length ≤ (16777216 : Nat)) ∧ (((True ∧ True ∧ (0 : Int) ≤ (0 : Int) ∧ (0 : Int) < (1000 : Int)) ∧ True ∧ (0 : Int) ≤ (0 : Int) ∧ (0 : Int) < (1000 : Int)) ∧ ((((True ∧ True ∧ (0 : Int) ≤ (0 : Int) ∧ (0 : Int) < (1000 : Int)) ∧ True ∧ (0 : Int) ≤ (2 : Int) ∧ (2 : Int) < (1000 : Int)) ∧ True) ∧ True ∧ True) ∧ r0.wire.length ≤ (16777216 : Nat)) ∧ True) ∧ (cut (some r0.i) none r0.b == cut (some r0.place) none r0.wire) = true ∧ (True ∧ ((((True ∧ True ∧ (0 : Int) ≤ (1 : Int) ∧ (1 : Int) < (1000 : Int)) ∧ True ∧ (True ∧ True ∧ True) ∧ (((True ∧ True) ∧ (((True ∧ True) ∧ True) ∧ True ∧ True) ∧ r1.b.length ≤ (16777216 : Nat)) ∧ True) ∧ True) ∧ True ∧ True) ∧ True ∧ True) ∧ (cut (some r1.i) none r1.b).length ≤ (16777216 : Nat)) ∧ (((True ∧ True ∧ (0 : Int) ≤ (1 : Int) ∧ (1 : Int) < (1000 : Int)) ∧ True ∧ (0 : Int) ≤ (0 : Int) ∧ (0 : Int) < (1000 : Int)) ∧ ((((True ∧ True ∧ (0 : Int) ≤ (1 : Int) ∧ (1 : Int) < (1000 : Int)) ∧ True ∧ (0 : Int) ≤ (2 : Int) ∧ (2 : Int) < (1000 : Int)) ∧ True) ∧ True ∧ True) ∧ r1.wire.length ≤ (16777216 : Nat)) ∧ True) ∧ True) ∧ True
theorem run_tail_ret (P : Params) (n : Int) (l : List AV) (r0 r1 : Rdr) : run01 P ((law01 P).drop 9) [true] { fr := [loc01 n l], hp := (hp01 (fun _ => True) r0 r1).drop 1, next := 16 } = some (R.ok (FlX.ret (AV.bool (cut (some r1.i) none r1.b == cut (some r1.place) none r1.wire))), [], D_tail_ret P n l r0 r1, { fr := [[(Str.ofString "script", AV.lst l), (Str.ofString "first", AV.int n), (Str.ofString "rooms", AV.ref (1 : Nat)), (Str.ofString "readers", AV.ref (8 : Nat)), (Str.ofString "states", AV.ref (11 : Nat))]], hp := [((17 : Nat), AObj.barr (cut (some r1.i) none r1.b)), ((16 : Nat), AObj.barr (cut (some r0.i) none r0.b)), ((11 : Nat), AObj.list [AV.ref (9 : Nat), AV.ref (10 : Nat)]), ((10 : Nat), AObj.list [AV.bytes r1.wire, AV.int r1.told, AV.int r1.place, AV.int r1.room]), ((9 : Nat), AObj.list [AV.bytes r0.wire, AV.int r0.told, AV.int r0.place, AV.int r0.room]), ((8 : Nat), AObj.list [AV.ref (3 : Nat), AV.ref (6 : Nat)]), ((7 : Nat), AObj.barr r1.b), ((6 : Nat), AObj.inst (445 : Nat) (5 : Nat)), ((5 : Nat), AObj.attrs [(Str.ofString "_feeding", AV.lit true), (Str.ofString "_buffer", AV.ref (7 : Nat)), (Str.ofString "_buff_i", AV.int r1.i), (Str.ofString "_buf_checkpoint", AV.int r1.cp), (Str.ofString "_max_buffer_size", AV.int r1.room), (Str.ofString "_read_size", AV.int (if (16 : Int) * (1024 : Int) < r1.room then (16 : Int) * (1024 : Int) else r1.room)), (Str.ofString "_raw", AV.lit false), (Str.ofString "_strict_map_key", AV.lit true), (Str.ofString "_unicode_errors", AV.str (Str.ofString "strict")), (Str.ofString "_use_list", AV.lit true), (Str.ofString "_timestamp", AV.int (0 : Int)), (Str.ofString "_list_hook", AV.none), (Str.ofString "_object_hook", AV.none), (Str.ofString "_object_pairs_hook", AV.none), (Str.ofString "_ext_hook", AV.const (Value.ref (160 : Nat))), (Str.ofString "_max_str_len", AV.int r1.room), (Str.ofString "_max_bin_len", AV.int r1.room), (Str.ofString "_max_array_len", AV.int r1.room), (Str.ofString "_max_map_len", AV.int (r1.room.fdiv (2 : Int))), (Str.ofString "_max_ext_len", AV.int r1.room), (Str.ofString "_stream_offset", AV.int r1.off)]), ((4 : Nat), AObj.barr r0.b), ((3 : Nat), AObj.inst (445 : Nat) (2 : Nat)), ((2 : Nat), AObj.attrs [(Str.ofString "_feeding", AV.lit true), (Str.ofString "_buffer", AV.ref (4 : Nat)), (Str.ofString "_buff_i", AV.int r0.i), (Str.ofString "_buf_checkpoint", AV.int r0.cp), (Str.ofString "_max_buffer_size", AV.int r0.room), (Str.ofString "_read_size", AV.int (if (16 : Int) * (1024 : Int) < r0.room then (16 : Int) * (1024 : Int) else r0.room)), (Str.ofString "_raw", AV.lit false), (Str.ofString "_strict_map_key", AV.lit true), (Str.ofString "_unicode_errors", AV.str (Str.ofString "strict")), (Str.ofString "_use_list", AV.lit true), (Str.ofString "_timestamp", AV.int (0 : Int)), (Str.ofString "_list_hook", AV.none), (Str.ofString "_object_hook", AV.none), (Str.ofString "_object_pairs_hook", AV.none), (Str.ofString "_ext_hook", AV.const (Value.ref (160 : Nat))), (Str.ofString "_max_str_len", AV.int r0.room), (Str.ofString "_max_bin_len", AV.int r0.room), (Str.ofString "_max_array_len", AV.int r0.room), (Str.ofString "_max_map_len", AV.int (r0.room.fdiv (2 : Int))), (Str.ofString "_max_ext_len", AV.int r0.room), (Str.ofString "_stream_offset", AV.int r0.off)])], next := (18 : Nat) }) := by kernel_rfl
def D_pre_no (P : Params) : Prop := (((True ∧ (True ∧ True) ∧ True ∧ (([] : List AV).length != (0 : Nat)) = false) ∧ True) ∧ True ∧ True) ∧ ((((True ∧ (True ∧ True ∧ (20 : Int) ≠ (0 : Int)) ∧ True) ∧ ((True ∧ ((True ∧ True ∧ (20 : Int) ≠ (0 : Int) ∧ Int.natAbs (20 : Int) < (1073741824 : Nat)) ∧ True ∧ (30 : Int) ≠ (0 : Int)) ∧ True) ∧ True ∧ True) ∧ True) ∧ True) ∧ True ∧ True) ∧ ((((True ∧ (True ∧ ((True ∧ True ∧ (0 : Int) ≤ (0 : Int) ∧ (0 : Int) < (1000 : Int)) ∧ True ∧ True) ∧ True) ∧ ((True ∧ True ∧ True ∧ True) ∧ (True ∧ True ∧ True) ∧ True) ∧ ((True ∧ True ∧ True ∧ True) ∧ (True ∧ (True ∧ True) ∧ True) ∧ True) ∧ ((True ∧ (True ∧ True ∧ True) ∧ True) ∧ (True ∧ True) ∧ True) ∧ (True ∧ (True ∧ True) ∧ True) ∧ (True ∧ (True ∧ True) ∧ True) ∧ (((True ∧ ((4 : Int) + Int.fmod (0 : Int) (20 : Int) != (0 : Int)) = true) ∧ True) ∧ True) ∧ ((True ∧ (True ∧ True) ∧ True ∧ ((-1 : Int) == (-1 : Int)) = true) ∧ (True ∧ True ∧ True) ∧ True) ∧ ((True ∧ (True ∧ True) ∧ True ∧ ((-1 : Int) == (-1 : Int)) = true) ∧ (True ∧ True ∧ True) ∧ True) ∧ ((True ∧ (True ∧ True) ∧ True ∧ ((-1 : Int) == (-1 : Int)) = true) ∧ (True ∧ True ∧ True) ∧ True) ∧ ((True ∧ (True ∧ True) ∧ True ∧ ((-1 : Int) == (-1 : Int)) = true) ∧ ((True ∧ True ∧ (2 : Int) ≠ (0 : Int) ∧ Int.natAbs (2 : Int) < (1073741824 : Nat)) ∧ True ∧ True) ∧ True) ∧ ((True ∧ (True ∧ True) ∧ True ∧ ((-1 : Int) == (-1 : Int)) = true) ∧ (True ∧ True ∧ True) ∧ True) ∧ (True ∧ (True ∧ True) ∧ True) ∧ ((True ∧ (True ∧ True) ∧ True ∧ decide ((0 : Int) > (4 : Int) + Int.fmod (0 : Int) (20 : Int)) = false) ∧ True) ∧ ((True ∧ ((0 : Int) != (0 : Int)) = false ∧ True ∧ (((True ∧ True) ∧ ((True ∧ True ∧ IntMulOk (16 : Int) (1024 : Int)) ∧ True ∧ True) ∧ True) ∧ True ∧ True) ∧ True) ∧ (True ∧ True) ∧ True) ∧ ((True ∧ ((True ∧ True ∧ True) ∧ True ∧ True) ∧ True) ∧ (True ∧ True) ∧ True) ∧ ((True ∧ ((True ∧ True ∧ True) ∧ True ∧ True) ∧ True) ∧ (True ∧ True) ∧ True) ∧ (True ∧ (True ∧ True) ∧ True) ∧ (True ∧ (True ∧ True) ∧ True) ∧ (((True ∧ True ∧ True ∧ decide ((0 : Int) ≤ (0 : Int)) = true ∧ True ∧ True ∧ decide ((0 : Int) ≤ (2 : Int)) = true) ∧ True) ∧ True) ∧ (True ∧ (True ∧ True) ∧ True) ∧ (True ∧ (True ∧ True) ∧ True) ∧ (True ∧ (True ∧ True) ∧ True) ∧ (True ∧ (True ∧ True) ∧ True) ∧ (True ∧ (True ∧ True) ∧ True) ∧ (True ∧ (True ∧ True) ∧ True) ∧ (True ∧ (True ∧ True) ∧ True) ∧ (True ∧ (True ∧ True) ∧ True) ∧ (True ∧ (True ∧ True) ∧ True) ∧ (True ∧ (True ∧ True) ∧ True) ∧ (True ∧ (True ∧ True) ∧ True) ∧ (((True ∧ True ∧ True ∧ True) ∧ True) ∧ True) ∧ (((True ∧ True ∧ True ∧ True) ∧ True) ∧ True) ∧ (((True ∧ True ∧ True ∧ True) ∧ True) ∧ True) ∧ (((True ∧ True ∧ True ∧ True) ∧ True) ∧ True) ∧ ((((True ∧ ((True ∧ True ∧ True) ∧ True ∧ True) ∧ True) ∧ True) ∧ True) ∧ True) ∧ True) ∧ ((True ∧ (True ∧ ((True ∧ True ∧ (0 : Int) ≤ (1 : Int) ∧ (1 : Int) < (1000 : Int)) ∧ True ∧ True) ∧ True) ∧ ((True ∧ True ∧ True ∧ True) ∧ (True ∧ True ∧ True) ∧ True) ∧ ((True ∧ True ∧ True ∧ True) ∧ (True ∧ (True ∧ True) ∧ True) ∧ True) ∧ ((True ∧ (True ∧ True ∧ True) ∧ True) ∧ (True ∧ True) ∧ True) ∧ (True ∧ (True ∧ True) ∧ True) ∧ (True ∧ (True ∧ True) ∧ True) ∧ (((True ∧ ((20 : Int) + (Int.fdiv (0 : Int) (20 : Int)).fmod (30 : Int) != (0 : Int)) = true) ∧ True) ∧ True) ∧ ((True ∧ (True ∧ True) ∧ True ∧ ((-1 : Int) == (-1 : Int)) = true) ∧ (True ∧ True ∧ True) ∧ True) ∧ ((True ∧ (True ∧ True) ∧ True ∧ ((-1 : Int) == (-1 : Int)) = true) ∧ (True ∧ True ∧ True) ∧ True) ∧ ((True ∧ (True ∧ True) ∧ True ∧ ((-1 : Int) == (-1 : Int)) = true) ∧ (True ∧ True ∧ True) ∧ True) ∧ ((True ∧ (True ∧ True) ∧ True ∧ ((-1 : Int) == (-1 : Int)) = true) ∧ ((True ∧ True ∧ (2 : Int) ≠ (0 : Int) ∧ Int.natAbs (2 : Int) < (1073741824 : Nat)) ∧ True ∧ True) ∧ True) ∧ ((True ∧ (True ∧ True) ∧ True ∧ ((-1 : Int) == (-1 : Int)) = true) ∧ (True ∧ True ∧ True) ∧ True) ∧ (True ∧ (True ∧ True) ∧ True) ∧ ((True ∧ (True ∧ True) ∧ True ∧ decide ((0 : Int) > (20 : Int) + (Int.fdiv (0 : Int) (20 : Int)).fmod (30 : Int)) = false) ∧ True) ∧ ((True ∧ ((0 : Int) != (0 : Int)) = false ∧ True ∧ (((True ∧ True) ∧ ((True ∧ True ∧ IntMulOk (16 : Int) (1024 : Int)) ∧ True ∧ True) ∧ True) ∧ True ∧ True) ∧ True) ∧ (True ∧ True) ∧ True) ∧ ((True ∧ ((True ∧ True ∧ True) ∧ True ∧ True) ∧ True) ∧ (True ∧ True) ∧ True) ∧ ((True ∧ ((True ∧ True ∧ True) ∧ True ∧ True) ∧ True) ∧ (True ∧ True) ∧ True) ∧ (True ∧ (True ∧ True) ∧ True) ∧ (True ∧ (True ∧ True) ∧ True) ∧ (((True ∧ True ∧ True ∧ decide ((0 : Int) ≤ (0 : Int)) = true ∧ True ∧ True ∧ decide ((0 : Int) ≤ (2 : Int)) = true) ∧ True) ∧ True) ∧ (True ∧ (True ∧ True) ∧ True) ∧ (True ∧ (True ∧ True) ∧ True) ∧ (True ∧ (True ∧ True) ∧ True) ∧ (True ∧ (True ∧ True) ∧ True) ∧ (True ∧ (True ∧ True) ∧ True) ∧ (True ∧ (True ∧ True) ∧ True) ∧ (True ∧ (True ∧ True) ∧ True) ∧ (True ∧ (True ∧ True) ∧ True) ∧ (True ∧ (True ∧ True) ∧ True) ∧ (True ∧ (True ∧ True) ∧ True) ∧ (True ∧ (True ∧ True) ∧ True) ∧ (((True ∧ True ∧ True ∧ True) ∧ True) ∧ True) ∧ (((True ∧ True ∧ True ∧ True) ∧ True) ∧ True) ∧ (((True ∧ True ∧ True ∧ True) ∧ True) ∧ True) ∧ (((True ∧ True ∧ True ∧ True) ∧ True) ∧ True) ∧ ((((True ∧ ((True ∧ True ∧ True) ∧ True ∧ True) ∧ True) ∧ True) ∧ True) ∧ True) ∧ True) ∧ True ∧ True) ∧ True) ∧ True) ∧ True ∧ True) ∧ (((((True ∧ (True ∧ (True ∧ ((True ∧ True ∧ (0 : Int) ≤ (0 : Int) ∧ (0 : Int) < (1000 : Int)) ∧ True ∧ True) ∧ True) ∧ True) ∧ True) ∧ True) ∧ (((True ∧ (True ∧ (True ∧ ((True ∧ True ∧ (0 : Int) ≤ (1 : Int) ∧ (1 : Int) < (1000 : Int)) ∧ True ∧ True) ∧ True) ∧ True) ∧ True) ∧ True) ∧ True ∧ True) ∧ True) ∧ True) ∧ True ∧ True) ∧ (((True ∧ True ∧ (0 : Int) ≤ (0 : Int) ∧ (0 : Int) < (1000 : Int)) ∧ True ∧ ((True ∧ True ∧ True) ∧ True ∧ True) ∧ (((True ∧ True) ∧ True) ∧ True) ∧ ((True ∧ ((True ∧ True ∧ True) ∧ True ∧ True) ∧ ((True ∧ True ∧ ((((True ∧ True ∧ True) ∧ True) ∧ True ∧ True) ∧ True ∧ True) ∧ True) ∧ True ∧ True) ∧ (True ∧ True) ∧ True) ∧ True ∧ True) ∧ (((((True ∧ (((True ∧ True) ∧ True ∧ True) ∧ True ∧ True) ∧ ([] : List UInt8).length ≤ (16777216 : Nat)) ∧ (True ∧ True) ∧ True) ∧ (True ∧ ((True ∧ True ∧ True) ∧ True ∧ True) ∧ [(97 : UInt8), (98 : UInt8), (99 : UInt8)].length ≤ (16777216 : Nat)) ∧ True) ∧ (True ∧ True) ∧ True ∧ decide ((↑([] : List UInt8).length : Int) - (0 : Int) + (↑[(97 : UInt8), (98 : UInt8), (99 : UInt8)].length : Int) > (4 : Int) + Int.fmod (0 : Int) (20 : Int)) = false) ∧ True) ∧ (((True ∧ True) ∧ True ∧ True ∧ decide ((0 : Int) > (0 : Int)) = false) ∧ True) ∧ (((True ∧ True) ∧ True ∧ ((True ∧ True ∧ True) ∧ True ∧ True) ∧ ([] : List UInt8).length + [(97 : UInt8), (98 : UInt8), (99 : UInt8)].length ≤ (16777216 : Nat)) ∧ True) ∧ True) ∧ True) ∧ (((True ∧ True ∧ (0 : Int) ≤ (1 : Int) ∧ (1 : Int) < (1000 : Int)) ∧ True ∧ ((True ∧ True ∧ True) ∧ True ∧ True) ∧ (((True ∧ True) ∧ True) ∧ True) ∧ ((True ∧ ((True ∧ True ∧ True) ∧ True ∧ True) ∧ ((True ∧ True ∧ ((((True ∧ True ∧ True) ∧ True) ∧ True ∧ True) ∧ True ∧ True) ∧ True) ∧ True ∧ True) ∧ (True ∧ True) ∧ True) ∧ True ∧ True) ∧ (((((True ∧ (((True ∧ True) ∧ True ∧ True) ∧ True ∧ True) ∧ ([] : List UInt8).length ≤ (16777216 : Nat)) ∧ (True ∧ True) ∧ True) ∧ (True ∧ ((True ∧ True ∧ True) ∧ True ∧ True) ∧ [(1 : UInt8), (2 : UInt8), (3 : UInt8), (4 : UInt8)].length ≤ (16777216 : Nat)) ∧ True) ∧ (True ∧ True) ∧ True ∧ decide ((↑([] : List UInt8).length : Int) - (0 : Int) + (↑[(1 : UInt8), (2 : UInt8), (3 : UInt8), (4 : UInt8)].length : Int) > (20 : Int) + (Int.fdiv (0 : Int) (20 : Int)).fmod (30 : Int)) = false) ∧ True) ∧ (((True ∧ True) ∧ True ∧ True ∧ decide ((0 : Int) > (0 : Int)) = false) ∧ True) ∧ (((True ∧ True) ∧ True ∧ ((True ∧ True ∧ True) ∧ True ∧ True) ∧ ([] : List UInt8).length + [(1 : UInt8), (2 : UInt8), (3 : UInt8), (4 : UInt8)].length ≤ (16777216 : Nat)) ∧ True) ∧ True) ∧ True) ∧ (((((True ∧ True ∧ (0 : Int) ≤ (0 : Int) ∧ (0 : Int) < (1000 : Int)) ∧ True ∧ ((True ∧ True ∧ True) ∧ True ∧ True) ∧ ((True ∧ True ∧ ((True ∧ True ∧ True) ∧ (True ∧ True ∧ True) ∧ True) ∧ ((((True ∧ (((True ∧ True) ∧ True ∧ True) ∧ True ∧ True) ∧ ([] ++ [(97 : UInt8), (98 : UInt8), (99 : UInt8)]).length ≤ (16777216 : Nat)) ∧ (True ∧ True) ∧ True) ∧ True ∧ True) ∧ True ∧ True) ∧ ((True ∧ True ∧ True ∧ decide ((↑([] ++ [(97 : UInt8), (98 : UInt8), (99 : UInt8)]).length : Int) - (0 : Int) - (2 : Int) ≥ (0 : Int)) = true) ∧ True ∧ True) ∧ True) ∧ True) ∧ ((True ∧ True) ∧ True ∧ True) ∧ (((True ∧ True) ∧ ((True ∧ True) ∧ ((True ∧ True ∧ True) ∧ True) ∧ True) ∧ ([] ++ [(97 : UInt8), (98 : UInt8), (99 : UInt8)]).length ≤ (16777216 : Nat)) ∧ True ∧ True) ∧ ((True ∧ (True ∧ ((True ∧ True ∧ True) ∧ True ∧ True) ∧ (cut (some (0 : Int)) (some ((0 : Int) + (2 : Int))) ([] ++ [(97 : UInt8), (98 : UInt8), (99 : UInt8)])).length ≤ (16777216 : Nat)) ∧ True) ∧ (True ∧ True) ∧ True) ∧ (True ∧ True) ∧ True) ∧ True ∧ True ∧ (cut (some (0 : Int)) (some ((0 : Int) + (2 : Int))) ([] ++ [(97 : UInt8), (98 : UInt8), (99 : UInt8)]) != [(97 : UInt8), (98 : UInt8)]) = false) ∧ (((True ∧ True ∧ (0 : Int) ≤ (1 : Int) ∧ (1 : Int) < (1000 : Int)) ∧ True ∧ ((True ∧ True ∧ True) ∧ True ∧ True) ∧ ((True ∧ True ∧ ((True ∧ True ∧ True) ∧ (True ∧ True ∧ True) ∧ True) ∧ ((((True ∧ (((True ∧ True) ∧ True ∧ True) ∧ True ∧ True) ∧ ([] ++ [(1 : UInt8), (2 : UInt8), (3 : UInt8), (4 : UInt8)]).length ≤ (16777216 : Nat)) ∧ (True ∧ True) ∧ True) ∧ True ∧ True) ∧ True ∧ True) ∧ ((True ∧ True ∧ True ∧ decide ((↑([] ++ [(1 : UInt8), (2 : UInt8), (3 : UInt8), (4 : UInt8)]).length : Int) - (0 : Int) - (1 : Int) ≥ (0 : Int)) = true) ∧ True ∧ True) ∧ True) ∧ True) ∧ ((True ∧ True) ∧ True ∧ True) ∧ (((True ∧ True) ∧ ((True ∧ True) ∧ ((True ∧ True ∧ True) ∧ True) ∧ True) ∧ ([] ++ [(1 : UInt8), (2 : UInt8), (3 : UInt8), (4 : UInt8)]).length ≤ (16777216 : Nat)) ∧ True ∧ True) ∧ ((True ∧ (True ∧ ((True ∧ True ∧ True) ∧ True ∧ True) ∧ (cut (some (0 : Int)) (some ((0 : Int) + (1 : Int))) ([] ++ [(1 : UInt8), (2 : UInt8), (3 : UInt8), (4 : UInt8)])).length ≤ (16777216 : Nat)) ∧ True) ∧ (True ∧ True) ∧ True) ∧ (True ∧ True) ∧ True) ∧ True ∧ True ∧ (cut (some (0 : Int)) (some ((0 : Int) + (1 : Int))) ([] ++ [(1 : UInt8), (2 : UInt8), (3 : UInt8), (4 : UInt8)]) != [(1 : UInt8)]) = false) ∧ True) ∧ True) ∧ True
theorem run_pre_no (P : Params) : run01 P ((law01 P).take 7) [false, true, true, true, true, true, true, false, false, true, true, true, true, true, true, true, true, false, false, true, true, false, false, false, false, true, false, true, false] ⟨[[("script", .lst [])]], [], 0⟩ = some (R.ok FlX.next, [], D_pre_no P, { fr := [[(Str.ofString "script", AV.lst []), (Str.ofString "first", AV.int (0 : Int)), (Str.ofString "rooms", AV.ref (1 : Nat)), (Str.ofString "readers", AV.ref (8 : Nat)), (Str.ofString "states", AV.ref (11 : Nat))]], hp := [((15 : Nat), AObj.barr (cut (some (0 : Int)) (some ((0 : Int) + (1 : Int))) ([] ++ [(1 : UInt8), (2 : UInt8), (3 : UInt8), (4 : UInt8)]))), ((14 : Nat), AObj.barr (cut (some (0 : Int)) (some ((0 : Int) + (2 : Int))) ([] ++ [(97 : UInt8), (98 : UInt8), (99 : UInt8)]))), ((13 : Nat), AObj.list [AV.bytes [(1 : UInt8), (2 : UInt8), (3 : UInt8), (4 : UInt8)]]), ((12 : Nat), AObj.list [AV.bytes [(97 : UInt8), (98 : UInt8), (99 : UInt8)]]), ((11 : Nat), AObj.list [AV.ref (9 : Nat), AV.ref (10 : Nat)]), ((10 : Nat), AObj.list [AV.bytes [(1 : UInt8), (2 : UInt8), (3 : UInt8), (4 : UInt8)], AV.int (0 : Int), AV.int (1 : Int), AV.int ((20 : Int) + (Int.fdiv (0 : Int) (20 : Int)).fmod (30 : Int))]), ((9 : Nat), AObj.list [AV.bytes [(97 : UInt8), (98 : UInt8), (99 : UInt8)], AV.int (0 : Int), AV.int (2 : Int), AV.int ((4 : Int) + Int.fmod (0 : Int) (20 : Int))]), ((8 : Nat), AObj.list [AV.ref (3 : Nat), AV.ref (6 : Nat)]), ((7 : Nat), AObj.barr ([] ++ [(1 : UInt8), (2 : UInt8), (3 : UInt8), (4 : UInt8)])), ((6 : Nat), AObj.inst (445 : Nat) (5 : Nat)), ((5 : Nat), AObj.attrs [(Str.ofString "_feeding", AV.lit true), (Str.ofString "_buffer", AV.ref (7 : Nat)), (Str.ofString "_buff_i", AV.int ((0 : Int) + (↑(cut (some (0 : Int)) (some ((0 : Int) + (1 : Int))) ([] ++ [(1 : UInt8), (2 : UInt8), (3 : UInt8), (4 : UInt8)])).length : Int))), (Str.ofString "_buf_checkpoint", AV.int (0 : Int)), (Str.ofString "_max_buffer_size", AV.int ((20 : Int) + (Int.fdiv (0 : Int) (20 : Int)).fmod (30 : Int))), (Str.ofString "_read_size", AV.int (if (16 : Int) * (1024 : Int) < (20 : Int) + (Int.fdiv (0 : Int) (20 : Int)).fmod (30 : Int) then (16 : Int) * (1024 : Int) else (20 : Int) + (Int.fdiv (0 : Int) (20 : Int)).fmod (30 : Int))), (Str.ofString "_raw", AV.lit false), (Str.ofString "_strict_map_key", AV.lit true), (Str.ofString "_unicode_errors", AV.str (Str.ofString "strict")), (Str.ofString "_use_list", AV.lit true), (Str.ofString "_timestamp", AV.int (0 : Int)), (Str.ofString "_list_hook", AV.none), (Str.ofString "_object_hook", AV.none), (Str.ofString "_object_pairs_hook", AV.none), (Str.ofString "_ext_hook", AV.const (Value.ref (160 : Nat))), (Str.ofString "_max_str_len", AV.int ((20 : Int) + (Int.fdiv (0 : Int) (20 : Int)).fmod (30 : Int))), (Str.ofString "_max_bin_len", AV.int ((20 : Int) + (Int.fdiv (0 : Int) (20 : Int)).fmod (30 : Int))), (Str.ofString "_max_array_len", AV.int ((20 : Int) + (Int.fdiv (0 : Int) (20 : Int)).fmod (30 : Int))), (Str.ofString "_max_map_len", AV.int (((20 : Int) + (Int.fdiv (0 : Int) (20 : Int)).fmod (30 : Int)).fdiv (2 : Int))), (Str.ofString "_max_ext_len", AV.int ((20 : Int) + (Int.fdiv (0 : Int) (20 : Int)).fmod (30 : Int))), (Str.ofString "_stream_offset", AV.int (0 : Int))]), ((4 : Nat), AObj.barr ([] ++ [(97 : UInt8), (98 : UInt8), (99 : UInt8)])), ((3 : Nat), AObj.inst (445 : Nat) (2 : Nat)), ((2 : Nat), AObj.attrs [(Str.ofString "_feeding", AV.lit true), (Str.ofString "_buffer", AV.ref (4 : Nat)), (Str.ofString "_buff_i", AV.int ((0 : Int) + (↑(cut (some (0 : Int)) (some ((0 : Int) + (2 : Int))) ([] ++ [(97 : UInt8), (98 : UInt8), (99 : UInt8)])).length : Int))), (Str.ofString "_buf_checkpoint", AV.int (0 : Int)), (Str.ofString "_max_buffer_size", AV.int ((4 : Int) + Int.fmod (0 : Int) (20 : Int))), (Str.ofString "_read_size", AV.int (if (16 : Int) * (1024 : Int) < (4 : Int) + Int.fmod (0 : Int) (20 : Int) then (16 : Int) * (1024 : Int) else (4 : Int) + Int.fmod (0 : Int) (20 : Int))), (Str.ofString "_raw", AV.lit false), (Str.ofString "_strict_map_key", AV.lit true), (Str.ofString "_unicode_errors", AV.str (Str.ofString "strict")), (Str.ofString "_use_list", AV.lit true), (Str.ofString "_timestamp", AV.int (0 : Int)), (Str.ofString "_list_hook", AV.none), (Str.ofString "_object_hook", AV.none), (Str.ofString "_object_pairs_hook", AV.none), (Str.ofString "_ext_hook", AV.const (Value.ref (160 : Nat))), (Str.ofString "_max_str_len", AV.int ((4 : Int) + Int.fmod (0 : Int) (20 : Int))), (Str.ofString "_max_bin_len", AV.int ((4 : Int) + Int.fmod (0 : Int) (20 : Int))), (Str.ofString "_max_array_len", AV.int ((4 : Int) + Int.fmod (0 : Int) (20 : Int))), (Str.ofString "_max_map_len", AV.int (((4 : Int) + Int.fmod (0 : Int) (20 : Int)).fdiv (2 : Int))), (Str.ofString "_max_ext_len", AV.int ((4 : Int) + Int.fmod (0 : Int) (20 : Int))), (Str.ofString "_stream_offset", AV.int (0 : Int))]), ((1 : Nat), AObj.list [AV.int ((4 : Int) + Int.fmod (0 : Int) (20 : Int)), AV.int ((20 : Int) + (Int.fdiv (0 : Int) (20 : Int)).fmod (30 : Int))]), ((0 : Nat), AObj.list [])], next := (16 : Nat) }) := by kernel_rfl
def D_pre_some (P : Params) (n : Int) (l : List AV) : Prop := (((True ∧ (True ∧ True) ∧ True ∧ ((AV.int n :: l).length != (0 : Nat)) = true) ∧ True ∧ True ∧ (0 : Int) ≤ (0 : Int) ∧ (0 : Int) < (1000 : Int)) ∧ True ∧ True) ∧ ((((True ∧ (True ∧ True ∧ (20 : Int) ≠ (0 : Int)) ∧ True) ∧ ((True ∧ ((True ∧ True ∧ (20 : Int) ≠ (0 : Int) ∧ Int.natAbs (20 : Int) < (1073741824 : Nat)) ∧ True ∧ (30 : Int) ≠ (0 : Int)) ∧ True) ∧ True ∧ True) ∧ True) ∧ True) ∧ True ∧ True) ∧ ((((True ∧ (True ∧ ((True ∧ True ∧ (0 : Int) ≤ (0 : Int) ∧ (0 : Int) < (1000 : Int)) ∧ True ∧ True) ∧ True) ∧ ((True ∧ True ∧ True ∧ True) ∧ (True ∧ True ∧ True) ∧ True) ∧ ((True ∧ True ∧ True ∧ True) ∧ (True ∧ (True ∧ True) ∧ True) ∧ True) ∧ ((True ∧ (True ∧ True ∧ True) ∧ True) ∧ (True ∧ True) ∧ True) ∧ (True ∧ (True ∧ True) ∧ True) ∧ (True ∧ (True ∧ True) ∧ True) ∧ (((True ∧ ((4 : Int) + n.fmod (20 : Int) != (0 : Int)) = true) ∧ True) ∧ True) ∧ ((True ∧ (True ∧ True) ∧ True ∧ ((-1 : Int) == (-1 : Int)) = true) ∧ (True ∧ True ∧ True) ∧ True) ∧ ((True ∧ (True ∧ True) ∧ True ∧ ((-1 : Int) == (-1 : Int)) = true) ∧ (True ∧ True ∧ True) ∧ True) ∧ ((True ∧ (True ∧ True) ∧ True ∧ ((-1 : Int) == (-1 : Int)) = true) ∧ (True ∧ True ∧ True) ∧ True) ∧ ((True ∧ (True ∧ True) ∧ True ∧ ((-1 : Int) == (-1 : Int)) = true) ∧ ((True ∧ True ∧ (2 : Int) ≠ (0 : Int) ∧ Int.natAbs (2 : Int) < (1073741824 : Nat)) ∧ True ∧ True) ∧ True) ∧ ((True ∧ (True ∧ True) ∧ True ∧ ((-1 : Int) == (-1 : Int)) = true) ∧ (True ∧ True ∧ True) ∧ True) ∧ (True ∧ (True ∧ True) ∧ True) ∧ ((True ∧ (True ∧ True) ∧ True ∧ decide ((0 : Int) > (4 : Int) + n.fmod (20 : Int)) = false) ∧ True) ∧ ((True ∧ ((0 : Int) != (0 : Int)) = false ∧ True ∧ (((True ∧ True) ∧ ((True ∧ True ∧ IntMulOk (16 : Int) (1024 : Int)) ∧ True ∧ True) ∧ True) ∧ True ∧ True) ∧ True) ∧ (True ∧ True) ∧ True) ∧ ((True ∧ ((True ∧ True ∧ True) ∧ True ∧ True) ∧ True) ∧ (True ∧ True) ∧ True) ∧ ((True ∧ ((True ∧ True ∧ True) ∧ True ∧ True) ∧ True) ∧ (True ∧ True) ∧ True) ∧ (True ∧ (True ∧ True) ∧ True) ∧ (True ∧ (True ∧ True) ∧ True) ∧ (((True ∧ True ∧ True ∧ decide ((0 : Int) ≤ (0 : Int)) = true ∧ True ∧ True ∧ decide ((0 : Int) ≤ (2 : Int)) = true) ∧ True) ∧ True) ∧ (True ∧ (True ∧ True) ∧ True) ∧ (True ∧ (True ∧ True) ∧ True) ∧ (True ∧ (True ∧ True) ∧ True) ∧ (True ∧ (True ∧ True) ∧ True) ∧ (True ∧ (True ∧ True) ∧ True) ∧ (True ∧ (True ∧ True) ∧ True) ∧ (True ∧ (True ∧ True) ∧ True) ∧ (True ∧ (True ∧ True) ∧ True) ∧ (True ∧ (True ∧ True) ∧ True) ∧ (True ∧ (True ∧ True) ∧ True) ∧ (True ∧ (True ∧ True) ∧ True) ∧ (((True ∧ True ∧ True ∧ True) ∧ True) ∧ True) ∧ (((True ∧ True ∧ True ∧ True) ∧ True) ∧ True) ∧ (((True ∧ True ∧ True ∧ True) ∧ True) ∧ True) ∧ (((True ∧ True ∧ True ∧ True) ∧ True) ∧ True) ∧ ((((True ∧ ((True ∧ True ∧ True) ∧ True ∧ True) ∧ True) ∧ True) ∧ True) ∧ True) ∧ True) ∧ ((True ∧ (True ∧ ((True ∧ True ∧ (0 : Int) ≤ (1 : Int) ∧ (1 : Int) < (1000 : Int)) ∧ True ∧ True) ∧ True) ∧ ((True ∧ True ∧ True ∧ True) ∧ (True ∧ True ∧ True) ∧ True) ∧ ((True ∧ True ∧ True ∧ True) ∧ (True ∧ (True ∧ True) ∧ True) ∧ True) ∧ ((True ∧ (True ∧ True ∧ True) ∧ True) ∧ (True ∧ True) ∧ True) ∧ (True ∧ (True ∧ True) ∧ True) ∧ (True ∧ (True ∧ True) ∧ True) ∧ (((True ∧ ((20 : Int) + (n.fdiv (20 : Int)).fmod (30 : Int) != (0 : Int)) = true) ∧ True) ∧ True) ∧ ((True ∧ (True ∧ True) ∧ True ∧ ((-1 : Int) == (-1 : Int)) = true) ∧ (True ∧ True ∧ True) ∧ True) ∧ ((True ∧ (True ∧ True) ∧ True ∧ ((-1 : Int) == (-1 : Int)) = true) ∧ (True ∧ True ∧ True) ∧ True) ∧ ((True ∧ (True ∧ True) ∧ True ∧ ((-1 : Int) == (-1 : Int)) = true) ∧ (True ∧ True ∧ True) ∧ True) ∧ ((True ∧ (True ∧ True) ∧ True ∧ ((-1 : Int) == (-1 : Int)) = true) ∧ ((True ∧ True ∧ (2 : Int) ≠ (0 : Int) ∧ Int.natAbs (2 : Int) < (1073741824 : Nat)) ∧ True ∧ True) ∧ True) ∧ ((True ∧ (True ∧ True) ∧ True ∧ ((-1 : Int) == (-1 : Int)) = true) ∧ (True ∧ True ∧ True) ∧ True) ∧ (True ∧ (True ∧ True) ∧ True) ∧ ((True ∧ (True ∧ True) ∧ True ∧ decide ((0 : Int) > (20 : Int) + (n.fdiv (20 : Int)).fmod (30 : Int)) = false) ∧ True) ∧ ((True ∧ ((0 : Int) != (0 : Int)) = false ∧ True ∧ (((True ∧ True) ∧ ((True ∧ True ∧ IntMulOk (16 : Int) (1024 : Int)) ∧ True ∧ True) ∧ True) ∧ True ∧ True) ∧ True) ∧ (True ∧ True) ∧ True) ∧ ((True ∧ ((True ∧ True ∧ True) ∧ True ∧ True) ∧ True) ∧ (True ∧ True) ∧ True) ∧ ((True ∧ ((True ∧ True ∧ True) ∧ True ∧ True) ∧ True) ∧ (True ∧ True) ∧ True) ∧ (True ∧ (True ∧ True) ∧ True) ∧ (True ∧ (True ∧ True) ∧ True) ∧ (((True ∧ True ∧ True ∧ decide ((0 : Int) ≤ (0 : Int)) = true ∧ True ∧ True ∧ decide ((0 : Int) ≤ (2 : Int)) = true) ∧ True) ∧ True) ∧ (True ∧ (True ∧ True) ∧ True) ∧ (True ∧ (True ∧ True) ∧ True) ∧ (True ∧ (True ∧ True) ∧ True) ∧ (True ∧ (True ∧ True) ∧ True) ∧ (True ∧ (True ∧ True) ∧ True) ∧ (True ∧ (True ∧ True) ∧ True) ∧ (True ∧ (True ∧ True) ∧ True) ∧ (True ∧ (True ∧ True) ∧ True) ∧ (True ∧ (True ∧ True) ∧ True) ∧ (True ∧ (True ∧ True) ∧ True) ∧ (True ∧ (True ∧ True) ∧ True) ∧ (((True ∧ True ∧ True ∧ True) ∧ True) ∧ True) ∧ (((True ∧ True ∧ True ∧ True) ∧ True) ∧ True) ∧ (((True ∧ True ∧ True ∧ True) ∧ True) ∧ True) ∧ (((True ∧ True ∧ True ∧ True) ∧ True) ∧ True) ∧ ((((True ∧ ((True ∧ True ∧ True) ∧ True ∧ True) ∧ True) ∧ True) ∧ True) ∧ True) ∧ True) ∧ True ∧ True) ∧ True) ∧ True) ∧ True ∧ True) ∧ (((((True ∧ (True ∧ (True ∧ ((True ∧ True ∧ (0 : Int) ≤ (0 : Int) ∧ (0 : Int) < (1000 : Int)) ∧ True ∧ True) ∧ True) ∧ True) ∧ True) ∧ True) ∧ (((True ∧ (True ∧ (True ∧ ((True ∧ True ∧ (0 : Int) ≤ (1 : Int) ∧ (1 : Int) < (1000 : Int)) ∧ True ∧ True) ∧ True) ∧ True) ∧ True) ∧ True) ∧ True ∧ True) ∧ True) ∧ True) ∧ True ∧ True) ∧ (((True ∧ True ∧ (0 : Int) ≤ (0 : Int) ∧ (0 : Int) < (1000 : Int)) ∧ True ∧ ((True ∧ True ∧ True) ∧ True ∧ True) ∧ (((True ∧ True) ∧ True) ∧ True) ∧ ((True ∧ ((True ∧ True ∧ True) ∧ True ∧ True) ∧ ((True ∧ True ∧ ((((True ∧ True ∧ True) ∧ True) ∧ True ∧ True) ∧ True ∧ True) ∧ True) ∧ True ∧ True) ∧ (True ∧ True) ∧ True) ∧ True ∧ True) ∧ (((((True ∧ (((True ∧ True) ∧ True ∧ True) ∧ True ∧ True) ∧ ([] : List UInt8).length ≤ (16777216 : Nat)) ∧ (True ∧ True) ∧ True) ∧ (True ∧ ((True ∧ True ∧ True) ∧ True ∧ True) ∧ [(97 : UInt8), (98 : UInt8), (99 : UInt8)].length ≤ (16777216 : Nat)) ∧ True) ∧ (True ∧ True) ∧ True ∧ decide ((↑([] : List UInt8).length : Int) - (0 : Int) + (↑[(97 : UInt8), (98 : UInt8), (99 : UInt8)].length : Int) > (4 : Int) + n.fmod (20 : Int)) = false) ∧ True) ∧ (((True ∧ True) ∧ True ∧ True ∧ decide ((0 : Int) > (0 : Int)) = false) ∧ True) ∧ (((True ∧ True) ∧ True ∧ ((True ∧ True ∧ True) ∧ True ∧ True) ∧ ([] : List UInt8).length + [(97 : UInt8), (98 : UInt8), (99 : UInt8)].length ≤ (16777216 : Nat)) ∧ True) ∧ True) ∧ True) ∧ (((True ∧ True ∧ (0 : Int) ≤ (1 : Int) ∧ (1 : Int) < (1000 : Int)) ∧ True ∧ ((True ∧ True ∧ True) ∧ True ∧ True) ∧ (((True ∧ True) ∧ True) ∧ True) ∧ ((True ∧ ((True ∧ True ∧ True) ∧ True ∧ True) ∧ ((True ∧ True ∧ ((((True ∧ True ∧ True) ∧ True) ∧ True ∧ True) ∧ True ∧ True) ∧ True) ∧ True ∧ True) ∧ (True ∧ True) ∧ True) ∧ True ∧ True) ∧ (((((True ∧ (((True ∧ True) ∧ True ∧ True) ∧ True ∧ True) ∧ ([] : List UInt8).length ≤ (16777216 : Nat)) ∧ (True ∧ True) ∧ True) ∧ (True ∧ ((True ∧ True ∧ True) ∧ True ∧ True) ∧ [(1 : UInt8), (2 : UInt8), (3 : UInt8), (4 : UInt8)].length ≤ (16777216 : Nat)) ∧ True) ∧ (True ∧ True) ∧ True ∧ decide ((↑([] : List UInt8).length : Int) - (0 : Int) + (↑[(1 : UInt8), (2 : UInt8), (3 : UInt8), (4 : UInt8)].length : Int) > (20 : Int) + (n.fdiv (20 : Int)).fmod (30 : Int)) = false) ∧ True) ∧ (((True ∧ True) ∧ True ∧ True ∧ decide ((0 : Int) > (0 : Int)) = false) ∧ True) ∧ (((True ∧ True) ∧ True ∧ ((True ∧ True ∧ True) ∧ True ∧ True) ∧ ([] : List UInt8).length + [(1 : UInt8), (2 : UInt8), (3 : UInt8), (4 : UInt8)].length ≤ (16777216 : Nat)) ∧ True) ∧ True) ∧ True) ∧ (((((True ∧ True ∧ (0 : Int) ≤ (0 : Int) ∧ (0 : Int) < (1000 : Int)) ∧ True ∧ ((True ∧ True ∧ True) ∧ True ∧ True) ∧ ((True ∧ True ∧ ((True ∧ True ∧ True) ∧ (True ∧ True ∧ True) ∧ True) ∧ ((((True ∧ (((True ∧ True) ∧ True ∧ True) ∧ True ∧ True) ∧ ([] ++ [(97 : UInt8), (98 : UInt8), (99 : UInt8)]).length ≤ (16777216 : Nat)) ∧ (True ∧ True) ∧ True) ∧ True ∧ True) ∧ True ∧ True) ∧ ((True ∧ True ∧ True ∧ decide ((↑([] ++ [(97 : UInt8), (98 : UInt8), (99 : UInt8)]).length : Int) - (0 : Int) - (2 : Int) ≥ (0 : Int)) = true) ∧ True ∧ True) ∧ True) ∧ True) ∧ ((True ∧ True) ∧ True ∧ True) ∧ (((True ∧ True) ∧ ((True ∧ True) ∧ ((True ∧ True ∧ True) ∧ True) ∧ True) ∧ ([] ++ [(97 : UInt8), (98 : UInt8), (99 : UInt8)]).length ≤ (16777216 : Nat)) ∧ True ∧ True) ∧ ((True ∧ (True ∧ ((True ∧ True ∧ True) ∧ True ∧ True) ∧ (cut (some (0 : Int)) (some ((0 : Int) + (2 : Int))) ([] ++ [(97 : UInt8), (98 : UInt8), (99 : UInt8)])).length ≤ (16777216 : Nat)) ∧ True) ∧ (True ∧ True) ∧ True) ∧ (True ∧ True) ∧ True) ∧ True ∧ True ∧ (cut (some (0 : Int)) (some ((0 : Int) + (2 : Int))) ([] ++ [(97 : UInt8), (98 : UInt8), (99 : UInt8)]) != [(97 : UInt8), (98 : UInt8)]) = false) ∧ (((True ∧ True ∧ (0 : Int) ≤ (1 : Int) ∧ (1 : Int) < (1000 : Int)) ∧ True ∧ ((True ∧ True ∧ True) ∧ True ∧ True) ∧ ((True ∧ True ∧ ((True ∧ True ∧ True) ∧ (True ∧ True ∧ True) ∧ True) ∧ ((((True ∧ (((True ∧ True) ∧ True ∧ True) ∧ True ∧ True) ∧ ([] ++ [(1 : UInt8), (2 : UInt8), (3 : UInt8), (4 : UInt8)]).length ≤ (16777216 : Nat)) ∧ (True ∧ True) ∧ True) ∧ True ∧ True) ∧ True ∧ True) ∧ ((True ∧ True ∧ True ∧ decide ((↑([] ++ [(1 : UInt8), (2 : UInt8), (3 : UInt8), (4 : UInt8)]).length : Int) - (0 : Int) - (1 : Int) ≥ (0 : Int)) = true) ∧ True ∧ True) ∧ True) ∧ True) ∧ ((True ∧ True) ∧ True ∧ True) ∧ (((True ∧ True) ∧ ((True ∧ True) ∧ ((True ∧ True ∧ True) ∧ True) ∧ True) ∧ ([] ++ [(1 : UInt8), (2 : UInt8), (3 : UInt8), (4 : UInt8)]).length ≤ (16777216 : Nat)) ∧ True ∧ True) ∧ ((True ∧ (True ∧ ((True ∧ True ∧ True) ∧ True ∧ True) ∧ (cut (some (0 : Int)) (some ((0 : Int) + (1 : Int))) ([] ++ [(1 : UInt8), (2 : UInt8), (3 : UInt8), (4 : UInt8)])).length ≤ (16777216 : Nat)) ∧ True) ∧ (True ∧ True) ∧ True) ∧ (True ∧ True) ∧ True) ∧ True ∧ True ∧ (cut (some (0 : Int)) (some ((0 : Int) + (1 : Int))) ([] ++ [(1 : UInt8), (2 : UInt8), (3 : UInt8), (4 : UInt8)]) != [(1 : UInt8)]) = false) ∧ True) ∧ True) ∧ True
theorem run_pre_some (P : Params) (n : Int) (l : List AV) : run01 P ((law01 P).take 7) [true, true, true, true, true, true, true, false, false, true, true, true, true, true, true, true, true, false, false, true, true, false, false, false, false, true, false, true, false] ⟨[[("script", .lst (.int n :: l))]], [], 0⟩ = some (R.ok FlX.next, [], D_pre_some P n l, { fr := [[(Str.ofString "script", AV.lst (AV.int n :: l)), (Str.ofString "first", AV.int n), (Str.ofString "rooms", AV.ref (1 : Nat)), (Str.ofString "readers", AV.ref (8 : Nat)), (Str.ofString "states", AV.ref (11 : Nat))]], hp := [((15 : Nat), AObj.barr (cut (some (0 : Int)) (some ((0 : Int) + (1 : Int))) ([] ++ [(1 : UInt8), (2 : UInt8), (3 : UInt8), (4 : UInt8)]))), ((14 : Nat), AObj.barr (cut (some (0 : Int)) (some ((0 : Int) + (2 : Int))) ([] ++ [(97 : UInt8), (98 : UInt8), (99 : UInt8)]))), ((13 : Nat), AObj.list [AV.bytes [(1 : UInt8), (2 : UInt8), (3 : UInt8), (4 : UInt8)]]), ((12 : Nat), AObj.list [AV.bytes [(97 : UInt8), (98 : UInt8), (99 : UInt8)]]), ((11 : Nat), AObj.list [AV.ref (9 : Nat), AV.ref (10 : Nat)]), ((10 : Nat), AObj.list [AV.bytes [(1 : UInt8), (2 : UInt8), (3 : UInt8), (4 : UInt8)], AV.int (0 : Int), AV.int (1 : Int), AV.int ((20 : Int) + (n.fdiv (20 : Int)).fmod (30 : Int))]), ((9 : Nat), AObj.list [AV.bytes [(97 : UInt8), (98 : UInt8), (99 : UInt8)], AV.int (0 : Int), AV.int (2 : Int), AV.int ((4 : Int) + n.fmod (20 : Int))]), ((8 : Nat), AObj.list [AV.ref (3 : Nat), AV.ref (6 : Nat)]), ((7 : Nat), AObj.barr ([] ++ [(1 : UInt8), (2 : UInt8), (3 : UInt8), (4 : UInt8)])), ((6 : Nat), AObj.inst (445 : Nat) (5 : Nat)), ((5 : Nat), AObj.attrs [(Str.ofString "_feeding", AV.lit true), (Str.ofString "_buffer", AV.ref (7 : Nat)), (Str.ofString "_buff_i", AV.int ((0 : Int) + (↑(cut (some (0 : Int)) (some ((0 : Int) + (1 : Int))) ([] ++ [(1 : UInt8), (2 : UInt8), (3 : UInt8), (4 : UInt8)])).length : Int))), (Str.ofString "_buf_checkpoint", AV.int (0 : Int)), (Str.ofString "_max_buffer_size", AV.int ((20 : Int) + (n.fdiv (20 : Int)).fmod (30 : Int))), (Str.ofString "_read_size", AV.int (if (16 : Int) * (1024 : Int) < (20 : Int) + (n.fdiv (20 : Int)).fmod (30 : Int) then (16 : Int) * (1024 : Int) else (20 : Int) + (n.fdiv (20 : Int)).fmod (30 : Int))), (Str.ofString "_raw", AV.lit false), (Str.ofString "_strict_map_key", AV.lit true), (Str.ofString "_unicode_errors", AV.str (Str.ofString "strict")), (Str.ofString "_use_list", AV.lit true), (Str.ofString "_timestamp", AV.int (0 : Int)), (Str.ofString "_list_hook", AV.none), (Str.ofString "_object_hook", AV.none), (Str.ofString "_object_pairs_hook", AV.none), (Str.ofString "_ext_hook", AV.const (Value.ref (160 : Nat))), (Str.ofString "_max_str_len", AV.int ((20 : Int) + (n.fdiv (20 : Int)).fmod (30 : Int))), (Str.ofString "_max_bin_len", AV.int ((20 : Int) + (n.fdiv (20 : Int)).fmod (30 : Int))), (Str.ofString "_max_array_len", AV.int ((20 : Int) + (n.fdiv (20 : Int)).fmod (30 : Int))), (Str.ofString "_max_map_len", AV.int (((20 : Int) + (n.fdiv (20 : Int)).fmod (30 : Int)).fdiv (2 : Int))), (Str.ofString "_max_ext_len", AV.int ((20 : Int) + (n.fdiv (20 : Int)).fmod (30 : Int))), (Str.ofString "_stream_offset", AV.int (0 : Int))]), ((4 : Nat), AObj.barr ([] ++ [(97 : UInt8), (98 : UInt8), (99 : UInt8)])), ((3 : Nat), AObj.inst (445 : Nat) (2 : Nat)), ((2 : Nat), AObj.attrs [(Str.ofString "_feeding", AV.lit true), (Str.ofString "_buffer", AV.ref (4 : Nat)), (Str.ofString "_buff_i", AV.int ((0 : Int) + (↑(cut (some (0 : Int)) (some ((0 : Int) + (2 : Int))) ([] ++ [(97 : UInt8), (98 : UInt8), (99 : UInt8)])).length : Int))), (Str.ofString "_buf_checkpoint", AV.int (0 : Int)), (Str.ofString "_max_buffer_size", AV.int ((4 : Int) + n.fmod (20 : Int))), (Str.ofString "_read_size", AV.int (if (16 : Int) * (1024 : Int) < (4 : Int) + n.fmod (20 : Int) then (16 : Int) * (1024 : Int) else (4 : Int) + n.fmod (20 : Int))), (Str.ofString "_raw", AV.lit false), (Str.ofString "_strict_map_key", AV.lit true), (Str.ofString "_unicode_errors", AV.str (Str.ofString "strict")), (Str.ofString "_use_list", AV.lit true), (Str.ofString "_timestamp", AV.int (0 : Int)), (Str.ofString "_list_hook", AV.none), (Str.ofString "_object_hook", AV.none), (Str.ofString "_object_pairs_hook", AV.none), (Str.ofString "_ext_hook", AV.const (Value.ref (160 : Nat))), (Str.ofString "_max_str_len", AV.int ((4 : Int) + n.fmod (20 : Int))), (Str.ofString "_max_bin_len", AV.int ((4 : Int) + n.fmod (20 : Int))), (Str.ofString "_max_array_len", AV.int ((4 : Int) + n.fmod (20 : Int))), (Str.ofString "_max_map_len", AV.int (((4 : Int) + n.fmod (20 : Int)).fdiv (2 : Int))), (Str.ofString "_max_ext_len", AV.int ((4 : Int) + n.fmod (20 : Int))), (Str.ofString "_stream_offset", AV.int (0 : Int))]), ((1 : Nat), AObj.list [AV.int ((4 : Int) + n.fmod (20 : Int)), AV.int ((20 : Int) + (n.fdiv (20 : Int)).fmod (30 : Int))]), ((0 : Nat), AObj.list [])], next := (16 : Nat) }) := by kernel_rfl
end Mine
-- part Lw1
open PySem PySem.W PyProof.Rows PySem.Calls
namespace Mine
theorem mul1024 : IntMulOk 16 1024 := .of_left (by decide)
theorem ok_pre_no (P : Params) : D_pre_no P := by
  unfold D_pre_no
  simp only [true_and, and_true]
  and_intros <;> first | decide | exact mul1024
theorem ok_pre_some (P : Params) (n : Int) (l : List AV) : D_pre_some P n l := by
  have h1 := @fmod_pos n 20 (by decide)
  have h2 := @fmod_pos (n.fdiv 20) 30 (by decide)
  unfold D_pre_some
  simp only [true_and, and_true]
  and_intros <;> first | decide | exact mul1024 | omega | (simp; omega) | (simp; done)
theorem ok_tail_0 {d : Nat} {P : Params} {own : Obj → Prop} {n : Int} {l : List AV} {r0 r1 : Rdr} (h : Inv d r0) (hd : d ≤ 1000) : D_tail_0 P own n l r0 r1 := by
  have h1 := h.c0; have h2 := h.ci; have h3 := h.ib; have h4 := h.told; have h5 := h.off; have h6 := h.place; have h7 := h.len; have h8 := h.bd
  unfold D_tail_0
  simp only [true_and, and_true]
  and_intros <;> first | decide | assumption | omega | (simp; omega) | (simp; done)
theorem ok_tail_1 {d : Nat} {P : Params} {own : Obj → Prop} {n : Int} {l : List AV} {r0 r1 : Rdr} (h : Inv d r1) (hd : d ≤ 1000) : D_tail_1 P own n l r0 r1 := by
  have h1 := h.c0; have h2 := h.ci; have h3 := h.ib; have h4 := h.told; have h5 := h.off; have h6 := h.place; have h7 := h.len; have h8 := h.bd
  unfold D_tail_1
  simp only [true_and, and_true]
  and_intros <;> first | decide | assumption | omega | (simp; omega) | (simp; done)
theorem ok_tail_ret {d : Nat} {P : Params} {n : Int} {l : List AV} {r0 r1 : Rdr} (h : Inv d r0) (k : Inv d r1) (hd : d ≤ 1000) : D_tail_ret P n l r0 r1 := by
  have h1 := h.c0; have h2 := h.ci; have h3 := h.ib; have h4 := h.told; have h5 := h.off; have h6 := h.place; have h7 := h.len; have h8 := h.bd
  have k1 := k.c0; have k2 := k.ci; have k3 := k.ib; have k4 := k.told; have k5 := k.off; have k6 := k.place; have k7 := k.len; have k8 := k.bd
  have hc := h.cut_end
  have kc := k.cut_end
  have hl := cut_length (some r0.i) none r0.b
  have kl := cut_length (some r1.i) none r1.b
  unfold D_tail_ret
  simp only [true_and, and_true]
  and_intros <;> first | decide | assumption | omega | exact beq_iff_eq.mpr hc | (simp; omega) | (simp; done)
theorem ret_true {d : Nat} {r1 : Rdr} (k : Inv d r1) : (cut (some r1.i) none r1.b == cut (some r1.place) none r1.wire) = true := beq_iff_eq.mpr k.cut_end
def rdA (room : Int) : Rdr := ⟨[97, 98, 99], 2, 0, 0, [97, 98, 99], 0, 2, room⟩
def rdB (room : Int) : Rdr := ⟨[1, 2, 3, 4], 1, 0, 0, [1, 2, 3, 4], 0, 1, room⟩
theorem inv_A {n : Int} : Inv 4 (rdA (4 + n.fmod 20)) := by
  have h1 := @fmod_pos n 20 (by decide)
  exact ⟨by simp [rdA, rdB], by simp [rdA, rdB], by simp [rdA, rdB], rfl, by simp [rdA, rdB], by simp [rdA, rdB], rfl, by simp [rdA, rdB], by show 4 ≤ 4 + n.fmod 20; omega, by show 4 + n.fmod 20 ≤ 49; omega, by simp [rdA, rdB]⟩
theorem inv_B {n : Int} : Inv 4 (rdB (20 + (n.fdiv 20).fmod 30)) := by
  have h2 := @fmod_pos (n.fdiv 20) 30 (by decide)
  exact ⟨by simp [rdA, rdB], by simp [rdA, rdB], by simp [rdA, rdB], rfl, by simp [rdA, rdB], by simp [rdA, rdB], rfl, by simp [rdA, rdB], by show 4 ≤ 20 + (n.fdiv 20).fmod 30; omega, by show 20 + (n.fdiv 20).fmod 30 ≤ 49; omega, by simp [rdA, rdB]⟩
end Mine
-- part Lw2
open PySem PySem.W PyProof.Rows PySem.Calls
namespace Mine
/-! The law's body cut into its parts -/
theorem wp_execs_app {prog : Program} {w : World} {A : Around} {env : Env} {b : List Stmt} {Q : Flow → Shared → Prop} {E : Value → Shared → Prop} {Γ : Ctx} (hΓ : Γ.In A) (h1 : holds Γ.code = false) (h2 : Clean Γ.below) :
    ∀ (a : List Stmt) {p : Pos} {s : Shared}, Sem.wp (model prog w) Γ (execs a env) (fun f _ s' => f = .next ∧ wpC (model prog w) A (execs b env) Q E s') (fun e _ s' => E e s') p s → Sem.wp (model prog w) Γ (execs (a ++ b) env) (fun f _ s' => Q f s') (fun e _ s' => E e s') p s
  | [], p, s, h => h.2 Γ p hΓ h1 h2
  | x :: a, p, s, h => by
    rw [execs_cons, Sem.wp_bind'] at h
    rw [List.cons_append, execs_cons, Sem.wp_bind']
    refine Sem.wp_mono _ Γ _ (fun f p' s' h' => ?_) (fun _ _ _ h' => h') p s h
    cases f with
    | next => exact wp_execs_app hΓ h1 h2 a h'
    | ret v => exact absurd h'.1 (by simp)
    | brk => exact absurd h'.1 (by simp)
    | cont => exact absurd h'.1 (by simp)
theorem wpC_execs_app {prog : Program} {w : World} {A : Around} {env : Env} {a b : List Stmt} {Q : Flow → Shared → Prop} {E : Value → Shared → Prop} {s : Shared}
    (h : wpC (model prog w) A (execs a env) (fun f s' => f = .next ∧ wpC (model prog w) A (execs b env) Q E s') E s) : wpC (model prog w) A (execs (a ++ b) env) Q E s :=
  fun Γ p hΓ h1 h2 => wp_execs_app hΓ h1 h2 a (h Γ p hΓ h1 h2)
theorem wpC_execs_cons {prog : Program} {w : World} {A : Around} {env : Env} {a : Stmt} {b : List Stmt} {Q : Flow → Shared → Prop} {E : Value → Shared → Prop} {s : Shared}
    (h : wpC (model prog w) A (exec a env) (fun f s' => f = .next ∧ wpC (model prog w) A (execs b env) Q E s') E s) : wpC (model prog w) A (execs (a :: b) env) Q E s := by
  rw [execs_cons]
  refine wpC_bind (wpC_mono h (fun f s' h' => ?_) fun _ _ h' => h')
  obtain ⟨rfl, h'⟩ := h'
  exact h'
noncomputable def forIter (P : Params) (k : Nat) : Expr := match (law01 P)[k]? with
  | some (.For _ i _ _ _) => i
  | _ => .Name "" default
noncomputable def forPx (P : Params) (k : Nat) : Pos := match (law01 P)[k]? with
  | some (.For (.Name _ p) _ _ _ _) => p
  | _ => default
noncomputable def forPos (P : Params) (k : Nat) : Pos := match (law01 P)[k]? with
  | some (.For _ _ _ _ p) => p
  | _ => default
noncomputable def ev01 (P : Params) (e : Expr) : X AV := (lev (K01 P) tab01 (theHook tab01) 60 true (sc01 P)).ev e
theorem law01_eq (P : Params) : law01 P = (law01 P).take 7 ++ (.For (.Name "number" (forPx P 7)) (forIter P 7) (forBody P 7) [] (forPos P 7) :: .For (.Name "which" (forPx P 8)) (forIter P 8) (forBody P 8) [] (forPos P 8) :: (law01 P).drop 9) := by kernel_rfl
theorem folded7 (P : Params) (env : Env) (x : Value) : foldedSetIterable (forIter P 7) env x = pure x := by kernel_rfl
theorem folded8 (P : Params) (env : Env) (x : Value) : foldedSetIterable (forIter P 8) env x = pure x := by kernel_rfl
def l40 (l : List AV) : List AV := List.take ((some (40 : Int)).elim l.length (clipAt l.length) - (none : Option Int).elim (0 : Nat) (clipAt l.length)) (List.drop ((none : Option Int).elim (0 : Nat) (clipAt l.length)) l)
theorem run_iter7 (P : Params) (n : Int) (l : List AV) (hp : List (Nat × AObj)) : ev01 P (forIter P 7) [] { fr := [loc01 n l], hp := hp, next := 16 } =
    some (.ok (.lst (l40 l)), [], True ∧ (True ∧ (True ∧ True) ∧ True) ∧ l.length ≤ (16777216 : Nat), { fr := [loc01 n l], hp := hp, next := 16 }) := by kernel_rfl
theorem run_iter8 (P : Params) (n : Int) (l : List AV) (hp : List (Nat × AObj)) : ev01 P (forIter P 8) [] { fr := [loc01 n l], hp := hp, next := 16 } =
    some (.ok (.ref 16), [], (True ∧ (True ∧ True ∧ True) ∧ True) ∧ True, { fr := [loc01 n l], hp := (16, .list [.int 0, .int 1]) :: hp, next := 17 }) := by kernel_rfl
theorem num_local (P : Params) : (sc01 P).names.lookup ("number" : Str) = some NameKind.local := by kernel_rfl
theorem which_local (P : Params) : (sc01 P).names.lookup ("which" : Str) = some NameKind.local := by kernel_rfl
/-! What the loop's head tells of -/
def hpS (r0 r1 : Rdr) : List (Nat × AObj) := (hp01 (fun _ => True) r0 r1).drop 1
theorem hp01_eq (own : Obj → Prop) (r0 r1 : Rdr) : hp01 own r0 r1 = (16, .own own) :: hpS r0 r1 := rfl
def κb (n : Nat) (i : Nat) : Bool := Nat.blt i n
theorem κb_iff {n i : Nat} : κb n i = true ↔ i < n := by unfold κb; rw [Nat.blt_eq]
theorem lows_ints {κ : Nat → Bool} : ∀ l : List Int, Lows κ (l.map .int)
  | [] => .nil
  | _ :: r => .cons .int (lows_ints r)
theorem lows_all {κ : Nat → Bool} : ∀ {l : List AV}, (∀ a ∈ l, Low κ a) → Lows κ l
  | [], _ => .nil
  | a :: r, h => .cons (h a (.head _)) (lows_all fun b hb => h b (.tail _ hb))
def lowB (n : Nat) : AV → Bool
  | .ref i => Nat.blt i n
  | .tup _ => false
  | .lst _ => false
  | _ => true
theorem low_of {n : Nat} {a : AV} (h : lowB n a = true) : Low (κb n) a := by
  cases a with
  | none => exact .none
  | lit => exact .lit
  | bool => exact .bool
  | int => exact .int
  | str => exact .str
  | bytes => exact .bytes
  | const => exact .const
  | ref => exact .ref h
  | tup => cases h
  | lst => cases h
def lowOB (n : Nat) : AObj → Bool
  | .list l => l.all (lowB n)
  | .barr _ => true
  | .inst _ d => Nat.blt d n
  | .attrs m => m.all fun p => lowB n p.2
  | .own _ => true
theorem lowO_of {n : Nat} {a : AObj} (h : lowOB n a = true) : LowO (κb n) a := by
  cases a with
  | list l => exact .list (lows_all fun a ha => low_of (List.all_eq_true.mp h a ha))
  | barr => exact .barr
  | inst => exact .inst h
  | attrs m => exact .attrs fun p hp => low_of (List.all_eq_true.mp h p hp)
  | own => exact .own
theorem getH_mem {i : Nat} {ao : AObj} : ∀ {l : List (Nat × AObj)}, getH l i = some ao → (i, ao) ∈ l
  | [], h => by cases h
  | p :: r, h => by
    unfold getH at h
    split at h
    · rename_i q; cases h; rw [Nat.eq_of_beq_eq_true q]; exact .head _
    · exact .tail _ (getH_mem h)
theorem low_hp01 (own : Obj → Prop) (r0 r1 : Rdr) : ∀ p ∈ hp01 own r0 r1, κb 17 p.1 = true ∧ lowOB 17 p.2 = true := by
  intro p hp
  have : (hp01 own r0 r1).all (fun p => κb 17 p.1 && lowOB 17 p.2) = true := by kernel_rfl
  simpa using List.all_eq_true.mp this p hp
theorem low_hpS (r0 r1 : Rdr) : ∀ p ∈ hpS r0 r1, κb 16 p.1 = true ∧ lowOB 16 p.2 = true := by
  intro p hp
  have : (hpS r0 r1).all (fun p => κb 16 p.1 && lowOB 16 p.2) = true := by kernel_rfl
  simpa using List.all_eq_true.mp this p hp
theorem low_loc {m : Nat} (hm : 16 ≤ m) {n : Int} {script : List Int} : ∀ x a, getK x (loc01 n (script.map .int)) = some a → Low (κb m) a := by
  intro x a h
  have h := getK_mem h
  unfold loc01 at h
  simp only [List.mem_cons, Prod.mk.injEq, List.not_mem_nil, or_false] at h
  rcases h with ⟨-, rfl⟩ | ⟨-, rfl⟩ | ⟨-, rfl⟩ | ⟨-, rfl⟩ | ⟨-, rfl⟩
  · exact .lst (lows_ints _)
  · exact .int
  · exact .ref (κb_iff.mpr (by omega))
  · exact .ref (κb_iff.mpr (by omega))
  · exact .ref (κb_iff.mpr (by omega))
section
variable {S : Stc} {W : Wd} {s : Shared} {L : FrA}
theorem forget17 {st : ASt} {n : Int} {script : List Int} {own : Obj → Prop} {r0 r1 : Rdr} {loc : Loc} (R : Rep S W [L] st s) (hG : ∀ i ao, getH (hp01 own r0 r1) i = some ao → getH st.hp i = some ao)
    (hf : st.fr = [loc]) (hl : ∀ x a, getK x (loc01 n (script.map .int)) = some a → getK x loc = some a) : Rep S (W.cut (κb 17)) [L] { fr := [loc01 n (script.map .int)], hp := hp01 own r0 r1, next := 17 } s := by
  refine R.forget (fun i ao e => ?_) ?_ fun i hi => .inl ?_
  · have z := low_hp01 own r0 r1 _ (getH_mem e)
    exact ⟨z.1, hG i ao e, lowO_of z.2⟩
  · rw [hf]
    exact .cons (fun x a e => ⟨hl x a e, low_loc (by omega) x a e⟩) .nil
  · cases h : κb 17 i with
    | false => rfl
    | true => have := κb_iff.mp h; have : 17 ≤ i := hi; omega
theorem forget16 {st : ASt} {n : Int} {script : List Int} {r0 r1 : Rdr} {loc : Loc} (R : Rep S W [L] st s) (hG : ∀ i ao, getH (hpS r0 r1) i = some ao → getH st.hp i = some ao)
    (hf : st.fr = [loc]) (hl : ∀ x a, getK x (loc01 n (script.map .int)) = some a → getK x loc = some a) : Rep S (W.cut (κb 16)) [L] { fr := [loc01 n (script.map .int)], hp := hpS r0 r1, next := 16 } s := by
  refine R.forget (fun i ao e => ?_) ?_ fun i hi => .inl ?_
  · have z := low_hpS r0 r1 _ (getH_mem e)
    exact ⟨z.1, hG i ao e, lowO_of z.2⟩
  · rw [hf]
    exact .cons (fun x a e => ⟨hl x a e, low_loc (by omega) x a e⟩) .nil
  · cases h : κb 16 i with
    | false => rfl
    | true => have := κb_iff.mp h; have : 16 ≤ i := hi; omega
theorem getH_hpS {own : Obj → Prop} {r0 r1 : Rdr} {i : Nat} {ao : AObj} (h : getH (hpS r0 r1) i = some ao) : getH (hp01 own r0 r1) i = some ao := by
  have := κb_iff.mp (low_hpS r0 r1 _ (getH_mem h)).1
  rw [hp01_eq]
  unfold getH
  rw [show Nat.beq i 16 = false by rw [nbeq]; simp; omega]
  exact h
end
end Mine
-- part Lw3
open PySem PySem.W PyProof.Rows PySem.Calls
namespace Mine
section
variable {P : Params} {S : Stc} {A : Around} {f : Fm} {W : Wd} {s : Shared}
structure At01 (P : Params) (S : Stc) (A : Around) (f : Fm) : Prop where
  ok : S.Ok
  K : S.K = K01 P
  T : S.T = tab01
  cx : CxOk 120 true A [f]
  sc : f.sc = sc01 P
theorem At01.ex (h : At01 P S A f) (W : Wd) (l : List Stmt) : Sim S A [f] FlRel W (run01 P l) (execs l f.env) := by
  have := sim_execs ((lev_ok h.ok (theHook_ok h.ok) 60).ex h.cx) l W
  rw [h.K, h.T, h.sc] at this
  exact this
theorem At01.ev (h : At01 P S A f) (W : Wd) (e : Expr) : Sim S A [f] VRel W (ev01 P e) (eval e f.env) := by
  have := (lev_ok h.ok (theHook_ok h.ok) 60).ev h.cx W e
  rw [h.K, h.T, h.sc] at this
  exact this
theorem At01.store (h : At01 P S A f) {x : Str} {px : Pos} (hx : (sc01 P).names.lookup x = some .local) {a : AV} {v : Value} (hv : VRel W a v) {st : ASt} {loc : Loc} {locs : List Loc} (hf : st.fr = loc :: locs) (R : Rep S W (Las [f]) st s)
    {Q : Unit → Shared → Prop} {E : Value → Shared → Prop} (q : ∀ W' s', W.le W' → Rep S W' (Las [f]) { st with fr := putK x a loc :: locs } s' → Q () s') : wpC (model S.prog S.w) A (assign (.Name x px) f.env v) Q E s := by
  refine (sim_asg1 h.ok h.cx h.ev (t := .Name x px) hv) [] st (.ok ()) [] True { st with fr := putK x a loc :: locs } ?_ trivial s R Q E fun W' s' le R' _ _ => q W' s' le R'
  have hx' : f.sc.names.lookup x = some .local := by rw [h.sc]; exact hx
  simp only [asg1, storeX, hx', hf]
theorem l40_mem {script : List Int} {i : Nat} {a : AV} (h : (l40 (script.map .int))[i]? = some a) : ∃ num, a = .int num := by
  have : a ∈ l40 (script.map .int) := List.mem_of_getElem? h
  have := List.mem_of_mem_drop (List.mem_of_mem_take this)
  obtain ⟨n, -, e⟩ := List.mem_map.mp this
  exact ⟨n, e.symm⟩
theorem l40_len (l : List AV) : (l40 l).length ≤ l.length := by
  unfold l40
  rw [List.length_take, List.length_drop]
  omega
theorem Inv.to {d d' : Nat} {r : Rdr} (h : Inv d r) (hd : d ≤ d') : Inv d' r := ⟨h.c0, h.ci, h.ib, h.told, h.off, h.place, h.wire, h.len, h.rm0, h.rm1, Nat.le_trans h.bd hd⟩
theorem cut_le {W W' : Wd} {st : ASt} {fs : List FrA} {k : Nat} (R : Rep S W fs st s) (h : W.le W') (hn : st.next ≤ k) : W.le (W'.cut (κb k)) := by
  refine Wd.le_cut h fun i a e => κb_iff.mpr ?_
  apply Decidable.byContradiction
  intro q
  rw [R.fresh i (by omega)] at e; cases e
theorem loop_main (h : At01 P S A f) {n : Int} {script : List Int} (hlen : script.length ≤ 63) {r0 r1 : Rdr} (i0 : Inv 4 r0) (i1 : Inv 4 r1)
    (R : Rep S W (Las [f]) { fr := [loc01 n (script.map .int)], hp := hpS r0 r1, next := 16 } s) {Q : Flow → Shared → Prop} {E : Value → Shared → Prop}
    (q : ∀ W' s' r0' r1', W.le W' → Inv 1000 r0' → Inv 1000 r1' → Rep S W' (Las [f]) { fr := [loc01 n (script.map .int)], hp := hpS r0' r1', next := 16 } s' → Q .next s') :
    wpC (model S.prog S.w) A (exec (.For (.Name "number" (forPx P 7)) (forIter P 7) (forBody P 7) [] (forPos P 7)) f.env) Q E s := by
  refine wpC_For (wpC_mono (h.ev W (forIter P 7) _ _ _ _ _ _ (run_iter7 P n (script.map .int) (hpS r0 r1)) ⟨trivial, ⟨trivial, ⟨trivial, trivial⟩, trivial⟩, by rw [List.length_map]; omega⟩ s R (fun x s₁ => ∃ W', W.le W' ∧ Rep S W' (Las [f]) { fr := [loc01 n (script.map .int)], hp := hpS r0 r1, next := 16 } s₁ ∧ VRel W' (.lst (l40 (script.map .int))) x) (fun _ _ => False)
    fun W' s' le R' x hx => ⟨W', le, R', hx⟩) (fun x s₁ hx => ?_) fun _ _ x => x.elim) (folded7 P f.env)
  obtain ⟨W1, le1, R1, hx⟩ := hx
  cases hx with
  | lst hax hl => ?_
  rename_i vs ax nn
  refine for_list (h.cx.hand rfl) hax hl R1 (fun i st1 => ∃ r0 r1, Inv (4 + 6 * i) r0 ∧ Inv (4 + 6 * i) r1 ∧ st1 = { fr := [loc01 n (script.map .int)], hp := hp01 (ownList ax i) r0 r1, next := 17 }) (ownList ax) rfl
    (fun i st1 ⟨r0, r1, _, _, e⟩ => by rw [e]; rfl) ⟨r0, r1, i0, i1, rfl⟩ (fun i st1 W2 s2 a v hi le2 j hv R2 => ?_) fun W2 st1 s2 I h' tk le2 hI R2 j hk => ?_
  · obtain ⟨r0, r1, i0, i1, rfl⟩ := j
    obtain ⟨num, rfl⟩ := l40_mem hi
    have hilt : i < 63 := by
      have h1 := (List.getElem?_eq_some_iff.mp hi).1
      have h2 := l40_len (script.map .int)
      rw [List.length_map] at h2
      omega
    refine h.store (num_local P) hv rfl R2 fun W3 s3 le3 R3 => ?_
    obtain ⟨p, c, st', r0', r1', e, hc, j0, j1, hG, loc, hfr, hloc⟩ := turn_any (P := P) (own := ownList ax (i + 1)) (n := n) (l := script.map .int) (num := num) i0 i1 (by omega)
    refine h.ex W3 (forBody P 7) _ _ _ _ _ _ e hc s3 R3 _ _ fun W4 s4 le4 R4 fl hfl => ?_
    cases hfl
    have R5 := forget17 R4 hG hfr hloc
    obtain ⟨I, o, hI, -, -⟩ := R2.hp 16 (.own (ownList ax (i + 1))) rfl
    refine ⟨rfl, _, _, cut_le R1 (le2.trans (le3.trans le4)) (by show (16 : Nat) ≤ 17; omega), ?_, R5, r0', r1', j0, j1, rfl⟩
    show (W4.cut (κb 17)).φ 16 = W2.φ 16
    rw [hI]
    exact Wd.cut_some.mpr ⟨rfl, le4.1 _ _ (le3.1 _ _ hI)⟩
  · obtain ⟨r0', r1', j0, j1, rfl⟩ := j
    have h2 := l40_len (script.map .int)
    rw [List.length_map] at h2
    have R3 := forget16 (r0 := r0') (r1 := r1') R2 (fun i ao e => getH_hpS e) rfl (fun x a e => e)
    refine q _ _ r0' r1' (le1.trans (cut_le R1 le2 (Nat.le_refl 16))) (j0.to (by omega)) (j1.to (by omega)) (R3.other (t := tk) (fun b o e1 e2 => hk b o (fun z => ?_) e2) (fun i a o e1 e2 => hk a o (fun z => ?_) e2) fun M hM m hn => hn.at' fun o e => hk M o (fun z => ?_) e)
    · have e1 : W2.fz.get? b = some o := e1
      rw [z, (R2.sepφ 16 I hI).1] at e1; cases e1
    · obtain ⟨k1, k2⟩ := Wd.cut_some.mp e1
      have := R2.inj i 16 a k2 (z ▸ hI)
      rw [this] at k1; cases k1
    · exact (R2.sepφ 16 I hI).2.1 (z ▸ hM)
end
end Mine
-- part Lw4
open PySem PySem.W PyProof.Rows PySem.Calls
namespace Mine
section
variable {P : Params} {S : Stc} {A : Around} {f : Fm} {W : Wd} {s : Shared}
theorem loop_tail (h : At01 P S A f) {n : Int} {script : List Int} {r0 r1 : Rdr} (i0 : Inv 1000 r0) (i1 : Inv 1000 r1)
    (R : Rep S W (Las [f]) { fr := [loc01 n (script.map .int)], hp := hpS r0 r1, next := 16 } s) {Q : Flow → Shared → Prop} {E : Value → Shared → Prop}
    (q : ∀ W' s', W.le W' → Rep S W' (Las [f]) { fr := [loc01 n (script.map .int)], hp := hpS r0 r1, next := 16 } s' → Q .next s') :
    wpC (model S.prog S.w) A (exec (.For (.Name "which" (forPx P 8)) (forIter P 8) (forBody P 8) [] (forPos P 8)) f.env) Q E s := by
  refine wpC_For (wpC_mono (h.ev W (forIter P 8) _ _ _ _ _ _ (run_iter8 P n (script.map .int) (hpS r0 r1)) ⟨⟨trivial, ⟨trivial, trivial, trivial⟩, trivial⟩, trivial⟩ s R (fun x s₁ => ∃ W', W.le W' ∧ Rep S W' (Las [f]) { fr := [loc01 n (script.map .int)], hp := (16, .list [.int 0, .int 1]) :: hpS r0 r1, next := 17 } s₁ ∧ VRel W' (.ref 16) x) (fun _ _ => False)
    fun W' s' le R' x hx => ⟨W', le, R', hx⟩) (fun x s₁ hx => ?_) fun _ _ x => x.elim) (folded8 P f.env)
  obtain ⟨W1, le1, R1, hx⟩ := hx
  cases hx with
  | ref hax => ?_
  rename_i ax
  obtain ⟨vs, nn, hvs, hl⟩ := R1.olist (u := 16) (l := [.int 0, .int 1]) rfl hax
  have hlow : Lows (κb 16) [.int 0, .int 1] := .cons .int (.cons .int .nil)
  have R2 := forget16 (n := n) (script := script) (r0 := r0) (r1 := r1) R1 (fun i ao e => by
    have := κb_iff.mp (low_hpS r0 r1 _ (getH_mem e)).1
    show getH ((16, _) :: hpS r0 r1) i = _
    unfold getH
    rw [show Nat.beq i 16 = false by rw [nbeq]; simp; omega]
    exact e) rfl (fun x a e => e)
  have sepx := R1.sepφ 16 ax hax
  obtain ⟨W3, le3, hφ3, hfz3, R3⟩ := R2.freeze hvs (fun i e => by
    obtain ⟨k1, k2⟩ := Wd.cut_some.mp e
    have := R1.inj i 16 ax k2 hax
    rw [this] at k1; cases k1) sepx.2.1
  replace R3 : Rep S W3 (Las [f]) { fr := [loc01 n (script.map .int)], hp := hpS r0 r1, next := 16 } s₁ := R3
  have leW : W.le W3 := (cut_le R le1 (Nat.le_refl 16)).trans le3
  refine for_list (h.cx.hand rfl) hfz3 ((hl.low hlow).mono le3) R3 (fun i st1 => st1 = { fr := [loc01 n (script.map .int)], hp := hp01 (ownList ax i) r0 r1, next := 17 }) (ownList ax) rfl
    (fun i st1 e => by rw [e]; rfl) rfl (fun i st1 W4 s4 a v hi le4 j hv R4 => ?_) fun W4 st1 s4 I h' tk le4 hI R4 j hk => ?_
  · subst j
    have body : ∀ (wh : Int) (p : List Bool) (c : Prop) (st' : ASt) (loc : Loc), a = .int wh → run01 P (forBody P 8) p (st01t (ownList ax (i + 1)) n (script.map .int) wh r0 r1) = some (.ok .next, [], c, st') → c → st'.fr = [loc] →
        (∀ x a, getK x (loc01 n (script.map .int)) = some a → getK x loc = some a) → (∀ i' ao, getH (hp01 (ownList ax (i + 1)) r0 r1) i' = some ao → getH st'.hp i' = some ao) →
        wpC (model S.prog S.w) A (assign (.Name "which" (forPx P 8)) f.env v) (fun _ s2 => wpC (model S.prog S.w) A (execs (forBody P 8) f.env)
          (fun fl s3 => fl = .next ∧ ∃ W2 st2, W3.le W2 ∧ W2.φ 16 = W4.φ 16 ∧ Rep S W2 (Las [f]) st2 s3 ∧ st2 = { fr := [loc01 n (script.map .int)], hp := hp01 (ownList ax (i + 1)) r0 r1, next := 17 }) (fun _ _ => False) s2) (fun _ _ => False) s4 := by
      intro wh p c st' loc ha e hc hfr hloc hG
      subst ha
      refine h.store (which_local P) hv rfl R4 fun W5 s5 le5 R5 => ?_
      refine h.ex W5 (forBody P 8) _ _ _ _ _ _ e hc s5 R5 _ _ fun W6 s6 le6 R6 fl hfl => ?_
      cases hfl
      have R7 := forget17 R6 hG hfr hloc
      obtain ⟨I, o, hI, -, -⟩ := R4.hp 16 (.own (ownList ax (i + 1))) rfl
      refine ⟨rfl, _, _, cut_le R3 (le4.trans (le5.trans le6)) (by show (16 : Nat) ≤ 17; omega), ?_, R7, rfl⟩
      rw [hI]
      exact Wd.cut_some.mpr ⟨rfl, le6.1 _ _ (le5.1 _ _ hI)⟩
    match i, hi with
    | 0, hi =>
      cases hi
      exact body 0 _ _ _ _ rfl (run_tail_0 P (ownList ax 1) n (script.map .int) r0 r1) (ok_tail_0 i0 (Nat.le_refl _)) rfl (fun x a e => getK_app e) fun i' ao e => e
    | 1, hi =>
      cases hi
      exact body 1 _ _ _ _ rfl (run_tail_1 P (ownList ax 2) n (script.map .int) r0 r1) (ok_tail_1 i1 (Nat.le_refl _)) rfl (fun x a e => getK_app e) fun i' ao e => e
    | k + 2, hi => simp at hi
  · subst j
    have R5 := forget16 (n := n) (script := script) (r0 := r0) (r1 := r1) R4 (fun i ao e => getH_hpS e) rfl (fun x a e => e)
    refine q _ _ (leW.trans (cut_le R3 le4 (Nat.le_refl 16))) (R5.other (t := tk) (fun b o e1 e2 => hk b o (fun z => ?_) e2) (fun i a o e1 e2 => hk a o (fun z => ?_) e2) fun M hM m hn => hn.at' fun o e => hk M o (fun z => ?_) e)
    · have e1 : W4.fz.get? b = some o := e1
      rw [z, (R4.sepφ 16 I hI).1] at e1; cases e1
    · obtain ⟨k1, k2⟩ := Wd.cut_some.mp e1
      have := R4.inj i 16 a k2 (z ▸ hI)
      rw [this] at k1; cases k1
    · exact (R4.sepφ 16 I hI).2.1 (z ▸ hM)
theorem law_pre {st' : ASt} {c : Prop} {n : Int} {l : List AV} {p : List Bool} {st : ASt} (h : At01 P S A f) (e : run01 P ((law01 P).take 7) p st = some (.ok .next, [], c, st')) (hc : c) {script : List Int} (hl : l = script.map .int) (hfr : st'.fr = [loc01 n l])
    (hG : ∀ i ao, getH (hpS (rdA (4 + n.fmod 20)) (rdB (20 + (n.fdiv 20).fmod 30))) i = some ao → getH st'.hp i = some ao) (hn : st.next = 0) (R : Rep S W (Las [f]) st s) {Q : Flow → Shared → Prop} {E : Value → Shared → Prop}
    (q : ∀ W' s', W.le W' → Rep S W' (Las [f]) { fr := [loc01 n (script.map .int)], hp := hpS (rdA (4 + n.fmod 20)) (rdB (20 + (n.fdiv 20).fmod 30)), next := 16 } s' → Q .next s') :
    wpC (model S.prog S.w) A (execs ((law01 P).take 7) f.env) Q E s := by
  refine h.ex W _ _ _ _ _ _ _ e hc s R _ _ fun W' s' le R' fl hfl => ?_
  cases hfl
  subst hl
  exact q _ _ (cut_le R le (by omega)) (forget16 R' hG hfr fun x a e => e)
theorem law_rest (h : At01 P S A f) {n : Int} {script : List Int} (hlen : script.length ≤ 63) (R : Rep S W (Las [f]) { fr := [loc01 n (script.map .int)], hp := hpS (rdA (4 + n.fmod 20)) (rdB (20 + (n.fdiv 20).fmod 30)), next := 16 } s)
    {Q : Flow → Shared → Prop} {E : Value → Shared → Prop} (q : ∀ W' s', W.le W' → Rep S (W'.cut fun _ => false) (Las [f]) ⟨[[]], [], 0⟩ s' → Q (.ret (.bool true)) s') :
    wpC (model S.prog S.w) A (execs (.For (.Name "number" (forPx P 7)) (forIter P 7) (forBody P 7) [] (forPos P 7) :: .For (.Name "which" (forPx P 8)) (forIter P 8) (forBody P 8) [] (forPos P 8) :: (law01 P).drop 9) f.env) Q E s := by
  refine wpC_execs_cons (loop_main h hlen inv_A inv_B R fun W1 s1 r0 r1 le1 i0 i1 R1 => ⟨rfl, wpC_execs_cons (loop_tail h i0 i1 R1 fun W2 s2 le2 R2 => ⟨rfl, ?_⟩)⟩)
  refine h.ex W2 _ _ _ _ _ _ _ (run_tail_ret P n (script.map .int) r0 r1) (ok_tail_ret i0 i1 (Nat.le_refl _)) s2 R2 _ _ fun W3 s3 le3 R3 fl hfl => ?_
  rw [ret_true i1] at hfl
  cases hfl with
  | ret hv =>
    cases hv
    refine q W3 s3 (le1.trans (le2.trans le3)) (R3.forget (fun i ao e => by cases e) ?_ fun i hi => .inl rfl)
    exact .cons (fun x a e => by cases e) .nil
end
end Mine
-- part Jn1
section
open PySem PySem.W PyProof.Rows PySem.Calls
namespace Mine
section
open Classical in
noncomputable def body01 (P : Params) (script : List Int) (sc : Scope) (b : List Stmt) : X FlX := fun p st =>
  if sc = sc01 P ∧ b = law01 P ∧ st = ⟨[[("script", .lst (script.map .int))]], [], 0⟩ then some (.ok (.ret (.bool true)), p, True, ⟨[[]], [], 0⟩) else none
theorem suffix_low {r0 r1 : Rdr} {G T : List (Nat × AObj)} (hG : G.all (fun p => Nat.ble 12 p.1) = true) : ∀ i ao, getH (hpS r0 r1) i = some ao → getH (G ++ (hpS r0 r1 ++ T)) i = some ao := by
  have hlt : ∀ i ao, getH (hpS r0 r1) i = some ao → i < 12 := fun i ao h => by
    have h := getH_mem h
    have : (hpS r0 r1).all (fun p => Nat.blt p.1 12) = true := by kernel_rfl
    have := List.all_eq_true.mp this _ h
    simpa using this
  have app : ∀ (l : List (Nat × AObj)) i ao, getH l i = some ao → getH (l ++ T) i = some ao := by
    intro l
    induction l with
    | nil => intro i ao h; cases h
    | cons p r ih =>
      intro i ao h
      show getH (p :: (r ++ T)) i = _
      unfold getH at h ⊢
      split at h
      · exact h
      · exact ih _ _ h
  induction G with
  | nil => exact fun i ao h => app _ _ _ h
  | cons p r ih =>
    intro i ao h
    simp only [List.all_cons, Bool.and_eq_true] at hG
    have h1 := Nat.le_of_ble_eq_true hG.1
    have := hlt i ao h
    show getH (p :: (r ++ (hpS r0 r1 ++ T))) i = _
    unfold getH
    rw [show Nat.beq i p.1 = false by rw [nbeq]; simp; omega]
    exact ih hG.2 i ao h
def Pre01 (P : Params) (script : List Int) : Prop :=
  ∃ n p c st', run01 P ((law01 P).take 7) p ⟨[[("script", .lst (script.map .int))]], [], 0⟩ = some (.ok .next, [], c, st') ∧ c ∧ st'.fr = [loc01 n (script.map .int)] ∧
    (st'.hp.take 4).all (fun p => Nat.ble 12 p.1) = true ∧ st'.hp = st'.hp.take 4 ++ (hpS (rdA (4 + n.fmod 20)) (rdB (20 + (n.fdiv 20).fmod 30)) ++ st'.hp.drop 14)
theorem pre_no (P : Params) : Pre01 P [] :=
  ⟨0, _, _, _, run_pre_no P, ok_pre_no P, rfl, by kernel_rfl, by kernel_rfl⟩
theorem pre_some (P : Params) (n : Int) (r : List Int) : Pre01 P (n :: r) :=
  ⟨n, _, _, _, run_pre_some P n (r.map .int), ok_pre_some P n (r.map .int), rfl, by kernel_rfl, by kernel_rfl⟩
theorem pre_any (P : Params) : ∀ script, Pre01 P script
  | [] => pre_no P
  | n :: r => pre_some P n r
end
end Mine
end
-- part Jn2
section
open PySem PySem.W PyProof.Rows PySem.Calls
namespace Mine
theorem callFn01 (P : Params) (body : Scope → List Stmt → X FlX) (v : AV) : callFn (K01 P) tab01 body 475 [v] [] = inFrame [("script", v)] (body (sc01 P) (law01 P)) := by kernel_rfl
theorem law_name (P : Params) : nsIn (K01 P) mainGlobals "law" = some (some (.ref 475)) := by kernel_rfl
theorem full_name (P : Params) : nsIn (K01 P) mainGlobals "BufferFull" = some (some (.ref 79)) := by kernel_rfl
theorem out_name (P : Params) : nsIn (K01 P) mainGlobals "OutOfData" = some (some (.ref 91)) := by kernel_rfl
theorem full_spec : specOf MineHead.hd01.view_39 "BufferFull" = some ("Exception.__new__", [.type "Exception", .type "BaseException", .type "object"]) := by kernel_rfl
theorem out_spec : specOf MineHead.hd01.view_39 "OutOfData" = some ("Exception.__new__", [.type "Exception", .type "BaseException", .type "object"]) := by kernel_rfl
theorem ownExc_of {p : Program} {loose : List Str} {mean : ExcName → Option Value} {mg mb : Str → Option Value} {h : Heap} {x : Str} {C : Addr} (T : Top p loose mean mg mb h)
    (hs : specOf p x = some ("Exception.__new__", [.type "Exception", .type "BaseException", .type "object"])) (hm : mg x = some (.ref C)) : OwnExc h C := by
  obtain ⟨C', O, -⟩ := T.ownAt hs
  have := O.own.bound.symm.trans hm
  cases this
  exact ⟨x, _, _, _, _, mg, O.own, PySem.F.excBase_Exception⟩
theorem law01_call {S : Stc} {P : Params} (O : S.Ok) (hK : S.K = K01 P) (hT : S.T = tab01) {script : List Int} (hlen : script.length ≤ 63) {v : Value} {W : Wd} (hv : VRel W (.lst (script.map .int)) v) {s : Shared} (R : Rep S W [] ⟨[], [], 0⟩ s) (hsz : S.hb.objs.size ≤ s.heap.objs.size)
    {Q : Value → Shared → Prop} {E : Value → Shared → Prop} (q : ∀ W' s', W.le W' → Rep S W' [] ⟨[], [], 0⟩ s' → Q (.bool true) s') : wpC (model S.prog S.w) callerA (call (.ref 475) [v]) Q E s := by
  have C : CxOk (120 + 1) true callerA [] := ⟨rfl, by decide +kernel, by decide +kernel, fun _ h => (nomatch h), fun _ => rfl, fun _ h => (nomatch h), fun _ h => (nomatch h)⟩
  refine callFn_at O C (fs := []) (body := body01 P script) (a := 475) (l := [.lst (script.map .int)]) (vs := [v]) (kw := []) (kv := []) (.cons hv .nil) .nil (fun f A' C' W b => ?_) [] ⟨[], [], 0⟩ (.ok (.bool true)) [] True ⟨[], [], 0⟩ ?_ trivial s R hsz Q E fun W' s' le R' b hb => ?_
  · intro p st r p' c st' e hc s R Q E Po
    unfold body01 at e
    split at e
    · rename_i hh
      obtain ⟨hsc, rfl, rfl⟩ := hh
      cases e
      have h : At01 P S A' f := ⟨O, hK, hT, C', hsc⟩
      obtain ⟨n, p, c, st', e, hc, hfr, hG, hp⟩ := pre_any P script
      have hR : S.hb.objs.size ≤ s.heap.objs.size := R.hsz
      have main := fun (W₂ : Wd) (s₂ : Shared) (le : W.le W₂) (R₂ : Rep S W₂ (Las [f]) { fr := [loc01 n (script.map .int)], hp := hpS (rdA (4 + n.fmod 20)) (rdB (20 + (n.fdiv 20).fmod 30)), next := 16 } s₂) =>
        law_rest h hlen R₂ (Q := Q) (E := E) fun W₃ s₃ le₃ R₃ => Po (W₃.cut fun _ => false) s₃ (Wd.le_cut (le.trans le₃) fun i a e => by rw [R.fresh i (Nat.zero_le _)] at e; cases e) R₃ _ (.ret .bool)
      have := wpC_execs_app (b := .For (.Name "number" (forPx P 7)) (forIter P 7) (forBody P 7) [] (forPos P 7) :: .For (.Name "which" (forPx P 8)) (forIter P 8) (forBody P 8) [] (forPos P 8) :: (law01 P).drop 9) (Q := Q) (E := E)
        (law_pre h e hc rfl hfr (by rw [hp]; exact suffix_low hG) rfl R fun W₂ s₂ le R₂ => ⟨rfl, main W₂ s₂ le R₂⟩)
      rw [← law01_eq P] at this
      exact this
    · cases e
  · rw [hK, hT, callFn01]
    unfold inFrame
    have : body01 P script (sc01 P) (law01 P) [] { fr := [[("script", .lst (script.map .int))]], hp := [], next := 0 } = some (.ok (.ret (.bool true)), [], True, ⟨[[]], [], 0⟩) := by
      unfold body01
      exact if_pos ⟨rfl, rfl, rfl⟩
    show (match body01 P script (sc01 P) (law01 P) [] { fr := [[("script", .lst (script.map .int))]], hp := [], next := 0 } with | some (.ok fl, p', c, st') => _ | some (.exc C, p', c, st') => _ | none => _) = _
    rw [this]
    rfl
  · cases hb
    exact q W' s' le R'
theorem rels_ints {W : Wd} : ∀ {vs : List Value} {l : List Int}, IntsAre vs l → VRels W (l.map .int) vs := by
  intro vs l h
  induction h with
  | nil => exact .nil
  | cons t h ih => exact .cons .int (by assumption)
end Mine
end
-- part Jn3
section
open PySem PySem.W PyProof.Rows PySem.Calls
set_option maxHeartbeats 8000000
namespace Mine
theorem law01_post {is : List Int} : PySem.Challenge.rw_ag6003_01.row.claim.post [ofPy (.list (is.map .int))] (.bool true) [ofPy (.list (is.map .int))] = true := by
  first | wrow_post | kernel_rfl
theorem law01_raises {args : List WData} (cls : ExcName) : PySem.Challenge.rw_ag6003_01.row.claim.raises args cls = false := by rfl
theorem law01_good {cl : Str → Option Addr} {mean : ExcName → Option Value} {is : List Int} {s₁ s' : Shared} (hk : ∀ b o, s₁.heap.get? b = some o → s'.heap.get? b = some o) (ho : s'.os = s₁.os) (hg : s'.gens = #[]) :
    GoodWG PySem.Challenge.rw_ag6003_01.row.claim cl mean [ofPy (.list (is.map .int))] s₁ (.ok (.ret (.bool true))) s' :=
  ⟨.inl ⟨_, _, [], rfl, fun cls => law01_raises cls, ReadsW.bool true, law01_post, fun _ => ⟨List.nodup_nil, fun _ hm => (nomatch hm)⟩⟩, .of_keep hk, ho, hg ▸ AllBare.empty⟩
end Mine
open Mine in
theorem PySem.Challenge.cw_ag6003_01_holds : PySem.Challenge.rw_ag6003_01.Holds := by
  refine MineHead.hd01 ?_
  intro w s₀ s₁ mg mb G Y a o pm cd doc dV kV ho hd hcd hD hmg hg args vals as hpre hlay hrd hwl hlo
  have KX : (K01 w.params).In s₁.heap := kIn_of Y
  have T := topRead_of G.T
  have ha := (mg_of KX T.g (law_name w.params)).symm.trans hmg
  cases ha
  clear hD hd ho hcd hmg Y
  have x1 := ownExc_of G.T full_spec (mg_of KX T.g (full_name w.params))
  have x2 := ownExc_of G.T out_spec (mg_of KX T.g (out_name w.params))
  wrow_args hpre hlay hrd hwl hlo
  rename_i is _ _ _ _ _ _ _ av vs _ hL _ wl _ hI _ hn _
  refine ⟨?_, law01_good (fun _ _ e => e) rfl hg⟩
  cases wl with | list hob _ => ?_
  rename_i vs' _
  obtain ⟨ob, e1, e2, nn, e3⟩ := hL
  rw [hob] at e1
  cases e1
  have e4 : vs'.toArray = vs.toArray := by injection e3
  have e5 : vs' = vs := by simpa using e4
  subst e5
  let S : Stc := ⟨PySem.Challenge.rw_ag6003_01.row.prog, w, K01 w.params, tab01, s₁.heap, s₁.os, MineHead.hd01.view_39, looseW MineHead.hd01.view_39 [Str.ofString "FormatError", Str.ofString "StackError", Str.ofString "ExtType", Str.ofString "Timestamp", Str.ofString "_MSGPACK_HEADERS", Str.ofString "Unpacker"], mg, mb⟩
  have O : S.Ok := ⟨tab01_ok _, fun C hC => by
    replace hC : C ∈ [79, 91] := hC
    simp only [List.mem_cons, List.not_mem_nil, or_false] at hC
    rcases hC with rfl | rfl
    · exact x1
    · exact x2, KX, T⟩
  have W0 : Rep S ⟨fun _ => none, s₁.heap⟩ [] ⟨[], [], 0⟩ s₁ := ⟨fun _ _ e => e, fun _ _ e => e, fun _ _ _ e => (nomatch e), fun _ _ e => (nomatch e), fun _ h => (nomatch h), List.nodup_nil, fun _ _ => rfl, fun _ _ e => (nomatch e), .nil, hg, rfl⟩
  exact law01_call (S := S) O rfl rfl (by omega) (.lst hob (rels_ints hI)) W0 (Nat.le_refl _) fun W' s' le R => law01_good (fun b o e => R.keep b o (R.old b o e)) R.os R.gens
end
