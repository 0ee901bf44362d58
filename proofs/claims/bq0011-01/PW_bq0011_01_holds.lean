import PyProof.Rows.All
import Wide.All
import OpenK.AllK
import Wide.FinOn
import Lean
import PySem.Challenge.RW_bq0011_01
set_option Elab.async false
set_option linter.unusedVariables false
namespace Mine
theorem lull1 : True ∧ True := by
  w_top off
  k_with_none
  first
    | (walk1; fail)
    | exact ⟨trivial, trivial⟩
end Mine
section
open PySem PySem.W PySem.Spec PySem.Calls PyProof.Rows
namespace Mine
/-- a built-in that the model's `exported` looks for on the stack -/
def isDec : Code → Bool
  | .builtin id _ => Builtin.Bytes.decodersThatHold.contains id || (["bytearray.__contains__", "bytearray.__mod__", "bytearray.__rmod__", "_struct.pack_into.held", "bytearray.find.held"] : List String).contains id
  | _ => false
def cleanSt (l : List (Code × Pos)) : Bool := l.all fun x => !isDec x.1
def Clean (Γ : PySem.Ctx) : Prop := isDec Γ.code = false ∧ cleanSt Γ.below = true
theorem clean_stack {Γ : PySem.Ctx} (p : Pos) : cleanSt ((Γ.code, p) :: Γ.below) = true ↔ Clean Γ := by
  simp [cleanSt, Clean]

/-- as wpAny, over clean stacks alone -/
def wpD {α : Type} (M : Model) (A : Around) (t : Sem α) (Q : α → Shared → Prop) (E : Value → Shared → Prop) (s : Shared) : Prop :=
  ∀ Γ p, Γ.In A → Clean Γ → Sem.wp M Γ t (fun a _ s' => Q a s') (fun e _ s' => E e s') p s
def codeD (M : Model) (A : Around) (c : Code) (R : Result → Shared → Prop) (s : Shared) : Prop :=
  ∀ Γ p, Γ.code = c → Γ.Below A → cleanSt Γ.below = true → wpCode M Γ R p s

section
variable {α β : Type} {M : Model} {A : Around} {E : Value → Shared → Prop} {s : Shared}
theorem wpD_of_any {t : Sem α} {Q : α → Shared → Prop} (h : wpAny M A t Q E s) : wpD M A t Q E s := fun Γ p hΓ _ => h Γ p hΓ
theorem wpD_mono {t : Sem α} {Q Q' : α → Shared → Prop} {E' : Value → Shared → Prop} (h : wpD M A t Q E s)
    (hQ : ∀ a s, Q a s → Q' a s) (hE : ∀ e s, E e s → E' e s) : wpD M A t Q' E' s :=
  fun Γ p hΓ c => Sem.wp_mono M Γ t (fun a _ s => hQ a s) (fun e _ s => hE e s) p s (h Γ p hΓ c)
theorem wpD_bind {m : Sem α} {f : α → Sem β} {Q : β → Shared → Prop} (h : wpD M A m (fun a s' => wpD M A (f a) Q E s') E s) :
    wpD M A (m >>= f) Q E s := fun Γ p hΓ c => by
  rw [Sem.wp_bind']
  exact Sem.wp_mono M Γ m (fun a p' s' h' => h' Γ p' hΓ c) (fun _ _ _ h' => h') p s (h Γ p hΓ c)
theorem wpD_pure {a : α} {Q : α → Shared → Prop} (h : Q a s) : wpD M A (pure a) Q E s := fun _ _ _ _ => h
theorem wpD_holding {vs : List Value} {m : Sem α} {Q : α → Shared → Prop} (h : wpD M A m Q E s) : wpD M A (holding vs m) Q E s :=
  fun Γ p hΓ c => by rw [Sem.wp_holding]; exact h Γ p hΓ c
theorem wpD_keep {vs : List Value} {m : Sem α} {Q : α → Shared → Prop} (h : wpD M A m Q E s) : wpD M A (m.keep vs) Q E s :=
  fun Γ p hΓ c => by rw [Sem.wp_keep]; exact h Γ p hΓ c
theorem wpD_onRaise {m : Sem α} {k : Value → Sem Unit} {Q : α → Shared → Prop}
    (h : wpD M A m Q (fun e s' => wpD M A (k e) (fun _ s'' => E e s'') E s') s) : wpD M A (m.onRaise k) Q E s := fun Γ p hΓ c => by
  rw [Sem.wp_onRaise]
  exact Sem.wp_mono M Γ m (fun _ _ _ h' => h') (fun e p' s' h' => h' Γ p' hΓ c) p s (h Γ p hΓ c)
/-- the look at the stack, over a clean one -/
theorem wpD_stackAny {f : Code × Pos → Bool} {Q : Bool → Shared → Prop} (hf : ∀ c p, isDec c = false → f (c, p) = false) (h : Q false s) :
    wpD M A (do return (← stack).any f) Q E s := fun Γ p _ c => by
  show Q (((Γ.code, p) :: Γ.below).any f) s
  have e : ((Γ.code, p) :: Γ.below).any f = false := by
    rw [List.any_eq_false]
    intro x hx
    have hc := (clean_stack p).mpr c
    unfold cleanSt at hc
    have := List.all_eq_true.mp hc x hx
    have := hf x.1 x.2 (by simpa using this)
    simp [this]
  rw [e]; exact h
theorem codeD_of_any {c : Code} {R : Result → Shared → Prop} (h : codeAny M A c R s) : codeD M A c R s := fun Γ p hc hΓ _ => h Γ p hc hΓ
theorem codeD_mono {c : Code} {R R' : Result → Shared → Prop} (h : codeD M A c R s) (hR : ∀ r s, R r s → R' r s) : codeD M A c R' s :=
  fun Γ p hc hΓ k => wpCode_mono hR (h Γ p hc hΓ k)
theorem Clean.enter {Γ : PySem.Ctx} (h : Clean Γ) (c : Code) (hd : Option Value) (p : Pos) : cleanSt (Γ.enter c hd p).below = true := (clean_stack p).mpr h
theorem wpD_run {c : Code} {h : Option Value} {Q : Flow → Shared → Prop}
    (hc : codeD M (A.mark h) c (fun r s' => match r with | .ok f => Q f s' | .error e => E e s') s) (hnb : h ≠ some byPass := by intro x; cases x) :
    wpD M A (run c h) Q E s :=
  fun Γ p hΓ k => by rw [Sem.wp_run]; exact hc _ p rfl (hΓ.enter c h p hnb) (k.enter c h p)
theorem wpD_runValue {c : Code} {Q : Value → Shared → Prop}
    (hc : codeD M A c (fun r s' => match r with | .ok (.ret v) => Q v s' | .ok _ => False | .error e => E e s') s) :
    wpD M A (runValue c) Q E s := fun Γ p hΓ k => by rw [Sem.wp_runValue]; exact hc _ p rfl (hΓ.enter c none p (by intro x; cases x)) (k.enter c none p)
theorem wpD_call {f : Value} {pos : List Value} {kw : List (Str × Value)} {Q : Value → Shared → Prop}
    (hc : codeD M A (.call f ⟨pos, kw⟩) (fun r s' => match r with | .ok (.ret v) => Q v s' | .ok _ => False | .error e => E e s') s) :
    wpD M A (call f pos kw) Q E s := wpD_runValue hc
theorem codeD_of_tree {c : Code} {R : Result → Shared → Prop} (hd : isDec c = false)
    (h : wpD M (A.under c) (M.den c) (fun fin s' => match fin with | .done f => R (.ok f) s' | .again c' => c'.quiet = true ∧ codeD M A c' R s')
      (fun e s' => R (.error e) s') s) : codeD M A c R s := fun Γ p hc hΓ k => by
  rw [wpCode_iff_wp, hc]
  refine Sem.wp_mono M Γ _ (fun fin p' s' h' => ?_) (fun _ _ _ h' => h') p s (h Γ p (hc ▸ hΓ.in) ⟨by rw [hc]; exact hd, k⟩)
  cases fin with
  | done f => exact h'
  | again c' => exact ⟨h'.1, h'.2 (Γ.goto c') p' rfl (hΓ.goto c') k⟩
end

/-- the walk that the head below asks -/
abbrev WalkD (q : Program) (loose : List Str) (XP : (Str → Option Value) → Heap → Prop) (YP : World → Heap → Prop) (r : RowW) (d : DefRec) (kwd : List (Str × Expr)) : Prop :=
  ∀ (w : World) (s₀ s₁ : Shared) (mg mb : Str → Option Value), Ground q loose r.records XP w s₀ mg mb s₁.heap → YP w s₁.heap → ∀ (a : Addr) (o : Obj) (pm cd doc dV kV : Value), s₁.heap.get? a = some o →
    o.data = .func { docDef d.name d.params d.body d.scope pm cd doc with defaults := dV, kwdefaults := kV } → s₁.heap.CodeRec cd d.name → Dflts mg s₁.heap d.params kwd dV kV → mg d.name = some (.ref a) → s₁.gens = #[] →
    ∀ (args : List WData) (vals : List Value) (as : List Addr), r.claim.pre args = true → WData.layableAll args = true → ReadsAllW r.records (classAt s₀.heap) s₁.heap vals args as → WellAll w.params s₁.heap vals args → (∀ a ∈ as, (a == sysModules) = false) →
      ((∀ cls, r.claim.raises args cls = false) ∧ r.claim.post args (.bool true) args = true) ∧
      wpD (model r.prog w) callerA (PySem.call (.ref a) vals) (fun v s' => GoodWG r.claim (classAt s₀.heap) (ExcName.means s₀.heap) args s₁ (.ok (.ret v)) s')
        (fun e s' => GoodWG r.claim (classAt s₀.heap) (ExcName.means s₀.heap) args s₁ (.error e) s') s₁

theorem step_stack {p : Program} {w : World} {s : Shared} {k : List (Code × Pos) → Sem Fin} {n : Nat} {o : Outcome} {s' : Shared} (hz : s.asleep)
    (h : schedN (denote table) p w n (.single s ⟨.stack k, .builtin "claim.caller" {}, default, []⟩) = .halted o s') :
    ∃ n', schedN (denote table) p w n' (.single s ⟨k [(.builtin "claim.caller" {}, default)], .builtin "claim.caller" {}, default, []⟩) = .halted o s' := by
  cases n with
  | zero => cases h
  | succ n =>
    have hc : (⟨.stack k, .builtin "claim.caller" {}, default, []⟩ : Thread).calm = true := by
      simp [Thread.calm, Thread.atCollectorCode, Thread.yieldsInsideHandler]
      first | done | decide
    have e := sstep_single (denote table) p w s _ hc hz
    simp only [schedN] at h
    rcases e with e | e
    · rw [e] at h
      exact ⟨n, h⟩
    · cases e
/-- a lid that whnf does not lift: without it every `refine` of a contract evaluates the statement that it is of -/
structure SegP (P : Prop) : Prop where
  out : P
theorem segp_out {α : Type} {M : Model} {A : Around} {t : Sem α} {Q : α → Shared → Prop} {E : Value → Shared → Prop} {s : Shared} (h : SegP (wpAny M A t Q E s)) : wpAny M A t Q E s := h.out
theorem segp_mono {α : Type} {M : Model} {A : Around} {t : Sem α} {Q Q' : α → Shared → Prop} {E E' : Value → Shared → Prop} {s : Shared} (h : SegP (wpAny M A t Q E s))
    (hQ : ∀ a s, Q a s → Q' a s) (hE : ∀ e s, E e s → E' e s) : wpAny M A t Q' E' s := wpAny_mono h.out hQ hE
end Mine
end
namespace Mine
theorem lull2 : True ∧ True := by
  w_top off
  k_with_none
  first
    | (walk1; fail)
    | exact ⟨trivial, trivial⟩
end Mine
section
open PySem PySem.W PySem.Spec PySem.Calls PyProof.Rows
namespace Mine
theorem PySem.W.holds_open {r : OpenRow} {q : Program} {loose : List Str} {Xt : Shared → Bool} {XP : (Str → Option Value) → Heap → Prop} {α : Type} {Yf : Shared → α} {Ya : World → α} {YP : World → Heap → Prop} {d : DefRec} {kwd : List (Str × Expr)} {N : Nat}
    (left : LeftO r.prog q loose Xt Yf Ya N) (hY : ∀ w s, Yf s = Ya w → YP w s.heap) (hYk : ∀ w h h', YP w h → (∀ b o, h.get? b = some o → h'.get? b = some o) → YP w h')
    (hX : ∀ s, Xt s = true → XP (s.heap.nsMap mainGlobals) s.heap) (hXk : ∀ mg h h', XP mg h → (∀ b o, h.get? b = some o → h'.get? b = some o) → XP mg h')
    (hdef : defOf q r.name = some (d, kwd)) (hp : r.prog.theDef r.name = some (d.params, d.body, d.scope)) (hk : kwWritten? d.params.kwonlyargs d.params.kw_defaults = some kwd) (hRf : ∀ s, Xt s = true → RecFacts r.records s.heap) (hwr : (!r.writes || r.records.isEmpty) = true)
    (k1 : r.wellSaid = true) (ok : (chainsOk q && opensWell r.prog && (frees r.toRowW && r.within.isEmpty)) = true) (hb : r.prog.bare) (hw : r.toRowW.promised)
    (call : WalkD q loose XP YP r.toRowW d kwd) : r.Holds := by
  let tree : List Value → Sem Fin := fun vs => do
    match ← nsGet mainNs r.name with
    | some f => do ret (← PySem.call f vs)
    | none => unsupported "claim.caller:no-such-global"
  have H := open_anyG (r := r.toRowW) (defs := if r.pinned then [r.name] else []) (kps := r.keeps) (writes := r.writes) (run := fun f vs => .stack fun st => if cleanSt st = true then PySem.call f vs else .pure (.bool true))
    (tree := fun vs => .stack fun st => if cleanSt st = true then tree vs else .pure (.done (.ret (.bool true)))) left hY hYk hX hXk hRf hwr ok hb hw ?_ ?_ ?_
  · refine ⟨k1, hw, ?_⟩
    obtain ⟨a, b, c⟩ := H
    refine ⟨a, b, fun w => ⟨(c w).1, fun s hs => ?_⟩⟩
    obtain ⟨s₀, hf, hg0, s₁, hT, hd, hr1, hr2, hcall⟩ := (c w).2 s hs
    obtain ⟨s₀', hf', _, s₁', hT', hz, _⟩ := (left.behind hX (by
      have := (Bool.and_eq_true_iff.mp (Bool.and_eq_true_iff.mp ok).1).1
      exact this) w).2 s hs
    obtain rfl : s₀ = s₀' := Option.some.inj (hf.symm.trans hf')
    have hz1 : s₁.asleep := Shared.asleep_of_life (hT.2.1.trans hT'.2.1.symm) hz
    refine ⟨s₀, hf, hg0, s₁, hT, hd, hr1, hr2, fun args h1 h2 ord h3 => ?_⟩
    obtain ⟨vs, s₂, hl, n, o, s', hrun, rest⟩ := hcall args h1 h2 ord h3
    have hz2 : s₂.asleep := Shared.asleep_of_life (layAllW_rest _ _ _ hl).2.2.2 hz1
    obtain ⟨n', hrun'⟩ := step_stack hz2 hrun
    exact ⟨vs, s₂, hl, n', o, s', hrun', rest⟩
  · intro vs w s mg f Q E hg hf h Γ p hΓ
    have h' := h Γ p hΓ
    show Sem.wp _ Γ (if cleanSt ((Γ.code, p) :: Γ.below) = true then tree vs else .pure (.done (.ret (.bool true)))) _ _ p s
    have h'' : Sem.wp (model r.prog w) Γ (if cleanSt ((Γ.code, p) :: Γ.below) = true then PySem.call f vs else .pure (.bool true)) (fun v _ s' => Q (.done (.ret v)) s') (fun e _ s' => E e s') p s := h'
    by_cases hc : cleanSt ((Γ.code, p) :: Γ.below) = true
    · rw [if_pos hc] at h'' ⊢
      show Sem.wp _ Γ (nsGet mainNs r.name >>= _) _ _ p s
      have hg' : s.heap.Ns mainNs mg := hg
      rw [Sem.wp_bind', Sem.wp_nsGet _ _ _ _ _ hg', hf]
      show Sem.wp _ Γ (PySem.call f vs >>= fun v => ret v) _ _ p s
      rw [Sem.wp_bind']
      exact h''
    · rw [if_neg hc] at h'' ⊢
      exact h''
  · intro w s hg G n hn
    obtain rfl : n = r.name := by split at hn <;> simp_all
    exact pinned_of_view hg G hdef hp hk
  · intro w s₀ s₁ mg mb G Y args vs as hpre hlay L low
    obtain ⟨a, o, pm, cd, doc, dV, kV, h1, h2, h3, h4, h5⟩ := G.fn hdef
    refine ⟨.ref a, h1, fun Γ p hΓ => ?_⟩
    obtain ⟨⟨j1, j2⟩, hc⟩ := call w s₀ s₁ mg mb G Y a o pm cd doc dV kV h2 h3 h4 h5 (defOf_name hdef ▸ h1) L.gens args vs as hpre hlay L.reads L.well (L.low low)
    show Sem.wp _ Γ (if cleanSt ((Γ.code, p) :: Γ.below) = true then PySem.call (.ref a) vs else .pure (.bool true)) _ _ p s₁
    by_cases hcl : cleanSt ((Γ.code, p) :: Γ.below) = true
    · rw [if_pos hcl]
      exact hc Γ p hΓ ((clean_stack p).mp hcl)
    · rw [if_neg hcl]
      exact ⟨.inl ⟨_, _, [], rfl, j1, ReadsW.bool true, j2, fun _ => ⟨List.nodup_nil, fun _ hm => (nomatch hm)⟩⟩, .of_keep fun _ _ e => e, rfl, by rw [L.gens]; exact AllBare.empty⟩
end Mine
end
namespace Mine
theorem lull3 : True ∧ True := by
  w_top off
  k_with_none
  first
    | (walk1; fail)
    | exact ⟨trivial, trivial⟩
end Mine
section
open PySem PySem.W PyProof.Rows
namespace Mine
set_option maxRecDepth 100000 in
set_option maxHeartbeats 8000000 in
open_top hd for PySem.Challenge.rw_bq0011_01
end Mine
end
namespace Mine
theorem lull4 : True ∧ True := by
  w_top off
  k_with_none
  first
    | (walk1; fail)
    | exact ⟨trivial, trivial⟩
end Mine
section
open PySem PySem.W PySem.Spec PySem.Calls PyProof.Rows PySem.Builtin
set_option maxRecDepth 100000
namespace Mine
/-! bytearray: its length, its slices, bytes of it -/
abbrev baObj (b : Array UInt8) : Obj := { cls := .type "bytearray", data := .bytearray b 0 }
theorem slot_ba_len : Slot "bytearray" "__len__" "bytearray.__len__" :=
  .of (owner := "bytearray") (n := "__len__") (by rw [typeLookup_type, builtinLookup_eq_fast]; kernel_rfl) (by decide +kernel) (by decide +kernel) (by decide +kernel)
    (by first | exact .inl (by decide +kernel) | exact .inr (by decide +kernel)) (by rw [isSubtype_type]; kernel_rfl)
theorem entry_ba_len : entryFor table "bytearray.__len__" = some Builtin.«bytearray.__len__» := by first | exact entryFor_of_fast (by kernel_rfl) | exact entryFor_of_tree (by kernel_rfl)
theorem args_ba_len (a : Value) : argsOk "bytearray.__len__" ⟨[a], []⟩ := by unfold argsOk; kernel_rfl
theorem slot_ba_get : Slot "bytearray" "__getitem__" "bytearray.__getitem__" :=
  .of (owner := "bytearray") (n := "__getitem__") (by rw [typeLookup_type, builtinLookup_eq_fast]; kernel_rfl) (by decide +kernel) (by decide +kernel) (by decide +kernel)
    (by first | exact .inl (by decide +kernel) | exact .inr (by decide +kernel)) (by rw [isSubtype_type]; kernel_rfl)
theorem entry_ba_get : entryFor table "bytearray.__getitem__" = some Builtin.«bytearray.__getitem__» := by first | exact entryFor_of_fast (by kernel_rfl) | exact entryFor_of_tree (by kernel_rfl)
theorem args_ba_get (a i : Value) : argsOk "bytearray.__getitem__" ⟨[a, i], []⟩ := by unfold argsOk; kernel_rfl
theorem ba_no_bytes : typeLookup (.type "bytearray") "__bytes__" = pure none := by rw [typeLookup_type, builtinLookup_eq_fast]; kernel_rfl
theorem ba_no_index : typeLookup (.type "bytearray") "__index__" = pure none := by rw [typeLookup_type, builtinLookup_eq_fast]; kernel_rfl
theorem ba_buffer : typeLookup (.type "bytearray") "__buffer__" = pure (some (.builtin "bytearray.__buffer__")) := by rw [typeLookup_type, builtinLookup_eq_fast]; kernel_rfl
theorem ba_release : typeLookup (.type "bytearray") "__release_buffer__" = pure (some (.builtin "bytearray.__release_buffer__")) := by rw [typeLookup_type, builtinLookup_eq_fast]; kernel_rfl
theorem ba_sub : isSubtype (.type "bytearray") (.type "bytearray") = pure true := by rw [isSubtype_type]; kernel_rfl
theorem ba_ends : ("bytearray.__buffer__" : String).endsWith ("." ++ "__buffer__") = true := by decide +kernel
theorem ba_drop : ("bytearray.__buffer__" : String).dropRight (("__buffer__" : String).length + 1) = "bytearray" := by decide +kernel
theorem ba_ends' : ("bytearray.__release_buffer__" : String).endsWith ("." ++ "__release_buffer__") = true := by decide +kernel
theorem ba_drop' : ("bytearray.__release_buffer__" : String).dropRight (("__release_buffer__" : String).length + 1) = "bytearray" := by decide +kernel
theorem typeIs_ba {s : Shared} {a : Addr} {b : Array UInt8} (h : s.heap.get? a = some (baObj b)) : s.TypeIs (.ref a) "bytearray" := ⟨_, h, rfl⟩

section
variable {prog : Program} {w : World} {A : Around} {E : Value → Shared → Prop} {s : Shared}
theorem call_len_ba {l : Addr} {b : Array UInt8} {Q : Value → Shared → Prop} (hl : s.heap.get? l = some (baObj b)) (hfit : (b.size : Int) < 2 ^ 63)
    (h : Q (.int b.size (s.toks + 1)) { s with toks := s.toks + 1 + 1 }) : wpAny (model prog w) A (call (.builtin "len") [.ref l]) Q E s := by
  refine call_function_entry kind_len plain_len entry_len (args_len1 _) ?_
  unfold Builtin.«len»
  refine wpAny_bind (m := oneArg "len" _) (wpAny_pure ?_)
  refine wpAny_bind (m := callSpecial? (.ref l) (Str.ofString "__len__")) (wpAny_callSpecial?_slot (name := Str.ofString "__len__") (typeIs_ba hl) slot_ba_len
    (wpAny_call_entry slot_ba_len (typeIs_ba hl) entry_ba_len ?_ (args_ba_len _)))
  show wpAny _ _ (do retInt (← Bytes.payload (.ref l)).size) _ _ s
  refine wpAny_bind ?_
  unfold Bytes.payload Bytes.payload?
  refine wpAny_bind (wpAny_bind (wpAny_load hl ?_))
  refine wpAny_pure (wpAny_pure ?_)
  refine wpAny_bind (wpAny_mkInt (wpAny_pure ⟨_, rfl, ?_⟩))
  refine wpAny_bind (wpAny_holding (wpAny_pure ?_))
  refine wpAny_bind (wpAny_letGo ?_)
  show wpAny _ _ (if ((b.size : Nat) : Int) < 0 then _ else _) _ _ _
  rw [if_neg (by omega)]
  show wpAny _ _ (if ((b.size : Nat) : Int) ≥ 2 ^ 63 then _ else _) _ _ _
  rw [if_neg (by omega)]
  exact wpAny_bind (wpAny_mkInt (wpAny_pure ⟨_, rfl, h⟩))
end

theorem meets_ba_slice (b : Array UInt8) (l : Addr) (a : Addr) {x u : Value} {lo hi : Option Int} (hl : IsPart x lo) (hu : IsPart u hi) :
    Meets («bytearray.__getitem__» ⟨[.ref l, .ref a], []⟩) (fun _ R s => s.heap.get? l = some (baObj b) ∧ s.heap.IsSliceOf a x u .none ∧ (KBy.picked b lo hi).size ≤ sizeLine ∧ R (.ok (.ret (.ref s.heap.objs.size))) { s with heap := s.heap.push (baObj (KBy.picked b lo hi)) }) := by
  refine .of_wp fun prog w A R s hS => ?_
  obtain ⟨hb, ⟨o, ho, hc, hd⟩, hsz, h⟩ := hS
  have hT : s.TypeIs (.ref a) "slice" := ⟨o, ho, hc⟩
  show wpAny _ _ (Bytes.subscript? (.ref a) >>= fun r => _) _ _ s
  refine wpAny_bind ?_
  unfold Bytes.subscript?
  refine wpAny_bind (wpAny_specialOf hT slice_no_index (wpAny_pure ?_))
  refine wpAny_bind (wpAny_typeOf hT ?_)
  refine wpAny_ite (KBy.ite_no (by decide) ?_)
  show wpAny _ _ (Bytes.sliceParts (.ref a) >>= fun r => _) _ _ s
  refine wpAny_bind ?_
  unfold Bytes.sliceParts
  refine wpAny_bind (wpAny_field (x := .none) ho hd rfl ?_)
  kby_none
  refine wpAny_ite (KBy.ite_no (show ¬ ((Value.none == rawInt 0) = true) from Bool.false_ne_true) ?_)
  refine wpAny_bind (wpAny_field (x := x) ho hd rfl ?_)
  have go : wpAny (model prog w) A.in1 (sliceIndices (rawPart lo) (rawPart hi) (rawPart none) b.size) (fun r s' => r = sliceBounds lo hi none b.size ∧ s' = s) (fun _ _ => False) s :=
    wpAny_of_eq (sliceIndices_raw lo hi none b.size (fun e => nomatch e)) ⟨rfl, rfl⟩
  cases hl <;> cases hu <;> (first
    | (kby_none; (refine wpAny_bind (wpAny_field (x := .none) ho hd rfl ?_)); kby_none)
    | (kby_none; (refine wpAny_bind (wpAny_field (x := .int _ _) ho hd rfl ?_)); kby_int)
    | (kby_int; (refine wpAny_bind (wpAny_field (x := .none) ho hd rfl ?_)); kby_none)
    | (kby_int; (refine wpAny_bind (wpAny_field (x := .int _ _) ho hd rfl ?_)); kby_int)) <;> refine wpAny_pure ?_
  all_goals
    show wpAny _ _ (Bytes.payload (.ref l) >>= fun r => _) _ _ s
    refine wpAny_bind ?_
    unfold Bytes.payload Bytes.payload?
    refine wpAny_bind (wpAny_bind (wpAny_load hb ?_))
    refine wpAny_pure (wpAny_pure ?_)
    refine wpAny_bind (wpAny_mono go (fun r s' hr => ?_) fun _ _ e => e.elim)
    obtain ⟨hr1, hr2⟩ := hr
    subst hr1 hr2
    refine wpAny_bind ?_
    unfold Bytes.newBytearray
    exact wpAny_newObj_type (wpAny_pure ⟨_, rfl, h⟩) hsz

section
variable {prog : Program} {w : World} {A : Around} {E : Value → Shared → Prop} {s : Shared} {value slice : PySem.Expr} {b : Array UInt8} {l : Addr} {h₀ : Heap} {L : Addr} {m : PySem.Str → Option Value} {news : List (Addr × Obj)} {x u : Value} {lo hi : Option Int} {Q : Value → Shared → Prop}
theorem baSlice_K (hF : Fr h₀ L s.heap m) (hN : News h₀ L s.heap news) (hm : (l, baObj b) ∈ news) (hl : IsPart x lo) (hu : IsPart u hi) (hz : b.size ≤ 16777216)
    (h : ∀ d h', Fr h₀ L h' m → News h₀ L h' ((d, baObj (KBy.picked b lo hi)) :: news) → Q (.ref d) { s with heap := h' })
    (hs : ∀ a, subscripted slice false (.ref l) (.ref a) = operate [.ref a, .ref l] (getItem (.ref l) (.ref a)) := by intro _; with_unfolding_all rfl)
    (ht : ∀ r, letTemporaryGo value (.ref l) r = pure () := by intro _; with_unfolding_all rfl) :
    wpAny (model prog w) A (subscriptTail value slice (.ref l) (.ref s.heap.objs.size)) Q E { s with heap := s.heap.push { cls := .type "slice", data := .fields #[x, u, .none] } } := by
  have e0 := (hN _ hm).1
  have e1 : (s.heap.push { cls := .type "slice", data := .fields #[x, u, .none] }).get? l = some (baObj b) := Heap.get?_push_of_some _ e0
  have hF1 := hF.push { cls := .type "slice", data := .fields #[x, u, .none] }
  have hN1 : News h₀ L (s.heap.push { cls := .type "slice", data := .fields #[x, u, .none] }) news := News.pushKeep hN _
  refine tail_of_ItemOn ⟨"bytearray", _, slot_ba_get.lookup, typeIs_ba e1, getItem_meets (typeIs_ba e1) (by decide) slot_ba_get entry_ba_get (args_ba_get _ _) (meets_ba_slice b l _ hl hu)
    ⟨e1, Heap.IsSliceOf.new _ _ _ _, Nat.le_trans (KBc.size_picked_le b lo hi) (by rw [sizeLine_eq]; exact hz), h _ _ (hF1.push _) (News.push hF1 hN1 _)⟩⟩ (hs _) ht
end

section
variable {prog : Program} {w : World} {A : Around} {E : Value → Shared → Prop} {s : Shared}
theorem ba_slotIsOwn {l : Addr} {b : Array UInt8} {Q : Bool → Shared → Prop} (hl : s.heap.get? l = some (baObj b)) (h : Q true s) : wpAny (model prog w) A (Bytes.slotIsOwn (.ref l) "__buffer__") Q E s := by
  unfold Bytes.slotIsOwn
  refine wpAny_bind (wpAny_specialOf (typeIs_ba hl) ba_buffer ?_)
  try dsimp only
  rw [ba_ends, ba_drop]
  exact bm_if_false rfl (wpAny_isInstance (typeIs_ba hl) ba_sub h)
theorem ba_ownRelease {l : Addr} {b : Array UInt8} {Q : Bool → Shared → Prop} (hl : s.heap.get? l = some (baObj b)) (h : Q false s) : wpAny (model prog w) A (Bytes.ownRelease (.ref l)) Q E s := by
  unfold Bytes.ownRelease Bytes.slotIsOwn
  refine wpAny_bind (wpAny_bind (wpAny_specialOf (typeIs_ba hl) ba_release ?_))
  try dsimp only
  rw [ba_ends', ba_drop']
  exact bm_if_false rfl (wpAny_isInstance (typeIs_ba hl) ba_sub (wpAny_pure h))
theorem ba_buffer? {id : String} {full : Bool} {l : Addr} {b : Array UInt8} {Q : Option (Array UInt8) → Shared → Prop} (hl : s.heap.get? l = some (baObj b)) (h : Q (some b) s) : wpAny (model prog w) A (Bytes.buffer? id (.ref l) full) Q E s := by
  unfold Bytes.buffer?
  refine wpAny_bind (wpAny_specialOf (typeIs_ba hl) ba_buffer ?_)
  try dsimp only
  refine wpAny_bind (ba_slotIsOwn hl ?_)
  refine bm_if_false rfl ?_
  refine wpAny_bind (wpAny_specialOf (typeIs_ba hl) ba_buffer ?_)
  try dsimp only
  refine wpAny_bind (ba_ownRelease hl ?_)
  refine bm_if_false rfl ?_
  unfold Bytes.payload Bytes.payload?
  refine wpAny_bind (wpAny_bind (wpAny_bind (wpAny_load hl ?_)))
  exact wpAny_pure (wpAny_pure (wpAny_pure h))

theorem bytes_new_ba {l : Addr} {b : Array UInt8} {Q : Value → Shared → Prop} (hl : s.heap.get? l = some (baObj b)) (hz : b.size ≤ sizeLine) (hQ : ∀ t k, Q (.bytes b t) { s with toks := k }) :
    codeAny (model prog w) A (.call (.builtin "bytes.__new__") ⟨[.type "bytes", .ref l], []⟩) (wants Q E) s := by
  refine codeAny_of_tree ?_
  show wpAny _ A.in1 (do checkBuiltinCall "bytes.__new__" ⟨[.type "bytes", .ref l], []⟩; again (.builtin "bytes.__new__" ⟨[.type "bytes", .ref l], []⟩)) _ _ s
  refine wpAny_bind (wpAny_of_eq (F.bm_newCall _) (wpAny_pure ⟨plainId_quiet F.bm_plain _, codeAny_builtin F.bm_entry ?_⟩))
  rw [Around.under_plainId F.bm_plain _]
  have hT := typeIs_ba hl
  unfold Builtin.«bytes.__new__»
  refine wpAny_bind (wpAny_of_eq (a := true) rfl ?_)
  refine bm_if_false rfl ?_
  refine wpAny_bind (wpAny_of_eq F.bm_sub ?_)
  refine bm_if_false rfl ?_
  refine wpAny_bind (wpAny_of_eq (F.bm_bind _) ?_)
  refine wpAny_bind (wpAny_of_eq (a := ()) rfl ?_)
  refine wpAny_bind (wpAny_of_eq (a := ()) rfl ?_)
  refine bm_if_false rfl ?_
  refine wpAny_bind (wpAny_specialOf hT ba_no_bytes ?_)
  refine wpAny_bind (wpAny_bind ?_)
  show wpAny _ _ (load l >>= _) _ _ _
  refine wpAny_bind (wpAny_load hl ?_)
  refine wpAny_pure (wpAny_pure ?_)
  refine bm_if_false rfl ?_
  refine wpAny_bind (wpAny_specialOf hT ba_no_index ?_)
  refine bm_if_true rfl ?_
  first
    | show wpAny _ _ (Builtin.Bytes.buffer? "bytes.__new__" (.ref l) true >>= _) _ _ _
    | (refine wpAny_bind ?_; show wpAny _ _ (Builtin.Bytes.buffer? "bytes.__new__" (.ref l) true >>= _) _ _ _)
  refine wpAny_bind (ba_buffer? hl ?_)
  try dsimp only
  refine wpAny_bind (wpAny_rule ?_)
  refine wpAny_bind (wpAny_mkBytes ?_ hz)
  show wpAny _ _ (if (Value.type "bytes" == Value.type "bytes") = true then _ else _) _ _ _
  refine bm_if_true (by decide) ?_
  first
    | exact wpAny_pure (hQ _ _)
    | exact wpAny_bind (wpAny_pure (wpAny_pure (hQ _ _)))

theorem call_bytes_ba {l : Addr} {b : Array UInt8} {Q : Value → Shared → Prop} (hl : s.heap.get? l = some (baObj b)) (hz : b.size ≤ sizeLine)
    (hQ : ∀ t k, Q (.bytes b t) { s with toks := k }) : wpAny (model prog w) A (call (.type "bytes") [.ref l]) Q E s := by
  refine callType_codes (Q₁ := fun obj s₁ => s₁.TypeIs obj "bytes" ∧ Q obj s₁) F.bm_called (F.bm_typeCall _) F.entry_object_init
    (bytes_new_ba hl hz fun t k => ⟨PySem.W.typeIs_bytes _ _ _, hQ t k⟩) fun obj s₁ h₁ => ?_
  exact ⟨h₁.1, F.args_object_init_2 obj _, object_init_meets F.bm_called.init.lookup F.bm_called.made (by decide) prog w A.in1 _ s₁ ⟨h₁.1, rfl, h₁.2⟩⟩
end
section
variable {prog : Program} {w : World} {A : Around} {E : Value → Shared → Prop} {s : Shared}
theorem ord_byte {y : UInt8} {t : Tok} {Q : Value → Shared → Prop} (h : Q (.int (y.toNat : Int) s.toks) { s with toks := s.toks + 1 }) : wpAny (model prog w) A (call (.builtin "ord") [.bytes #[y] t]) Q E s := by
  refine call_function_entry F.kind_ord F.plain_ord F.entry_ord (F.args_ord1 _) ?_
  unfold Builtin.«ord»
  refine wpAny_bind (m := oneArg "ord" _) (wpAny_pure ?_)
  refine wpAny_bind (wpAny_of_eq (a := none) rfl ?_)
  refine wpAny_bind (wpAny_bind (wpAny_of_eq (a := some #[y]) rfl (wpAny_pure ?_)))
  show wpAny _ _ (retInt (y.toNat : Int)) _ _ s
  exact wpAny_bind (wpAny_mkInt (wpAny_pure ⟨_, rfl, h⟩))
theorem truthy_full {b : Array UInt8} {t : Tok} {Q : Bool → Shared → Prop} (h1 : 0 < b.size) (hfit : b.size ≤ 1099511627776) (h : Q true { s with toks := s.toks + 1 + 1 }) : wpAny (model prog w) A (truthy (.bytes b t)) Q E s := by
  refine truthy_bytes hfit ?_
  have e : ((b.size : Int) != 0) = true := by simp; intro e; subst e; simp at h1
  rw [e]; exact h
theorem truthy_void {t : Tok} {Q : Bool → Shared → Prop} (h : Q false { s with toks := s.toks + 1 + 1 }) : wpAny (model prog w) A (truthy (.bytes #[] t)) Q E s :=
  truthy_bytes (by simp) h
end

theorem picked_ext (b : Array UInt8) (lo hi : Option Nat) : KBy.picked b (lo.map Int.ofNat) (hi.map Int.ofNat) = b.extract (lo.getD 0) (hi.getD b.size) := by
  rw [KBc.picked_eq]
  apply Array.ext'
  rw [Array.toList_extract]
  have h1 : (lo.map Int.ofNat).elim 0 (clipAt b.size) = min (lo.getD 0) b.size := by
    cases lo with
    | none => simp
    | some i => exact clipAt_nat b.size i
  have h2 : (hi.map Int.ofNat).elim b.size (clipAt b.size) = min (hi.getD b.size) b.size := by
    cases hi with
    | none => simp
    | some i => exact clipAt_nat b.size i
  rw [h1, h2, List.extract_eq_drop_take]
  generalize lo.getD 0 = i
  generalize hi.getD b.size = j
  have hl : b.toList.length = b.size := Array.length_toList
  by_cases hi' : i ≤ b.size
  · rw [Nat.min_eq_left hi']
    by_cases hj : j ≤ b.size
    · rw [Nat.min_eq_left hj]
    · rw [Nat.min_eq_right (by omega)]
      rw [List.take_of_length_le (by simp), List.take_of_length_le (by simp; omega)]
  · have e1 : min i b.size = b.size := by omega
    rw [e1, List.drop_of_length_le (by omega), List.drop_of_length_le (by omega)]
    simp
section
variable {prog : Program} {w : World} {A : Around} {E : Value → Shared → Prop} {s : Shared} {value slice : PySem.Expr} {b : Array UInt8} {t : Tok} {h₀ : Heap} {L : Addr} {m : PySem.Str → Option Value} {news : List (Addr × Obj)} {l u : Value} {lo hi : Option Nat} {Q : Value → Shared → Prop}
theorem bslice (hF : Fr h₀ L s.heap m) (hN : News h₀ L s.heap news) (hl : IsPart l (lo.map Int.ofNat)) (hu : IsPart u (hi.map Int.ofNat)) (hz : b.size ≤ 16777216)
    (h : ∀ h' t' k, Fr h₀ L h' m → News h₀ L h' news → Q (.bytes (b.extract (lo.getD 0) (hi.getD b.size)) t') { s with heap := h', toks := k })
    (hs : subscripted slice false (.bytes b t) (.ref s.heap.objs.size) = operate [.ref s.heap.objs.size, .bytes b t] (getItem (.bytes b t) (.ref s.heap.objs.size)) := by with_unfolding_all rfl)
    (ht : ∀ r, letTemporaryGo value (.bytes b t) r = pure () := by intro _; with_unfolding_all rfl) :
    wpAny (model prog w) A (subscriptTail value slice (.bytes b t) (.ref s.heap.objs.size)) Q E { s with heap := s.heap.push { cls := .type "slice", data := .fields #[l, u, .none] } } :=
  KBc.slice_K hF hN rfl hl hu (by rw [KBw.ints_length]; exact hz) (fun h' t' k F' N' _ => by rw [picked_ext]; exact h h' t' k F' N') hs ht
theorem bslice_to {j : Nat} {uj : Tok} (hF : Fr h₀ L s.heap m) (hN : News h₀ L s.heap news) (hz : b.size ≤ 16777216)
    (h : ∀ h' t' k, Fr h₀ L h' m → News h₀ L h' news → Q (.bytes (b.extract 0 j) t') { s with heap := h', toks := k })
    (hs : subscripted slice false (.bytes b t) (.ref s.heap.objs.size) = operate [.ref s.heap.objs.size, .bytes b t] (getItem (.bytes b t) (.ref s.heap.objs.size)) := by with_unfolding_all rfl)
    (ht : ∀ r, letTemporaryGo value (.bytes b t) r = pure () := by intro _; with_unfolding_all rfl) :
    wpAny (model prog w) A (subscriptTail value slice (.bytes b t) (.ref s.heap.objs.size)) Q E { s with heap := s.heap.push { cls := .type "slice", data := .fields #[.none, .int (Int.ofNat j) uj, .none] } } :=
  bslice (lo := none) (hi := some j) hF hN .none (.int _ _) hz h hs ht
theorem bslice_two {i j : Nat} {ui uj : Tok} (hF : Fr h₀ L s.heap m) (hN : News h₀ L s.heap news) (hz : b.size ≤ 16777216)
    (h : ∀ h' t' k, Fr h₀ L h' m → News h₀ L h' news → Q (.bytes (b.extract i j) t') { s with heap := h', toks := k })
    (hs : subscripted slice false (.bytes b t) (.ref s.heap.objs.size) = operate [.ref s.heap.objs.size, .bytes b t] (getItem (.bytes b t) (.ref s.heap.objs.size)) := by with_unfolding_all rfl)
    (ht : ∀ r, letTemporaryGo value (.bytes b t) r = pure () := by intro _; with_unfolding_all rfl) :
    wpAny (model prog w) A (subscriptTail value slice (.bytes b t) (.ref s.heap.objs.size)) Q E { s with heap := s.heap.push { cls := .type "slice", data := .fields #[.int (Int.ofNat i) ui, .int (Int.ofNat j) uj, .none] } } :=
  bslice (lo := some i) (hi := some j) hF hN (.int _ _) (.int _ _) hz h hs ht
end
end Mine
end
namespace Mine
theorem lull5 : True ∧ True := by
  w_top off
  k_with_none
  first
    | (walk1; fail)
    | exact ⟨trivial, trivial⟩
end Mine
section
open PySem PySem.W PySem.Spec PySem.Calls PyProof.Rows
namespace Mine
/-! a while, one turn at a time: the walk stops at MStop -/
def MStop (P : Prop) : Prop := P
def MPost (prog : Program) (w : World) (A : Around) (E : Value → Shared → Prop) (env : Env) (test : PySem.Expr) (body orelse : List Stmt) (Q : Flow → Shared → Prop) (f : Flow) (s : Shared) : Prop :=
  match f with
  | .next => MStop (WhlRest prog w A E env test body orelse Q 0 s)
  | .cont => MStop (WhlRest prog w A E env test body orelse Q 0 s)
  | .brk => Q .next s
  | .ret v => Q (.ret v) s
section
variable {prog : Program} {w : World} {A : Around} {E : Value → Shared → Prop} {s : Shared} {env : Env} {test : PySem.Expr} {body orelse : List Stmt} {Q : Flow → Shared → Prop}
theorem m_turn (hE : PassesOwn (model prog w) A env E)
    (h : wpAny (model prog w) A (isTrue test env (eval test env)) (fun b s₂ => WhlIf b (wpAny (model prog w) A (execs body env) (MPost prog w A E env test body orelse Q) E s₂) (wpAny (model prog w) A (execs orelse env) Q E s₂)) E s) :
    WhlRest prog w A E env test body orelse Q 0 s := by
  refine whl_turn (k := 0) hE (wpAny_mono h (fun b s₂ h₂ => ?_) fun _ _ x => x)
  cases b with
  | false => exact WhlIf.no rfl (by unfold WhlIf at h₂; rw [if_neg Bool.false_ne_true] at h₂; exact h₂)
  | true =>
    refine WhlIf.yes rfl ?_
    unfold WhlIf at h₂
    rw [if_pos rfl] at h₂
    refine wpAny_mono h₂ (fun f s₃ h₃ => ?_) fun _ _ x => x
    cases f <;> exact h₃
theorem m_start {pos : Pos} (h : WhlRest prog w A E env test body orelse Q 0 s) : wpAny (model prog w) A (exec (.While test body orelse pos) env) Q E s := whl_start 0 h
theorem m_go (h : WhlRest prog w A E env test body orelse Q 0 s) : MStop (WhlRest prog w A E env test body orelse Q 0 s) := h
end
section
variable {prog : Program} {w : World} {A : Around} {E : Value → Shared → Prop} {s : Shared} {a b : Int} {t u : Tok} {Q : Value → Shared → Prop}
theorem eq_no (h : a ≠ b) (q : Q (.bool false) s) : wpAny (model prog w) A (compareOp .Eq (.int a t) (.int b u)) Q E s := PyProof.Rows.eq_int (by rw [beq_eq_false_iff_ne.mpr h]; exact q)
theorem eq_yes (h : a = b) (q : Q (.bool true) s) : wpAny (model prog w) A (compareOp .Eq (.int a t) (.int b u)) Q E s := PyProof.Rows.eq_int (by rw [beq_iff_eq.mpr h]; exact q)
theorem lt_no (h : ¬ a < b) (q : Q (.bool false) s) : wpAny (model prog w) A (compareOp .Lt (.int a t) (.int b u)) Q E s := PyProof.Rows.lt_int (by rw [decide_eq_false h]; exact q)
theorem lt_yes (h : a < b) (q : Q (.bool true) s) : wpAny (model prog w) A (compareOp .Lt (.int a t) (.int b u)) Q E s := PyProof.Rows.lt_int (by rw [decide_eq_true h]; exact q)
end
theorem and_le (c : Nat) (m : Int) : 0 ≤ Builtin.bitAnd (c : Int) m ∧ Builtin.bitAnd (c : Int) m ≤ c := by
  by_cases hm : 0 ≤ m
  · rw [bitAnd_pp (by omega) hm]
    have := Nat.and_le_left (n := (c : Int).toNat) (m := m.toNat)
    omega
  · rw [bitAnd_pn (by omega) hm]
    have := Nat.and_le_left (n := (c : Int).toNat) (m := (Builtin.bitNot m).toNat)
    omega
theorem and_mask (c k : Nat) : Builtin.bitAnd (c : Int) (1 * 2 ^ k - 1) = ((c % 2 ^ k : Nat) : Int) := by
  have h1 : (1 : Int) ≤ 2 ^ k := by
    have := Nat.one_le_two_pow (n := k)
    exact_mod_cast this
  have e : (1 * (2 : Int) ^ k - 1) = ((2 ^ k - 1 : Nat) : Int) := by
    have := Nat.one_le_two_pow (n := k)
    push_cast [Int.ofNat_sub this]
    omega
  rw [e, bitAnd_pp (by omega) (by omega)]
  simp [Nat.and_two_pow_sub_one_eq_mod]
theorem or_zero (x : Int) (k : Nat) : Builtin.bitOr (0 * 2 ^ k) x = x := by
  rw [bitOr_and, Int.zero_mul, bitAnd_comm, bitAnd_zero]; omega
theorem or_low (a c k : Nat) : Builtin.bitOr ((a : Int) * 2 ^ k) ((c % 2 ^ k : Nat) : Int) = ((a * 2 ^ k + c % 2 ^ k : Nat) : Int) := by
  have e : (a : Int) * 2 ^ k = ((a * 2 ^ k : Nat) : Int) := by push_cast; rfl
  rw [bitOr_and, e, bitAnd_pp (by omega) (by omega)]
  have hlt : c % 2 ^ k < 2 ^ k := Nat.mod_lt _ (Nat.two_pow_pos k)
  have hz : (a * 2 ^ k) &&& (c % 2 ^ k) = 0 := by
    apply Nat.eq_of_testBit_eq
    intro i
    rw [Nat.testBit_and, ← Nat.shiftLeft_eq, Nat.testBit_shiftLeft, Nat.testBit_mod_two_pow]
    by_cases h : i < k
    · have : ¬ i ≥ k := by omega
      simp [this]
    · simp [h]
  rw [Int.toNat_natCast, Int.toNat_natCast, hz]
  push_cast
  omega
end Mine
end
namespace Mine
theorem lull6 : True ∧ True := by
  w_top off
  k_with_none
  first
    | (walk1; fail)
    | exact ⟨trivial, trivial⟩
end Mine
section
open PySem PySem.W PySem.Spec PySem.Calls PyProof.Rows
namespace Mine
abbrev PG : Program := PySem.Challenge.rw_bq0011_01.row.toRowW.prog
abbrev ent (w : World) (x : String) (t : Tok) (v : Value) : DictEntry := ⟨PyData.keyHash w.params (Str.ofString x), .str (Str.ofString x) t, v⟩

theorem News.tail9 {h₀ h : Heap} {L : Addr} {q : Addr × Obj} {l : List (Addr × Obj)} (N : News h₀ L h (q :: l)) : News h₀ L h l := fun p hp => N p (List.mem_cons_of_mem _ hp)
theorem picked_one {b : Array UInt8} {i : Nat} {x : UInt8} {j : Int} (hx : b[i]? = some x) (hj : j = ((i + 1 : Nat) : Int)) : KBy.picked b (some (i : Int)) (some j) = #[x] := by
  subst hj
  have hlt : i < b.size := (Array.getElem?_eq_some_iff.mp hx).1
  rw [KBc.picked_eq]
  show ((b.toList.drop (clipAt b.size (i : Int))).take (clipAt b.size ((i + 1 : Nat) : Int) - clipAt b.size (i : Int))).toArray = _
  rw [clipAt_nat, clipAt_nat]
  have e1 : min i b.size = i := by omega
  have e2 : min (i + 1) b.size - i = 1 := by omega
  rw [e1, e2]
  have hl : b.toList[i]? = some x := by simpa using hx
  have : b.toList.drop i = x :: b.toList.drop (i + 1) := by
    obtain ⟨h1, h2⟩ := List.getElem?_eq_some_iff.mp hl
    rw [← h2]; exact List.drop_eq_getElem_cons h1
  rw [this]
  rfl

local macro_rules | `(tactic| k_room) => `(tactic| (simp only [depth_mark, depth_under_make, depth_under_kw, depth_in1, depth_deeper, depth_caller, ktrTop, recursionLimit]; omega))
local macro_rules | `(tactic| k_units) => `(tactic| (simp only [units_in1, units_deeper, Around.mark_units, units_caller, ktrTop, cLine_is]; omega))
local macro_rules | `(tactic| ktr_enter) => `(tactic| (refine' code_def ?k1 ?k2 ?k3 ?k4 ?k5 ?kA ?kF ?kK ?k6 ?k7 ?k8 ?k9 ?kB ?_ ?c2 ?c3 ?c4 ?c5; (case kA => exact rfl); (case kF => exact rfl); (case kK => assumption); (case k1 => k_asm); (case k2 => k_asm); (case k3 => k_asm); (case k4 => k_asm); (case k5 => k_asm); (case k6 => k_is); (case k7 => k_is); (case k8 => k_room); (case k9 => first | exact BindsTo.of_eq rfl | exact binds_K (by k_in) rfl (by k_is) rfl rfl rfl); (case c5 => decide); (case kB => exact locs rfl); (case c2 => exact rfl); (case c3 => exact rfl); (case c4 => exact rfl); k_whole; intro g' L' h' FG' F' N' B' X' T'; (try dsimp only); (try k_fold)))
local macro_rules | `(tactic| walk_at "call builtin:len") => `(tactic| (k_here; (with_reducible show wpAny _ _ (call (Value.builtin "len") [Value.ref _]) _ _ _); (with_unfolding_all refine' call_len_ba ?k1 ?k2 ?_; (case k1 => exact News.get (by k_asm) (by k_mem)); (case k2 => omega)); k_whole))
local macro_rules | `(tactic| walk_at "subscriptTail") => `(tactic| (k_here; (with_reducible show wpAny _ _ (subscriptTail _ (Expr.Slice _ _ none _) (Value.ref _) (Value.ref _)) _ _ _); (with_reducible rename Fr _ _ _ _ => F'); (with_reducible rename News _ _ _ _ => N'); (refine baSlice_K (s := ⟨_, _, _, _, _⟩) F' N' (by k_mem) (by constructor) (by constructor) (by omega) ?_); intro d' h' F' N'))
local macro_rules | `(tactic| walk_at "call type:bytes") => `(tactic| (k_here; (with_reducible show wpAny _ _ (call (Value.type "bytes") [Value.ref _]) _ _ _); (with_unfolding_all refine' call_bytes_ba ?k1 ?k2 ?_; (case k1 => exact News.get (by k_asm) (by k_mem)); (case k2 => refine Nat.le_trans (KBc.size_picked_le _ _ _) ?_; rw [sizeLine_eq]; omega)); k_whole; intro t' k'))

/-- a BytesIO at place i: the object, its dict, its buffer -/
abbrev bioL (w : World) (bx bdx ba : Nat) (t1 t2 u1 : Tok) (b : Array UInt8) (i : Nat) : List (Addr × Obj) :=
  [(bx, instObj 418 bdx), (bdx, dictOf [ent w "_BytesIO__buf" t1 (.ref ba), ent w "_BytesIO__pos" t2 (.int i u1)] 2), (ba, baObj b)]

set_option maxRecDepth 100000 in
set_option maxHeartbeats 8000000 in
theorem read1 : ∀ (w : World) (p : Program) (loose : List Str) (mean : ExcName → Option Value) (mg mb : Str → Option Value) (dp un : Nat) (gd : Option (List Code)) (cn : Str) (cs : Scope) (a : Addr) (ccd : Value) (cl : List (Str × Addr)) (outer : List Env) (A₀ : Around) (base h₀ : Heap) (L : Addr) (m : Str → Option Value) (s : Shared)
    (Q E : Value → Shared → Prop) (bx bdx ba : Nat) (i : Nat) (t1 t2 u u1 : Tok) (b : Array UInt8) (more : List (Addr × Obj))
   (B : Below A₀ base outer h₀) (F : Fr h₀ L s.heap m) (X : (Mine.hd.heap_39 w.params).In h₀)
   (N : News h₀ L s.heap (bioL w bx bdx ba t1 t2 u1 b i ++ more)) (hoff : OwnOff more [bdx])
   (T : Top p loose mean mg mb h₀) (hk : cs.kind = .function) (hd : dp < 650) (hu : un < 1000) (hx1 : bdx < bx) (hx2 : bx < ba) (hb : b.size < 2000)
   (h1 : b[i]? = none → ∀ h' t tk, Fr h₀ L h' m → News h₀ L h' (bioL w bx bdx ba t1 t2 u1 b i ++ more) → Q (.bytes #[] t) { s with heap := h', toks := tk })
   (h2 : ∀ x, b[i]? = some x → ∀ h' t u2 tk, Fr h₀ L h' m → News h₀ L h' (bioL w bx bdx ba t1 t2 u2 b (i + 1) ++ more) → Q (.bytes #[x] t) { s with heap := h', toks := tk }),
   wpAny (model PG w) (ktrTop dp un gd cn cs L a ccd cl outer) (call (.ref 342) [.ref bx, .int 1 u]) Q E s := by
  delta PG
  k_fill
  intro w p loose mean mg mb dp un gd cn cs a ccd cl outer A₀ base h₀ L m s Q E bx bdx ba i t1 t2 u u1 b more B F X N hoff T hk hd hu hx1 hx2 hb h1 h2
  simp only [bioL, List.cons_append, List.nil_append] at N h1 h2
  refine wpAny_call ?_
  k_dflt ktr_enter
  k_steps
  · exact h1 (by simp; omega) _ _ _ (by assumption) (by assumption)
  · have hlt : i < b.size := by omega
    rw [picked_one (x := b[i]) (by simp [hlt]) (by omega)]
    rename News _ _ _ _ => N9
    exact h2 _ (by simp [hlt]) _ _ _ _ (by assumption) (News.tail9 N9)
  · have hlt : i < b.size := by omega
    rw [picked_one (x := b[i]) (by simp [hlt]) (by omega)]
    rename News _ _ _ _ => N9
    have e : ((b.size : Nat) : Int) = ((i + 1 : Nat) : Int) := by omega
    rw [e] at N9
    exact h2 _ (by simp [hlt]) _ _ _ _ (by assumption) (News.tail9 N9)

theorem read1_go {w : World} {p : Program} {loose : List Str} {mean : ExcName → Option Value} {mg mb : Str → Option Value} {dp un : Nat} {gd : Option (List Code)} {cn : Str} {cs : Scope} {a : Addr} {ccd : Value} {cl : List (Str × Addr)} {outer : List Env} {A₀ : Around} {base h₀ : Heap} {L : Addr} {m : Str → Option Value} {s : Shared}
    {Q E : Value → Shared → Prop} {bx bdx ba : Nat} {i : Nat} {t1 t2 u u1 : Tok} {b : Array UInt8} {news : List (Addr × Obj)} {g : Obj → List (Addr × Obj)}
   (B : Below A₀ base outer h₀) (F : Fr h₀ L s.heap m) (X : (Mine.hd.heap_39 w.params).In h₀) (N : News h₀ L s.heap news) (T : Top p loose mean mg mb h₀) (hk : cs.kind = .function) (hd : dp < 650) (hu : un < 1000)
   (m1 : (bx, instObj 418 bdx) ∈ news) (m2 : (ba, baObj b) ∈ news) (U : UpdF bdx (dictOf [ent w "_BytesIO__buf" t1 (.ref ba), ent w "_BytesIO__pos" t2 (.int i u1)] 2) news g)
   (hx1 : bdx < bx) (hx2 : bx < ba) (hb : b.size < 2000)
   (h1 : b[i]? = none → ∀ h' t tk, Fr h₀ L h' m → News h₀ L h' news → Q (.bytes #[] t) { s with heap := h', toks := tk })
   (h2 : ∀ x, b[i]? = some x → ∀ h' t u2 tk, Fr h₀ L h' m → News h₀ L h' (g (dictOf [ent w "_BytesIO__buf" t1 (.ref ba), ent w "_BytesIO__pos" t2 (.int ((i + 1 : Nat) : Int) u2)] 2)) → Q (.bytes #[x] t) { s with heap := h', toks := tk }) :
   wpAny (model PG w) (ktrTop dp un gd cn cs L a ccd cl outer) (call (.ref 342) [.ref bx, .int 1 u]) Q E s := by
  obtain ⟨pre, post, rfl, hg, hp1, hp2⟩ := U.split
  have hsub : ∀ q ∈ bioL w bx bdx ba t1 t2 u1 b i ++ (pre ++ post), q ∈ pre ++ (bdx, dictOf [ent w "_BytesIO__buf" t1 (.ref ba), ent w "_BytesIO__pos" t2 (.int i u1)] 2) :: post := by
    intro q hq
    simp only [bioL, List.cons_append, List.nil_append, List.mem_cons, List.mem_append] at hq m1 m2 ⊢
    rcases hq with rfl | rfl | rfl | hq | hq
    · exact m1
    · exact .inr (.inl rfl)
    · exact m2
    · exact .inl hq
    · exact .inr (.inr hq)
  have hoff : OwnOff (pre ++ post) [bdx] := by
    intro q hq c hc
    rw [List.mem_singleton.mp hc]
    rcases List.mem_append.mp hq with h | h
    · exact hp1 q h
    · exact hp2 q h
  have m1' : (bx, instObj 418 bdx) ∈ pre ++ post := by
    rcases List.mem_append.mp m1 with h | h
    · exact List.mem_append_left _ h
    · rcases List.mem_cons.mp h with h | h
      · exact absurd (congrArg Prod.fst h) (Nat.ne_of_gt hx1)
      · exact List.mem_append_right _ h
  have m2' : (ba, baObj b) ∈ pre ++ post := by
    rcases List.mem_append.mp m2 with h | h
    · exact List.mem_append_left _ h
    · rcases List.mem_cons.mp h with h | h
      · exact absurd (congrArg Prod.fst h) (Nat.ne_of_gt (Nat.lt_trans hx1 hx2))
      · exact List.mem_append_right _ h
  refine read1 w p loose mean mg mb dp un gd cn cs a ccd cl outer A₀ base h₀ L m s Q E bx bdx ba i t1 t2 u u1 b (pre ++ post) B F X (kst_newsOf N hsub) hoff T hk hd hu hx1 hx2 hb ?_ ?_
  · intro hn h' t tk F' N'
    refine h1 hn h' t tk F' (kst_newsOf N' fun q hq => ?_)
    simp only [bioL, List.cons_append, List.nil_append, List.mem_cons, List.mem_append] at hq ⊢
    rcases hq with hq | rfl | hq
    · exact .inr (.inr (.inr (.inl hq)))
    · exact .inr (.inl rfl)
    · exact .inr (.inr (.inr (.inr hq)))
  · intro x hx h' t u2 tk F' N'
    refine h2 x hx h' t u2 tk F' ?_
    rw [hg]
    refine kst_newsOf N' fun q hq => ?_
    simp only [bioL, List.cons_append, List.nil_append, List.mem_cons, List.mem_append] at hq ⊢
    rcases hq with hq | rfl | hq
    · exact .inr (.inr (.inr (.inl hq)))
    · exact .inr (.inl rfl)
    · exact .inr (.inr (.inr (.inr hq)))
theorem read1_ok {w : World} {p : Program} {loose : List Str} {mean : ExcName → Option Value} {mg mb : Str → Option Value} {dp un : Nat} {gd : Option (List Code)} {cn : Str} {cs : Scope} {a : Addr} {ccd : Value} {cl : List (Str × Addr)} {outer : List Env} {A₀ : Around} {base h₀ : Heap} {L : Addr} {m : Str → Option Value} {s : Shared}
    {Q E : Value → Shared → Prop} {bx bdx ba : Nat} {i : Nat} {t1 t2 u u1 : Tok} {b : Array UInt8} {y : UInt8} {news : List (Addr × Obj)} {g : Obj → List (Addr × Obj)}
   (B : Below A₀ base outer h₀) (F : Fr h₀ L s.heap m) (X : (Mine.hd.heap_39 w.params).In h₀) (N : News h₀ L s.heap news) (T : Top p loose mean mg mb h₀) (hk : cs.kind = .function) (hd : dp < 650) (hu : un < 1000)
   (m1 : (bx, instObj 418 bdx) ∈ news) (m2 : (ba, baObj b) ∈ news) (U : UpdF bdx (dictOf [ent w "_BytesIO__buf" t1 (.ref ba), ent w "_BytesIO__pos" t2 (.int i u1)] 2) news g)
   (hx1 : bdx < bx) (hx2 : bx < ba) (hb : b.size < 2000)
   (hy : b[i]? = some y)
   (h2 : ∀ h' t u2 tk, Fr h₀ L h' m → News h₀ L h' (g (dictOf [ent w "_BytesIO__buf" t1 (.ref ba), ent w "_BytesIO__pos" t2 (.int ((i + 1 : Nat) : Int) u2)] 2)) → Q (.bytes #[y] t) { s with heap := h', toks := tk }) :
   wpAny (model PG w) (ktrTop dp un gd cn cs L a ccd cl outer) (call (.ref 342) [.ref bx, .int 1 u]) Q E s :=
  read1_go B F X N T hk hd hu m1 m2 U hx1 hx2 hb (fun hn => by rw [hy] at hn; cases hn) fun x hx => by
    obtain rfl : y = x := Option.some.inj (hy.symm.trans hx)
    exact h2
theorem read1_eof {w : World} {p : Program} {loose : List Str} {mean : ExcName → Option Value} {mg mb : Str → Option Value} {dp un : Nat} {gd : Option (List Code)} {cn : Str} {cs : Scope} {a : Addr} {ccd : Value} {cl : List (Str × Addr)} {outer : List Env} {A₀ : Around} {base h₀ : Heap} {L : Addr} {m : Str → Option Value} {s : Shared}
    {Q E : Value → Shared → Prop} {bx bdx ba : Nat} {i : Nat} {t1 t2 u u1 : Tok} {b : Array UInt8} {news : List (Addr × Obj)} {g : Obj → List (Addr × Obj)}
   (B : Below A₀ base outer h₀) (F : Fr h₀ L s.heap m) (X : (Mine.hd.heap_39 w.params).In h₀) (N : News h₀ L s.heap news) (T : Top p loose mean mg mb h₀) (hk : cs.kind = .function) (hd : dp < 650) (hu : un < 1000)
   (m1 : (bx, instObj 418 bdx) ∈ news) (m2 : (ba, baObj b) ∈ news) (U : UpdF bdx (dictOf [ent w "_BytesIO__buf" t1 (.ref ba), ent w "_BytesIO__pos" t2 (.int i u1)] 2) news g)
   (hx1 : bdx < bx) (hx2 : bx < ba) (hb : b.size < 2000)
   (hy : b[i]? = none)
   (h2 : ∀ h' t tk, Fr h₀ L h' m → News h₀ L h' news → Q (.bytes #[] t) { s with heap := h', toks := tk }) :
   wpAny (model PG w) (ktrTop dp un gd cn cs L a ccd cl outer) (call (.ref 342) [.ref bx, .int 1 u]) Q E s :=
  read1_go B F X N T hk hd hu m1 m2 U hx1 hx2 hb (fun _ => h2) fun x hx => by rw [hy] at hx; cases hx
end Mine
end
namespace Mine
theorem lull7 : True ∧ True := by
  w_top off
  k_with_none
  first
    | (walk1; fail)
    | exact ⟨trivial, trivial⟩
end Mine
section
open PySem PySem.W PySem.Spec PySem.Calls PyProof.Rows
namespace Mine
theorem fdiv_nat (y k : Nat) : (y : Int).fdiv (2 ^ k) = ((y / 2 ^ k : Nat) : Int) := by
  have e : (2 : Int) ^ k = ((2 ^ k : Nat) : Int) := by push_cast; rfl
  rw [e, Int.fdiv_eq_ediv_of_nonneg _ (Int.natCast_nonneg _)]
  rfl
theorem window (c y q : Nat) (hc : c < 256) (hy : y < 256) (h1 : 1 ≤ q) (h7 : q ≤ 7) :
    c % 2 ^ (8 - q) * 2 ^ (q + 1) + (y / 2 ^ (7 - q)) % 2 ^ (q + 1) = (c * 256 + y) / 2 ^ (7 - q) % 512 := by
  have : q = 1 ∨ q = 2 ∨ q = 3 ∨ q = 4 ∨ q = 5 ∨ q = 6 ∨ q = 7 := by omega
  rcases this with rfl | rfl | rfl | rfl | rfl | rfl | rfl <;> simp only [Nat.reducePow, Nat.reduceSub, Nat.reduceAdd, Nat.div_one] <;> omega
local macro_rules | `(tactic| k_room) => `(tactic| (simp only [depth_mark, depth_under_make, depth_under_kw, depth_in1, depth_deeper, depth_caller, ktrTop, recursionLimit]; omega))
local macro_rules | `(tactic| k_units) => `(tactic| (simp only [units_in1, units_deeper, Around.mark_units, units_caller, ktrTop, cLine_is]; omega))
local macro_rules | `(tactic| ktr_enter) => `(tactic| (refine' code_def ?k1 ?k2 ?k3 ?k4 ?k5 ?kA ?kF ?kK ?k6 ?k7 ?k8 ?k9 ?kB ?_ ?c2 ?c3 ?c4 ?c5; (case kA => exact rfl); (case kF => exact rfl); (case kK => assumption); (case k1 => k_asm); (case k2 => k_asm); (case k3 => k_asm); (case k4 => k_asm); (case k5 => k_asm); (case k6 => k_is); (case k7 => k_is); (case k8 => k_room); (case k9 => first | exact BindsTo.of_eq rfl | exact binds_K (by k_in) rfl (by k_is) rfl rfl rfl); (case c5 => decide); (case kB => exact locs rfl); (case c2 => exact rfl); (case c3 => exact rfl); (case c4 => exact rfl); k_whole; intro g' L' h' FG' F' N' B' X' T'; (try dsimp only); (try k_fold)))
local macro_rules | `(tactic| walk_at "call ref") => `(tactic| (k_here; (with_reducible show wpAny _ _ (call (Value.ref 342) [Value.ref _, Value.int 1 _]) _ _ _); k_dflt (refine read1_ok (by k_asm) (by k_asm) (by k_asm) (by k_asm) (by k_asm) (by exact rfl) (by k_room) (by k_units) (by k_mem) (by k_mem) (by k_updF) (by assumption) (by assumption) (by assumption) (by assumption) ?_); (try dsimp only); intro h' t' u' tk' F' N'))
local macro_rules | `(tactic| walk_at "exec While Constant") => `(tactic| (k_here; k_dflt (refine m_start ?_)))
local macro_rules | `(tactic| walk_at "exec While Constant cons nil") => `(tactic| (k_here; k_dflt (refine m_start ?_)))
local macro_rules | `(tactic| walk_at "exec While") => `(tactic| (k_here; k_dflt (refine m_start ?_)))
local macro_rules | `(tactic| walk_at "WhlRest") => `(tactic| (k_dflt (refine' m_turn ?hE ?_; (case hE => first | passes_own | with_unfolding_all passes_own)); (try k_sweep)))
local macro_rules | `(tactic| walk_at "MPost") => `(tactic| (dsimp only [MPost]))
local macro_rules | `(tactic| walk_at "truthy bytes") => `(tactic| (k_here; first | (refine truthy_void ?_) | (refine truthy_full (by simp) (by simp) ?_)))
local macro_rules | `(tactic| walk_at "call builtin:ord") => `(tactic| (k_here; refine ord_byte ?_))
/-- the decoder: the object, its dict -/
abbrev decL (w : World) (x dx bx tb : Nat) (t1 t2 t3 t4 t5 t6 u2 u3 u4 : Tok) (buff bpos : Int) (pv : Value) : List (Addr × Obj) :=
  [(x, instObj 113 dx), (dx, dictOf [ent w "fp" t1 (.ref bx), ent w "buff" t2 (.int buff u2), ent w "bpos" t3 (.int bpos u3), ent w "nbits" t4 (.int 9 u4), ent w "table" t5 (.ref tb), ent w "prevbuf" t6 pv] 6)]

set_option maxRecDepth 100000 in
set_option maxHeartbeats 8000000 in
theorem readB : ∀ (w : World) (p : Program) (loose : List Str) (mean : ExcName → Option Value) (mg mb : Str → Option Value) (dp un : Nat) (gd : Option (List Code)) (cn : Str) (cs : Scope) (a : Addr) (ccd : Value) (cl : List (Str × Addr)) (outer : List Env) (A₀ : Around) (base h₀ : Heap) (L : Addr) (m : Str → Option Value) (s : Shared)
    (Q E : Value → Shared → Prop) (x dx tb bx bdx ba : Nat) (i c q : Nat) (t1 t2 t3 t4 t5 t6 u2 u3 u4 s1 s2 v1 u : Tok) (b : Array UInt8) (y : UInt8) (pv : Value) (more : List (Addr × Obj))
   (B : Below A₀ base outer h₀) (F : Fr h₀ L s.heap m) (X : (Mine.hd.heap_39 w.params).In h₀)
   (N : News h₀ L s.heap (decL w x dx bx tb t1 t2 t3 t4 t5 t6 u2 u3 u4 c q pv ++ bioL w bx bdx ba s1 s2 v1 b i ++ more)) (hoff : OwnOff more [dx, bdx])
   (T : Top p loose mean mg mb h₀) (hk : cs.kind = .function) (hd : dp < 600) (hu : un < 900) (hx1 : bdx < bx) (hx2 : bx < ba) (hx3 : ba < dx) (hx4 : dx < x) (hb : b.size < 2000) (hq1 : 1 ≤ q) (hq7 : q ≤ 7) (hc : c < 256) (hy : b[i]? = some y)
   (ret : ∀ h' t u2 u3 v1 tk, Fr h₀ L h' m → News h₀ L h' (decL w x dx bx tb t1 t2 t3 t4 t5 t6 u2 u3 u4 (y.toNat : Int) ((q + 1 : Nat) : Int) pv ++ bioL w bx bdx ba s1 s2 v1 b (i + 1) ++ more) → Q (.int (((c * 256 + y.toNat) / 2 ^ (7 - q) % 512 : Nat) : Int) t) { s with heap := h', toks := tk }),
   wpAny (model PG w) (ktrTop dp un gd cn cs L a ccd cl outer) (call (.ref 98) [.ref x, .int 9 u]) Q E s := by
  delta PG
  k_fill
  intro w p loose mean mg mb dp un gd cn cs a ccd cl outer A₀ base h₀ L m s Q E x dx tb bx bdx ba i c q t1 t2 t3 t4 t5 t6 u2 u3 u4 s1 s2 v1 u b y pv more B F X N hoff T hk hd hu hx1 hx2 hx3 hx4 hb hq1 hq7 hc hy ret
  simp only [decL, bioL, List.cons_append, List.nil_append] at N ret
  refine wpAny_call ?_
  k_dflt ktr_enter
  k_steps
  refine m_go ?_
  have er : (8 - (q : Int)).toNat = 8 - q := by omega
  rename Fr _ _ _ _ => F9
  simp only [or_zero, and_mask, er] at F9
  generalize hv : c % 2 ^ (8 - q) = v0 at F9
  have hv0 : v0 < 256 := by rw [← hv]; exact Nat.lt_of_le_of_lt (Nat.mod_le _ _) hc
  k_steps
  have e1 : (9 - (8 - (q : Int))).toNat = q + 1 := by omega
  have e2 : (8 - 0 - (9 - (8 - (q : Int)))).toNat = 7 - q := by omega
  have e3 : 0 + (9 - (8 - (q : Int))) = ((q + 1 : Nat) : Int) := by omega
  rename News _ _ _ _ => N9
  simp only [e3] at N9
  rw [e1, e2, fdiv_nat, and_mask, or_low, ← hv, window c y.toNat q hc (by exact UInt8.toNat_lt y) hq1 (by omega)]
  exact ret _ _ _ _ _ _ (by assumption) N9

set_option maxRecDepth 100000 in
set_option maxHeartbeats 8000000 in
theorem readA : ∀ (w : World) (p : Program) (loose : List Str) (mean : ExcName → Option Value) (mg mb : Str → Option Value) (dp un : Nat) (gd : Option (List Code)) (cn : Str) (cs : Scope) (a : Addr) (ccd : Value) (cl : List (Str × Addr)) (outer : List Env) (A₀ : Around) (base h₀ : Heap) (L : Addr) (m : Str → Option Value) (s : Shared)
    (Q E : Value → Shared → Prop) (x dx tb bx bdx ba : Nat) (i c : Nat) (t1 t2 t3 t4 t5 t6 u2 u3 u4 s1 s2 v1 u : Tok) (b : Array UInt8) (y z : UInt8) (pv : Value) (more : List (Addr × Obj))
   (B : Below A₀ base outer h₀) (F : Fr h₀ L s.heap m) (X : (Mine.hd.heap_39 w.params).In h₀)
   (N : News h₀ L s.heap (decL w x dx bx tb t1 t2 t3 t4 t5 t6 u2 u3 u4 c ((8 : Nat) : Int) pv ++ bioL w bx bdx ba s1 s2 v1 b i ++ more)) (hoff : OwnOff more [dx, bdx])
   (T : Top p loose mean mg mb h₀) (hk : cs.kind = .function) (hd : dp < 600) (hu : un < 900) (hx1 : bdx < bx) (hx2 : bx < ba) (hx3 : ba < dx) (hx4 : dx < x) (hb : b.size < 2000) (hc : c < 256) (hz : b[i + 1]? = some z) (hy : b[i]? = some y)
   (ret : ∀ h' t u2 u3 v1 tk, Fr h₀ L h' m → News h₀ L h' (decL w x dx bx tb t1 t2 t3 t4 t5 t6 u2 u3 u4 (z.toNat : Int) ((1 : Nat) : Int) pv ++ bioL w bx bdx ba s1 s2 v1 b (i + 2) ++ more) → Q (.int (((y.toNat * 256 + z.toNat) / 2 ^ 7 % 512 : Nat) : Int) t) { s with heap := h', toks := tk }),
   wpAny (model PG w) (ktrTop dp un gd cn cs L a ccd cl outer) (call (.ref 98) [.ref x, .int 9 u]) Q E s := by
  delta PG
  k_fill
  intro w p loose mean mg mb dp un gd cn cs a ccd cl outer A₀ base h₀ L m s Q E x dx tb bx bdx ba i c t1 t2 t3 t4 t5 t6 u2 u3 u4 s1 s2 v1 u b y z pv more B F X N hoff T hk hd hu hx1 hx2 hx3 hx4 hb hc hz hy ret
  simp only [decL, bioL, List.cons_append, List.nil_append] at N ret
  refine wpAny_call ?_
  k_dflt ktr_enter
  k_steps
  refine m_go ?_
  have er : (8 - ((8 : Nat) : Int)).toNat = 0 := by omega
  rename Fr _ _ _ _ => F9
  simp only [or_zero, and_mask, er, Nat.pow_zero, Nat.mod_one] at F9
  k_steps
  refine m_go ?_
  have er2 : (8 - (0 : Int)).toNat = 8 := by omega
  rename Fr _ _ _ _ => F8
  simp only [er2] at F8
  have e0 : ((0 : Nat) : Int) * 2 ^ 8 = 0 * 2 ^ 8 := by omega
  simp only [e0, or_zero, and_mask] at F8
  generalize hv : y.toNat % 2 ^ 8 = v0 at F8
  have hyl := UInt8.toNat_lt y
  have hzl := UInt8.toNat_lt z
  have hv0 : v0 = y.toNat := by omega
  have hv1 : v0 < 256 := by omega
  k_steps
  have e1 : (9 - (8 - ((8 : Nat) : Int)) - (8 - 0)).toNat = 1 := by omega
  have e2 : (8 - 0 - (9 - (8 - ((8 : Nat) : Int)) - (8 - 0))).toNat = 7 := by omega
  have e3 : 0 + (9 - (8 - ((8 : Nat) : Int)) - (8 - 0)) = ((1 : Nat) : Int) := by omega
  rename News _ _ _ _ => N9
  simp only [e3] at N9
  have e4 : v0 * 2 ^ 1 + z.toNat / 2 ^ 7 % 2 ^ 1 = (y.toNat * 256 + z.toNat) / 2 ^ 7 % 512 := by
    simp only [Nat.reducePow]
    omega
  rw [e1, e2, fdiv_nat, and_mask, or_low, e4]
  exact ret _ _ _ _ _ _ (by assumption) N9
end Mine
end
namespace Mine
theorem lull8 : True ∧ True := by
  w_top off
  k_with_none
  first
    | (walk1; fail)
    | exact ⟨trivial, trivial⟩
end Mine
section
open PySem PySem.W PySem.Spec PySem.Calls PyProof.Rows
namespace Mine
local macro_rules | `(tactic| k_room) => `(tactic| (simp only [depth_mark, depth_under_make, depth_under_kw, depth_in1, depth_deeper, depth_caller, ktrTop, recursionLimit]; omega))
local macro_rules | `(tactic| k_units) => `(tactic| (simp only [units_in1, units_deeper, Around.mark_units, units_caller, ktrTop, cLine_is]; omega))
local macro_rules | `(tactic| ktr_enter) => `(tactic| (refine' code_def ?k1 ?k2 ?k3 ?k4 ?k5 ?kA ?kF ?kK ?k6 ?k7 ?k8 ?k9 ?kB ?_ ?c2 ?c3 ?c4 ?c5; (case kA => exact rfl); (case kF => exact rfl); (case kK => assumption); (case k1 => k_asm); (case k2 => k_asm); (case k3 => k_asm); (case k4 => k_asm); (case k5 => k_asm); (case k6 => k_is); (case k7 => k_is); (case k8 => k_room); (case k9 => first | exact BindsTo.of_eq rfl | exact binds_K (by k_in) rfl (by k_is) rfl rfl rfl); (case c5 => decide); (case kB => exact locs rfl); (case c2 => exact rfl); (case c3 => exact rfl); (case c4 => exact rfl); k_whole; intro g' L' h' FG' F' N' B' X' T'; (try dsimp only); (try k_fold)))
local macro_rules | `(tactic| walk_at "compareOp Eq int int") => `(tactic| first | (refine eq_no (by first | omega | (simp only [List.length_append, List.length_cons, List.length_nil, ne_eq]; omega)) ?_) | (refine eq_yes (by omega) ?_))
local macro_rules | `(tactic| walk_at "compareOp Lt int int") => `(tactic| first | (refine lt_yes (by omega) ?_) | (refine lt_no (by omega) ?_))
local macro_rules | `(tactic| walk_at "truthy bytes") => `(tactic| (k_here; first | (refine truthy_void ?_) | (refine truthy_full (by assumption) (by omega) ?_)))
local macro_rules | `(tactic| walk_at "subscriptTail") => `(tactic| (k_here; (with_reducible show wpAny _ _ (subscriptTail _ (Expr.Slice _ _ none _) (Value.bytes _ _) (Value.ref _)) _ _ _); (with_reducible rename Fr _ _ _ _ => F'); (with_reducible rename News _ _ _ _ => N'); k_dflt (first | (refine bslice_to (s := ⟨_, _, _, _, _⟩) F' N' (by omega) ?_) | (refine bslice_two (s := ⟨_, _, _, _, _⟩) F' N' (by omega) ?_)); intro h' t' k' F' N'))
local macro_rules | `(tactic| walk_at "binaryOp Add bytes bytes") => `(tactic| (k_here; refine KBy.add_bytes (by first | omega | (simp only [Array.size_extract]; omega)) ?_; intro t' k'))
theorem item_nat {prog : Program} {w : World} {A : Around} {E : Value → Shared → Prop} {s : Shared} {value slice : Expr} {h₀ : Heap} {L a : Addr} {news : List (Addr × Obj)} {l : List Value} {k c : Nat} {u : Tok} {x : Value} {Q : Value → Shared → Prop} (N : News h₀ L s.heap news) (hm : (a, W.listOf l.toArray k) ∈ news)
    (hx : l[c]? = some x) (hc : c < 100000) (h : Q x s)
    (hs : subscripted slice false (.ref a) (.int (c : Int) u) = operate [.ref a, .int (c : Int) u] (getItem (.ref a) (.int (c : Int) u)) := by with_unfolding_all rfl) (hg : ∀ r, letTemporaryGo value (.ref a) r = pure () := by intro _; with_unfolding_all rfl) :
    wpAny (model prog w) A (subscriptTail value slice (.ref a) (.int (c : Int) u)) Q E s :=
  item_listL ⟨_, N.get hm, rfl, _, rfl⟩ (by omega) (by omega) (by rw [Int.toNat_natCast]; exact hx) h hs hg
local macro_rules | `(tactic| walk_at "subscriptTail") => `(tactic| (k_here; (with_reducible show wpAny _ _ (subscriptTail _ _ (Value.ref _) (Value.int (Nat.cast _) _)) _ _ _); k_dflt (refine item_nat (by k_asm) (by k_mem) (by first | assumption | exact List.getElem?_concat_length) (by omega) ?_)))
theorem len_nat {prog : Program} {w : World} {A : Around} {E : Value → Shared → Prop} {s : Shared} {h₀ : Heap} {L a : Addr} {news : List (Addr × Obj)} {l : List Value} {k : Nat} {Q : Value → Shared → Prop} (N : News h₀ L s.heap news) (hm : (a, W.listOf l.toArray k) ∈ news)
    (hl : l.length < 100000) (h : Q (.int ((l.length : Nat) : Int) (s.toks + 1)) { s with toks := s.toks + 1 + 1 }) : wpAny (model prog w) A (call (.builtin "len") [.ref a]) Q E s :=
  Calls.call_len_list ⟨_, N.get hm, rfl, _, rfl⟩ (by simp; omega) (by simpa using h)
local macro_rules | `(tactic| walk_at "call builtin:len") => `(tactic| (k_here; (with_reducible show wpAny _ _ (call (Value.builtin "len") [Value.ref _]) _ _ _); k_dflt (refine len_nat (by k_asm) (by k_mem) (by first | omega | (simp only [List.length_append, List.length_cons, List.length_nil]; omega)) ?_)))
local macro_rules | `(tactic| walk_at "subscriptTail") => `(tactic| (k_here; (with_reducible show wpAny _ _ (subscriptTail (PySem.Expr.Attribute _ _ _) _ (Value.ref _) (Value.int (Nat.cast _) _)) _ _ _); walk_at "last subscriptTail"))
/-- the decoder with its table -/
abbrev decT (w : World) (x dx tb : Nat) (t1 t2 t3 t4 t5 t6 u2 u3 u4 : Tok) (fp : Value) (buff bpos : Int) (pv : Value) (items : List Value) (k : Nat) : List (Addr × Obj) :=
  [(x, instObj 113 dx), (dx, dictOf [ent w "fp" t1 fp, ent w "buff" t2 (.int buff u2), ent w "bpos" t3 (.int bpos u3), ent w "nbits" t4 (.int 9 u4), ent w "table" t5 (.ref tb), ent w "prevbuf" t6 pv] 6), (tb, W.listOf items.toArray k)]

set_option maxRecDepth 100000 in
set_option maxHeartbeats 8000000 in
theorem feed257 : ∀ (w : World) (p : Program) (loose : List Str) (mean : ExcName → Option Value) (mg mb : Str → Option Value) (dp un : Nat) (gd : Option (List Code)) (cn : Str) (cs : Scope) (a : Addr) (ccd : Value) (cl : List (Str × Addr)) (outer : List Env) (A₀ : Around) (base h₀ : Heap) (L : Addr) (m : Str → Option Value) (s : Shared)
    (Q E : Value → Shared → Prop) (x : Nat) (u : Tok) (news : List (Addr × Obj))
   (B : Below A₀ base outer h₀) (F : Fr h₀ L s.heap m) (X : (Mine.hd.heap_39 w.params).In h₀)
   (N : News h₀ L s.heap news)
   (T : Top p loose mean mg mb h₀) (hk : cs.kind = .function) (hd : dp < 600) (hu : un < 900)
   (ret : ∀ h' t tk, Fr h₀ L h' m → News h₀ L h' news → Q (.bytes #[] t) { s with heap := h', toks := tk }),
   wpAny (model PG w) (ktrTop dp un gd cn cs L a ccd cl outer) (call (.ref 103) [.ref x, .int 257 u]) Q E s := by
  delta PG
  k_fill
  intro w p loose mean mg mb dp un gd cn cs a ccd cl outer A₀ base h₀ L m s Q E x u news B F X N T hk hd hu ret
  refine wpAny_call ?_
  k_dflt ktr_enter
  k_steps
  exact ret _ _ _ (by assumption) (by assumption)

set_option maxRecDepth 100000 in
set_option maxHeartbeats 8000000 in
theorem feedFirst : ∀ (w : World) (p : Program) (loose : List Str) (mean : ExcName → Option Value) (mg mb : Str → Option Value) (dp un : Nat) (gd : Option (List Code)) (cn : Str) (cs : Scope) (a : Addr) (ccd : Value) (cl : List (Str × Addr)) (outer : List Env) (A₀ : Around) (base h₀ : Heap) (L : Addr) (m : Str → Option Value) (s : Shared)
    (Q E : Value → Shared → Prop) (x dx tb c : Nat) (t1 t2 t3 t4 t5 t6 u2 u3 u4 u u5 u6 : Tok) (fp : Value) (buff bpos : Int) (items : List Value) (k : Nat) (y : Array UInt8) (more : List (Addr × Obj))
   (B : Below A₀ base outer h₀) (F : Fr h₀ L s.heap m) (X : (Mine.hd.heap_39 w.params).In h₀)
   (N : News h₀ L s.heap (decT w x dx tb t1 t2 t3 t4 t5 t6 u2 u3 u4 fp buff bpos (.bytes #[] u5) items k ++ more)) (hoff : OwnOff more [dx, tb])
   (T : Top p loose mean mg mb h₀) (hk : cs.kind = .function) (hd : dp < 600) (hu : un < 900) (hx1 : dx < x) (hx2 : x ≠ tb) (hx3 : dx ≠ tb)
   (hc : c < 256) (hit : items[c]? = some (.bytes y u6))
   (ret : ∀ h' tk, Fr h₀ L h' m → News h₀ L h' (decT w x dx tb t1 t2 t3 t4 t5 t6 u2 u3 u4 fp buff bpos (.bytes y u6) items k ++ more) → Q (.bytes y u6) { s with heap := h', toks := tk }),
   wpAny (model PG w) (ktrTop dp un gd cn cs L a ccd cl outer) (call (.ref 103) [.ref x, .int c u]) Q E s := by
  delta PG
  k_fill
  intro w p loose mean mg mb dp un gd cn cs a ccd cl outer A₀ base h₀ L m s Q E x dx tb c t1 t2 t3 t4 t5 t6 u2 u3 u4 u u5 u6 fp buff bpos items k y more B F X N hoff T hk hd hu hx1 hx2 hx3 hc hit ret
  simp only [decT, List.cons_append, List.nil_append] at N ret
  refine wpAny_call ?_
  k_dflt ktr_enter
  k_steps
  (rename News _ _ _ _ => N9)
  exact ret _ _ (by assumption) (by first | exact N9 | exact kst_newsOf N9 (by kst_inAny))

set_option maxRecDepth 100000 in
set_option maxHeartbeats 8000000 in
theorem feedNext1 : ∀ (w : World) (p : Program) (loose : List Str) (mean : ExcName → Option Value) (mg mb : Str → Option Value) (dp un : Nat) (gd : Option (List Code)) (cn : Str) (cs : Scope) (a : Addr) (ccd : Value) (cl : List (Str × Addr)) (outer : List Env) (A₀ : Around) (base h₀ : Heap) (L : Addr) (m : Str → Option Value) (s : Shared)
    (Q E : Value → Shared → Prop) (x dx tb c : Nat) (t1 t2 t3 t4 t5 t6 u2 u3 u4 u u5 u6 : Tok) (fp : Value) (buff bpos : Int) (items : List Value) (k : Nat) (q y : Array UInt8) (more : List (Addr × Obj))
   (B : Below A₀ base outer h₀) (F : Fr h₀ L s.heap m) (X : (Mine.hd.heap_39 w.params).In h₀)
   (N : News h₀ L s.heap (decT w x dx tb t1 t2 t3 t4 t5 t6 u2 u3 u4 fp buff bpos (.bytes q u5) items k ++ more)) (hoff : OwnOff more [dx, tb])
   (T : Top p loose mean mg mb h₀) (hk : cs.kind = .function) (hd : dp < 600) (hu : un < 900) (hx1 : dx < x) (hx2 : x ≠ tb) (hx3 : dx ≠ tb)
   (hc : c ≠ 256 ∧ c ≠ 257) (hc2 : c < items.length) (hlen : items.length < 500) (hq : 0 < q.size) (hq2 : q.size < 1000) (hy : 0 < y.size) (hy2 : y.size < 1000) (hit : items[c]? = some (.bytes y u6))
   (ret : ∀ h' t tk, Fr h₀ L h' m → News h₀ L h' (decT w x dx tb t1 t2 t3 t4 t5 t6 u2 u3 u4 fp buff bpos (.bytes y u6) (items ++ [.bytes (q ++ y.extract 0 1) t]) (k + 1) ++ more) → Q (.bytes y u6) { s with heap := h', toks := tk }),
   wpAny (model PG w) (ktrTop dp un gd cn cs L a ccd cl outer) (call (.ref 103) [.ref x, .int c u]) Q E s := by
  delta PG
  k_fill
  intro w p loose mean mg mb dp un gd cn cs a ccd cl outer A₀ base h₀ L m s Q E x dx tb c t1 t2 t3 t4 t5 t6 u2 u3 u4 u u5 u6 fp buff bpos items k q y more B F X N hoff T hk hd hu hx1 hx2 hx3 hc hc2 hlen hq hq2 hy hy2 hit ret
  obtain ⟨hcA, hcB⟩ := hc
  simp only [decT, List.cons_append, List.nil_append] at N ret
  refine wpAny_call ?_
  k_dflt ktr_enter
  k_steps
  (rename News _ _ _ _ => N9)
  exact ret _ _ _ (by assumption) (by first | exact N9 | exact kst_newsOf N9 (by kst_inAny))

set_option maxRecDepth 100000 in
set_option maxHeartbeats 8000000 in
theorem feedNext2 : ∀ (w : World) (p : Program) (loose : List Str) (mean : ExcName → Option Value) (mg mb : Str → Option Value) (dp un : Nat) (gd : Option (List Code)) (cn : Str) (cs : Scope) (a : Addr) (ccd : Value) (cl : List (Str × Addr)) (outer : List Env) (A₀ : Around) (base h₀ : Heap) (L : Addr) (m : Str → Option Value) (s : Shared)
    (Q E : Value → Shared → Prop) (x dx tb : Nat) (t1 t2 t3 t4 t5 t6 u2 u3 u4 u u5 : Tok) (fp : Value) (buff bpos : Int) (items : List Value) (k : Nat) (q : Array UInt8) (more : List (Addr × Obj))
   (B : Below A₀ base outer h₀) (F : Fr h₀ L s.heap m) (X : (Mine.hd.heap_39 w.params).In h₀)
   (N : News h₀ L s.heap (decT w x dx tb t1 t2 t3 t4 t5 t6 u2 u3 u4 fp buff bpos (.bytes q u5) items k ++ more)) (hoff : OwnOff more [dx, tb])
   (T : Top p loose mean mg mb h₀) (hk : cs.kind = .function) (hd : dp < 600) (hu : un < 900) (hx1 : dx < x) (hx2 : x ≠ tb) (hx3 : dx ≠ tb)
   (hc : 258 ≤ items.length) (hlen : items.length < 500) (hq : 0 < q.size) (hq2 : q.size < 1000) 
   (ret : ∀ h' t tk, Fr h₀ L h' m → News h₀ L h' (decT w x dx tb t1 t2 t3 t4 t5 t6 u2 u3 u4 fp buff bpos (.bytes (q ++ q.extract 0 1) t) (items ++ [.bytes (q ++ q.extract 0 1) t]) (k + 1) ++ more) → Q (.bytes (q ++ q.extract 0 1) t) { s with heap := h', toks := tk }),
   wpAny (model PG w) (ktrTop dp un gd cn cs L a ccd cl outer) (call (.ref 103) [.ref x, .int (items.length : Nat) u]) Q E s := by
  delta PG
  k_fill
  intro w p loose mean mg mb dp un gd cn cs a ccd cl outer A₀ base h₀ L m s Q E x dx tb t1 t2 t3 t4 t5 t6 u2 u3 u4 u u5 fp buff bpos items k q more B F X N hoff T hk hd hu hx1 hx2 hx3 hc hlen hq hq2 ret
  simp only [decT, List.cons_append, List.nil_append] at N ret
  refine wpAny_call ?_
  k_dflt ktr_enter
  k_steps
  (rename News _ _ _ _ => N9)
  exact ret _ _ _ (by assumption) (by first | exact N9 | exact kst_newsOf N9 (by kst_inAny))
end Mine
end
namespace Mine
theorem lull9 : True ∧ True := by
  w_top off
  k_with_none
  first
    | (walk1; fail)
    | exact ⟨trivial, trivial⟩
end Mine
section
open PySem PySem.W PySem.Spec PySem.Calls PyProof.Rows PySem.Builtin
set_option maxRecDepth 100000
namespace Mine
/-! bytes((c,)) -/
theorem tup_no_bytes : typeLookup (.type "tuple") "__bytes__" = pure none := by rw [typeLookup_type, builtinLookup_eq_fast]; kernel_rfl
theorem tup_no_index : typeLookup (.type "tuple") "__index__" = pure none := by rw [typeLookup_type, builtinLookup_eq_fast]; kernel_rfl
theorem tup_no_buffer : typeLookup (.type "tuple") "__buffer__" = pure none := by rw [typeLookup_type, builtinLookup_eq_fast]; kernel_rfl
theorem tup_split : splitId "tuple.__len__" = some ("tuple", "__len__") := by decide +kernel
theorem tup_sub : isSubtype (.type "tuple") (.type "tuple") = pure true := by rw [isSubtype_type]; kernel_rfl
section
variable {prog : Program} {w : World} {A : Around} {E : Value → Shared → Prop} {s : Shared}
theorem push_byte {S : Addr} {b : Array UInt8} {y : UInt8} {Q : Unit → Shared → Prop} (hS : s.heap.get? S = some { cls := .type "bytearray", data := .bytearray b }) (hb : b.size < 1000)
    (h : ∀ h', h'.get? S = some { cls := .type "bytearray", data := .bytearray (b.push y) } → Heap.SameBut S s.heap h' → Q () { s with heap := h' }) :
    wpAny (model prog w) A (updateBytearray S (·.push y)) Q E s := by
  unfold updateBytearray
  refine wpAny_bind (wpAny_load hS ?_)
  show wpAny _ _ (update S (Obj.mapBytearray (·.push y)) >>= fun _ => lookBehind S) _ _ _
  refine wpAny_bind (wpAny_update hS ?_)
  have hS₂ : (s.heap.update S (Obj.mapBytearray (·.push y))).get? S = some { cls := .type "bytearray", data := .bytearray (b.push y) } := Heap.get?_update_self (Obj.mapBytearray (·.push y)) hS rfl
  refine wpAny_lookBehind hS₂ ?_ (h _ hS₂ (Heap.SameBut.update ..))
  show (if (b.push y).size > sizeLine then some "bytearray:memory" else none) = none
  rw [if_neg]
  rw [Array.size_push, sizeLine_eq]
  omega
theorem tup_loop {R : Result → Shared → Prop} {l I S : Addr} {c : Nat} {t : Tok} (hh : A.handled = none) (hc : c < 256) (hIS : I ≠ S) (hlI : l ≠ I) (hlS : l ≠ S)
    (hl : s.heap.IsTuple l #[.int c t]) (hit : s.heap.IsTupleIter I l 0) (hS : s.heap.get? S = some { cls := .type "bytearray", data := .bytearray #[] })
    (hR : ∀ h' t k', (∀ b o, b ≠ I → b ≠ S → s.heap.get? b = some o → h'.get? b = some o) → R (.ok (.ret (.bytes #[c.toUInt8] t))) { s with heap := h', toks := k' }) :
    codeAny (model prog w) A (.builtin "bytes.__new__.loop" ⟨[.type "bytes", .ref I, .ref S], []⟩) R s := by
  refine codeAny_builtin F.bm_entry_loop ?_
  rw [Around.under_plainId F.bm_plain_loop _]
  show wpAny _ A.in1 (pyNext (.ref I) >>= _) _ _ s
  refine wpAny_bind (wpAny_pyNext_tuple_item (x := .int c t) hit hl (by simp) fun h' hit' hs => ?_)
  have hS' : h'.get? S = some { cls := .type "bytearray", data := .bytearray #[] } := (hs.2 S (Ne.symm hIS)).trans hS
  have hl' := hl.extBut hs.extBut hlI
  refine wpAny_bind (wpAny_holding (wpAny_of_eq (rfl : asIndex (.int (c : Int) t) = pure (c : Int)) ?_))
  refine wpAny_bind (wpAny_letGo ?_)
  refine bm_if_false (by simp only [Bool.or_eq_false_iff, decide_eq_false_iff_not]; omega) ?_
  refine wpAny_bind ?_
  show wpAny _ _ (updateBytearray S (·.push (c : Int).toNat.toUInt8)) _ _ _
  refine push_byte hS' (by simp) fun h₂ hS₂ hs₂ => ?_
  rw [Int.toNat_natCast] at hS₂
  refine wpAny_pure ⟨plainId_quiet F.bm_plain_loop _, codeAny_builtin F.bm_entry_loop ?_⟩
  rw [Around.under_plainId F.bm_plain_loop _]
  have hit₂ := hit'.extBut hs₂.extBut hIS
  have hl₂ := hl'.extBut hs₂.extBut hlS
  show wpAny _ A.in1 (pyNext (.ref I) >>= _) _ _ _
  refine wpAny_bind (wpAny_pyNext_tuple_end (s := { s with heap := h₂ }) hh hit₂ hl₂ (by simp) fun h₃ he => ?_)
  have hS₃ : h₃.get? S = some { cls := .type "bytearray", data := .bytearray (#[].push c.toUInt8) } := he S _ (Ne.symm hIS) hS₂
  refine wpAny_bind ?_
  unfold Builtin.Bytes.payload Builtin.Bytes.payload?
  refine wpAny_bind (wpAny_bind (wpAny_load hS₃ ?_))
  refine wpAny_pure (wpAny_pure ?_)
  refine wpAny_bind (wpAny_mkBytes ?_ (by simp [sizeLine_eq]))
  show wpAny _ _ (if (Value.type "bytes" == Value.type "bytes") = true then _ else _) _ _ _
  refine bm_if_true (by decide) ?_
  have fin := fun t k => hR h₃ t k fun b o hbI hbS e => he b o hbI ((hs₂.2 b hbS).trans ((hs.2 b hbI).trans e))
  first
    | exact wpAny_pure (fin _ _)
    | exact wpAny_bind (wpAny_pure (wpAny_pure (fin _ _)))

theorem tup_new {l : Addr} {c : Nat} {t : Tok} {Q : Value → Shared → Prop} (hh : A.handled = none) (hl : s.heap.IsTuple l #[.int c t]) (hc : c < 256)
    (hQ : ∀ h' t k, (∀ b o, s.heap.get? b = some o → h'.get? b = some o) → Q (.bytes #[c.toUInt8] t) { s with heap := h', toks := k }) :
    codeAny (model prog w) A (.call (.builtin "bytes.__new__") ⟨[.type "bytes", .ref l], []⟩) (wants Q E) s := by
  refine codeAny_of_tree ?_
  show wpAny _ A.in1 (do checkBuiltinCall "bytes.__new__" ⟨[.type "bytes", .ref l], []⟩; again (.builtin "bytes.__new__" ⟨[.type "bytes", .ref l], []⟩)) _ _ s
  refine wpAny_bind (wpAny_of_eq (F.bm_newCall _) (wpAny_pure ⟨plainId_quiet F.bm_plain _, codeAny_builtin F.bm_entry ?_⟩))
  rw [Around.under_plainId F.bm_plain _]
  have hT : s.TypeIs (.ref l) "tuple" := hl.typeIs
  obtain ⟨ol, hol, hoc, nl, hod⟩ := id hl
  unfold Builtin.«bytes.__new__»
  refine wpAny_bind (wpAny_of_eq (a := true) rfl ?_)
  refine bm_if_false rfl ?_
  refine wpAny_bind (wpAny_of_eq F.bm_sub ?_)
  refine bm_if_false rfl ?_
  refine wpAny_bind (wpAny_of_eq (F.bm_bind _) ?_)
  refine wpAny_bind (wpAny_of_eq (a := ()) rfl ?_)
  refine wpAny_bind (wpAny_of_eq (a := ()) rfl ?_)
  refine bm_if_false rfl ?_
  refine wpAny_bind (wpAny_specialOf hT tup_no_bytes ?_)
  refine wpAny_bind (wpAny_bind ?_)
  show wpAny _ _ (load l >>= _) _ _ _
  refine wpAny_bind (wpAny_load hol ?_)
  rw [hod]
  refine wpAny_pure (wpAny_pure ?_)
  refine bm_if_false rfl ?_
  refine wpAny_bind (wpAny_specialOf hT tup_no_index ?_)
  refine bm_if_true rfl ?_
  first
    | show wpAny _ _ (Builtin.Bytes.buffer? "bytes.__new__" (.ref l) true >>= _) _ _ _
    | (refine wpAny_bind ?_; show wpAny _ _ (Builtin.Bytes.buffer? "bytes.__new__" (.ref l) true >>= _) _ _ _)
  refine wpAny_bind ?_
  unfold Builtin.Bytes.buffer?
  refine wpAny_bind (wpAny_specialOf hT tup_no_buffer ?_)
  refine wpAny_bind (wpAny_specialOf hT tup_no_buffer ?_)
  refine wpAny_pure ?_
  refine wpAny_bind (wpAny_tryCatch (wpAny_pyIter_tuple hl ?_))
  have hl₁ : (s.heap.push { cls := .type "tuple_iterator", data := .fields #[.ref l, .int 0 0] }).IsTuple l #[.int c t] := hl.push _
  have hT₁ : ({ s with heap := s.heap.push { cls := .type "tuple_iterator", data := .fields #[.ref l, .int 0 0] } } : Shared).TypeIs (.ref l) "tuple" := Heap.IsTuple.typeIs (s := { s with heap := s.heap.push { cls := .type "tuple_iterator", data := .fields #[.ref l, .int 0 0] } }) hl₁
  refine wpAny_bind (wpAny_holding ?_)
  unfold Builtin.Bytes.lengthHint
  refine wpAny_bind (wpAny_specialOf hT₁ F.slot_tuple_len.lookup ?_)
  dsimp only
  rw [tup_split]
  dsimp only
  refine wpAny_bind (wpAny_isInstance hT₁ tup_sub ?_)
  refine bm_if_false rfl ?_
  refine bm_if_true (by decide +kernel) ?_
  refine wpAny_pure ?_
  refine wpAny_bind ?_
  unfold Builtin.Bytes.newBytearray
  refine wpAny_newObj_type ?_ (Nat.zero_le _)
  have hI : ((s.heap.push { cls := .type "tuple_iterator", data := .fields #[.ref l, .int 0 0] }).push { cls := .type "bytearray", data := .bytearray #[] }).IsTupleIter s.heap.objs.size l 0 :=
    ⟨_, Heap.get?_push_of_some _ (Heap.get?_push_size _ rfl), rfl, rfl⟩
  have hlt : l < s.heap.objs.size := Heap.lt_size hol
  have hsz : (s.heap.push { cls := .type "tuple_iterator", data := .fields #[.ref l, .int 0 0] }).objs.size = s.heap.objs.size + 1 := Heap.size_push _ _
  have main := tup_loop (prog := prog) (w := w) (A := A) (R := wants Q E) (l := l) (I := s.heap.objs.size) (S := (s.heap.push { cls := .type "tuple_iterator", data := .fields #[.ref l, .int 0 0] }).objs.size) (c := c) (t := t)
    (s := { s with heap := (s.heap.push { cls := .type "tuple_iterator", data := .fields #[.ref l, .int 0 0] }).push { cls := .type "bytearray", data := .bytearray #[] } }) hh hc (by rw [hsz]; exact Nat.ne_of_lt (Nat.lt_succ_self _)) (Nat.ne_of_lt hlt) (by rw [hsz]; exact Nat.ne_of_lt (Nat.lt_succ_of_lt hlt)) (hl₁.push _) hI (Heap.get?_push_size _ rfl)
    fun h' t k hk => hQ h' t k fun b o e => hk b o (Nat.ne_of_lt (Heap.lt_size e)) (by rw [hsz]; exact Nat.ne_of_lt (Nat.lt_succ_of_lt (Heap.lt_size e))) (Heap.get?_push_of_some _ (Heap.get?_push_of_some _ e))
  first
    | exact wpAny_pure ⟨plainId_quiet F.bm_plain_loop _, main⟩
    | exact wpAny_pure (wpAny_pure ⟨plainId_quiet F.bm_plain_loop _, main⟩)

theorem call_bytes_tup {l : Addr} {c : Nat} {t : Tok} {Q : Value → Shared → Prop} (hh : A.handled = none) (hl : s.heap.IsTuple l #[.int c t]) (hc : c < 256)
    (hQ : ∀ h' t k, (∀ b o, s.heap.get? b = some o → h'.get? b = some o) → Q (.bytes #[c.toUInt8] t) { s with heap := h', toks := k }) : wpAny (model prog w) A (call (.type "bytes") [.ref l]) Q E s := by
  refine callType_codes (Q₁ := fun obj s₁ => s₁.TypeIs obj "bytes" ∧ Q obj s₁) F.bm_called (F.bm_typeCall _) F.entry_object_init
    (tup_new hh hl hc fun h' t k hk => ⟨PySem.W.typeIs_bytes _ _ _, hQ h' t k hk⟩) fun obj s₁ h₁ => ?_
  exact ⟨h₁.1, F.args_object_init_2 obj _, object_init_meets F.bm_called.init.lookup F.bm_called.made (by decide) prog w A.in1 _ s₁ ⟨h₁.1, rfl, h₁.2⟩⟩
end
section
variable {prog : Program} {w : World} {A : Around} {E : Value → Shared → Prop} {s : Shared} {h₀ : Heap} {L : Addr} {m : PySem.Str → Option Value} {news : List (Addr × Obj)}
theorem call_bytes_tupK {l : Addr} {c : Nat} {t : Tok} {Q : Value → Shared → Prop} (hh : A.handled = none) (F : Fr h₀ L s.heap m) (N : News h₀ L s.heap news) (hm : (l, ({ cls := .type "tuple", data := .seq #[.int c t] } : Obj)) ∈ news) (hc : c < 256)
    (hQ : ∀ h' t k, Fr h₀ L h' m → News h₀ L h' news → Q (.bytes #[c.toUInt8] t) { s with heap := h', toks := k }) : wpAny (model prog w) A (call (.type "bytes") [.ref l]) Q E s :=
  call_bytes_tup hh ⟨_, N.get hm, rfl, _, rfl⟩ hc fun h' t k hk => hQ h' t k ⟨F.ns.keeps hk, fun b o e => hk b o (F.keep b o e), F.above⟩ fun p hp => ⟨hk _ _ (N p hp).1, (N p hp).2⟩
end
/-! a comprehension whose elements are told by a relation -/
section
variable {prog : Program} {w : World} {A : Around} {h₀ : Heap} {L : Addr} {m : PySem.Str → Option Value} {env : Env} {elt : PySem.Expr} {x : PySem.Str} {scope : Scope} {cl : List (PySem.Str × Addr)} {s : Shared} {S : List (Addr × Obj) → Prop} {P : Nat → Value → Prop} {Fin : List Value → List (Addr × Obj) → Prop} {news : List (Addr × Obj)}
def CgEl (R : Nat → Value → Prop) (i : Nat) (news : List (Addr × Obj)) (y : Value) (news' : List (Addr × Obj)) : Prop := news' = news ∧ R i y
theorem cg_rest {n : Nat} (R : Nat → Value → Prop)
    (turn : ∀ i v I oI C oC D m₂ ys h tk (E' : Value → Shared → Prop), i < n → P i v → LCg.NsObj oC m₂ → m₂ x = some v → Fr h₀ L h m → News h₀ L h ((I, oI) :: (C, oC) :: (D, LCg.lst ys) :: news) → LCg.Off3 I C D news → ((@Ne Nat I C) ∧ (@Ne Nat I D) ∧ (@Ne Nat C D)) →
      wpAny (model prog w) A (eval elt (compEnvC scope cl C env)) (LCg.CompEnd h₀ L m { s with heap := h, toks := tk } I oI C oC D (LCg.lst ys) S (fun y news' => CgEl R i news y news')) E' { s with heap := h, toks := tk })
    (fin : ∀ ys, ys.length = n → (∀ i v, ys[i]? = some v → R i v) → Fin ys news) : LCg.CompRest prog w A h₀ L m env elt x scope cl s S P Fin n 0 [] news := by
  have key : ∀ (j i : Nat) (ys : List Value), i + j = n → ys.length = i → (∀ i v, ys[i]? = some v → R i v) → LCg.CompRest prog w A h₀ L m env elt x scope cl s S P Fin j i ys news := by
    intro j
    induction j with
    | zero => exact fun i ys hi hy hr => LCg.CompRest.zero (fin ys (by omega) hr)
    | succ j ih =>
      intro i ys hi hl hy
      refine LCg.CompRest.succ ?_
      intro v I oI C oC D m₂ h tk E' hv hC hx F N off ne
      refine wpAny_mono (turn i v I oI C oC D m₂ ys h tk E' (by omega) hv hC hx F N off ne) (fun y s₂ hq => ?_) fun _ _ e => e
      obtain ⟨h', tk', nw, e, F', N', off', hS, rfl, hy'⟩ := hq
      refine ⟨h', tk', nw, e, F', N', off', hS, ih (i + 1) _ (by omega) (by simp [hl]) fun k v hk => ?_⟩
      rw [List.getElem?_append] at hk
      split at hk
      · exact hy k v hk
      · rename_i hge
        have : k - ys.length = 0 := by
          have := (List.getElem?_eq_some_iff.mp hk).1
          simp at this
          omega
        rw [this] at hk
        have hv : y = v := by simpa using hk
        have hki : k = i := by omega
        rw [hki, ← hv]; exact hy'
  exact key n 0 [] (by omega) rfl (fun i v h => by simp at h)
end
end Mine
end
namespace Mine
theorem lull10 : True ∧ True := by
  w_top off
  k_with_none
  first
    | (walk1; fail)
    | exact ⟨trivial, trivial⟩
end Mine
section
open PySem PySem.W PySem.Spec PySem.Calls PyProof.Rows
namespace Mine
local macro_rules | `(tactic| k_room) => `(tactic| (simp only [depth_mark, depth_under_make, depth_under_kw, depth_in1, depth_deeper, depth_caller, ktrTop, recursionLimit]; omega))
local macro_rules | `(tactic| k_units) => `(tactic| (simp only [units_in1, units_deeper, Around.mark_units, units_caller, ktrTop, cLine_is]; omega))
local macro_rules | `(tactic| ktr_enter) => `(tactic| (refine' code_def ?k1 ?k2 ?k3 ?k4 ?k5 ?kA ?kF ?kK ?k6 ?k7 ?k8 ?k9 ?kB ?_ ?c2 ?c3 ?c4 ?c5; (case kA => exact rfl); (case kF => exact rfl); (case kK => assumption); (case k1 => k_asm); (case k2 => k_asm); (case k3 => k_asm); (case k4 => k_asm); (case k5 => k_asm); (case k6 => k_is); (case k7 => k_is); (case k8 => k_room); (case k9 => first | exact BindsTo.of_eq rfl | exact binds_K (by k_in) rfl (by k_is) rfl rfl rfl); (case c5 => decide); (case kB => exact locs rfl); (case c2 => exact rfl); (case c3 => exact rfl); (case c4 => exact rfl); k_whole; intro g' L' h' FG' F' N' B' X' T'; (try dsimp only); (try k_fold)))
local macro_rules | `(tactic| walk_at "compareOp Eq int int") => `(tactic| first | (refine eq_no (by first | omega | (simp only [List.length_append, List.length_cons, List.length_nil, ne_eq]; omega)) ?_) | (refine eq_yes (by omega) ?_))
local macro_rules | `(tactic| walk_at "compareOp Lt int int") => `(tactic| first | (refine lt_yes (by omega) ?_) | (refine lt_no (by omega) ?_))
local macro_rules | `(tactic| walk_at "CompSrc") => `(tactic| (k_here; k_dflt (refine LCg.CompSrc.range (by rfl) (by k_asm) (by k_asm) (by assumption) (by decide) (by first | exact rangeSize_nat _ _ | rfl) (by exact Nat.le_of_ble_eq_true rfl) ?_; intro g'; refine cg_rest (fun i v => ∃ t, v = .bytes #[i.toUInt8] t) (fun i v I oI C oC D m₂ ys h tk E' hi hv hC hx F' N' off' ne' => ?_) (fun ys hys hyr => ?_)); (all_goals (try (simp only [LCg.Off3, and_true] at off'))); (all_goals (try (obtain ⟨t9, hv9⟩ := hv; rw [Int.zero_add] at hv9; subst hv9)))))
local macro_rules | `(tactic| walk_at "call type:bytes") => `(tactic| (k_here; (with_reducible show wpAny _ _ (call (Value.type "bytes") [Value.ref _]) _ _ _); k_dflt (refine call_bytes_tupK (by rfl) (by k_asm) (by k_asm) (by k_mem) (by omega) ?_); intro h' t' k' F' N'))
local macro_rules | `(tactic| walk_at "CgEl") => `(tactic| (exact ⟨rfl, _, rfl⟩))

theorem off1_mem {D : Addr} : ∀ {l : List (Addr × Obj)}, LCg.Off1 D l → ∀ p ∈ l, p.1 ≠ D
  | [], _, _, h => nomatch h
  | q :: r, h, p, hp => by
    rcases List.mem_cons.mp hp with rfl | hp
    · exact h.1
    · exact off1_mem h.2 p hp
theorem off1_of {D : Addr} : ∀ {l : List (Addr × Obj)}, (∀ p ∈ l, p.1 ≠ D) → LCg.Off1 D l
  | [], _ => trivial
  | q :: r, h => ⟨h q (.head _), off1_of fun p hp => h p (.tail _ hp)⟩
local macro_rules | `(tactic| k_all) => `(tactic| exact off1_mem (by assumption))
local macro_rules | `(tactic| walk_at "FinE") => `(tactic| ((unfold LCg.FinE); intro D' h' tk' F' N' o1'; (try simp only [LCg.Off1, and_true] at o1'); (try (obtain ⟨oa, ob, oc, od⟩ := o1')); (try simp only [List.nil_append, List.cons_append] at N'); (try dsimp only)))
local macro_rules | `(tactic| walk_at "CompEnd") => `(tactic| ((rename News _ _ _ _ => N9); refine LCg.CompEnd.intro (by assumption) N9 _ (by kst_inAny) (by simp only [LCg.Off3, and_true]; assumption) True.intro (show CgEl _ _ _ _ _ from ⟨rfl, _, rfl⟩)))
local macro_rules | `(tactic| walk_at "call builtin:list.append") => `(tactic| (k_here; (with_reducible show wpAny _ _ (call (Value.builtin _) [Value.ref _, _]) _ _ _); k_dflt (refine append_K (by k_asm) (by k_asm) (by k_upd) ?_ (by simp only [List.size_toArray, Array.size_push, List.length_append, List.length_cons, List.length_nil, sizeLine_eq]; omega)); intro h' F' N'; (try k_sweep)))
set_option maxRecDepth 100000 in
set_option maxHeartbeats 8000000 in
theorem feed256 : ∀ (w : World) (p : Program) (loose : List Str) (mean : ExcName → Option Value) (mg mb : Str → Option Value) (dp un : Nat) (gd : Option (List Code)) (cn : Str) (cs : Scope) (a : Addr) (ccd : Value) (cl : List (Str × Addr)) (outer : List Env) (A₀ : Around) (base h₀ : Heap) (L : Addr) (m : Str → Option Value) (s : Shared)
    (Q E : Value → Shared → Prop) (x dx tb : Nat) (t1 t2 t3 t4 t5 t6 u2 u3 u4 u : Tok) (fp pv : Value) (buff bpos : Int) (items : List Value) (k : Nat) (more : List (Addr × Obj))
   (B : Below A₀ base outer h₀) (F : Fr h₀ L s.heap m) (X : (Mine.hd.heap_39 w.params).In h₀)
   (N : News h₀ L s.heap (decT w x dx tb t1 t2 t3 t4 t5 t6 u2 u3 u4 fp buff bpos pv items k ++ more)) (hoff : OwnOff more [dx])
   (T : Top p loose mean mg mb h₀) (hk : cs.kind = .function) (hd : dp < 600) (hu : un < 900) (hx1 : dx < x) (hx2 : x ≠ tb) (hx3 : dx ≠ tb)
   (ret : ∀ h' t t0 tk (tb' : Nat) u4' ys k', ys.length = 256 → (∀ (i : Nat) (v : Value), ys[i]? = some v → ∃ t, v = Value.bytes #[i.toUInt8] t) → x ≠ tb' → dx ≠ tb' → (∀ p ∈ more, p.1 ≠ tb') → Fr h₀ L h' m →
     News h₀ L h' (decT w x dx tb' t1 t2 t3 t4 t5 t6 u2 u3 u4' fp buff bpos (.bytes #[] t) (ys ++ [.none, .none]) k' ++ more) → Q (.bytes #[] t0) { s with heap := h', toks := tk }),
   wpAny (model PG w) (ktrTop dp un gd cn cs L a ccd cl outer) (call (.ref 103) [.ref x, .int 256 u]) Q E s := by
  delta PG
  k_fill
  intro w p loose mean mg mb dp un gd cn cs a ccd cl outer A₀ base h₀ L m s Q E x dx tb t1 t2 t3 t4 t5 t6 u2 u3 u4 u fp pv buff bpos items k more B F X N hoff T hk hd hu hx1 hx2 hx3 ret
  simp only [decT, List.cons_append, List.nil_append] at N ret
  refine wpAny_call ?_
  k_dflt ktr_enter
  k_steps
  (rename News _ _ _ _ => N9)
  simp only [LCg.lst, List.push_toArray, List.append_assoc, List.cons_append, List.nil_append] at N9
  refine ret _ _ _ _ _ _ _ _ (by assumption) (by assumption) (by assumption) (by assumption) (off1_mem (by assumption)) (by assumption) (by first | exact N9 | exact kst_newsOf N9 (by kst_inAny))
end Mine
end
namespace Mine
theorem lull11 : True ∧ True := by
  w_top off
  k_with_none
  first
    | (walk1; fail)
    | exact ⟨trivial, trivial⟩
end Mine
section
open PySem PySem.W PySem.Spec PySem.Calls PyProof.Rows
namespace Mine
/-- a step of the reader: at byte i, bpos q, buff c; then at i', q', c'; the code v -/
inductive RB (b : Array UInt8) : Nat → Nat → Nat → Nat → Nat → Nat → Nat → Prop
  | B {i q c : Nat} {y : UInt8} : 1 ≤ q → q ≤ 7 → b[i]? = some y → RB b i q c (i + 1) (q + 1) y.toNat ((c * 256 + y.toNat) / 2 ^ (7 - q) % 512)
  | A {i c : Nat} {y z : UInt8} : b[i]? = some y → b[i + 1]? = some z → RB b i 8 c (i + 2) 1 z.toNat ((y.toNat * 256 + z.toNat) / 2 ^ 7 % 512)

theorem readbits {w : World} {p : Program} {loose : List Str} {mean : ExcName → Option Value} {mg mb : Str → Option Value} {dp un : Nat} {gd : Option (List Code)} {cn : Str} {cs : Scope} {a : Addr} {ccd : Value} {cl : List (Str × Addr)} {outer : List Env} {A₀ : Around} {base h₀ : Heap} {L : Addr} {m : Str → Option Value} {s : Shared}
    {Q E : Value → Shared → Prop} {x dx tb bx bdx ba : Nat} {i c q i' q' c' v : Nat} {t1 t2 t3 t4 t5 t6 u2 u3 u4 s1 s2 v1 u : Tok} {b : Array UInt8} {pv : Value} {more : List (Addr × Obj)}
   (B : Below A₀ base outer h₀) (F : Fr h₀ L s.heap m) (X : (Mine.hd.heap_39 w.params).In h₀)
   (N : News h₀ L s.heap (decL w x dx bx tb t1 t2 t3 t4 t5 t6 u2 u3 u4 c q pv ++ bioL w bx bdx ba s1 s2 v1 b i ++ more)) (hoff : OwnOff more [dx, bdx])
   (T : Top p loose mean mg mb h₀) (hk : cs.kind = .function) (hd : dp < 600) (hu : un < 900) (hx1 : bdx < bx) (hx2 : bx < ba) (hx3 : ba < dx) (hx4 : dx < x) (hb : b.size < 2000) (hc : c < 256) (R : RB b i q c i' q' c' v)
   (ret : ∀ h' t u2 u3 v1 tk, Fr h₀ L h' m → News h₀ L h' (decL w x dx bx tb t1 t2 t3 t4 t5 t6 u2 u3 u4 c' q' pv ++ bioL w bx bdx ba s1 s2 v1 b i' ++ more) → Q (.int v t) { s with heap := h', toks := tk }) :
   wpAny (model PG w) (ktrTop dp un gd cn cs L a ccd cl outer) (call (.ref 98) [.ref x, .int 9 u]) Q E s := by
  cases R with
  | B h1 h7 hy => exact readB w p loose mean mg mb dp un gd cn cs a ccd cl outer A₀ base h₀ L m s Q E x dx tb bx bdx ba i c q t1 t2 t3 t4 t5 t6 u2 u3 u4 s1 s2 v1 u b _ pv more B F X N hoff T hk hd hu hx1 hx2 hx3 hx4 hb h1 h7 hc hy ret
  | A hy hz => exact readA w p loose mean mg mb dp un gd cn cs a ccd cl outer A₀ base h₀ L m s Q E x dx tb bx bdx ba i c t1 t2 t3 t4 t5 t6 u2 u3 u4 s1 s2 v1 u b _ _ pv more B F X N hoff T hk hd hu hx1 hx2 hx3 hx4 hb hc hz hy ret

/-- a step of the decoder: table, prevbuf, code; then a word of the new table; the new prevbuf; what is told -/
inductive FD : List Value → Value → Nat → (List Value → Prop) → Array UInt8 → Array UInt8 → Prop
  | clear {items : List Value} {pv : Value} : FD items pv 256 (fun is => ∃ ys, is = ys ++ [.none, .none] ∧ ys.length = 256 ∧ ∀ (i : Nat) (v : Value), ys[i]? = some v → ∃ t, v = Value.bytes #[i.toUInt8] t) #[] #[]
  | stop {items : List Value} {q : Array UInt8} {u : Tok} : FD items (.bytes q u) 257 (fun is => is = items) q #[]
  | first {items : List Value} {u u6 : Tok} {c : Nat} {y : Array UInt8} : c < 256 → items[c]? = some (.bytes y u6) → FD items (.bytes #[] u) c (fun is => is = items) y y
  | old {items : List Value} {u u6 : Tok} {c : Nat} {q y : Array UInt8} : c ≠ 256 → c ≠ 257 → c < items.length → items.length < 500 → 0 < q.size → q.size < 1000 → 0 < y.size → y.size < 1000 → items[c]? = some (.bytes y u6) →
      FD items (.bytes q u) c (fun is => ∃ t, is = items ++ [.bytes (q ++ y.extract 0 1) t]) y y
  | made {items : List Value} {u : Tok} {q : Array UInt8} : 258 ≤ items.length → items.length < 500 → 0 < q.size → q.size < 1000 →
      FD items (.bytes q u) items.length (fun is => ∃ t, is = items ++ [.bytes (q ++ q.extract 0 1) t]) (q ++ q.extract 0 1) (q ++ q.extract 0 1)

theorem feed {w : World} {p : Program} {loose : List Str} {mean : ExcName → Option Value} {mg mb : Str → Option Value} {dp un : Nat} {gd : Option (List Code)} {cn : Str} {cs : Scope} {a : Addr} {ccd : Value} {cl : List (Str × Addr)} {outer : List Env} {A₀ : Around} {base h₀ : Heap} {L : Addr} {m : Str → Option Value} {s : Shared}
    {Q E : Value → Shared → Prop} {x dx tb c : Nat} {t1 t2 t3 t4 t5 t6 u2 u3 u4 u : Tok} {fp pv : Value} {buff bpos : Int} {items : List Value} {k : Nat} {G : List Value → Prop} {q y : Array UInt8} {more : List (Addr × Obj)}
   (B : Below A₀ base outer h₀) (F : Fr h₀ L s.heap m) (X : (Mine.hd.heap_39 w.params).In h₀)
   (N : News h₀ L s.heap (decT w x dx tb t1 t2 t3 t4 t5 t6 u2 u3 u4 fp buff bpos pv items k ++ more)) (hoff : OwnOff more [dx, tb])
   (T : Top p loose mean mg mb h₀) (hk : cs.kind = .function) (hd : dp < 600) (hu : un < 900) (hx1 : dx < x) (hx2 : x ≠ tb) (hx3 : dx ≠ tb)
   (D : FD items pv c G q y)
   (ret : ∀ h' t tk (tb' : Nat) u4' u5' items' k', G items' → x ≠ tb' → dx ≠ tb' → OwnOff more [dx, tb'] → Fr h₀ L h' m →
     News h₀ L h' (decT w x dx tb' t1 t2 t3 t4 t5 t6 u2 u3 u4' fp buff bpos (.bytes q u5') items' k' ++ more) → Q (.bytes y t) { s with heap := h', toks := tk }) :
   wpAny (model PG w) (ktrTop dp un gd cn cs L a ccd cl outer) (call (.ref 103) [.ref x, .int c u]) Q E s := by
  have hoff1 : OwnOff more [dx] := fun p hp b hb => hoff p hp b (by rw [List.mem_singleton.mp hb]; exact .head _)
  cases D with
  | clear =>
    exact feed256 w p loose mean mg mb dp un gd cn cs a ccd cl outer A₀ base h₀ L m s Q E x dx tb t1 t2 t3 t4 t5 t6 u2 u3 u4 u fp pv buff bpos items k more B F X N hoff1 T hk hd hu hx1 hx2 hx3 fun h' t t0 tk tb' u4' ys k' h1 h2 h3 h4 h5 F' N' =>
      ret h' t0 tk tb' u4' t _ k' ⟨ys, rfl, h1, h2⟩ h3 h4 (fun p hp b hb => by
        rcases List.mem_cons.mp hb with rfl | hb
        · exact hoff p hp _ (.head _)
        · rw [List.mem_singleton.mp hb]; exact h5 p hp) F' N'
  | stop =>
    exact feed257 w p loose mean mg mb dp un gd cn cs a ccd cl outer A₀ base h₀ L m s Q E x u _ B F X N T hk hd hu fun h' t tk F' N' => ret h' t tk tb u4 _ items k rfl hx2 hx3 hoff F' N'
  | first hc hit =>
    exact feedFirst w p loose mean mg mb dp un gd cn cs a ccd cl outer A₀ base h₀ L m s Q E x dx tb c t1 t2 t3 t4 t5 t6 u2 u3 u4 u _ _ fp buff bpos items k _ more B F X N hoff T hk hd hu hx1 hx2 hx3 hc hit fun h' tk F' N' => ret h' _ tk tb u4 _ items k rfl hx2 hx3 hoff F' N'
  | old c1 c2 c3 c4 c5 c6 c7 c8 c9 =>
    exact feedNext1 w p loose mean mg mb dp un gd cn cs a ccd cl outer A₀ base h₀ L m s Q E x dx tb c t1 t2 t3 t4 t5 t6 u2 u3 u4 u _ _ fp buff bpos items k _ _ more B F X N hoff T hk hd hu hx1 hx2 hx3 ⟨c1, c2⟩ c3 c4 c5 c6 c7 c8 c9 fun h' t tk F' N' => ret h' _ tk tb u4 _ _ (k + 1) ⟨t, rfl⟩ hx2 hx3 hoff F' N'
  | made c1 c2 c3 c4 =>
    exact feedNext2 w p loose mean mg mb dp un gd cn cs a ccd cl outer A₀ base h₀ L m s Q E x dx tb t1 t2 t3 t4 t5 t6 u2 u3 u4 u _ fp buff bpos items k _ more B F X N hoff T hk hd hu hx1 hx2 hx3 c1 c2 c3 c4 fun h' t tk F' N' => ret h' t tk tb u4 _ _ (k + 1) ⟨t, rfl⟩ hx2 hx3 hoff F' N'

/-! the text of run, by its place in the written part -/
def fdOf (o : Option Obj) : Option FuncData := match o with
  | some ⟨_, _, .func fd, _⟩ => some fd
  | _ => none
def bodyOf (o : Option Obj) : List Stmt := match fdOf o with
  | some fd => (match fd.body with | .stmts b => b | _ => [])
  | none => []
def scopeOf (o : Option Obj) : Scope := match fdOf o with
  | some fd => fd.scope
  | none => default
def loopOf (l : List Stmt) : List Stmt := match l with
  | [.While _ b _ _] => b
  | _ => []
def atN (l : List Stmt) (k : Nat) : Stmt := match l, k with
  | st :: _, 0 => st
  | _ :: r, k + 1 => atN r k
  | [], _ => .Pass default
noncomputable def runAt (w : World) (k : Nat) : Stmt := atN (loopOf (bodyOf ((Mine.hd.heap_39 w.params).lookup 110))) k
noncomputable def runScope (w : World) : Scope := scopeOf ((Mine.hd.heap_39 w.params).lookup 110)
noncomputable def runEnv (w : World) (L : Addr) : Env := PyProof.Rows.envOf (Str.ofString "LZWDecoder.run") (runScope w) L 110 (.ref 109)
abbrev gm (cv xv : Option Value) (x : Nat) : Str → Option Value := fun y => if y = Str.ofString "code" then cv else if y = Str.ofString "x" then xv else if y = Str.ofString "self" then some (.ref x) else none
theorem gm_code (v : Value) (cv xv : Option Value) (x : Nat) : (fun y => if y = Str.ofString "code" then some v else gm cv xv x y) = gm (some v) xv x := by
  funext y
  show (if y = Str.ofString "code" then some v else if y = Str.ofString "code" then cv else _) = (if y = Str.ofString "code" then some v else _)
  by_cases h : y = Str.ofString "code" <;> simp [h]
theorem gm_x (v : Value) (cv xv : Option Value) (x : Nat) : (fun y => if y = Str.ofString "x" then some v else gm cv xv x y) = gm cv (some v) x := by
  funext y
  show (if y = Str.ofString "x" then some v else if y = Str.ofString "code" then cv else if y = Str.ofString "x" then xv else _) = (if y = Str.ofString "code" then cv else if y = Str.ofString "x" then some v else _)
  by_cases h : y = Str.ofString "x"
  · subst h
    have : ¬ (Str.ofString "x" = Str.ofString "code") := by decide
    simp [this]
  · simp [h]
abbrev genA (dp un : Nat) (gd : Option (List Code)) (outer : List Env) : Around := { handled := none, depth := dp, frames := some outer, guards := gd, units := un }
local macro_rules | `(tactic| k_room) => `(tactic| (simp only [depth_mark, depth_under_make, depth_under_kw, depth_in1, depth_deeper, depth_caller, ktrTop, recursionLimit]; omega))
local macro_rules | `(tactic| k_units) => `(tactic| (simp only [units_in1, units_deeper, Around.mark_units, units_caller, ktrTop, cLine_is]; omega))
local macro_rules | `(tactic| ktr_enter) => `(tactic| (refine' code_def ?k1 ?k2 ?k3 ?k4 ?k5 ?kA ?kF ?kK ?k6 ?k7 ?k8 ?k9 ?kB ?_ ?c2 ?c3 ?c4 ?c5; (case kA => exact rfl); (case kF => exact rfl); (case kK => assumption); (case k1 => k_asm); (case k2 => k_asm); (case k3 => k_asm); (case k4 => k_asm); (case k5 => k_asm); (case k6 => k_is); (case k7 => k_is); (case k8 => k_room); (case k9 => first | exact BindsTo.of_eq rfl | exact binds_K (by k_in) rfl (by k_is) rfl rfl rfl); (case c5 => decide); (case kB => exact locs rfl); (case c2 => exact rfl); (case c3 => exact rfl); (case c4 => exact rfl); k_whole; intro g' L' h' FG' F' N' B' X' T'; (try dsimp only); (try k_fold)))
local macro_rules | `(tactic| walk_at "compareOp Eq int int") => `(tactic| first | (refine eq_no (by first | omega | (simp only [List.length_append, List.length_cons, List.length_nil, ne_eq]; omega)) ?_) | (refine eq_yes (by omega) ?_))
local macro_rules | `(tactic| walk_at "compareOp Lt int int") => `(tactic| first | (refine lt_yes (by omega) ?_) | (refine lt_no (by omega) ?_))
local macro_rules | `(tactic| walk_at "call ref") => `(tactic| (k_here; (with_reducible show wpAny _ _ (call (Value.ref 98) [Value.ref _, Value.int 9 _]) _ _ _); k_dflt (refine readbits (by k_asm) (by k_asm) (by k_asm) (by k_asm) (by assumption) (by k_asm) (by exact rfl) (by k_room) (by k_units) (by assumption) (by assumption) (by assumption) (by assumption) (by assumption) (by assumption) (by assumption) ?_); (try dsimp only); intro h' t' a' b' c' tk' F' N'))
set_option maxRecDepth 100000 in
set_option maxHeartbeats 8000000 in
theorem tryRead : ∀ (w : World) (p : Program) (loose : List Str) (mean : ExcName → Option Value) (mg mb : Str → Option Value) (dp un : Nat) (gd : Option (List Code)) (outer : List Env) (A₀ : Around) (base h₀ : Heap) (L : Addr) (s : Shared)
    (Q : Flow → Shared → Prop) (E : Value → Shared → Prop) (x dx tb bx bdx ba : Nat) (i c q i' q' c' v : Nat) (t1 t2 t3 t4 t5 t6 u2 u3 u4 s1 s2 v1 u : Tok) (b : Array UInt8) (pv : Value) (cv xv : Option Value) (more : List (Addr × Obj))
   (B : Below A₀ base outer h₀) (F : Fr h₀ L s.heap (gm cv xv x)) (X : (Mine.hd.heap_39 w.params).In h₀)
   (N : News h₀ L s.heap (decL w x dx bx tb t1 t2 t3 t4 t5 t6 u2 u3 u4 c q pv ++ bioL w bx bdx ba s1 s2 v1 b i ++ more)) (hoff : OwnOff more [dx, bdx])
   (T : Top p loose mean mg mb h₀) (hd : dp < 500) (hu : un < 800) (hx1 : bdx < bx) (hx2 : bx < ba) (hx3 : ba < dx) (hx4 : dx < x) (hb : b.size < 2000) (hc : c < 256) (R : RB b i q c i' q' c' v)
   (ret : ∀ h' t u2 u3 v1 tk, Fr h₀ L h' (gm (some (.int v t)) xv x) → News h₀ L h' (decL w x dx bx tb t1 t2 t3 t4 t5 t6 u2 u3 u4 c' q' pv ++ bioL w bx bdx ba s1 s2 v1 b i' ++ more) → Q .next { s with heap := h', toks := tk }),
   SegP (wpAny (model PG w) ((genA dp un gd outer).deeper (runEnv w L)) (exec (runAt w 0) (runEnv w L)) Q E s) := by
  delta PG
  k_fill
  intro w p loose mean mg mb dp un gd outer A₀ base h₀ L s Q E x dx tb bx bdx ba i c q i' q' c' v t1 t2 t3 t4 t5 t6 u2 u3 u4 s1 s2 v1 u b pv cv xv more B F X N hoff T hd hu hx1 hx2 hx3 hx4 hb hc R ret
  obtain ⟨st, hst⟩ : ∃ st, runAt w 0 = st := ⟨_, rfl⟩
  obtain ⟨sc, hsc⟩ : ∃ sc, runScope w = sc := ⟨_, rfl⟩
  unfold runEnv
  rw [hst, hsc]
  conv at hst => lhs; whnf
  conv at hsc => lhs; whnf
  subst hst hsc
  refine ⟨?_⟩
  k_steps
  (rename Fr _ _ _ _ => F9)
  rw [gm_code] at F9
  exact ret _ _ _ _ _ _ F9 (by assumption)

local macro_rules | `(tactic| walk_at "call ref") => `(tactic| (k_here; (with_reducible show wpAny _ _ (call (Value.ref 103) [Value.ref _, Value.int (Nat.cast _) _]) _ _ _); k_dflt (refine feed (by k_asm) (by k_asm) (by k_asm) (by k_asm) (by assumption) (by k_asm) (by exact rfl) (by k_room) (by k_units) (by assumption) (by assumption) (by assumption) (by assumption) ?_); (try dsimp only); intro h' t' tk' tb' a' b' i' k' hG' hA' hB' hC' F' N'))
set_option maxRecDepth 100000 in
set_option maxHeartbeats 8000000 in
theorem tryFeed : ∀ (w : World) (p : Program) (loose : List Str) (mean : ExcName → Option Value) (mg mb : Str → Option Value) (dp un : Nat) (gd : Option (List Code)) (outer : List Env) (A₀ : Around) (base h₀ : Heap) (L : Addr) (s : Shared)
    (Q : Flow → Shared → Prop) (E : Value → Shared → Prop) (x dx tb c : Nat) (t1 t2 t3 t4 t5 t6 u2 u3 u4 u : Tok) (fp pv : Value) (buff bpos : Int) (items : List Value) (k : Nat) (G : List Value → Prop) (q y : Array UInt8) (xv : Option Value) (more : List (Addr × Obj))
   (B : Below A₀ base outer h₀) (F : Fr h₀ L s.heap (gm (some (.int c u)) xv x)) (X : (Mine.hd.heap_39 w.params).In h₀)
   (N : News h₀ L s.heap (decT w x dx tb t1 t2 t3 t4 t5 t6 u2 u3 u4 fp buff bpos pv items k ++ more)) (hoff : OwnOff more [dx, tb])
   (T : Top p loose mean mg mb h₀) (hd : dp < 500) (hu : un < 800) (hx1 : dx < x) (hx2 : x ≠ tb) (hx3 : dx ≠ tb)
   (D : FD items pv c G q y)
   (ret : ∀ h' t tk (tb' : Nat) u4' u5' items' k', G items' → x ≠ tb' → dx ≠ tb' → OwnOff more [dx, tb'] → Fr h₀ L h' (gm (some (.int c u)) (some (.bytes y t)) x) →
     News h₀ L h' (decT w x dx tb' t1 t2 t3 t4 t5 t6 u2 u3 u4' fp buff bpos (.bytes q u5') items' k' ++ more) → Q .next { s with heap := h', toks := tk }),
   SegP (wpAny (model PG w) ((genA dp un gd outer).deeper (runEnv w L)) (exec (runAt w 1) (runEnv w L)) Q E s) := by
  delta PG
  k_fill
  intro w p loose mean mg mb dp un gd outer A₀ base h₀ L s Q E x dx tb c t1 t2 t3 t4 t5 t6 u2 u3 u4 u fp pv buff bpos items k G q y xv more B F X N hoff T hd hu hx1 hx2 hx3 D ret
  obtain ⟨st, hst⟩ : ∃ st, runAt w 1 = st := ⟨_, rfl⟩
  obtain ⟨sc, hsc⟩ : ∃ sc, runScope w = sc := ⟨_, rfl⟩
  unfold runEnv
  rw [hst, hsc]
  conv at hst => lhs; whnf
  conv at hsc => lhs; whnf
  subst hst hsc
  refine ⟨?_⟩
  k_steps
  (rename Fr _ _ _ _ => F9)
  rw [gm_x] at F9
  exact ret _ _ _ _ _ _ _ _ (by assumption) (by assumption) (by assumption) (by assumption) F9 (by assumption)
end Mine
end
namespace Mine
theorem lull12 : True ∧ True := by
  w_top off
  k_with_none
  first
    | (walk1; fail)
    | exact ⟨trivial, trivial⟩
end Mine
section
open PySem PySem.W PySem.Spec PySem.Calls PyProof.Rows
set_option maxRecDepth 100000
namespace Mine
open PySem.F

theorem excCall_EOFError : ExcCallFacts "EOFError" "EOFError.__new__" "EOFError.__init__" where
  ends := by decide +kernel
  owner := by decide +kernel
  entry := entryFor_alias (id' := "BaseException.__new__") (by rw [fastTable_eq_tree]; kernel_rfl) (by first | rfl | decide +kernel) (by decide +kernel) (by rw [fastTable_eq_tree]; kernel_rfl)
  sub := by rw [isSubtype_type]; kernel_rfl
  notAttr := by rw [isSubtype_type]; kernel_rfl
  notName := by rw [isSubtype_type]; kernel_rfl
  made := by kernel_rfl
  notType := by decide +kernel
  canMake := by kernel_rfl
  noVector := fun args => by kernel_rfl
  mro := ⟨[.type "EOFError", .type "Exception", .type "BaseException", .type "object"], by rw [mroOf_type]; kernel_rfl, rfl⟩
  madeBy := by kernel_rfl
  quiet := by decide +kernel
  newOk := fun rest => by kernel_rfl
  init := .of (owner := "EOFError") (n := "__init__") (by rw [typeLookup_type, builtinLookup_eq_fast]; kernel_rfl) (by decide +kernel) (by decide +kernel) (by decide +kernel)
    (by first | exact .inl (by decide +kernel) | exact .inr (by decide +kernel)) (by rw [isSubtype_type]; kernel_rfl)
  initEntry := entryFor_alias (id' := "BaseException.__init__") (by rw [fastTable_eq_tree]; kernel_rfl) (by first | rfl | decide +kernel) (by decide +kernel) (by rw [fastTable_eq_tree]; kernel_rfl)
  initSplit := by kernel_rfl
  initKind := by kernel_rfl
  initRow := by kernel_rfl
  noStar := by decide +kernel

theorem excBase_EOFError : ExcBaseFacts "EOFError" "EOFError.__new__" "EOFError.__init__" [.type "EOFError", .type "Exception", .type "BaseException", .type "object"] where
  toExcCallFacts := excCall_EOFError
  newSplit := by kernel_rfl
  newKind := by kernel_rfl
  newRow := by kernel_rfl
  mroIs := by rw [mroOf_type]; kernel_rfl
  hasB := by decide +kernel
  hasBase := by decide +kernel
  noAttr := by decide +kernel
  noName := by decide +kernel
  canon := by decide +kernel

abbrev bmE : List Value := [.type "EOFError", .type "Exception", .type "BaseException", .type "object"]
abbrev newE : String := "Exception.__new__"

section
variable {M : Model} {prog : Program} {w : World} {A : Around} {R : Result → Shared → Prop} {E : Value → Shared → Prop} {h : Heap} {g : Array GenState} {d : Drawn} {t : Nat} {os : OsState}
variable {nm q : Str} {C N : Addr} {bs bm : List Value} {hdct : Bool} {sn : List Str} {sub : List Value} {ab : Bool} {col : Option Bool} {dd : Option Addr} {k0 k1 k2 k3 k5 : Option Value}

theorem eof_check_new (T : OwnTail h bmE bm) {rest : List Value} {Q : Unit → Shared → Prop} (hC : h.get? C = some (excClassObj nm q C N bs bm hdct sn sub ab col dd k0 k1 k2 k3 k5 newE))
    (hq : Q () ⟨h, g, d, t, os⟩) : wpAny M A (checkBuiltinCall newE ⟨.ref C :: rest, []⟩) Q E ⟨h, g, d, t, os⟩ := by
  have F := excBase_Exception
  have hcont : (Value.ref C :: bm).contains (.type "Exception") = true := by rw [List.contains_cons, T.hasType (b := true) (by decide +kernel), Bool.or_true]
  have hstar := F.noStar
  simp only [checkBuiltinCall, F.newKind, F.newSplit, F.newRow]
  repeat (first | refine wpAny_loadPart_at hC ?_ | (refine wpAny_isSubtype_exc hC ?_; rw [hcont]) | refine wpAny_staticBase_exc hC ?_ | refine wpAny_madeBy_exc hC ?_ | simp only [bne_self_eq_false, Bool.false_eq_true, if_false] | wp_step)
  exact hq

theorem eof_new (T : OwnTail h bmE bm) {rest : List Value} (hC : h.get? C = some (excClassObj nm q C N bs bm hdct sn sub ab col dd k0 k1 k2 k3 k5 newE))
    (hq : R (.ok (.ret (.ref (h.objs.size + 1)))) ⟨(h.push { cls := .type "tuple", data := .seq rest.toArray }).push
      { cls := .ref C, data := .fields #[.ref h.objs.size, .none, .none, .none, .bool false, .none] }, g, d, t, os⟩) (hrest : rest.length ≤ sizeLine := by size_fits) :
    codeAny (model prog w) A (.builtin newE ⟨.ref C :: rest, []⟩) R ⟨h, g, d, t, os⟩ := by
  have F := excBase_Exception
  have hends := F.ends
  have hcB : (Value.ref C :: bm).contains (.type "Exception") = true := by rw [List.contains_cons, T.hasType (b := true) (by decide +kernel), Bool.or_true]
  have hcA : (Value.ref C :: bm).contains (.type "AttributeError") = false := by rw [List.contains_cons, T.hasType (b := false) (by decide +kernel)]; rfl
  have hcN : (Value.ref C :: bm).contains (.type "NameError") = false := by rw [List.contains_cons, T.hasType (b := false) (by decide +kernel)]; rfl
  refine codeAny_builtinAt F.entry ?_
  unfold Builtin.«BaseException.__new__»
  refine PySem.wpAt_bind ?_
  show PySem.wpAt _ _ _ (stack >>= _) _ _ _
  refine PySem.wpAt_bind (PySem.wpAt_stack fun p below => PySem.wpAt_of_wpAny ?_)
  wp_walk
  refine PySem.wpAt_of_wpAny ?_
  rw [F.owner]
  repeat (first | with_reducible refine wpAny_madeHere_exc F.canon hC ?_ | with_reducible refine wpAny_loadPart_at hC ?_ | (with_reducible refine wpAny_isSubtype_exc hC ?_; first | rw [hcB] | rw [hcA] | rw [hcN]) | wp_step)
  show R _ _
  rw [Heap.size_push]
  exact hq

theorem eof_type_call (T : OwnTail h bmE bm) {mN : Str → Option Value} {rest : List Value} {Q : Fin → Shared → Prop}
    (hC : h.get? C = some (excClassObj nm q C N bs bm hdct sn sub ab col dd k0 k1 k2 k3 k5 newE)) (hn : h.Ns N mN) (hni : mN "__init__" = none)
    (hq : ∀ h' e, Heap.MadeExcOf h h' e (.ref C) rest → Q (.done (.ret (.ref e))) ⟨h', g, d, t, os⟩) (hrest : rest.length ≤ sizeLine := by size_fits) :
    wpAny (model prog w) A (Builtin.«type.__call__» ⟨.ref C :: rest, []⟩) Q E ⟨h, g, d, t, os⟩ := by
  have F := excBase_EOFError
  repeat (first | with_reducible refine wpAny_loadPart_at hC ?_ | with_reducible refine wpAny_madeBy_exc hC ?_ | wp_step)
  refine codeAny_call_builtin_code (Code.quiet_builtin _ excBase_Exception.quiet) (eof_check_new T hC ?_)
  refine eof_new T hC ?_ hrest
  show wpAny _ _ _ _ _ _
  have hC₁ := Heap.get?_push_of_some { cls := .ref C, data := .fields #[.ref h.objs.size, .none, .none, .none, .bool false, .none] }
    (Heap.get?_push_of_some { cls := .type "tuple", data := .seq rest.toArray } hC)
  have hn₁ : ((h.push { cls := .type "tuple", data := .seq rest.toArray }).push { cls := .ref C, data := .fields #[.ref h.objs.size, .none, .none, .none, .bool false, .none] }).Ns N mN :=
    let ⟨o, es, ep, e, r⟩ := hn; ⟨o, es, ep, Heap.get?_push_of_some _ (Heap.get?_push_of_some _ e), r⟩
  have hget : ((h.push { cls := .type "tuple", data := .seq rest.toArray }).push
      { cls := .ref C, data := .fields #[.ref h.objs.size, .none, .none, .none, .bool false, .none] }).get? (h.objs.size + 1) = some
      { cls := .ref C, data := .fields #[.ref h.objs.size, .none, .none, .none, .bool false, .none] } := by heap_get
  have hcC : (Value.ref C :: bm).contains (.ref C) = true := by simp
  have T₁ := T.keeps (h' := (h.push { cls := .type "tuple", data := .seq rest.toArray }).push { cls := .ref C, data := .fields #[.ref h.objs.size, .none, .none, .none, .bool false, .none] })
    fun b o e => Heap.get?_push_of_some _ (Heap.get?_push_of_some _ e)
  unfold isInstance
  repeat (first | with_reducible refine wpAny_loadPart_at hget ?_ | (with_reducible refine wpAny_isSubtype_exc hC₁ ?_; rw [hcC]) | wp_step)
  show wpAny _ _ (typeLookup (.ref C) _) _ _ _
  refine wpAny_typeLookup_tail hC₁ hn₁ T₁ F.mroIs F.init.lookup ?_
  rw [hni]
  refine wpAny_holding (wpAny_bind (wpAny_of_eq (F.init.bind _) ?_))
  refine wpAny_bind (wpAny_call (codeAny_call_builtin F.init.plain F.initEntry ?_))
  · have hcB : (Value.ref C :: bm).contains (.type "EOFError") = true := by rw [List.contains_cons, T₁.hasType F.hasB, Bool.or_true]
    have hshort := F.noStar
    simp only [checkBuiltinCall, F.initKind, F.initSplit, F.initRow]
    repeat (first | (with_reducible refine wpAny_loadPart_at hget ?_) | with_reducible refine wpAny_loadPart_at hC₁ ?_ | (with_reducible refine wpAny_isSubtype_exc hC₁ ?_; rw [hcB]) | wp_step)
    refine wpAny_onRaise ?_
    rw [show ∀ (a b : String) (n : Nat), Bind.check ⟨.positional, "*", "EOFError", .self, [⟨"args", .varPos, false⟩]⟩ a b n (List.map (fun x => x.fst) ({ pos := Value.ref (h.objs.size + 1) :: rest } : Args).kw) = pure () from
      fun a b n => check_star_args _ _ _ _ _ _]
    refine wpAny_pure ?_
    wp_walk
    refine hq _ _ ⟨fun b o hb => ?_, Heap.get?_none_of_le (Nat.le_succ _), h.objs.size + 2, ?_, Heap.get?_none_of_le (by omega), ?_⟩
    · rw [Heap.get?_update_other _ _ (Nat.ne_of_gt (Nat.lt_succ_of_lt (Heap.lt_size hb)))]
      exact Heap.get?_push_of_some _ (Heap.get?_push_of_some _ (Heap.get?_push_of_some _ hb))
    · rw [Heap.get?_update_self _ (Heap.get?_push_of_some _ hget) rfl]
      simp only [Heap.size_push]
      rfl
    · rw [Heap.get?_update_other _ _ (show h.objs.size + 1 ≠ h.objs.size + 2 by omega)]
      exact Heap.get?_push_at (by simp only [Heap.size_push]) rfl

theorem eof_call (T : OwnTail h bmE bm) {mN : Str → Option Value} {rest : List Value} {Q : Value → Shared → Prop}
    (hC : h.get? C = some (excClassObj nm q C N bs bm hdct sn sub ab col dd k0 k1 k2 k3 k5 newE)) (hn : h.Ns N mN) (hni : mN "__init__" = none)
    (hq : ∀ h' e, Heap.MadeExcOf h h' e (.ref C) rest → Q (.ref e) ⟨h', g, d, t, os⟩) (hrest : rest.length ≤ sizeLine := by size_fits) :
    wpAny (model prog w) A (call (.ref C) rest) Q E ⟨h, g, d, t, os⟩ := by
  have f1 := tc_lookup
  have f2 := tc_bind (.ref C)
  have hT : (⟨h, g, d, t, os⟩ : Shared).TypeIs (.ref C) "type" := ⟨_, hC, rfl⟩
  refine wpAny_call (codeAny_of_tree ?_)
  show wpAny _ _ (callAny (.ref C) _) _ _ _
  repeat (any_goals (first | assumption | with_reducible refine wpAny_loadPart_at hC ?_ | wp_step))
  refine ⟨rfl, ?_⟩
  refine codeAny_call_builtin_at (Code.quiet_builtin _ (by decide +kernel)) entry_typeCall (wpAny_check_type_call_sub hC (eof_type_call (hrest := hrest) T hC hn hni fun h' e hm => ?_))
  exact hq h' e hm

theorem eof_nested {k : Value} {dep : Int} {tk : Tok} {Q : Fin → Shared → Prop} (hk : k = .int dep tk) (hC : h.get? C = some (excClassObj nm q C N bs bm hdct sn sub ab col dd k0 k1 k2 k3 k5 newE))
    (hq : Q (.done (.ret (.bool true))) ⟨h, g, d, t, os⟩) : wpAny (model prog w) A (Builtin.«issubclass.nested» ⟨[.ref C, .ref C, k], []⟩) Q E ⟨h, g, d, t, os⟩ := by
  subst hk
  have hT : (⟨h, g, d, t, os⟩ : Shared).TypeIs (.ref C) "type" := ⟨_, hC, rfl⟩
  have hcC : (Value.ref C :: bm).contains (.ref C) = true := by simp
  repeat (any_goals (first | assumption | (with_reducible refine wpAny_isSubtype_exc hC ?_; rw [hcC]) | with_reducible refine wpAny_loadPart_at hC ?_ | wp_step))

theorem eof_issub {Q : Value → Shared → Prop} (hC : h.get? C = some (excClassObj nm q C N bs bm hdct sn sub ab col dd k0 k1 k2 k3 k5 newE)) (hq : Q (.bool true) ⟨h, g, d, t, os⟩) :
    wpAny (model prog w) A (call (.builtin "issubclass") [.ref C, .ref C]) Q E ⟨h, g, d, t, os⟩ := by
  refine call_issubclass (S := fun _ R s => s.heap.get? C = some (excClassObj nm q C N bs bm hdct sn sub ab col dd k0 k1 k2 k3 k5 newE) ∧ R (.ok (.ret (.bool true))) s) (fun p w A R s hs => ?_) ⟨hC, hq⟩
  obtain ⟨hh, g, d, t, os⟩ := s
  exact issubclass_outer (eof_nested rfl hs.1 hs.2)
end

section
variable {prog : Program} {w : World} {A : Around} {E : Value → Shared → Prop} {s : Shared} {env : Env} {name : Str} {scope : Scope} {L a : Addr} {cd : Value} {h₀ : Heap} {m mg : Str → Option Value}
  {x : Str} {C : Addr} {np pos : Pos} {Q : Flow → Shared → Prop}
set_option maxHeartbeats 2000000 in
theorem raise_eof (F : Fr h₀ L s.heap m) (hg : h₀.Ns mainGlobals mg) (O : OwnCls x C bmE newE mg h₀) (hh : A.handled = none)
    (h : ∀ h' e, Heap.MadeExcOf s.heap h' e (.ref C) [] → E (.ref e) { s with heap := h' })
    (hk : scope.kind = .function := by rfl) (hx : (envOf name scope L a cd).kindOf x = some .globalImplicit := by rfl) (hd : (x == ("__debug__" : Str)) = false := by decide) :
    wpAny (model prog w) A (exec (.Raise (some (.Name x np)) none pos) (envOf name scope L a cd)) Q E s := by
  obtain ⟨bm, N, nm, q, bs, hdct, sn, sub, ab, col, dd, k0, k1, k2, k3, k5, mN, hC₀, hN₀, hni, T₀⟩ := O.obj
  have hC := F.keep _ _ hC₀
  have hN := hN₀.keeps F.keep
  have T := T₀.keeps F.keep
  have hbase : bm.contains (.type "BaseException") = true := T.hasType (by decide +kernel)
  have hcB : (Value.ref C :: bm).contains (.type "BaseException") = true := by rw [List.contains_cons, hbase, Bool.or_true]
  show wpAny _ _ (do standAt pos; raiseStmt (envOf name scope L a cd) (some (do let v ← eval (.Name x np) (envOf name scope L a cd); standAt pos; pure v)) none) Q E s
  refine wpAny_bind (wpAny_standAt ?_)
  unfold raiseStmt
  dsimp only
  refine wpAny_bind (wpAny_bind (wpAny_mono (ld_own F hg O (Q := fun v s₁ => v = .ref C ∧ s₁ = s) ⟨rfl, rfl⟩ hk hx hd) (fun v s₁ h₁ => wpAny_bind (wpAny_standAt (wpAny_pure ?_))) fun _ _ e => e))
  obtain ⟨rfl, hs₁⟩ := h₁
  subst s₁
  obtain ⟨hp, g, d, tk, os⟩ := s
  refine wpAny_bind (wpAny_pure ?_)
  dsimp only
  refine wpAny_bind (wpAny_holding ?_)
  unfold excFromValue isExcClass
  refine wpAny_bind (m := do if ← isType (.ref C) then isSubtype (.ref C) (.type "BaseException") else pure false) ?_
  have hT : (⟨hp, g, d, tk, os⟩ : Shared).TypeIs (.ref C) "type" := ⟨_, hC, rfl⟩
  repeat (first | with_reducible refine wpAny_raiseNew_none hh ?_ | with_reducible refine eof_issub hC' ?_ | (with_reducible refine eof_call (mN := mN) (rest := []) T hC hN hni (fun h' e hm => ?_) (Nat.zero_le _); obtain ⟨t', he, _, _⟩ := hm.there; have hC' := hm.keeps _ _ hC) | (with_reducible refine wpAny_isSubtype_exc hC' ?_; rw [hcB]) | (with_reducible refine wpAny_isSubtype_exc hC ?_; rw [hcB]) | with_reducible refine wpAny_loadPart_at he ?_ | with_reducible refine wpAny_loadPart_at hC' ?_ | with_reducible refine wpAny_loadPart_at hC ?_ | wp_step)
  exact h h' e hm
end
end Mine
end
namespace Mine
theorem lull13 : True ∧ True := by
  w_top off
  k_with_none
  first
    | (walk1; fail)
    | exact ⟨trivial, trivial⟩
end Mine
section
open PySem PySem.W PySem.Spec PySem.Calls PyProof.Rows
namespace Mine
local macro_rules | `(tactic| k_room) => `(tactic| (simp only [depth_mark, depth_under_make, depth_under_kw, depth_in1, depth_deeper, depth_caller, ktrTop, recursionLimit]; omega))
local macro_rules | `(tactic| k_units) => `(tactic| (simp only [units_in1, units_deeper, Around.mark_units, units_caller, ktrTop, cLine_is]; omega))
local macro_rules | `(tactic| ktr_enter) => `(tactic| (refine' code_def ?k1 ?k2 ?k3 ?k4 ?k5 ?kA ?kF ?kK ?k6 ?k7 ?k8 ?k9 ?kB ?_ ?c2 ?c3 ?c4 ?c5; (case kA => exact rfl); (case kF => exact rfl); (case kK => assumption); (case k1 => k_asm); (case k2 => k_asm); (case k3 => k_asm); (case k4 => k_asm); (case k5 => k_asm); (case k6 => k_is); (case k7 => k_is); (case k8 => k_room); (case k9 => first | exact BindsTo.of_eq rfl | exact binds_K (by k_in) rfl (by k_is) rfl rfl rfl); (case c5 => decide); (case kB => exact locs rfl); (case c2 => exact rfl); (case c3 => exact rfl); (case c4 => exact rfl); k_whole; intro g' L' h' FG' F' N' B' X' T'; (try dsimp only); (try k_fold)))
local macro_rules | `(tactic| walk_at "compareOp Eq int int") => `(tactic| first | (refine eq_no (by first | omega | (simp only [List.length_append, List.length_cons, List.length_nil, ne_eq]; omega)) ?_) | (refine eq_yes (by omega) ?_))
local macro_rules | `(tactic| walk_at "compareOp Lt int int") => `(tactic| first | (refine lt_yes (by omega) ?_) | (refine lt_no (by omega) ?_))
local macro_rules | `(tactic| walk_at "exec While Constant") => `(tactic| (k_here; k_dflt (refine m_start ?_)))
local macro_rules | `(tactic| walk_at "exec While Constant cons nil") => `(tactic| (k_here; k_dflt (refine m_start ?_)))
local macro_rules | `(tactic| walk_at "exec While") => `(tactic| (k_here; k_dflt (refine m_start ?_)))
local macro_rules | `(tactic| walk_at "WhlRest") => `(tactic| (k_dflt (refine' m_turn ?hE ?_; (case hE => first | passes_own | with_unfolding_all passes_own)); (try k_sweep)))
local macro_rules | `(tactic| walk_at "MPost") => `(tactic| (dsimp only [MPost]))
local macro_rules | `(tactic| walk_at "truthy bytes") => `(tactic| (k_here; first | (refine truthy_void ?_) | (refine truthy_full (by simp) (by simp) ?_)))
local macro_rules | `(tactic| walk_at "call builtin:ord") => `(tactic| (k_here; refine ord_byte ?_))
local macro_rules | `(tactic| walk_at "call ref") => `(tactic| (k_here; (with_reducible show wpAny _ _ (call (Value.ref 342) [Value.ref _, Value.int 1 _]) _ _ _); k_dflt (refine read1_eof (by k_asm) (by k_asm) (by k_asm) (by k_asm) (by k_asm) (by exact rfl) (by k_room) (by k_units) (by k_mem) (by k_mem) (by k_updF) (by assumption) (by assumption) (by assumption) (by assumption) ?_); (try dsimp only); intro h' t' tk' F' N'))
theorem isExc_EOF : isSubtype (.type "EOFError") (.type "BaseException") = pure true := by rw [isSubtype_type]; kernel_rfl
theorem notTuple_EOF : isSubtype (.type ((Manifest.find? "EOFError").elim "type" fun y => y.metatype)) (.type "tuple") = pure false := by
  rw [show ((Manifest.find? "EOFError").elim "type" fun y => y.metatype) = "type" from by kernel_rfl, isSubtype_type]; kernel_rfl
local macro_rules | `(tactic| walk_at "exec Raise some none") => `(tactic| (k_here; (with_reducible show wpAny _ _ (exec (Stmt.Raise (some (Expr.Name _ _)) none _) _) _ _ _); k_dflt (refine' raise_eof ?F ?g ?O ?h ?_; (case F => k_asm); (case g => exact TopRead.g (by k_asm)); (case O => exact own_of_in (by k_asm) (by k_asm) (by k_is) (by k_exc)); (case h => first | rfl | assumption); k_whole; intro h' e' M')))
local macro_rules | `(tactic| walk_at "noteFrame ref") => `(tactic| (k_here; (rename RaisedS _ _ _ _ _ _ _ _ _ => rsX); k_dflt (refine' caught_ST0 (T' := "EOFError") ?R ?F ?K ?U ?XB ?TB ?D ?T0 ?q ?ex PyProof.Rows.Boot.«EOFError» ?hn isExc_EOF notTuple_EOF ?_ ?o1 ?o2 ?o3 ?hE; (case hE => (rename ∀ _, PassesOwnAt _ _ _ _ _ => hpo); exact hpo _); (case o1 => rfl); (case o2 => rfl); (case o3 => decide); (case R => assumption); (case F => assumption); (case K => assumption); (case U => assumption); (case XB => assumption); (case TB => assumption); (case D => assumption); (case T0 => first | assumption | exact KtsTurn.refl); (case q => kts_isx); (case ex => k_is); (case hn => decide); k_whole); intro h' g' n₂ T' F' N₂ G' N' K' X' P' D'; (try k_lift K'); (try k_sweep)))
set_option maxRecDepth 100000 in
set_option maxHeartbeats 8000000 in
theorem tryEof : ∀ (w : World) (p : Program) (loose : List Str) (mean : ExcName → Option Value) (mg mb : Str → Option Value) (dp un : Nat) (gd : Option (List Code)) (outer : List Env) (base h₀ : Heap) (L : Addr) (s : Shared)
    (Q : Flow → Shared → Prop) (E : Value → Shared → Prop) (x dx tb bx bdx ba : Nat) (i c q : Nat) (t1 t2 t3 t4 t5 t6 u2 u3 u4 s1 s2 v1 u : Tok) (b : Array UInt8) (pv : Value) (cv xv : Option Value) (more : List (Addr × Obj))
   (B : Below (genA dp un gd outer) base outer h₀) (F : Fr h₀ L s.heap (gm cv xv x)) (X : (Mine.hd.heap_39 w.params).In h₀)
   (XB : (Mine.hd.heap_39 w.params).In base) (TB : Top p loose mean mg mb base) (D : KtsDicts (outer.filterMap (·.frame)) h₀)
   (N : News h₀ L s.heap (decL w x dx bx tb t1 t2 t3 t4 t5 t6 u2 u3 u4 c q pv ++ bioL w bx bdx ba s1 s2 v1 b i ++ more)) (hoff : OwnOff more [dx, bdx])
   (T : Top p loose mean mg mb h₀) (hd : dp < 500) (hu : un < 800) (hx1 : bdx < bx) (hx2 : bx < ba) (hx3 : ba < dx) (hx4 : dx < x) (hb : b.size < 2000) (hc : c < 256) (hq1 : 1 ≤ q) (hq2 : q ≤ 8) (hy : b[i]? = none)
   (hpo : ∀ e : Addr, PassesOwnAt (model PG w) (((genA dp un gd outer).deeper (runEnv w L)).mark (some (.ref e))) ((genA dp un gd outer).deeper (runEnv w L)) (runEnv w L) E)
   (ret : ∀ h' g' tk, KtsTurn (outer.filterMap (·.frame)) h₀ g' → Fr g' L h' (gm cv xv x) → Below (genA dp un gd outer) base outer g' → (Mine.hd.heap_39 w.params).In g' → Top p loose mean mg mb g' → KtsDicts (outer.filterMap (·.frame)) g' → News g' L h' more → Q .brk { s with heap := h', toks := tk }),
   SegP (wpAny (model PG w) ((genA dp un gd outer).deeper (runEnv w L)) (exec (runAt w 0) (runEnv w L)) Q E s) := by
  delta PG
  k_fill
  intro w p loose mean mg mb dp un gd outer base h₀ L s Q E x dx tb bx bdx ba i c q t1 t2 t3 t4 t5 t6 u2 u3 u4 s1 s2 v1 u b pv cv xv more B F X XB TB D N hoff T hd hu hx1 hx2 hx3 hx4 hb hc hq1 hq2 hy hpo ret
  refine ⟨?_⟩
  simp only [decL, bioL, List.cons_append, List.nil_append] at N
  obtain ⟨st, hst⟩ : ∃ st, runAt w 0 = st := ⟨_, rfl⟩
  obtain ⟨sc, hsc⟩ : ∃ sc, runScope w = sc := ⟨_, rfl⟩
  unfold runEnv at hpo ⊢
  rw [hsc] at hpo
  rw [hst, hsc]
  conv at hst => lhs; whnf
  conv at hsc => lhs; whnf
  subst hst hsc
  k_steps
  dsimp only
  exact ret _ _ _ (by assumption) (by assumption) (by assumption) (by assumption) (by assumption) (by assumption) (fun p hp => by rename News _ _ _ _ => N9; exact N9 p (by simp [hp]))
end Mine
end
namespace Mine
theorem lull14 : True ∧ True := by
  w_top off
  k_with_none
  first
    | (walk1; fail)
    | exact ⟨trivial, trivial⟩
end Mine
section
open PySem PySem.W PySem.Spec PySem.Calls PyProof.Rows
namespace Mine
def testOf (l : List Stmt) : Expr := match l with
  | [.While t _ _ _] => t
  | _ => default
def posOf (l : List Stmt) : Pos := match l with
  | [.While _ _ _ p] => p
  | _ => default
noncomputable def runBody (w : World) : List Stmt := bodyOf ((Mine.hd.heap_39 w.params).lookup 110)
noncomputable def runTest (w : World) : Expr := testOf (runBody w)
noncomputable def runPos (w : World) : Pos := posOf (runBody w)
set_option maxRecDepth 100000 in
theorem runBody_is (w : World) : runBody w = [.While (runTest w) [runAt w 0, runAt w 1, runAt w 2] [] (runPos w)] := by
  kernel_rfl
noncomputable def loopC (w : World) (L : Addr) : Code := .whileLoop (runTest w) [runAt w 0, runAt w 1, runAt w 2] [] (runEnv w L)
noncomputable def funcC (w : World) (L : Addr) : Code := .func (runBody w) (runEnv w L)
theorem over_loop (dp un : Nat) (gd : Option (List Code)) (outer : List Env) (w : World) (L : Addr) (k : Result → Sem Fin) (l : List Value) (p : Pos) :
    (genA dp un gd outer).over (loopC w L) [.ret k none false l (funcC w L) p []] = (genA dp un gd outer).deeper (runEnv w L) := by
  rfl

inductive Dec (b : Array UInt8) : Nat → Nat → Nat → List Value → Value → List (Array UInt8) → Prop
  | nil {i q c : Nat} {items : List Value} {pv : Value} : b[i]? = none → 1 ≤ q → q ≤ 8 → c < 256 → Dec b i q c items pv []
  | step {i q c i' q' c' v : Nat} {items : List Value} {pv : Value} {G : List Value → Prop} {qv y : Array UInt8} {outs : List (Array UInt8)} :
      c < 256 → RB b i q c i' q' c' v → FD items pv v G qv y → (∀ items' u, G items' → Dec b i' q' c' items' (.bytes qv u) outs) → Dec b i q c items pv (y :: outs)

def CSame (ℓ ga : Nat) (s s' : Shared) : Prop := (∀ b, b = ℓ ∨ b = ga → s'.heap.get? b = s.heap.get? b) ∧ s'.gens = s.gens ∧ s'.drawn = s.drawn ∧ s'.os = s.os
def Cont (ℓ : Nat) (s s' : Shared) : Prop := (∀ b o, b ≠ ℓ → s.heap.get? b = some o → s'.heap.get? b = some o) ∧ ∃ o, s'.heap.get? ℓ = some o
theorem CSame.refl {ℓ ga : Nat} {s : Shared} : CSame ℓ ga s s := ⟨fun _ _ => rfl, rfl, rfl, rfl⟩

def GI (w : World) (h₀ : Heap) (L x dx bx bdx ba ℓ ga : Nat) (b : Array UInt8) (i q c : Nat) (items : List Value) (pv : Value) (s : Shared) : Prop :=
  ∃ (tb : Nat) (t1 t2 t3 t4 t5 t6 u2 u3 u4 s1 s2 v1 : Tok) (k : Nat) (cv xv : Option Value) (ol og : Obj), Fr h₀ L s.heap (gm cv xv x) ∧
    News h₀ L s.heap (decT w x dx tb t1 t2 t3 t4 t5 t6 u2 u3 u4 (.ref bx) c q pv items k ++ (bioL w bx bdx ba s1 s2 v1 b i ++ [(ℓ, ol), (ga, og)])) ∧
    x ≠ tb ∧ dx ≠ tb ∧ OwnOff (bioL w bx bdx ba s1 s2 v1 b i ++ [(ℓ, ol), (ga, og)]) [dx, tb]

structure GC (x dx bx bdx ba ℓ ga : Nat) : Prop where
  h1 : bdx < bx
  h2 : bx < ba
  h3 : ba < dx
  h4 : dx < x
  l1 : ℓ ≠ x
  l2 : ℓ ≠ dx
  l3 : ℓ ≠ bx
  l4 : ℓ ≠ bdx
  l5 : ℓ ≠ ba
  g1 : ga ≠ x
  g2 : ga ≠ dx
  g3 : ga ≠ bx
  g4 : ga ≠ bdx
  g5 : ga ≠ ba
  lg : ℓ ≠ ga

theorem mem3 {X Y : List (Addr × Obj)} {p c1 c2 : Addr × Obj} : p ∈ X ++ (Y ++ [c1, c2]) ↔ p ∈ X ∨ p ∈ Y ∨ p = c1 ∨ p = c2 := by
  simp only [List.mem_append, List.mem_cons, List.not_mem_nil, or_false]

theorem GI.cont {w : World} {h₀ : Heap} {L x dx bx bdx ba ℓ ga : Nat} {b : Array UInt8} {i q c : Nat} {items : List Value} {pv : Value} {s s' : Shared} (hc : GC x dx bx bdx ba ℓ ga)
    (g : GI w h₀ L x dx bx bdx ba ℓ ga b i q c items pv s) (k : Cont ℓ s s') : GI w h₀ L x dx bx bdx ba ℓ ga b i q c items pv s' := by
  obtain ⟨tb, t1, t2, t3, t4, t5, t6, u2, u3, u4, s1, s2, v1, kk, cv, xv, ol, og, F, N, n1, n2, hoff⟩ := g
  obtain ⟨kh, o', ho'⟩ := k
  have e5 : ℓ ≠ tb := fun e => hoff (ℓ, ol) (List.mem_append_right _ (by simp)) tb (by simp) e
  have nl := N (ℓ, ol) (mem3.mpr (.inr (.inr (.inl rfl))))
  have hl1 : ∀ p ∈ decT w x dx tb t1 t2 t3 t4 t5 t6 u2 u3 u4 (.ref bx) c q pv items kk, p.1 ≠ ℓ := by
    intro p hp
    simp only [decT, List.mem_cons, List.not_mem_nil, or_false] at hp
    rcases hp with rfl | rfl | rfl
    · exact hc.l1.symm
    · exact hc.l2.symm
    · exact e5.symm
  have hl2 : ∀ p ∈ bioL w bx bdx ba s1 s2 v1 b i, p.1 ≠ ℓ := by
    intro p hp
    simp only [bioL, List.mem_cons, List.not_mem_nil, or_false] at hp
    rcases hp with rfl | rfl | rfl
    · exact hc.l3.symm
    · exact hc.l4.symm
    · exact hc.l5.symm
  refine ⟨tb, t1, t2, t3, t4, t5, t6, u2, u3, u4, s1, s2, v1, kk, cv, xv, o', og, ⟨?_, fun a o e => ?_, F.above⟩, fun p hp => ?_, n1, n2, fun p hp a ha => ?_⟩
  · obtain ⟨o, es, ep, ho, r⟩ := F.ns
    exact ⟨o, es, ep, kh L o (fun e => nl.2.1 e.symm) ho, r⟩
  · exact kh a o (fun e => by subst e; have := nl.2.2; rw [e] at this; cases this) (F.keep a o e)
  · rcases mem3.mp hp with h | h | h | h
    · have := N p (mem3.mpr (.inl h))
      exact ⟨kh _ _ (hl1 p h) this.1, this.2⟩
    · have := N p (mem3.mpr (.inr (.inl h)))
      exact ⟨kh _ _ (hl2 p h) this.1, this.2⟩
    · subst h
      exact ⟨ho', nl.2⟩
    · have := N p (mem3.mpr (.inr (.inr (.inr h))))
      exact ⟨kh _ _ (by rw [h]; exact hc.lg.symm) this.1, this.2⟩
  · have hp' : p ∈ bioL w bx bdx ba s1 s2 v1 b i ∨ p = (ℓ, o') ∨ p = (ga, og) := by
      simpa only [List.mem_append, List.mem_cons, List.not_mem_nil, or_false] using hp
    rcases hp' with h | h | h
    · exact hoff p (List.mem_append_left _ h) a ha
    · subst h
      exact hoff (ℓ, ol) (by simp) a ha
    · exact hoff p (by rw [h]; simp) a ha

theorem GI.same {w : World} {h₀ : Heap} {L x dx bx bdx ba ℓ ga : Nat} {b : Array UInt8} {i q c : Nat} {items : List Value} {pv : Value} {s : Shared}
    (g : GI w h₀ L x dx bx bdx ba ℓ ga b i q c items pv s) : ∃ ol og, s.heap.get? ℓ = some ol ∧ s.heap.get? ga = some og := by
  obtain ⟨tb, t1, t2, t3, t4, t5, t6, u2, u3, u4, s1, s2, v1, kk, cv, xv, ol, og, F, N, n1, n2, hoff⟩ := g
  exact ⟨ol, og, (N (ℓ, ol) (by simp)).1, (N (ga, og) (by simp)).1⟩

set_option maxRecDepth 100000 in
theorem tryTest (w : World) (A : Around) (env : Env) (s : Shared) (Q : Bool → Shared → Prop) (E : Value → Shared → Prop) (h : ∀ tk, Q true { s with toks := tk }) : wpAny (model PG w) A (isTrue (runTest w) env (eval (runTest w) env)) Q E s := by
  obtain ⟨st, hst⟩ : ∃ st, runTest w = st := ⟨_, rfl⟩
  rw [hst]
  conv at hst => lhs; whnf
  subst hst
  k_steps
  exact h _

def yieldedOf (st : Stmt) : Expr := match st with
  | .Expr (.Yield (some e) _) _ => e
  | _ => default
def yp1 (st : Stmt) : Pos := match st with
  | .Expr (.Yield (some e) p) _ => p
  | _ => default
def yp2 (st : Stmt) : Pos := match st with
  | .Expr (.Yield (some e) _) p => p
  | _ => default
set_option maxRecDepth 100000 in
theorem yield_is (w : World) : runAt w 2 = .Expr (.Yield (some (yieldedOf (runAt w 2))) (yp1 (runAt w 2))) (yp2 (runAt w 2)) := by
  kernel_rfl
set_option maxRecDepth 100000 in
theorem run_noco (w : World) (L : Addr) : (runEnv w L).scope.isCoroutine = false := by kernel_rfl
set_option maxRecDepth 100000 in
theorem run_noint (w : World) (L : Addr) : interactive (runEnv w L) = false := by kernel_rfl

set_option maxRecDepth 100000 in
theorem tryX (w : World) (p : Program) (A : Around) (loose : List Str) (mean : ExcName → Option Value) (mg mb : Str → Option Value) (h₀ : Heap) (L x : Nat) (s : Shared) (Q : Value → Shared → Prop) (E : Value → Shared → Prop) (cv : Option Value) (v : Value)
    (F : Fr h₀ L s.heap (gm cv (some v) x)) (X : (Mine.hd.heap_39 w.params).In h₀) (T : Top p loose mean mg mb h₀)
    (h : Q v s) : wpAny (model PG w) A (eval (yieldedOf (runAt w 2)) (runEnv w L)) Q E s := by
  obtain ⟨st, hst⟩ : ∃ st, yieldedOf (runAt w 2) = st := ⟨_, rfl⟩
  obtain ⟨sc, hsc⟩ : ∃ sc, runScope w = sc := ⟨_, rfl⟩
  unfold runEnv
  rw [hst, hsc]
  conv at hst => lhs; whnf
  conv at hsc => lhs; whnf
  subst hst hsc
  k_steps
  exact h
end Mine
end
namespace Mine
theorem lull15 : True ∧ True := by
  w_top off
  k_with_none
  first
    | (walk1; fail)
    | exact ⟨trivial, trivial⟩
end Mine
section
open PySem PySem.W PySem.Spec PySem.Calls PyProof.Rows
namespace Mine
def GProto (w : World) (h₀ : Heap) (L x dx bx bdx ba ℓ ga : Nat) (b : Array UInt8) (O : List (Array UInt8)) : Protocol := fun m s₀ v s' kap =>
  ∃ (y : Array UInt8) (t : Tok), O[O.length - 1 - m]? = some y ∧ v = .bytes y t ∧ CSame ℓ ga s₀ s' ∧ (∃ i q c items pv, GI w h₀ L x dx bx bdx ba ℓ ga b i q c items pv s') ∧ ∀ s'', Cont ℓ s' s'' → kap (.send .none) s''
def GFin (h₀ : Heap) (fs : List Addr) (ℓ ga : Nat) (n : Nat) (s₀ s₁ : Shared) : Prop := n = 0 ∧ CSame ℓ ga s₀ s₁ ∧ ∃ g', KtsTurn fs h₀ g' ∧ ∀ b o, g'.get? b = some o → s₁.heap.get? b = some o
def GEnd (h₀ : Heap) (fs : List Addr) (ℓ ga : Nat) : GenEnd := fun n s₀ r s₁ => r = .ok (.ret .none) ∧ GFin h₀ fs ℓ ga n s₀ s₁

theorem CSame.more {ℓ ga : Nat} {s₀ s : Shared} {h' : Heap} {tk : Nat} {ol og : Obj} (c : CSame ℓ ga s₀ s) (e1 : s.heap.get? ℓ = some ol) (e2 : s.heap.get? ga = some og) (f1 : h'.get? ℓ = some ol) (f2 : h'.get? ga = some og) :
    CSame ℓ ga s₀ { s with heap := h', toks := tk } := by
  refine ⟨fun b hb => ?_, c.2.1, c.2.2.1, c.2.2.2⟩
  rcases hb with rfl | rfl
  · exact (f1.trans e1.symm).trans (c.1 b (.inl rfl))
  · exact (f2.trans e2.symm).trans (c.1 b (.inr rfl))

section
variable {w : World} {p : Program} {loose : List Str} {mean : ExcName → Option Value} {mg mb : Str → Option Value} {dp un : Nat} {gd : Option (List Code)} {outer : List Env} {base h₀ : Heap} {L x dx bx bdx ba ℓ ga : Nat} {b : Array UInt8} {O : List (Array UInt8)}
  {k : Result → Sem Fin} {l : List Value} {pp : Pos}

set_option maxHeartbeats 8000000 in
theorem loopSeg (B : Below (genA dp un gd outer) base outer h₀) (X : (Mine.hd.heap_39 w.params).In h₀) (T : Top p loose mean mg mb h₀) (XB : (Mine.hd.heap_39 w.params).In base) (TB : Top p loose mean mg mb base)
    (D : KtsDicts (outer.filterMap (·.frame)) h₀) (hd : dp < 500) (hu : un < 800) (hc : GC x dx bx bdx ba ℓ ga) (hb : b.size < 2000)
    (hk : ∀ s₀ s n, GFin h₀ (outer.filterMap (·.frame)) ℓ ga n s₀ s → Seg (model PG w) (genA dp un gd outer) (GEnd h₀ (outer.filterMap (·.frame)) ℓ ga) (GProto w h₀ L x dx bx bdx ba ℓ ga b O) n s₀ (funcC w L) (k (.ok .next)) [] s) :
    ∀ (outs : List (Array UInt8)) (i q c : Nat) (items : List Value) (pv : Value), Dec b i q c items pv outs → ∀ pre, O = pre ++ outs → ∀ s₀ s, GI w h₀ L x dx bx bdx ba ℓ ga b i q c items pv s → CSame ℓ ga s₀ s →
      Seg (model PG w) (genA dp un gd outer) (GEnd h₀ (outer.filterMap (·.frame)) ℓ ga) (GProto w h₀ L x dx bx bdx ba ℓ ga b O) outs.length s₀ (loopC w L) ((model PG w).den (loopC w L)) [.ret k none false l (funcC w L) pp []] s := by
  intro outs
  induction outs with
  | nil =>
    intro i q c items pv hD pre hO s₀ s g cs
    cases hD with
    | nil hy hq1 hq2 hcc =>
    refine seg_whileLoop (prog := PG) ?_
    rw [show Code.whileLoop (runTest w) [runAt w 0, runAt w 1, runAt w 2] [] (runEnv w L) = loopC w L from rfl, over_loop]
    refine tryTest w _ _ _ _ _ fun tk => ?_
    rw [if_pos rfl]
    refine seg_execs_cons (seg_wrap ?_)
    obtain ⟨tb, t1, t2, t3, t4, t5, t6, u2, u3, u4, s1, s2, v1, kk, cv, xv, ol, og, F, N, n1, n2, hoff⟩ := g
    rw [over_loop]
    refine segp_mono (tryEof w p loose mean mg mb dp un gd outer base h₀ L { s with toks := tk } (fun f s' => f = .brk ∧ ∃ h' tk', s' = { s with heap := h', toks := tk' } ∧ h'.get? ℓ = some ol ∧ h'.get? ga = some og ∧ ∃ g', KtsTurn (outer.filterMap (·.frame)) h₀ g' ∧ ∀ b o, g'.get? b = some o → h'.get? b = some o)
      (fun _ _ => False) x dx tb bx bdx ba i c q t1 t2 t3 t4 t5 t6 u2 u3 u4 s1 s2 v1 0 b pv cv xv [(tb, W.listOf items.toArray kk), (ℓ, ol), (ga, og)] B F X XB TB D ?_ ?_ T hd hu hc.h1 hc.h2 hc.h3 hc.h4 hb hcc hq1 hq2 hy (fun _ => PassesOwnAt.never) ?_) ?_ fun _ _ h => h.elim
    · intro z hz
      refine N z ?_
      simp only [decL, decT, bioL, List.cons_append, List.nil_append, List.mem_cons, List.not_mem_nil, or_false] at hz ⊢
      rcases hz with h | h | h | h | h | h | h | h
      all_goals simp only [h, true_or, or_true]
    · intro z hz a ha
      simp only [List.mem_cons, List.not_mem_nil, or_false] at hz ha
      rcases hz with rfl | rfl | rfl
      · rcases ha with rfl | rfl
        · exact n2.symm
        · exact fun e => hoff (a, _) (List.mem_append_left _ (List.mem_cons_of_mem _ (List.mem_cons_self ..))) tb (by simp) e.symm
      · rcases ha with rfl | rfl
        · exact hc.l2
        · exact hc.l4
      · rcases ha with rfl | rfl
        · exact hc.g2
        · exact hc.g4
    · intro h' g' tk' hT F' B' X' T' D' N'
      exact ⟨rfl, h', tk', rfl, (N' (ℓ, ol) (by simp)).1, (N' (ga, og) (by simp)).1, g', hT, F'.keep⟩
    · rintro f s' ⟨rfl, h', tk', rfl, e1, e2, g', hT, hk'⟩
      show Seg _ _ _ _ _ _ _ (Sem.pure (.done .next)) _ _
      refine seg_leaf (r := .ok .next) ?_
      refine hk _ _ _ ⟨rfl, CSame.more cs ?_ ?_ e1 e2, g', hT, hk'⟩
      · exact (N (ℓ, ol) (mem3.mpr (.inr (.inr (.inl rfl))))).1
      · exact (N (ga, og) (mem3.mpr (.inr (.inr (.inr rfl))))).1
  | cons y outs ih =>
    intro i q c items pv hD pre hO s₀ s g cs
    cases hD with
    | @step _ _ _ i' q' c' v _ _ G qv _ _ hcc hR hF hrest =>
    refine seg_whileLoop (prog := PG) ?_
    rw [show Code.whileLoop (runTest w) [runAt w 0, runAt w 1, runAt w 2] [] (runEnv w L) = loopC w L from rfl, over_loop]
    refine tryTest w _ _ _ _ _ fun tk => ?_
    rw [if_pos rfl]
    refine seg_execs_cons (seg_wrap ?_)
    obtain ⟨tb, t1, t2, t3, t4, t5, t6, u2, u3, u4, s1, s2, v1, kk, cv, xv, ol, og, F, N, n1, n2, hoff⟩ := g
    rw [over_loop]
    refine segp_out (tryRead w p loose mean mg mb dp un gd outer _ base h₀ L { s with toks := tk } _ _ x dx tb bx bdx ba i c q i' q' c' v t1 t2 t3 t4 t5 t6 u2 u3 u4 s1 s2 v1 0 b pv cv xv [(tb, W.listOf items.toArray kk), (ℓ, ol), (ga, og)] B F X ?_ ?_ T hd hu hc.h1 hc.h2 hc.h3 hc.h4 hb hcc hR ?_)
    · intro z hz
      refine N z ?_
      simp only [decL, decT, bioL, List.cons_append, List.nil_append, List.mem_cons, List.not_mem_nil, or_false] at hz ⊢
      rcases hz with h | h | h | h | h | h | h | h
      all_goals simp only [h, true_or, or_true]
    · intro z hz a ha
      simp only [List.mem_cons, List.not_mem_nil, or_false] at hz ha
      rcases hz with rfl | rfl | rfl
      · rcases ha with rfl | rfl
        · exact n2.symm
        · exact fun e => hoff (a, _) (List.mem_append_left _ (List.mem_cons_of_mem _ (List.mem_cons_self ..))) tb (by simp) e.symm
      · rcases ha with rfl | rfl
        · exact hc.l2
        · exact hc.l4
      · rcases ha with rfl | rfl
        · exact hc.g2
        · exact hc.g4
    intro h1 tv u2' u3' v1' tk1 F1 N1
    show Seg _ _ _ _ _ _ _ (Sem.wrap _ _ _ _ (execs [runAt w 1, runAt w 2] (runEnv w L))) _ _
    refine seg_execs_cons (seg_wrap ?_)
    rw [over_loop]
    refine segp_out (tryFeed w p loose mean mg mb dp un gd outer _ base h₀ L _ _ _ x dx tb v t1 t2 t3 t4 t5 t6 u2' u3' u4 tv (.ref bx) pv c' q' items kk G qv y xv (bioL w bx bdx ba s1 s2 v1' b i' ++ [(ℓ, ol), (ga, og)]) B F1 X ?_ ?_ T hd hu hc.h4 n1 n2 hF ?_)
    · intro z hz
      refine N1 z ?_
      simp only [decL, decT, bioL, List.cons_append, List.nil_append, List.mem_cons, List.not_mem_nil, or_false] at hz ⊢
      rcases hz with h | h | h | h | h | h | h | h
      all_goals simp only [h, true_or, or_true]
    · intro z hz a ha
      have : ∃ z', z' ∈ bioL w bx bdx ba s1 s2 v1 b i ++ [(ℓ, ol), (ga, og)] ∧ z'.1 = z.1 := by
        simp only [bioL, List.cons_append, List.nil_append, List.mem_cons, List.not_mem_nil, or_false] at hz
        rcases hz with rfl | rfl | rfl | rfl | rfl
        · exact ⟨_, List.mem_cons_self .., rfl⟩
        · exact ⟨_, List.mem_cons_of_mem _ (List.mem_cons_self ..), rfl⟩
        · exact ⟨_, List.mem_cons_of_mem _ (List.mem_cons_of_mem _ (List.mem_cons_self ..)), rfl⟩
        · exact ⟨(ℓ, ol), by simp, rfl⟩
        · exact ⟨(ga, og), by simp, rfl⟩
      obtain ⟨z', hz', e⟩ := this
      rw [← e]
      exact hoff z' hz' a ha
    intro h2 ty tk2 tb' u4' u5' items' k' hG m1 m2 hoff' F2 N2
    show Seg _ _ _ _ _ _ _ (Sem.wrap _ _ _ _ (execs [runAt w 2] (runEnv w L))) _ _
    refine seg_execs_cons ?_
    rw [yield_is]
    refine seg_Expr_Yield rfl rfl rfl ?_ (run_noco w L) (run_noint w L)
    rw [over_loop]
    refine tryX w p _ loose mean mg mb h₀ L x _ _ _ _ _ F2 X T ?_
    intro kap hkap
    have e1 : s.heap.get? ℓ = some ol := (N (ℓ, ol) (mem3.mpr (.inr (.inr (.inl rfl))))).1
    have e2 : s.heap.get? ga = some og := (N (ga, og) (mem3.mpr (.inr (.inr (.inr rfl))))).1
    have f1 : h2.get? ℓ = some ol := (N2 (ℓ, ol) (mem3.mpr (.inr (.inr (.inl rfl))))).1
    have f2 : h2.get? ga = some og := (N2 (ga, og) (mem3.mpr (.inr (.inr (.inr rfl))))).1
    refine ⟨y, ty, ?_, rfl, ?_, ⟨i', q', c', items', .bytes qv u5', tb', t1, t2, t3, t4, t5, t6, u2', u3', u4', s1, s2, v1', k', _, _, ol, og, F2, N2, m1, m2, hoff'⟩, fun s'' hs => hkap _ _ ?_⟩
    · rw [hO]
      simp
    · exact CSame.more (s := s) cs e1 e2 f1 f2
    · show Seg _ _ _ _ _ _ _ _ _ _
      refine seg_again rfl ?_
      exact ih i' q' c' items' (.bytes qv u5') (hrest items' u5' hG) (pre ++ [y]) (by rw [hO]; simp) _ _ (GI.cont hc ⟨tb', t1, t2, t3, t4, t5, t6, u2', u3', u4', s1, s2, v1', k', _, _, ol, og, F2, N2, m1, m2, hoff'⟩ hs) CSame.refl
end
end Mine
end
namespace Mine
theorem lull16 : True ∧ True := by
  w_top off
  k_with_none
  first
    | (walk1; fail)
    | exact ⟨trivial, trivial⟩
end Mine
section
open PySem PySem.Calls
namespace Mine

structure Src (prog : Program) (w : World) (A : Around) (I ℓ : Addr) (n : Nat) (P : Nat → Value → Prop) (St : Nat → Shared → Prop) (Dn : Shared → Prop) : Prop where
  item : ∀ j (s : Shared) (Q : Option Value → Shared → Prop) (E : Value → Shared → Prop), j < n → St j s →
    (∀ v s', P j v → St (j + 1) s' → s'.heap.get? ℓ = s.heap.get? ℓ → Q (some v) s') → wpAny (model prog w) A (pyNext (.ref I)) Q E s
  done : ∀ (s : Shared) (Q : Option Value → Shared → Prop) (E : Value → Shared → Prop), St n s → (∀ s', Dn s' → s'.heap.get? ℓ = s.heap.get? ℓ → Q none s') → wpAny (model prog w) A (pyNext (.ref I)) Q E s
  frame : ∀ j (s : Shared) h', St j s → (∀ b o, b ≠ ℓ → s.heap.get? b = some o → h'.get? b = some o) → (∃ o, h'.get? ℓ = some o) → St j { s with heap := h' }
  self : ∀ j (s : Shared) (Q : Value → Shared → Prop) (E : Value → Shared → Prop), St j s → Q (.ref I) s → wpAny (model prog w) A (pyIter (.ref I)) Q E s
  gen : ∀ j s, St j s → s.TypeIs (.ref I) "generator"
  ne : I ≠ ℓ

section
variable {prog : Program} {w : World} {A : Around} {R : Result → Shared → Prop} {I S : Addr} {n : Nat} {P : Nat → Value → Prop} {St : Nat → Shared → Prop} {Dn : Shared → Prop}

theorem src_loop (W : Src prog w A.in1 I S n P St Dn) (hn : n ≤ sizeLine) (res : Value) :
    ∀ (k i : Nat) (s : Shared) (acc : Array Value) (c : Nat), n - i = k → i ≤ n → St i s → s.heap.get? S = some { cls := .type "list", dict := none, data := .seq acc c, slots := #[] } → ItemsOf P acc i →
    (∀ s' acc' c', Dn s' → s'.heap.get? S = some { cls := .type "list", dict := none, data := .seq acc' c', slots := #[] } → ItemsOf P acc' n → R (.ok (.ret res)) s') →
    codeAny (model prog w) A (.builtin "list.extend.loop" ⟨[.ref S, .ref I, res], []⟩) R s := by
  intro k
  induction k with
  | zero =>
    intro i s acc c hk hi hst hS hacc hR
    have hin : i = n := by omega
    subst hin
    refine codeAny_builtin F.entry_extend_loop ?_
    rw [Around.under_plainId F.plain_extend_loop _]
    show wpAny _ A.in1 (pyNext (.ref I) >>= _) _ _ s
    refine wpAny_bind (W.done s _ _ hst fun s' hd hm => ?_)
    exact wpAny_pure (hR s' acc c hd (hm.trans hS) hacc)
  | succ k ih =>
    intro i s acc c hk hi hst hS hacc hR
    have hlt : i < n := by omega
    refine codeAny_builtin F.entry_extend_loop ?_
    rw [Around.under_plainId F.plain_extend_loop _]
    show wpAny _ A.in1 (pyNext (.ref I) >>= _) _ _ s
    refine wpAny_bind (W.item i s _ _ hlt hst fun v s' hP hst' hm => ?_)
    have hS' := hm.trans hS
    show wpAny _ A.in1 (updateSeq S (·.push v) >>= _) _ _ _
    refine wpAny_bind ?_
    refine wpAny_updateSeq hS' rfl (wpAny_pure ⟨plainId_quiet F.plain_extend_loop _, ih (i + 1) _ (acc.push v) _ (by omega) hlt (W.frame _ s' _ hst' (fun b o hb e => ?_) ⟨_, Heap.get?_update_self _ hS' rfl⟩) (Heap.get?_update_self _ hS' rfl) (hacc.push hP) hR⟩)
      (by rw [hacc.1]; omega) (by show (acc.push v).size ≤ sizeLine + 1; rw [Array.size_push, hacc.1]; omega)
    exact (Heap.get?_update_other _ _ (Ne.symm hb)).trans e

theorem src_extend (W : Src prog w A.in1 I S n P St Dn) (res : Value) (c₀ : Nat) (hst : St 0 s)
    (hS : s.heap.get? S = some { cls := .type "list", data := .seq #[] c₀ })
    (hR : ∀ s' acc' c', Dn s' → s'.heap.get? S = some { cls := .type "list", dict := none, data := .seq acc' c', slots := #[] } → ItemsOf P acc' n → R (.ok (.ret res)) s') (hn : n ≤ sizeLine) :
    wpAny (model prog w) A.in1 (Builtin.List.listExtendWith (.ref S) (.ref I) res)
      (fun fin s' => match fin with | .done f => R (.ok f) s' | .again c' => c'.quiet = true ∧ codeAny (model prog w) A c' R s') (fun e s' => R (.error e) s') s := by
  have hSI : S ≠ I := W.ne.symm
  unfold Builtin.List.listExtendWith
  refine wpAny_bind (wpAny_typeOf (W.gen 0 _ hst) ?_)
  have h1 : Builtin.List.listSameRef (.ref S) (.ref I) = false := by simp [Builtin.List.listSameRef, hSI]
  have h2 : (Value.type "generator" == Value.type "list") = false := by decide
  have h3 : (Value.type "generator" == Value.type "tuple") = false := by decide
  simp only [h1, h2, h3, Bool.or_false, Bool.false_eq_true, if_false]
  refine wpAny_bind (W.self 0 _ _ _ hst ?_)
  refine wpAny_bind (wpAny_holding ?_)
  unfold Builtin.List.listLengthHint
  refine wpAny_bind (wpAny_specialOf (W.gen 0 _ hst) F.gen_no_len ?_)
  show wpAny _ A.in1 (specialOf (Value.ref I) (Str.ofString "__length_hint__") >>= _) _ _ _
  refine wpAny_bind (wpAny_specialOf (W.gen 0 _ hst) F.gen_no_hint ?_)
  refine wpAny_pure ?_
  show wpAny _ A.in1 (rule "list.extend.makes-room" >>= fun _ => Builtin.List.listTouch (.ref S) >>= fun _ =>
    again (.builtin "list.extend.loop" ⟨[.ref S, .ref I, res], []⟩)) _ _ _
  refine wpAny_bind (wpAny_rule ?_)
  refine wpAny_bind ?_
  show wpAny _ A.in1 (updateSeq S (·.push .none) >>= fun _ => updateSeq S (·.pop)) _ _ _
  refine wpAny_bind (wpAny_updateSeq hS rfl ?_)
  have hS₂ := Heap.get?_update_self (Obj.mapSeq (·.push Value.none)) hS rfl
  refine wpAny_updateSeq (hz := by seq_fits) hS₂ rfl ?_
  have hS₃ := Heap.get?_update_self (Obj.mapSeq (·.pop)) hS₂ rfl
  have oth : ∀ b o, b ≠ S → s.heap.get? b = some o → ((s.heap.update S (Obj.mapSeq (·.push Value.none))).update S (Obj.mapSeq (·.pop))).get? b = some o :=
    fun b o hb e => (Heap.get?_update_other _ _ (Ne.symm hb)).trans ((Heap.get?_update_other _ _ (Ne.symm hb)).trans e)
  exact wpAny_pure ⟨plainId_quiet F.plain_extend_loop _, src_loop W hn _ n 0 _ _ _ rfl (Nat.zero_le _)
    (W.frame 0 s _ hst oth ⟨_, hS₃⟩) hS₃ (ItemsOf.nil P) fun s' acc' c' hm hS' hacc => hR s' acc' c' hm hS' hacc⟩

theorem src_init (W : Src prog w A.in1 I S n P St Dn) (hst : St 0 s)
    (hS : s.heap.get? S = some { cls := .type "list", data := .seq #[] })
    (hR : ∀ s' acc' c', Dn s' → s'.heap.get? S = some { cls := .type "list", dict := none, data := .seq acc' c', slots := #[] } → ItemsOf P acc' n → R (.ok (.ret .none)) s') (hn : n ≤ sizeLine) :
    wpAny (model prog w) A.in1 (Builtin.«list.__init__» ⟨[.ref S, .ref I], []⟩)
      (fun fin s' => match fin with | .done f => R (.ok f) s' | .again c' => c'.quiet = true ∧ codeAny (model prog w) A c' R s') (fun e s' => R (.error e) s') s := by
  show wpAny _ A.in1 (do let old ← Builtin.List.listItems (.ref S); Builtin.List.listUpdate (.ref S) (fun _ => #[]); letGo old.toList.reverse; Builtin.List.listExtendWith (.ref S) (.ref I) .none) _ _ s
  refine wpAny_bind ?_
  unfold Builtin.List.listItems
  refine wpAny_bind (wpAny_seqItems hS rfl (wpAny_pure ?_))
  show wpAny _ A.in1 (updateSeq S (fun _ => #[]) >>= fun _ => letGo (#[] : Array Value).toList.reverse >>= fun _ => Builtin.List.listExtendWith (.ref S) (.ref I) .none) _ _ s
  refine wpAny_bind (wpAny_updateSeq hS rfl ?_)
  have hS₂ := Heap.get?_update_self (Obj.mapSeq (fun _ => (#[] : Array Value))) hS rfl
  have oth : ∀ b o, b ≠ S → s.heap.get? b = some o → (s.heap.update S (Obj.mapSeq (fun _ => (#[] : Array Value)))).get? b = some o :=
    fun b o hb e => (Heap.get?_update_other _ _ (Ne.symm hb)).trans e
  refine wpAny_bind (wpAny_letGo ?_)
  exact src_extend (hn := hn) W .none _ (W.frame 0 s _ hst oth ⟨_, hS₂⟩) hS₂ hR
end

section
variable {prog : Program} {w : World} {A : Around} {E : Value → Shared → Prop} {s : Shared} {I : Addr} {n : Nat} {P : Nat → Value → Prop} {St : Nat → Shared → Prop} {Dn : Shared → Prop}
theorem src_list {Q : Value → Shared → Prop} (W : Src prog w A.in1.in1 I s.heap.objs.size n P St Dn) (hst : St 0 { s with heap := s.heap.push { cls := .type "list", data := .seq #[] } })
    (hQ : ∀ s' acc' c', Dn s' → s'.heap.get? s.heap.objs.size = some { cls := .type "list", dict := none, data := .seq acc' c', slots := #[] } → ItemsOf P acc' n → Q (.ref s.heap.objs.size) s') (hn : n ≤ sizeLine) :
    wpAny (model prog w) A (call (.type "list") [.ref I]) Q E s := by
  refine callType_codes (Q₁ := fun obj s₁ => obj = .ref s.heap.objs.size ∧ s₁ = { s with heap := s.heap.push { cls := .type "list", data := .seq #[] } }) F.called_list (F.typeCall_list_1 _) F.entry_list_init
    (code_list_new _ ⟨rfl, rfl⟩) fun obj s₁ h₁ => ?_
  obtain ⟨rfl, rfl⟩ := h₁
  have hS : (s.heap.push { cls := .type "list", data := .seq #[] }).get? s.heap.objs.size = some { cls := .type "list", data := .seq #[] } := Heap.get?_push_size _ rfl
  refine ⟨⟨_, hS, rfl⟩, F.args_list_init_2 _ _, src_init (hn := hn) W hst hS fun s' acc' c' hm hS' hacc => ?_⟩
  exact ⟨rfl, hQ s' acc' c' hm hS' hacc⟩
end
end Mine
end
namespace Mine
theorem lull17 : True ∧ True := by
  w_top off
  k_with_none
  first
    | (walk1; fail)
    | exact ⟨trivial, trivial⟩
end Mine
section
open PySem PySem.Calls
open PySem.Builtin.Bytes
namespace Mine
theorem look_bytes_rel : typeLookup (.type "bytes") "__release_buffer__" = pure none := by rw [typeLookup_type, builtinLookup_eq_fast]; kernel_rfl
theorem look_bytes_buffer : typeLookup (.type "bytes") "__buffer__" = pure (some (.builtin "bytes.__buffer__")) := by rw [typeLookup_type, builtinLookup_eq_fast]; kernel_rfl
section
variable {prog : Program} {w : World} {A : Around} {E : Value → Shared → Prop} {s : Shared}
theorem take_bytes {id : String} {b : Array UInt8} {t : Tok} {Q : Option (Array UInt8 × Option Value) → Shared → Prop} (h : Q (some (b, none)) s) :
    wpAny (model prog w) A (takeBufferQuiet? id (.bytes b t) 0) Q E s := by
  have f1 := look_bytes_buffer
  have f2 := look_bytes_rel
  unfold takeBufferQuiet? takeBuffer? buffer?
  have e3 : isSubtype (.type "bytes") (.type "bytes") = pure true := by rw [isSubtype_type]; kernel_rfl
  have hT : s.TypeIs (.bytes b t) "bytes" := by first | exact rfl | exact trivial | exact ⟨rfl⟩
  repeat (any_goals (first | assumption | wp_step))
  rw [if_neg (by decide +kernel)]
  refine wpAny_isInstance (T := "bytes") (b := true) hT ?_ ?_
  · rw [show ("bytes.__buffer__".dropRight ("__buffer__".length + 1)) = "bytes" from by decide +kernel]
    exact e3
  repeat (any_goals (first | assumption | wp_step))
  rw [if_neg (by decide +kernel)]
  refine wpAny_isInstance (T := "bytes") (b := true) hT ?_ ?_
  · rw [show ("bytes.__buffer__".dropRight ("__buffer__".length + 1)) = "bytes" from by decide +kernel]
    exact e3
  repeat (any_goals (first | assumption | wp_step))
theorem letgo_none {keep : List Value} {Q : Unit → Shared → Prop} : ∀ (l : List (Value × Option Value)), (∀ p ∈ l, p.2 = none) → Q () s → wpAny (model prog w) A (joinLetGo l keep) Q E s := by
  intro l
  induction l with
  | nil => intro _ h; exact wpAny_pure h
  | cons x r ih =>
    intro hl h
    obtain ⟨x, u⟩ := x
    have hu : u = none := hl _ (List.mem_cons_self ..)
    subst hu
    unfold joinLetGo
    dsimp only
    refine wpAny_bind (wpAny_letGo (ih (fun p hp => hl p (List.mem_cons_of_mem _ hp)) h))

abbrev PJ (O : List (Array UInt8)) : Nat → Value → Prop := fun j v => ∃ y t, O[j]? = some y ∧ v = .bytes y t
def cat (O : List (Array UInt8)) : Array UInt8 := O.foldl (· ++ ·) #[]

theorem joined_nil_at : ∀ (l : List (Array UInt8)) (k : Nat) (a : Array UInt8), ((l.zipIdx k).foldl (fun out (x : Array UInt8 × Nat) => (if x.2 > 0 then out ++ #[] else out) ++ x.1) a) = l.foldl (· ++ ·) a := by
  intro l
  induction l with
  | nil => intro k a; rfl
  | cons x r ih =>
    intro k a
    rw [List.zipIdx_cons, List.foldl_cons, List.foldl_cons, ih]
    simp
theorem joined_nil (O : List (Array UInt8)) : joined #[] O = cat O := joined_nil_at O 0 #[]
theorem cat_size_at : ∀ (l : List (Array UInt8)) (a : Array UInt8), (l.foldl (· ++ ·) a).size = l.foldl (fun n (x : Array UInt8) => n + x.size) a.size := by
  intro l
  induction l with
  | nil => intro a; rfl
  | cons x r ih =>
    intro a
    rw [List.foldl_cons, List.foldl_cons, ih, Array.size_append]
theorem joined_short (O : List (Array UInt8)) (h : (cat O).size ≤ 2000) : tooLong (Array.foldl (fun x1 (x2 : Array UInt8) => x1 + x2.size) ((#[] : Array UInt8).size * (O.toArray.size - 1)) O.toArray) = false := by
  have e : Array.foldl (fun x1 (x2 : Array UInt8) => x1 + x2.size) ((#[] : Array UInt8).size * (O.toArray.size - 1)) O.toArray = (cat O).size := by
    rw [cat, cat_size_at]
    simp
  rw [e]
  unfold tooLong sizeLine
  exact decide_eq_false (by omega)

theorem join_src {I : Addr} {O : List (Array UInt8)} {St : Nat → Shared → Prop} {Dn : Shared → Prop} {t0 : Tok} {Q : Fin → Shared → Prop}
    (W : Src prog w A.in1.in1 I s.heap.objs.size O.length (PJ O) St Dn) (hn : O.length ≤ 1000) (hsz : (cat O).size ≤ 2000) (hst : St 0 { s with heap := s.heap.push { cls := .type "list", data := .seq #[] } }) (hst0 : ∀ (Q : Value → Shared → Prop) (E : Value → Shared → Prop), Q (.ref I) s → wpAny (model prog w) A (pyIter (.ref I)) Q E s) (hg : s.TypeIs (.ref I) "generator")
    (hQ : ∀ s' t tk, Dn s' → Q (.done (.ret (.bytes (cat O) t))) { s' with toks := tk }) :
    wpAny (model prog w) A (Builtin.«bytes.join» ⟨[.bytes #[] t0, .ref I], []⟩) Q E s := by
  show wpAny _ _ (joinM .bytes _) _ _ _
  unfold joinM joinItems
  have e1 : (Value.type "generator" == Value.type "list") = false := by decide
  have e2 : (Value.type "generator" == Value.type "tuple") = false := by decide
  refine wpAny_bind (wpAny_of_eq (a := (Value.bytes #[] t0, Value.ref I)) (by rfl) ?_)
  dsimp only
  refine wpAny_bind ?_
  show wpAny _ _ (typeOf (.ref I) >>= _) _ _ _
  refine wpAny_bind (wpAny_typeOf hg ?_)
  rw [e1, e2]
  show wpAny _ _ (tryCatch (pyIter (.ref I)) _ >>= _) _ _ _
  refine wpAny_bind (wpAny_tryCatch (hst0 _ _ ?_))
  refine src_list W hst ?_ (by unfold sizeLine; omega)
  intro s' acc c' hd hl hacc
  refine wpAny_bind (wpAny_seqItems hl rfl ?_)
  dsimp only
  rw [if_pos (show (Kind.bytes == Kind.bytes) = true from rfl)]
  have hlen : acc.size = O.length := hacc.1
  rcases acc with ⟨_ | ⟨x, _ | ⟨x2, r⟩⟩⟩
  case cons.nil =>
    show wpAny _ _ (typeOf x >>= _) _ _ _
    obtain ⟨y, t, hy, rfl⟩ := hacc.2 0 x rfl
    have ho : O = [y] := by
      match O, hlen, hy with
      | [z], _, hy => simpa using hy
    have e9 : (Value.type "bytes" == Value.type "bytes") = true := by decide
    refine wpAny_bind (wpAny_of_eq (a := Value.type "bytes") (by rfl) ?_)
    rw [if_pos e9]
    refine wpAny_bind (wpAny_rule (wpAny_pure ?_))
    have e := hQ s' t s'.toks hd
    rw [ho, show cat [y] = y from by simp [cat]] at e
    exact e
  all_goals
    show wpAny _ _ (forIn _ _ _ >>= _) _ _ _
    first
      | generalize hA : (Array.mk (x :: x2 :: r)) = acc at *
      | generalize hA : (Array.mk ([] : List Value)) = acc at *
    refine wpAny_bind ?_
    rw [Std.Legacy.Range.forIn_eq_forIn_range']
    refine wpAny_forIn_list _ (fun rest b s₁ => s₁ = s' ∧ ∃ i, rest = List.range' i (acc.size - i) ∧ i ≤ acc.size ∧ b.1.toList = O.take i ∧ ∀ p ∈ b.2, p.2 = none ∧ ∃ y t, p.1 = Value.bytes y t) _ ?_ ?_ _ _ ?_
    · rintro i rest b s₁ ⟨rfl, j, hr, hj, hb1, hb2⟩
      have hjl : j < acc.size := by
        rcases Nat.lt_or_ge j acc.size with h | h
        · exact h
        · rw [Nat.sub_eq_zero_of_le h] at hr; simp at hr
      rw [show acc.size - j = (acc.size - (j + 1)) + 1 from by omega, List.range'_succ] at hr
      injection hr with h1 h2
      subst h1 h2
      obtain ⟨v, hv⟩ : ∃ v, acc[i]? = some v := ⟨acc[i], by simp [hjl]⟩
      obtain ⟨y, t, hy, rfl⟩ := hacc.2 i v hv
      have hget : acc.getD i .none = Value.bytes y t := by rw [Array.getD_eq_getD_getElem?, hv]; rfl
      refine wpAny_bind (wpAny_seqItems hl rfl ?_)
      dsimp only
      have hcond : (Kind.bytes == Kind.bytearray || b.snd.any fun x => x.fst.onHeap) = false := by
        rw [Bool.or_eq_false_iff]
        refine ⟨rfl, ?_⟩
        rw [List.any_eq_false]
        intro q hq
        obtain ⟨_, y', t', e⟩ := hb2 q hq
        rw [e]
        exact Bool.false_ne_true
      rw [hget, if_neg (by rw [hcond]; decide)]
      refine wpAny_bind (wpAny_holding (take_bytes ?_))
      dsimp only
      refine wpAny_bind (wpAny_seqItems hl rfl ?_)
      dsimp only
      rw [if_neg (by simp)]
      refine wpAny_pure ⟨rfl, i + 1, rfl, hjl, ?_, ?_⟩
      · rw [Array.toList_push, hb1, List.take_add_one, hy]
        rfl
      · intro q hq
        rcases List.mem_append.mp hq with h | h
        · exact hb2 q h
        · rw [List.mem_singleton.mp h]
          exact ⟨rfl, y, t, rfl⟩
    · rintro ⟨parts, taken⟩ s₁ ⟨rfl, j, hr, hj, hb1, hb2⟩
      have hj2 : j = acc.size := by
        rcases Nat.lt_or_ge j acc.size with h | h
        · rw [show acc.size - j = (acc.size - (j + 1)) + 1 from by omega, List.range'_succ] at hr
          cases hr
        · omega
      subst hj2
      dsimp only at hb1 hb2 ⊢
      rw [hlen, List.take_length] at hb1
      have hp : parts = O.toArray := by rw [← hb1]
      subst hp
      refine wpAny_bind (wpAny_of_eq (a := #[]) (by rfl) ?_)
      have hj1 : joined #[] O = cat O := joined_nil O
      have htl := joined_short O hsz
      rw [if_neg (by rw [htl]; decide)]
      show wpAny _ _ (Kind.bytes.new (joined #[] O) >>= _) _ _ _
      rw [hj1]
      refine wpAny_bind (wpAny_mkBytes ?_ (by unfold sizeLine; omega))
      refine wpAny_bind (wpAny_holding (wpAny_point ?_))
      refine wpAny_bind (letgo_none _ (fun q hq => (hb2 q hq).1) ?_)
      exact wpAny_pure (hQ s₁ _ _ hd)
    · exact ⟨rfl, 0, by simp [Std.Legacy.Range.size], Nat.zero_le _, by simp, by simp⟩
end
end Mine
end
namespace Mine
theorem lull18 : True ∧ True := by
  w_top off
  k_with_none
  first
    | (walk1; fail)
    | exact ⟨trivial, trivial⟩
end Mine
section
open PySem PySem.W PySem.Spec PySem.Calls PyProof.Rows
namespace Mine
theorem setGen_push {s : Shared} {g₀ : Array GenState} {x y : GenState} (h : s.gens = g₀.push x) : (s.setGen g₀.size y).gens = g₀.push y := by
  have : ∀ hh, (g₀.push x).set g₀.size y hh = g₀.push y := fun hh => by
    apply Array.toList_inj.mp
    simp [Array.toList_set, List.set_append]
  simp [Shared.setGen, h, Array.setIfInBounds, this]
theorem push_get {s : Shared} {g₀ : Array GenState} {x : GenState} (h : s.gens = g₀.push x) : s.gens[g₀.size]? = some x := by
  rw [h]; simp

def GSt (w : World) (A : Around) (h₀ : Heap) (fs : List Addr) (L x dx bx bdx ba ℓ ga : Nat) (b : Array UInt8) (O : List (Array UInt8)) (g₀ : Array GenState) (d₀ : Drawn) (os₀ : OsState) (j : Nat) (s : Shared) : Prop :=
  s.heap.IsGen ga g₀.size ∧ (∃ i q c items pv, GI w h₀ L x dx bx bdx ba ℓ ga b i q c items pv s) ∧ s.drawn = d₀ ∧ s.os = os₀ ∧ ∃ gs, s.gens = g₀.push gs ∧
    ∀ s'', Cont ℓ s s'' → gs.Goes (model PG w) A.in1 (GEnd h₀ fs ℓ ga) (GProto w h₀ L x dx bx bdx ba ℓ ga b O) (O.length - j) (.send .none) s''
def GDn (h₀ : Heap) (fs : List Addr) (g₀ : Array GenState) (d₀ : Drawn) (os₀ : OsState) (s' : Shared) : Prop :=
  s'.gens = g₀.push .finished ∧ s'.drawn = d₀ ∧ s'.os = os₀ ∧ ∃ g', KtsTurn fs h₀ g' ∧ ∀ b o, g'.get? b = some o → s'.heap.get? b = some o

section
variable {w : World} {p : Program} {loose : List Str} {mean : ExcName → Option Value} {mg mb : Str → Option Value} {A : Around} {h₀ : Heap} {fs : List Addr} {L x dx bx bdx ba ℓ ga : Nat} {b : Array UInt8} {O : List (Array UInt8)} {g₀ : Array GenState} {d₀ : Drawn} {os₀ : OsState}
theorem genSrc (hh : A.handled = none) (hroom : A.depth < recursionLimit) (T : Top p loose mean mg mb h₀) (hc : GC x dx bx bdx ba ℓ ga) (hf : h₀.get? ℓ = none) :
    Src PG w A ga ℓ O.length (PJ O) (GSt w A h₀ fs L x dx bx bdx ba ℓ ga b O g₀ d₀ os₀) (GDn h₀ fs g₀ d₀ os₀) where
  item := fun j s Q E hj st hQ => by
    obtain ⟨hg, ⟨i, q, c, items, pv, gi⟩, hd, ho, gs, hgs, hgo⟩ := st
    obtain ⟨m, hm⟩ : ∃ m, O.length - j = m + 1 := ⟨O.length - j - 1, by omega⟩
    rw [hm] at hgo
    obtain ⟨ol, og, el, eg⟩ := gi.same
    have hl : s.heap.NoLimit := by
      obtain ⟨tb, t1, t2, t3, t4, t5, t6, u2, u3, u4, s1, s2, v1, kk, cv, xv, ol, og, F, N, n1, n2, hoff⟩ := gi
      exact T.nolimit.keeps F.keep
    refine wpAny_pyNext_gen (P := GFin h₀ fs ℓ ga) (Y := GProto w h₀ L x dx bx bdx ba ℓ ga b O) hh hl hroom hg (push_get hgs) (hgo _ ⟨fun _ _ _ e => e, ol, el⟩) (fun v s₁ gs' hv => ?_) (fun s₁ hp h' hk => ?_)
    · obtain ⟨y, t, hy, rfl, cs, gi', hkap⟩ := hv
      rw [show O.length - 1 - (m + 1 - 1) = j from by omega] at hy
      have e1 : s₁.gens = g₀.push .running := cs.2.1.trans (setGen_push hgs)
      refine hQ _ _ ⟨y, t, hy, rfl⟩ ⟨?_, gi', cs.2.2.1.trans hd, cs.2.2.2.trans ho, gs', setGen_push e1, fun s'' hs => ?_⟩ (cs.1 ℓ (.inl rfl))
      · obtain ⟨o, nm, qn, hoo, r⟩ := hg
        exact ⟨o, nm, qn, (cs.1 ga (.inr rfl)).trans hoo, r⟩
      · rw [show O.length - (j + 1) = m from by omega]
        exact hkap s'' hs
    · exact absurd hp.1 (Nat.succ_ne_zero m)
  done := fun s Q E st hQ => by
    obtain ⟨hg, ⟨i, q, c, items, pv, gi⟩, hd, ho, gs, hgs, hgo⟩ := st
    rw [Nat.sub_self] at hgo
    obtain ⟨ol, og, el, eg⟩ := gi.same
    have hl : s.heap.NoLimit := by
      obtain ⟨tb, t1, t2, t3, t4, t5, t6, u2, u3, u4, s1, s2, v1, kk, cv, xv, ol, og, F, N, n1, n2, hoff⟩ := gi
      exact T.nolimit.keeps F.keep
    refine wpAny_pyNext_gen (P := GFin h₀ fs ℓ ga) (Y := GProto w h₀ L x dx bx bdx ba ℓ ga b O) hh hl hroom hg (push_get hgs) (hgo _ ⟨fun _ _ _ e => e, ol, el⟩) (fun v s₁ gs' hv => ?_) (fun s₁ hp h' hk => ?_)
    · obtain ⟨y, t, hy, rfl, cs, gi', hkap⟩ := hv
      obtain ⟨i', q', c', items', pv', gi''⟩ := gi'
      obtain ⟨ol', og', el', eg'⟩ := gi''.same
      exact False.elim (hkap s₁ ⟨fun _ _ _ e => e, ol', el'⟩)
    · obtain ⟨_, cs, g', hT, hk'⟩ := hp
      have e1 : s₁.gens = g₀.push .running := cs.2.1.trans (setGen_push hgs)
      refine hQ _ ⟨setGen_push e1, cs.2.2.1.trans hd, cs.2.2.2.trans ho, g', hT, fun a o e => hk a o (hk' a o e)⟩ ?_
      exact (hk ℓ ol ((cs.1 ℓ (.inl rfl)).trans el)).trans el.symm
  frame := fun j s h' st hk hl => by
    obtain ⟨hg, ⟨i, q, c, items, pv, gi⟩, hd, ho, gs, hgs, hgo⟩ := st
    refine ⟨?_, ⟨i, q, c, items, pv, gi.cont hc ⟨hk, hl⟩⟩, hd, ho, gs, hgs, fun s'' hs => hgo s'' ⟨fun a o ha e => hs.1 a o ha (hk a o ha e), hs.2⟩⟩
    obtain ⟨o, nm, qn, hoo, r⟩ := hg
    exact ⟨o, nm, qn, hk ga o hc.lg.symm hoo, r⟩
  self := fun _ _ _ _ st hQ => wpAny_pyIter_gen st.1 hQ
  gen := fun _ _ st => st.1.typeIs
  ne := hc.lg.symm

theorem genStart {dp un : Nat} {gd : Option (List Code)} {outer : List Env} {base : Heap} {i q c : Nat} {items : List Value} {pv : Value}
    (B : Below (genA dp un gd outer) base outer h₀) (X : (Mine.hd.heap_39 w.params).In h₀) (T : Top p loose mean mg mb h₀) (XB : (Mine.hd.heap_39 w.params).In base) (TB : Top p loose mean mg mb base)
    (D : KtsDicts (outer.filterMap (·.frame)) h₀) (hd : dp < 500) (hu : un < 800) (hc : GC x dx bx bdx ba ℓ ga) (hb : b.size < 2000) (hD : Dec b i q c items pv O)
    {s : Shared} (gi : GI w h₀ L x dx bx bdx ba ℓ ga b i q c items pv s) :
    Seg (model PG w) (genA dp un gd outer) (GEnd h₀ (outer.filterMap (·.frame)) ℓ ga) (GProto w h₀ L x dx bx bdx ba ℓ ga b O) O.length s (funcC w L) ((model PG w).den (funcC w L)) [] s := by
  unfold funcC
  refine seg_func (prog := PG) ?_
  rw [runBody_is]
  refine seg_execs_cons ?_
  refine seg_While fun pp => ?_
  have e := runBody_is w
  rw [show Code.func [Stmt.While (runTest w) [runAt w 0, runAt w 1, runAt w 2] [] (runPos w)] (runEnv w L) = funcC w L from by unfold funcC; rw [e]]
  refine loopSeg B X T XB TB D hd hu hc hb (fun s₀ s n hf => ?_) O i q c items pv hD [] rfl s s gi CSame.refl
  show Seg _ _ _ _ _ _ _ (Sem.pure (.done (.ret .none))) _ _
  exact seg_end (.ok (.ret .none)) ⟨rfl, hf⟩
end
end Mine
end
namespace Mine
theorem lull19 : True ∧ True := by
  w_top off
  k_with_none
  first
    | (walk1; fail)
    | exact ⟨trivial, trivial⟩
end Mine
section
open PySem PySem.W PySem.Spec PySem.Calls PyProof.Rows
namespace Mine
def cutH (h : Heap) (n : Nat) : Heap := { h with objs := h.objs.extract 0 n }
theorem cutH_lt {h : Heap} {n : Nat} {b : Nat} (hb : b < n) : (cutH h n).get? b = h.get? b := by
  have : (h.objs.extract 0 n)[b]? = h.objs[b]? := by
    rw [Array.getElem?_extract]
    rcases Nat.lt_or_ge b h.objs.size with h' | h'
    · rw [if_pos (by omega)]
      simp
    · rw [if_neg (by omega), Array.getElem?_eq_none h']
  unfold Heap.get? cutH
  rw [this]
theorem cutH_ge {h : Heap} {n : Nat} {b : Nat} (hb : n ≤ b) : (cutH h n).get? b = none := by
  have : (h.objs.extract 0 n)[b]? = none := by
    rw [Array.getElem?_eq_none]
    rw [Array.size_extract]; omega
  unfold Heap.get? cutH
  rw [this]
theorem of_cutH {h : Heap} {n : Nat} {b : Addr} {o : Obj} (e : (cutH h n).get? b = some o) : h.get? b = some o ∧ b < n := by
  rcases Nat.lt_or_ge b n with h' | h'
  · rw [cutH_lt h'] at e; exact ⟨e, h'⟩
  · rw [cutH_ge h'] at e; cases e
theorem cutH_size {h : Heap} {n : Nat} : (cutH h n).objs.size ≤ n := by
  show (h.objs.extract 0 n).size ≤ n
  rw [Array.size_extract]; omega

/-- the base that stands under a generator: what lies below its frame, less the hidden -/
def under (h : Heap) (L : Nat) (as : List Addr) : Heap := cutH (hideAll h as) L
theorem of_under {h : Heap} {L : Nat} {as : List Addr} {b : Addr} {o : Obj} (e : (under h L as).get? b = some o) : h.get? b = some o := of_hideAll as (of_cutH e).1
theorem under_get {h : Heap} {L : Nat} {as : List Addr} {b : Addr} {o : Obj} (e : h.get? b = some o) (hb : b < L) (hn : b ∉ as) : (under h L as).get? b = some o := by
  unfold under
  rw [cutH_lt hb]
  exact hideAll_get as e hn
theorem under_none {h : Heap} {L : Nat} {as : List Addr} {b : Addr} (hb : b ∈ as) : (under h L as).get? b = none := by
  cases e : (under h L as).get? b with
  | none => rfl
  | some o => have := (of_cutH e).1; rw [hideAll_none as hb] at this; cases this
theorem under_self {h : Heap} {L b : Nat} {as : List Addr} (hb : L ≤ b) : (under h L as).get? b = none := cutH_ge hb

section
variable {A : Around} {base h₁ : Heap} {outer : List Env} {L₁ a L : Nat} {m₁ : Str → Option Value} {name : Str} {scope : Scope} {cd : Value} {s : Shared} {as : List Addr}
theorem under_stays (F : Fr h₁ L₁ s.heap m₁) (hL : L₁ < L) (hn : ∀ b ∈ as, h₁.get? b = none) : h₁.StaysIn (under s.heap L as) := fun b o e =>
  under_get (F.keep b o e) (Nat.lt_of_lt_of_le (Heap.lt_size e) (Nat.le_trans F.above (Nat.le_of_lt hL))) fun hb => by rw [hn b hb] at e; cases e
theorem under_below (K : Below A base outer h₁) (F : Fr h₁ L₁ s.heap m₁) (hL : L₁ < L) (hn : ∀ b ∈ as, h₁.get? b = none) (hL₁ : L₁ ∉ as) (hk : scope.kind = .function) {A' : Around} (hA : A'.frames = some (envOf name scope L₁ a cd :: outer)) :
    Below A' base (envOf name scope L₁ a cd :: outer) (under s.heap L as) := by
  have st := under_stays (as := as) F hL hn
  have hnew : base.get? L₁ = none := by
    cases hq : base.get? L₁ with
    | none => rfl
    | some o => exact absurd (Nat.lt_of_lt_of_le (Heap.lt_size (K.stays L₁ o hq)) F.above) (Nat.lt_irrefl _)
  have ns : (under s.heap L as).Ns L₁ m₁ := by
    obtain ⟨o, es, ep, ho, r⟩ := F.ns
    exact ⟨o, es, ep, under_get ho hL hL₁, r⟩
  refine ⟨hA, fun b o e => st b o (K.stays b o e), ?_⟩
  exact .cons (by show scope.kind ≠ .module; rw [hk]; decide) rfl ns hnew (K.frames.of_keeps fun b o e _ => ⟨o, st b o e, rfl⟩)
theorem under_dicts (D : KtsDicts (outer.filterMap (·.frame)) h₁) (F : Fr h₁ L₁ s.heap m₁) (hL : L₁ < L) (hn : ∀ b ∈ as, h₁.get? b = none) (hL₁ : L₁ ∉ as) :
    KtsDicts ((envOf name scope L₁ a cd :: outer).filterMap (·.frame)) (under s.heap L as) := fun b hb => by
  have st := under_stays (as := as) F hL hn
  rcases kts_mem hb with rfl | hb
  · obtain ⟨o, es, ep, ho, hd, _⟩ := F.ns
    exact ⟨o, es, ep, under_get ho hL hL₁, hd⟩
  · obtain ⟨o, es, n, ho, hd⟩ := D b hb
    exact ⟨o, es, n, st b o ho, hd⟩
end
end Mine
end
namespace Mine
theorem lull20 : True ∧ True := by
  w_top off
  k_with_none
  first
    | (walk1; fail)
    | exact ⟨trivial, trivial⟩
end Mine
section
open PySem PySem.W PySem.Spec PySem.Calls PyProof.Rows
namespace Mine
theorem ltne {a b : Nat} (h : a < b) : @Ne Addr a b := Nat.ne_of_lt h
theorem gtne {a b : Nat} (h : b < a) : @Ne Addr a b := Nat.ne_of_gt h
section
variable {w : World} {p : Program} {loose : List Str} {mean : ExcName → Option Value} {mg mb : Str → Option Value} {A₁ : Around} {dp un : Nat} {gd : Option (List Code)} {base h₁ : Heap} {outer : List Env} {L₁ a : Addr} {L x dx tb bx bdx ba ga : Nat} {b : Array UInt8} {O : List (Array UInt8)} {g₀ : Array GenState}
  {m₁ : Str → Option Value} {name : Str} {scope : Scope} {cd : Value} {s : Shared} {t1 t2 t3 t4 t5 t6 u2 u3 u4 s1 s2 v1 t0 : Tok} {k : Nat} {fo : Obj} {Q : PySem.Fin → Shared → Prop} {E : Value → Shared → Prop}
theorem joinRun (K : Below A₁ base outer h₁) (F : Fr h₁ L₁ s.heap m₁) (X : (Mine.hd.heap_39 w.params).In h₁) (T : Top p loose mean mg mb h₁) (XB : (Mine.hd.heap_39 w.params).In base) (TB : Top p loose mean mg mb base)
    (D : KtsDicts (outer.filterMap (·.frame)) h₁) (hk : scope.kind = .function)
    (N : News h₁ L₁ s.heap (decT w x dx tb t1 t2 t3 t4 t5 t6 u2 u3 u4 (.ref bx) 0 8 .none [] k ++ bioL w bx bdx ba s1 s2 v1 b 0))
    (fr : s.heap.Ns L (gm none none x)) (ig : s.heap.IsGen ga g₀.size) (gens : s.gens = g₀.push (.fresh (funcC w L)))
    (hd : dp < 450) (hu : un < 700) (hx1 : bdx < bx) (hx2 : bx < ba) (hx3 : ba < dx) (hx4 : dx < x) (hx5 : x < tb) (hx6 : tb < L) (hx7 : L < ga) (hL : (show Nat from L₁) < L) (hb : b.size < 2000)
    (hD : Dec b 0 8 0 [] .none O) (hO1 : O.length ≤ 1000) (hO2 : (cat O).size ≤ 2000)
    (hQ : ∀ s' t tk, GDn (under s.heap L [x, dx, tb, bx, bdx, ba]) ((envOf name scope L₁ a cd :: outer).filterMap (·.frame)) g₀ s.drawn s.os s' → Q (.done (.ret (.bytes (cat O) t))) { s' with toks := tk }) :
    wpAny (model PG w) (genA dp un gd (envOf name scope L₁ a cd :: outer)) (Builtin.«bytes.join» ⟨[.bytes #[] t0, .ref ga], []⟩) Q E s := by
  have hall : ∀ c ∈ [x, dx, tb, bx, bdx, ba], h₁.get? c = none ∧ L₁ ≠ c := by
    intro c hc
    simp only [List.mem_cons, List.not_mem_nil, or_false] at hc
    have z : ∀ q ∈ decT w x dx tb t1 t2 t3 t4 t5 t6 u2 u3 u4 (.ref bx) 0 8 .none [] k ++ bioL w bx bdx ba s1 s2 v1 b 0, h₁.get? q.1 = none ∧ L₁ ≠ q.1 := fun q hq => ⟨(N q hq).2.2, fun e => (N q hq).2.1 e.symm⟩
    rcases hc with rfl | rfl | rfl | rfl | rfl | rfl
    · exact z (c, _) (by simp only [decT, List.cons_append]; exact List.mem_cons_self ..)
    · exact z (c, _) (by simp only [decT, List.cons_append]; exact .tail _ (List.mem_cons_self ..))
    · exact z (c, _) (by simp only [decT, List.cons_append]; exact .tail _ (.tail _ (List.mem_cons_self ..)))
    · exact z (c, _) (by simp only [decT, bioL, List.cons_append, List.nil_append]; exact .tail _ (.tail _ (.tail _ (List.mem_cons_self ..))))
    · exact z (c, _) (by simp only [decT, bioL, List.cons_append, List.nil_append]; exact .tail _ (.tail _ (.tail _ (.tail _ (List.mem_cons_self ..)))))
    · exact z (c, _) (by simp only [decT, bioL, List.cons_append, List.nil_append]; exact .tail _ (.tail _ (.tail _ (.tail _ (.tail _ (List.mem_cons_self ..))))))
  have hn : ∀ c ∈ [x, dx, tb, bx, bdx, ba], h₁.get? c = none := fun c hc => (hall c hc).1
  have hL₁ : L₁ ∉ [x, dx, tb, bx, bdx, ba] := fun hm => (hall _ hm).2 rfl
  have st := under_stays (as := [x, dx, tb, bx, bdx, ba]) F hL hn
  obtain ⟨og, nm, qn, hog, hgr⟩ := ig
  have hgs : ga < s.heap.objs.size := Heap.lt_size hog
  have hc : GC x dx bx bdx ba s.heap.objs.size ga := ⟨hx1, hx2, hx3, hx4, by omega, by omega, by omega, by omega, by omega, by omega, by omega, by omega, by omega, by omega, by omega⟩
  have T' := T.keeps st
  have X' := X.keeps st
  have B' : Below (genA dp (un + 3) gd (envOf name scope L₁ a cd :: outer)) base (envOf name scope L₁ a cd :: outer) (under s.heap L [x, dx, tb, bx, bdx, ba]) := under_below K F hL hn hL₁ hk rfl
  have D' := under_dicts (name := name) (scope := scope) (a := a) (cd := cd) D F hL hn hL₁
  have gi : ∀ s'' : Shared, Cont s.heap.objs.size { s with heap := s.heap.push { cls := .type "list", data := .seq #[] } } s'' → GI w (under s.heap L [x, dx, tb, bx, bdx, ba]) L x dx bx bdx ba s.heap.objs.size ga b 0 8 0 [] .none s'' := by
    intro s'' hs
    refine GI.cont hc ?_ hs
    refine ⟨tb, t1, t2, t3, t4, t5, t6, u2, u3, u4, s1, s2, v1, k, none, none, { cls := .type "list", data := .seq #[] }, og, ⟨?_, fun c o e => Heap.get?_push_of_some _ (of_under e), cutH_size⟩, ?_, by omega, by omega, ?_⟩
    · obtain ⟨o, es, ep, ho, r⟩ := fr
      exact ⟨o, es, ep, Heap.get?_push_of_some _ ho, r⟩
    · intro q hq
      rcases mem3.mp hq with h | h | h | h
      · have z := N q (List.mem_append_left _ h)
        refine ⟨Heap.get?_push_of_some _ z.1, ?_, under_none ?_⟩
        · simp only [decT, List.mem_cons, List.not_mem_nil, or_false] at h
          rcases h with rfl | rfl | rfl
          all_goals (first | exact ltne (by omega) | exact gtne (by omega))
        · simp only [decT, List.mem_cons, List.not_mem_nil, or_false] at h
          rcases h with rfl | rfl | rfl
          all_goals simp
      · have z := N q (List.mem_append_right _ h)
        refine ⟨Heap.get?_push_of_some _ z.1, ?_, under_none ?_⟩
        · simp only [bioL, List.mem_cons, List.not_mem_nil, or_false] at h
          rcases h with rfl | rfl | rfl
          all_goals (first | exact ltne (by omega) | exact gtne (by omega))
        · simp only [bioL, List.mem_cons, List.not_mem_nil, or_false] at h
          rcases h with rfl | rfl | rfl
          all_goals simp
      · subst h
        exact ⟨Heap.get?_push_size _ rfl, by (first | exact ltne (by omega) | exact gtne (by omega)), under_self (by omega)⟩
      · subst h
        exact ⟨Heap.get?_push_of_some _ hog, by (first | exact ltne (by omega) | exact gtne (by omega)), under_self (by omega)⟩
    · intro q hq c hcm
      simp only [bioL, List.cons_append, List.nil_append, List.mem_cons, List.not_mem_nil, or_false] at hq hcm
      rcases hq with rfl | rfl | rfl | rfl | rfl <;> rcases hcm with rfl | rfl <;> (first | exact ltne (by omega) | exact gtne (by omega))
  have hf : (under s.heap L [x, dx, tb, bx, bdx, ba]).get? s.heap.objs.size = none := under_self (by omega)
  refine join_src (O := O) (genSrc (A := (genA dp un gd (envOf name scope L₁ a cd :: outer)).in1.in1) (h₀ := under s.heap L [x, dx, tb, bx, bdx, ba]) (fs := (envOf name scope L₁ a cd :: outer).filterMap (·.frame)) (L := L) (b := b) (g₀ := g₀) (d₀ := s.drawn) (os₀ := s.os) rfl (by show dp < recursionLimit; unfold recursionLimit; omega) T' hc hf) hO1 hO2 ?_ ?_ ?_ ?_
  · refine ⟨⟨og, nm, qn, Heap.get?_push_of_some _ hog, hgr⟩, ⟨0, 8, 0, [], .none, gi _ ⟨fun _ _ _ e => e, _, Heap.get?_push_size _ rfl⟩⟩, rfl, rfl, _, gens, fun s'' hs => ⟨rfl, ?_⟩⟩
    exact genStart (i := 0) (q := 8) (c := 0) (items := []) (pv := .none) B' X' T' XB TB D' (by omega) (by omega) hc hb hD (gi s'' hs)
  · intro Q E h
    exact wpAny_pyIter_gen ⟨og, nm, qn, hog, hgr⟩ h
  · exact Heap.IsGen.typeIs (s := s) ⟨og, nm, qn, hog, hgr⟩
  · exact fun s' t tk h => hQ s' t tk h
end
end Mine
end
namespace Mine
theorem lull21 : True ∧ True := by
  w_top off
  k_with_none
  first
    | (walk1; fail)
    | exact ⟨trivial, trivial⟩
end Mine
section
open PySem PySem.W PySem.Spec PySem.Calls PyProof.Rows
set_option maxRecDepth 100000
namespace Mine
section
variable {M : Model} {A : Around} {E : Value → Shared → Prop} {s : Shared} {env : Env}
theorem D_standAt {p : Pos} {Q : Unit → Shared → Prop} (h : Q () s) : wpD M A (standAt p) Q E s := wpD_of_any (wpAny_standAt h)
theorem D_execs_cons {st : Stmt} {rest : List Stmt} {Q : Flow → Shared → Prop}
    (h : wpD M A (exec st env) (fun f s' => match f with | .next => wpD M A (execs rest env) Q E s' | f => Q f s') E s) : wpD M A (execs (st :: rest) env) Q E s := by
  rw [execs_cons]
  refine wpD_bind (wpD_mono h (fun f s' h' => ?_) fun _ _ x => x)
  cases f <;> first | exact h' | exact wpD_pure h'
theorem D_Assign_Name {x : Str} {pos' pos : Pos} {value : Expr} {Q : Flow → Shared → Prop}
    (h : wpD M A (eval value env) (fun v s₁ => wpAny M A (storeName env x v) (fun _ => Q .next) E s₁) E s)
    (hs : swapsWith value (some (.Name x pos')) pos.line env = pure false := by rfl) :
    wpD M A (exec (.Assign [.Name x pos'] value pos) env) Q E s := fun Γ p hΓ c => by
  simp only [exec_Assign_Name env x pos' value pos hs, Sem.wp_bind', Sem.wp_cmd_standAt, Sem.wp_bindName, Sem.wp_pure']
  exact Sem.wp_mono M Γ _ (fun v _ s₁ h₁ => h₁ Γ _ hΓ) (fun _ _ _ h' => h') _ _ (h Γ _ hΓ c)
theorem D_Assign_Attr {o : Expr} {attr : Str} {pos' pos : Pos} {value : Expr} {Q : Flow → Shared → Prop}
    (h : wpD M A (eval value env) (fun v s₁ => wpAny M A (eval o env) (fun ov s₂ => wpAny M A (setAttr ov attr v) (fun _ => Q .next) E s₂) E s₁) E s)
    (hs : swapsWith value (some (.Attribute o attr pos')) pos.line env = pure false := by rfl) :
    wpD M A (exec (.Assign [.Attribute o attr pos'] value pos) env) Q E s := fun Γ p hΓ c => by
  simp only [plainObj_exec_Assign_Attribute o attr pos' value pos hs, PySem.assign_Attribute, Sem.wp_bind', Sem.wp_holding, Sem.wp_cmd_standAt, Sem.wp_release, Sem.wp_pure']
  exact Sem.wp_mono M Γ _ (fun v p₁ s₁ h₁ => Sem.wp_mono M Γ _ (fun ov _ s₂ h₂ => h₂ Γ _ hΓ) (fun _ _ _ h' => h') _ _ (h₁ Γ p₁ hΓ)) (fun _ _ _ h' => h') _ _ (h Γ _ hΓ c)
theorem D_If {test : Expr} {body orelse : List Stmt} {pos : Pos} {Q : Flow → Shared → Prop}
    (h : wpD M A (isTrue test env (eval test env)) (fun b s₂ => if b then wpD M A (execs body env) Q E s₂ else wpD M A (execs orelse env) Q E s₂) E s) :
    wpD M A (exec (.If test body orelse pos) env) Q E s := by
  rw [arm_exec_If]
  refine wpD_bind (D_standAt (wpD_bind (wpD_mono h (fun b s₂ h₂ => ?_) fun _ _ x => x)))
  cases b <;> exact h₂
theorem D_isTrue_Compare1 {l r : Expr} {op : CmpOp} {pos : Pos} {whole : Sem Value} {Q : Bool → Shared → Prop}
    (h : wpD M A (eval l env) (fun a s₁ => wpAny M A (eval r env) (fun b s₂ => wpAny M A (compareOp op a b)
      (fun c s₃ => wpAny M A (truthy c) Q E s₃) E s₂) E s₁) E s)
    (hm : behindInMarks op r = false := by with_unfolding_all rfl) : wpD M A (isTrue (.Compare l [op] [r] pos) env whole) Q E s := fun Γ p hΓ c => by
  simp only [isTrue_Compare1, markedBehindIn_of_false hm, Sem.wp_bind', Sem.wp_holding, Sem.wp_cmd_standAt, Sem.wp_operate]
  exact Sem.wp_mono M Γ _ (fun a p₁ s₁ h₁ => Sem.wp_mono M Γ _ (fun b _ s₂ h₂ => Sem.wp_mono M Γ _ (fun c p₃ s₃ h₃ => h₃ Γ p₃ hΓ)
    (fun _ _ _ h' => h') _ _ (h₂ Γ _ hΓ)) (fun _ _ _ h' => h') _ _ (h₁ Γ p₁ hΓ)) (fun _ _ _ h' => h') _ _ (h Γ p hΓ c)
theorem D_Compare1 {l r : Expr} {op : CmpOp} {pos : Pos} {Q : Value → Shared → Prop}
    (h : wpD M A (eval l env) (fun a s₁ => wpAny M A (eval r env) (fun b s₂ => wpAny M A (compareOp op a b) Q E s₂) E s₁) E s)
    (hm : behindInMarks op r = false := by with_unfolding_all rfl) :
    wpD M A (eval (.Compare l [op] [r] pos) env) Q E s := fun Γ p hΓ c => by
  simp only [eval_Compare1, markedBehindIn_of_false hm, Sem.wp_bind', Sem.wp_holding, Sem.wp_cmd_standAt, Sem.wp_operate]
  exact Sem.wp_mono M Γ _ (fun a p₁ s₁ h₁ => Sem.wp_mono M Γ _ (fun b _ s₂ h₂ => h₂ Γ _ hΓ) (fun _ _ _ h' => h') _ _ (h₁ Γ p₁ hΓ))
    (fun _ _ _ h' => h') _ _ (h Γ p hΓ c)
theorem D_Return {e : Expr} {pos : Pos} {Q : Flow → Shared → Prop} (h : wpD M A (eval e env) (fun v => Q (.ret v)) E s) : wpD M A (exec (.Return (some e) pos) env) Q E s := fun Γ p hΓ c => by
  simp only [exec_Return_some, Sem.wp_bind', Sem.wp_cmd_standAt, Sem.wp_pure']; exact h Γ _ hΓ c
theorem D_And2 {x y : Expr} {pos : Pos} {Q : Value → Shared → Prop}
    (h : wpD M A (eval x env) (fun v s₁ => wpAny M A (truthy v) (fun b s₂ => if b then wpD M A (eval y env) Q E s₂ else Q v s₂) E s₁) E s) : wpD M A (eval (.BoolOp .And [x, y] pos) env) Q E s := by
  rw [arm_eval_BoolOp]
  show wpD M A (boolOp pos .And [eval x env, eval y env]) Q E s
  unfold boolOp
  refine wpD_bind (wpD_mono h (fun v s₁ h₁ => ?_) fun _ _ x => x)
  refine wpD_bind (D_standAt (wpD_bind (wpD_holding (wpD_mono (wpD_of_any h₁) (fun b s₂ h₂ => ?_) fun _ _ x => x))))
  cases b with
  | true => exact h₂
  | false => exact wpD_pure h₂
theorem D_IfExp {test body orelse : Expr} {pos : Pos} {Q : Value → Shared → Prop}
    (h : wpAny M A (isTrue test env (eval test env)) (fun b s₁ => if b then wpD M A (eval body env) Q E s₁ else wpD M A (eval orelse env) Q E s₁) E s) :
    wpD M A (eval (.IfExp test body orelse pos) env) Q E s := by
  rw [arm_eval_IfExp]
  refine wpD_bind (wpD_mono (wpD_of_any h) (fun b s₁ h₁ => ?_) fun _ _ x => x)
  cases b <;> exact h₁
theorem D_Call_Name {id : Str} {p pos : Pos} {args : List Expr} {Q : Value → Shared → Prop}
    (h : wpAny M A (eval (.Name id p) env) (fun f s₁ => wpD M A (callWith pos f [] (backTo pos (starEach args env)) []) Q E s₁) E s) :
    wpD M A (eval (.Call (.Name id p) args [] pos) env) Q E s := by
  rw [arm_eval_Call_Name']
  exact wpD_bind (wpD_of_any h)

theorem D_callWith_of {P : Heap → Prop} {pos : Pos} {f : Value} {first : List Value} {Q : Value → Shared → Prop} {args : List (Bool × Sem Value)} {keywords : List (Option Str × Sem Value)} (hplain : (args.any (·.1) || keywords.any (·.1.isNone)) = false)
    (hk : ∀ h, P h → ∃ k, (k = Keeper.frame ∨ k = Keeper.machine ∨ k = Keeper.boundFrame) ∧ Looks M h (keeperOf f) k)
    (h : wpAny M A (evalArgs f true args keywords) (fun a s₁ => P s₁.heap ∧ wpD M A (call f (first ++ a.pos) a.kw) Q E s₁) E s) : wpD M A (callWith pos f first args keywords) Q E s := by
  unfold callWith
  refine wpD_bind (wpD_holding (wpD_of_any (wpAny_mono h (fun a s₁ h₁ => ?_) fun _ _ x => x)))
  refine wpD_bind (D_standAt ?_)
  obtain ⟨k, hk', L⟩ := hk _ h₁.1
  simp only [hplain]
  refine wpD_bind (wpD_of_any (L.here ?_))
  have tail : ∀ {t : Sem Value}, wpD M A t Q E s₁ → wpD M A (t >>= fun r => holding [r] point >>= fun _ => pure r) Q E s₁ :=
    fun ht => wpD_bind (wpD_mono ht (fun r s₂ hr => wpD_bind (wpD_of_any (wpAny_holding (wpAny_point (wpD_pure hr))))) fun _ _ x => x)
  have marked (mk : Value) : wpD M A (callMarked mk f (first ++ a.pos) a.kw) Q E s₁ := by unfold callMarked; exact wpD_keep h₁.2
  rcases hk' with rfl | rfl | rfl <;> dsimp only <;> first | exact tail h₁.2 | (split <;> first | exact tail h₁.2 | exact tail (marked _))
theorem D_callWith {K : Frag} {pos : Pos} {f : Value} {Q : Value → Shared → Prop} {e : Expr} (hk : keepIn K f = true)
    (h : wpAny M A (eval e env) (fun v s₁ => K.In s₁.heap ∧ wpD M A (call f [v]) Q E s₁) E s)
    (he : starEach [e] env = [(false, eval e env)] := by rfl) : wpD M A (callWith pos f [] (backTo pos (starEach [e] env)) []) Q E s := by
  rw [he]
  refine D_callWith_of rfl (keeps_K hk) (evalArgs_plain ?_)
  exact Calls.spliced_cons (wpAny_mono h (fun v s₁ h₁ => Calls.spliced_nil h₁) fun _ _ x => x)
end

section
variable {prog : Program} {w : World} {A : Around} {s : Shared} {R : Result → Shared → Prop}
theorem D_func {body : List Stmt} {env : Env}
    (h : wpD (model prog w) (A.deeper env) (execs body env) (fun f s' => R (.ok (.ret (match f with | .ret v => v | _ => .none))) s')
      (fun e s' => wpAny (model prog w) (A.deeper env) (leaving env e) (fun _ s'' => R (.error e) s'') (fun e' s'' => R (.error e') s'') s') s) :
    codeD (model prog w) A (.func body env) R s := by
  refine codeD_of_tree rfl ?_
  show wpD _ (A.deeper env) (do point; match ← (execs body env).onRaise (leaving env) with | .ret v => ret v | _ => ret .none) _ _ s
  refine wpD_bind (wpD_of_any (wpAny_point (wpD_bind (wpD_onRaise (wpD_mono h (fun f s' h' => ?_) fun _ _ h' => wpD_of_any h')))))
  cases f <;> exact wpD_pure h'
theorem D_call_function {a : Addr} {args : Args} {o : Obj} {fd : FuncData} {body : List Stmt} (hroom : A.depth < recursionLimit)
    (ho : s.heap.get? a = some o)
    (hd' : o.data = .func fd) (hco : fd.scope.isCoroutine = false) (hgen : fd.scope.isGenerator = false) (hbody : fd.body = .stmts body) (hcd : s.heap.CodeRec fd.code fd.qualname)
    (h : wpAny (model prog w) A.in1 (bindArgs fd args) (fun binds s₁ =>
      wpAny (model prog w) A.in1 (newFunctionEnv fd.scope fd.globals fd.closure binds (fd.qualname ++ ".<locals>.") (some a) fd.code none fd.builtins)
        (fun env s₂ => s₂.heap.NoLimit ∧ codeD (model prog w) A (.func body env) R s₂) (fun e s' => R (.error e) s') s₁) (fun e s' => R (.error e) s') s) :
    codeD (model prog w) A (.call (.ref a) args) R s := by
  refine codeD_of_tree rfl (wpD_of_any ?_)
  show wpAny _ A.in1 (callAny (.ref a) args) _ _ s
  simp only [callAny]
  refine wpAny_bind (wpAny_load ho ?_)
  obtain ⟨c, oc, vs, tq, hc, hoc, hdc, hq⟩ := hcd
  simp only [hd', callFunction, hco, hgen, hbody, hc]
  rw [hc] at h
  refine wpAny_bind (m := field (.ref c) 1) (wpAny_field hoc hdc hq (wpAny_bind (wpAny_pure ?_)))
  exact wpAny_bind (wpAny_mono h (fun binds s₁ h₁ => wpAny_bind (wpAny_mono h₁ (fun env s₂ h₂ => wpAny_bind (wpAny_enterFrame h₂.1 hroom
    (wpAny_pure (And.intro rfl h₂.2)))) fun _ _ h' => h')) fun _ _ h' => h')
theorem D_call_def {a : Addr} {o : Obj} {fd : FuncData} {body : List Stmt} {args : Args} {binds : List (Str × Value)}
    (hroom : A.depth < recursionLimit) (ho : s.heap.get? a = some o) (hdata : o.data = .func fd) (hlim : s.heap.NoLimit) (hcd : s.heap.CodeRec fd.code fd.qualname)
    (hbody : fd.body = .stmts body) (hbind : BindsTo s fd args binds)
    (hcell : ∀ x ∈ fd.scope.names, x.2 ≠ .cell) (hloc : ∀ x ∈ binds, fd.scope.names.lookup x.1 = some .local)
    (h : ∀ h₀, h₀.Ns s.heap.objs.size (fun x => binds.reverse.lookup x) → (∀ b o, s.heap.get? b = some o → h₀.get? b = some o) →
      wpD (model prog w) (A.deeper (callEnv fd s.heap.objs.size a)) (execs body (callEnv fd s.heap.objs.size a)) (fun f s' => R (.ok (.ret (match f with | .ret v => v | _ => .none))) s')
        (fun e s' => wpAny (model prog w) (A.deeper (callEnv fd s.heap.objs.size a)) (leaving (callEnv fd s.heap.objs.size a) e) (fun _ s'' => R (.error e) s'') (fun e' s'' => R (.error e') s'') s')
        { s with heap := h₀, toks := s.toks + binds.length })
    (hco : fd.scope.isCoroutine = false := by rfl) (hgen : fd.scope.isGenerator = false := by rfl) (hk : fd.scope.kind = .function := by rfl) :
    codeD (model prog w) A (.call (.ref a) args) R s := by
  refine D_call_function hroom ho hdata hco hgen hbody hcd (hbind _ _ _ _ ?_)
  refine wpAny_newFunctionEnv hcell hloc (fun h₀ hns₀ hsb₀ => ⟨hlim.fresh _ hsb₀, D_func (h h₀ hns₀ fun b o e => ?_)⟩) hk
  exact hsb₀.extBut b o (Nat.ne_of_lt (Heap.lt_size e)) (Heap.get?_push_of_some _ e)

/-- the entry of an own function, with the caller's whole heap standing still below it -/
theorem D_enter {K : Frag} {h₀ base : Heap} {A₀ : Around} {outer : List Env} {env : Env} {L : Addr} {m : Str → Option Value} {p : Program} {loose : List Str} {mean : ExcName → Option Value} {mg mb : Str → Option Value}
    {name qual : Str} {params : Arguments} {body : List Stmt} {scope : Scope} {dV kV doc pm cdv ct oc : Value} {an od : Option Addr} {osl : Array (Option Value)} {f : Addr} {args : Args} {binds : List (Str × Value)}
    (B : Below A₀ base outer h₀) (F : Fr h₀ L s.heap m) (X₀ : K.In h₀) (T : Top p loose mean mg mb h₀) (hA : A.frames = some (env :: outer)) (hf : env.frame = some L) (hck : env.scope.kind = .function)
    (ho : K.lookup f = some ⟨oc, od, .func (fnOf name qual params body scope dV kV doc pm an cdv ct), osl⟩) (hcd : codeIn K cdv qual = true) (hroom : A.depth < recursionLimit)
    (hbind : BindsTo s (fnOf name qual params body scope dV kV doc pm an cdv ct) args binds) (hloc : ∀ y ∈ binds, scope.names.lookup y.1 = some .local)
    (h : ∀ (L' : Nat) h₁, L' = s.heap.objs.size → Fr s.heap L' h₁ (fun y => binds.reverse.lookup y) → Below A base (env :: outer) s.heap → K.In s.heap → Top p loose mean mg mb s.heap →
      wpD (model prog w) (A.deeper (envOf qual scope L' f cdv)) (execs body (envOf qual scope L' f cdv)) (fun fl s' => R (.ok (.ret (match fl with | .ret v => v | _ => .none))) s')
        (fun e s' => wpAny (model prog w) (A.deeper (envOf qual scope L' f cdv)) (leaving (envOf qual scope L' f cdv) e) (fun _ s'' => R (.error e) s'') (fun e' s'' => R (.error e') s'') s')
        { s with heap := h₁, toks := s.toks + binds.length })
    (hco : scope.isCoroutine = false) (hgen : scope.isGenerator = false) (hk : scope.kind = .function)
    (hcell : ∀ x ∈ scope.names, x.2 ≠ .cell) : codeD (model prog w) A (.call (.ref f) args) R s := by
  have X := X₀.keeps F.keep
  refine D_call_def (fd := fnOf name qual params body scope dV kV doc pm an cdv ct) (body := body) (binds := binds) hroom (X _ _ ho) rfl (T.nolimit.keeps F.keep) (codeRec_of X hcd) rfl hbind hcell hloc (fun h₁ hns hk₁ => ?_) hco hgen hk
  have B₁ := pushX B F hf hck
  exact h _ h₁ rfl ⟨hns, hk₁, Nat.le_refl _⟩ ⟨hA, B₁.stays, B₁.frames⟩ X (T.keeps F.keep)
end
end Mine
end
namespace Mine
theorem lull22 : True ∧ True := by
  w_top off
  k_with_none
  first
    | (walk1; fail)
    | exact ⟨trivial, trivial⟩
end Mine
section
open PySem PySem.Calls
set_option maxRecDepth 1000000
namespace Mine
theorem mro_ba : mroOf (.type "bytearray") = pure [.type "bytearray", .type "object"] := by rw [mroOf_type]; kernel_rfl
theorem lookup_ba_new : typeLookup (.type "bytearray") "__new__" = pure (some (.builtin "bytearray.__new__")) := by rw [typeLookup_type, builtinLookup_eq_fast]; kernel_rfl
theorem slot_ba_init : Slot "bytearray" "__init__" "bytearray.__init__" :=
  .of (owner := "bytearray") (n := "__init__") (by rw [typeLookup_type, builtinLookup_eq_fast]; kernel_rfl) (by decide +kernel) (by decide +kernel) (by decide +kernel)
    (by first | exact .inl (by decide +kernel) | exact .inr (by decide +kernel)) (by rw [isSubtype_type]; kernel_rfl)
theorem called_ba : TypeCalled "bytearray" "bytearray.__new__" "bytearray.__init__" :=
  ⟨by decide +kernel, by decide +kernel, ⟨_, _, mro_ba⟩, madeBy_type mro_ba lookup_ba_new (by decide +kernel), by decide +kernel, by rw [isSubtype_type]; kernel_rfl, slot_ba_init⟩
theorem typeCall_ba (a : Value) : checkTypeCall "bytearray" ⟨[a], []⟩ = pure () := by kernel_rfl
theorem newCall_ba (a : Value) : checkBuiltinCall "bytearray.__new__" ⟨[.type "bytearray", a], []⟩ = pure () := by kernel_rfl
theorem entry_ba_new : entryFor table "bytearray.__new__" = some Builtin.«list.__new__» := entryFor_alias (id' := "list.__new__") (by rw [fastTable_eq_tree]; kernel_rfl) (by first | rfl | decide +kernel) (by decide +kernel) (by rw [fastTable_eq_tree]; kernel_rfl)
theorem entry_ba_init : entryFor table "bytearray.__init__" = some Builtin.«bytearray.__init__» := by first | exact entryFor_of_fast (by kernel_rfl) | exact entryFor_of_tree (by kernel_rfl)
theorem plain_ba_new : plainId "bytearray.__new__" = true := by decide +kernel
theorem args_ba_init (a b : Value) : argsOk "bytearray.__init__" ⟨[a, b], []⟩ := by unfold argsOk; kernel_rfl
set_option maxHeartbeats 4000000 in
theorem owner_ba_new : ("bytearray.__new__".splitOn ".__new__").headD "" = "bytearray" := by simp +decide [String.splitOn, String.splitOnAux]
theorem sub_ba_self : isSubtype (.type "bytearray") (.type "bytearray") = pure true := by rw [isSubtype_type]; kernel_rfl
section
variable {prog : Program} {w : World} {A : Around} {E : Value → Shared → Prop} {s : Shared}
theorem code_ba_new (a : Value) {Q₁ : Value → Shared → Prop}
    (h : Q₁ (.ref s.heap.objs.size) { s with heap := s.heap.push { cls := .type "bytearray", data := .bytearray #[] } }) :
    codeAny (model prog w) A (.call (.builtin "bytearray.__new__") ⟨[.type "bytearray", a], []⟩) (wants Q₁ E) s := by
  refine codeAny_of_tree ?_
  show wpAny _ A.in1 (do checkBuiltinCall "bytearray.__new__" ⟨[.type "bytearray", a], []⟩; again (.builtin "bytearray.__new__" ⟨[.type "bytearray", a], []⟩)) _ _ s
  refine wpAny_bind (wpAny_of_eq (newCall_ba a) (wpAny_pure ⟨plainId_quiet plain_ba_new _, codeAny_builtin_stack entry_ba_new rfl fun p st => ?_⟩))
  rw [Around.under_plainId plain_ba_new _]
  have hsub := sub_ba_self
  have hown := owner_ba_new
  obtain ⟨hp, g, d, tk, os⟩ := s
  simp only [hown]
  wp_walk
  exact h

theorem exported_clean {self : Value} {Q : Bool → Shared → Prop} (h : Q false s) : wpD (model prog w) A (Builtin.Bytes.exported self) Q E s := by
  unfold Builtin.Bytes.exported
  refine wpD_stackAny ?_ h
  intro c p hc
  split <;> try rfl
  all_goals (simp [isDec] at hc)
  all_goals (first | done | (simp_all; done) | skip)

theorem buf_bytes {id : String} {f : Bool} {b : Array UInt8} {t : Tok} {Q : Option (Array UInt8) → Shared → Prop} (h : Q (some b) s) :
    wpAny (model prog w) A (Builtin.Bytes.buffer? id (.bytes b t) f) Q E s := by
  have f1 := look_bytes_buffer
  have f2 := look_bytes_rel
  unfold Builtin.Bytes.buffer?
  have e3 : isSubtype (.type "bytes") (.type "bytes") = pure true := by rw [isSubtype_type]; kernel_rfl
  have hT : s.TypeIs (.bytes b t) "bytes" := by first | exact rfl | exact trivial | exact ⟨rfl⟩
  repeat (any_goals (first | assumption | wp_step))
  rw [if_neg (by decide +kernel)]
  refine wpAny_isInstance (T := "bytes") (b := true) hT ?_ ?_
  · rw [show ("bytes.__buffer__".dropRight ("__buffer__".length + 1)) = "bytes" from by decide +kernel]
    exact e3
  repeat (any_goals (first | assumption | wp_step))
theorem ba_write {x : Addr} {b₀ : Array UInt8} {f : Array UInt8 → Array UInt8} {Q : Unit → Shared → Prop} (hx : s.heap.get? x = some (baObj b₀)) (hf : (f b₀).size ≤ 2000)
    (h : ∀ h', (∀ c o, c ≠ x → s.heap.get? c = some o → h'.get? c = some o) → h'.get? x = some (baObj (f b₀)) → Q () { s with heap := h' }) :
    wpAny (model prog w) A (Builtin.Bytes.write (.ref x) f) Q E s := by
  show wpAny _ _ (updateBytearray x f) _ _ _
  unfold updateBytearray
  refine wpAny_bind (wpAny_load hx ?_)
  dsimp only
  refine wpAny_bind ?_
  have hs := Heap.get?_update_self (Obj.mapBytearray f) hx rfl
  refine wpAny_update hx (wpAny_lookBehind hs ?_ (h _ (fun c o hc e => (Heap.get?_update_other _ _ (Ne.symm hc)).trans e) hs))
  show (if (f b₀).size > sizeLine then some "bytearray:memory" else none) = none
  exact if_neg (by unfold sizeLine; omega)
theorem look_ba_rel : typeLookup (.type "bytearray") "__release_buffer__" = pure (some (.builtin "bytearray.__release_buffer__")) := by rw [typeLookup_type, builtinLookup_eq_fast]; kernel_rfl
theorem look_bytes_index : typeLookup (.type "bytes") "__index__" = pure none := by rw [typeLookup_type, builtinLookup_eq_fast]; kernel_rfl
set_option maxHeartbeats 2000000 in
theorem ba_init {x : Addr} {b : Array UInt8} {t : Tok} {Q : PySem.Fin → Shared → Prop} (hx : s.heap.get? x = some { cls := .type "bytearray", data := .bytearray #[] }) (hb : b.size ≤ 2000)
    (h : ∀ h', (∀ c o, c ≠ x → s.heap.get? c = some o → h'.get? c = some o) → h'.get? x = some (baObj b) → Q (.done (.ret .none)) { s with heap := h' }) :
    wpD (model prog w) A (Builtin.«bytearray.__init__» ⟨[.ref x, .bytes b t], []⟩) Q E s := by
  have hT : s.TypeIs (.ref x) "bytearray" := ⟨_, hx, rfl⟩
  have f1 := look_ba_rel
  have f2 := look_bytes_index
  have f3 := look_bytes_buffer
  have f4 := look_bytes_rel
  unfold Builtin.«bytearray.__init__»
  dsimp only
  refine wpD_bind (wpD_of_any ?_)
  unfold Builtin.Bytes.ownRelease
  repeat (any_goals (first | assumption | wp_step))
  rw [if_neg (by decide +kernel)]
  refine wpAny_isInstance (T := "bytearray") (b := true) hT ?_ ?_
  · rw [show ("bytearray.__release_buffer__".dropRight ("__release_buffer__".length + 1)) = "bytearray" from by decide +kernel]
    exact sub_ba_self
  repeat (any_goals (first | assumption | wp_step))
  rw [if_neg (by decide)]
  refine wpD_bind (wpD_of_any (wpAny_of_eq (a := [some (Value.bytes b t), none, none]) (by rfl) ?_))
  dsimp only
  refine wpD_bind (wpD_of_any (wpAny_of_eq (a := ()) (by rfl) ?_))
  refine wpD_bind (wpD_of_any (wpAny_of_eq (a := ()) (by rfl) ?_))
  refine wpD_bind ?_
  show wpD _ _ (Builtin.Bytes.exported (.ref x) >>= _) _ _ _
  refine wpD_bind (exported_clean ?_)
  refine wpD_of_any ?_
  unfold Builtin.Bytes.exportsOf
  repeat (any_goals (first | assumption | with_reducible refine wpAny_loadPart_at hx ?_ | wp_step))
  rw [if_neg (by decide)]
  refine wpD_of_any ?_
  refine wpAny_bind (ba_write (b₀ := #[]) hx (by simp) fun h₁ k₁ e₁ => ?_)
  refine wpAny_bind (wpAny_of_eq (a := none) (by rfl) ?_)
  rw [if_neg (by decide)]
  refine wpAny_bind (wpAny_of_eq (a := ()) (by rfl) ?_)
  refine wpAny_bind (wpAny_specialOf (T := "bytes") (by first | exact rfl | exact trivial | exact ⟨rfl⟩) look_bytes_index ?_)
  rw [if_neg (by decide)]
  refine wpAny_bind (buf_bytes ?_)
  dsimp only
  refine wpAny_bind (wpAny_rule ?_)
  refine wpAny_bind (ba_write (b₀ := #[]) e₁ (by simpa using hb) fun h₂ k₂ e₂ => ?_)
  refine wpAny_pure (h h₂ (fun c o hc e => k₂ c o hc (k₁ c o hc e)) e₂)

theorem D_builtin {id : String} {args : Args} {b : Builtin} {R : Result → Shared → Prop} (hd : isDec (.builtin id args) = false) (hb : entryFor table id = some b)
    (h : wpD (model prog w) (A.under (.builtin id args)) (b args)
      (fun fin s' => match fin with | .done f => R (.ok f) s' | .again c' => c'.quiet = true ∧ codeD (model prog w) A c' R s') (fun e s' => R (.error e) s') s) :
    codeD (model prog w) A (.builtin id args) R s := by
  refine codeD_of_tree hd ?_
  show wpD _ _ (match entryFor table id with | some b => b args | none => unsupported ((withoutEnding? id "#data").getD id)) _ _ s
  rw [hb]; exact h

theorem D_call_builtin {id : String} {args : Args} {b : Builtin} {R : Result → Shared → Prop} (hd : isDec (.builtin id args) = false) (hq : plainId id = true) (hb : entryFor table id = some b)
    (h : wpAny (model prog w) A.in1 (checkBuiltinCall id args) (fun _ s₁ => wpD (model prog w) A.in1 (b args)
      (fun fin s' => match fin with | .done f => R (.ok f) s' | .again c' => c'.quiet = true ∧ codeD (model prog w) A c' R s') (fun e s' => R (.error e) s') s₁)
      (fun e s' => R (.error e) s') s) : codeD (model prog w) A (.call (.builtin id) args) R s := by
  refine codeD_of_tree rfl ?_
  show wpD _ A.in1 (do checkBuiltinCall id args; again (.builtin id args)) _ _ s
  refine wpD_bind (wpD_mono (wpD_of_any h) (fun _ s₁ h₁ => wpD_pure ⟨plainId_quiet hq args, D_builtin hd hb ?_⟩) fun _ _ x => x)
  rw [Around.under_plainId hq args]
  exact h₁
theorem isDec_baInit (args : Args) : isDec (.builtin "bytearray.__init__" args) = false := by
  show (Builtin.Bytes.decodersThatHold.contains "bytearray.__init__" || _) = false
  decide +kernel
theorem isDec_typeCall (args : Args) : isDec (.builtin "type.__call__" args) = false := by
  show (Builtin.Bytes.decodersThatHold.contains "type.__call__" || _) = false
  decide +kernel

theorem D_bytearray {b : Array UInt8} {t : Tok} {Q : Value → Shared → Prop} (hb : b.size ≤ 2000)
    (h : ∀ h', (∀ c o, s.heap.get? c = some o → h'.get? c = some o) → h'.get? s.heap.objs.size = some (baObj b) → Q (.ref s.heap.objs.size) { s with heap := h' }) :
    wpD (model prog w) A (call (.type "bytearray") [.bytes b t]) Q E s := by
  have ft := called_ba
  obtain ⟨c, tl, hmro⟩ := ft.mro
  have hmade := ft.made
  have hsub := ft.sub
  have hct := typeCall_ba (.bytes b t)
  refine wpD_call (codeD_of_tree rfl ?_)
  show wpD _ _ (callAny (.type "bytearray") _) _ _ _
  refine wpD_pure ⟨Code.quiet_builtin _ (by decide +kernel), D_builtin (isDec_typeCall _) F.entry_type_call ?_⟩
  rw [Around.under_plain (weight_type_call_type "bytearray" [.bytes b t] []) rfl]
  unfold Builtin.«type.__call__»
  have h1 := ft.notType
  have h2 := ft.canCreate
  dsimp only
  rw [if_neg (by rw [h1]; decide), if_neg (by rw [h2]; decide)]
  refine wpD_bind (wpD_of_any (wpAny_of_eq hct ?_))
  refine wpD_bind (wpD_of_any (wpAny_of_eq hmro ?_))
  rw [if_neg (by show ¬ (false = true); decide)]
  refine wpD_bind (wpD_of_any ?_)
  refine wpAny_of_eq hmade ?_
  dsimp only
  refine wpD_bind (wpD_of_any (wpAny_pure ?_))
  refine wpD_bind (wpD_of_any (wpAny_holding (wpAny_call (codeAny_mono (code_ba_new (E := E) (.bytes b t) (Q₁ := fun v s' => v = .ref s.heap.objs.size ∧ s' = { s with heap := s.heap.push { cls := .type "bytearray", data := .bytearray #[] } }) ⟨rfl, rfl⟩) ?_))))
  intro r s₁ hr
  rcases r with e | (v | _ | _ | _) <;> first | exact hr | exact hr.elim | skip
  obtain ⟨rfl, rfl⟩ := hr
  have hS : (s.heap.push { cls := .type "bytearray", data := .bytearray #[] }).get? s.heap.objs.size = some { cls := .type "bytearray", data := .bytearray #[] } := Heap.get?_push_size _ rfl
  have hT : ({ s with heap := s.heap.push { cls := .type "bytearray", data := .bytearray #[] } } : Shared).TypeIs (.ref s.heap.objs.size) "bytearray" := ⟨_, hS, rfl⟩
  dsimp only
  refine wpD_bind (wpD_of_any (wpAny_isInstance (T := "bytearray") (b := true) hT hsub ?_))
  rw [if_neg (by decide)]
  refine wpD_bind (wpD_holding ?_)
  unfold callSpecial?
  refine wpD_bind (wpD_of_any (wpAny_specialOf hT slot_ba_init.lookup ?_))
  dsimp only
  refine wpD_holding (wpD_bind (wpD_of_any (wpAny_of_eq (slot_ba_init.bind _) ?_)))
  refine wpD_bind (wpD_call ?_)
  refine D_call_builtin (isDec_baInit _) slot_ba_init.plain entry_ba_init (slot_ba_init.check _ _ _ _ _ _ _ _ hT (args_ba_init _ _) (ba_init hS hb fun h' k' e' => ?_))
  refine wpD_pure ?_
  dsimp only
  rw [if_neg (by decide)]
  refine wpD_pure (h h' (fun c o e => k' c o (Nat.ne_of_lt (Heap.lt_size e)) (Heap.get?_push_of_some _ e)) e')
end
end Mine
end
namespace Mine
theorem lull23 : True ∧ True := by
  w_top off
  k_with_none
  first
    | (walk1; fail)
    | exact ⟨trivial, trivial⟩
end Mine
section
open PySem PySem.W PySem.Spec PySem.Calls PyProof.Rows
set_option maxRecDepth 100000
namespace Mine
def clsOk (o : Option Obj) : Bool := match o with
  | some ⟨_, _, .cls cd, _⟩ => !cd.abstract && !cd.hasDel && !cd.mro.isEmpty
  | _ => false
theorem clsOk_of {o : Option Obj} (e : clsOk o = true) : ∃ oc od cd sl, o = some ⟨oc, od, .cls cd, sl⟩ ∧ cd.abstract = false ∧ cd.hasDel = false ∧ cd.mro.isEmpty = false := by
  unfold clsOk at e
  split at e
  · simp only [Bool.and_eq_true, Bool.not_eq_true'] at e
    exact ⟨_, _, _, _, rfl, e.1.1, e.1.2, e.2⟩
  · cases e
theorem cls418 (P : Params) : ∃ oc od cd sl, (Mine.hd.heap_39 P).lookup 418 = some ⟨oc, od, .cls cd, sl⟩ ∧ cd.abstract = false ∧ cd.hasDel = false ∧ cd.mro.isEmpty = false :=
  clsOk_of (by kernel_rfl)
theorem pk_here (w : World) : peek (Mine.hd.heap_39 w.params) ⟨PG, w.params⟩ (Bind.madeHere "object.__new__" (.ref 418)) = some () := by kernel_rfl
theorem pk_base (w : World) : peek (Mine.hd.heap_39 w.params) ⟨PG, w.params⟩ (Bind.staticBase (.ref 418)) = some (.type "object") := by kernel_rfl
theorem pk_bobj (w : World) : peek (Mine.hd.heap_39 w.params) ⟨PG, w.params⟩ (Bind.madeBy (.type "object")) = some (some "object.__new__") := by kernel_rfl
theorem pk_made (w : World) : peek (Mine.hd.heap_39 w.params) ⟨PG, w.params⟩ (Bind.madeBy (.ref 418)) = some none := by kernel_rfl
theorem pk_self (w : World) : peek (Mine.hd.heap_39 w.params) ⟨PG, w.params⟩ (isSubtype (.ref 418) (.ref 418)) = some true := by kernel_rfl
theorem pk_top (w : World) : peek (Mine.hd.heap_39 w.params) ⟨PG, w.params⟩ (isSubtype (.ref 418) (.type "object")) = some true := by kernel_rfl
theorem pk_typ (w : World) : peek (Mine.hd.heap_39 w.params) ⟨PG, w.params⟩ (isInstance (.ref 418) (.type "type")) = some true := by kernel_rfl
theorem pk_call (w : World) : peek (Mine.hd.heap_39 w.params) ⟨PG, w.params⟩ (specialOf (.ref 418) "__call__") = some (some (.builtin "type.__call__")) := by kernel_rfl
theorem pk_init (w : World) : peek (Mine.hd.heap_39 w.params) ⟨PG, w.params⟩ (typeLookup (.ref 418) "__init__") = some (some (.ref 205)) := by kernel_rfl
theorem pk_bind (w : World) (v : Value) : peek (Mine.hd.heap_39 w.params) ⟨PG, w.params⟩ (bindSpecial (.ref 205) v) = some (.ref 205, [v]) := by kernel_rfl
def consOk (o : Option (List Value)) : Bool := match o with
  | some (_ :: _) => true
  | _ => false
theorem pk_mro (w : World) : ∃ c l, peek (Mine.hd.heap_39 w.params) ⟨PG, w.params⟩ (mroOf (.ref 418)) = some (c :: l) := by
  have e : consOk (peek (Mine.hd.heap_39 w.params) ⟨PG, w.params⟩ (mroOf (.ref 418))) = true := by kernel_rfl
  unfold consOk at e
  split at e
  · exact ⟨_, _, by assumption⟩
  · cases e
section
variable {w : World} {A : Around} {R : Result → Shared → Prop} {h : Heap} {g : Array GenState} {d : Drawn} {t : Nat} {os : OsState}
theorem new418 (X : (Mine.hd.heap_39 w.params).In h)
    (hq : R (.ok (.ret (.ref (h.objs.size + 1)))) ⟨(h.push emptyDict).push (instObj 418 h.objs.size), g, d, t, os⟩) :
    codeAny (model PG w) A (.call (.builtin "object.__new__") ⟨[.ref 418], []⟩) R ⟨h, g, d, t, os⟩ := by
  obtain ⟨oc, od, cd, sl, ho, e1, e2, e4⟩ := cls418 w.params
  have hC := X _ _ ho
  have here : Looks (model PG w) h (Bind.madeHere "object.__new__" (.ref 418)) () := Looks.of_peek X (pk_here w)
  have base : Looks (model PG w) h (Bind.staticBase (.ref 418)) (.type "object") := Looks.of_peek X (pk_base w)
  have bobj : Looks (model PG w) h (Bind.madeBy (.type "object")) (some "object.__new__") := Looks.of_peek X (pk_bobj w)
  have self : Looks (model PG w) h (isSubtype (.ref 418) (.ref 418)) true := Looks.of_peek X (pk_self w)
  have top : Looks (model PG w) h (isSubtype (.ref 418) (.type "object")) true := Looks.of_peek X (pk_top w)
  have typ : Looks (model PG w) h (isInstance (.ref 418) (.type "type")) true := Looks.of_peek X (pk_typ w)
  have F := PySem.F.objNew
  refine codeAny_call_builtin_code (Code.quiet_builtin _ F.quiet) ?_
  simp only [checkBuiltinCall, F.kind, F.split, F.row]
  have args : Bind.checkArgs "object.__new__" ⟨.hand, "object.__new__", "__new__", .cls, []⟩ ⟨[.ref 418], []⟩ = pure () := by kernel_rfl
  rw [args]
  repeat (first | simp only [bne_self_eq_false, Bool.false_eq_true, if_false] | lk)
  refine codeAny_builtin F.entry ?_
  unfold Builtin.«object.__new__»
  have fin : ∀ A', wpAny (model PG w) A' (do
      let d ← if typeHasDict (.ref 418) then some <$> alloc { cls := .type "dict", data := .dict #[] } else pure none
      ret (← newObj (.ref 418) .plain d)) (fun fin s' => match fin with | .done f => R (.ok f) s' | .again c' => c'.quiet = true ∧ codeAny (model PG w) A c' R s') (fun e s' => R (.error e) s') ⟨h, g, d, t, os⟩ := by
    intro A'
    show wpAny _ _ ((alloc emptyDict >>= fun x => pure (some x)) >>= _) _ _ _
    refine wpAny_bind (wpAny_bind (wpAny_alloc (wpAny_pure (wpAny_bind ?_))))
    show wpAny _ _ (newObjAsIs _ _ _) _ _ _
    unfold newObjAsIs classHasDel
    refine wpAny_bind (wpAny_alloc (wpAny_bind (wpAny_bind (wpAny_load (Heap.get?_push_of_some _ (Heap.get?_push_of_some _ hC)) (wpAny_pure ?_)))))
    rw [e2]
    refine wpAny_pure (wpAny_pure ?_)
    show R _ _
    rw [Heap.size_push]
    exact hq
  repeat (first | simp only [e1, Bool.false_eq_true, if_false] | exact fin _ | lk)
end
section
variable {w : World} {A : Around} {E : Value → Shared → Prop} {s : Shared} {h₀ : Heap} {L : Addr} {m : Str → Option Value} {news : List (Addr × Obj)} {Q : Value → Shared → Prop}
theorem call_new418 (F : Fr h₀ L s.heap m) (X₀ : (Mine.hd.heap_39 w.params).In h₀) (N : News h₀ L s.heap news)
    (h : ∀ (x dx : Nat) h', Fr h₀ L h' m → News h₀ L h' ((x, instObj 418 dx) :: (dx, dictOf [] 0) :: news) → (∀ p ∈ news, p.1 < dx) → dx < x → Q (.ref x) { s with heap := h' }) :
    wpAny (model PG w) A (call (.builtin "object.__new__") [.ref 418]) Q E s := by
  obtain ⟨hh, g, d, t, os⟩ := s
  refine wpAny_call (new418 (X₀.keeps F.keep) (h _ hh.objs.size _ ((F.push _).push _) ?_ (fun p hp => Heap.lt_size (N p hp).1) (Nat.lt_succ_self _)))
  have := (N.push F emptyDict).push (F.push _) (instObj 418 hh.objs.size)
  rwa [Heap.size_push] at this
end
end Mine
end
namespace Mine
theorem lull24 : True ∧ True := by
  w_top off
  k_with_none
  first
    | (walk1; fail)
    | exact ⟨trivial, trivial⟩
end Mine
section
open PySem PySem.W PySem.Spec PySem.Calls PyProof.Rows
set_option maxRecDepth 100000
namespace Mine
local macro_rules | `(tactic| k_room) => `(tactic| (simp only [depth_mark, depth_under_make, depth_under_kw, depth_in1, depth_deeper, depth_caller, ktrTop, recursionLimit]; omega))
local macro_rules | `(tactic| k_units) => `(tactic| (simp only [units_in1, units_deeper, Around.mark_units, units_caller, ktrTop, cLine_is]; omega))
local macro_rules | `(tactic| ktr_enter) => `(tactic| (refine' code_def ?k1 ?k2 ?k3 ?k4 ?k5 ?kA ?kF ?kK ?k6 ?k7 ?k8 ?k9 ?kB ?_ ?c2 ?c3 ?c4 ?c5; (case kA => exact rfl); (case kF => exact rfl); (case kK => assumption); (case k1 => k_asm); (case k2 => k_asm); (case k3 => k_asm); (case k4 => k_asm); (case k5 => k_asm); (case k6 => k_is); (case k7 => k_is); (case k8 => k_room); (case k9 => first | exact BindsTo.of_eq rfl | exact binds_K (by k_in) rfl (by k_is) rfl rfl rfl); (case c5 => decide); (case kB => exact locs rfl); (case c2 => exact rfl); (case c3 => exact rfl); (case c4 => exact rfl); k_whole; intro g' L' h' FG' F' N' B' X' T'; (try dsimp only); (try k_fold)))
local macro_rules | `(tactic| walk_at "compareOp Eq int int") => `(tactic| first | (refine eq_no (by first | omega | (simp only [List.length_append, List.length_cons, List.length_nil, ne_eq]; omega)) ?_) | (refine eq_yes (by omega) ?_))
local macro_rules | `(tactic| walk_at "compareOp Lt int int") => `(tactic| first | (refine lt_yes (by omega) ?_) | (refine lt_no (by omega) ?_))
local macro_rules | `(tactic| walk_at "exec While Constant") => `(tactic| (k_here; k_dflt (refine m_start ?_)))
local macro_rules | `(tactic| walk_at "exec While Constant cons nil") => `(tactic| (k_here; k_dflt (refine m_start ?_)))
local macro_rules | `(tactic| walk_at "exec While") => `(tactic| (k_here; k_dflt (refine m_start ?_)))
local macro_rules | `(tactic| walk_at "WhlRest") => `(tactic| (k_dflt (refine' m_turn ?hE ?_; (case hE => first | passes_own | with_unfolding_all passes_own)); (try k_sweep)))
local macro_rules | `(tactic| walk_at "MPost") => `(tactic| (dsimp only [MPost]))
local macro_rules | `(tactic| walk_at "truthy bytes") => `(tactic| (k_here; first | (refine truthy_void ?_) | (refine truthy_full (by simp) (by simp) ?_)))
local macro_rules | `(tactic| walk_at "call builtin:ord") => `(tactic| (k_here; refine ord_byte ?_))
local macro_rules | `(tactic| k_enter) => `(tactic| (kp_kind "both"; (fail_if_success k_inElt); (refine' kp_both ?k1 ?k2 ?k3 ?k4 ?k5 ?kA ?kF ?kK ?k6 ?k7 ?k8 ?kV ?kX ?kQ ?kM ?kN ?kD ?kR ?kP ?kS ?kT ?kB ?_ ?c2 ?c3 ?c4 ?c5; (case kA => exact rfl); (case kF => exact rfl); (case kK => first | exact rfl | assumption); (case k1 => k_asm); (case k2 => k_asm); (case k3 => k_asm); (case k4 => k_asm); (case k5 => k_asm); (case k6 => k_is); (case k7 => k_is); (case k8 => k_room); (case kV => kp_lit); (case kX => kp_lit); (case kQ => exact rfl); (case kM => exact rfl); (case kN => exact rfl); (case kD => kp_flats); (case kR => exact rfl); (case kP => exact rfl); (case kS => exact fun _ => rfl); (case kT => exact fun _ _ => rfl); (case kB => exact fun _ _ => locs rfl); (case c5 => decide); (case c2 => exact rfl); (case c3 => exact rfl); (case c4 => exact rfl); k_whole; intro C' D' o' g' L' h' tk' l1 l2 lo' hs' fs' FG' F' N' B' X' T'; (try k_lt l1); (try k_lt2 l2); (try dsimp only); (try k_lift B'); (try k_fold))))
local macro_rules | `(tactic| walk_at "call builtin:object.__new__") => `(tactic| (k_here; k_dflt (refine call_new418 (by k_asm) (by k_asm) (by k_asm) ?_); intro x' dx' h' F' N' l1 l2))
theorem newIO : ∀ (w : World) (p : Program) (loose : List Str) (mean : ExcName → Option Value) (mg mb : Str → Option Value) (dp un : Nat) (gd : Option (List Code)) (cn : Str) (cs : Scope) (a : Addr) (ccd : Value) (cl : List (Str × Addr)) (outer : List Env) (A₀ : Around) (base h₀ : Heap) (L : Addr) (m : Str → Option Value) (s : Shared)
    (Q E : Value → Shared → Prop) (news : List (Addr × Obj)) (d : Array UInt8) (t : Tok)
   (B : Below A₀ base outer h₀) (F : Fr h₀ L s.heap m) (X : (Mine.hd.heap_39 w.params).In h₀) (N : News h₀ L s.heap news)
   (T : Top p loose mean mg mb h₀) (hk : cs.kind = .function) (hd : dp < 600) (hu : un < 900)
   (ret : ∀ (x dx : Nat) h' tk, Fr h₀ L h' m → News h₀ L h' ((x, instObj 418 dx) :: (dx, dictOf [] 0) :: news) → (∀ p ∈ news, p.1 < dx) → dx < x → Q (.ref x) { s with heap := h', toks := tk }),
   wpAny (model PG w) (ktrTop dp un gd cn cs L a ccd cl outer) (call (.ref 158) [.ref 418, .bytes d t]) Q E s := by
  delta PG
  k_fill
  intro w p loose mean mg mb dp un gd cn cs a ccd cl outer A₀ base h₀ L m s Q E news d t B F X N T hk hd hu ret
  refine wpAny_call ?_
  k_enter
  k_steps
  rename News _ _ _ (_ :: _ :: _) => N9
  rename ∀ p ∈ (_, _) :: _, p.1 < _ => l9
  refine ret _ _ _ _ (by assumption) (fun q hq => N9 q ?_) (fun q hq => l9 q (.tail _ (.tail _ hq))) (by assumption)
  rcases List.mem_cons.mp hq with rfl | hq
  · exact .head _
  rcases List.mem_cons.mp hq with rfl | hq
  · exact .tail _ (.head _)
  · exact .tail _ (.tail _ (.tail _ (.tail _ hq)))
end Mine
end
namespace Mine
theorem lull25 : True ∧ True := by
  w_top off
  k_with_none
  first
    | (walk1; fail)
    | exact ⟨trivial, trivial⟩
end Mine
section
open PySem PySem.W PySem.Spec PySem.Calls PyProof.Rows
set_option maxRecDepth 100000
namespace Mine
section
variable {prog : Program} {w : World} {A A₀ : Around} {E : Value → Shared → Prop} {s : Shared} {K : Frag} {L : Addr} {h₀ base : Heap} {m mg mb : Str → Option Value} {news : List (Addr × Obj)} {p : Program} {loose : List Str} {mean : ExcName → Option Value}
theorem D_code_def {env : Env} {outer : List Env} {R : Result → Shared → Prop} {name qual : Str} {params : Arguments} {body : List Stmt} {scope : Scope} {dV kV doc pm cdv ct oc : Value} {an od : Option Addr} {osl : Array (Option Value)} {f : Addr} {args : Args} {binds : List (Str × Value)}
    (B : Below A₀ base outer h₀) (F : Fr h₀ L s.heap m) (X₀ : K.In h₀) (N : News h₀ L s.heap news) (T : Top p loose mean mg mb h₀) (hA : A.frames = some (env :: outer)) (hf : env.frame = some L) (hke : env.scope.kind = .function)
    (ho : K.lookup f = some ⟨oc, od, .func (fnOf name qual params body scope dV kV doc pm an cdv ct), osl⟩) (hcd : codeIn K cdv qual = true) (hroom : A.depth < recursionLimit)
    (hbind : BindsTo s (fnOf name qual params body scope dV kV doc pm an cdv ct) args binds) (hloc : ∀ y ∈ binds, scope.names.lookup y.1 = some .local)
    (h : ∀ g L' h₁, Fr h₀ L g m → Fr g L' h₁ (fun y => binds.reverse.lookup y) → News g L' h₁ news → Below A base (env :: outer) g → K.In g → Top p loose mean mg mb g →
      wpD (model prog w) (A.deeper (envOf qual scope L' f cdv)) (execs body (envOf qual scope L' f cdv))
        (fun fl s' => LeaveK h₀ L m g R (match fl with | .ret v => v | _ => .none) s')
        (fun e s' => wpAny (model prog w) (A.deeper (envOf qual scope L' f cdv)) (leaving (envOf qual scope L' f cdv) e) (fun _ s'' => R (.error e) s'') (fun e' s'' => R (.error e') s'') s')
        { s with heap := h₁, toks := s.toks + binds.length })
    (hco : scope.isCoroutine = false) (hgen : scope.isGenerator = false) (hk : scope.kind = .function)
    (hcell : ∀ x ∈ scope.names, x.2 ≠ .cell) : codeD (model prog w) A (.call (.ref f) args) R s := by
  obtain ⟨FG, BG, st, lv⟩ := groundX (R := R) B F N hA hf hke
  have X := X₀.keeps F.keep
  refine D_call_def (fd := fnOf name qual params body scope dV kV doc pm an cdv ct) (body := body) (binds := binds) hroom (X _ _ ho) rfl (T.nolimit.keeps F.keep) (codeRec_of X hcd) rfl hbind hcell hloc (fun h₁ hns hk₁ => ?_) hco hgen hk
  exact wpD_mono (h _ s.heap.objs.size h₁ FG ⟨hns, fun b o e => hk₁ b o (of_hideAll _ e), Nat.le_of_eq (hideAll_size _ _)⟩
    (fun p hp => ⟨hk₁ _ _ (N p hp).1, Nat.ne_of_lt (Heap.lt_size (N p hp).1), hideAll_none _ (List.mem_map_of_mem hp)⟩) BG (X₀.keeps st) (T.keeps st)) (fun fl s' hl => lv _ _ hl) fun _ _ y => y
end
section
variable {M : Model} {A : Around} {E : Value → Shared → Prop} {s : Shared} {env : Env}
theorem D_callWith_type {pos : Pos} {T : String} {Q : Value → Shared → Prop} {e : Expr}
    (h : wpAny M A (eval e env) (fun v s₁ => wpD M A (call (.type T) [v]) Q E s₁) E s)
    (he : starEach [e] env = [(false, eval e env)] := by rfl) : wpD M A (callWith pos (.type T) [] (backTo pos (starEach [e] env)) []) Q E s := by
  rw [he]
  refine D_callWith_of (P := fun _ => True) rfl (fun h _ => ⟨.machine, .inr (.inl rfl), Looks.of_pure rfl⟩) (evalArgs_plain ?_)
  exact Calls.spliced_cons (wpAny_mono h (fun v s₁ h₁ => Calls.spliced_nil ⟨trivial, h₁⟩) fun _ _ x => x)
end
theorem Fr.ext {h₀ h h' : Heap} {L : Addr} {m : Str → Option Value} (F : Fr h₀ L h m) (k : ∀ c o, h.get? c = some o → h'.get? c = some o) : Fr h₀ L h' m :=
  ⟨F.ns.keeps k, fun b o e => k b o (F.keep b o e), F.above⟩
theorem News.rot3 {h₀ h : Heap} {L : Addr} {a b c : Addr × Obj} {l : List (Addr × Obj)} (N : News h₀ L h (a :: b :: c :: l)) : News h₀ L h (b :: c :: a :: l) := fun p hp => by
  rcases List.mem_cons.mp hp with rfl | hp
  · exact N _ (.tail _ (.head _))
  rcases List.mem_cons.mp hp with rfl | hp
  · exact N _ (.tail _ (.tail _ (.head _)))
  rcases List.mem_cons.mp hp with rfl | hp
  · exact N _ (.head _)
  · exact N _ (.tail _ (.tail _ (.tail _ hp)))
theorem News.ext {h₀ h h' : Heap} {L : Addr} {m : Str → Option Value} {news : List (Addr × Obj)} {o : Obj} (F : Fr h₀ L h m) (N : News h₀ L h news) (k : ∀ c o, h.get? c = some o → h'.get? c = some o) (e : h'.get? h.objs.size = some o) :
    News h₀ L h' ((h.objs.size, o) :: news) := fun p hp => by
  rcases List.mem_cons.mp hp with rfl | hp
  · refine ⟨e, fun q => ?_, ?_⟩
    · obtain ⟨oL, _, _, hL, _⟩ := F.ns
      have := Heap.lt_size hL
      rw [← q] at this
      exact Nat.lt_irrefl _ this
    · cases q : h₀.get? h.objs.size with
      | none => rfl
      | some o' => exact absurd (Heap.lt_size (F.keep _ _ q)) (Nat.lt_irrefl _)
  · exact ⟨k _ _ (N p hp).1, (N p hp).2⟩
local macro_rules | `(tactic| k_room) => `(tactic| (simp only [depth_mark, depth_under_make, depth_under_kw, depth_in1, depth_deeper, depth_caller, ktrTop, recursionLimit]; omega))
local macro_rules | `(tactic| k_units) => `(tactic| (simp only [units_in1, units_deeper, Around.mark_units, units_caller, ktrTop, cLine_is]; omega))
local macro_rules | `(tactic| ktr_enter) => `(tactic| (refine' code_def ?k1 ?k2 ?k3 ?k4 ?k5 ?kA ?kF ?kK ?k6 ?k7 ?k8 ?k9 ?kB ?_ ?c2 ?c3 ?c4 ?c5; (case kA => exact rfl); (case kF => exact rfl); (case kK => assumption); (case k1 => k_asm); (case k2 => k_asm); (case k3 => k_asm); (case k4 => k_asm); (case k5 => k_asm); (case k6 => k_is); (case k7 => k_is); (case k8 => k_room); (case k9 => first | exact BindsTo.of_eq rfl | exact binds_K (by k_in) rfl (by k_is) rfl rfl rfl); (case c5 => decide); (case kB => exact locs rfl); (case c2 => exact rfl); (case c3 => exact rfl); (case c4 => exact rfl); k_whole; intro g' L' h' FG' F' N' B' X' T'; (try dsimp only); (try k_fold)))
local macro_rules | `(tactic| walk_at "compareOp Eq int int") => `(tactic| first | (refine eq_no (by first | omega | (simp only [List.length_append, List.length_cons, List.length_nil, ne_eq]; omega)) ?_) | (refine eq_yes (by omega) ?_))
local macro_rules | `(tactic| walk_at "compareOp Lt int int") => `(tactic| first | (refine lt_yes (by omega) ?_) | (refine lt_no (by omega) ?_))
local macro_rules | `(tactic| walk_at "exec While Constant") => `(tactic| (k_here; k_dflt (refine m_start ?_)))
local macro_rules | `(tactic| walk_at "exec While Constant cons nil") => `(tactic| (k_here; k_dflt (refine m_start ?_)))
local macro_rules | `(tactic| walk_at "exec While") => `(tactic| (k_here; k_dflt (refine m_start ?_)))
local macro_rules | `(tactic| walk_at "WhlRest") => `(tactic| (k_dflt (refine' m_turn ?hE ?_; (case hE => first | passes_own | with_unfolding_all passes_own)); (try k_sweep)))
local macro_rules | `(tactic| walk_at "MPost") => `(tactic| (dsimp only [MPost]))
local macro_rules | `(tactic| walk_at "truthy bytes") => `(tactic| (k_here; first | (refine truthy_void ?_) | (refine truthy_full (by simp) (by simp) ?_)))
local macro_rules | `(tactic| walk_at "call builtin:ord") => `(tactic| (k_here; refine ord_byte ?_))
local macro_rules | `(tactic| walk_at "call type:type") => `(tactic| ((with_reducible show wpAny _ _ (call _ [Value.bytes _ _]) _ _ _); refine call_type_of (Tx := "bytes") rfl (by decide +kernel) ?_))
theorem initIO : ∀ (w : World) (p : Program) (loose : List Str) (mean : ExcName → Option Value) (mg mb : Str → Option Value) (dp un : Nat) (gd : Option (List Code)) (cn : Str) (cs : Scope) (a : Addr) (ccd : Value) (cl : List (Str × Addr)) (outer : List Env) (A₀ : Around) (base h₀ : Heap) (L : Addr) (m : Str → Option Value) (s : Shared)
    (R : Result → Shared → Prop) (news : List (Addr × Obj)) (d : Array UInt8) (t : Tok) (bx bdx : Nat)
   (B : Below A₀ base outer h₀) (F : Fr h₀ L s.heap m) (X : (Mine.hd.heap_39 w.params).In h₀) (N : News h₀ L s.heap ((bx, instObj 418 bdx) :: (bdx, dictOf [] 0) :: news)) (hoff : OwnOff news [bdx]) (hb : bdx < bx) (hz : d.size ≤ 2000)
   (T : Top p loose mean mg mb h₀) (hk : cs.kind = .function) (hd : dp < 600) (hu : un < 900)
   (ret : ∀ (ba : Nat) h' tk t1 t2 u1, Fr h₀ L h' m → News h₀ L h' (bioL w bx bdx ba t1 t2 u1 d 0 ++ news) → bx < ba → R (.ok (.ret .none)) { s with heap := h', toks := tk }),
   codeD (model PG w) (ktrTop dp un gd cn cs L a ccd cl outer) (.call (.ref 205) ⟨[.ref bx, .bytes d t], []⟩) R s := by
  delta PG
  k_fill
  intro w p loose mean mg mb dp un gd cn cs a ccd cl outer A₀ base h₀ L m s R news d t bx bdx B F X N hoff hb hz T hk hd hu ret
  refine' D_code_def ?k1 ?k2 ?k3 ?k4 ?k5 ?kA ?kF ?kK ?k6 ?k7 ?k8 ?k9 ?kB ?_ ?c2 ?c3 ?c4 ?c5
  case kA => exact rfl
  case kF => exact rfl
  case kK => assumption
  case k1 => k_asm
  case k2 => k_asm
  case k3 => k_asm
  case k4 => k_asm
  case k5 => k_asm
  case k6 => k_is
  case k7 => k_is
  case k8 => k_room
  case k9 => first | exact BindsTo.of_eq rfl | exact binds_K (by k_in) rfl (by k_is) rfl rfl rfl
  case c5 => decide
  case kB => exact locs rfl
  case c2 => exact rfl
  case c3 => exact rfl
  case c4 => exact rfl
  k_whole
  intro g' L' h' FG' F' N' B' X' T'
  dsimp only
  refine D_execs_cons (wpD_of_any ?_)
  k_steps
  refine D_execs_cons (D_Assign_Attr (D_IfExp ?_))
  k_steps
  refine D_Call_Name ?_
  k_steps
  refine D_callWith_type ?_
  k_steps
  refine D_bytearray (by omega) ?_
  intro h2 k2 e2
  dsimp only at k2 e2 ⊢
  rename Fr g' L' _ _ => F9
  rename News g' L' _ _ => N9
  have F2 := Fr.ext F9 k2
  have N2 := News.ext F9 N9 k2 e2
  have lb := Heap.lt_size (N9 (bx, _) (.head _)).1
  generalize Array.size _ = ba at N2 lb e2 ⊢
  change bx < ba at lb
  clear N9 F9 k2 e2
  k_steps
  dsimp only
  refine D_execs_cons (wpD_of_any ?_)
  k_steps
  dsimp only
  refine wpD_of_any ?_
  k_steps
  rename News h₀ L _ _ => N8
  exact ret ba _ _ _ _ _ (by assumption) (News.rot3 N8) lb
end Mine
end
namespace Mine
theorem lull26 : True ∧ True := by
  w_top off
  k_with_none
  first
    | (walk1; fail)
    | exact ⟨trivial, trivial⟩
end Mine
section
open PySem PySem.W PySem.Spec PySem.Calls PyProof.Rows
set_option maxRecDepth 100000
namespace Mine
local macro_rules | `(tactic| k_room) => `(tactic| (simp only [depth_mark, depth_under_make, depth_under_kw, depth_in1, depth_deeper, depth_caller, ktrTop, recursionLimit]; omega))
local macro_rules | `(tactic| k_units) => `(tactic| (simp only [units_in1, units_deeper, Around.mark_units, units_caller, ktrTop, cLine_is]; omega))
local macro_rules | `(tactic| ktr_enter) => `(tactic| (refine' code_def ?k1 ?k2 ?k3 ?k4 ?k5 ?kA ?kF ?kK ?k6 ?k7 ?k8 ?k9 ?kB ?_ ?c2 ?c3 ?c4 ?c5; (case kA => exact rfl); (case kF => exact rfl); (case kK => assumption); (case k1 => k_asm); (case k2 => k_asm); (case k3 => k_asm); (case k4 => k_asm); (case k5 => k_asm); (case k6 => k_is); (case k7 => k_is); (case k8 => k_room); (case k9 => first | exact BindsTo.of_eq rfl | exact binds_K (by k_in) rfl (by k_is) rfl rfl rfl); (case c5 => decide); (case kB => exact locs rfl); (case c2 => exact rfl); (case c3 => exact rfl); (case c4 => exact rfl); k_whole; intro g' L' h' FG' F' N' B' X' T'; (try dsimp only); (try k_fold)))
local macro_rules | `(tactic| walk_at "compareOp Eq int int") => `(tactic| first | (refine eq_no (by first | omega | (simp only [List.length_append, List.length_cons, List.length_nil, ne_eq]; omega)) ?_) | (refine eq_yes (by omega) ?_))
local macro_rules | `(tactic| walk_at "compareOp Lt int int") => `(tactic| first | (refine lt_yes (by omega) ?_) | (refine lt_no (by omega) ?_))
local macro_rules | `(tactic| walk_at "exec While Constant") => `(tactic| (k_here; k_dflt (refine m_start ?_)))
local macro_rules | `(tactic| walk_at "exec While Constant cons nil") => `(tactic| (k_here; k_dflt (refine m_start ?_)))
local macro_rules | `(tactic| walk_at "exec While") => `(tactic| (k_here; k_dflt (refine m_start ?_)))
local macro_rules | `(tactic| walk_at "WhlRest") => `(tactic| (k_dflt (refine' m_turn ?hE ?_; (case hE => first | passes_own | with_unfolding_all passes_own)); (try k_sweep)))
local macro_rules | `(tactic| walk_at "MPost") => `(tactic| (dsimp only [MPost]))
local macro_rules | `(tactic| walk_at "truthy bytes") => `(tactic| (k_here; first | (refine truthy_void ?_) | (refine truthy_full (by simp) (by simp) ?_)))
local macro_rules | `(tactic| walk_at "call builtin:ord") => `(tactic| (k_here; refine ord_byte ?_))
theorem D_call_builtin_at {prog : Program} {w : World} {A : Around} {s : Shared} {id : String} {args : Args} {b : Builtin} {R : Result → Shared → Prop} (hd : isDec (.builtin id args) = false) (hq : (Code.builtin id args).quiet = true) (hb : entryFor table id = some b)
    (h : wpAny (model prog w) A.in1 (checkBuiltinCall id args) (fun _ s₁ => wpD (model prog w) (A.under (.builtin id args)) (b args)
      (fun fin s' => match fin with | .done f => R (.ok f) s' | .again c' => c'.quiet = true ∧ codeD (model prog w) A c' R s') (fun e s' => R (.error e) s') s₁)
      (fun e s' => R (.error e) s') s) : codeD (model prog w) A (.call (.builtin id) args) R s := by
  refine codeD_of_tree rfl ?_
  show wpD _ A.in1 (do checkBuiltinCall id args; again (.builtin id args)) _ _ s
  exact wpD_bind (wpD_mono (wpD_of_any h) (fun _ s₁ h₁ => wpD_pure ⟨hq, D_builtin hd hb h₁⟩) fun _ _ x => x)
theorem getNew : ∀ (w : World) (p : Program) (loose : List Str) (mean : ExcName → Option Value) (mg mb : Str → Option Value) (dp un : Nat) (gd : Option (List Code)) (cn : Str) (cs : Scope) (a : Addr) (ccd : Value) (cl : List (Str × Addr)) (outer : List Env) (A₀ : Around) (base h₀ : Heap) (L : Addr) (m : Str → Option Value) (s : Shared)
    (Q E : Value → Shared → Prop) (news : List (Addr × Obj))
   (B : Below A₀ base outer h₀) (F : Fr h₀ L s.heap m) (X : (Mine.hd.heap_39 w.params).In h₀) (N : News h₀ L s.heap news)
   (T : Top p loose mean mg mb h₀) (hk : cs.kind = .function) (hd : dp < 600) (hu : un < 900)
   (ret : ∀ tk, Q (.ref 158) { s with toks := tk }),
   wpAny (model PG w) (ktrTop dp un gd cn cs L a ccd cl outer) (getAttr (.ref 418) "__new__") Q E s := by
  delta PG
  k_fill
  intro w p loose mean mg mb dp un gd cn cs a ccd cl outer A₀ base h₀ L m s Q E news B F X N T hk hd hu ret
  k_steps
  exact ret _
theorem mkIO : ∀ (w : World) (p : Program) (loose : List Str) (mean : ExcName → Option Value) (mg mb : Str → Option Value) (dp un : Nat) (gd : Option (List Code)) (cn : Str) (cs : Scope) (a : Addr) (ccd : Value) (cl : List (Str × Addr)) (outer : List Env) (A₀ : Around) (base h₀ : Heap) (L : Addr) (m : Str → Option Value) (s : Shared)
    (Q E : Value → Shared → Prop) (news : List (Addr × Obj)) (d : Array UInt8) (t : Tok)
   (B : Below A₀ base outer h₀) (F : Fr h₀ L s.heap m) (X : (Mine.hd.heap_39 w.params).In h₀) (N : News h₀ L s.heap news) (hz : d.size ≤ 2000)
   (T : Top p loose mean mg mb h₀) (hk : cs.kind = .function) (hd : dp < 500) (hu : un < 800)
   (ret : ∀ (bx bdx ba : Nat) h' tk t1 t2 u1, Fr h₀ L h' m → News h₀ L h' (bioL w bx bdx ba t1 t2 u1 d 0 ++ news) → bdx < bx → bx < ba → (∀ p ∈ news, p.1 < bdx) → Q (.ref bx) { s with heap := h', toks := tk }),
   wpD (model PG w) (ktrTop dp un gd cn cs L a ccd cl outer) (call (.ref 418) [.bytes d t]) Q E s := by
  intro w p loose mean mg mb dp un gd cn cs a ccd cl outer A₀ base h₀ L m s Q E news d t B F X N hz T hk hd hu ret
  have X' := X.keeps F.keep
  obtain ⟨oc, od, cd, sl, ho, e1, e2, e4⟩ := cls418 w.params
  have hC := X' _ _ ho
  have call : Looks (model PG w) s.heap (specialOf (.ref 418) "__call__") (some (.builtin "type.__call__")) := Looks.of_peek X' (pk_call w)
  have typ : Looks (model PG w) s.heap (isInstance (.ref 418) (.type "type")) true := Looks.of_peek X' (pk_typ w)
  have made : Looks (model PG w) s.heap (Bind.madeBy (.ref 418)) none := Looks.of_peek X' (pk_made w)
  obtain ⟨c, l, hm⟩ := pk_mro w
  have mro : Looks (model PG w) s.heap (mroOf (.ref 418)) (c :: l) := Looks.of_peek X' hm
  refine wpD_call (codeD_of_tree rfl ?_)
  show wpD _ _ (callAny (.ref 418) _) _ _ _
  simp only [callAny]
  refine wpD_bind (wpD_of_any (wpAny_load hC ?_))
  dsimp only
  unfold callAny.viaDunder
  refine wpD_bind (wpD_of_any (call.here ?_))
  dsimp only
  rw [tc_bind]
  refine wpD_bind (wpD_pure (wpD_bind (wpD_pure ?_)))
  refine wpD_pure (a := Fin.again (.call (.builtin "type.__call__") ⟨.ref 418 :: [.bytes d t], []⟩)) (And.intro rfl ?_)
  refine D_call_builtin_at (isDec_typeCall _) (Code.quiet_builtin _ (by decide +kernel)) entry_typeCall (check_slot tc_kind tc_split typ (tc_args _ _ _) ?_)
  unfold Builtin.«type.__call__»
  dsimp only
  have hA : (ktrTop dp un gd cn cs L a ccd cl outer).under (Code.builtin "type.__call__" ⟨[.ref 418, .bytes d t], []⟩) = ktrTop (dp + 1) (un + 1) gd cn cs L a ccd cl outer := rfl
  rw [hA]
  rw [if_neg (by show ¬ (false = true); decide)]
  refine wpD_bind (wpD_of_any (mro.here ?_))
  rw [if_neg (by show ¬ (false = true); decide)]
  refine wpD_bind (wpD_of_any ?_)
  refine made.here ?_
  dsimp only
  refine wpD_bind (wpD_of_any ?_)
  refine getNew w p loose mean mg mb _ _ gd cn cs a ccd cl outer A₀ base h₀ L m _ _ _ news B F X N T hk (by omega) (by omega) fun tk => ?_
  refine wpD_bind (wpD_of_any (wpAny_holding ?_))
  refine newIO w p loose mean mg mb _ _ gd cn cs a ccd cl outer A₀ base h₀ L m _ _ _ news d t B F X N T hk (by omega) (by omega) fun x dx h1 tk1 F1 N1 l1 l2 => ?_
  have X1 := X.keeps F1.keep
  have self : Looks (model PG w) h1 (isSubtype (.ref 418) (.ref 418)) true := Looks.of_peek X1 (pk_self w)
  have init : Looks (model PG w) h1 (typeLookup (.ref 418) "__init__") (some (.ref 205)) := Looks.of_peek X1 (pk_init w)
  have bnd : Looks (model PG w) h1 (bindSpecial (.ref 205) (.ref x)) (.ref 205, [.ref x]) := Looks.of_peek X1 (pk_bind w _)
  have hx : h1.get? x = some (instObj 418 dx) := (N1 _ (.head _)).1
  have t1 : Looks (model PG w) h1 (typeOf (.ref x)) (.ref 418) := (Looks.ld hx).andThen .now
  have ii : Looks (model PG w) h1 (isInstance (.ref x) (.ref 418)) true := t1.andThen self
  have sp : Looks (model PG w) h1 (specialOf (.ref x) "__init__") (some (.ref 205)) := t1.andThen init
  dsimp only
  refine wpD_bind (wpD_of_any (ii.at ?_))
  rw [if_neg (by decide)]
  refine wpD_bind (wpD_holding ?_)
  unfold callSpecial?
  refine wpD_bind (wpD_of_any (sp.at ?_))
  dsimp only
  refine wpD_holding (wpD_bind (wpD_of_any (bnd.at ?_)))
  refine wpD_bind (wpD_call ?_)
  refine initIO w p loose mean mg mb _ _ gd cn cs a ccd cl outer A₀ base h₀ L m _ _ news d t x dx B F1 X N1 ?_ l2 hz T hk (by omega) (by omega) fun ba h2 tk2 t1 t2 u1 F2 N2 l3 => ?_
  · intro q hq b hb e
    rw [List.mem_singleton.mp hb] at e
    exact absurd (l1 q hq) (by rw [e]; exact Nat.lt_irrefl _)
  dsimp only
  refine wpD_pure ?_
  dsimp only
  rw [if_neg (by decide)]
  exact wpD_pure (ret x dx ba h2 tk2 t1 t2 u1 F2 N2 l2 l3 l1)
end Mine
end
namespace Mine
theorem lull27 : True ∧ True := by
  w_top off
  k_with_none
  first
    | (walk1; fail)
    | exact ⟨trivial, trivial⟩
end Mine
section
open PySem PySem.W PySem.Spec PySem.Calls PyProof.Rows
set_option maxRecDepth 100000
namespace Mine
section
variable {prog : Program} {w : World} {A A₀ : Around} {E : Value → Shared → Prop} {s : Shared} {K : Frag} {L : Addr} {h₀ base : Heap} {m mg mb : Str → Option Value} {news : List (Addr × Obj)} {p : Program} {loose : List Str} {mean : ExcName → Option Value}
theorem code_gen {R : Result → Shared → Prop} {name qual : Str} {params : Arguments} {body : List Stmt} {scope : Scope} {dV kV doc pm cdv ct oc : Value} {an od : Option Addr} {osl : Array (Option Value)} {f : Addr} {args : Args} {binds : List (Str × Value)}
    (F : Fr h₀ L s.heap m) (X₀ : K.In h₀) (N : News h₀ L s.heap news) (T : Top p loose mean mg mb h₀)
    (ho : K.lookup f = some ⟨oc, od, .func (fnOf name qual params body scope dV kV doc pm an cdv ct), osl⟩) (hcd : codeIn K cdv qual = true) (hroom : A.depth < recursionLimit)
    (hbind : BindsTo s (fnOf name qual params body scope dV kV doc pm an cdv ct) args binds) (hloc : ∀ y ∈ binds, scope.names.lookup y.1 = some .local)
    (h : ∀ (Lg ga : Nat) h' tk og ol, Fr h₀ L h' m → News h₀ L h' ((ga, og) :: (Lg, ol) :: news) → (∀ p ∈ news, p.1 < Lg) → L < Lg → Lg < ga → (∀ hh : Heap, hh.get? Lg = some ol → hh.Ns Lg (fun y => binds.reverse.lookup y)) → (∀ hh : Heap, hh.get? ga = some og → hh.IsGen ga s.gens.size) → (∀ es ep, og.data ≠ .dict es ep) →
      R (.ok (.ret (.ref ga))) { s with heap := h', toks := tk, gens := s.gens.push (.fresh (.func body (envOf qual scope Lg f cdv))) })
    (hco : scope.isCoroutine = false) (hgen : scope.isGenerator = true) (hk : scope.kind = .function)
    (hcell : ∀ x ∈ scope.names, x.2 ≠ .cell) : codeAny (model prog w) A (.call (.ref f) args) R s := by
  have X := X₀.keeps F.keep
  have hlim := T.nolimit.keeps F.keep
  refine codeAny_call_generator (fd := fnOf name qual params body scope dV kV doc pm an cdv ct) (body := body) hroom (X _ _ ho) rfl hco hgen rfl (codeRec_of X hcd) (hbind _ _ _ _ ?_)
  refine wpAny_newFunctionEnv hcell hloc (fun h1 hns hsb => ⟨hlim.fresh _ hsb, ?_⟩) hk
  dsimp only
  have k1 : ∀ b o, s.heap.get? b = some o → h1.get? b = some o := fun b o e => hsb.extBut b o (Nat.ne_of_lt (Heap.lt_size e)) (Heap.get?_push_of_some _ e)
  obtain ⟨ol, es, ep, hol, hr⟩ := hns
  have F1 : Fr h₀ L h1 m := Fr.ext F k1
  have N1 : News h₀ L h1 ((s.heap.objs.size, ol) :: news) := News.ext F N k1 hol
  have F2 : Fr h₀ L (h1.push { cls := .type "generator", data := .fields #[.int s.gens.size 0, .str name (s.toks + binds.length), .str qual (s.toks + binds.length + 1)] }) m := F1.push _
  have N2 := N1.push F1 { cls := .type "generator", data := .fields #[.int s.gens.size 0, .str name (s.toks + binds.length), .str qual (s.toks + binds.length + 1)] }
  refine h s.heap.objs.size h1.objs.size _ _ _ _ F2 N2 (fun q hq => Heap.lt_size (N q hq).1) (by obtain ⟨oL, _, _, hL, _⟩ := F.ns; exact Heap.lt_size hL) (Heap.lt_size hol) (fun hh e => ⟨ol, es, ep, e, hr⟩) (fun hh e => ⟨_, _, _, e, rfl, rfl, rfl⟩) (fun es ep e => by cases e)
end
local macro_rules | `(tactic| k_room) => `(tactic| (simp only [depth_mark, depth_under_make, depth_under_kw, depth_in1, depth_deeper, depth_caller, ktrTop, recursionLimit]; omega))
local macro_rules | `(tactic| k_units) => `(tactic| (simp only [units_in1, units_deeper, Around.mark_units, units_caller, ktrTop, cLine_is]; omega))
local macro_rules | `(tactic| ktr_enter) => `(tactic| (refine' code_def ?k1 ?k2 ?k3 ?k4 ?k5 ?kA ?kF ?kK ?k6 ?k7 ?k8 ?k9 ?kB ?_ ?c2 ?c3 ?c4 ?c5; (case kA => exact rfl); (case kF => exact rfl); (case kK => assumption); (case k1 => k_asm); (case k2 => k_asm); (case k3 => k_asm); (case k4 => k_asm); (case k5 => k_asm); (case k6 => k_is); (case k7 => k_is); (case k8 => k_room); (case k9 => first | exact BindsTo.of_eq rfl | exact binds_K (by k_in) rfl (by k_is) rfl rfl rfl); (case c5 => decide); (case kB => exact locs rfl); (case c2 => exact rfl); (case c3 => exact rfl); (case c4 => exact rfl); k_whole; intro g' L' h' FG' F' N' B' X' T'; (try dsimp only); (try k_fold)))
local macro_rules | `(tactic| walk_at "compareOp Eq int int") => `(tactic| first | (refine eq_no (by first | omega | (simp only [List.length_append, List.length_cons, List.length_nil, ne_eq]; omega)) ?_) | (refine eq_yes (by omega) ?_))
local macro_rules | `(tactic| walk_at "compareOp Lt int int") => `(tactic| first | (refine lt_yes (by omega) ?_) | (refine lt_no (by omega) ?_))
local macro_rules | `(tactic| walk_at "exec While Constant") => `(tactic| (k_here; k_dflt (refine m_start ?_)))
local macro_rules | `(tactic| walk_at "exec While Constant cons nil") => `(tactic| (k_here; k_dflt (refine m_start ?_)))
local macro_rules | `(tactic| walk_at "exec While") => `(tactic| (k_here; k_dflt (refine m_start ?_)))
local macro_rules | `(tactic| walk_at "WhlRest") => `(tactic| (k_dflt (refine' m_turn ?hE ?_; (case hE => first | passes_own | with_unfolding_all passes_own)); (try k_sweep)))
local macro_rules | `(tactic| walk_at "MPost") => `(tactic| (dsimp only [MPost]))
local macro_rules | `(tactic| walk_at "truthy bytes") => `(tactic| (k_here; first | (refine truthy_void ?_) | (refine truthy_full (by simp) (by simp) ?_)))
local macro_rules | `(tactic| walk_at "call builtin:ord") => `(tactic| (k_here; refine ord_byte ?_))
theorem self_gm (x : Nat) (y : Str) : List.lookup y [(Str.ofString "self", Value.ref x)] = gm none none x y := by
  show _ = (if y = Str.ofString "code" then none else if y = Str.ofString "x" then none else if y = Str.ofString "self" then some (Value.ref x) else none)
  rw [List.lookup_cons]
  by_cases h : y = Str.ofString "self"
  · subst h
    have h1 : ¬ (Str.ofString "self" = Str.ofString "code") := by decide
    have h2 : ¬ (Str.ofString "self" = Str.ofString "x") := by decide
    simp [h1, h2]
  · have : (y == Str.ofString "self") = false := by simpa using h
    rw [this]
    simp [h]
theorem genRun : ∀ (w : World) (p : Program) (loose : List Str) (mean : ExcName → Option Value) (mg mb : Str → Option Value) (dp un : Nat) (gd : Option (List Code)) (cn : Str) (cs : Scope) (a : Addr) (ccd : Value) (cl : List (Str × Addr)) (outer : List Env) (h₀ : Heap) (L : Addr) (m : Str → Option Value) (s : Shared)
    (Q E : Value → Shared → Prop) (news : List (Addr × Obj)) (x : Nat)
   (F : Fr h₀ L s.heap m) (X : (Mine.hd.heap_39 w.params).In h₀) (N : News h₀ L s.heap news)
   (T : Top p loose mean mg mb h₀) (hd : dp < 600) (hu : un < 900)
   (ret : ∀ (Lg ga : Nat) h' tk og ol, Fr h₀ L h' m → News h₀ L h' ((ga, og) :: (Lg, ol) :: news) → (∀ p ∈ news, p.1 < Lg) → L < Lg → Lg < ga → (∀ hh : Heap, hh.get? Lg = some ol → hh.Ns Lg (gm none none x)) → (∀ hh : Heap, hh.get? ga = some og → hh.IsGen ga s.gens.size) →
      Q (.ref ga) { s with heap := h', toks := tk, gens := s.gens.push (.fresh (funcC w Lg)) }),
   wpAny (model PG w) (ktrTop dp un gd cn cs L a ccd cl outer) (call (.ref 110) [.ref x]) Q E s := by
  delta PG
  k_fill
  intro w p loose mean mg mb dp un gd cn cs a ccd cl outer h₀ L m s Q E news x F X N T hd hu ret
  refine wpAny_call ?_
  refine' code_gen ?k2 ?k3 ?k4 ?k5 ?k6 ?k7 ?k8 ?k9 ?kB ?_ ?c2 ?c3 ?c4 ?c5
  case k2 => k_asm
  case k3 => k_asm
  case k4 => k_asm
  case k5 => k_asm
  case k6 => k_is
  case k7 => k_is
  case k8 => k_room
  case k9 => first | exact BindsTo.of_eq rfl | exact binds_K (by k_in) rfl (by k_is) rfl rfl rfl
  case c5 => decide
  case kB => exact locs rfl
  case c2 => exact rfl
  case c3 => exact rfl
  case c4 => exact rfl
  k_whole
  intro Lg ga h' tk og ol F' N' l1 l0 l2 e1 e2 e3
  refine ret Lg ga h' tk og ol F' N' l1 l0 l2 (fun hh e => ?_) e2
  obtain ⟨o, es, ep, ho, hd, hk, hf⟩ := e1 hh e
  refine ⟨o, es, ep, ho, hd, hk, fun y => (hf y).trans ?_⟩
  exact self_gm x y
end Mine
end
namespace Mine
theorem lull28 : True ∧ True := by
  w_top off
  k_with_none
  first
    | (walk1; fail)
    | exact ⟨trivial, trivial⟩
end Mine
section
open PySem PySem.W PySem.Spec PySem.Calls PyProof.Rows
set_option maxRecDepth 100000
namespace Mine
theorem D_callWith' {M : Model} {A : Around} {E : Value → Shared → Prop} {s : Shared} {env : Env} {K : Frag} {g : Heap} {pos : Pos} {f : Value} {Q : Value → Shared → Prop} {e : Expr} (_X : K.In g) (hk : keepIn K f = true)
    (h : wpAny M A (eval e env) (fun v s₁ => K.In s₁.heap ∧ wpD M A (call f [v]) Q E s₁) E s)
    (he : starEach [e] env = [(false, eval e env)] := by rfl) : wpD M A (callWith pos f [] (backTo pos (starEach [e] env)) []) Q E s := D_callWith hk h he
theorem slot_bytes_join : Slot "bytes" "join" "bytes.join" :=
  .of (owner := "bytes") (n := "join") (by rw [typeLookup_type, builtinLookup_eq_fast]; kernel_rfl) (by decide +kernel) (by decide +kernel) (by decide +kernel)
    (by first | exact .inl (by decide +kernel) | exact .inr (by decide +kernel)) (by rw [isSubtype_type]; kernel_rfl)
theorem type_bytes_join : typeOf (.builtin "bytes.join") = pure (.type "method_descriptor") := by show builtinType _ = _; rw [builtinType_eq_fast]; kernel_rfl
theorem entry_bytes_join : entryFor table "bytes.join" = some Builtin.«bytes.join» := by first | exact entryFor_of_fast (by kernel_rfl) | exact entryFor_of_tree (by kernel_rfl)
theorem args_bytes_join (a b : Value) : argsOk "bytes.join" ⟨[a, b], []⟩ := by unfold argsOk; kernel_rfl
theorem meth_join {M : Model} {A : Around} {E : Value → Shared → Prop} {s : Shared} {b : Array UInt8} {t : Tok} {pl : Sem Bool} {Q : Value × List Value → Shared → Prop} (h : Q (.builtin "bytes.join", [.bytes b t]) s) : wpAny M A (getMethod (.bytes b t) "join" pl) Q E s :=
  KBd.method_of (.bytes b t) (typeIs_bytes _ _ _) slot_bytes_join type_bytes_join KBd.noRef h
theorem call_join {prog : Program} {w : World} {A : Around} {E : Value → Shared → Prop} {s : Shared} {b : Array UInt8} {t : Tok} {v : Value} {Q : Value → Shared → Prop}
    (h : wpAny (model prog w) A.in1 (Builtin.«bytes.join» ⟨[.bytes b t, v], []⟩) (fun fin s' => match fin with | .done (.ret r) => Q r s' | _ => False) E s) :
    wpAny (model prog w) A (call (.builtin "bytes.join") [.bytes b t, v]) Q E s := by
  refine wpAny_call (codeAny_call_builtin slot_bytes_join.plain entry_bytes_join (slot_bytes_join.check _ _ _ _ _ _ _ _ (typeIs_bytes _ _ _) (args_bytes_join _ _) ?_))
  refine wpAny_mono h (fun fin s' h' => ?_) fun _ _ x => x
  rcases fin with (v | _ | _ | _) | _ <;> first | exact h' | exact h'.elim
local macro_rules | `(tactic| walk_at "getMethod bytes") => `(tactic| (k_here; (with_reducible refine meth_join ?_)))
theorem News.five {h₀ h : Heap} {L : Addr} {a b c d e : Addr × Obj} {l : List (Addr × Obj)} (N : News h₀ L h (a :: b :: c :: d :: e :: (l ++ []))) : News h₀ L h ([d, e, c] ++ l) := fun p hp => by
  refine N p ?_
  rw [List.append_nil]
  simp only [List.cons_append, List.nil_append, List.mem_cons] at hp ⊢
  rcases hp with h | h | h | h
  · exact .inr (.inr (.inr (.inl h)))
  · exact .inr (.inr (.inr (.inr (.inl h))))
  · exact .inr (.inr (.inl h))
  · exact .inr (.inr (.inr (.inr (.inr h))))
theorem six_none {g h : Heap} {L ga Lg l x d bx bdx ba : Addr} {o1 o2 o3 o4 o5 o6 o7 o8 : Obj} (N9 : News g L h ((ga, o1) :: (Lg, o2) :: (l, o3) :: (x, o4) :: (d, o5) :: ([(bx, o6), (bdx, o7), (ba, o8)] ++ []))) :
    ∀ c ∈ [x, d, l, bx, bdx, ba], g.get? c = none := fun c hc => by
  simp only [List.mem_cons, List.not_mem_nil, or_false] at hc
  rcases hc with rfl | rfl | rfl | rfl | rfl | rfl
  · exact (N9 _ (.tail _ (.tail _ (.tail _ (.head _))))).2.2
  · exact (N9 _ (.tail _ (.tail _ (.tail _ (.tail _ (.head _)))))).2.2
  · exact (N9 _ (.tail _ (.tail _ (.head _)))).2.2
  · exact (N9 _ (.tail _ (.tail _ (.tail _ (.tail _ (.tail _ (.head _))))))).2.2
  · exact (N9 _ (.tail _ (.tail _ (.tail _ (.tail _ (.tail _ (.tail _ (.head _)))))))).2.2
  · exact (N9 _ (.tail _ (.tail _ (.tail _ (.tail _ (.tail _ (.tail _ (.tail _ (.head _))))))))).2.2
/-- what a call of lzwdecode leaves of the heap -/
def Turned (fs : List Addr) (h h' : Heap) : Prop := ∀ b o, h.get? b = some o → (b ∉ fs → h'.get? b = some o) ∧ ∃ sl, h'.get? b = some { o with slots := sl }
local macro_rules | `(tactic| k_room) => `(tactic| (simp only [depth_mark, depth_under_make, depth_under_kw, depth_in1, depth_deeper, depth_caller, ktrTop, recursionLimit]; omega))
local macro_rules | `(tactic| k_units) => `(tactic| (simp only [units_in1, units_deeper, Around.mark_units, units_caller, ktrTop, cLine_is]; omega))
local macro_rules | `(tactic| ktr_enter) => `(tactic| (refine' code_def ?k1 ?k2 ?k3 ?k4 ?k5 ?kA ?kF ?kK ?k6 ?k7 ?k8 ?k9 ?kB ?_ ?c2 ?c3 ?c4 ?c5; (case kA => exact rfl); (case kF => exact rfl); (case kK => assumption); (case k1 => k_asm); (case k2 => k_asm); (case k3 => k_asm); (case k4 => k_asm); (case k5 => k_asm); (case k6 => k_is); (case k7 => k_is); (case k8 => k_room); (case k9 => first | exact BindsTo.of_eq rfl | exact binds_K (by k_in) rfl (by k_is) rfl rfl rfl); (case c5 => decide); (case kB => exact locs rfl); (case c2 => exact rfl); (case c3 => exact rfl); (case c4 => exact rfl); k_whole; intro g' L' h' FG' F' N' B' X' T'; (try dsimp only); (try k_fold)))
local macro_rules | `(tactic| walk_at "compareOp Eq int int") => `(tactic| first | (refine eq_no (by first | omega | (simp only [List.length_append, List.length_cons, List.length_nil, ne_eq]; omega)) ?_) | (refine eq_yes (by omega) ?_))
local macro_rules | `(tactic| walk_at "compareOp Lt int int") => `(tactic| first | (refine lt_yes (by omega) ?_) | (refine lt_no (by omega) ?_))
local macro_rules | `(tactic| walk_at "exec While Constant") => `(tactic| (k_here; k_dflt (refine m_start ?_)))
local macro_rules | `(tactic| walk_at "exec While Constant cons nil") => `(tactic| (k_here; k_dflt (refine m_start ?_)))
local macro_rules | `(tactic| walk_at "exec While") => `(tactic| (k_here; k_dflt (refine m_start ?_)))
local macro_rules | `(tactic| walk_at "WhlRest") => `(tactic| (k_dflt (refine' m_turn ?hE ?_; (case hE => first | passes_own | with_unfolding_all passes_own)); (try k_sweep)))
local macro_rules | `(tactic| walk_at "MPost") => `(tactic| (dsimp only [MPost]))
local macro_rules | `(tactic| walk_at "truthy bytes") => `(tactic| (k_here; first | (refine truthy_void ?_) | (refine truthy_full (by simp) (by simp) ?_)))
local macro_rules | `(tactic| walk_at "call builtin:ord") => `(tactic| (k_here; refine ord_byte ?_))
local macro_rules | `(tactic| walk_at "call ref") => `(tactic| (k_here; (show wpAny _ _ (call (Value.ref 110) [Value.ref _]) _ _ _); k_dflt (refine genRun _ _ _ _ _ _ _ _ _ _ _ _ _ _ _ _ _ _ _ _ _ _ _ (by k_asm) (by k_asm) (by k_asm) (by k_asm) (by k_room) (by k_units) ?_); (try dsimp only); intro Lg' ga' h' tk' og' ol' F' N' l1' l0' l2' e1' e2'))
set_option maxHeartbeats 8000000 in
theorem lzw : ∀ (w : World) (p : Program) (loose : List Str) (mean : ExcName → Option Value) (mg mb : Str → Option Value) (dp un : Nat) (gd : Option (List Code)) (cn : Str) (cs : Scope) (a : Addr) (ccd : Value) (cl : List (Str × Addr)) (outer : List Env) (A₀ : Around) (base h₀ : Heap) (L : Addr) (m : Str → Option Value) (s : Shared)
    (Q E : Value → Shared → Prop) (b : Array UInt8) (t : Tok) (O : List (Array UInt8))
   (B : Below A₀ base outer h₀) (F : Fr h₀ L s.heap m) (X : (Mine.hd.heap_39 w.params).In h₀) (XB : (Mine.hd.heap_39 w.params).In base) (TB : Top p loose mean mg mb base)
   (D : KtsDicts (outer.filterMap (·.frame)) h₀) (hz : b.size < 2000)
   (T : Top p loose mean mg mb h₀) (hk : cs.kind = .function) (hd : dp < 400) (hu : un < 600)
   (hD : Dec b 0 8 0 [] .none O) (hO1 : O.length ≤ 1000) (hO2 : (cat O).size ≤ 2000)
   (ret : ∀ h' tk t, Turned ((envX cn cs L a ccd cl :: outer).filterMap (·.frame)) s.heap h' → Q (.bytes (cat O) t) { s with heap := h', toks := tk, gens := s.gens.push .finished }),
   wpD (model PG w) (ktrTop dp un gd cn cs L a ccd cl outer) (call (.ref 674) [.bytes b t]) Q E s := by
  delta PG
  k_fill
  intro w p loose mean mg mb dp un gd cn cs a ccd cl outer A₀ base h₀ L m s Q E b t O B F X XB TB D hz T hk hd hu hD hO1 hO2 ret
  refine wpD_call ?_
  refine' D_enter ?k1 ?k2 ?k3 ?k5 ?kA ?kf ?kK ?k6 ?k7 ?k8 ?k9 ?kB ?_ ?c2 ?c3 ?c4 ?c5
  case kA => exact rfl
  case kf => exact rfl
  case kK => assumption
  case k1 => k_asm
  case k2 => k_asm
  case k3 => k_asm
  case k5 => k_asm
  case k6 => k_is
  case k7 => k_is
  case k8 => k_room
  case k9 => first | exact BindsTo.of_eq rfl | exact binds_K (by k_in) rfl (by k_is) rfl rfl rfl
  case c5 => decide
  case kB => exact locs rfl
  case c2 => exact rfl
  case c3 => exact rfl
  case c4 => exact rfl
  k_whole
  intro L' h1 hL' F' B' X' T'
  have N' : News s.heap L' h1 [] := News.nil
  dsimp only
  refine D_execs_cons (D_Assign_Name (D_Call_Name ?_))
  k_steps
  refine' D_callWith' X' ?hkk ?_ ?he
  case hkk => k_is
  case he => rfl
  k_steps
  refine mkIO _ _ _ _ _ _ _ _ _ _ _ _ _ _ _ _ _ _ _ _ _ _ _ _ _ _ B' F' X' N' (by omega) T' rfl (by k_room) (by k_units) ?_
  intro bx bdx ba h2 tk2 t1 t2 u1 F2 N2 lx1 lx2 lx3
  k_steps
  dsimp only
  refine D_execs_cons (wpD_of_any ?_)
  k_steps
  dsimp only
  refine D_execs_cons (wpD_of_any ?_)
  k_steps
  refine call_join ?_
  rename Fr s.heap L' _ _ => F9
  rename News s.heap L' _ _ => N9
  rename ∀ p ∈ (_, W.listOf _ _) :: _, p.1 < _ => q1
  rename ∀ _ , _ = some _ → Heap.IsGen _ _ _ => e2
  rename ∀ _ , _ = some _ → Heap.Ns _ _ _ => e1
  rename _ < _ ∧ _ < _ ∧ AllLt _ _ => q2
  rename ∀ (p : Addr × Obj), p ∈ bioL w bx bdx ba t1 t2 u1 b 0 ++ ([] : List (Addr × Obj)) → p.1 < (_ : Addr) => q3
  have D2 : KtsDicts ((envX cn cs L a ccd cl :: outer).filterMap (·.frame)) s.heap := fun c hc => by
    rcases kts_mem (name := cn) (scope := cs) (a := a) (cd := ccd) (show c ∈ (envOf cn cs L a ccd :: outer).filterMap (·.frame) from hc) with rfl | hc
    · obtain ⟨o, es, ep, ho, hd, _⟩ := F.ns
      exact ⟨o, es, ep, ho, hd⟩
    · obtain ⟨o, es, n, ho, hd⟩ := D c hc
      exact ⟨o, es, n, F.keep c o ho, hd⟩
  have hLL := Heap.lt_size (N9 _ (.tail _ (.head _))).1
  refine joinRun (dp := dp + 1) (un := un + 4) B' F9 X' T' XB TB D2 rfl (News.five N9) (e1 _ (N9 _ (.tail _ (.head _))).1) (e2 _ (N9 _ (.head _)).1) rfl (by omega) (by omega) lx1 lx2 (q3 (ba, _) (.tail _ (.tail _ (.head _)))) (by assumption) q2.1 (q1 (_, _) (.head _)) (by assumption) (by assumption) hz hD hO1 hO2 ?_
  intro s' t' tk' hG
  obtain ⟨g1, g2, g3, g', hT, hk'⟩ := hG
  obtain ⟨hp, gs, dr, tt, os⟩ := s'
  dsimp only at g1 g2 g3
  subst g1 g2 g3
  refine ret hp tk' t' ?_
  have hn := six_none N9
  have st := under_stays (s := ⟨_, s.gens, s.drawn, s.toks, s.os⟩) F9 (by assumption) hn
  intro c o e
  have e9 := st c o e
  have hcL : c ≠ L' := fun q => by rw [q, kts_self F9] at e; cases e
  refine ⟨fun hc => hk' c o (hT.other c o e9 fun hm => ?_), ?_⟩
  · rcases kts_mem hm with z | z
    · exact hcL z
    · exact hc z
  · obtain ⟨sl, hs⟩ := hT.up e9
    exact ⟨sl, hk' _ _ hs⟩
end Mine
end
namespace Mine
theorem lull29 : True ∧ True := by
  w_top off
  k_with_none
  first
    | (walk1; fail)
    | exact ⟨trivial, trivial⟩
end Mine
section
open PySem PySem.W PySem.Calls PyProof.Rows
open PySem.W.KTBy
namespace Mine
section
variable {prog : Program} {w : World} {M : Model} {A : Around} {E : Value → Shared → Prop} {s : Shared} {x : Int} {k : Nat} {t u v : Tok}
theorem to_big_at {Q : Value → Shared → Prop} (hk : k ≤ 1000) (h0 : 0 ≤ x) (h1 : x < 256 ^ k) (h : ∀ (b : Array UInt8) t' k', KBw.bInts b = (little k x).reverse → b.size = k → Q (.bytes b t') { s with toks := k' }) :
    wpAny (model prog w) A (call (.builtin "int.to_bytes") [.int x t, .int (k : Int) u, .str (PySem.Str.ofString "big") v]) Q E s := by
  have hb := bits_le rfl h0 h1
  refine wpAny_call_entry slot (typeIs_int s x t) entry ?_ (args _ _ _)
  show wpAny _ _ (Builtin.Int.intOfSelf (.int x t) >>= fun y => _) _ _ s
  refine wpAny_bind (wpAny_of_eq (a := x) rfl ?_)
  show wpAny _ _ (Builtin.Int.intBindNamed "to_bytes" ["length", "byteorder", "signed"] 0 2 [.int (k : Int) u, .str (PySem.Str.ofString "big") v] [] >>= fun l => _) _ _ s
  refine wpAny_bind (wpAny_of_eq (a := [some (.int (k : Int) u), some (.str (PySem.Str.ofString "big") v), none]) (by kernel_rfl) ?_)
  show wpAny _ _ (Builtin.Int.intIndex "int.to_bytes" (.int (k : Int) u) >>= fun n => _) _ _ s
  refine wpAny_bind (wpAny_of_eq (a := (k : Int)) rfl ?_)
  refine if_not (by show (decide ((k : Int) < -(2 ^ 63 : Int)) || decide ((k : Int) ≥ 2 ^ 63)) = false; rw [decide_eq_false (show ¬ ((k : Int) < -(2 ^ 63 : Int)) by omega), decide_eq_false (show ¬ ((k : Int) ≥ 2 ^ 63) by omega)]; rfl) ?_
  refine wpAny_bind (wpAny_of_eq (a := PySem.Str.ofString "big") (by kernel_rfl) ?_)
  refine wpAny_bind (wpAny_of_eq (a := false) rfl ?_)
  refine wpAny_bind (wpAny_of_eq (a := false) (by kernel_rfl) ?_)
  refine wpAny_ite_false (decide_eq_false (show ¬ ((k : Int) < 0) by omega)) ?_
  refine wpAny_ite_false (decide_eq_false (show ¬ ((k : Int) > 2 ^ 63 - 1 - 33) by omega)) ?_
  refine wpAny_ite_false (decide_eq_false (show ¬ ((k : Int) > (sizeLine : Int)) by rw [sizeLine_eq]; omega)) ?_
  refine if_not (by show (decide (x < 0) && !false) = false; rw [decide_eq_false (show ¬ x < 0 by omega)]; rfl) ?_
  refine if_not (by show (_ && decide ((Builtin.Int.intBits x : Int) > 8 * (k : Int))) = false; rw [decide_eq_false (show ¬ ((Builtin.Int.intBits x : Int) > 8 * (k : Int)) by omega), Bool.and_false]) ?_
  have hlen : (List.reverse (low x (Int.toNat (k : Int)))).length = k := by rw [List.length_reverse, low_length, Int.toNat_natCast]
  refine wpAny_bind (wpAny_mkBytes (wpAny_pure ⟨_, rfl, h _ _ _ ?_ ?_⟩) ?_)
  · show (List.map (fun c : UInt8 => ((c.toNat : Nat) : Int)) (List.reverse (low x (Int.toNat (k : Int))))) = (little k x).reverse
    rw [Int.toNat_natCast, List.map_reverse, low_ints h0 h1, ← little_eq]
  · exact hlen
  · show (List.reverse (low x (Int.toNat (k : Int)))).length ≤ sizeLine
    rw [hlen, sizeLine_eq]
    omega
end
end Mine
end
namespace Mine
theorem lull30 : True ∧ True := by
  w_top off
  k_with_none
  first
    | (walk1; fail)
    | exact ⟨trivial, trivial⟩
end Mine
section
open PySem PySem.W PySem.Spec PySem.Calls PyProof.Rows
set_option maxRecDepth 100000
namespace Mine
local macro_rules | `(tactic| k_room) => `(tactic| (simp only [depth_mark, depth_under_make, depth_under_kw, depth_in1, depth_deeper, depth_caller, ktrTop, recursionLimit]; omega))
local macro_rules | `(tactic| k_units) => `(tactic| (simp only [units_in1, units_deeper, Around.mark_units, units_caller, ktrTop, cLine_is]; omega))
local macro_rules | `(tactic| ktr_enter) => `(tactic| (refine' code_def ?k1 ?k2 ?k3 ?k4 ?k5 ?kA ?kF ?kK ?k6 ?k7 ?k8 ?k9 ?kB ?_ ?c2 ?c3 ?c4 ?c5; (case kA => exact rfl); (case kF => exact rfl); (case kK => assumption); (case k1 => k_asm); (case k2 => k_asm); (case k3 => k_asm); (case k4 => k_asm); (case k5 => k_asm); (case k6 => k_is); (case k7 => k_is); (case k8 => k_room); (case k9 => first | exact BindsTo.of_eq rfl | exact binds_K (by k_in) rfl (by k_is) rfl rfl rfl); (case c5 => decide); (case kB => exact locs rfl); (case c2 => exact rfl); (case c3 => exact rfl); (case c4 => exact rfl); k_whole; intro g' L' h' FG' F' N' B' X' T'; (try dsimp only); (try k_fold)))
local macro_rules | `(tactic| walk_at "compareOp Eq int int") => `(tactic| first | (refine eq_no (by first | omega | (simp only [List.length_append, List.length_cons, List.length_nil, ne_eq]; omega)) ?_) | (refine eq_yes (by omega) ?_))
local macro_rules | `(tactic| walk_at "compareOp Lt int int") => `(tactic| first | (refine lt_yes (by omega) ?_) | (refine lt_no (by omega) ?_))
local macro_rules | `(tactic| walk_at "exec While Constant") => `(tactic| (k_here; k_dflt (refine m_start ?_)))
local macro_rules | `(tactic| walk_at "exec While Constant cons nil") => `(tactic| (k_here; k_dflt (refine m_start ?_)))
local macro_rules | `(tactic| walk_at "exec While") => `(tactic| (k_here; k_dflt (refine m_start ?_)))
local macro_rules | `(tactic| walk_at "WhlRest") => `(tactic| (k_dflt (refine' m_turn ?hE ?_; (case hE => first | passes_own | with_unfolding_all passes_own)); (try k_sweep)))
local macro_rules | `(tactic| walk_at "MPost") => `(tactic| (dsimp only [MPost]))
local macro_rules | `(tactic| walk_at "truthy bytes") => `(tactic| (k_here; first | (refine truthy_void ?_) | (refine truthy_full (by simp) (by simp) ?_)))
local macro_rules | `(tactic| walk_at "call builtin:ord") => `(tactic| (k_here; refine ord_byte ?_))
def numOf (l : List Int) : Int := l.foldl (fun a n => a * 512 + n) 0
theorem numOf_bound : ∀ (l : List Int) (a : Int) (k : Nat), (∀ n ∈ l, 0 ≤ n ∧ n < 512) → 0 ≤ a → a < 512 ^ k → 0 ≤ l.foldl (fun a n => a * 512 + n) a ∧ l.foldl (fun a n => a * 512 + n) a < 512 ^ (k + l.length) := by
  intro l
  induction l with
  | nil => intro a k _ h0 h1; exact ⟨h0, by simpa using h1⟩
  | cons x r ih =>
    intro a k hl h0 h1
    obtain ⟨x0, x1⟩ := hl x (List.mem_cons_self ..)
    have := ih (a * 512 + x) (k + 1) (fun n hn => hl n (List.mem_cons_of_mem _ hn)) (by omega) (by
      have e : (512 : Int) ^ (k + 1) = 512 ^ k * 512 := Int.pow_succ ..
      rw [e]; omega)
    rw [List.foldl_cons, List.length_cons, show k + (r.length + 1) = k + 1 + r.length from by omega]
    exact this
def padOf (n : Nat) : Nat := ((-(9 * ((n : Int) + 2))).fmod 8).toNat
def lenOf (n : Nat) : Nat := (9 * (n + 2) + 7) / 8
theorem pad_len (n : Nat) : 9 * (n + 2) + padOf n = 8 * lenOf n := by
  have h : ((-(9 * ((n : Int) + 2))).fmod 8) = (-(9 * ((n : Int) + 2))) % 8 := Int.fmod_eq_emod_of_nonneg _ (by decide)
  unfold padOf lenOf
  rw [h]
  omega
theorem pad_lt (n : Nat) : padOf n < 8 := by
  have h : ((-(9 * ((n : Int) + 2))).fmod 8) = (-(9 * ((n : Int) + 2))) % 8 := Int.fmod_eq_emod_of_nonneg _ (by decide)
  unfold padOf
  rw [h]
  omega
theorem laid_small {ns : List Int} (hr : ∀ n ∈ ns, 0 ≤ n ∧ n < 512) : 0 ≤ numOf ([256] ++ ns ++ [257]) * 2 ^ padOf ns.length ∧ numOf ([256] ++ ns ++ [257]) * 2 ^ padOf ns.length < 256 ^ lenOf ns.length := by
  have h := numOf_bound ([256] ++ ns ++ [257]) 0 0 (fun n hn => by
    simp only [List.mem_append, List.mem_cons, List.not_mem_nil, or_false] at hn
    rcases hn with (rfl | h) | rfl
    · omega
    · exact hr n h
    · omega) (by omega) (by decide)
  have hl : 0 + ([256] ++ ns ++ [257]).length = ns.length + 2 := by simp
  rw [hl] at h
  have hp : (0 : Int) < 2 ^ padOf ns.length := Int.pow_pos (by decide)
  refine ⟨Int.mul_nonneg h.1 (Int.le_of_lt hp), ?_⟩
  have e1 : (256 : Int) ^ lenOf ns.length = 512 ^ (ns.length + 2) * 2 ^ padOf ns.length := by
    rw [show (256 : Int) = 2 ^ 8 from by decide, show (512 : Int) = 2 ^ 9 from by decide, ← Int.pow_mul, ← Int.pow_mul, ← Int.pow_add, pad_len]
  rw [e1]
  exact Int.mul_lt_mul_of_pos_right h.2 hp
theorem pow_pad {z : Int} (h1 : z < 8) : Builtin.Int.intBits (2 ^ z.toNat) ≤ 64 := by
  refine PySem.intBits_le_iff.mpr ?_
  have h2 : z.toNat ≤ 7 := by omega
  have h3 : (2 : Nat) ^ z.toNat ≤ 2 ^ 7 := Nat.pow_le_pow_right (by decide) h2
  have h4 : ((2 : Int) ^ z.toNat).natAbs = 2 ^ z.toNat := by rw [Int.natAbs_pow]; rfl
  rw [h4]
  exact Nat.lt_of_le_of_lt h3 (by decide)
theorem len_fdiv (n : Nat) : (9 * ((n : Int) + 2) + 7).fdiv 8 = ((lenOf n : Nat) : Int) := by
  rw [Int.fdiv_eq_ediv_of_nonneg _ (by decide)]
  unfold lenOf
  omega
local macro_rules | `(tactic| walk_at "exec For Name BinOp cons nil") => `(tactic| (k_here; (rename Fr _ _ _ _ => lF'); (with_unfolding_all refine' For_invVF lF' ?k1 ?k2 ?_; (case k1 => exact rfl); (case k2 => exact rfl); k_whole)))
set_option maxHeartbeats 8000000 in
theorem laid : ∀ (w : World) (p : Program) (loose : List Str) (mean : ExcName → Option Value) (mg mb : Str → Option Value) (dp un : Nat) (gd : Option (List Code)) (cn : Str) (cs : Scope) (a : Addr) (ccd : Value) (cl : List (Str × Addr)) (outer : List Env) (A₀ : Around) (base h₀ : Heap) (L : Addr) (m : Str → Option Value) (s : Shared)
    (Q E : Value → Shared → Prop) (c : Nat) (vs : List Value) (ns : List Int) (nn : Nat) (more : List (Addr × Obj))
   (B : Below A₀ base outer h₀) (F : Fr h₀ L s.heap m) (X : (Mine.hd.heap_39 w.params).In h₀) (N : News h₀ L s.heap ((c, W.listOf vs.toArray nn) :: more)) (hoff : OwnOff more [c])
   (T : Top p loose mean mg mb h₀) (hk : cs.kind = .function) (hd : dp < 600) (hu : un < 900)
   (hi : IntsAre vs ns) (hn : ns.length ≤ 60) (hr : ∀ n ∈ ns, 0 ≤ n ∧ n < 512)
   (ret : ∀ (b : Array UInt8) t h' tk, KBw.bInts b = (KTBy.little (lenOf ns.length) (numOf ([256] ++ ns ++ [257]) * 2 ^ padOf ns.length)).reverse → b.size = lenOf ns.length → Fr h₀ L h' m → News h₀ L h' ((c, W.listOf vs.toArray nn) :: more) → Q (.bytes b t) { s with heap := h', toks := tk }),
   wpAny (model PG w) (ktrTop dp un gd cn cs L a ccd cl outer) (call (.ref 688) [.ref c]) Q E s := by
  delta PG
  k_fill
  intro w p loose mean mg mb dp un gd cn cs a ccd cl outer A₀ base h₀ L m s Q E c vs ns nn more B F X N hoff T hk hd hu hi hn hr ret
  (k_with "pyIter ref" => k_state (fun pre number => number = pre.foldl (fun a n => a * 512 + n) 0) "number")
  refine wpAny_call ?_
  k_dflt ktr_enter
  k_steps
  refine mul_int ?_ (IntMulOk.of_right (pow_pad (by assumption)))
  dsimp only
  k_steps
  rw [len_fdiv]
  rename _ = List.foldl _ _ _ => hv
  subst hv
  refine to_big_at (by unfold lenOf; omega) (laid_small hr).1 (laid_small hr).2 ?_
  intro b9 t9 k9 hb9 hs9
  dsimp only
  k_steps
  rename News h₀ L _ _ => N9
  exact ret _ _ _ _ hb9 hs9 (by assumption) (kst_newsOf N9 (by kst_inAny))
end Mine
end
namespace Mine
theorem lull31 : True ∧ True := by
  w_top off
  k_with_none
  first
    | (walk1; fail)
    | exact ⟨trivial, trivial⟩
end Mine
section
open PySem
namespace Mine
def isBytesOf : Array UInt8 → Value → Bool
  | x, .bytes y _ => y == x
  | _, _ => false
theorem isBytesOf_shape {x : Array UInt8} {v : Value} (h : isBytesOf x v = true) : ∃ t, v = .bytes x t := by
  cases v <;> simp_all [isBytesOf]
theorem isBytesOf_inj (v : Value) (a b : Array UInt8) (ha : isBytesOf a v = true) (hb : isBytesOf b v = true) : a = b := by
  obtain ⟨t, rfl⟩ := isBytesOf_shape ha
  obtain ⟨u, h⟩ := isBytesOf_shape hb
  injection h
def hashBytes (w : World) (b : Array UInt8) : Int := reduceHash (hashStr w ⟨b.map (·.toNat)⟩)
theorem look_bytes_hash : Slot "bytes" "__hash__" "bytes.__hash__" :=
  .of (owner := "bytes") (n := "__hash__") (by rw [typeLookup_type, builtinLookup_eq_fast]; kernel_rfl) (by decide +kernel) (by decide +kernel) (by decide +kernel)
    (by first | exact .inl (by decide +kernel) | exact .inr (by decide +kernel)) (by rw [isSubtype_type]; kernel_rfl)
theorem entry_bhash : entryFor table "bytes.__hash__" = some Builtin.«bytes.__hash__» := entryFor_of_tree (by kernel_rfl)
theorem args_bhash (a : Value) : argsOk "bytes.__hash__" ⟨[a], []⟩ := by unfold argsOk; kernel_rfl
section
variable {prog : Program} {w : World} {A : Around} {E : Value → Shared → Prop} {s : Shared}
theorem reduced_ok {i : Int} {Q : Int → Shared → Prop} (h : Q (reduceHash i) s) : wpAny (model prog w) A (pyHashByItsType.reduced i) Q E s := by
  unfold pyHashByItsType.reduced
  unfold reduceHash at h
  by_cases c : (decide (-(2 ^ 63 : Int) ≤ i) && decide (i < 2 ^ 63)) = true
  · rw [if_pos c] at h ⊢
    exact wpAny_pure h
  · rw [if_neg c] at h ⊢
    exact wpAny_bind (wpAny_rule (wpAny_pure h))
theorem pyHash_bytes {x : Array UInt8} {t : Tok} {Q : Int → Shared → Prop} (h : Q (hashBytes w x) { s with toks := s.toks + 1 }) :
    wpAny (model prog w) A (pyHash (.bytes x t)) Q E s := by
  have hT : s.TypeIs (.bytes x t) "bytes" := rfl
  unfold pyHash
  have hv : [Value.bytes x t].any Value.onHeap = false := rfl
  refine wpAny_bind ?_
  rw [cRoomFor, if_neg (by rw [hv]; exact Bool.false_ne_true)]; refine wpAny_pure ?_
  refine wpAny_bind (wpAny_specialOf hT look_bytes_hash.lookup ?_)
  show wpAny _ _ (if (some (Value.builtin "bytes.__hash__") == some Value.none) = true then _ else _) Q E s
  rw [if_neg (by rw [beq_builtin_none]; exact Bool.false_ne_true)]
  refine wpAny_bind (wpAny_specialOf hT look_bytes_hash.lookup ?_)
  show wpAny _ _ (callSpecialIfBoundUnlessNone? (.bytes x t) "__hash__" _ >>= _) Q E s
  refine wpAny_bind (wpAny_callSpecialIfBoundUnlessNone?_slot hT look_bytes_hash
    (wpAny_call_entry look_bytes_hash hT entry_bhash
      (show wpAny _ _ (strHash ⟨x.map (·.toNat)⟩ >>= fun i => (do ret (← mkInt i))) _ _ s from ?_) (args_bhash _)))
  unfold strHash
  refine wpAny_bind (wpAny_bind (wpAny_askSetting (wpAny_pure (wpAny_ret_mkInt ?_))))
  exact reduced_ok h
theorem eqBool_bytes {a b : Array UInt8} {t u : Tok} {Q : Bool → Shared → Prop} (h : Q (decide (a = b)) s) :
    wpAny (model prog w) A (eqBool (.bytes a t) (.bytes b u)) Q E s := by
  unfold eqBool
  show wpAny _ _ (if (Value.bytes a t == Value.bytes b u) = true then _ else _) Q E s
  by_cases hab : (Value.bytes a t == Value.bytes b u) = true
  · rw [if_pos hab]
    have e : a = b := by have := eq_of_beq hab; injection this
    subst e
    exact wpAny_bind (wpAny_rule (wpAny_pure (by simpa using h)))
  · rw [if_neg hab]
    refine wpAny_bind (richCompare_gives (op := .Eq) (T := "bytes") rfl rfl PySem.W.FB.slot_bytes_eq PySem.W.FB.entry_bytes_eq (PySem.W.FB.args_bytes_eq_2 _ _) (PySem.W.gives_bytes_eq a b t u) (fun x => nomatch x) (wpAny_truthy_bool ?_))
    have e : (a.toList == b.toList) = decide (a = b) := by
      by_cases hne : a = b
      · subst hne; simp
      · rw [decide_eq_false hne]
        exact beq_eq_false_iff_ne.mpr fun hl => hne (Array.toList_inj.mp hl)
    rw [e]; exact h
end
def bytesKind (prog : Program) (w : World) : KeyKind prog w (Array UInt8) where
  is := isBytesOf
  hash := hashBytes w
  inj := isBytesOf_inj
  byValue := fun k v h => by obtain ⟨t, rfl⟩ := isBytesOf_shape h; rfl
  pyHash := fun hv h => by obtain ⟨t, rfl⟩ := isBytesOf_shape hv; exact pyHash_bytes h
  eqBool := fun hu hv h => by
    obtain ⟨t, rfl⟩ := isBytesOf_shape hu
    obtain ⟨u, rfl⟩ := isBytesOf_shape hv
    exact eqBool_bytes h
  «strs» := fun k x t v h => by simp [isBytesOf] at h
theorem bytesKind_is (prog : Program) (w : World) (k : Array UInt8) (t : Tok) : (bytesKind prog w).is k (.bytes k t) = true := by simp [bytesKind, isBytesOf]
end Mine
end
namespace Mine
theorem lull32 : True ∧ True := by
  w_top off
  k_with_none
  first
    | (walk1; fail)
    | exact ⟨trivial, trivial⟩
end Mine
section
open PySem PySem.W PySem.Spec PySem.Calls PyProof.Rows
set_option maxRecDepth 100000
namespace Mine
local macro_rules | `(tactic| k_room) => `(tactic| (simp only [depth_mark, depth_under_make, depth_under_kw, depth_in1, depth_deeper, depth_caller, ktrTop, recursionLimit]; omega))
local macro_rules | `(tactic| k_units) => `(tactic| (simp only [units_in1, units_deeper, Around.mark_units, units_caller, ktrTop, cLine_is]; omega))
local macro_rules | `(tactic| ktr_enter) => `(tactic| (refine' code_def ?k1 ?k2 ?k3 ?k4 ?k5 ?kA ?kF ?kK ?k6 ?k7 ?k8 ?k9 ?kB ?_ ?c2 ?c3 ?c4 ?c5; (case kA => exact rfl); (case kF => exact rfl); (case kK => assumption); (case k1 => k_asm); (case k2 => k_asm); (case k3 => k_asm); (case k4 => k_asm); (case k5 => k_asm); (case k6 => k_is); (case k7 => k_is); (case k8 => k_room); (case k9 => first | exact BindsTo.of_eq rfl | exact binds_K (by k_in) rfl (by k_is) rfl rfl rfl); (case c5 => decide); (case kB => exact locs rfl); (case c2 => exact rfl); (case c3 => exact rfl); (case c4 => exact rfl); k_whole; intro g' L' h' FG' F' N' B' X' T'; (try dsimp only); (try k_fold)))
local macro_rules | `(tactic| walk_at "compareOp Eq int int") => `(tactic| first | (refine eq_no (by first | omega | (simp only [List.length_append, List.length_cons, List.length_nil, ne_eq]; omega)) ?_) | (refine eq_yes (by omega) ?_))
local macro_rules | `(tactic| walk_at "compareOp Lt int int") => `(tactic| first | (refine lt_yes (by omega) ?_) | (refine lt_no (by omega) ?_))
local macro_rules | `(tactic| walk_at "truthy bytes") => `(tactic| (k_here; first | (refine truthy_void ?_) | (refine truthy_full (by simp) (by simp) ?_)))
local macro_rules | `(tactic| walk_at "call builtin:ord") => `(tactic| (k_here; refine ord_byte ?_))
def MHalt (P : Prop) : Prop := P
theorem m_halt {P : Prop} (h : MHalt P) : P := h
local macro_rules | `(tactic| walk_at "exec While Compare") => `(tactic| (k_here; refine m_halt ?_))
local macro_rules | `(tactic| walk_at "exec While Compare cons nil") => `(tactic| (k_here; refine m_halt ?_))
local macro_rules | `(tactic| walk_at "exec While BoolOp") => `(tactic| (k_here; refine m_halt ?_))
local macro_rules | `(tactic| walk_at "exec While BoolOp cons nil") => `(tactic| (k_here; refine m_halt ?_))
local macro_rules | `(tactic| walk_at "exec While") => `(tactic| (k_here; refine m_halt ?_))
/-- the keys in the order of their making; the value of the i-th is 258 + i -/
def GTab (kvs : List (Array UInt8 × Value)) (ks : List (Array UInt8)) : Prop := kvs.length = ks.length ∧ ∀ (i : Nat) (k : Array UInt8), ks[i]? = some k → ∃ t, kvs[i]? = some (k, .int ((258 + i : Nat) : Int) t)
def GSize (D : Array UInt8) (ks : List (Array UInt8)) (place size : Nat) : Prop :=
  1 ≤ size ∧ place + size ≤ D.size ∧ (∀ j, 1 ≤ j → j < size → D.extract place (place + j + 1) ∈ ks) ∧ (place + size < D.size → D.extract place (place + size + 1) ∉ ks)
inductive GRun (D : Array UInt8) : Nat → List (Array UInt8) → List Int → Prop
  | start : GRun D 0 [] []
  | step {place size : Nat} {ks ks' : List (Array UInt8)} {codes : List Int} {c : Int} : GRun D place ks codes → GSize D ks place size →
      (1 < size → ∃ i : Nat, ks[i]? = some (D.extract place (place + size)) ∧ c = ((258 + i : Nat) : Int)) → (size = 1 → ∃ y, D[place]? = some y ∧ c = ((y.toNat : Nat) : Int)) →
      (D.extract place (place + size + 1) ∈ ks → ks' = ks) → (D.extract place (place + size + 1) ∉ ks → ks' = ks ++ [D.extract place (place + size + 1)]) → GRun D (place + size) ks' (codes ++ [c])
structure GS where
  kvs : List (Array UInt8 × Value)
  o : Obj
  vs : List Value
  nn : Nat
  place : Nat
  t : Tok
theorem tn0 (a : Nat) : ((a : Int)).toNat = a := Int.toNat_natCast a
theorem tn2 (a b : Nat) : ((a : Int) + (b : Int)).toNat = a + b := by omega
theorem tn1 (a b : Nat) : ((a : Int) + (b : Int) + 1).toNat = a + b + 1 := by omega
theorem bslice_int {prog : Program} {w : World} {A : Around} {E : Value → Shared → Prop} {s : Shared} {h₀ : Heap} {L : Addr} {m : Str → Option Value} {news : List (Addr × Obj)} {value slice : PySem.Expr} {b : Array UInt8} {t ui uj : Tok} {i j : Int} {Q : Value → Shared → Prop}
    (hF : Fr h₀ L s.heap m) (hN : News h₀ L s.heap news) (hz : b.size ≤ 16777216) (hi : 0 ≤ i) (hj : 0 ≤ j)
    (h : ∀ h' t' k, Fr h₀ L h' m → News h₀ L h' news → Q (.bytes (b.extract i.toNat j.toNat) t') { s with heap := h', toks := k })
    (hs : subscripted slice false (.bytes b t) (.ref s.heap.objs.size) = operate [.ref s.heap.objs.size, .bytes b t] (getItem (.bytes b t) (.ref s.heap.objs.size)) := by with_unfolding_all rfl)
    (ht : ∀ r, letTemporaryGo value (.bytes b t) r = pure () := by intro _; with_unfolding_all rfl) :
    wpAny (model prog w) A (subscriptTail value slice (.bytes b t) (.ref s.heap.objs.size)) Q E { s with heap := s.heap.push { cls := .type "slice", data := .fields #[.int i ui, .int j uj, .none] } } := by
  obtain ⟨i', rfl⟩ := Int.eq_ofNat_of_zero_le hi
  obtain ⟨j', rfl⟩ := Int.eq_ofNat_of_zero_le hj
  exact bslice_two hF hN hz h hs ht
local macro_rules | `(tactic| walk_at "subscriptTail") => `(tactic| (k_here; (with_reducible show wpAny _ _ (subscriptTail _ (Expr.Slice _ _ none _) (Value.bytes _ _) (Value.ref _)) _ _ _); (with_reducible rename Fr _ _ _ _ => F'); (with_reducible rename News _ _ _ _ => N'); k_dflt (refine bslice_int (s := ⟨_, _, _, _, _⟩) F' N' (by omega) (by omega) (by omega) ?_); intro h' t' k' F' N'; simp only [tn1, tn2, tn0]))
local macro_rules | `(tactic| walk_at "compareOp In bytes ref") => `(tactic| (k_here; k_dflt (refine kda_in (by assumption) (by k_memK) (by assumption) (by assumption) (bytesKind_is _ _ _ _) _ rfl ?_)))
local macro_rules | `(tactic| walk_at "compareOp NotIn bytes ref") => `(tactic| (k_here; k_dflt (refine kdg_notin (by assumption) (by k_memK) (by assumption) (by assumption) (bytesKind_is _ _ _ _) _ rfl ?_)))
local macro_rules | `(tactic| walk_at "call builtin:len") => `(tactic| (k_here; (with_reducible show wpAny _ _ (call (Value.builtin "len") [Value.ref _]) _ _ _); k_dflt (refine kda_len (by assumption) (by k_memK) (by assumption) (by assumption) (by omega) ?_)))
local macro_rules | `(tactic| walk_at "setItem") => `(tactic| (k_here; (with_reducible show wpAny _ _ (setItem (Value.ref _) (Value.bytes _ _) _) _ _ _); k_dflt (refine kda_set (by k_asm) (by k_asm) (by k_updF) (by assumption) (bytesKind_is _ _ _ _) (by rw [sizeLine_eq]; omega) ?_); intro h' o' F' N' hd'))
theorem gtab_find {w : World} : ∀ (ks : List (Array UInt8)) (kvs : List (Array UInt8 × Value)) (b : Nat) (k : Array UInt8), kvs.length = ks.length → (∀ (i : Nat) (k : Array UInt8), ks[i]? = some k → ∃ t, kvs[i]? = some (k, .int ((b + i : Nat) : Int) t)) →
    (k ∈ ks → ∃ i t, ks[i]? = some k ∧ valueAt kvs k = some (.int ((b + i : Nat) : Int) t)) ∧ (k ∉ ks → valueAt kvs k = none) := by
  intro ks
  induction ks with
  | nil =>
    intro kvs b k hl _
    have : kvs = [] := List.length_eq_zero_iff.mp hl
    subst this
    exact ⟨fun h => by simp at h, fun _ => rfl⟩
  | cons a r ih =>
    intro kvs b k hl hk
    match kvs, hl with
    | (a', v) :: kr, hl =>
      obtain ⟨t0, h0⟩ := hk 0 a rfl
      simp only [List.getElem?_cons_zero, Option.some.injEq, Prod.mk.injEq] at h0
      obtain ⟨rfl, rfl⟩ := h0
      have h2 := ih kr (b + 1) k (by simpa using hl) (fun i k' h => by
        obtain ⟨t, ht⟩ := hk (i + 1) k' (by simpa using h)
        exact ⟨t, by simpa [Nat.add_assoc, Nat.add_comm 1 i] using ht⟩)
      by_cases e : a' = k
      · subst e
        refine ⟨fun _ => ⟨0, t0, rfl, ?_⟩, fun h => absurd List.mem_cons_self h⟩
        simp [valueAt]
      · have e' : ∀ x, valueAt ((a', x) :: kr) k = valueAt kr k := fun x => by simp [valueAt, e]
        refine ⟨fun h => ?_, fun h => ?_⟩
        · rcases List.mem_cons.mp h with h | h
          · exact absurd h.symm e
          · obtain ⟨i, t, h3, h4⟩ := h2.1 h
            exact ⟨i + 1, t, by simpa using h3, by rw [e', h4]; simp [Nat.add_assoc, Nat.add_comm 1 i]⟩
        · rw [e']
          exact h2.2 fun h' => h (List.mem_cons_of_mem _ h')
theorem ints_push {n : Int} {t : Tok} : ∀ {vs : List Value} {ns : List Int}, IntsAre vs ns → IntsAre (vs ++ [.int n t]) (ns ++ [n])
  | _, _, .nil => .cons n t .nil
  | _, _, .cons m u h => .cons m u (ints_push h)
theorem gtab_new {kvs : List (Array UInt8 × Value)} {ks : List (Array UInt8)} {K : Array UInt8} {tk : Tok} (g : GTab kvs ks) (hK : K ∉ ks) :
    GTab (stored kvs K (.int (258 + (kvs.length : Int)) tk)) (ks ++ [K]) ∧ (stored kvs K (.int (258 + (kvs.length : Int)) tk)).length = kvs.length + 1 := by
  have hany : kvs.any (fun kv => kv.1 = K) = false := by
    rw [List.any_eq_false]
    intro kv hkv
    obtain ⟨i, hi, e⟩ := List.getElem_of_mem hkv
    have hlt : i < ks.length := by rw [← g.1]; exact hi
    obtain ⟨t, ht⟩ := g.2 i ks[i] (by simp [hlt])
    rw [List.getElem?_eq_getElem hi, e] at ht
    have : kv.1 = ks[i] := by have := congrArg (fun x => x.map Prod.fst) ht; simpa using this
    intro h
    refine hK ?_
    rw [← (decide_eq_true_eq.mp h), this]
    exact List.getElem_mem hlt
  have e : stored kvs K (.int (258 + (kvs.length : Int)) tk) = kvs ++ [(K, .int (258 + (kvs.length : Int)) tk)] := by
    unfold stored
    rw [hany]
    simp
  rw [e]
  refine ⟨⟨by simp [g.1], fun i k hi => ?_⟩, by simp⟩
  rcases Nat.lt_or_ge i ks.length with h | h
  · rw [List.getElem?_append_left h] at hi
    obtain ⟨t, ht⟩ := g.2 i k hi
    exact ⟨t, by rw [List.getElem?_append_left (by rw [g.1]; exact h)]; exact ht⟩
  · rw [List.getElem?_append_right h] at hi
    have h0 : i - ks.length = 0 := by
      rcases Nat.eq_zero_or_pos (i - ks.length) with h0 | h0
      · exact h0
      · rw [List.getElem?_eq_none (by simp; omega)] at hi; cases hi
    rw [h0] at hi
    have hk : k = K := by simpa using hi.symm
    subst hk
    refine ⟨tk, ?_⟩
    rw [List.getElem?_append_right (by rw [g.1]; exact h), g.1, h0]
    have : (258 + (ks.length : Int)) = ((258 + i : Nat) : Int) := by omega
    simp [this]
theorem gtab_same {kvs : List (Array UInt8 × Value)} {K : Array UInt8} {v : Value} (hn : (kvs.map (·.1)).Nodup) (hv : valueAt kvs K = some v) : stored kvs K v = kvs := by
  have key : ∀ l : List (Array UInt8 × Value), (l.map (·.1)).Nodup → valueAt l K = some v → l.any (fun kv => kv.1 = K) = true ∧ l.map (fun kv => if kv.1 = K then (kv.1, v) else kv) = l := by
    intro l
    induction l with
    | nil => intro _ h; cases h
    | cons a r ih =>
      intro hn h
      have hn' := List.nodup_cons.mp (by simpa using hn : (a.1 :: r.map (·.1)).Nodup)
      by_cases e : a.1 = K
      · have hav : a.2 = v := by simpa [valueAt, e] using h
        refine ⟨by simp [e], ?_⟩
        have hr : r.map (fun kv => if kv.1 = K then (kv.1, v) else kv) = r := by
          conv => rhs; rw [← List.map_id r]
          refine List.map_congr_left fun x hx => ?_
          have : x.1 ≠ K := fun h' => hn'.1 (by rw [e, ← h']; exact List.mem_map_of_mem hx)
          simp [this]
        rw [List.map_cons, hr, if_pos e, ← hav]
      · have h' : valueAt r K = some v := by simpa [valueAt, e] using h
        obtain ⟨h1, h2⟩ := ih hn'.2 h'
        exact ⟨by simp only [List.any_cons, h1, Bool.or_true], by rw [List.map_cons, h2, if_neg e]⟩
  obtain ⟨h1, h2⟩ := key kvs hn hv
  unfold stored
  rw [if_pos h1, h2]
theorem gr_frame {pv sv0 : Value} {sv : Value} {u u2 m₀ : Str → Option Value} {z : Str} {v1 : Option Value} {v2 : Option Value}
    (h1 : z ≠ Str.ofString "place") (hc : [Str.ofString "size", Str.ofString "piece"].contains z = false) :
    (if z = Str.ofString "place" then v1 else if z = Str.ofString "piece" then v2 else kstB (fun z => if ([] : List Str).contains z = true then u2 z else if z = Str.ofString "size" then some sv0 else
      kstB (fun z => if [Str.ofString "size", Str.ofString "piece"].contains z = true then u z else m₀ z) [(Str.ofString "place", pv)] z) [(Str.ofString "size", sv)] z) = m₀ z := by
  have h2 : z ≠ Str.ofString "size" := fun e => by subst e; revert hc; decide
  have h3 : z ≠ Str.ofString "piece" := fun e => by subst e; revert hc; decide
  simp only [kstB, if_neg h1, if_neg h2, if_neg h3, List.contains_nil, Bool.false_eq_true, if_false, hc]
theorem bitem {prog : Program} {w : World} {A : Around} {E : Value → Shared → Prop} {s : Shared} {value slice : PySem.Expr} {D : Array UInt8} {t ui : Tok} {place : Nat} {y : UInt8} {Q : Value → Shared → Prop} (hz : D.size ≤ 1000) (hy : D[place]? = some y)
    (h : Q (.int ((y.toNat : Nat) : Int) s.toks) { s with toks := s.toks + 1 })
    (hs : subscripted slice false (.bytes D t) (.int (place : Int) ui) = operate [.bytes D t, .int (place : Int) ui] (getItem (.bytes D t) (.int (place : Int) ui)) := by with_unfolding_all rfl)
    (ht : ∀ r, letTemporaryGo value (.bytes D t) r = pure () := by intro _; with_unfolding_all rfl) : wpAny (model prog w) A (subscriptTail value slice (.bytes D t) (.int (place : Int) ui)) Q E s := by
  obtain ⟨hlt, e⟩ := Array.getElem?_eq_some_iff.mp hy
  refine bytes_item_K (x := D.toList) (i := (place : Int)) (k := ((y.toNat : Nat) : Int)) (by have : D.toList.length = D.size := Array.length_toList; omega) (by omega) (by have : D.toList.length = D.size := Array.length_toList; omega) ?_ h hs ht
  have : D.toList.getD place 0 = y := by
    rw [List.getD_eq_getElem?_getD, Array.getElem?_toList, hy]
    rfl
  rw [Int.toNat_natCast, this]
theorem fr_tok (x : String) (n : Int) {h₀ h : Heap} {L : Addr} {m : Str → Option Value} (F : Fr h₀ L h m) (e : ∃ tz, m (Str.ofString x) = some (.int n tz)) : ∃ tz, m (Str.ofString x) = some (.int n tz) := e
theorem fr_size {h₀ h : Heap} {L : Addr} {m : Str → Option Value} (F : Fr h₀ L h m) (e : ∃ tz, m (Str.ofString "size") = some (.int ((1 : Nat) : Int) tz)) : ∃ tz, m (Str.ofString "size") = some (.int ((1 : Nat) : Int) tz) := e
theorem dict_nil {prog : Program} {w : World} {K K' : Type} [DecidableEq K] [DecidableEq K'] {k1 : KeyKind prog w K} (k2 : KeyKind prog w K') {o : Obj} (h : o.IsDictOf k1 []) : o.IsDictOf k2 [] := by
  obtain ⟨es, ep, e1, e2, e3, e4, e5⟩ := h
  obtain ⟨l⟩ := es
  have hl : l = [] := by cases e4; rfl
  subst hl
  exact ⟨#[], ep, e1, e2, fun e he => by simp at he, .nil, List.nodup_nil⟩
def fdOf' (o : Option Obj) : List Stmt × Scope := match o with
  | some ⟨_, _, .func fd, _⟩ => (match fd.body with | .stmts b => (b, fd.scope) | _ => ([], default))
  | _ => ([], default)
def atN' (l : List Stmt) (k : Nat) : Stmt := match l, k with
  | st :: _, 0 => st
  | _ :: r, k + 1 => atN' r k
  | [], _ => .Pass default
noncomputable def grAt (w : World) (k : Nat) : Stmt := atN' (fdOf' ((Mine.hd.heap_39 w.params).lookup 695)).1 k
noncomputable def grScope (w : World) : Scope := (fdOf' ((Mine.hd.heap_39 w.params).lookup 695)).2
noncomputable def grEnv (w : World) (L : Addr) : Env := PyProof.Rows.envOf (Str.ofString "_law_greedy") (grScope w) L 695 (.ref 694)
abbrev grM (d l : Nat) (D : Array UInt8) (t : Tok) (place : Value) : Str → Option Value := fun y => if y = Str.ofString "place" then some place else if y = Str.ofString "codes" then some (.ref l) else if y = Str.ofString "table" then some (.ref d) else if y = Str.ofString "octets" then some (.bytes D t) else none
local macro_rules | `(tactic| walk_at "KswEnd") => `(tactic| (refine m_halt ?_))
local macro_rules | `(tactic| walk_at "subscriptTail") => `(tactic| (k_here; (with_reducible show wpAny _ _ (subscriptTail _ _ (Value.ref _) (Value.bytes _ _)) _ _ _); refine m_halt ?_))
local macro_rules | `(tactic| walk_at "subscriptTail") => `(tactic| (k_here; (with_reducible show wpAny _ _ (subscriptTail _ _ (Value.bytes _ _) (Value.int _ _)) _ _ _); refine m_halt ?_))
set_option maxHeartbeats 8000000 in
theorem greedyLoop : ∀ (w : World) (p : Program) (loose : List Str) (mean : ExcName → Option Value) (mg mb : Str → Option Value) (dp un : Nat) (gd : Option (List Code)) (outer : List Env) (A₀ : Around) (base h₀ : Heap) (L : Addr) (s : Shared)
    (Q : Flow → Shared → Prop) (D : Array UInt8) (t tp : Tok) (d l : Nat) (o : Obj) (more : List (Addr × Obj))
   (B : Below A₀ base outer h₀) (X : (Mine.hd.heap_39 w.params).In h₀) (T : Top p loose mean mg mb h₀) (hd : dp < 600) (hu : un < 900) (hz : D.size ≤ 60) (hdl : d < l) (lo : (d == sysModules) = false)
   (F : Fr h₀ L s.heap (grM d l D t (.int 0 tp))) (N : News h₀ L s.heap ((l, W.listOf #[] 0) :: (d, o) :: more)) (hoff : OwnOff more [d, l]) (ho : o.IsDictOf (bytesKind PG w) [])
   (ret : ∀ ks codes vs nn o' h' tk m', GRun D D.size ks codes → IntsAre vs codes → Fr h₀ L h' m' → m' (Str.ofString "codes") = some (.ref l) → News h₀ L h' ((l, W.listOf vs.toArray nn) :: (d, o') :: more) → Q .next { s with heap := h', toks := tk }),
   wpAny (model PG w) ({ handled := none, depth := dp, frames := some (grEnv w L :: outer), guards := gd, units := un } : Around) (exec (grAt w 2) (grEnv w L)) Q (fun _ _ => False) s := by
  delta PG
  k_fill
  intro w p loose mean mg mb dp un gd outer A₀ base h₀ L s Q D t tp d l o more B X T hd hu hz hdl lo F N hoff ho ret
  obtain ⟨st, hst⟩ : ∃ st, grAt w 2 = st := ⟨_, rfl⟩
  obtain ⟨sc, hsc⟩ : ∃ sc, grScope w = sc := ⟨_, rfl⟩
  unfold grEnv
  rw [hst, hsc]
  conv at hst => lhs; whnf
  conv at hsc => lhs; whnf
  subst hst hsc
  refine ksw_while (σ := GS) (fun c => (l, W.listOf c.vs.toArray c.nn) :: (d, c.o) :: more) (fun c => [(Str.ofString "place", .int (c.place : Int) c.t)]) (fun c => c.o.IsDictOf (bytesKind _ w) c.kvs) [Str.ofString "size", Str.ofString "piece"]
    (fun c => ∃ ks codes, GTab c.kvs ks ∧ IntsAre c.vs codes ∧ GRun D c.place ks codes ∧ c.place ≤ D.size ∧ c.kvs.length ≤ c.place ∧ c.vs.length ≤ c.place) (fun c => D.size - c.place) ⟨[], o, [], 0, 0, tp⟩ F N ho ?_ ?_ ?_ PassesOwn.never
  · intro q hq
    rw [List.mem_singleton.mp hq]
    rfl
  · exact ⟨[], [], ⟨rfl, fun i k h => by simp at h⟩, .nil, .start, Nat.zero_le _, Nat.zero_le _, Nat.zero_le _⟩
  rintro ⟨kvs, o1, vs, nn, place, t1⟩ u h1 tk1 hf ⟨ks, codes, g1, g2, g3, g4, g5, g6⟩ F1 N1
  dsimp only at hf g1 g2 g3 g4 g5 g6 F1 N1
  k_steps
  rotate_left
  · have e9 : place = D.size := by omega
    subst e9
    exact ret ks codes vs nn o1 h1 _ _ g3 g2 F1 rfl N1
  rename (place : Int) < (D.size : Int) => hlt
  rename Fr _ _ _ _ => F2
  rename News _ _ _ _ => N2
  unfold MHalt
  obtain ⟨tz, hsz⟩ := fr_size F2 ⟨_, rfl⟩
  refine ksw_while (σ := Nat × Tok) (fun _ => (l, W.listOf vs.toArray nn) :: (d, o1) :: more) (fun c => [(Str.ofString "size", .int (c.1 : Int) c.2)]) (fun _ => True) []
    (fun c => 1 ≤ c.1 ∧ place + c.1 ≤ D.size ∧ ∀ j, 1 ≤ j → j < c.1 → D.extract place (place + j + 1) ∈ ks) (fun c => D.size - c.1) (1, tz) F2 N2 trivial ?_ ?_ ?_ PassesOwn.never
  · intro q hq
    rw [List.mem_singleton.mp hq]
    exact hsz
  · exact ⟨Nat.le_refl _, by omega, fun j h1 h2 => by omega⟩
  rintro ⟨size, t2⟩ u2 h3 tk3 - ⟨p1, p2, p3⟩ F3 N3
  dsimp only at p1 p2 p3 F3 N3
  clear F2 N2
  k_steps
  · rename Fr _ _ _ _ => F4
    obtain ⟨tz2, hsz2⟩ := fr_tok "size" ((size + 1 : Nat) : Int) F4 ⟨_, rfl⟩
    rename (valueAt _ _).isSome = true => hin
    refine ksw_end (size + 1, tz2) F4 (by assumption) (fun p hp => hp) trivial ?_ ?_ ?_ ?_
    · intro q hq
      rw [List.mem_singleton.mp hq]
      exact hsz2
    · intro z hz _
      have hne : z ≠ Str.ofString "size" := hz _ (List.mem_singleton.mpr rfl)
      simp only [kstB, if_neg hne, List.contains_nil, Bool.false_eq_true, if_false]
    · refine ⟨by omega, by omega, fun j j1 j2 => ?_⟩
      by_cases hj : j < size
      · exact p3 j j1 hj
      · have : j = size := by omega
        subst this
        have gg := gtab_find (w := w) ks kvs 258 (D.extract place (place + j + 1)) g1.1 g1.2
        rcases Classical.em (D.extract place (place + j + 1) ∈ ks) with h | h
        · exact h
        · rw [gg.2 h] at hin; cases hin
    · dsimp only
      omega
  · have gg := gtab_find (w := w) ks kvs 258 (D.extract place (place + size)) g1.1 g1.2
    have hsz1 : 1 < size := by omega
    have hmem : D.extract place (place + size) ∈ ks := by
      have := p3 (size - 1) (by omega) (by omega)
      rwa [show place + (size - 1) + 1 = place + size from by omega] at this
    obtain ⟨i, ti, hi1, hi2⟩ := gg.1 hmem
    refine kda_item (by assumption) (by k_memK) (by assumption) (bytesKind_is _ _ _ _) hi2 ?_
    k_steps
    rename Fr _ _ _ _ => F4
    rename News _ _ _ _ => N4
    rename Obj.IsDictOf _ _ (stored _ _ _) => hd4
    rename (valueAt kvs (D.extract place (place + size + 1))).isSome = false => hno
    have hno' : D.extract place (place + size + 1) ∉ ks := fun h => by
      obtain ⟨_, _, _, h9⟩ := (gtab_find (w := w) ks kvs 258 (D.extract place (place + size + 1)) g1.1 g1.2).1 h
      rw [h9] at hno; cases hno
    (try rw [List.push_toArray] at N4)
    obtain ⟨tz4, hz4⟩ := fr_tok "place" ((place + size : Nat) : Int) F4 ⟨_, rfl⟩
    refine ksw_end ⟨stored kvs (D.extract place (place + size + 1)) _, _, _, _, place + size, tz4⟩ F4 N4 (fun p hp => hp) hd4 ?_ ?_ ?_ ?_
    · intro q hq
      rw [List.mem_singleton.mp hq]
      exact hz4
    · intro z hz hc
      exact gr_frame (hz _ (List.mem_singleton.mpr rfl)) hc
    · dsimp only
      refine ⟨ks ++ [_], codes ++ [_], (gtab_new g1 hno').1, ints_push g2, .step g3 ⟨p1, p2, p3, fun _ => hno'⟩ (fun _ => ⟨i, hi1, rfl⟩) (fun h => by omega) (fun h => absurd h hno') (fun _ => rfl), p2, ?_, ?_⟩
      · rw [(gtab_new g1 hno').2]; omega
      · simp; omega
    · dsimp only
      omega
  · have hsz1 : size = 1 := by omega
    obtain ⟨y, hy⟩ : ∃ y, D[place]? = some y := ⟨D[place]'(by omega), by simp⟩
    refine bitem (by omega) hy ?_
    k_steps
    rename Fr _ _ _ _ => F4
    rename News _ _ _ _ => N4
    rename Obj.IsDictOf _ _ (stored _ _ _) => hd4
    rename (valueAt kvs (D.extract place (place + size + 1))).isSome = false => hno
    have hno' : D.extract place (place + size + 1) ∉ ks := fun h => by
      obtain ⟨_, _, _, h9⟩ := (gtab_find (w := w) ks kvs 258 (D.extract place (place + size + 1)) g1.1 g1.2).1 h
      rw [h9] at hno; cases hno
    (try rw [List.push_toArray] at N4)
    obtain ⟨tz4, hz4⟩ := fr_tok "place" ((place + size : Nat) : Int) F4 ⟨_, rfl⟩
    refine ksw_end ⟨stored kvs (D.extract place (place + size + 1)) _, _, _, _, place + size, tz4⟩ F4 N4 (fun p hp => hp) hd4 ?_ ?_ ?_ ?_
    · intro q hq
      rw [List.mem_singleton.mp hq]
      exact hz4
    · intro z hz hc
      exact gr_frame (hz _ (List.mem_singleton.mpr rfl)) hc
    · dsimp only
      refine ⟨ks ++ [_], codes ++ [_], (gtab_new g1 hno').1, ints_push g2, .step g3 ⟨p1, p2, p3, fun _ => hno'⟩ (fun h => by omega) (fun _ => ⟨y, hy, rfl⟩) (fun h => absurd h hno') (fun _ => rfl), p2, ?_, ?_⟩
      · rw [(gtab_new g1 hno').2]; omega
      · simp; omega
    · dsimp only
      omega
  · have gg := gtab_find (w := w) ks kvs 258 (D.extract place (place + size)) g1.1 g1.2
    have hsz1 : 1 < size := by omega
    have hmem : D.extract place (place + size) ∈ ks := by
      have := p3 (size - 1) (by omega) (by omega)
      rwa [show place + (size - 1) + 1 = place + size from by omega] at this
    obtain ⟨i, ti, hi1, hi2⟩ := gg.1 hmem
    refine kda_item (by assumption) (by k_memK) (by assumption) (bytesKind_is _ _ _ _) hi2 ?_
    k_steps
    · rename (valueAt kvs (D.extract place (place + size + 1))).isSome = true => hyes
      have hin' : D.extract place (place + size + 1) ∈ ks := by
        rcases Classical.em (D.extract place (place + size + 1) ∈ ks) with h | h
        · exact h
        · rw [(gtab_find (w := w) ks kvs 258 (D.extract place (place + size + 1)) g1.1 g1.2).2 h] at hyes; cases hyes
      obtain ⟨ik, tk9, hk1, hk2⟩ := (gtab_find (w := w) ks kvs 258 (D.extract place (place + size + 1)) g1.1 g1.2).1 hin'
      refine kda_item (by assumption) (by k_memK) (by assumption) (bytesKind_is _ _ _ _) hk2 ?_
      k_steps
      rename Fr _ _ _ _ => F4
      rename News _ _ _ _ => N4
      rename Obj.IsDictOf _ _ (stored _ _ _) => hd4
      have hnd : (kvs.map (·.1)).Nodup := by
        obtain ⟨_, _, _, _, _, _, h9⟩ := hf
        exact h9
      rw [gtab_same hnd hk2] at hd4
      (try rw [List.push_toArray] at N4)
      obtain ⟨tz4, hz4⟩ := fr_tok "place" ((place + size : Nat) : Int) F4 ⟨_, rfl⟩
      refine ksw_end ⟨kvs, _, _, _, place + size, tz4⟩ F4 N4 (fun p hp => hp) hd4 ?_ ?_ ?_ ?_
      · intro q hq
        rw [List.mem_singleton.mp hq]
        exact hz4
      · intro z hz hc
        exact gr_frame (hz _ (List.mem_singleton.mpr rfl)) hc
      · dsimp only
        refine ⟨ks, codes ++ [_], g1, ints_push g2, .step g3 ⟨p1, p2, p3, fun h => by omega⟩ (fun _ => ⟨i, hi1, rfl⟩) (fun h => by omega) (fun _ => rfl) (fun h => absurd hin' h), p2, ?_, ?_⟩
        · omega
        · simp; omega
      · dsimp only
        omega
    · rename Fr _ _ _ _ => F4
      rename News _ _ _ _ => N4
      rename Obj.IsDictOf _ _ (stored _ _ _) => hd4
      rename (valueAt kvs (D.extract place (place + size + 1))).isSome = false => hno
      have hno' : D.extract place (place + size + 1) ∉ ks := fun h => by
        obtain ⟨_, _, _, h9⟩ := (gtab_find (w := w) ks kvs 258 (D.extract place (place + size + 1)) g1.1 g1.2).1 h
        rw [h9] at hno; cases hno
      (try rw [List.push_toArray] at N4)
      obtain ⟨tz4, hz4⟩ := fr_tok "place" ((place + size : Nat) : Int) F4 ⟨_, rfl⟩
      refine ksw_end ⟨stored kvs (D.extract place (place + size + 1)) _, _, _, _, place + size, tz4⟩ F4 N4 (fun p hp => hp) hd4 ?_ ?_ ?_ ?_
      · intro q hq
        rw [List.mem_singleton.mp hq]
        exact hz4
      · intro z hz hc
        exact gr_frame (hz _ (List.mem_singleton.mpr rfl)) hc
      · dsimp only
        refine ⟨ks ++ [_], codes ++ [_], (gtab_new g1 hno').1, ints_push g2, .step g3 ⟨p1, p2, p3, fun h => by omega⟩ (fun _ => ⟨i, hi1, rfl⟩) (fun h => by omega) (fun h => absurd h hno') (fun _ => rfl), p2, ?_, ?_⟩
        · rw [(gtab_new g1 hno').2]; omega
        · simp; omega
      · dsimp only
        omega
  · have hsz1 : size = 1 := by omega
    obtain ⟨y, hy⟩ : ∃ y, D[place]? = some y := ⟨D[place]'(by omega), by simp⟩
    refine bitem (by omega) hy ?_
    k_steps
    · rename (valueAt kvs (D.extract place (place + size + 1))).isSome = true => hyes
      have hin' : D.extract place (place + size + 1) ∈ ks := by
        rcases Classical.em (D.extract place (place + size + 1) ∈ ks) with h | h
        · exact h
        · rw [(gtab_find (w := w) ks kvs 258 (D.extract place (place + size + 1)) g1.1 g1.2).2 h] at hyes; cases hyes
      obtain ⟨ik, tk9, hk1, hk2⟩ := (gtab_find (w := w) ks kvs 258 (D.extract place (place + size + 1)) g1.1 g1.2).1 hin'
      refine kda_item (by assumption) (by k_memK) (by assumption) (bytesKind_is _ _ _ _) hk2 ?_
      k_steps
      rename Fr _ _ _ _ => F4
      rename News _ _ _ _ => N4
      rename Obj.IsDictOf _ _ (stored _ _ _) => hd4
      have hnd : (kvs.map (·.1)).Nodup := by
        obtain ⟨_, _, _, _, _, _, h9⟩ := hf
        exact h9
      rw [gtab_same hnd hk2] at hd4
      (try rw [List.push_toArray] at N4)
      obtain ⟨tz4, hz4⟩ := fr_tok "place" ((place + size : Nat) : Int) F4 ⟨_, rfl⟩
      refine ksw_end ⟨kvs, _, _, _, place + size, tz4⟩ F4 N4 (fun p hp => hp) hd4 ?_ ?_ ?_ ?_
      · intro q hq
        rw [List.mem_singleton.mp hq]
        exact hz4
      · intro z hz hc
        exact gr_frame (hz _ (List.mem_singleton.mpr rfl)) hc
      · dsimp only
        refine ⟨ks, codes ++ [_], g1, ints_push g2, .step g3 ⟨p1, p2, p3, fun h => by omega⟩ (fun h => by omega) (fun _ => ⟨y, hy, rfl⟩) (fun _ => rfl) (fun h => absurd hin' h), p2, ?_, ?_⟩
        · omega
        · simp; omega
      · dsimp only
        omega
    · rename Fr _ _ _ _ => F4
      rename News _ _ _ _ => N4
      rename Obj.IsDictOf _ _ (stored _ _ _) => hd4
      rename (valueAt kvs (D.extract place (place + size + 1))).isSome = false => hno
      have hno' : D.extract place (place + size + 1) ∉ ks := fun h => by
        obtain ⟨_, _, _, h9⟩ := (gtab_find (w := w) ks kvs 258 (D.extract place (place + size + 1)) g1.1 g1.2).1 h
        rw [h9] at hno; cases hno
      (try rw [List.push_toArray] at N4)
      obtain ⟨tz4, hz4⟩ := fr_tok "place" ((place + size : Nat) : Int) F4 ⟨_, rfl⟩
      refine ksw_end ⟨stored kvs (D.extract place (place + size + 1)) _, _, _, _, place + size, tz4⟩ F4 N4 (fun p hp => hp) hd4 ?_ ?_ ?_ ?_
      · intro q hq
        rw [List.mem_singleton.mp hq]
        exact hz4
      · intro z hz hc
        exact gr_frame (hz _ (List.mem_singleton.mpr rfl)) hc
      · dsimp only
        refine ⟨ks ++ [_], codes ++ [_], (gtab_new g1 hno').1, ints_push g2, .step g3 ⟨p1, p2, p3, fun h => by omega⟩ (fun h => by omega) (fun _ => ⟨y, hy, rfl⟩) (fun h => absurd h hno') (fun _ => rfl), p2, ?_, ?_⟩
        · rw [(gtab_new g1 hno').2]; omega
        · simp; omega
      · dsimp only
        omega
end Mine
end
namespace Mine
theorem lull33 : True ∧ True := by
  w_top off
  k_with_none
  first
    | (walk1; fail)
    | exact ⟨trivial, trivial⟩
end Mine
section
open PySem PySem.W PySem.Spec PySem.Calls PyProof.Rows
set_option maxRecDepth 100000
namespace Mine
local macro_rules | `(tactic| k_room) => `(tactic| (simp only [depth_mark, depth_under_make, depth_under_kw, depth_in1, depth_deeper, depth_caller, ktrTop, recursionLimit]; omega))
local macro_rules | `(tactic| k_units) => `(tactic| (simp only [units_in1, units_deeper, Around.mark_units, units_caller, ktrTop, cLine_is]; omega))
local macro_rules | `(tactic| ktr_enter) => `(tactic| (refine' code_def ?k1 ?k2 ?k3 ?k4 ?k5 ?kA ?kF ?kK ?k6 ?k7 ?k8 ?k9 ?kB ?_ ?c2 ?c3 ?c4 ?c5; (case kA => exact rfl); (case kF => exact rfl); (case kK => assumption); (case k1 => k_asm); (case k2 => k_asm); (case k3 => k_asm); (case k4 => k_asm); (case k5 => k_asm); (case k6 => k_is); (case k7 => k_is); (case k8 => k_room); (case k9 => first | exact BindsTo.of_eq rfl | exact binds_K (by k_in) rfl (by k_is) rfl rfl rfl); (case c5 => decide); (case kB => exact locs rfl); (case c2 => exact rfl); (case c3 => exact rfl); (case c4 => exact rfl); k_whole; intro g' L' h' FG' F' N' B' X' T'; (try dsimp only); (try k_fold)))
local macro_rules | `(tactic| walk_at "compareOp Eq int int") => `(tactic| first | (refine eq_no (by first | omega | (simp only [List.length_append, List.length_cons, List.length_nil, ne_eq]; omega)) ?_) | (refine eq_yes (by omega) ?_))
local macro_rules | `(tactic| walk_at "compareOp Lt int int") => `(tactic| first | (refine lt_yes (by omega) ?_) | (refine lt_no (by omega) ?_))
local macro_rules | `(tactic| walk_at "truthy bytes") => `(tactic| (k_here; first | (refine truthy_void ?_) | (refine truthy_full (by simp) (by simp) ?_)))
local macro_rules | `(tactic| walk_at "call builtin:ord") => `(tactic| (k_here; refine ord_byte ?_))
local macro_rules | `(tactic| walk_at "exec While Compare") => `(tactic| (k_here; refine m_halt ?_))
local macro_rules | `(tactic| walk_at "exec While Compare cons nil") => `(tactic| (k_here; refine m_halt ?_))
theorem Fr.eqm {h₀ h : Heap} {L : Addr} {m m' : Str → Option Value} (F : Fr h₀ L h m) (e : ∀ y, m y = m' y) : Fr h₀ L h m' := by
  have : m = m' := funext e
  rw [← this]; exact F
theorem grM_of {d l : Nat} {D : Array UInt8} {t tp : Tok} {m : Str → Option Value} (h1 : m (Str.ofString "place") = some (.int 0 tp)) (h2 : m (Str.ofString "codes") = some (.ref l)) (h3 : m (Str.ofString "table") = some (.ref d)) (h4 : m (Str.ofString "octets") = some (.bytes D t))
    (h5 : ∀ y, y ≠ Str.ofString "place" → y ≠ Str.ofString "codes" → y ≠ Str.ofString "table" → y ≠ Str.ofString "octets" → m y = none) : ∀ y, m y = grM d l D t (.int 0 tp) y := fun y => by
  show m y = (if y = Str.ofString "place" then some (.int 0 tp) else if y = Str.ofString "codes" then some (.ref l) else if y = Str.ofString "table" then some (.ref d) else if y = Str.ofString "octets" then some (.bytes D t) else none)
  by_cases a1 : y = Str.ofString "place"
  · rw [if_pos a1, a1, h1]
  rw [if_neg a1]
  by_cases a2 : y = Str.ofString "codes"
  · rw [if_pos a2, a2, h2]
  rw [if_neg a2]
  by_cases a3 : y = Str.ofString "table"
  · rw [if_pos a3, a3, h3]
  rw [if_neg a3]
  by_cases a4 : y = Str.ofString "octets"
  · rw [if_pos a4, a4, h4]
  rw [if_neg a4]
  exact h5 y a1 a2 a3 a4
theorem lookup_no {y k : Str} {v : Value} (h : y ≠ k) : List.lookup y [(k, v)] = none := by
  rw [List.lookup_cons]
  have : (y == k) = false := by simpa using h
  rw [this]
  rfl
set_option maxHeartbeats 8000000 in
theorem greedy : ∀ (w : World) (p : Program) (loose : List Str) (mean : ExcName → Option Value) (mg mb : Str → Option Value) (dp un : Nat) (gd : Option (List Code)) (cn : Str) (cs : Scope) (a : Addr) (ccd : Value) (cl : List (Str × Addr)) (outer : List Env) (A₀ : Around) (base h₀ : Heap) (L : Addr) (m : Str → Option Value) (s : Shared)
    (Q E : Value → Shared → Prop) (D : Array UInt8) (t : Tok) (more : List (Addr × Obj))
   (B : Below A₀ base outer h₀) (F : Fr h₀ L s.heap m) (X : (Mine.hd.heap_39 w.params).In h₀) (N : News h₀ L s.heap more)
   (T : Top p loose mean mg mb h₀) (hk : cs.kind = .function) (hd : dp < 500) (hu : un < 700) (hz : D.size ≤ 60)
   (ret : ∀ (c : Nat) ks codes vs nn h' tk, GRun D D.size ks codes → IntsAre vs codes → Fr h₀ L h' m → News h₀ L h' ((c, W.listOf vs.toArray nn) :: more) → (∀ p ∈ more, p.1 < c) → Q (.ref c) { s with heap := h', toks := tk }),
   wpAny (model PG w) (ktrTop dp un gd cn cs L a ccd cl outer) (call (.ref 695) [.bytes D t]) Q E s := by
  delta PG
  k_fill
  intro w p loose mean mg mb dp un gd cn cs a ccd cl outer A₀ base h₀ L m s Q E D t more B F X N T hk hd hu hz ret
  refine wpAny_call ?_
  k_dflt ktr_enter
  k_steps
  rename Obj.IsDictOf (intKind _ _) _ _ => hi9
  have hd9 := dict_nil (bytesKind _ w) hi9
  rename Fr _ _ _ _ => F9
  rename News _ _ _ _ => N9
  rename _ < _ ∧ AllLt _ more => q1
  rename ∀ p ∈ more, p.1 < _ => q0
  unfold MHalt
  obtain ⟨tp, htp⟩ := fr_tok "place" 0 F9 ⟨_, rfl⟩
  refine wpAny_mono (greedyLoop w p loose mean mg mb (dp + 1) (un + 3) gd _ _ base _ _ _ _ D t tp _ _ _ more (by assumption) (by assumption) (by assumption) (by omega) (by omega) hz ?_ (by assumption) (Fr.eqm F9 (grM_of htp rfl rfl rfl ?_)) (fun q hq => N9 q (.tail _ hq)) ?_ hd9 ?_) (fun _ _ h => h) (fun _ _ h => h.elim)
  · exact q1.1
  · intro y a1 a2 a3 a4
    simp only [if_neg a1, if_neg a2, if_neg a3]
    exact lookup_no a4
  · intro q hq b hb e
    have h1 := q0 q hq
    have h2 : q.1 < _ := Nat.lt_trans h1 q1.1
    simp only [List.mem_cons, List.not_mem_nil, or_false] at hb
    rcases hb with rfl | rfl
    · exact Nat.lt_irrefl _ (e ▸ h1)
    · exact Nat.lt_irrefl _ (e ▸ h2)
  · intro ks codes vs nn o' h' tk' m' g1 g2 F' hc N'
    have F8 : Fr _ _ h' (fun y => if y = Str.ofString "codes" then some (.ref _) else m' y) := Fr.eqm F' (fun y => by
      by_cases e : y = Str.ofString "codes"
      · rw [if_pos e, e, hc]
      · rw [if_neg e])
    clear F9 N9 F'
    k_steps
    rename News h₀ L _ _ => N7
    exact ret _ ks codes vs nn _ _ g1 g2 (by assumption) (fun q hq => N7 q (by
      rcases List.mem_cons.mp hq with h | h
      · rw [h]; exact .head _
      · exact .tail _ (.tail _ h))) (fun q hq => Nat.lt_trans (q0 q hq) q1.1)
end Mine
end
namespace Mine
theorem lull34 : True ∧ True := by
  w_top off
  k_with_none
  first
    | (walk1; fail)
    | exact ⟨trivial, trivial⟩
end Mine
section
open PySem PySem.W
namespace Mine
/-- what the decoder does with a list of codes -/
inductive Run : List Value → Value → List Nat → List (Array UInt8) → Prop
  | nil {items : List Value} {pv : Value} : Run items pv [] []
  | cons {items : List Value} {pv : Value} {v : Nat} {G : List Value → Prop} {qv y : Array UInt8} {codes : List Nat} {outs : List (Array UInt8)} :
      FD items pv v G qv y → (∀ items' u, G items' → Run items' (.bytes qv u) codes outs) → Run items pv (v :: codes) (y :: outs)

def natOf (l : List Nat) : Nat := l.foldl (fun a n => a * 512 + n) 0
theorem natOf_at : ∀ (l : List Nat) (a : Nat), l.foldl (fun a n => a * 512 + n) a = a * 512 ^ l.length + natOf l := by
  intro l
  induction l with
  | nil => intro a; simp [natOf]
  | cons x r ih =>
    intro a
    unfold natOf
    rw [List.foldl_cons, List.foldl_cons, ih, ih (0 * 512 + x), List.length_cons, Nat.pow_succ]
    rw [Nat.add_mul, Nat.zero_mul, Nat.zero_add, Nat.mul_assoc, Nat.mul_comm 512]
    omega
theorem natOf_lt : ∀ (l : List Nat), (∀ n ∈ l, n < 512) → natOf l < 512 ^ l.length := by
  intro l
  induction l with
  | nil => intro _; simp [natOf]
  | cons x r ih =>
    intro h
    have h1 := ih fun n hn => h n (List.mem_cons_of_mem _ hn)
    have h2 := h x (List.mem_cons_self ..)
    unfold natOf
    rw [List.foldl_cons, natOf_at, List.length_cons, Nat.pow_succ, Nat.zero_mul, Nat.zero_add]
    have h3 : x * 512 ^ r.length + 512 ^ r.length ≤ 512 * 512 ^ r.length := by
      rw [← Nat.succ_mul]
      exact Nat.mul_le_mul_right _ h2
    rw [Nat.mul_comm (512 ^ r.length)]
    omega
/-- the digits of the number, from the top -/
theorem natOf_digit : ∀ (l : List Nat) (k : Nat) (hk : k < l.length), (∀ n ∈ l, n < 512) → natOf l / 512 ^ (l.length - 1 - k) % 512 = l[k] := by
  intro l
  induction l with
  | nil => intro k hk; simp at hk
  | cons x r ih =>
    intro k hk h
    have hr := natOf_lt r fun n hn => h n (List.mem_cons_of_mem _ hn)
    have hx := h x (List.mem_cons_self ..)
    have e : natOf (x :: r) = x * 512 ^ r.length + natOf r := by
      unfold natOf
      rw [List.foldl_cons, natOf_at, Nat.zero_mul, Nat.zero_add]
      rfl
    rw [e]
    match k with
    | 0 =>
      rw [List.length_cons, Nat.add_sub_cancel, Nat.sub_zero, Nat.mul_comm, Nat.mul_add_div (Nat.pow_pos (by decide)), Nat.div_eq_of_lt hr, Nat.add_zero, Nat.mod_eq_of_lt hx]
      rfl
    | k + 1 =>
      have hk' : k < r.length := by simpa using hk
      have e2 : (x :: r).length - 1 - (k + 1) = r.length - 1 - k := by rw [List.length_cons]; omega
      rw [e2]
      have e3 : x * 512 ^ r.length = 512 ^ (r.length - 1 - k) * (x * 512 ^ (k + 1)) := by
        rw [Nat.mul_comm (512 ^ (r.length - 1 - k)), Nat.mul_assoc, ← Nat.pow_add]
        congr 2
        omega
      rw [e3, Nat.mul_add_div (Nat.pow_pos (by decide)), Nat.pow_succ, ← Nat.mul_assoc, Nat.add_comm, Nat.add_mul_mod_self_right]
      exact ih k hk' fun n hn => h n (List.mem_cons_of_mem _ hn)
/-- nine bits out of two bytes of the big number -/
theorem window9 (X e r : Nat) (hr : r ≤ 7) : ((X / 256 ^ (e + 1) % 256) * 256 + X / 256 ^ e % 256) / 2 ^ r % 512 = X / 2 ^ (8 * e + r) % 512 := by
  have h1 : X / 256 ^ (e + 1) = X / 256 ^ e / 256 := by rw [Nat.pow_succ, Nat.div_div_eq_div_mul]
  rw [h1]
  generalize hW : X / 256 ^ e = W
  have h2 : (W / 256 % 256) * 256 + W % 256 = W % 65536 := by omega
  rw [h2]
  have h3 : X / 2 ^ (8 * e + r) = W / 2 ^ r := by
    rw [← hW, Nat.div_div_eq_div_mul, Nat.pow_add, Nat.pow_mul]
  rw [h3]
  have : r = 0 ∨ r = 1 ∨ r = 2 ∨ r = 3 ∨ r = 4 ∨ r = 5 ∨ r = 6 ∨ r = 7 := by omega
  rcases this with rfl | rfl | rfl | rfl | rfl | rfl | rfl | rfl <;> (simp only [Nat.reducePow]; omega)
end Mine
end
namespace Mine
theorem lull35 : True ∧ True := by
  w_top off
  k_with_none
  first
    | (walk1; fail)
    | exact ⟨trivial, trivial⟩
end Mine
section
open PySem PySem.W
namespace Mine
theorem get_some {b : Array UInt8} {i : Nat} (h : i < b.size) : ∃ y, b[i]? = some y := ⟨b[i], by simp [h]⟩
theorem dec_of_run {b : Array UInt8} {X k N pad : Nat} (hk : b.size = k) (hbyte : ∀ (i : Nat) (y : UInt8), b[i]? = some y → y.toNat = X / 256 ^ (k - 1 - i) % 256) (hlen : 9 * N + pad = 8 * k) (hpad : pad < 8) :
    ∀ (codes : List Nat) (items : List Value) (pv : Value) (outs : List (Array UInt8)), Run items pv codes outs → ∀ (κ i q c : Nat), κ + codes.length = N → 8 * i + q = 9 * κ + 8 → 1 ≤ q → q ≤ 8 → c < 256 → (0 < i → c = X / 256 ^ (k - i) % 256) → (q ≤ 7 → 0 < i) →
    (∀ (j : Nat) (h : j < codes.length), codes[j] = X / 2 ^ (8 * k - 9 * (κ + j + 1)) % 512) → Dec b i q c items pv outs := by
  intro codes
  induction codes with
  | nil =>
    intro items pv outs hr κ i q c h1 h2 h3 h4 h5 h6 h7 h8
    cases hr
    refine .nil ?_ h3 h4 h5
    rw [Array.getElem?_eq_none]
    simp at h1
    omega
  | cons v codes ih =>
    intro items pv outs hr κ i q c h1 h2 h3 h4 h5 h6 h7 h8
    cases hr with
    | cons hF hrest =>
    rw [List.length_cons] at h1
    have hv := h8 0 (by simp)
    rw [List.getElem_cons_zero, Nat.add_zero] at hv
    have hnext : ∀ (j : Nat) (h : j < codes.length), codes[j] = X / 2 ^ (8 * k - 9 * (κ + 1 + j + 1)) % 512 := fun j hj => by
      have := h8 (j + 1) (by simpa using hj)
      rw [List.getElem_cons_succ] at this
      rw [this]
      congr 3
      omega
    by_cases hq : q ≤ 7
    · obtain ⟨y, hy⟩ := get_some (b := b) (i := i) (by omega)
      have e0 := hbyte i y hy
      have hi := h7 hq
      have ev : (c * 256 + y.toNat) / 2 ^ (7 - q) % 512 = v := by
        rw [h6 hi, e0, show k - i = (k - 1 - i) + 1 from by omega, window9 X (k - 1 - i) (7 - q) (by omega), hv]
        congr 3
        omega
      have hRB := RB.B (c := c) h3 hq hy
      rw [ev] at hRB
      refine .step h5 hRB hF fun items' u hG => ?_
      refine ih items' _ _ (hrest items' u hG) (κ + 1) (i + 1) (q + 1) y.toNat (by omega) (by omega) (by omega) (by omega) y.toNat_lt (fun _ => ?_) (fun _ => Nat.succ_pos _) hnext
      rw [e0]
      congr 3
      omega
    · have hq8 : q = 8 := by omega
      subst hq8
      obtain ⟨y, hy⟩ := get_some (b := b) (i := i) (by omega)
      obtain ⟨z, hz⟩ := get_some (b := b) (i := i + 1) (by omega)
      have e0 := hbyte i y hy
      have e1 := hbyte (i + 1) z hz
      have ev : (y.toNat * 256 + z.toNat) / 2 ^ 7 % 512 = v := by
        rw [e0, e1, show k - 1 - i = (k - 1 - (i + 1)) + 1 from by omega, window9 X (k - 1 - (i + 1)) 7 (by omega), hv]
        congr 3
        omega
      have hRB := RB.A (c := c) hy hz
      rw [ev] at hRB
      refine .step h5 hRB hF fun items' u hG => ?_
      refine ih items' _ _ (hrest items' u hG) (κ + 1) (i + 2) 1 z.toNat (by omega) (by omega) (by omega) (by omega) z.toNat_lt (fun _ => ?_) (fun _ => Nat.succ_pos _) hnext
      rw [e1]
      congr 3
      omega
end Mine
end
namespace Mine
theorem lull36 : True ∧ True := by
  w_top off
  k_with_none
  first
    | (walk1; fail)
    | exact ⟨trivial, trivial⟩
end Mine
section
open PySem PySem.W
namespace Mine
def allOf (codes : List Nat) : List Nat := 256 :: (codes ++ [257])
theorem numOf_cast : ∀ (l : List Nat) (a : Nat), (l.map fun n => ((n : Nat) : Int)).foldl (fun a n => a * 512 + n) (a : Int) = ((l.foldl (fun a n => a * 512 + n) a : Nat) : Int) := by
  intro l
  induction l with
  | nil => intro a; rfl
  | cons x r ih =>
    intro a
    rw [List.map_cons, List.foldl_cons, List.foldl_cons, ← ih]
    congr 1
theorem numOf_all (codes : List Nat) : numOf ([256] ++ (codes.map fun n => ((n : Nat) : Int)) ++ [257]) = ((natOf (allOf codes) : Nat) : Int) := by
  have := numOf_cast (allOf codes) 0
  unfold natOf
  rw [← this]
  unfold numOf allOf
  simp
theorem cast_div (X e : Nat) : ((X : Nat) : Int) / 256 ^ e % 256 = ((X / 256 ^ e % 256 : Nat) : Int) := by
  rw [KTBy.p256]
  generalize 256 ^ e = Y
  rw [Int.natCast_emod, Int.natCast_ediv]
  rfl
theorem dec_laid {b : Array UInt8} {codes : List Nat} {O : List (Array UInt8)} (hc : ∀ n ∈ codes, n < 512)
    (hb : KBw.bInts b = (KTBy.little (lenOf codes.length) (numOf ([256] ++ (codes.map fun n => ((n : Nat) : Int)) ++ [257]) * 2 ^ padOf codes.length)).reverse) (hs : b.size = lenOf codes.length)
    (hr : Run [] .none (allOf codes) O) : Dec b 0 8 0 [] .none O := by
  have hX : numOf ([256] ++ (codes.map fun n => ((n : Nat) : Int)) ++ [257]) * 2 ^ padOf codes.length = ((natOf (allOf codes) * 2 ^ padOf codes.length : Nat) : Int) := by
    rw [numOf_all]
    push_cast
    rfl
  rw [hX] at hb
  have hl : (allOf codes).length = codes.length + 2 := by simp [allOf]
  have hall : ∀ n ∈ allOf codes, n < 512 := by
    intro n hn
    simp only [allOf, List.mem_cons, List.mem_append, List.not_mem_nil, or_false] at hn
    rcases hn with rfl | h | rfl
    · decide
    · exact hc n h
    · decide
  have pl := pad_len codes.length
  have pt := pad_lt codes.length
  refine dec_of_run (X := natOf (allOf codes) * 2 ^ padOf codes.length) hs (fun i y hy => ?_) pl pt (allOf codes) [] .none O hr 0 0 8 0 (by omega) rfl (by omega) (by omega) (by omega) (fun h => by omega) (fun h => by omega) (fun j hj => ?_)
  · obtain ⟨hi, e⟩ := Array.getElem?_eq_some_iff.mp hy
    rw [hs] at hi
    have h1 : (KBw.bInts b)[i]? = some ((y.toNat : Nat) : Int) := by
      unfold KBw.bInts
      rw [List.getElem?_map, Array.getElem?_toList, hy]
      rfl
    rw [hb, KTBy.little_eq, List.getElem?_reverse (by simpa using hi), List.length_map, List.length_range, List.getElem?_map, List.getElem?_range (by omega)] at h1
    have h2 := Option.some.inj h1
    dsimp only at h2
    rw [cast_div] at h2
    exact (Int.ofNat.inj h2).symm
  · have hd := natOf_digit (allOf codes) j hj hall
    rw [← hd, hl]
    congr 1
    rw [Nat.zero_add, show 8 * lenOf codes.length - 9 * (j + 1) = padOf codes.length + 9 * (codes.length + 2 - 1 - j) from by omega, Nat.pow_add, ← Nat.div_div_eq_div_mul, Nat.mul_div_cancel _ (Nat.pow_pos (by decide)), Nat.pow_mul]
end Mine
end
namespace Mine
theorem lull37 : True ∧ True := by
  w_top off
  k_with_none
  first
    | (walk1; fail)
    | exact ⟨trivial, trivial⟩
end Mine
section
open PySem PySem.W
namespace Mine
def Pre (codes : List Nat) (outs : List (Array UInt8)) (St : List Value → Value → Prop) : Prop := ∀ (rest : List Nat) (outs' : List (Array UInt8)), (∀ items pv, St items pv → Run items pv rest outs') → Run [] .none (codes ++ rest) (outs ++ outs')
theorem Pre.step {codes : List Nat} {outs : List (Array UInt8)} {St St' : List Value → Value → Prop} {v : Nat} {y : Array UInt8} (p : Pre codes outs St)
    (h : ∀ items pv, St items pv → ∃ G qv, FD items pv v G qv y ∧ ∀ items' u, G items' → St' items' (.bytes qv u)) : Pre (codes ++ [v]) (outs ++ [y]) St' := by
  intro rest outs' hr
  rw [List.append_assoc, List.append_assoc]
  refine p (v :: rest) (y :: outs') fun items pv hs => ?_
  obtain ⟨G, qv, hF, hG⟩ := h items pv hs
  exact .cons hF fun items' u hg => hr _ _ (hG items' u hg)
def St0 : List Value → Value → Prop := fun items pv => (∃ ys : List Value, items = ys ++ [.none, .none] ∧ ys.length = 256 ∧ ∀ (i : Nat) (v : Value), ys[i]? = some v → ∃ t, v = Value.bytes #[i.toUInt8] t) ∧ ∃ u, pv = .bytes #[] u
theorem pre0 : Pre [256] [#[]] St0 := by
  intro rest outs' hr
  exact .cons .clear fun items' u hg => hr _ _ ⟨hg, u, rfl⟩
def DItems (items : List Value) (keys : List (Array UInt8)) : Prop :=
  items.length = 258 + keys.length ∧ (∀ i, i < 256 → ∃ u, items[i]? = some (.bytes #[i.toUInt8] u)) ∧ ∀ (j : Nat) (k : Array UInt8), keys[j]? = some k → ∃ u, items[258 + j]? = some (.bytes k u)
theorem St0.items {items : List Value} {pv : Value} (h : St0 items pv) : DItems items [] := by
  obtain ⟨⟨ys, rfl, hl, hy⟩, _⟩ := h
  refine ⟨by simp [hl], fun i hi => ?_, fun j k hk => by simp at hk⟩
  obtain ⟨t, ht⟩ := hy i ys[i] (by simp [hl, hi])
  refine ⟨t, ?_⟩
  rw [List.getElem?_append_left (by omega), List.getElem?_eq_getElem (by omega), ht]
theorem DItems.add {items : List Value} {keys : List (Array UInt8)} {k : Array UInt8} {t : Tok} (h : DItems items keys) : DItems (items ++ [.bytes k t]) (keys ++ [k]) := by
  refine ⟨by simp [h.1]; omega, fun i hi => ?_, fun j k' hk => ?_⟩
  · obtain ⟨u, hu⟩ := h.2.1 i hi
    exact ⟨u, by rw [List.getElem?_append_left (by rw [h.1]; omega)]; exact hu⟩
  · rcases Nat.lt_or_ge j keys.length with hj | hj
    · rw [List.getElem?_append_left hj] at hk
      obtain ⟨u, hu⟩ := h.2.2 j k' hk
      exact ⟨u, by rw [List.getElem?_append_left (by rw [h.1]; omega)]; exact hu⟩
    · rw [List.getElem?_append_right hj] at hk
      have h0 : j - keys.length = 0 := by
        rcases Nat.eq_zero_or_pos (j - keys.length) with h0 | h0
        · exact h0
        · rw [List.getElem?_eq_none (by simp; omega)] at hk; cases hk
      rw [h0] at hk
      have : k = k' := by simpa using hk
      subst this
      refine ⟨t, ?_⟩
      rw [List.getElem?_append_right (by rw [h.1]; omega), h.1, show 258 + j - (258 + keys.length) = 0 from by omega]
      rfl
theorem cat_snoc (O : List (Array UInt8)) (y : Array UInt8) : cat (O ++ [y]) = cat O ++ y := by
  unfold cat
  rw [List.foldl_append]
  rfl
theorem ext_size {D : Array UInt8} {i j : Nat} (h : j ≤ D.size) : (D.extract i j).size = j - i := by
  rw [Array.size_extract]; omega
theorem ext_one {D : Array UInt8} {i : Nat} {y : UInt8} (h : D[i]? = some y) : D.extract i (i + 1) = #[y] := by
  obtain ⟨hi, e⟩ := Array.getElem?_eq_some_iff.mp h
  apply Array.ext
  · rw [Array.size_extract]; simp; omega
  · intro k h1 h2
    have hk : k = 0 := by simp at h2; omega
    subst hk
    simp [e]
theorem ext_ext {D : Array UInt8} {i j k : Nat} (h1 : i ≤ j) (h2 : j ≤ k) : D.extract i j ++ D.extract j k = D.extract i k := by
  rw [Array.extract_append_extract]
  congr 1 <;> omega
theorem ext_head {D : Array UInt8} {i j : Nat} (h1 : i < j) : (D.extract i j).extract 0 1 = D.extract i (i + 1) := by
  rw [Array.extract_extract]
  congr 1
  omega
end Mine
end
namespace Mine
theorem lull38 : True ∧ True := by
  w_top off
  k_with_none
  first
    | (walk1; fail)
    | exact ⟨trivial, trivial⟩
end Mine
section
open PySem PySem.W
namespace Mine
theorem byte_lt (y : UInt8) : y.toNat < 256 := y.toNat_lt
theorem byte_to (y : UInt8) : y.toNat.toUInt8 = y := by
  apply UInt8.toNat.inj
  show y.toNat % 256 = y.toNat
  exact Nat.mod_eq_of_lt y.toNat_lt
theorem grun_pre {D : Array UInt8} (hz : D.size ≤ 60) {place : Nat} {ks : List (Array UInt8)} {codes : List Int} (h : GRun D place ks codes) :
    place ≤ D.size ∧ ∃ (cn : List Nat) (outs : List (Array UInt8)), codes = cn.map (fun n => ((n : Nat) : Int)) ∧ (∀ c ∈ cn, c < 512) ∧ cat outs = D.extract 0 place ∧ cn.length ≤ place ∧ outs.length = cn.length ∧
      ((cn = [] ∧ outs = [] ∧ place = 0 ∧ ks = []) ∨ (∃ p0 kd, p0 < place ∧ (place < D.size → ks = kd ++ [D.extract p0 (place + 1)]) ∧ kd.length < place ∧
        Pre (256 :: cn) (#[] :: outs) (fun items pv => DItems items kd ∧ ∃ u, pv = .bytes (D.extract p0 place) u))) := by
  induction h with
  | start => exact ⟨Nat.zero_le _, [], [], rfl, fun _ h => by simp at h, by simp [cat], Nat.le_refl _, rfl, .inl ⟨rfl, rfl, rfl, rfl⟩⟩
  | @step place size ks ks' codes c hg hs hc1 hc2 hk1 hk2 ih =>
    obtain ⟨s1, s2, s3, s4⟩ := hs
    obtain ⟨hp, cn, outs, rfl, hlt, hcat, hln, hlo, hst⟩ := ih
    have hpl : place < D.size := by omega
    have hps : (D.extract place (place + size)).size = size := by rw [ext_size s2]; omega
    have hcat' : cat (outs ++ [D.extract place (place + size)]) = D.extract 0 (place + size) := by
      rw [cat_snoc, hcat, ext_ext (Nat.zero_le _) (by omega)]
    rcases hst with ⟨rfl, rfl, rfl, rfl⟩ | ⟨p0, kd, q1, q2, q3, q4⟩
    · have hsz : size = 1 := by
        rcases Nat.lt_or_ge 1 size with h | h
        · have := s3 1 (Nat.le_refl _) h
          simp at this
        · omega
      subst hsz
      obtain ⟨y, hy, rfl⟩ := hc2 rfl
      refine ⟨by omega, [y.toNat], [D.extract 0 (0 + 1)], rfl, fun c hc => ?_, by simpa using hcat', by simp, rfl, .inr ⟨0, [], by omega, fun hlt' => ?_, by simp, ?_⟩⟩
      · rw [List.mem_singleton.mp hc]
        have := byte_lt y
        omega
      · have := hk2 (by simp)
        rw [this]
      · have p := pre0.step (v := y.toNat) (y := D.extract 0 (0 + 1)) (St' := fun items pv => DItems items [] ∧ ∃ u, pv = .bytes (D.extract 0 (0 + 1)) u) (fun items pv hs => by
          obtain ⟨u, rfl⟩ := hs.2
          have hd := hs.items
          obtain ⟨u6, h6⟩ := hd.2.1 y.toNat (byte_lt y)
          rw [byte_to, ← ext_one hy] at h6
          exact ⟨_, _, .first (byte_lt y) h6, fun items' u hi => by subst hi; exact ⟨hd, u, rfl⟩⟩)
        exact p
    · have hks := q2 hpl
      have hlast : D.extract p0 place ++ (D.extract place (place + size)).extract 0 1 = D.extract p0 (place + 1) := by
        rw [ext_head (by omega), ext_ext (by omega) (by omega)]
      have hps0 : (D.extract p0 place).size = place - p0 := ext_size hp
      have z1 : 0 < (D.extract p0 place).size := by rw [hps0]; omega
      have z2 : (D.extract p0 place).size < 1000 := by rw [hps0]; omega
      have z3 : 0 < (D.extract place (place + size)).size := by rw [hps]; omega
      have z4 : (D.extract place (place + size)).size < 1000 := by rw [hps]; omega
      have fin : ∀ v : Nat, v < 512 → c = ((v : Nat) : Int) → (∀ items pv, (DItems items kd ∧ ∃ u, pv = Value.bytes (D.extract p0 place) u) → ∃ G qv, FD items pv v G qv (D.extract place (place + size)) ∧ ∀ items' u, G items' → DItems items' ks ∧ ∃ u', Value.bytes qv u = .bytes (D.extract place (place + size)) u') →
          place + size ≤ D.size ∧ ∃ (cn' : List Nat) (outs : List (Array UInt8)), cn.map (fun n => ((n : Nat) : Int)) ++ [c] = cn'.map (fun n => ((n : Nat) : Int)) ∧ (∀ c ∈ cn', c < 512) ∧ cat outs = D.extract 0 (place + size) ∧ cn'.length ≤ place + size ∧ outs.length = cn'.length ∧
            ((cn' = [] ∧ outs = [] ∧ place + size = 0 ∧ ks' = []) ∨ (∃ p0 kd, p0 < place + size ∧ (place + size < D.size → ks' = kd ++ [D.extract p0 (place + size + 1)]) ∧ kd.length < place + size ∧
              Pre (256 :: cn') (#[] :: outs) (fun items pv => DItems items kd ∧ ∃ u, pv = .bytes (D.extract p0 (place + size)) u))) := by
        intro v hv hcv hstep
        refine ⟨s2, cn ++ [v], outs ++ [D.extract place (place + size)], by simp [hcv], fun c hc => ?_, hcat', by simp; omega, by simp [hlo], .inr ⟨place, ks, by omega, fun hlt' => hk2 (s4 hlt'), by rw [hks]; simp; omega, ?_⟩⟩
        · rcases List.mem_append.mp hc with h | h
          · exact hlt c h
          · rw [List.mem_singleton.mp h]; exact hv
        · exact q4.step hstep
      rcases Nat.lt_or_ge 1 size with hbig | hsmall
      · obtain ⟨i, hi, hcv⟩ := hc1 hbig
        have hil : i < ks.length := by
          rcases Nat.lt_or_ge i ks.length with h | h
          · exact h
          · rw [List.getElem?_eq_none h] at hi; cases hi
        have hkl : ks.length = kd.length + 1 := by rw [hks]; simp
        refine fin (258 + i) (by omega) hcv fun items pv ⟨hd, u, hu⟩ => ?_
        subst hu
        rcases Nat.lt_or_ge i kd.length with hik | hik
        · rw [hks, List.getElem?_append_left hik] at hi
          obtain ⟨u6, h6⟩ := hd.2.2 i _ hi
          refine ⟨_, _, .old (by omega) (by omega) (by rw [hd.1]; omega) (by rw [hd.1]; omega) z1 z2 z3 z4 h6, fun items' u hi' => ?_⟩
          obtain ⟨t, rfl⟩ := hi'
          rw [hlast, hks]
          exact ⟨hd.add, u, rfl⟩
        · have hie : i = kd.length := by omega
          subst hie
          rw [hks, List.getElem?_append_right (Nat.le_refl _), Nat.sub_self] at hi
          have hpe : D.extract p0 (place + 1) = D.extract place (place + size) := by simpa using hi
          have hpq : D.extract p0 place ++ (D.extract p0 place).extract 0 1 = D.extract place (place + size) := by
            have a1 : (D.extract place (place + size)).extract 0 1 = (D.extract p0 place).extract 0 1 := by
              rw [← hpe, ext_head (by omega), ext_head (by omega)]
            rw [← a1, hlast, hpe]
          have hm := FD.made (items := items) (u := u) (q := D.extract p0 place) (by rw [hd.1]; omega) (by rw [hd.1]; omega) z1 z2
          rw [hpq, hd.1] at hm
          refine ⟨_, _, hm, fun items' u hi' => ?_⟩
          obtain ⟨t, rfl⟩ := hi'
          rw [hks, hpe]
          exact ⟨hd.add, u, rfl⟩
      · have hsz : size = 1 := by omega
        subst hsz
        obtain ⟨y, hy, hcv⟩ := hc2 rfl
        have hb := byte_lt y
        refine fin y.toNat (by omega) hcv fun items pv ⟨hd, u, hu⟩ => ?_
        subst hu
        obtain ⟨u6, h6⟩ := hd.2.1 y.toNat hb
        rw [byte_to, ← ext_one hy] at h6
        refine ⟨_, _, .old (by omega) (by omega) (by rw [hd.1]; omega) (by rw [hd.1]; omega) z1 z2 z3 z4 h6, fun items' u hi' => ?_⟩
        obtain ⟨t, rfl⟩ := hi'
        rw [hlast, hks]
        exact ⟨hd.add, u, rfl⟩
end Mine
end
namespace Mine
theorem lull39 : True ∧ True := by
  w_top off
  k_with_none
  first
    | (walk1; fail)
    | exact ⟨trivial, trivial⟩
end Mine
section
open PySem PySem.W
namespace Mine
theorem cat_cons_nil (O : List (Array UInt8)) : cat (#[] :: O) = cat O := by
  unfold cat
  rw [List.foldl_cons]
  simp
theorem stop_run {items : List Value} {q : Array UInt8} {u : Tok} : Run items (.bytes q u) [257] [#[]] := .cons .stop fun items' u _ => .nil
/-- the greedy codes of a text decode to it -/
theorem greedy_ok {D : Array UInt8} (hz : D.size ≤ 60) {ks : List (Array UInt8)} {codes : List Int} (h : GRun D D.size ks codes) :
    ∃ (cn : List Nat) (O : List (Array UInt8)), codes = cn.map (fun n => ((n : Nat) : Int)) ∧ (∀ c ∈ cn, c < 512) ∧ cn.length ≤ D.size ∧ O.length = cn.length + 2 ∧ cat O = D ∧ Run [] .none (allOf cn) O := by
  obtain ⟨hp, cn, outs, rfl, hlt, hcat, hln, hlo, hst⟩ := grun_pre hz h
  have hD : D.extract 0 D.size = D := by simp
  rw [hD] at hcat
  refine ⟨cn, #[] :: (outs ++ [#[]]), rfl, hlt, hln, by simp [hlo], by rw [cat_cons_nil, cat_snoc, hcat]; simp, ?_⟩
  rcases hst with ⟨rfl, rfl, h0, rfl⟩ | ⟨p0, kd, q1, q2, q3, q4⟩
  · exact pre0 [257] [#[]] fun items pv hs => by
      obtain ⟨u, rfl⟩ := hs.2
      exact stop_run
  · exact q4 [257] [#[]] fun items pv hs => by
      obtain ⟨u, rfl⟩ := hs.2
      exact stop_run
end Mine
end
namespace Mine
theorem lull40 : True ∧ True := by
  w_top off
  k_with_none
  first
    | (walk1; fail)
    | exact ⟨trivial, trivial⟩
end Mine
section
open PySem PySem.W
namespace Mine
def pieceOf (keys : List (Array UInt8)) (prev : Array UInt8) (c : Nat) : Array UInt8 :=
  if c < 256 then #[c.toUInt8] else match keys[c - 258]? with
    | some k => k
    | none => prev ++ prev.extract 0 1
def piecesFrom : List (Array UInt8) → Array UInt8 → List Nat → List (Array UInt8)
  | _, _, [] => []
  | keys, prev, c :: cs => pieceOf keys prev c :: piecesFrom (keys ++ [prev ++ (pieceOf keys prev c).extract 0 1]) (pieceOf keys prev c) cs
def piecesOf : List Nat → List (Array UInt8)
  | [] => []
  | c :: cs => #[c.toUInt8] :: piecesFrom [] #[c.toUInt8] cs
/-- the codes that the second part makes, after the first: c at its place k is a literal, or 258 .. 257 + k -/
def CodesFrom : Nat → List Nat → Prop
  | _, [] => True
  | k, c :: cs => (c < 256 ∨ (258 ≤ c ∧ c ≤ 257 + k)) ∧ CodesFrom (k + 1) cs

structure KOk (keys : List (Array UInt8)) (prev : Array UInt8) : Prop where
  n : keys.length ≤ 100
  ks : ∀ k ∈ keys, 0 < k.size ∧ k.size ≤ keys.length + 1
  p0 : 0 < prev.size
  p1 : prev.size ≤ keys.length + 1

theorem ext_prefix {q : Array UInt8} (h : 0 < q.size) : (q ++ q.extract 0 1).extract 0 1 = q.extract 0 1 := by
  rw [Array.extract_append]
  have : (q.extract 0 1).extract (0 - q.size) (1 - q.size) = #[] := by
    rw [show 1 - q.size = 0 from by omega, Nat.zero_sub]
    simp
  rw [this, Array.append_empty]

theorem ext1_size {y : Array UInt8} (h : 0 < y.size) : (y.extract 0 1).size = 1 := by rw [Array.size_extract]; omega

theorem piece_size {keys : List (Array UInt8)} {prev : Array UInt8} {c : Nat} (o : KOk keys prev) : 0 < (pieceOf keys prev c).size ∧ (pieceOf keys prev c).size ≤ keys.length + 2 := by
  unfold pieceOf
  split
  · simp
  · split
    · rename_i k hk
      have := o.ks k (List.mem_of_getElem? hk)
      omega
    · have := ext1_size o.p0
      have a := o.p0
      have b := o.p1
      rw [Array.size_append]
      omega

theorem kok_next {keys : List (Array UInt8)} {prev : Array UInt8} {c : Nat} (o : KOk keys prev) (hn : keys.length < 100) : KOk (keys ++ [prev ++ (pieceOf keys prev c).extract 0 1]) (pieceOf keys prev c) := by
  have hp := piece_size (c := c) o
  refine ⟨by simp; omega, fun k hk => ?_, hp.1, by rw [List.length_append, List.length_singleton]; omega⟩
  rw [List.length_append, List.length_singleton]
  rcases List.mem_append.mp hk with h | h
  · have := o.ks k h
    omega
  · rw [List.mem_singleton.mp h, Array.size_append, ext1_size hp.1]
    have a := o.p0
    have b := o.p1
    omega

theorem step_fd {items : List Value} {keys : List (Array UInt8)} {prev : Array UInt8} {u : Tok} {c : Nat} (d : DItems items keys) (o : KOk keys prev) (hc : c < 256 ∨ (258 ≤ c ∧ c ≤ 258 + keys.length)) :
    ∃ G, FD items (.bytes prev u) c G (pieceOf keys prev c) (pieceOf keys prev c) ∧ ∀ items' : List Value, G items' → DItems items' (keys ++ [prev ++ (pieceOf keys prev c).extract 0 1]) := by
  have hn := o.n
  have a := o.p0
  have b := o.p1
  have hp := piece_size (c := c) o
  have z1 : prev.size < 1000 := by omega
  have z2 : (pieceOf keys prev c).size < 1000 := by omega
  have i1 : items.length < 500 := by rw [d.1]; omega
  by_cases h1 : c < 256
  · obtain ⟨u6, h6⟩ := d.2.1 c h1
    have e : pieceOf keys prev c = #[c.toUInt8] := by unfold pieceOf; rw [if_pos h1]
    refine ⟨_, .old (by omega) (by omega) (by rw [d.1]; omega) i1 a z1 hp.1 z2 (by rw [e]; exact h6), fun items' hi => ?_⟩
    obtain ⟨t, rfl⟩ := hi
    exact d.add
  · obtain ⟨h2, h3⟩ : 258 ≤ c ∧ c ≤ 258 + keys.length := by omega
    by_cases h4 : c - 258 < keys.length
    · have e : pieceOf keys prev c = keys[c - 258] := by unfold pieceOf; rw [if_neg h1, List.getElem?_eq_getElem h4]
      obtain ⟨u6, h6⟩ := d.2.2 (c - 258) keys[c - 258] (List.getElem?_eq_getElem h4)
      rw [show 258 + (c - 258) = c from by omega, ← e] at h6
      refine ⟨_, .old (by omega) (by omega) (by rw [d.1]; omega) i1 a z1 hp.1 z2 h6, fun items' hi => ?_⟩
      obtain ⟨t, rfl⟩ := hi
      exact d.add
    · have e : pieceOf keys prev c = prev ++ prev.extract 0 1 := by unfold pieceOf; rw [if_neg h1, List.getElem?_eq_none (by omega)]
      have hce : c = items.length := by rw [d.1]; omega
      have hm := FD.made (items := items) (u := u) (q := prev) (by rw [d.1]; omega) i1 a z1
      rw [← e, ← hce] at hm
      refine ⟨_, hm, fun items' hi => ?_⟩
      obtain ⟨t, rfl⟩ := hi
      have e2 : prev ++ (pieceOf keys prev c).extract 0 1 = pieceOf keys prev c := by
        rw [e, ext_prefix a]
      rw [e2]
      exact d.add
end Mine
end
namespace Mine
theorem lull41 : True ∧ True := by
  w_top off
  k_with_none
  first
    | (walk1; fail)
    | exact ⟨trivial, trivial⟩
end Mine
section
open PySem PySem.W
namespace Mine
structure DS where
  keys : List (Array UInt8)
  prev : Array UInt8
  pieces : List (Array UInt8)
def DS.step (d : DS) (c : Nat) : DS :=
  if d.pieces.length = 0 then ⟨[], #[c.toUInt8], [#[c.toUInt8]]⟩
  else ⟨d.keys ++ [d.prev ++ (pieceOf d.keys d.prev c).extract 0 1], pieceOf d.keys d.prev c, d.pieces ++ [pieceOf d.keys d.prev c]⟩
def DS.of (cn : List Nat) : DS := cn.foldl DS.step ⟨[], #[], []⟩
theorem DS.of_snoc (cn : List Nat) (c : Nat) : DS.of (cn ++ [c]) = (DS.of cn).step c := by simp [DS.of]
inductive CodesTo : List Nat → Bool → Prop
  | nil : CodesTo [] true
  | first {c : Nat} : c < 256 → CodesTo [c] true
  | lit {cn : List Nat} {mk : Bool} {c : Nat} : CodesTo cn mk → 0 < cn.length → c < 256 → CodesTo (cn ++ [c]) false
  | key {cn : List Nat} {mk : Bool} {c : Nat} : CodesTo cn mk → 0 < cn.length → 258 ≤ c → c ≤ 257 + cn.length → CodesTo (cn ++ [c]) (mk && c == 257 + cn.length)
def mx (l : List (Array UInt8)) : Nat := l.foldl (fun a x => max a x.size) 0
theorem mx_snoc (l : List (Array UInt8)) (x : Array UInt8) : mx (l ++ [x]) = max (mx l) x.size := by simp [mx]
structure Fx (d : DS) (n : Nat) (mk : Bool) : Prop where
  kl : d.keys.length + 1 = n
  pl : d.pieces.length = n
  ok : KOk d.keys d.prev
  tot : 2 * (cat d.pieces).size ≤ n * (n + 1)
  eqv : (2 * (cat d.pieces).size = n * (n + 1)) ↔ mk = true
  rep : mk = true → ∃ y, d.prev = Array.replicate n y ∧ cat d.pieces = Array.replicate (cat d.pieces).size y
  mxk : ∀ k ∈ d.keys, k.size ≤ mx d.pieces + 1
  mxp : d.prev.size ≤ mx d.pieces
  chk : ∀ (i : Nat) (p : Array UInt8), d.pieces[i]? = some p → 1 ≤ p.size ∧ p.size ≤ mx (d.pieces.take i) + 1
theorem sq_next (n : Nat) : (n + 1) * (n + 1 + 1) = n * (n + 1) + 2 * (n + 1) := by
  rw [Nat.add_mul n 1, Nat.mul_add n]
  omega
theorem rep_add (a b : Nat) (y : UInt8) : Array.replicate a y ++ Array.replicate b y = Array.replicate (a + b) y := by
  simp
theorem rep_one {n : Nat} (h : 0 < n) (y : UInt8) : (Array.replicate n y).extract 0 1 = Array.replicate 1 y := by
  apply Array.ext
  · simp; omega
  · intro i h1 h2
    simp
theorem fx_step {d : DS} {n c : Nat} {mk : Bool} (f : Fx d n mk) (hn : n < 50) (hc : c < 256 ∨ (258 ≤ c ∧ c ≤ 257 + n)) : Fx (d.step c) (n + 1) (mk && c == 257 + n) := by
  have hk := f.kl
  have hpl := f.pl
  have o := f.ok
  have a := o.p0
  have b := o.p1
  have hp := piece_size (c := c) o
  have e : d.step c = ⟨d.keys ++ [d.prev ++ (pieceOf d.keys d.prev c).extract 0 1], pieceOf d.keys d.prev c, d.pieces ++ [pieceOf d.keys d.prev c]⟩ := by
    unfold DS.step
    rw [if_neg (by omega)]
  have hcat : cat (d.pieces ++ [pieceOf d.keys d.prev c]) = cat d.pieces ++ pieceOf d.keys d.prev c := cat_snoc _ _
  have hmx : (pieceOf d.keys d.prev c).size ≤ mx d.pieces + 1 := by
    unfold pieceOf
    split
    · simp
    · split
      · rename_i k hk'
        exact f.mxk k (List.mem_of_getElem? hk')
      · have h1 := ext1_size a
        have h2 := f.mxp
        rw [Array.size_append]
        omega
  have hmade : c = 257 + n → pieceOf d.keys d.prev c = d.prev ++ d.prev.extract 0 1 := fun hce => by
    unfold pieceOf
    rw [if_neg (by omega), List.getElem?_eq_none (by omega)]
  have hnot : c ≠ 257 + n → (pieceOf d.keys d.prev c).size ≤ n := fun hce => by
    unfold pieceOf
    split
    · simp; omega
    · rw [List.getElem?_eq_getElem (show c - 258 < d.keys.length by omega)]
      have := o.ks _ (List.getElem_mem (show c - 258 < d.keys.length by omega))
      dsimp only
      omega
  have hle : (pieceOf d.keys d.prev c).size ≤ n + 1 := by omega
  rw [e]
  have sq := sq_next n
  refine ⟨by simp; omega, by simp; omega, kok_next o (by omega), ?_, ?_, ?_, ?_, ?_, ?_⟩
  · show 2 * (cat (d.pieces ++ [pieceOf d.keys d.prev c])).size ≤ _
    have := f.tot
    rw [hcat, Array.size_append]
    omega
  · show (2 * (cat (d.pieces ++ [pieceOf d.keys d.prev c])).size = _) ↔ _
    have h1 := f.tot
    have h2 := f.eqv
    rw [hcat, Array.size_append]
    by_cases hce : c = 257 + n
    · have h4 : (mk && c == 257 + n) = mk := by simp [hce]
      rw [h4]
      constructor
      · intro h
        exact h2.mp (by omega)
      · intro h
        obtain ⟨y, r1, r2⟩ := f.rep h
        have h5 := h2.mpr h
        have h6 : (pieceOf d.keys d.prev c).size = n + 1 := by
          rw [hmade hce, Array.size_append, ext1_size a, r1]
          simp
        omega
    · have h4 : (mk && c == 257 + n) = false := by simp [hce]
      rw [h4]
      have := hnot hce
      constructor
      · intro h; omega
      · intro h; cases h
  · intro h
    show ∃ y, pieceOf d.keys d.prev c = _ ∧ cat (d.pieces ++ [pieceOf d.keys d.prev c]) = _
    have hm : mk = true := by revert h; cases mk <;> simp
    have hce : c = 257 + n := by revert h; simp [hm]
    obtain ⟨y, r1, r2⟩ := f.rep hm
    have h7 : pieceOf d.keys d.prev c = Array.replicate (n + 1) y := by
      rw [hmade hce, r1, rep_one (by omega), rep_add]
    refine ⟨y, h7, ?_⟩
    show cat (d.pieces ++ [pieceOf d.keys d.prev c]) = Array.replicate (cat (d.pieces ++ [pieceOf d.keys d.prev c])).size y
    rw [hcat, Array.size_append, h7, Array.size_replicate, ← rep_add (cat d.pieces).size (n + 1), ← r2]
  · intro k hk'
    show k.size ≤ mx (d.pieces ++ [pieceOf d.keys d.prev c]) + 1
    rw [mx_snoc]
    rcases List.mem_append.mp hk' with h | h
    · have := f.mxk k h
      omega
    · rw [List.mem_singleton.mp h, Array.size_append, ext1_size hp.1]
      have := f.mxp
      omega
  · show (pieceOf d.keys d.prev c).size ≤ mx (d.pieces ++ [pieceOf d.keys d.prev c])
    rw [mx_snoc]
    omega
  · intro i p hi
    have hi' : (d.pieces ++ [pieceOf d.keys d.prev c])[i]? = some p := hi
    show 1 ≤ p.size ∧ p.size ≤ mx ((d.pieces ++ [pieceOf d.keys d.prev c]).take i) + 1
    rcases Nat.lt_or_ge i d.pieces.length with h | h
    · rw [List.getElem?_append_left h] at hi'
      rw [List.take_append_of_le_length (by omega)]
      exact f.chk i p hi'
    · rw [List.getElem?_append_right h] at hi'
      have h0 : i - d.pieces.length = 0 := by
        rcases Nat.eq_zero_or_pos (i - d.pieces.length) with h0 | h0
        · exact h0
        · rw [List.getElem?_eq_none (by simp; omega)] at hi'; cases hi'
      rw [h0] at hi'
      have hpe : pieceOf d.keys d.prev c = p := by simpa using hi'
      subst hpe
      have hie : i = d.pieces.length := by omega
      rw [hie, List.take_append_of_le_length (Nat.le_refl _), List.take_length]
      exact ⟨hp.1, hmx⟩
theorem fx_first (c : Nat) : Fx ((⟨[], #[], []⟩ : DS).step c) 1 true := by
  have e : (⟨[], #[], []⟩ : DS).step c = ⟨[], #[c.toUInt8], [#[c.toUInt8]]⟩ := rfl
  rw [e]
  refine ⟨rfl, rfl, ⟨by simp, by simp, by simp, by simp⟩, by simp [cat], by simp [cat], ?_, by simp, by simp [mx], ?_⟩
  · intro _
    exact ⟨c.toUInt8, by simp, by simp [cat]⟩
  · intro i p hi
    match i with
    | 0 => have : #[c.toUInt8] = p := by simpa using hi
           subst this
           simp
    | i + 1 => simp at hi
theorem fx_of {cn : List Nat} {mk : Bool} (h : CodesTo cn mk) (h0 : 0 < cn.length) (hn : cn.length < 50) : Fx (DS.of cn) cn.length mk := by
  induction h with
  | nil => simp at h0
  | first hc => exact fx_first _
  | @lit cn mk c h hl hc ih =>
    rw [DS.of_snoc, List.length_append, List.length_singleton]
    rw [List.length_append, List.length_singleton] at hn
    have := fx_step (c := c) (ih hl (by omega)) (by omega) (.inl hc)
    have e : (mk && c == 257 + cn.length) = false := by
      have : ¬ c = 257 + cn.length := by omega
      simp [this]
    rw [e] at this
    exact this
  | @key cn mk c h hl hc1 hc2 ih =>
    rw [DS.of_snoc, List.length_append, List.length_singleton]
    rw [List.length_append, List.length_singleton] at hn
    exact fx_step (c := c) (ih hl (by omega)) (by omega) (.inr ⟨hc1, hc2⟩)
theorem codes_take {cn : List Nat} {mk : Bool} (h : CodesTo cn mk) : ∀ i, i ≤ cn.length → ∃ mk', CodesTo (cn.take i) mk' := by
  induction h with
  | nil => intro i hi; exact ⟨true, by simpa using CodesTo.nil⟩
  | @first c hc =>
    intro i hi
    match i with
    | 0 => exact ⟨true, .nil⟩
    | i + 1 => exact ⟨true, by simpa using CodesTo.first hc⟩
  | @lit cn mk c h hl hc ih =>
    intro i hi
    rcases Nat.lt_or_ge i (cn.length + 1) with h1 | h1
    · rw [List.take_append_of_le_length (by omega)]
      exact ih i (by omega)
    · rw [List.take_of_length_le (by simpa using h1)]
      exact ⟨_, .lit h hl hc⟩
  | @key cn mk c h hl hc1 hc2 ih =>
    intro i hi
    rcases Nat.lt_or_ge i (cn.length + 1) with h1 | h1
    · rw [List.take_append_of_le_length (by omega)]
      exact ih i (by omega)
    · rw [List.take_of_length_le (by simpa using h1)]
      exact ⟨_, .key h hl hc1 hc2⟩
theorem snoc_get {l : List Nat} {a c : Nat} {i : Nat} (h : (l ++ [a])[i]? = some c) : (i < l.length ∧ l[i]? = some c) ∨ (i = l.length ∧ a = c) := by
  rcases Nat.lt_or_ge i l.length with h1 | h1
  · rw [List.getElem?_append_left h1] at h
    exact .inl ⟨h1, h⟩
  · rw [List.getElem?_append_right h1] at h
    have h0 : i - l.length = 0 := by
      rcases Nat.eq_zero_or_pos (i - l.length) with h0 | h0
      · exact h0
      · rw [List.getElem?_eq_none (by simp; omega)] at h; cases h
    rw [h0] at h
    exact .inr ⟨by omega, by simpa using h⟩
theorem codes_valid {cn : List Nat} {mk : Bool} (h : CodesTo cn mk) : ∀ (i c : Nat), cn[i]? = some c → c < 256 ∨ (258 ≤ c ∧ c ≤ 257 + i) := by
  induction h with
  | nil => intro i c hi; simp at hi
  | @first c hc =>
    intro i c' hi
    match i with
    | 0 => have : c = c' := by simpa using hi
           omega
    | i + 1 => simp at hi
  | @lit cn mk c h hl hc ih =>
    intro i c' hi
    rcases snoc_get hi with ⟨_, h1⟩ | ⟨_, h1⟩
    · exact ih i c' h1
    · omega
  | @key cn mk c h hl hc1 hc2 ih =>
    intro i c' hi
    rcases snoc_get hi with ⟨_, h1⟩ | ⟨_, h1⟩
    · exact ih i c' h1
    · omega
theorem codes_small {cn : List Nat} {mk : Bool} (h : CodesTo cn mk) (hn : cn.length ≤ 50) : ∀ c ∈ cn, c < 512 := by
  intro c hc
  obtain ⟨i, hi, e⟩ := List.getElem_of_mem hc
  have := codes_valid h i c (by rw [List.getElem?_eq_getElem hi, e])
  omega
/-- the decoder's state behind the codes cn -/
def DSt (cn : List Nat) (items : List Value) (pv : Value) : Prop :=
  (cn = [] ∧ St0 items pv) ∨ (cn ≠ [] ∧ DItems items (DS.of cn).keys ∧ ∃ u, pv = .bytes (DS.of cn).prev u)
theorem dst_step {cn : List Nat} {mk : Bool} {c : Nat} {items : List Value} {pv : Value} (h : CodesTo cn mk) (hn : cn.length < 50) (hc : c < 256 ∨ (258 ≤ c ∧ c ≤ 257 + cn.length)) (s : DSt cn items pv) :
    ∃ G y, FD items pv c G y y ∧ (DS.of (cn ++ [c])).pieces = (DS.of cn).pieces ++ [y] ∧ ∀ (items' : List Value) (u : Tok), G items' → DSt (cn ++ [c]) items' (.bytes y u) := by
  rcases s with ⟨rfl, s0⟩ | ⟨hne, hd, u, rfl⟩
  · have hc' : c < 256 := by simp at hc; omega
    have hd := s0.items
    obtain ⟨u, rfl⟩ := s0.2
    obtain ⟨u6, h6⟩ := hd.2.1 c hc'
    refine ⟨_, _, .first hc' h6, rfl, fun items' u hi => ?_⟩
    subst hi
    exact .inr ⟨by simp, hd, u, rfl⟩
  · have hl : 0 < cn.length := List.length_pos_iff.mpr hne
    have f := fx_of h hl hn
    have hk := f.kl
    have hpl := f.pl
    obtain ⟨G, hF, hG⟩ := step_fd (u := u) (c := c) hd f.ok (by omega)
    have e : DS.of (cn ++ [c]) = ⟨(DS.of cn).keys ++ [(DS.of cn).prev ++ (pieceOf (DS.of cn).keys (DS.of cn).prev c).extract 0 1], pieceOf (DS.of cn).keys (DS.of cn).prev c, (DS.of cn).pieces ++ [pieceOf (DS.of cn).keys (DS.of cn).prev c]⟩ := by
      rw [DS.of_snoc]
      unfold DS.step
      rw [if_neg (by omega)]
    refine ⟨G, _, hF, by rw [e], fun items' u hg => .inr ⟨by simp, ?_, u, ?_⟩⟩
    · rw [e]; exact hG items' hg
    · rw [e]
theorem pre_codes {cn : List Nat} {mk : Bool} (h : CodesTo cn mk) (hn : cn.length < 50) : Pre (256 :: cn) (#[] :: (DS.of cn).pieces) (DSt cn) := by
  have start : Pre (256 :: []) (#[] :: (DS.of []).pieces) (DSt []) := by
    intro rest outs' hr
    exact pre0 rest outs' fun items pv hs => hr items pv (.inl ⟨rfl, hs⟩)
  have next : ∀ (cn : List Nat) (mk : Bool) (c : Nat), CodesTo cn mk → cn.length < 50 → (c < 256 ∨ (258 ≤ c ∧ c ≤ 257 + cn.length)) → Pre (256 :: cn) (#[] :: (DS.of cn).pieces) (DSt cn) → Pre (256 :: (cn ++ [c])) (#[] :: (DS.of (cn ++ [c])).pieces) (DSt (cn ++ [c])) := by
    intro cn mk c h hl hc p
    have hy : ∃ y, (DS.of (cn ++ [c])).pieces = (DS.of cn).pieces ++ [y] ∧ ∀ items pv, DSt cn items pv → ∃ G qv, FD items pv c G qv y ∧ ∀ items' u, G items' → DSt (cn ++ [c]) items' (.bytes qv u) := by
      by_cases hne : cn = []
      · subst hne
        refine ⟨#[c.toUInt8], rfl, fun items pv hs => ?_⟩
        obtain ⟨G, y, h1, h2, h3⟩ := dst_step h hl hc hs
        have e : (DS.of ([] ++ [c])).pieces = [#[c.toUInt8]] := rfl
        rw [e] at h2
        have : y = #[c.toUInt8] := by simpa [DS.of] using h2.symm
        subst this
        exact ⟨G, _, h1, h3⟩
      · have hl0 : 0 < cn.length := List.length_pos_iff.mpr hne
        have f := fx_of h hl0 hl
        have hpl := f.pl
        have e : (DS.of (cn ++ [c])).pieces = (DS.of cn).pieces ++ [pieceOf (DS.of cn).keys (DS.of cn).prev c] := by
          rw [DS.of_snoc]
          unfold DS.step
          rw [if_neg (by omega)]
        refine ⟨_, e, fun items pv hs => ?_⟩
        obtain ⟨G, y, h1, h2, h3⟩ := dst_step h hl hc hs
        rw [e] at h2
        have : y = pieceOf (DS.of cn).keys (DS.of cn).prev c := by simpa using h2.symm
        subst this
        exact ⟨G, _, h1, h3⟩
    obtain ⟨y, e, hs⟩ := hy
    rw [e]
    exact p.step (v := c) (y := y) hs
  induction h with
  | nil => exact start
  | @first c hc => exact next [] true c .nil (by simp) (.inl hc) start
  | @lit cn mk c h hl hc ih =>
    rw [List.length_append, List.length_singleton] at hn
    exact next cn mk c h (by omega) (.inl hc) (ih (by omega))
  | @key cn mk c h hl hc1 hc2 ih =>
    rw [List.length_append, List.length_singleton] at hn
    exact next cn mk c h (by omega) (.inr ⟨hc1, hc2⟩) (ih (by omega))
/-- the codes decode to the pieces -/
theorem codes_run {cn : List Nat} {mk : Bool} (h : CodesTo cn mk) (h0 : 0 < cn.length) (hn : cn.length < 50) : Run [] .none (allOf cn) (#[] :: ((DS.of cn).pieces ++ [#[]])) := by
  exact pre_codes h hn [257] [#[]] fun items pv hs => by
    rcases hs with ⟨e, _⟩ | ⟨_, _, u, rfl⟩
    · subst e; simp at h0
    · exact stop_run
theorem cat_run (O : List (Array UInt8)) : cat (#[] :: (O ++ [#[]])) = cat O := by
  rw [cat_cons_nil, cat_snoc]; simp
end Mine
end
namespace Mine
theorem lull42 : True ∧ True := by
  w_top off
  k_with_none
  first
    | (walk1; fail)
    | exact ⟨trivial, trivial⟩
end Mine
section
open PySem PySem.W PySem.Spec PySem.Calls PyProof.Rows
namespace Mine
theorem D_call_cells {prog : Program} {w : World} {A : Around} {R : Result → Shared → Prop} {s : Shared} {name : Str} {params : Arguments} {body : List Stmt} {scope : Scope}
    {pm cd doc : Value} {a : Addr} {o : Obj} {args : List Value} {binds : List (Str × Value)}
    (hroom : A.depth < recursionLimit) (ho : s.heap.get? a = some o) (hdata : o.data = .func (Calls.docDef name params body scope pm cd doc)) (hlim : s.heap.NoLimit) (hcd : s.heap.CodeRec cd name)
    (hbind : bindArgs (Calls.docDef name params body scope pm cd doc) ⟨args, []⟩ = pure binds)
    (hkind : ∀ x ∈ binds, scope.names.lookup x.1 = some .local ∨ (scope.names.lookup x.1 = some .cell ∧ ((cellsFrom (s.heap.objs.size + 1) scope.names []).lookup x.1).isSome = true))
    (hnd : ((cellsFrom 0 scope.names []).map (·.1)).Nodup)
    (h : ∀ h₁ tk cells, Fr s.heap s.heap.objs.size h₁ (bindL (envOfC name scope s.heap.objs.size a cd).kindOf binds fun _ => none) → News s.heap s.heap.objs.size h₁ cells →
      CellsAre (bindC (envOfC name scope s.heap.objs.size a cd).kindOf binds fun _ => none) (cellsFrom (s.heap.objs.size + 1) scope.names []) cells →
      wpD (model prog w) (A.deeper (envOfC name scope s.heap.objs.size a cd)) (execs body (envOfC name scope s.heap.objs.size a cd))
        (fun f s' => R (.ok (.ret (match f with | .ret v => v | _ => .none))) s')
        (fun e s' => wpAny (model prog w) (A.deeper (envOfC name scope s.heap.objs.size a cd)) (leaving (envOfC name scope s.heap.objs.size a cd) e)
          (fun _ s'' => R (.error e) s'') (fun e' s'' => R (.error e') s'') s')
        { s with heap := h₁, toks := tk })
    (hco : scope.isCoroutine = false := by rfl) (hgen : scope.isGenerator = false := by rfl) (hk : scope.kind = .function := by rfl) :
    codeD (model prog w) A (.call (.ref a) ⟨args, []⟩) R s := by
  refine D_call_function (fd := Calls.docDef name params body scope pm cd doc) hroom ho hdata hco hgen rfl hcd ?_
  rw [hbind]
  refine wpAny_pure (wpAny_newFunctionEnv_cells hk hkind fun env he s' x => ?_)
  subst he
  refine ⟨hlim.keeps x.toInCall.keep, D_func ?_⟩
  obtain ⟨h₁, tk, rfl, _⟩ := x.done
  obtain ⟨cells, NC, Y⟩ := Cl.news (h₀ := s.heap) (Nat.le_refl _) fun n c hm => ⟨x.cell n c (lookup_of_mem_nodup (cellsFrom_names scope.names 0 (s.heap.objs.size + 1) [] [] rfl ▸ hnd) hm), x.above n c hm⟩
  exact h h₁ tk cells ⟨x.toInCall.ns, x.toInCall.keep, x.toInCall.fresh⟩ NC Y
end Mine
end
namespace Mine
theorem lull43 : True ∧ True := by
  w_top off
  k_with_none
  first
    | (walk1; fail)
    | exact ⟨trivial, trivial⟩
end Mine
section
open PySem PySem.W PySem.Spec PySem.Calls PyProof.Rows
set_option maxRecDepth 100000
namespace Mine
local macro_rules | `(tactic| k_room) => `(tactic| (simp only [depth_mark, depth_under_make, depth_under_kw, depth_in1, depth_deeper, depth_caller, ktrTop, recursionLimit]; omega))
local macro_rules | `(tactic| k_units) => `(tactic| (simp only [units_in1, units_deeper, Around.mark_units, units_caller, ktrTop, cLine_is]; omega))
local macro_rules | `(tactic| ktr_enter) => `(tactic| (refine' code_def ?k1 ?k2 ?k3 ?k4 ?k5 ?kA ?kF ?kK ?k6 ?k7 ?k8 ?k9 ?kB ?_ ?c2 ?c3 ?c4 ?c5; (case kA => exact rfl); (case kF => exact rfl); (case kK => assumption); (case k1 => k_asm); (case k2 => k_asm); (case k3 => k_asm); (case k4 => k_asm); (case k5 => k_asm); (case k6 => k_is); (case k7 => k_is); (case k8 => k_room); (case k9 => first | exact BindsTo.of_eq rfl | exact binds_K (by k_in) rfl (by k_is) rfl rfl rfl); (case c5 => decide); (case kB => exact locs rfl); (case c2 => exact rfl); (case c3 => exact rfl); (case c4 => exact rfl); k_whole; intro g' L' h' FG' F' N' B' X' T'; (try dsimp only); (try k_fold)))
local macro_rules | `(tactic| walk_at "compareOp Eq int int") => `(tactic| first | (refine eq_no (by first | omega | (simp only [List.length_append, List.length_cons, List.length_nil, ne_eq]; omega)) ?_) | (refine eq_yes (by omega) ?_))
local macro_rules | `(tactic| walk_at "compareOp Lt int int") => `(tactic| first | (refine lt_yes (by omega) ?_) | (refine lt_no (by omega) ?_))
def atOf (ns : List Int) (k d : Int) : Int := if k < ns.length then ns.getD k.toNat 0 else d
set_option maxHeartbeats 8000000 in
theorem law_at : ∀ (w : World) (p : Program) (loose : List Str) (mean : ExcName → Option Value) (mg mb : Str → Option Value) (dp un : Nat) (gd : Option (List Code)) (cn : Str) (cs : Scope) (a : Addr) (ccd : Value) (cl : List (Str × Addr)) (outer : List Env) (A₀ : Around) (base h₀ : Heap) (L : Addr) (m : Str → Option Value) (s : Shared)
    (Q E : Value → Shared → Prop) (sc : Nat) (vs : List Value) (ns : List Int) (k d : Int) (tk td : Tok) (more : List (Addr × Obj))
   (B : Below A₀ base outer h₀) (F : Fr h₀ L s.heap m) (X : (Mine.hd.heap_39 w.params).In h₀) (N : News h₀ L s.heap more)
   (T : Top p loose mean mg mb h₀) (hk : cs.kind = .function) (hd : dp < 600) (hu : un < 900)
   (hl : base.IsList sc vs.toArray) (hi : IntsAre vs ns) (hn : ns.length ≤ 63) (h0 : 0 ≤ k)
   (ret : ∀ t h' tk, Fr h₀ L h' m → News h₀ L h' more → Q (.int (atOf ns k d) t) { s with heap := h', toks := tk }),
   wpAny (model PG w) (ktrTop dp un gd cn cs L a ccd cl outer) (call (.ref 681) [.ref sc, .int k tk, .int d td]) Q E s := by
  delta PG
  k_fill
  intro w p loose mean mg mb dp un gd cn cs a ccd cl outer A₀ base h₀ L m s Q E sc vs ns k d tk td more B F X N T hk hd hu hl hi hn h0 ret
  refine wpAny_call ?_
  k_dflt ktr_enter
  rename Below _ _ _ _ => BB
  k_lift BB
  k_steps
  · rename k < _ => hlt
    have e : atOf ns k d = ns.getD k.toNat 0 := by unfold atOf; rw [if_pos hlt]
    exact e ▸ ret _ _ _ (by assumption) (by assumption)
  · rename ¬ k < _ => hlt
    have e : atOf ns k d = d := by unfold atOf; rw [if_neg hlt]
    exact e.symm ▸ ret _ _ _ (by assumption) (by assumption)
end Mine
end
namespace Mine
theorem lull44 : True ∧ True := by
  w_top off
  k_with_none
  first
    | (walk1; fail)
    | exact ⟨trivial, trivial⟩
end Mine
section
open PySem PySem.W PySem.Spec PySem.Calls PyProof.Rows
set_option maxRecDepth 100000
namespace Mine
def lwFd (o : Option Obj) : List Stmt × Scope := match o with
  | some ⟨_, _, .func fd, _⟩ => (match fd.body with | .stmts b => (b, fd.scope) | _ => ([], default))
  | _ => ([], default)
def lwN (l : List Stmt) (k : Nat) : Stmt := match l, k with
  | st :: _, 0 => st
  | _ :: r, k + 1 => lwN r k
  | [], _ => .Pass default
noncomputable def lawBody (w : World) : List Stmt := (lwFd ((Mine.hd.heap_39 w.params).lookup 700)).1
noncomputable def lawSc (w : World) : Scope := (lwFd ((Mine.hd.heap_39 w.params).lookup 700)).2
noncomputable def lawAt (w : World) (k : Nat) : Stmt := lwN (lawBody w) k
theorem lawBody_is (w : World) : lawBody w = [lawAt w 0, lawAt w 1, lawAt w 2, lawAt w 3, lawAt w 4, lawAt w 5, lawAt w 6, lawAt w 7, lawAt w 8, lawAt w 9, lawAt w 10, lawAt w 11, lawAt w 12, lawAt w 13, lawAt w 14] := by
  kernel_rfl
abbrev lawN : Str := Str.ofString "law"
abbrev lawCl (cD cK cS : Nat) : List (Str × Addr) := [(Str.ofString "decoder", cD), (Str.ofString "kinds", cK), (Str.ofString "script", cS)]
theorem fr_as {h₀ h : Heap} {L : Addr} {m : Str → Option Value} {x : Str} {v : Value} (F : Fr h₀ L h m) (e : m x = some v) : Fr h₀ L h (fun y => if y = x then some v else m y) := by
  have : (fun y => if y = x then some v else m y) = m := funext fun y => by
    by_cases q : y = x
    · rw [if_pos q, q, e]
    · rw [if_neg q]
  rw [this]; exact F
theorem fr_eqm {h₀ h : Heap} {L : Addr} {m m' : Str → Option Value} (F : Fr h₀ L h m) (e : ∀ y, m y = m' y) : Fr h₀ L h m' := by
  have : m = m' := funext e
  rw [← this]; exact F
theorem if_un {m : Str → Option Value} {x y : Str} {v : Value} (e : m x = some v) : (if y = x then some v else m y) = m y := by
  by_cases q : y = x
  · rw [if_pos q, q, e]
  · rw [if_neg q]
theorem fr_sw {h₀ h : Heap} {L : Addr} {m : Str → Option Value} {a b : Str} {v : Option Value} {u : Value} (F : Fr h₀ L h (fun y => if y = a then v else if y = b then some u else m y)) (e : m b = some u) :
    Fr h₀ L h (fun y => if y = a then v else m y) := fr_eqm F fun y => by
  by_cases q : y = a
  · rw [if_pos q, if_pos q]
  · rw [if_neg q, if_neg q, if_un e]
theorem fr_un {h₀ h : Heap} {L : Addr} {m : Str → Option Value} {x : Str} {v : Value} (F : Fr h₀ L h (fun y => if y = x then some v else m y)) (e : m x = some v) : Fr h₀ L h m := by
  have : (fun y => if y = x then some v else m y) = m := funext fun y => by
    by_cases q : y = x
    · rw [if_pos q, q, e]
    · rw [if_neg q]
  rw [← this]; exact F
theorem fr_as2 {h₀ h : Heap} {L : Addr} {m : Str → Option Value} {x y : Str} {v u : Value} (F : Fr h₀ L h m) (e : m x = some v) (f : m y = some u) : Fr h₀ L h (fun z => if z = x then some v else if z = y then some u else m z) := fr_eqm F fun z => by
  rw [if_un f, if_un e]
theorem fr_as3 {h₀ h : Heap} {L : Addr} {m : Str → Option Value} {x y a : Str} {v u b : Value} (F : Fr h₀ L h m) (e : m x = some v) (f : m y = some u) (g : m a = some b) : Fr h₀ L h (fun z => if z = x then some v else if z = y then some u else if z = a then some b else m z) := fr_eqm F fun z => by
  rw [if_un g, if_un f, if_un e]
theorem fr_un3 {h₀ h : Heap} {L : Addr} {m : Str → Option Value} {x y a : Str} {v u b : Value} (F : Fr h₀ L h (fun z => if z = x then some v else if z = y then some u else if z = a then some b else m z)) (e : m x = some v) (f : m y = some u) (g : m a = some b) : Fr h₀ L h m := fr_eqm F fun z => by
  rw [if_un g, if_un f, if_un e]
theorem fr_un2 {h₀ h : Heap} {L : Addr} {m : Str → Option Value} {x y : Str} {v u : Value} (F : Fr h₀ L h (fun z => if z = x then some v else if z = y then some u else m z)) (e : m x = some v) (f : m y = some u) : Fr h₀ L h m := fr_eqm F fun z => by
  rw [if_un f, if_un e]
theorem chainA {M : Model} {A : Around} {st : Stmt} {rest : List Stmt} {env : Env} {R : Flow → Shared → Prop} {E : Value → Shared → Prop} {s : Shared}
    (h : SegP (wpAny M A (exec st env) (fun f s' => match f with | .next => SegP (wpD M A (execs rest env) R E s') | f => R f s') E s)) : SegP (wpD M A (execs (st :: rest) env) R E s) :=
  ⟨D_execs_cons (wpD_of_any (wpAny_mono h.out (fun f s' h' => by cases f <;> first | exact h'.out | exact h') fun _ _ x => x))⟩
theorem chainD {M : Model} {A : Around} {st : Stmt} {rest : List Stmt} {env : Env} {R : Flow → Shared → Prop} {E : Value → Shared → Prop} {s : Shared}
    (h : SegP (wpD M A (exec st env) (fun f s' => match f with | .next => SegP (wpD M A (execs rest env) R E s') | f => R f s') E s)) : SegP (wpD M A (execs (st :: rest) env) R E s) :=
  ⟨D_execs_cons (wpD_mono h.out (fun f s' h' => by cases f <;> first | exact h'.out | exact h') fun _ _ x => x)⟩
end Mine
end
namespace Mine
theorem lull45 : True ∧ True := by
  w_top off
  k_with_none
  first
    | (walk1; fail)
    | exact ⟨trivial, trivial⟩
end Mine
section
open PySem PySem.W PySem.Spec PySem.Calls PyProof.Rows
set_option maxRecDepth 100000
namespace Mine
local macro_rules | `(tactic| k_room) => `(tactic| (simp only [depth_mark, depth_under_make, depth_under_kw, depth_in1, depth_deeper, depth_caller, ktrTop, recursionLimit]; omega))
local macro_rules | `(tactic| k_units) => `(tactic| (simp only [units_in1, units_deeper, Around.mark_units, units_caller, ktrTop, cLine_is]; omega))
local macro_rules | `(tactic| ktr_enter) => `(tactic| (refine' code_def ?k1 ?k2 ?k3 ?k4 ?k5 ?kA ?kF ?kK ?k6 ?k7 ?k8 ?k9 ?kB ?_ ?c2 ?c3 ?c4 ?c5; (case kA => exact rfl); (case kF => exact rfl); (case kK => assumption); (case k1 => k_asm); (case k2 => k_asm); (case k3 => k_asm); (case k4 => k_asm); (case k5 => k_asm); (case k6 => k_is); (case k7 => k_is); (case k8 => k_room); (case k9 => first | exact BindsTo.of_eq rfl | exact binds_K (by k_in) rfl (by k_is) rfl rfl rfl); (case c5 => decide); (case kB => exact locs rfl); (case c2 => exact rfl); (case c3 => exact rfl); (case c4 => exact rfl); k_whole; intro g' L' h' FG' F' N' B' X' T'; (try dsimp only); (try k_fold)))
local macro_rules | `(tactic| walk_at "compareOp Eq int int") => `(tactic| first | (refine eq_no (by first | omega | (simp only [List.length_append, List.length_cons, List.length_nil, ne_eq]; omega)) ?_) | (refine eq_yes (by omega) ?_))
local macro_rules | `(tactic| walk_at "compareOp Lt int int") => `(tactic| first | (refine lt_yes (by omega) ?_) | (refine lt_no (by omega) ?_))
local macro_rules | `(tactic| walk_at "call ref") => `(tactic| (k_here; (show wpAny _ _ (call (Value.ref 681) [Value.ref _, Value.int _ _, Value.int _ _]) _ _ _); k_dflt (refine law_at _ _ _ _ _ _ _ _ _ _ _ _ _ _ _ _ _ _ _ _ _ _ _ _ _ _ _ _ _ _ _ (by k_asm) (by k_asm) (by k_asm) (by k_asm) (by k_asm) rfl (by first | omega | k_room) (by first | omega | k_units) (by assumption) (by assumption) (by omega) (by omega) ?_); intro t' h' tk' F' N'; (try k_sweep)))
set_option maxHeartbeats 8000000 in
theorem seg0 : ∀ (w : World) (p : Program) (loose : List Str) (mean : ExcName → Option Value) (mg mb : Str → Option Value) (dp un : Nat) (gd : Option (List Code)) (outer : List Env) (A₀ : Around) (base h₀ : Heap) (L : Addr) (ccd : Value) (cD cK cS : Nat) (m : Str → Option Value) (s : Shared) (Q : Flow → Shared → Prop) (E : Value → Shared → Prop) (oD oK oS : Obj) (sc : Nat) (vs : List Value) (ns : List Int) (more : List (Addr × Obj))
   (B : Below A₀ base outer h₀) (F : Fr h₀ L s.heap m) (X : (Mine.hd.heap_39 w.params).In h₀) (N : News h₀ L s.heap ((cD, oD) :: (cK, oK) :: (cS, oS) :: more)) (T : Top p loose mean mg mb h₀) (hd : dp < 350) (hu : un < 500) (eS : oS.data = .cell (some (.ref sc))) (hl : base.IsList sc vs.toArray) (hi : IntsAre vs ns) (hn : ns.length ≤ 63) (q1 : cS < cK) (q2 : cK < cD)
   (ret : ∀ h' tk t, Fr h₀ L h' (fun y => if y = Str.ofString "head" then some (.int (atOf ns 0 55) t) else m y) → News h₀ L h' ((cD, oD) :: (cK, oK) :: (cS, oS) :: more) → Q .next { s with heap := h', toks := tk }),
   SegP (wpAny (model PG w) (ktrTop dp un gd lawN (lawSc w) L 700 ccd (lawCl cD cK cS) outer) (exec (lawAt w 0) (envX lawN (lawSc w) L 700 ccd (lawCl cD cK cS))) Q E s) := by
  delta PG
  k_fill
  intro w p loose mean mg mb dp un gd outer A₀ base h₀ L ccd cD cK cS m s Q E oD oK oS sc vs ns more  B F X N T hd hu eS hl hi hn q1 q2 ret
  obtain ⟨st, hst⟩ : ∃ st, lawAt w 0 = st := ⟨_, rfl⟩
  obtain ⟨sp, hsc⟩ : ∃ sp, lawSc w = sp := ⟨_, rfl⟩
  rw [hst, hsc]
  conv at hst => lhs; whnf
  conv at hsc => lhs; whnf
  subst hst hsc
  refine ⟨?_⟩
  k_steps
  exact ret _ _ _ (by assumption) (by assumption)
set_option maxHeartbeats 8000000 in
theorem seg1 : ∀ (w : World) (p : Program) (loose : List Str) (mean : ExcName → Option Value) (mg mb : Str → Option Value) (dp un : Nat) (gd : Option (List Code)) (outer : List Env) (A₀ : Around) (base h₀ : Heap) (L : Addr) (ccd : Value) (cD cK cS : Nat) (m : Str → Option Value) (s : Shared) (Q : Flow → Shared → Prop) (E : Value → Shared → Prop) (oD oK oS : Obj) (sc : Nat) (vs : List Value) (ns : List Int) (more : List (Addr × Obj)) (hv : Int) (ht : Tok) (v₀ : Option Value)
   (B : Below A₀ base outer h₀) (F : Fr h₀ L s.heap m) (X : (Mine.hd.heap_39 w.params).In h₀) (N : News h₀ L s.heap ((cD, oD) :: (cK, oK) :: (cS, oS) :: more)) (T : Top p loose mean mg mb h₀) (hd : dp < 350) (hu : un < 500) (eS : oS.data = .cell (some (.ref sc))) (hl : base.IsList sc vs.toArray) (hi : IntsAre vs ns) (hn : ns.length ≤ 63) (q1 : cS < cK) (q2 : cK < cD) (eK : oK.data = .cell v₀) (hoff : OwnOff more [cD, cK, cS]) (hm : m (Str.ofString "head") = some (.int hv ht))
   (ret : ∀ h' tk t kd oK', 1 ≤ kd → kd ≤ 4 → oK'.data = .cell (some (.int kd t)) → Fr h₀ L h' m → News h₀ L h' ((cD, oD) :: (cK, oK') :: (cS, oS) :: more) → Q .next { s with heap := h', toks := tk }),
   SegP (wpAny (model PG w) (ktrTop dp un gd lawN (lawSc w) L 700 ccd (lawCl cD cK cS) outer) (exec (lawAt w 1) (envX lawN (lawSc w) L 700 ccd (lawCl cD cK cS))) Q E s) := by
  delta PG
  k_fill
  intro w p loose mean mg mb dp un gd outer A₀ base h₀ L ccd cD cK cS m s Q E oD oK oS sc vs ns more hv ht v₀ B F X N T hd hu eS hl hi hn q1 q2 eK hoff hm ret
  obtain ⟨st, hst⟩ : ∃ st, lawAt w 1 = st := ⟨_, rfl⟩
  obtain ⟨sp, hsc⟩ : ∃ sp, lawSc w = sp := ⟨_, rfl⟩
  rw [hst, hsc]
  conv at hst => lhs; whnf
  conv at hsc => lhs; whnf
  subst hst hsc
  refine ⟨?_⟩
  have F := fr_as F hm
  k_steps
  have z1 : 0 ≤ hv.fmod 4 := Int.fmod_nonneg_of_pos _ (by decide)
  have z2 : hv.fmod 4 < 4 := Int.fmod_lt_of_pos _ (by decide)
  rename Fr _ _ _ _ => F9
  exact ret _ _ _ (1 + hv.fmod 4) _ (by omega) (by omega) (by assumption) (fr_un F9 hm) (by assumption)
theorem pow_pos' {a : Int} (h : 1 ≤ a) (n : Nat) : 1 ≤ a ^ n := Int.pow_pos (by omega)
theorem pow_nat {a : Int} (h1 : 1 ≤ a) (h4 : a ≤ 4) {n : Nat} (hn : n ≤ 40) : (a ^ n).natAbs.log2 < 9000 := by
  have e : (a ^ n).natAbs = a.natAbs ^ n := Int.natAbs_pow ..
  have h2 : a.natAbs ^ n ≤ 4 ^ n := Nat.pow_le_pow_left (by omega) n
  have h3 : (4 : Nat) ^ n ≤ 4 ^ 40 := Nat.pow_le_pow_right (by decide) hn
  have h5 : (4 : Nat) ^ 40 < 2 ^ 81 := by decide
  have h0 : 0 < a.natAbs ^ n := Nat.pow_pos (by omega)
  have : (a ^ n).natAbs.log2 < 81 := (Nat.log2_lt (by omega)).mpr (by omega)
  omega
theorem pow_ne' {a : Int} (h : 1 ≤ a) {n : Nat} : a ^ n ≠ 0 := by have := pow_pos' h n; omega
local macro_rules | `(tactic| walk_at "binaryOp FloorDiv int int") => `(tactic| (k_here; ((with_reducible refine floordiv_int ?kbe ?_ (Or.inl (PyProof.noPylong_of_log2 ?kbp))); (case kbe => exact pow_ne' (by assumption)); (case kbp => exact pow_nat (by assumption) (by assumption) (by omega)))))
theorem oct_in {a kd : Int} {l : List Int} (h1 : 1 ≤ kd) (h4 : kd ≤ 4) : KBa.In (List.map (fun k' : Int => 97 + (a.fdiv (kd ^ k'.toNat)).fmod kd) l) := by
  intro k hk
  obtain ⟨i, _, rfl⟩ := List.mem_map.mp hk
  have z1 : 0 ≤ (a.fdiv (kd ^ i.toNat)).fmod kd := Int.fmod_nonneg_of_pos _ (by omega)
  have z2 : (a.fdiv (kd ^ i.toNat)).fmod kd < kd := Int.fmod_lt_of_pos _ (by omega)
  omega
theorem oct_len {f : Int → Int} {n : Nat} (h : n ≤ 18) : (List.map f (rangeKs 0 n)).length ≤ 18 := by
  rw [List.length_map, rangeKs_length]; exact h
local macro_rules | `(tactic| walk_at "call type:bytes") => `(tactic| (k_here; (with_reducible show wpAny _ _ (call (Value.type "bytes") [Value.ref _]) _ _ _); k_dflt (refine KBa.make_K (by k_asm) (by k_asm) rfl (by kba_isList) (by assumption) (oct_in (by assumption) (by assumption)) (Nat.le_trans (oct_len (by omega)) (by decide)) ?_); intro _ _ _ F' N' kbaIn))
set_option maxHeartbeats 8000000 in
theorem seg2 : ∀ (w : World) (p : Program) (loose : List Str) (mean : ExcName → Option Value) (mg mb : Str → Option Value) (dp un : Nat) (gd : Option (List Code)) (outer : List Env) (A₀ : Around) (base h₀ : Heap) (L : Addr) (ccd : Value) (cD cK cS : Nat) (m : Str → Option Value) (s : Shared) (Q : Flow → Shared → Prop) (E : Value → Shared → Prop) (oD oK oS : Obj) (sc : Nat) (vs : List Value) (ns : List Int) (more : List (Addr × Obj)) (hv kd : Int) (ht kt : Tok)
   (B : Below A₀ base outer h₀) (F : Fr h₀ L s.heap m) (X : (Mine.hd.heap_39 w.params).In h₀) (N : News h₀ L s.heap ((cD, oD) :: (cK, oK) :: (cS, oS) :: more)) (T : Top p loose mean mg mb h₀) (hd : dp < 350) (hu : un < 500) (eS : oS.data = .cell (some (.ref sc))) (hl : base.IsList sc vs.toArray) (hi : IntsAre vs ns) (hn : ns.length ≤ 63) (q1 : cS < cK) (q2 : cK < cD) (eK : oK.data = .cell (some (.int kd kt))) (k1 : 1 ≤ kd) (k4 : kd ≤ 4) (hoff : OwnOff more [cD, cK, cS]) (hm : m (Str.ofString "head") = some (.int hv ht))
   (ret : ∀ h' tk t b, b.size ≤ 18 → Fr h₀ L h' (fun y => if y = Str.ofString "octets" then some (.bytes b t) else m y) → News h₀ L h' ((cD, oD) :: (cK, oK) :: (cS, oS) :: more) → Q .next { s with heap := h', toks := tk }),
   SegP (wpAny (model PG w) (ktrTop dp un gd lawN (lawSc w) L 700 ccd (lawCl cD cK cS) outer) (exec (lawAt w 2) (envX lawN (lawSc w) L 700 ccd (lawCl cD cK cS))) Q E s) := by
  delta PG
  k_fill
  intro w p loose mean mg mb dp un gd outer A₀ base h₀ L ccd cD cK cS m s Q E oD oK oS sc vs ns more hv kd ht kt B F X N T hd hu eS hl hi hn q1 q2 eK k1 k4 hoff hm ret
  obtain ⟨st, hst⟩ : ∃ st, lawAt w 2 = st := ⟨_, rfl⟩
  obtain ⟨sp, hsc⟩ : ∃ sp, lawSc w = sp := ⟨_, rfl⟩
  rw [hst, hsc]
  conv at hst => lhs; whnf
  conv at hsc => lhs; whnf
  subst hst hsc
  refine ⟨?_⟩
  have F := fr_as F hm
  k_steps
  rename News _ _ _ _ => N9
  rename Fr _ _ _ _ => F9
  refine ret _ _ _ _ ?_ (fr_sw F9 hm) (fun q hq => N9 q ?_)
  · rw [byteArr_size]
    exact oct_len (by omega)
  · exact .tail _ hq
end Mine
end
namespace Mine
theorem lull46 : True ∧ True := by
  w_top off
  k_with_none
  first
    | (walk1; fail)
    | exact ⟨trivial, trivial⟩
end Mine
section
open PySem PySem.W PySem.Spec PySem.Calls PyProof.Rows
set_option maxRecDepth 100000
namespace Mine
theorem turned_fr {h₀ h h' : Heap} {L : Addr} {m : Str → Option Value} (T : Turned [L] h h') (F : Fr h₀ L h m) : Fr h₀ L h' m := by
  refine ⟨?_, fun b o e => ?_, F.above⟩
  · obtain ⟨o, es, ep, ho, hd, r⟩ := F.ns
    obtain ⟨sl, hs⟩ := (T L o ho).2
    exact ⟨_, es, ep, hs, hd, r⟩
  · refine (T b o (F.keep b o e)).1 fun hm => ?_
    rw [List.mem_singleton.mp hm] at e
    exact Nat.lt_irrefl _ (Nat.lt_of_lt_of_le (Heap.lt_size e) F.above)
theorem turned_news {h₀ h h' : Heap} {L : Addr} {news : List (Addr × Obj)} (T : Turned [L] h h') (N : News h₀ L h news) : News h₀ L h' news := fun p hp => by
  have z := N p hp
  exact ⟨(T p.1 p.2 z.1).1 fun hm => z.2.1 (List.mem_singleton.mp hm), z.2⟩
theorem off_lt {more : List (Addr × Obj)} {c : Addr} (h : ∀ p ∈ more, p.1 < c) : OwnOff more [c] := fun p hp b hb => by
  rw [List.mem_singleton.mp hb]
  exact Nat.ne_of_lt (h p hp)
theorem cn_len {cn : List Nat} {n : Nat} (h : cn.length ≤ n) (hn : n ≤ 60) : (cn.map fun n => ((n : Nat) : Int)).length ≤ 60 := by rw [List.length_map]; omega
theorem cn_rng {cn : List Nat} (h : ∀ c ∈ cn, c < 512) : ∀ n ∈ (cn.map fun n => ((n : Nat) : Int)), 0 ≤ n ∧ n < 512 := fun n hn => by
  obtain ⟨c, hc, rfl⟩ := List.mem_map.mp hn
  have := h c hc
  omega
theorem len_small {n : Nat} (h : n ≤ 60) : lenOf n < 2000 := by unfold lenOf; omega
local macro_rules | `(tactic| k_room) => `(tactic| (simp only [depth_mark, depth_under_make, depth_under_kw, depth_in1, depth_deeper, depth_caller, ktrTop, recursionLimit]; omega))
local macro_rules | `(tactic| k_units) => `(tactic| (simp only [units_in1, units_deeper, Around.mark_units, units_caller, ktrTop, cLine_is]; omega))
local macro_rules | `(tactic| ktr_enter) => `(tactic| (refine' code_def ?k1 ?k2 ?k3 ?k4 ?k5 ?kA ?kF ?kK ?k6 ?k7 ?k8 ?k9 ?kB ?_ ?c2 ?c3 ?c4 ?c5; (case kA => exact rfl); (case kF => exact rfl); (case kK => assumption); (case k1 => k_asm); (case k2 => k_asm); (case k3 => k_asm); (case k4 => k_asm); (case k5 => k_asm); (case k6 => k_is); (case k7 => k_is); (case k8 => k_room); (case k9 => first | exact BindsTo.of_eq rfl | exact binds_K (by k_in) rfl (by k_is) rfl rfl rfl); (case c5 => decide); (case kB => exact locs rfl); (case c2 => exact rfl); (case c3 => exact rfl); (case c4 => exact rfl); k_whole; intro g' L' h' FG' F' N' B' X' T'; (try dsimp only); (try k_fold)))
local macro_rules | `(tactic| walk_at "compareOp Eq int int") => `(tactic| first | (refine eq_no (by first | omega | (simp only [List.length_append, List.length_cons, List.length_nil, ne_eq]; omega)) ?_) | (refine eq_yes (by omega) ?_))
local macro_rules | `(tactic| walk_at "compareOp Lt int int") => `(tactic| first | (refine lt_yes (by omega) ?_) | (refine lt_no (by omega) ?_))
local macro_rules | `(tactic| walk_at "call ref") => `(tactic| (k_here; (show wpAny _ _ (call (Value.ref 695) [Value.bytes _ _]) _ _ _); k_dflt (refine greedy _ _ _ _ _ _ _ _ _ _ _ _ _ _ _ _ _ _ _ _ _ _ _ _ _ _ (by k_asm) (by k_asm) (by k_asm) (by k_asm) (by k_asm) rfl (by first | omega | k_room) (by first | omega | k_units) (by omega) ?_); intro c' ks' codes' vs' nn' h' tk' gr' hi' F' N' lt'; obtain ⟨cn', O', hc', hs', hl', hO', hcat', hrun'⟩ := greedy_ok (by omega) gr'; subst hc'))
local macro_rules | `(tactic| walk_at "call ref") => `(tactic| (k_here; (show wpAny _ _ (call (Value.ref 688) [Value.ref _]) _ _ _); k_dflt (refine laid _ _ _ _ _ _ _ _ _ _ _ _ _ _ _ _ _ _ _ _ _ _ _ _ _ _ _ _ (by k_asm) (by k_asm) (by k_asm) (by k_asm) (off_lt (by assumption)) (by k_asm) rfl (by first | omega | k_room) (by first | omega | k_units) (by assumption) (cn_len (by assumption) (by omega)) (cn_rng (by assumption)) ?_); intro b' t' h' tk' hb' hsz' F' N'; rw [List.length_map] at hb' hsz'))
set_option maxHeartbeats 8000000 in
theorem seg3 : ∀ (w : World) (p : Program) (loose : List Str) (mean : ExcName → Option Value) (mg mb : Str → Option Value) (dp un : Nat) (gd : Option (List Code)) (A₀ : Around) (base h₀ : Heap) (L : Addr) (ccd : Value) (cD cK cS : Nat) (m : Str → Option Value) (s : Shared) (Q : Flow → Shared → Prop) (E : Value → Shared → Prop) (oD oK oS : Obj) (sc : Nat) (vs : List Value) (ns : List Int) (more : List (Addr × Obj)) (D : Array UInt8) (dt : Tok)
   (B : Below A₀ base [] h₀) (F : Fr h₀ L s.heap m) (X : (Mine.hd.heap_39 w.params).In h₀) (N : News h₀ L s.heap ((cD, oD) :: (cK, oK) :: (cS, oS) :: more)) (T : Top p loose mean mg mb h₀) (hd : dp < 350) (hu : un < 500) (eS : oS.data = .cell (some (.ref sc))) (hl : base.IsList sc vs.toArray) (hi : IntsAre vs ns) (hn : ns.length ≤ 63) (q1 : cS < cK) (q2 : cK < cD) (XB : (Mine.hd.heap_39 w.params).In base) (TB : Top p loose mean mg mb base) (hm : m (Str.ofString "octets") = some (.bytes D dt)) (hz : D.size ≤ 18)
   (ret : ∀ h' tk, Fr h₀ L h' m → News h₀ L h' ((cD, oD) :: (cK, oK) :: (cS, oS) :: more) → Q .next { s with heap := h', toks := tk, gens := s.gens.push .finished }),
   SegP (wpD (model PG w) (ktrTop dp un gd lawN (lawSc w) L 700 ccd (lawCl cD cK cS) []) (exec (lawAt w 3) (envX lawN (lawSc w) L 700 ccd (lawCl cD cK cS))) Q E s) := by
  delta PG
  k_fill
  intro w p loose mean mg mb dp un gd A₀ base h₀ L ccd cD cK cS m s Q E oD oK oS sc vs ns more D dt B F X N T hd hu eS hl hi hn q1 q2 XB TB hm hz ret
  obtain ⟨st, hst⟩ : ∃ st, lawAt w 3 = st := ⟨_, rfl⟩
  obtain ⟨sp, hsc⟩ : ∃ sp, lawSc w = sp := ⟨_, rfl⟩
  rw [hst, hsc]
  conv at hst => lhs; whnf
  conv at hsc => lhs; whnf
  subst hst hsc
  refine ⟨?_⟩
  have F := fr_as F hm
  refine D_If (D_isTrue_Compare1 (D_Call_Name ?_))
  k_steps
  refine' D_callWith' X ?hkk ?_ ?he
  case hkk => k_is
  case he => rfl
  k_steps
  rename Fr _ _ _ _ => F9
  rename News _ _ _ _ => N9
  refine lzw _ _ _ _ _ _ _ _ _ _ _ _ _ _ _ _ _ _ _ _ _ _ _ _ _ _ B F9 X XB TB (fun b hb => nomatch hb) (by rw [(by assumption : Array.size _ = lenOf _)]; exact len_small (by omega)) T rfl (by omega) (by omega) (dec_laid (by assumption) (by assumption) (by assumption) (by assumption)) (by omega) (by rw [(by assumption : cat _ = D)]; omega) ?_
  intro h8 tk8 t8 TT
  have F8 := turned_fr TT F9
  have N8 := turned_news TT N9
  clear F9 N9 TT
  rename cat _ = D => hcat
  rw [hcat]
  k_steps
  · rename (_ != _) = true => hne
    exact absurd hne (by simp)
  · refine wpD_of_any (wpAny_execs_nil ?_)
    exact ret _ _ (fr_un F8 hm) (fun q hq => N8 q (.tail _ hq))
end Mine
end
namespace Mine
theorem lull47 : True ∧ True := by
  w_top off
  k_with_none
  first
    | (walk1; fail)
    | exact ⟨trivial, trivial⟩
end Mine
section
open PySem PySem.W PySem.Spec PySem.Calls PyProof.Rows
set_option maxRecDepth 100000
namespace Mine
local macro_rules | `(tactic| k_room) => `(tactic| (simp only [depth_mark, depth_under_make, depth_under_kw, depth_in1, depth_deeper, depth_caller, ktrTop, recursionLimit]; omega))
local macro_rules | `(tactic| k_units) => `(tactic| (simp only [units_in1, units_deeper, Around.mark_units, units_caller, ktrTop, cLine_is]; omega))
local macro_rules | `(tactic| ktr_enter) => `(tactic| (refine' code_def ?k1 ?k2 ?k3 ?k4 ?k5 ?kA ?kF ?kK ?k6 ?k7 ?k8 ?k9 ?kB ?_ ?c2 ?c3 ?c4 ?c5; (case kA => exact rfl); (case kF => exact rfl); (case kK => assumption); (case k1 => k_asm); (case k2 => k_asm); (case k3 => k_asm); (case k4 => k_asm); (case k5 => k_asm); (case k6 => k_is); (case k7 => k_is); (case k8 => k_room); (case k9 => first | exact BindsTo.of_eq rfl | exact binds_K (by k_in) rfl (by k_is) rfl rfl rfl); (case c5 => decide); (case kB => exact locs rfl); (case c2 => exact rfl); (case c3 => exact rfl); (case c4 => exact rfl); k_whole; intro g' L' h' FG' F' N' B' X' T'; (try dsimp only); (try k_fold)))
local macro_rules | `(tactic| walk_at "compareOp Eq int int") => `(tactic| first | (refine eq_no (by first | omega | (simp only [List.length_append, List.length_cons, List.length_nil, ne_eq]; omega)) ?_) | (refine eq_yes (by omega) ?_))
local macro_rules | `(tactic| walk_at "compareOp Lt int int") => `(tactic| first | (refine lt_yes (by omega) ?_) | (refine lt_no (by omega) ?_))
local macro_rules | `(tactic| walk_at "call ref") => `(tactic| (k_here; (show wpAny _ _ (call (Value.ref 681) [Value.ref _, Value.int _ _, Value.int _ _]) _ _ _); k_dflt (refine law_at _ _ _ _ _ _ _ _ _ _ _ _ _ _ _ _ _ _ _ _ _ _ _ _ _ _ _ _ _ _ _ (by k_asm) (by k_asm) (by k_asm) (by k_asm) (by k_asm) rfl (by first | omega | k_room) (by first | omega | k_units) (by assumption) (by assumption) (by omega) (by omega) ?_); intro t' h' tk' F' N'; (try k_sweep)))
set_option maxHeartbeats 8000000 in
theorem seg4 : ∀ (w : World) (p : Program) (loose : List Str) (mean : ExcName → Option Value) (mg mb : Str → Option Value) (dp un : Nat) (gd : Option (List Code)) (outer : List Env) (A₀ : Around) (base h₀ : Heap) (L : Addr) (ccd : Value) (cD cK cS : Nat) (m : Str → Option Value) (s : Shared) (Q : Flow → Shared → Prop) (E : Value → Shared → Prop) (oD oK oS : Obj) (sc : Nat) (vs : List Value) (ns : List Int)
   (B : Below A₀ base outer h₀) (F : Fr h₀ L s.heap m) (X : (Mine.hd.heap_39 w.params).In h₀) (N : News h₀ L s.heap ((cD, oD) :: (cK, oK) :: (cS, oS) :: [])) (T : Top p loose mean mg mb h₀) (hd : dp < 350) (hu : un < 500) (eS : oS.data = .cell (some (.ref sc))) (hl : base.IsList sc vs.toArray) (hi : IntsAre vs ns) (hn : ns.length ≤ 63) (q1 : cS < cK) (q2 : cK < cD)
   (ret : ∀ h' tk (c : Nat), cD < c → Fr h₀ L h' (fun y => if y = Str.ofString "making" then some (.bool true) else if y = Str.ofString "codes" then some (.ref c) else m y) → News h₀ L h' [(cD, oD), (cK, oK), (cS, oS), (c, W.listOf #[] 0)] → Q .next { s with heap := h', toks := tk }),
   SegP (wpAny (model PG w) (ktrTop dp un gd lawN (lawSc w) L 700 ccd (lawCl cD cK cS) outer) (exec (lawAt w 4) (envX lawN (lawSc w) L 700 ccd (lawCl cD cK cS))) Q E s) := by
  delta PG
  k_fill
  intro w p loose mean mg mb dp un gd outer A₀ base h₀ L ccd cD cK cS m s Q E oD oK oS sc vs ns  B F X N T hd hu eS hl hi hn q1 q2 ret
  obtain ⟨st, hst⟩ : ∃ st, lawAt w 4 = st := ⟨_, rfl⟩
  obtain ⟨sp, hsc⟩ : ∃ sp, lawSc w = sp := ⟨_, rfl⟩
  rw [hst, hsc]
  conv at hst => lhs; whnf
  conv at hsc => lhs; whnf
  subst hst hsc
  refine ⟨?_⟩
  k_steps
  rename News _ _ _ _ => N9
  rename Fr _ _ _ _ => F9
  rename cD < _ ∧ _ => l9
  rename _ < _ ∧ cD < _ ∧ _ => l8
  refine ret _ _ _ (by first | exact l9.1 | exact l8.1) (fr_eqm F9 fun y => ?_) (fun q hq => N9 q ?_)
  · have e9 : Str.ofString "making" ≠ Str.ofString "codes" := by decide
    by_cases e1 : y = Str.ofString "making"
    · subst e1; rw [if_neg e9, if_pos rfl, if_pos rfl]
    · rw [if_neg e1, if_neg e1]
  · simp only [List.mem_cons, List.not_mem_nil, or_false] at hq ⊢
    rcases hq with h | h | h | h <;> simp [h]
local macro_rules | `(tactic| walk_at "exec For Name Call cons nil") => `(tactic| (k_here; (rename Fr _ _ _ _ => lF'); (with_unfolding_all refine' For_invVF lF' ?k1 ?k2 ?_; (case k1 => exact rfl); (case k2 => exact rfl); k_whole)))
theorem codes_first {cn : List Nat} {mk : Bool} (h : CodesTo cn mk) (e : cn.length = 0) : cn = [] := List.length_eq_zero_iff.mp e
def CW (pre codes : List Int) (mk : Bool) : Prop := ∃ cn : List Nat, codes = cn.map (fun n => ((n : Nat) : Int)) ∧ cn.length = pre.length ∧ CodesTo cn mk
theorem cw_nil : CW [] [] true := ⟨[], rfl, rfl, .nil⟩
theorem codes_nil_mk {mk : Bool} : ∀ {cn : List Nat}, CodesTo cn mk → cn.length = 0 → mk = true := by
  intro cn h
  cases h with
  | nil => intro _; rfl
  | first hc => intro _; rfl
  | lit h1 h2 h3 => intro e; simp at e
  | key h1 h2 h3 h4 => intro e; simp at e
theorem getD_last {l : List Int} {v d : Int} : (l ++ [v]).getD (-1 + ((l ++ [v]).length : Int)).toNat d = v := by
  have e : (-1 + ((l ++ [v]).length : Int)).toNat = l.length := by simp; omega
  rw [e]; simp
theorem cw_lit {pre codes : List Int} {mk b : Bool} {k x : Int} (hl : codes.length = pre.length) (h : CW pre codes mk) (hk : k = 0 + (pre.length : Int)) (hb : b = (mk && (k == 0))) :
    (codes ++ [x.fmod 256]).length = (pre ++ [k]).length ∧ CW (pre ++ [k]) (codes ++ [x.fmod 256]) b := by
  refine ⟨by simp [hl], ?_⟩
  obtain ⟨cn, rfl, hn, hc⟩ := h
  have z1 : 0 ≤ x.fmod 256 := Int.fmod_nonneg_of_pos _ (by decide)
  have z2 : x.fmod 256 < 256 := Int.fmod_lt_of_pos _ (by decide)
  refine ⟨cn ++ [(x.fmod 256).toNat], by simp [Int.toNat_of_nonneg z1], by simp [hn], ?_⟩
  by_cases h0 : cn.length = 0
  · have hm := codes_nil_mk hc h0
    have e := codes_first hc h0
    subst e
    have hk0 : k = 0 := by simp at hn; omega
    rw [hb, hm, hk0]
    exact .first (by omega)
  · have hk0 : ¬ k = 0 := by omega
    have : b = false := by rw [hb]; simp [hk0]
    rw [this]
    exact .lit hc (by omega) (by omega)
theorem cw_key {pre codes : List Int} {mk b : Bool} {k v : Int} (hl : codes.length = pre.length) (h : CW pre codes mk) (hk : k = 0 + (pre.length : Int)) (h0 : k ≠ 0) (h1 : 258 ≤ v) (h2 : v ≤ 257 + k) (hb : b = (mk && (v == 257 + k))) :
    (codes ++ [v]).length = (pre ++ [k]).length ∧ CW (pre ++ [k]) (codes ++ [v]) b := by
  refine ⟨by simp [hl], ?_⟩
  obtain ⟨cn, rfl, hn, hc⟩ := h
  refine ⟨cn ++ [v.toNat], by simp [Int.toNat_of_nonneg (show 0 ≤ v by omega)], by simp [hn], ?_⟩
  have e : b = (mk && v.toNat == 257 + cn.length) := by
    rw [hb]
    congr 1
    rw [Bool.eq_iff_iff]
    simp only [beq_iff_eq]
    omega
  rw [e]
  exact .key hc (by omega) (by omega) (by omega)
theorem hb_1 {mk : Bool} {k : Int} (h : mk = true) (e : k = 0) : true = (mk && (k == 0)) := by simp [h, e]
theorem hb_2 {mk c : Bool} (h : mk = false) : mk = (mk && c) := by simp [h]
theorem hb_3 {mk : Bool} {k : Int} (e : k ≠ 0) : false = (mk && (k == 0)) := by simp [e]
theorem hb_4 {mk c : Bool} (h : mk = false) : false = (mk && c) := by simp [h]
theorem hb_5 {mk c : Bool} (h : mk = true) : c = (mk && c) := by simp [h]
theorem hb_6 {mk : Bool} {k v : Int} {l : List Int} (h : mk = true) : ((l ++ [v]).getD (-1 + ((l ++ [v]).length : Int)).toNat 0 == 257 + k) = (mk && (v == 257 + k)) := by rw [getD_last, h, Bool.true_and]
theorem key_lo {x k : Int} (h : 0 ≤ k) (h0 : k ≠ 0) : 258 ≤ 258 + x.fmod k := by
  have z1 : 0 ≤ x.fmod k := Int.fmod_nonneg_of_pos _ (by omega)
  omega
theorem key_hi {x k : Int} (h : 0 ≤ k) (h0 : k ≠ 0) : 258 + x.fmod k ≤ 257 + k := by
  have z2 : x.fmod k < k := Int.fmod_lt_of_pos _ (by omega)
  omega
local macro_rules | `(tactic| walk_at "InvEndN") => `(tactic| (k_dflt kst_close))
set_option maxHeartbeats 8000000 in
theorem seg5 : ∀ (w : World) (p : Program) (loose : List Str) (mean : ExcName → Option Value) (mg mb : Str → Option Value) (dp un : Nat) (gd : Option (List Code)) (outer : List Env) (A₀ : Around) (base h₀ : Heap) (L : Addr) (ccd : Value) (cD cK cS : Nat) (m : Str → Option Value) (s : Shared) (Q : Flow → Shared → Prop) (E : Value → Shared → Prop) (oD oK oS : Obj) (sc : Nat) (vs : List Value) (ns : List Int) (c : Nat)
   (B : Below A₀ base outer h₀) (F : Fr h₀ L s.heap m) (X : (Mine.hd.heap_39 w.params).In h₀) (N : News h₀ L s.heap ((cD, oD) :: (cK, oK) :: (cS, oS) :: [(c, W.listOf #[] 0)])) (T : Top p loose mean mg mb h₀) (hd : dp < 350) (hu : un < 500) (eS : oS.data = .cell (some (.ref sc))) (hl : base.IsList sc vs.toArray) (hi : IntsAre vs ns) (hn : ns.length ≤ 63) (q1 : cS < cK) (q2 : cK < cD) (q3 : cD < c) (hm1 : m (Str.ofString "making") = some (.bool true)) (hm2 : m (Str.ofString "codes") = some (.ref c))
   (ret : ∀ h' tk cvs nn cn mk m', CodesTo cn mk → 1 ≤ cn.length → cn.length ≤ 10 → IntsAre cvs (cn.map fun n => ((n : Nat) : Int)) → m' (Str.ofString "making") = some (.bool mk) → m' (Str.ofString "codes") = some (.ref c) → Fr h₀ L h' m' →
      News h₀ L h' [(cD, oD), (cK, oK), (cS, oS), (c, W.listOf cvs.toArray nn)] → Q .next { s with heap := h', toks := tk }),
   SegP (wpAny (model PG w) (ktrTop dp un gd lawN (lawSc w) L 700 ccd (lawCl cD cK cS) outer) (exec (lawAt w 5) (envX lawN (lawSc w) L 700 ccd (lawCl cD cK cS))) Q E s) := by
  delta PG
  k_fill
  intro w p loose mean mg mb dp un gd outer A₀ base h₀ L ccd cD cK cS m s Q E oD oK oS sc vs ns c B F X N T hd hu eS hl hi hn q1 q2 q3 hm1 hm2 ret
  obtain ⟨st, hst⟩ : ∃ st, lawAt w 5 = st := ⟨_, rfl⟩
  obtain ⟨sp, hsc⟩ : ∃ sp, lawSc w = sp := ⟨_, rfl⟩
  rw [hst, hsc]
  conv at hst => lhs; whnf
  conv at hsc => lhs; whnf
  subst hst hsc
  refine ⟨?_⟩
  have F := fr_as2 F hm1 hm2
  refine wpAny_mono (E := fun _ _ => False) ?_ (fun _ _ h => h) (fun _ _ h => h.elim)
  have z1 : 0 ≤ (atOf ns 2 4).fmod 10 := Int.fmod_nonneg_of_pos _ (by decide)
  have z2 : (atOf ns 2 4).fmod 10 < 10 := Int.fmod_lt_of_pos _ (by decide)
  (k_with "state" => first | exact ⟨rfl, cw_nil⟩ | exact cw_lit (by assumption) (by assumption) (by assumption) (by first | exact hb_1 (by assumption) (by assumption) | exact hb_2 (by assumption) | exact hb_3 (by assumption) | exact hb_4 (by assumption) | exact hb_5 (by assumption)) | exact cw_key (by assumption) (by assumption) (by assumption) (by assumption) (by first | omega | exact key_lo (by omega) (by assumption)) (by first | omega | exact key_hi (by omega) (by assumption)) (by first | exact hb_6 (by assumption) | exact hb_2 (by assumption) | exact hb_4 (by assumption)))
  (k_with "pyIter ref" => k_state (fun pre codes making => codes.length = pre.length ∧ CW pre codes making) "codes" "making")
  k_steps
  rename CW _ _ _ => hw
  obtain ⟨cn, hcn, hln, hc⟩ := hw
  subst hcn
  rw [rangeKs_length] at hln
  rename Fr _ _ _ _ => F9
  rename News _ _ _ _ => N9
  exact ret _ _ _ _ cn _ _ hc (by omega) (by omega) (by assumption) rfl rfl F9 N9
end Mine
end
namespace Mine
theorem lull48 : True ∧ True := by
  w_top off
  k_with_none
  first
    | (walk1; fail)
    | exact ⟨trivial, trivial⟩
end Mine
section
open PySem PySem.W PySem.Spec PySem.Calls PyProof.Rows
set_option maxRecDepth 100000
namespace Mine
local macro_rules | `(tactic| k_room) => `(tactic| (simp only [depth_mark, depth_under_make, depth_under_kw, depth_in1, depth_deeper, depth_caller, ktrTop, recursionLimit]; omega))
local macro_rules | `(tactic| k_units) => `(tactic| (simp only [units_in1, units_deeper, Around.mark_units, units_caller, ktrTop, cLine_is]; omega))
local macro_rules | `(tactic| ktr_enter) => `(tactic| (refine' code_def ?k1 ?k2 ?k3 ?k4 ?k5 ?kA ?kF ?kK ?k6 ?k7 ?k8 ?k9 ?kB ?_ ?c2 ?c3 ?c4 ?c5; (case kA => exact rfl); (case kF => exact rfl); (case kK => assumption); (case k1 => k_asm); (case k2 => k_asm); (case k3 => k_asm); (case k4 => k_asm); (case k5 => k_asm); (case k6 => k_is); (case k7 => k_is); (case k8 => k_room); (case k9 => first | exact BindsTo.of_eq rfl | exact binds_K (by k_in) rfl (by k_is) rfl rfl rfl); (case c5 => decide); (case kB => exact locs rfl); (case c2 => exact rfl); (case c3 => exact rfl); (case c4 => exact rfl); k_whole; intro g' L' h' FG' F' N' B' X' T'; (try dsimp only); (try k_fold)))
local macro_rules | `(tactic| walk_at "compareOp Eq int int") => `(tactic| first | (refine eq_no (by first | omega | (simp only [List.length_append, List.length_cons, List.length_nil, ne_eq]; omega)) ?_) | (refine eq_yes (by omega) ?_))
local macro_rules | `(tactic| walk_at "compareOp Lt int int") => `(tactic| first | (refine lt_yes (by omega) ?_) | (refine lt_no (by omega) ?_))
theorem news_rot {h₀ h : Heap} {L : Addr} {a b c : Addr × Obj} {l : List (Addr × Obj)} (N : News h₀ L h (a :: b :: c :: l)) : News h₀ L h (b :: c :: a :: l) := fun q hq => N q (by
  simp only [List.mem_cons] at hq ⊢
  rcases hq with h | h | h | h <;> simp [h])
set_option maxHeartbeats 8000000 in
theorem seg6 : ∀ (w : World) (p : Program) (loose : List Str) (mean : ExcName → Option Value) (mg mb : Str → Option Value) (dp un : Nat) (gd : Option (List Code)) (outer : List Env) (A₀ : Around) (base h₀ : Heap) (L : Addr) (ccd : Value) (cD cK cS : Nat) (m : Str → Option Value) (s : Shared) (Q : Flow → Shared → Prop) (E : Value → Shared → Prop) (oD oK oS : Obj) (sc : Nat) (vs : List Value) (ns : List Int) (c nn : Nat) (cvs : List Value) (v₀ : Option Value)
   (B : Below A₀ base outer h₀) (F : Fr h₀ L s.heap m) (X : (Mine.hd.heap_39 w.params).In h₀) (N : News h₀ L s.heap ((cD, oD) :: (cK, oK) :: (cS, oS) :: [(c, W.listOf cvs.toArray nn)])) (T : Top p loose mean mg mb h₀) (hd : dp < 350) (hu : un < 500) (eS : oS.data = .cell (some (.ref sc))) (hl : base.IsList sc vs.toArray) (hi : IntsAre vs ns) (hn : ns.length ≤ 63) (q1 : cS < cK) (q2 : cK < cD) (q3 : cD < c) (eD : oD.data = .cell v₀)
   (ret : ∀ h' tk (x dx tb : Nat) t1 t2 t3 t4 t5 t6 u2 u3 u4 oD', oD'.data = .cell (some (.ref x)) → dx < x → x < tb → c < dx → Fr h₀ L h' m →
     News h₀ L h' (decT w x dx tb t1 t2 t3 t4 t5 t6 u2 u3 u4 .none 0 8 .none [] 0 ++ [(cD, oD'), (cK, oK), (cS, oS), (c, W.listOf cvs.toArray nn)]) → Q .next { s with heap := h', toks := tk }),
   SegP (wpAny (model PG w) (ktrTop dp un gd lawN (lawSc w) L 700 ccd (lawCl cD cK cS) outer) (exec (lawAt w 6) (envX lawN (lawSc w) L 700 ccd (lawCl cD cK cS))) Q E s) := by
  delta PG
  k_fill
  intro w p loose mean mg mb dp un gd outer A₀ base h₀ L ccd cD cK cS m s Q E oD oK oS sc vs ns c nn cvs v₀ B F X N T hd hu eS hl hi hn q1 q2 q3 eD ret
  obtain ⟨st, hst⟩ : ∃ st, lawAt w 6 = st := ⟨_, rfl⟩
  obtain ⟨sp, hsc⟩ : ∃ sp, lawSc w = sp := ⟨_, rfl⟩
  rw [hst, hsc]
  conv at hst => lhs; whnf
  conv at hsc => lhs; whnf
  subst hst hsc
  refine ⟨?_⟩
  k_steps
  rename Fr h₀ L _ _ => F9
  rename News h₀ L _ _ => N9
  rename cD < _ ∧ _ ∧ _ ∧ c < _ => l9
  rename _ < _ ∧ _ < _ ∧ cD < _ ∧ _ => l8
  exact ret _ _ _ _ _ _ _ _ _ _ _ _ _ _ _ (by assumption) (by assumption) l8.1 l9.2.2.2 F9 (news_rot N9)
theorem off_three {cD cK cS c dx : Nat} {oD oK oS o : Obj} (q1 : cS < cK) (q2 : cK < cD) (q3 : cD < c) (q4 : c < dx) : OwnOff [(cD, oD), (cK, oK), (cS, oS), (c, o)] [dx] := fun p hp b hb => by
  rw [List.mem_singleton.mp hb]
  simp only [List.mem_cons, List.not_mem_nil, or_false] at hp
  rcases hp with rfl | rfl | rfl | rfl <;> (apply Nat.ne_of_lt; dsimp only; omega)
local macro_rules | `(tactic| walk_at "call ref") => `(tactic| (k_here; (with_reducible show wpAny _ _ (call (Value.ref 103) [Value.ref _, Value.int 256 _]) _ _ _); k_dflt (refine feed256 _ _ _ _ _ _ _ _ _ _ _ _ _ _ _ _ _ _ _ _ _ _ _ _ _ _ _ _ _ _ _ _ _ _ _ _ _ _ _ _ _ _ _ (by k_asm) (by k_asm) (by k_asm) (by k_asm) (off_three (by assumption) (by assumption) (by assumption) (by assumption)) (by k_asm) rfl (by first | omega | k_room) (by first | omega | k_units) (by assumption) (by omega) (by omega) ?_); intro h' t' t0' tk' tb' u4' ys' k' hy1' hy2' ne1' ne2' ne3' F' N'))
set_option maxHeartbeats 8000000 in
theorem seg7 : ∀ (w : World) (p : Program) (loose : List Str) (mean : ExcName → Option Value) (mg mb : Str → Option Value) (dp un : Nat) (gd : Option (List Code)) (outer : List Env) (A₀ : Around) (base h₀ : Heap) (L : Addr) (ccd : Value) (cD cK cS : Nat) (m : Str → Option Value) (s : Shared) (Q : Flow → Shared → Prop) (E : Value → Shared → Prop) (oD oK oS : Obj) (sc : Nat) (vs : List Value) (ns : List Int) (c nn : Nat) (cvs : List Value) (x dx tb : Nat) (t1 t2 t3 t4 t5 t6 u2 u3 u4 : Tok)
   (B : Below A₀ base outer h₀) (F : Fr h₀ L s.heap m) (X : (Mine.hd.heap_39 w.params).In h₀) (N : News h₀ L s.heap ((cD, oD) :: (cK, oK) :: (cS, oS) :: (decT w x dx tb t1 t2 t3 t4 t5 t6 u2 u3 u4 .none 0 8 .none [] 0 ++ [(c, W.listOf cvs.toArray nn)]))) (T : Top p loose mean mg mb h₀) (hd : dp < 350) (hu : un < 500) (eS : oS.data = .cell (some (.ref sc))) (hl : base.IsList sc vs.toArray) (hi : IntsAre vs ns) (hn : ns.length ≤ 63) (q1 : cS < cK) (q2 : cK < cD) (q3 : cD < c) (eD : oD.data = .cell (some (.ref x))) (l1 : dx < x) (l2 : x < tb) (l3 : c < dx)
   (ret : ∀ h' tk (tb : Nat) t u4 items nn', St0 items (.bytes #[] t) → x ≠ tb → dx ≠ tb → (∀ p ∈ [(cD, oD), (cK, oK), (cS, oS), (c, W.listOf cvs.toArray nn)], p.1 ≠ tb) → Fr h₀ L h' m →
     News h₀ L h' (decT w x dx tb t1 t2 t3 t4 t5 t6 u2 u3 u4 .none 0 8 (.bytes #[] t) items nn' ++ [(cD, oD), (cK, oK), (cS, oS), (c, W.listOf cvs.toArray nn)]) → Q .next { s with heap := h', toks := tk }),
   SegP (wpAny (model PG w) (ktrTop dp un gd lawN (lawSc w) L 700 ccd (lawCl cD cK cS) outer) (exec (lawAt w 7) (envX lawN (lawSc w) L 700 ccd (lawCl cD cK cS))) Q E s) := by
  delta PG
  k_fill
  intro w p loose mean mg mb dp un gd outer A₀ base h₀ L ccd cD cK cS m s Q E oD oK oS sc vs ns c nn cvs x dx tb t1 t2 t3 t4 t5 t6 u2 u3 u4 B F X N T hd hu eS hl hi hn q1 q2 q3 eD l1 l2 l3 ret
  obtain ⟨st, hst⟩ : ∃ st, lawAt w 7 = st := ⟨_, rfl⟩
  obtain ⟨sp, hsc⟩ : ∃ sp, lawSc w = sp := ⟨_, rfl⟩
  rw [hst, hsc]
  conv at hst => lhs; whnf
  conv at hsc => lhs; whnf
  subst hst hsc
  refine ⟨?_⟩
  have N1 : News h₀ L s.heap (decT w x dx tb t1 t2 t3 t4 t5 t6 u2 u3 u4 .none 0 8 .none [] 0 ++ [(cD, oD), (cK, oK), (cS, oS), (c, W.listOf cvs.toArray nn)]) := fun q hq => N q (by
    simp only [decT, List.cons_append, List.nil_append, List.mem_cons, List.not_mem_nil, or_false] at hq ⊢
    rcases hq with h | h | h | h | h | h | h <;> simp [h])
  clear N
  k_steps
  rename Fr h₀ L _ _ => F9
  rename News h₀ L _ _ => N9
  exact ret _ _ _ _ _ _ _ ⟨⟨_, rfl, by assumption, by assumption⟩, _, rfl⟩ (by assumption) (by assumption) (by assumption) F9 N9
def BytesAre (ys : List Value) (ps : List (Array UInt8)) : Prop := ys.length = ps.length ∧ ∀ (j : Nat) (v : Value), ys[j]? = some v → ∃ p t, ps[j]? = some p ∧ v = .bytes p t
theorem BytesAre.nil : BytesAre [] [] := ⟨rfl, fun j v h => by simp at h⟩
theorem BytesAre.snoc {ys : List Value} {ps : List (Array UInt8)} {p : Array UInt8} {t : Tok} (h : BytesAre ys ps) : BytesAre (ys ++ [.bytes p t]) (ps ++ [p]) := by
  refine ⟨by simp [h.1], fun j v hv => ?_⟩
  rcases Nat.lt_or_ge j ys.length with hj | hj
  · rw [List.getElem?_append_left hj] at hv
    rw [List.getElem?_append_left (by rw [← h.1]; exact hj)]
    exact h.2 j v hv
  · rw [List.getElem?_append_right hj] at hv
    rw [List.getElem?_append_right (by rw [← h.1]; exact hj), ← h.1]
    have h0 : j - ys.length = 0 := by
      rcases Nat.eq_zero_or_pos (j - ys.length) with h0 | h0
      · exact h0
      · rw [List.getElem?_eq_none (by simp; omega)] at hv; cases hv
    rw [h0] at hv ⊢
    exact ⟨p, t, rfl, by simpa using hv.symm⟩
section
variable {prog : Program} {w : World} {A : Around} {h₀ : Heap} {L : Addr} {m : PySem.Str → Option Value} {env : Env} {elt : PySem.Expr} {x : PySem.Str} {scope : Scope} {cl : List (PySem.Str × Addr)} {s : Shared} {S : List (Addr × Obj) → Prop} {P : Nat → Value → Prop} {Fin : List Value → List (Addr × Obj) → Prop} {news : List (Addr × Obj)}
def JEnd (J : Nat → List Value → List (Addr × Obj) → Prop) (i : Nat) (ys : List Value) (y : Value) (news' : List (Addr × Obj)) : Prop := J (i + 1) (ys ++ [y]) news'
theorem st_rest {n : Nat} (J : Nat → List Value → List (Addr × Obj) → Prop)
    (turn : ∀ i v I oI C oC D m₂ ys news h tk (E' : Value → Shared → Prop), i < n → J i ys news → P i v → LCg.NsObj oC m₂ → m₂ x = some v → Fr h₀ L h m → News h₀ L h ((I, oI) :: (C, oC) :: (D, LCg.lst ys) :: news) → LCg.Off3 I C D news → ((@Ne Nat I C) ∧ (@Ne Nat I D) ∧ (@Ne Nat C D)) →
      wpAny (model prog w) A (eval elt (compEnvC scope cl C env)) (LCg.CompEnd h₀ L m { s with heap := h, toks := tk } I oI C oC D (LCg.lst ys) S (fun y news' => JEnd J i ys y news')) E' { s with heap := h, toks := tk })
    (fin : ∀ ys news, J n ys news → Fin ys news) (h0 : J 0 [] news) : LCg.CompRest prog w A h₀ L m env elt x scope cl s S P Fin n 0 [] news := by
  have key : ∀ (j i : Nat) (ys : List Value) (news : List (Addr × Obj)), i + j = n → J i ys news → LCg.CompRest prog w A h₀ L m env elt x scope cl s S P Fin j i ys news := by
    intro j
    induction j with
    | zero =>
      intro i ys news hi hj
      have : i = n := by omega
      subst this
      exact LCg.CompRest.zero (fin ys news hj)
    | succ j ih =>
      intro i ys news hi hj
      refine LCg.CompRest.succ ?_
      intro v I oI C oC D m₂ h tk E' hv hC hx F N off ne
      refine wpAny_mono (turn i v I oI C oC D m₂ ys news h tk E' (by omega) hj hv hC hx F N off ne) (fun y s₂ hq => ?_) fun _ _ e => e
      obtain ⟨h', tk', nw, e, F', N', off', hS, hy'⟩ := hq
      exact ⟨h', tk', nw, e, F', N', off', hS, ih (i + 1) _ _ (by omega) hy'⟩
  exact key n 0 [] news (by omega) h0
end
theorem int_at {cvs : List Value} {cn : List Nat} (h : IntsAre cvs (cn.map fun n => ((n : Nat) : Int))) {i : Nat} {v : Value} (hv : cvs[i]? = some v) : ∃ c t, cn[i]? = some c ∧ v = .int ((c : Nat) : Int) t := by
  have key : ∀ (cvs : List Value) (ks : List Int), IntsAre cvs ks → ∀ (i : Nat) (v : Value), cvs[i]? = some v → ∃ k t, ks[i]? = some k ∧ v = .int k t := by
    intro cvs ks h
    induction h with
    | nil => intro i v hv; simp at hv
    | cons n u _ ih =>
      intro i v hv
      match i with
      | 0 => exact ⟨n, u, rfl, by simpa using hv.symm⟩
      | i + 1 => simpa using ih i v (by simpa using hv)
  obtain ⟨k, t, hk, rfl⟩ := key _ _ h i v hv
  rw [List.getElem?_map] at hk
  cases hc : cn[i]? with
  | none => rw [hc] at hk; cases hk
  | some c => rw [hc] at hk; exact ⟨c, t, rfl, by rw [← Option.some.inj hk]⟩
theorem ints_len : ∀ {cvs : List Value} {ks : List Int}, IntsAre cvs ks → cvs.length = ks.length
  | _, _, .nil => rfl
  | _, _, .cons _ _ h => by simp [ints_len h]
/-- the ledger between two turns -/
def JF (w : World) (x dx : Nat) (t1 t2 t3 t4 t5 t6 u2 u3 : Tok) (rest : List (Addr × Obj)) (cn : List Nat) (i : Nat) (ys : List Value) (news : List (Addr × Obj)) : Prop :=
  ∃ (tb : Nat) (u4 : Tok) (pv : Value) (items : List Value) (k : Nat), news = decT w x dx tb t1 t2 t3 t4 t5 t6 u2 u3 u4 .none 0 8 pv items k ++ rest ∧ x ≠ tb ∧ dx ≠ tb ∧ (∀ p ∈ rest, p.1 ≠ tb) ∧ DSt (cn.take i) items pv ∧ BytesAre ys (DS.of (cn.take i)).pieces
local macro_rules | `(tactic| walk_at "exec Assign cons ListComp") => `(tactic| (k_here; k_dflt (refine LCg.Assign_ListComp_U (F₀ := by k_asm) (by rfl) (by with_unfolding_all rfl) (by with_unfolding_all rfl) (by decide) (by rfl) (by decide) (by rfl) (by rfl) (by rfl) ?_); k_dflt lcg_toSrc))
local macro_rules | `(tactic| walk_at "CompSrc") => `(tactic| (refine m_halt ?_))
local macro_rules | `(tactic| walk_at "CompEnd") => `(tactic| (refine m_halt ?_))
local macro_rules | `(tactic| walk_at "FinA") => `(tactic| (refine m_halt ?_))
local macro_rules | `(tactic| walk_at "call ref") => `(tactic| (k_here; (with_reducible show wpAny _ _ (call (Value.ref 103) [Value.ref _, Value.int (Nat.cast _) _]) _ _ _); k_dflt (refine feed (by k_asm) (by k_asm) (by k_asm) (by k_asm) (by assumption) (by k_asm) rfl (by first | omega | k_room) (by first | omega | k_units) (by assumption) (by assumption) (by assumption) (by assumption) ?_); (try dsimp only); intro h' t' tk' tb' a' b' i' k' hG' hA' hB' hC' F' N'))
theorem off_seven {cD cK cS c dx tb I C D : Nat} {oD oK oS o oI oC oL : Obj} {l : List (Addr × Obj)} (q1 : cS < cK) (q2 : cK < cD) (q3 : cD < c) (q4 : c < dx) (a3 : ∀ p ∈ [(cD, oD), (cK, oK), (cS, oS), (c, o)], p.1 ≠ tb)
    (hx : ∃ o, (dx, o) ∈ l) (ht : ∃ o, (tb, o) ∈ l) (off : LCg.Off3 I C D l) : OwnOff [(cD, oD), (cK, oK), (cS, oS), (c, o), (I, oI), (C, oC), (D, oL)] [dx, tb] := fun p hp b hb => by
  obtain ⟨ox, hx⟩ := hx
  obtain ⟨ot, ht⟩ := ht
  have ax := off.mem _ hx
  have at' := off.mem _ ht
  simp only [List.mem_cons, List.not_mem_nil, or_false] at hp hb
  rcases hp with rfl | rfl | rfl | rfl | rfl | rfl | rfl <;> rcases hb with rfl | rfl
  · apply Nat.ne_of_lt; dsimp only; omega
  · exact a3 _ (.head _)
  · apply Nat.ne_of_lt; dsimp only; omega
  · exact a3 _ (.tail _ (.head _))
  · apply Nat.ne_of_lt; dsimp only; omega
  · exact a3 _ (.tail _ (.tail _ (.head _)))
  · apply Nat.ne_of_lt; dsimp only; omega
  · exact a3 _ (.tail _ (.tail _ (.tail _ (.head _))))
  · exact ax.1.symm
  · exact at'.1.symm
  · exact ax.2.1.symm
  · exact at'.2.1.symm
  · exact ax.2.2.symm
  · exact at'.2.2.symm
theorem turn_end {w : World} {x dx tb tb' cD cK cS c I C D : Nat} {t1 t2 t3 t4 t5 t6 u2 u3 u4 u4' u5 t : Tok} {pv : Value} {items items' : List Value} {k k' : Nat} {h₀ h' : Heap} {L : Addr} {m : Str → Option Value} {s₁ : Shared} {tk' : Nat} {oD oK oS oI oC : Obj}
    {ys cvs : List Value} {nn i cc : Nat} {cn : List Nat} {y : Array UInt8}
    (F : Fr h₀ L h' m) (N : News h₀ L h' (decT w x dx tb' t1 t2 t3 t4 t5 t6 u2 u3 u4' .none 0 8 (.bytes y u5) items' k' ++ [(cD, oD), (cK, oK), (cS, oS), (c, W.listOf cvs.toArray nn), (I, oI), (C, oC), (D, LCg.lst ys)]))
    (e1 : x ≠ tb') (e2 : dx ≠ tb') (o : OwnOff [(cD, oD), (cK, oK), (cS, oS), (c, W.listOf cvs.toArray nn), (I, oI), (C, oC), (D, LCg.lst ys)] [dx, tb'])
    (off : LCg.Off3 I C D (decT w x dx tb t1 t2 t3 t4 t5 t6 u2 u3 u4 .none 0 8 pv items k ++ [(cD, oD), (cK, oK), (cS, oS), (c, W.listOf cvs.toArray nn)]))
    (htk : cn.take (i + 1) = cn.take i ++ [cc]) (hS : DSt (cn.take i ++ [cc]) items' (.bytes y u5)) (hP : (DS.of (cn.take i ++ [cc])).pieces = (DS.of (cn.take i)).pieces ++ [y]) (hB : BytesAre ys (DS.of (cn.take i)).pieces) :
    LCg.CompEnd h₀ L m s₁ I oI C oC D (LCg.lst ys) (LCg.SrcAt h₀ c cvs.toArray) (fun y news' => JEnd (JF w x dx t1 t2 t3 t4 t5 t6 u2 u3 [(cD, oD), (cK, oK), (cS, oS), (c, W.listOf cvs.toArray nn)] cn) i ys y news') (.bytes y t) { s₁ with heap := h', toks := tk' } := by
  have om := off.mem
  have ob : ∀ q ∈ [(cD, oD), (cK, oK), (cS, oS), (c, W.listOf cvs.toArray nn)], q.1 ≠ tb' := fun q hq => o q (List.mem_append_left [(I, oI), (C, oC), (D, LCg.lst ys)] hq) tb' (.tail _ (.head _))
  refine LCg.CompEnd.intro F N (decT w x dx tb' t1 t2 t3 t4 t5 t6 u2 u3 u4' .none 0 8 (.bytes y u5) items' k' ++ [(cD, oD), (cK, oK), (cS, oS), (c, W.listOf cvs.toArray nn)]) (fun q hq => ?_) (LCg.Off3.of fun q hq => ?_) (.inr ⟨W.listOf cvs.toArray nn, ?_, rfl, _, rfl⟩) ⟨tb', u4', _, items', k', rfl, e1, e2, ob, by rw [htk]; exact hS, by rw [htk, hP]; exact hB.snoc⟩
  · simp only [decT, List.cons_append, List.nil_append, List.mem_cons, List.not_mem_nil, or_false] at hq ⊢
    rcases hq with h | h | h | h | h | h | h | h | h | h <;> simp [h]
  · rcases List.mem_append.mp hq with hq | hq
    · simp only [decT, List.mem_cons, List.not_mem_nil, or_false] at hq
      rcases hq with rfl | rfl | rfl
      · exact om _ (List.mem_append_left _ (.head _))
      · have z := om _ (List.mem_append_left _ (List.mem_cons_of_mem _ List.mem_cons_self))
        exact z
      · exact ⟨fun e => o (I, oI) (by simp) tb' (by simp) e.symm, fun e => o (C, oC) (by simp) tb' (by simp) e.symm, fun e => o (D, LCg.lst ys) (by simp) tb' (by simp) e.symm⟩
    · exact om q (List.mem_append_right _ hq)
  · exact List.mem_append_right _ (.tail _ (.tail _ (.tail _ (.head _))))
set_option maxHeartbeats 8000000 in
theorem seg8 : ∀ (w : World) (p : Program) (loose : List Str) (mean : ExcName → Option Value) (mg mb : Str → Option Value) (dp un : Nat) (gd : Option (List Code)) (outer : List Env) (A₀ : Around) (base h₀ : Heap) (L : Addr) (ccd : Value) (cD cK cS : Nat) (m : Str → Option Value) (s : Shared) (Q : Flow → Shared → Prop) (E : Value → Shared → Prop) (oD oK oS : Obj) (sc : Nat) (vs : List Value) (ns : List Int) (c nn : Nat) (cvs : List Value) (cn : List Nat) (mk : Bool) (x dx tb : Nat) (t t1 t2 t3 t4 t5 t6 u2 u3 u4 : Tok) (items : List Value) (nn' : Nat)
   (B : Below A₀ base outer h₀) (F : Fr h₀ L s.heap m) (X : (Mine.hd.heap_39 w.params).In h₀) (N : News h₀ L s.heap ((cD, oD) :: (cK, oK) :: (cS, oS) :: (decT w x dx tb t1 t2 t3 t4 t5 t6 u2 u3 u4 .none 0 8 (.bytes #[] t) items nn' ++ [(c, W.listOf cvs.toArray nn)]))) (T : Top p loose mean mg mb h₀) (hd : dp < 350) (hu : un < 500) (eS : oS.data = .cell (some (.ref sc))) (hl : base.IsList sc vs.toArray) (hi : IntsAre vs ns) (hn : ns.length ≤ 63) (q1 : cS < cK) (q2 : cK < cD) (q3 : cD < c) (eD : oD.data = .cell (some (.ref x))) (l1 : dx < x) (l3 : c < dx) (n1 : x ≠ tb) (n2 : dx ≠ tb)
   (n3 : ∀ p ∈ [(cD, oD), (cK, oK), (cS, oS), (c, W.listOf cvs.toArray nn)], p.1 ≠ tb) (hs : St0 items (.bytes #[] t)) (hc : CodesTo cn mk) (hcn : cn.length ≤ 10) (hic : IntsAre cvs (cn.map fun n => ((n : Nat) : Int))) (hm2 : m (Str.ofString "codes") = some (.ref c))
   (ret : ∀ h' tk (D : Nat) ys, BytesAre ys (DS.of cn).pieces → D ≠ cD → D ≠ cK → D ≠ cS → D ≠ c → Fr h₀ L h' (fun y => if y = Str.ofString "pieces" then some (.ref D) else m y) →
     News h₀ L h' [(cD, oD), (cK, oK), (cS, oS), (c, W.listOf cvs.toArray nn), (D, LCg.lst ys)] → Q .next { s with heap := h', toks := tk }),
   SegP (wpAny (model PG w) (ktrTop dp un gd lawN (lawSc w) L 700 ccd (lawCl cD cK cS) outer) (exec (lawAt w 8) (envX lawN (lawSc w) L 700 ccd (lawCl cD cK cS))) Q E s) := by
  delta PG
  k_fill
  intro w p loose mean mg mb dp un gd outer A₀ base h₀ L ccd cD cK cS m s Q E oD oK oS sc vs ns c nn cvs cn mk x dx tb t t1 t2 t3 t4 t5 t6 u2 u3 u4 items nn' B F X N T hd hu eS hl hi hn q1 q2 q3 eD l1 l3 n1 n2 n3 hs hc hcn hic hm2 ret
  obtain ⟨st, hst⟩ : ∃ st, lawAt w 8 = st := ⟨_, rfl⟩
  obtain ⟨sp, hsc⟩ : ∃ sp, lawSc w = sp := ⟨_, rfl⟩
  rw [hst, hsc]
  conv at hst => lhs; whnf
  conv at hsc => lhs; whnf
  subst hst hsc
  refine ⟨?_⟩
  have N1 : News h₀ L s.heap (decT w x dx tb t1 t2 t3 t4 t5 t6 u2 u3 u4 .none 0 8 (.bytes #[] t) items nn' ++ [(cD, oD), (cK, oK), (cS, oS), (c, W.listOf cvs.toArray nn)]) := fun q hq => N q (by
    simp only [decT, List.cons_append, List.nil_append, List.mem_cons, List.not_mem_nil, or_false] at hq ⊢
    rcases hq with h | h | h | h | h | h | h <;> simp [h])
  clear N
  have F := fr_as F hm2
  k_steps
  unfold MHalt
  refine LCg.CompSrc.ledger (by rfl) (by k_asm) (by k_asm) (by k_mem) (by rw [List.size_toArray, ints_len hic, List.length_map, sizeLine_eq]; omega) ?_
  intro g8
  refine st_rest (JF w x dx t1 t2 t3 t4 t5 t6 u2 u3 [(cD, oD), (cK, oK), (cS, oS), (c, W.listOf cvs.toArray nn)] cn) (fun i v I oI C oC D m₂ ys news h tk E' hi8 hJ hv hC hx F' N' off' ne' => ?_) (fun ys news hJ => ?_) ?_
  · obtain ⟨tb', u4', pv', items', k', rfl, a1, a2, a3, a4, a5⟩ := hJ
    have hv' : cvs[i]? = some v := by simpa using hv
    obtain ⟨cc, tc, hcc, rfl⟩ := int_at hic hv'
    have hil : i < cn.length := (List.getElem?_eq_some_iff.mp hcc).1
    have htk : cn.take (i + 1) = cn.take i ++ [cc] := by rw [List.take_add_one, hcc]; rfl
    have hlt : (cn.take i).length = i := by rw [List.length_take]; omega
    obtain ⟨mk', hc'⟩ := codes_take hc i (by omega)
    have hva := codes_valid hc i cc hcc
    obtain ⟨G, y, hF, hP, hG⟩ := dst_step (c := cc) hc' (by omega) (by rw [hlt]; exact hva) a4
    have N2 : News h₀ L h (decT w x dx tb' t1 t2 t3 t4 t5 t6 u2 u3 u4' .none 0 8 pv' items' k' ++ [(cD, oD), (cK, oK), (cS, oS), (c, W.listOf cvs.toArray nn), (I, oI), (C, oC), (D, LCg.lst ys)]) := fun q hq => N' q (by
      simp only [decT, List.cons_append, List.nil_append, List.mem_cons, List.not_mem_nil, or_false] at hq ⊢
      rcases hq with h | h | h | h | h | h | h | h | h | h <;> simp [h])
    clear N'
    have hoff := off_seven (oD := oD) (oK := oK) (oS := oS) (o := W.listOf cvs.toArray nn) (oI := oI) (oC := oC) (oL := LCg.lst ys) q1 q2 q3 l3 a3 ⟨_, List.mem_append_left _ (.tail _ (.head _))⟩ ⟨_, List.mem_append_left _ (.tail _ (.tail _ (.head _)))⟩ off'
    k_steps
    unfold MHalt
    rename Fr h₀ L _ _ => F9
    rename News h₀ L _ _ => N9
    rename G _ => g9
    rename OwnOff _ _ => o9
    exact turn_end F9 N9 (by assumption) (by assumption) o9 off' htk (hG _ _ g9) hP a5
  · obtain ⟨tb', u4', pv', items', k', rfl, a1, a2, a3, a4, a5⟩ := hJ
    unfold LCg.FinA
    intro D h' tk F' N' o1
    have hsz : cvs.toArray.size = cn.length := by rw [List.size_toArray, ints_len hic, List.length_map]
    rw [hsz, List.take_length] at a5
    have ne : ∀ p ∈ [(cD, oD), (cK, oK), (cS, oS), (c, W.listOf cvs.toArray nn)], p.1 ≠ D := fun p hp => off1_mem o1 p (List.mem_append_right _ hp)
    refine ret _ _ D ys a5 (Ne.symm (ne _ (.head _))) (Ne.symm (ne _ (.tail _ (.head _)))) (Ne.symm (ne _ (.tail _ (.tail _ (.head _))))) (Ne.symm (ne _ (.tail _ (.tail _ (.tail _ (.head _)))))) (fr_sw F' hm2) (fun q hq => N' q ?_)
    simp only [decT, List.cons_append, List.nil_append, List.mem_cons, List.not_mem_nil, or_false] at hq ⊢
    rcases hq with h | h | h | h | h <;> simp [h]
  · exact ⟨tb, u4, _, items, nn', rfl, n1, n2, n3, .inl ⟨rfl, hs⟩, .nil⟩
end Mine
end
namespace Mine
theorem lull49 : True ∧ True := by
  w_top off
  k_with_none
  first
    | (walk1; fail)
    | exact ⟨trivial, trivial⟩
end Mine
section
open PySem PySem.W PySem.Spec PySem.Calls PyProof.Rows
set_option maxRecDepth 100000
namespace Mine
local macro_rules | `(tactic| k_room) => `(tactic| (simp only [depth_mark, depth_under_make, depth_under_kw, depth_in1, depth_deeper, depth_caller, ktrTop, recursionLimit]; omega))
local macro_rules | `(tactic| k_units) => `(tactic| (simp only [units_in1, units_deeper, Around.mark_units, units_caller, ktrTop, cLine_is]; omega))
local macro_rules | `(tactic| ktr_enter) => `(tactic| (refine' code_def ?k1 ?k2 ?k3 ?k4 ?k5 ?kA ?kF ?kK ?k6 ?k7 ?k8 ?k9 ?kB ?_ ?c2 ?c3 ?c4 ?c5; (case kA => exact rfl); (case kF => exact rfl); (case kK => assumption); (case k1 => k_asm); (case k2 => k_asm); (case k3 => k_asm); (case k4 => k_asm); (case k5 => k_asm); (case k6 => k_is); (case k7 => k_is); (case k8 => k_room); (case k9 => first | exact BindsTo.of_eq rfl | exact binds_K (by k_in) rfl (by k_is) rfl rfl rfl); (case c5 => decide); (case kB => exact locs rfl); (case c2 => exact rfl); (case c3 => exact rfl); (case c4 => exact rfl); k_whole; intro g' L' h' FG' F' N' B' X' T'; (try dsimp only); (try k_fold)))
local macro_rules | `(tactic| walk_at "compareOp Eq int int") => `(tactic| first | (refine eq_no (by first | omega | (simp only [List.length_append, List.length_cons, List.length_nil, ne_eq]; omega)) ?_) | (refine eq_yes (by omega) ?_))
local macro_rules | `(tactic| walk_at "compareOp Lt int int") => `(tactic| first | (refine lt_yes (by omega) ?_) | (refine lt_no (by omega) ?_))
local macro_rules | `(tactic| walk_at "exec For Name Name cons nil") => `(tactic| (k_here; (rename Fr _ _ _ _ => lF'); (with_unfolding_all refine' For_invVF lF' ?k1 ?k2 ?_; (case k1 => exact rfl); (case k2 => exact rfl); k_whole)))
local macro_rules | `(tactic| walk_at "pyIter ref") => `(tactic| (k_here; refine m_halt ?_))
local macro_rules | `(tactic| walk_at "InvPostG") => `(tactic| (refine m_halt ?_))
local macro_rules | `(tactic| walk_at "InvEndG") => `(tactic| (refine m_halt ?_))
set_option maxHeartbeats 8000000 in
theorem seg9 : ∀ (w : World) (p : Program) (loose : List Str) (mean : ExcName → Option Value) (mg mb : Str → Option Value) (dp un : Nat) (gd : Option (List Code)) (outer : List Env) (A₀ : Around) (base h₀ : Heap) (L : Addr) (ccd : Value) (cD cK cS : Nat) (m : Str → Option Value) (s : Shared) (Q : Flow → Shared → Prop) (E : Value → Shared → Prop) (oD oK oS : Obj) (sc : Nat) (vs : List Value) (ns : List Int) (more : List (Addr × Obj))
   (B : Below A₀ base outer h₀) (F : Fr h₀ L s.heap m) (X : (Mine.hd.heap_39 w.params).In h₀) (N : News h₀ L s.heap ((cD, oD) :: (cK, oK) :: (cS, oS) :: more)) (T : Top p loose mean mg mb h₀) (hd : dp < 350) (hu : un < 500) (eS : oS.data = .cell (some (.ref sc))) (hl : base.IsList sc vs.toArray) (hi : IntsAre vs ns) (hn : ns.length ≤ 63) (q1 : cS < cK) (q2 : cK < cD)
   (ret : ∀ h' tk t, Fr h₀ L h' (fun y => if y = Str.ofString "longest" then some (.int 0 t) else m y) → News h₀ L h' ((cD, oD) :: (cK, oK) :: (cS, oS) :: more) → Q .next { s with heap := h', toks := tk }),
   SegP (wpAny (model PG w) (ktrTop dp un gd lawN (lawSc w) L 700 ccd (lawCl cD cK cS) outer) (exec (lawAt w 9) (envX lawN (lawSc w) L 700 ccd (lawCl cD cK cS))) Q E s) := by
  delta PG
  k_fill
  intro w p loose mean mg mb dp un gd outer A₀ base h₀ L ccd cD cK cS m s Q E oD oK oS sc vs ns more  B F X N T hd hu eS hl hi hn q1 q2 ret
  obtain ⟨st, hst⟩ : ∃ st, lawAt w 9 = st := ⟨_, rfl⟩
  obtain ⟨sp, hsc⟩ : ∃ sp, lawSc w = sp := ⟨_, rfl⟩
  rw [hst, hsc]
  conv at hst => lhs; whnf
  conv at hsc => lhs; whnf
  subst hst hsc
  refine ⟨?_⟩
  k_steps
  exact ret _ _ _ (by assumption) (by assumption)
theorem jl_max {X : Option Value} {a b : Int} {t : Tok} (h : X = some (.int a t)) (e : a = b) : ∃ t, X = some (.int b t) := ⟨t, by rw [h, e]⟩
def JL (ps : List (Array UInt8)) (news : List (Addr × Obj)) (m : Str → Option Value) (i : Nat) (m₁ : Str → Option Value) (nx : List (Addr × Obj)) : Prop :=
  nx = news ∧ (∃ t, m₁ (Str.ofString "longest") = some (.int ((mx (ps.take i) : Nat) : Int) t)) ∧ ∀ z, z ≠ Str.ofString "longest" → z ≠ Str.ofString "piece" → m₁ z = m z
set_option maxHeartbeats 8000000 in
theorem seg10 : ∀ (w : World) (p : Program) (loose : List Str) (mean : ExcName → Option Value) (mg mb : Str → Option Value) (dp un : Nat) (gd : Option (List Code)) (outer : List Env) (A₀ : Around) (base h₀ : Heap) (L : Addr) (ccd : Value) (cD cK cS : Nat) (m : Str → Option Value) (s : Shared) (Q : Flow → Shared → Prop) (E : Value → Shared → Prop) (oD oK oS : Obj) (sc : Nat) (vs : List Value) (ns : List Int) (c nn : Nat) (cvs : List Value) (D : Nat) (ys : List Value) (ps : List (Array UInt8)) (tl : Tok)
   (B : Below A₀ base outer h₀) (F : Fr h₀ L s.heap m) (X : (Mine.hd.heap_39 w.params).In h₀) (N : News h₀ L s.heap ((cD, oD) :: (cK, oK) :: (cS, oS) :: [(c, W.listOf cvs.toArray nn), (D, LCg.lst ys)])) (T : Top p loose mean mg mb h₀) (hd : dp < 350) (hu : un < 500) (eS : oS.data = .cell (some (.ref sc))) (hl : base.IsList sc vs.toArray) (hi : IntsAre vs ns) (hn : ns.length ≤ 63) (q1 : cS < cK) (q2 : cK < cD) (hb : BytesAre ys ps) (hz : ∀ p ∈ ps, p.size ≤ 1000) (hk : ∀ (i : Nat) (p : Array UInt8), ps[i]? = some p → 1 ≤ p.size ∧ p.size ≤ mx (ps.take i) + 1) (hmz : ∀ i, mx (ps.take i) ≤ 1000)
   (hm1 : m (Str.ofString "longest") = some (.int 0 tl)) (hm2 : m (Str.ofString "pieces") = some (.ref D))
   (ret : ∀ h' tk m', (∀ z, z ≠ Str.ofString "longest" → z ≠ Str.ofString "piece" → m' z = m z) → Fr h₀ L h' m' → News h₀ L h' [(cD, oD), (cK, oK), (cS, oS), (c, W.listOf cvs.toArray nn), (D, LCg.lst ys)] → Q .next { s with heap := h', toks := tk }),
   SegP (wpAny (model PG w) (ktrTop dp un gd lawN (lawSc w) L 700 ccd (lawCl cD cK cS) outer) (exec (lawAt w 10) (envX lawN (lawSc w) L 700 ccd (lawCl cD cK cS))) Q E s) := by
  delta PG
  k_fill
  intro w p loose mean mg mb dp un gd outer A₀ base h₀ L ccd cD cK cS m s Q E oD oK oS sc vs ns c nn cvs D ys ps tl B F X N T hd hu eS hl hi hn q1 q2 hb hz hk hmz hm1 hm2 ret
  obtain ⟨st, hst⟩ : ∃ st, lawAt w 10 = st := ⟨_, rfl⟩
  obtain ⟨sp, hsc⟩ : ∃ sp, lawSc w = sp := ⟨_, rfl⟩
  rw [hst, hsc]
  conv at hst => lhs; whnf
  conv at hsc => lhs; whnf
  subst hst hsc
  refine ⟨?_⟩
  have F := fr_as F hm2
  refine wpAny_mono (E := fun _ _ => False) ?_ (fun _ _ h => h) (fun _ _ h => h.elim)
  k_steps
  unfold MHalt
  rename Fr h₀ L _ _ => F9
  rename News h₀ L _ _ => N9
  refine kdl_iter (JL ps [(cD, oD), (cK, oK), (cS, oS), (c, W.listOf cvs.toArray nn), (D, LCg.lst ys)] m) rfl (show (D, W.listOf ys.toArray ys.length) ∈ _ from by simp [LCg.lst, W.listOf]) F9 N9 ?_ (fun i v m₁ news₁ h tk own hv hoff hmem hJ F' N' => ?_) (fun m₁ news₁ h tk hJ F' N' => ?_)
  · exact ⟨rfl, ⟨tl, by show (if Str.ofString "longest" = Str.ofString "pieces" then some (Value.ref D) else m (Str.ofString "longest")) = _; rw [if_un hm2]; exact hm1⟩, fun z _ _ => if_un hm2⟩
  · obtain ⟨rfl, ⟨tl', hl'⟩, hz'⟩ := hJ
    obtain ⟨p, tp, hp, rfl⟩ := hb.2 i v hv
    obtain ⟨h1, h2⟩ := hk i p hp
    have hm := hmz i
    have hM : mx (ps.take (i + 1)) = max (mx (ps.take i)) p.size := by rw [List.take_add_one, hp]; exact mx_snoc _ _
    have F2 : Fr h₀ L h (fun y => if y = Str.ofString "piece" then some (.bytes p tp) else if y = Str.ofString "longest" then some (.int ((mx (ps.take i) : Nat) : Int) tl') else m₁ y) := fr_eqm F' fun y => by rw [if_un hl']
    clear F' F9 F
    k_steps
    unfold MHalt
    rename Fr h₀ L _ _ => F9
    rename News h₀ L _ _ => N9
    refine InvEndG.intro F9 N9 ⟨hmem, rfl, jl_max rfl ?_, fun z z1 z2 => ?_⟩ hoff (fun q hq => ?_) (fun q hq => ?_)
    · rw [hM]
      split <;> omega
    · show (if z = Str.ofString "longest" then _ else if z = Str.ofString "piece" then _ else if z = Str.ofString "longest" then _ else m₁ z) = m z
      rw [if_neg z1, if_neg z2, if_neg z1]
      exact hz' z z1 z2
    · exact List.mem_append_left _ hq
    · exact List.mem_append_right _ hq
  · obtain ⟨rfl, _, hz'⟩ := hJ
    exact ret _ _ m₁ hz' F' N'
end Mine
end
namespace Mine
theorem lull50 : True ∧ True := by
  w_top off
  k_with_none
  first
    | (walk1; fail)
    | exact ⟨trivial, trivial⟩
end Mine
section
open PySem PySem.Calls
open PySem.Builtin.Bytes
namespace Mine
section
variable {prog : Program} {w : World} {A : Around} {E : Value → Shared → Prop} {s : Shared}
theorem join_list {I : Addr} {acc : Array Value} {c' : Nat} {O : List (Array UInt8)} {t0 : Tok} {Q : Fin → Shared → Prop}
    (hl : s.heap.get? I = some { cls := .type "list", dict := none, data := .seq acc c', slots := #[] }) (hacc : ItemsOf (PJ O) acc O.length) (hsz : (cat O).size ≤ 2000)
    (hQ : ∀ t tk, Q (.done (.ret (.bytes (cat O) t))) { s with toks := tk }) :
    wpAny (model prog w) A (Builtin.«bytes.join» ⟨[.bytes #[] t0, .ref I], []⟩) Q E s := by
  show wpAny _ _ (joinM .bytes _) _ _ _
  unfold joinM joinItems
  have hT : s.TypeIs (.ref I) "list" := ⟨_, hl, rfl⟩
  have e1 : (Value.type "list" == Value.type "list") = true := by decide
  refine wpAny_bind (wpAny_of_eq (a := (Value.bytes #[] t0, Value.ref I)) (by rfl) ?_)
  dsimp only
  refine wpAny_bind ?_
  show wpAny _ _ (typeOf (.ref I) >>= _) _ _ _
  refine wpAny_bind (wpAny_typeOf hT ?_)
  rw [e1]
  refine wpAny_pure ?_
  refine wpAny_bind (wpAny_seqItems hl rfl ?_)
  dsimp only
  rw [if_pos (show (Kind.bytes == Kind.bytes) = true from rfl)]
  have hlen : acc.size = O.length := hacc.1
  rcases acc with ⟨_ | ⟨x, _ | ⟨x2, r⟩⟩⟩
  case cons.nil =>
    show wpAny _ _ (typeOf x >>= _) _ _ _
    obtain ⟨y, t, hy, rfl⟩ := hacc.2 0 x rfl
    have ho : O = [y] := by
      match O, hlen, hy with
      | [z], _, hy => simpa using hy
    have e9 : (Value.type "bytes" == Value.type "bytes") = true := by decide
    refine wpAny_bind (wpAny_of_eq (a := Value.type "bytes") (by rfl) ?_)
    rw [if_pos e9]
    refine wpAny_bind (wpAny_rule (wpAny_pure ?_))
    have e := hQ t s.toks
    rw [ho, show cat [y] = y from by simp [cat]] at e
    exact e
  all_goals
    show wpAny _ _ (forIn _ _ _ >>= _) _ _ _
    first
      | generalize hA : (Array.mk (x :: x2 :: r)) = acc at *
      | generalize hA : (Array.mk ([] : List Value)) = acc at *
    refine wpAny_bind ?_
    rw [Std.Legacy.Range.forIn_eq_forIn_range']
    refine wpAny_forIn_list _ (fun rest b s₁ => s₁ = s ∧ ∃ i, rest = List.range' i (acc.size - i) ∧ i ≤ acc.size ∧ b.1.toList = O.take i ∧ ∀ p ∈ b.2, p.2 = none ∧ ∃ y t, p.1 = Value.bytes y t) _ ?_ ?_ _ _ ?_
    · rintro i rest b s₁ ⟨rfl, j, hr, hj, hb1, hb2⟩
      have hjl : j < acc.size := by
        rcases Nat.lt_or_ge j acc.size with h | h
        · exact h
        · rw [Nat.sub_eq_zero_of_le h] at hr; simp at hr
      rw [show acc.size - j = (acc.size - (j + 1)) + 1 from by omega, List.range'_succ] at hr
      injection hr with h1 h2
      subst h1 h2
      obtain ⟨v, hv⟩ : ∃ v, acc[i]? = some v := ⟨acc[i], by simp [hjl]⟩
      obtain ⟨y, t, hy, rfl⟩ := hacc.2 i v hv
      have hget : acc.getD i .none = Value.bytes y t := by rw [Array.getD_eq_getD_getElem?, hv]; rfl
      refine wpAny_bind (wpAny_seqItems hl rfl ?_)
      dsimp only
      have hcond : (Kind.bytes == Kind.bytearray || b.snd.any fun x => x.fst.onHeap) = false := by
        rw [Bool.or_eq_false_iff]
        refine ⟨rfl, ?_⟩
        rw [List.any_eq_false]
        intro q hq
        obtain ⟨_, y', t', e⟩ := hb2 q hq
        rw [e]
        exact Bool.false_ne_true
      rw [hget, if_neg (by rw [hcond]; decide)]
      refine wpAny_bind (wpAny_holding (take_bytes ?_))
      dsimp only
      refine wpAny_bind (wpAny_seqItems hl rfl ?_)
      dsimp only
      rw [if_neg (by simp)]
      refine wpAny_pure ⟨rfl, i + 1, rfl, hjl, ?_, ?_⟩
      · rw [Array.toList_push, hb1, List.take_add_one, hy]
        rfl
      · intro q hq
        rcases List.mem_append.mp hq with h | h
        · exact hb2 q h
        · rw [List.mem_singleton.mp h]
          exact ⟨rfl, y, t, rfl⟩
    · rintro ⟨parts, taken⟩ s₁ ⟨rfl, j, hr, hj, hb1, hb2⟩
      have hj2 : j = acc.size := by
        rcases Nat.lt_or_ge j acc.size with h | h
        · rw [show acc.size - j = (acc.size - (j + 1)) + 1 from by omega, List.range'_succ] at hr
          cases hr
        · omega
      subst hj2
      dsimp only at hb1 hb2 ⊢
      rw [hlen, List.take_length] at hb1
      have hp : parts = O.toArray := by rw [← hb1]
      subst hp
      refine wpAny_bind (wpAny_of_eq (a := #[]) (by rfl) ?_)
      have hj1 : joined #[] O = cat O := joined_nil O
      have htl := joined_short O hsz
      rw [if_neg (by rw [htl]; decide)]
      show wpAny _ _ (Kind.bytes.new (joined #[] O) >>= _) _ _ _
      rw [hj1]
      refine wpAny_bind (wpAny_mkBytes ?_ (by unfold sizeLine; omega))
      refine wpAny_bind (wpAny_holding (wpAny_point ?_))
      refine wpAny_bind (letgo_none _ (fun q hq => (hb2 q hq).1) ?_)
      exact wpAny_pure (hQ _ _)
    · exact ⟨rfl, 0, by simp [Std.Legacy.Range.size], Nat.zero_le _, by simp, by simp⟩
end
end Mine
end
namespace Mine
theorem lull51 : True ∧ True := by
  w_top off
  k_with_none
  first
    | (walk1; fail)
    | exact ⟨trivial, trivial⟩
end Mine
section
open PySem PySem.W PySem.Spec PySem.Calls PyProof.Rows
set_option maxRecDepth 100000
namespace Mine
local macro_rules | `(tactic| k_room) => `(tactic| (simp only [depth_mark, depth_under_make, depth_under_kw, depth_in1, depth_deeper, depth_caller, ktrTop, recursionLimit]; omega))
local macro_rules | `(tactic| k_units) => `(tactic| (simp only [units_in1, units_deeper, Around.mark_units, units_caller, ktrTop, cLine_is]; omega))
local macro_rules | `(tactic| ktr_enter) => `(tactic| (refine' code_def ?k1 ?k2 ?k3 ?k4 ?k5 ?kA ?kF ?kK ?k6 ?k7 ?k8 ?k9 ?kB ?_ ?c2 ?c3 ?c4 ?c5; (case kA => exact rfl); (case kF => exact rfl); (case kK => assumption); (case k1 => k_asm); (case k2 => k_asm); (case k3 => k_asm); (case k4 => k_asm); (case k5 => k_asm); (case k6 => k_is); (case k7 => k_is); (case k8 => k_room); (case k9 => first | exact BindsTo.of_eq rfl | exact binds_K (by k_in) rfl (by k_is) rfl rfl rfl); (case c5 => decide); (case kB => exact locs rfl); (case c2 => exact rfl); (case c3 => exact rfl); (case c4 => exact rfl); k_whole; intro g' L' h' FG' F' N' B' X' T'; (try dsimp only); (try k_fold)))
local macro_rules | `(tactic| walk_at "compareOp Eq int int") => `(tactic| first | (refine eq_no (by first | omega | (simp only [List.length_append, List.length_cons, List.length_nil, ne_eq]; omega)) ?_) | (refine eq_yes (by omega) ?_))
local macro_rules | `(tactic| walk_at "compareOp Lt int int") => `(tactic| first | (refine lt_yes (by omega) ?_) | (refine lt_no (by omega) ?_))
local macro_rules | `(tactic| walk_at "getMethod bytes") => `(tactic| (k_here; (with_reducible refine meth_join ?_)))
set_option maxHeartbeats 8000000 in
theorem seg11 : ∀ (w : World) (p : Program) (loose : List Str) (mean : ExcName → Option Value) (mg mb : Str → Option Value) (dp un : Nat) (gd : Option (List Code)) (outer : List Env) (A₀ : Around) (base h₀ : Heap) (L : Addr) (ccd : Value) (cD cK cS : Nat) (m : Str → Option Value) (s : Shared) (Q : Flow → Shared → Prop) (E : Value → Shared → Prop) (oD oK oS : Obj) (sc : Nat) (vs : List Value) (ns : List Int) (c nn : Nat) (cvs : List Value) (D : Nat) (ys : List Value) (ps : List (Array UInt8))
   (B : Below A₀ base outer h₀) (F : Fr h₀ L s.heap m) (X : (Mine.hd.heap_39 w.params).In h₀) (N : News h₀ L s.heap ((cD, oD) :: (cK, oK) :: (cS, oS) :: [(c, W.listOf cvs.toArray nn), (D, LCg.lst ys)])) (T : Top p loose mean mg mb h₀) (hd : dp < 350) (hu : un < 500) (eS : oS.data = .cell (some (.ref sc))) (hl : base.IsList sc vs.toArray) (hi : IntsAre vs ns) (hn : ns.length ≤ 63) (q1 : cS < cK) (q2 : cK < cD) (hb : BytesAre ys ps) (hz : (cat ps).size ≤ 2000) (hm2 : m (Str.ofString "pieces") = some (.ref D))
   (ret : ∀ h' tk t, Fr h₀ L h' (fun y => if y = Str.ofString "told" then some (.bytes (cat ps) t) else m y) → News h₀ L h' [(cD, oD), (cK, oK), (cS, oS), (c, W.listOf cvs.toArray nn)] → Q .next { s with heap := h', toks := tk }),
   SegP (wpAny (model PG w) (ktrTop dp un gd lawN (lawSc w) L 700 ccd (lawCl cD cK cS) outer) (exec (lawAt w 11) (envX lawN (lawSc w) L 700 ccd (lawCl cD cK cS))) Q E s) := by
  delta PG
  k_fill
  intro w p loose mean mg mb dp un gd outer A₀ base h₀ L ccd cD cK cS m s Q E oD oK oS sc vs ns c nn cvs D ys ps B F X N T hd hu eS hl hi hn q1 q2 hb hz hm2 ret
  obtain ⟨st, hst⟩ : ∃ st, lawAt w 11 = st := ⟨_, rfl⟩
  obtain ⟨sp, hsc⟩ : ∃ sp, lawSc w = sp := ⟨_, rfl⟩
  rw [hst, hsc]
  conv at hst => lhs; whnf
  conv at hsc => lhs; whnf
  subst hst hsc
  refine ⟨?_⟩
  have F := fr_as F hm2
  k_steps
  refine call_join ?_
  rename News h₀ L _ _ => N9
  rename Fr h₀ L _ _ => F9
  refine join_list (O := ps) (acc := ys.toArray) (c' := ys.length) (N9 (D, LCg.lst ys) (by simp)).1 ⟨by rw [List.size_toArray]; exact hb.1, fun j v hv => hb.2 j v (by simpa using hv)⟩ hz fun t tk => ?_
  dsimp only
  k_steps
  rename Fr h₀ L _ _ => F8
  rename News h₀ L _ _ => N8
  refine ret _ _ _ (fr_sw F8 hm2) (fun q hq => N8 q ?_)
  simp only [List.mem_cons, List.not_mem_nil, or_false] at hq ⊢
  rcases hq with h | h | h | h <;> simp [h]
theorem size_is (cn : List Nat) : (((cn.map fun n => ((n : Nat) : Int)).length : Int) * (((cn.map fun n => ((n : Nat) : Int)).length : Int) + 1)).fdiv 2 = ((cn.length * (cn.length + 1) / 2 : Nat) : Int) := by
  rw [List.length_map, Int.fdiv_eq_ediv_of_nonneg _ (by decide)]
  rw [Int.natCast_ediv, Int.natCast_mul]
  rfl
set_option maxHeartbeats 8000000 in
theorem seg12 : ∀ (w : World) (p : Program) (loose : List Str) (mean : ExcName → Option Value) (mg mb : Str → Option Value) (dp un : Nat) (gd : Option (List Code)) (outer : List Env) (A₀ : Around) (base h₀ : Heap) (L : Addr) (ccd : Value) (cD cK cS : Nat) (m : Str → Option Value) (s : Shared) (Q : Flow → Shared → Prop) (E : Value → Shared → Prop) (oD oK oS : Obj) (sc : Nat) (vs : List Value) (ns : List Int) (c nn : Nat) (cvs : List Value) (cn : List Nat)
   (B : Below A₀ base outer h₀) (F : Fr h₀ L s.heap m) (X : (Mine.hd.heap_39 w.params).In h₀) (N : News h₀ L s.heap ((cD, oD) :: (cK, oK) :: (cS, oS) :: [(c, W.listOf cvs.toArray nn)])) (T : Top p loose mean mg mb h₀) (hd : dp < 350) (hu : un < 500) (eS : oS.data = .cell (some (.ref sc))) (hl : base.IsList sc vs.toArray) (hi : IntsAre vs ns) (hn : ns.length ≤ 63) (q1 : cS < cK) (q2 : cK < cD) (hcn : cn.length ≤ 10) (hic : IntsAre cvs (cn.map fun n => ((n : Nat) : Int))) (hm2 : m (Str.ofString "codes") = some (.ref c))
   (ret : ∀ h' tk t (z : Int), z = ((cn.length * (cn.length + 1) / 2 : Nat) : Int) → Fr h₀ L h' (fun y => if y = Str.ofString "size" then some (.int z t) else m y) → News h₀ L h' [(cD, oD), (cK, oK), (cS, oS), (c, W.listOf cvs.toArray nn)] → Q .next { s with heap := h', toks := tk }),
   SegP (wpAny (model PG w) (ktrTop dp un gd lawN (lawSc w) L 700 ccd (lawCl cD cK cS) outer) (exec (lawAt w 12) (envX lawN (lawSc w) L 700 ccd (lawCl cD cK cS))) Q E s) := by
  delta PG
  k_fill
  intro w p loose mean mg mb dp un gd outer A₀ base h₀ L ccd cD cK cS m s Q E oD oK oS sc vs ns c nn cvs cn B F X N T hd hu eS hl hi hn q1 q2 hcn hic hm2 ret
  obtain ⟨st, hst⟩ : ∃ st, lawAt w 12 = st := ⟨_, rfl⟩
  obtain ⟨sp, hsc⟩ : ∃ sp, lawSc w = sp := ⟨_, rfl⟩
  rw [hst, hsc]
  conv at hst => lhs; whnf
  conv at hsc => lhs; whnf
  subst hst hsc
  refine ⟨?_⟩
  have F := fr_as F hm2
  k_steps
  rename Fr h₀ L _ _ => F8
  rename News h₀ L _ _ => N8
  exact ret _ _ _ _ (size_is cn) (fr_sw F8 hm2) N8
local macro_rules | `(tactic| walk_at "truthy bytes") => `(tactic| (k_here; first | (refine truthy_void ?_) | (refine truthy_full (by assumption) (by omega) ?_)))
local macro_rules | `(tactic| walk_at "subscriptTail") => `(tactic| (k_here; (with_reducible show wpAny _ _ (subscriptTail _ (Expr.Slice _ _ none _) (Value.bytes _ _) (Value.ref _)) _ _ _); (with_reducible rename Fr _ _ _ _ => F'); (with_reducible rename News _ _ _ _ => N'); k_dflt (first | (refine bslice_to (s := ⟨_, _, _, _, _⟩) F' N' (by omega) ?_) | (refine bslice_two (s := ⟨_, _, _, _, _⟩) F' N' (by omega) ?_)); intro h' t' k' F' N'))
local macro_rules | `(tactic| walk_at "binaryOp Add bytes bytes") => `(tactic| (k_here; refine KBy.add_bytes (by first | omega | (simp only [Array.size_extract]; omega)) ?_; intro t' k'))
theorem no_false {a b : Nat} {mk : Bool} (he : a = b ↔ mk = true) (h : (((a : Int) == (b : Int)) != mk) = true) : False := by
  by_cases e : a = b
  · have := he.mp e
    subst this
    simp [e] at h
  · have hm : mk = false := by
      cases mk with
      | false => rfl
      | true => exact absurd (he.mpr rfl) e
    subst hm
    simp at h
    exact e (by omega)
theorem ext_list {T : Array UInt8} {y : UInt8} {n : Nat} (h : T = Array.replicate n y) (hn : 1 ≤ n) : (T.extract 0 1).toList = [y] := by
  rw [h, rep_one hn]; rfl
theorem flat_rep (y : UInt8) : ∀ n : Nat, (List.replicate n [y]).flatten = List.replicate n y := by
  intro n
  induction n with
  | zero => rfl
  | succ n ih => rw [List.replicate_succ, List.flatten_cons, ih, List.replicate_succ]; rfl
theorem rep_flat {T : Array UInt8} {y : UInt8} {n : Nat} (h : T = Array.replicate n y) (hn : 1 ≤ n) : (List.replicate ((n : Int).toNat) (T.extract 0 1).toList).flatten.toArray = T := by
  rw [ext_list h hn, Int.toNat_natCast, flat_rep, h]
  simp
set_option maxHeartbeats 8000000 in
theorem seg13 : ∀ (w : World) (p : Program) (loose : List Str) (mean : ExcName → Option Value) (mg mb : Str → Option Value) (dp un : Nat) (gd : Option (List Code)) (outer : List Env) (A₀ : Around) (base h₀ : Heap) (L : Addr) (ccd : Value) (cD cK cS : Nat) (m : Str → Option Value) (s : Shared) (Q : Flow → Shared → Prop) (E : Value → Shared → Prop) (oD oK oS : Obj) (sc : Nat) (vs : List Value) (ns : List Int) (c nn : Nat) (cvs : List Value) (n : Nat) (mk : Bool) (zt Tt mt : Tok) (T9 : Array UInt8)
   (B : Below A₀ base outer h₀) (F : Fr h₀ L s.heap m) (X : (Mine.hd.heap_39 w.params).In h₀) (N : News h₀ L s.heap ((cD, oD) :: (cK, oK) :: (cS, oS) :: [(c, W.listOf cvs.toArray nn)])) (T : Top p loose mean mg mb h₀) (hd : dp < 350) (hu : un < 500) (eS : oS.data = .cell (some (.ref sc))) (hl : base.IsList sc vs.toArray) (hi : IntsAre vs ns) (hn : ns.length ≤ 63) (q1 : cS < cK) (q2 : cK < cD) (hn1 : 1 ≤ n) (hn2 : n ≤ 55) (ht : T9.size ≤ n) (he : T9.size = n ↔ mk = true) (hr : mk = true → ∃ y, T9 = Array.replicate T9.size y)
   (hm1 : m (Str.ofString "size") = some (.int (n : Int) zt)) (hm2 : m (Str.ofString "told") = some (.bytes T9 Tt)) (hm3 : m (Str.ofString "making") = some (.bool mk))
   (ret : ∀ h' tk, Fr h₀ L h' m → News h₀ L h' [(cD, oD), (cK, oK), (cS, oS), (c, W.listOf cvs.toArray nn)] → Q .next { s with heap := h', toks := tk }),
   SegP (wpAny (model PG w) (ktrTop dp un gd lawN (lawSc w) L 700 ccd (lawCl cD cK cS) outer) (exec (lawAt w 13) (envX lawN (lawSc w) L 700 ccd (lawCl cD cK cS))) Q E s) := by
  delta PG
  k_fill
  intro w p loose mean mg mb dp un gd outer A₀ base h₀ L ccd cD cK cS m s Q E oD oK oS sc vs ns c nn cvs n mk zt Tt mt T9 B F X N T hd hu eS hl hi hn q1 q2 hn1 hn2 ht he hr hm1 hm2 hm3 ret
  obtain ⟨st, hst⟩ : ∃ st, lawAt w 13 = st := ⟨_, rfl⟩
  obtain ⟨sp, hsc⟩ : ∃ sp, lawSc w = sp := ⟨_, rfl⟩
  rw [hst, hsc]
  conv at hst => lhs; whnf
  conv at hsc => lhs; whnf
  subst hst hsc
  refine ⟨?_⟩
  have F := fr_as3 F hm1 hm2 hm3
  have hT : T9.size ≤ 55 := by omega
  k_steps
  · exact (no_false he (by assumption)).elim
  · rename mk = true => hmk
    have hsz := he.mpr hmk
    obtain ⟨y, hy⟩ := hr hmk
    rw [hsz] at hy
    have el := ext_list hy hn1
    have eb : T9.extract 0 1 = (T9.extract 0 1).toList.toArray := rfl
    have ef := rep_flat hy hn1
    rw [eb]
    refine bytes_mul_any (b := (T9.extract 0 1).toList) (by rw [el]; simp) (by omega) (by omega) (by rw [el]; simp) fun t9 k9 => ?_
    rw [ef]
    k_steps
    · rename (_ != _) = true => hne
      exact absurd hne (by simp)
    · rename Fr h₀ L _ _ => F8
      exact ret _ _ (fr_un3 F8 hm1 hm2 hm3) (by assumption)
  · rename Fr h₀ L _ _ => F8
    exact ret _ _ (fr_un3 F8 hm1 hm2 hm3) (by assumption)
end Mine
end
namespace Mine
theorem lull52 : True ∧ True := by
  w_top off
  k_with_none
  first
    | (walk1; fail)
    | exact ⟨trivial, trivial⟩
end Mine
section
open PySem PySem.W PySem.Spec PySem.Calls PyProof.Rows
set_option maxRecDepth 100000
namespace Mine
local macro_rules | `(tactic| k_room) => `(tactic| (simp only [depth_mark, depth_under_make, depth_under_kw, depth_in1, depth_deeper, depth_caller, ktrTop, recursionLimit]; omega))
local macro_rules | `(tactic| k_units) => `(tactic| (simp only [units_in1, units_deeper, Around.mark_units, units_caller, ktrTop, cLine_is]; omega))
local macro_rules | `(tactic| ktr_enter) => `(tactic| (refine' code_def ?k1 ?k2 ?k3 ?k4 ?k5 ?kA ?kF ?kK ?k6 ?k7 ?k8 ?k9 ?kB ?_ ?c2 ?c3 ?c4 ?c5; (case kA => exact rfl); (case kF => exact rfl); (case kK => assumption); (case k1 => k_asm); (case k2 => k_asm); (case k3 => k_asm); (case k4 => k_asm); (case k5 => k_asm); (case k6 => k_is); (case k7 => k_is); (case k8 => k_room); (case k9 => first | exact BindsTo.of_eq rfl | exact binds_K (by k_in) rfl (by k_is) rfl rfl rfl); (case c5 => decide); (case kB => exact locs rfl); (case c2 => exact rfl); (case c3 => exact rfl); (case c4 => exact rfl); k_whole; intro g' L' h' FG' F' N' B' X' T'; (try dsimp only); (try k_fold)))
local macro_rules | `(tactic| walk_at "compareOp Eq int int") => `(tactic| first | (refine eq_no (by first | omega | (simp only [List.length_append, List.length_cons, List.length_nil, ne_eq]; omega)) ?_) | (refine eq_yes (by omega) ?_))
local macro_rules | `(tactic| walk_at "compareOp Lt int int") => `(tactic| first | (refine lt_yes (by omega) ?_) | (refine lt_no (by omega) ?_))
local macro_rules | `(tactic| walk_at "call ref") => `(tactic| (k_here; (show wpAny _ _ (call (Value.ref 695) [Value.bytes _ _]) _ _ _); k_dflt (refine greedy _ _ _ _ _ _ _ _ _ _ _ _ _ _ _ _ _ _ _ _ _ _ _ _ _ _ (by k_asm) (by k_asm) (by k_asm) (by k_asm) (by k_asm) rfl (by first | omega | k_room) (by first | omega | k_units) (by omega) ?_); intro c' ks' codes' vs' nn' h' tk' gr' hi' F' N' lt'; obtain ⟨cn', O', hc', hs', hl', hO', hcat', hrun'⟩ := greedy_ok (by omega) gr'; subst hc'))
local macro_rules | `(tactic| walk_at "call ref") => `(tactic| (k_here; (show wpAny _ _ (call (Value.ref 688) [Value.ref _]) _ _ _); k_dflt (refine laid _ _ _ _ _ _ _ _ _ _ _ _ _ _ _ _ _ _ _ _ _ _ _ _ _ _ _ _ (by k_asm) (by k_asm) (by k_asm) (by k_asm) (by first | assumption | exact off_lt (by assumption)) (by k_asm) rfl (by first | omega | k_room) (by first | omega | k_units) (by assumption) (cn_len (by assumption) (by omega)) (cn_rng (by assumption)) ?_); intro b' t' h' tk' hb' hsz' F' N'; rw [List.length_map] at hb' hsz'))
theorem off_c {cD cK cS c : Nat} {oD oK oS : Obj} (q1 : cS < cK) (q2 : cK < cD) (q3 : cD < c) : OwnOff [(cD, oD), (cK, oK), (cS, oS)] [c] := fun p hp b hb => by
  rw [List.mem_singleton.mp hb]
  simp only [List.mem_cons, List.not_mem_nil, or_false] at hp
  rcases hp with rfl | rfl | rfl <;> (apply Nat.ne_of_lt; dsimp only; omega)
set_option maxHeartbeats 8000000 in
theorem seg14 : ∀ (w : World) (p : Program) (loose : List Str) (mean : ExcName → Option Value) (mg mb : Str → Option Value) (dp un : Nat) (gd : Option (List Code)) (A₀ : Around) (base h₀ : Heap) (L : Addr) (ccd : Value) (cD cK cS : Nat) (m : Str → Option Value) (s : Shared) (Q : Flow → Shared → Prop) (E : Value → Shared → Prop) (oD oK oS : Obj) (sc : Nat) (vs : List Value) (ns : List Int) (more : List (Addr × Obj)) (c nn : Nat) (cvs : List Value) (cn : List Nat) (T9 : Array UInt8) (Tt : Tok) (O9 : List (Array UInt8))
   (B : Below A₀ base [] h₀) (F : Fr h₀ L s.heap m) (X : (Mine.hd.heap_39 w.params).In h₀) (N : News h₀ L s.heap ((cD, oD) :: (cK, oK) :: (cS, oS) :: more)) (T : Top p loose mean mg mb h₀) (hd : dp < 350) (hu : un < 500) (eS : oS.data = .cell (some (.ref sc))) (hl : base.IsList sc vs.toArray) (hi : IntsAre vs ns) (hn : ns.length ≤ 63) (q1 : cS < cK) (q2 : cK < cD) (XB : (Mine.hd.heap_39 w.params).In base) (TB : Top p loose mean mg mb base) (hmore : more = [(c, W.listOf cvs.toArray nn)]) (q3 : cD < c) (hcn : cn.length ≤ 10) (hic : IntsAre cvs (cn.map fun n => ((n : Nat) : Int))) (hsm : ∀ c ∈ cn, c < 512) (hrun : Run [] .none (allOf cn) O9) (hO : O9.length ≤ 50) (hcat : cat O9 = T9) (hT : T9.size ≤ 55)
   (hm1 : m (Str.ofString "codes") = some (.ref c)) (hm2 : m (Str.ofString "told") = some (.bytes T9 Tt))
   (ret : ∀ h' tk m', Fr h₀ L h' m' → Q (.ret (.bool true)) { s with heap := h', toks := tk, gens := (s.gens.push .finished).push .finished }),
   SegP (wpD (model PG w) (ktrTop dp un gd lawN (lawSc w) L 700 ccd (lawCl cD cK cS) []) (exec (lawAt w 14) (envX lawN (lawSc w) L 700 ccd (lawCl cD cK cS))) Q E s) := by
  delta PG
  k_fill
  intro w p loose mean mg mb dp un gd A₀ base h₀ L ccd cD cK cS m s Q E oD oK oS sc vs ns more c nn cvs cn T9 Tt O9 B F X N T hd hu eS hl hi hn q1 q2 XB TB hmore q3 hcn hic hsm hrun hO hcat hT hm1 hm2 ret
  obtain ⟨st, hst⟩ : ∃ st, lawAt w 14 = st := ⟨_, rfl⟩
  obtain ⟨sp, hsc⟩ : ∃ sp, lawSc w = sp := ⟨_, rfl⟩
  rw [hst, hsc]
  conv at hst => lhs; whnf
  conv at hsc => lhs; whnf
  subst hst hsc
  refine ⟨?_⟩
  subst hmore
  have N1 : News h₀ L s.heap ((c, W.listOf cvs.toArray nn) :: [(cD, oD), (cK, oK), (cS, oS)]) := fun q hq => N q (by
    simp only [List.mem_cons, List.not_mem_nil, or_false] at hq ⊢
    rcases hq with h | h | h | h <;> simp [h])
  clear N
  have hoff := off_c (oD := oD) (oK := oK) (oS := oS) q1 q2 q3
  have F := fr_as2 F hm1 hm2
  refine D_Return (D_And2 (D_Compare1 (D_Call_Name ?_)))
  k_steps
  refine' D_callWith' X ?hkk ?_ ?he
  case hkk => k_is
  case he => rfl
  k_steps
  rename Fr h₀ L _ _ => F9
  rename News h₀ L _ _ => N9
  refine lzw _ _ _ _ _ _ _ _ _ _ _ _ _ _ _ _ _ _ _ _ _ _ _ _ _ _ B F9 X XB TB (fun b hb => nomatch hb) (by rw [(by assumption : Array.size _ = lenOf _)]; exact len_small (by omega)) T rfl (by omega) (by omega) (dec_laid (by assumption) (by assumption) (by assumption) (by assumption)) (by omega) (by rw [(by assumption : cat _ = T9)]; omega) ?_
  intro h8 tk8 t8 TT
  have F8 := turned_fr TT F9
  have N8 := turned_news TT N9
  clear F9 N9 TT
  rw [hcat]
  k_steps
  · refine D_Compare1 (D_Call_Name ?_)
    k_steps
    refine' D_callWith' X ?hkk ?_ ?he
    case hkk => k_is
    case he => rfl
    k_steps
    rename Fr h₀ L _ _ => F9
    rename News h₀ L _ _ => N9
    rename cat _ = T9 => hcat2
    refine lzw _ _ _ _ _ _ _ _ _ _ _ _ _ _ _ _ _ _ _ _ _ _ _ _ _ _ B F9 X XB TB (fun b hb => nomatch hb) (by rw [(by assumption : Array.size _ = lenOf _)]; exact len_small (by omega)) T rfl (by omega) (by omega) (dec_laid (by assumption) (by assumption) (by assumption) (by assumption)) (by omega) (by rw [(by assumption : cat _ = T9)]; omega) ?_
    intro h8 tk8 t8 TT
    have F7 := turned_fr TT F9
    have N7 := turned_news TT N9
    clear F9 N9 TT
    rw [hcat2]
    k_steps
    have eT : (T9.toList == T9.toList) = true := by simp
    rw [eT]
    exact ret _ _ _ F7
  · rename (_ == _) = false => hne
    exact absurd hne (by simp)
end Mine
end
namespace Mine
theorem lull53 : True ∧ True := by
  w_top off
  k_with_none
  first
    | (walk1; fail)
    | exact ⟨trivial, trivial⟩
end Mine
section
open PySem PySem.W PySem.Spec PySem.Calls PyProof.Rows
set_option maxRecDepth 100000
namespace Mine
theorem mx_take {ps : List (Array UInt8)} (hk : ∀ (i : Nat) (p : Array UInt8), ps[i]? = some p → 1 ≤ p.size ∧ p.size ≤ mx (ps.take i) + 1) : ∀ i, i ≤ ps.length → mx (ps.take i) ≤ i := by
  intro i
  induction i with
  | zero => intro _; simp [mx]
  | succ i ih =>
    intro hi
    have hp : ps[i]? = some ps[i] := by simp
    have h1 := ih (by omega)
    have h2 := hk i _ hp
    have e : mx (ps.take (i + 1)) = max (mx (ps.take i)) ps[i].size := by rw [List.take_add_one, hp]; exact mx_snoc _ _
    rw [e]
    omega
theorem mx_all {ps : List (Array UInt8)} (hk : ∀ (i : Nat) (p : Array UInt8), ps[i]? = some p → 1 ≤ p.size ∧ p.size ≤ mx (ps.take i) + 1) (hl : ps.length ≤ 10) (i : Nat) : mx (ps.take i) ≤ 1000 := by
  rcases Nat.lt_or_ge i ps.length with h | h
  · have := mx_take hk i (by omega)
    omega
  · have e : ps.take i = ps.take ps.length := by rw [List.take_of_length_le h, List.take_length]
    rw [e]
    have := mx_take hk ps.length (Nat.le_refl _)
    omega
theorem sz_all {ps : List (Array UInt8)} (hk : ∀ (i : Nat) (p : Array UInt8), ps[i]? = some p → 1 ≤ p.size ∧ p.size ≤ mx (ps.take i) + 1) (hl : ps.length ≤ 10) : ∀ p ∈ ps, p.size ≤ 1000 := fun p hp => by
  obtain ⟨i, hi, e⟩ := List.getElem_of_mem hp
  have h1 := hk i p (by rw [List.getElem?_eq_getElem hi, e])
  have h2 := mx_take hk i (by omega)
  omega
theorem tri : ∀ n : Fin 11, 1 ≤ n.val → 2 * (n.val * (n.val + 1) / 2) = n.val * (n.val + 1) ∧ 1 ≤ n.val * (n.val + 1) / 2 ∧ n.val * (n.val + 1) / 2 ≤ 55 := by decide
set_option maxHeartbeats 8000000 in
theorem lawAll : ∀ (w : World) (p : Program) (loose : List Str) (mean : ExcName → Option Value) (mg mb : Str → Option Value) (dp un : Nat) (gd : Option (List Code)) (A₀ : Around) (base h₀ : Heap) (L : Addr) (ccd : Value) (cD cK cS : Nat) (m : Str → Option Value) (s : Shared) (R : Flow → Shared → Prop) (E : Value → Shared → Prop) (oD oK oS : Obj) (sc : Nat) (vs : List Value) (ns : List Int) (vD vK : Option Value)
   (B : Below A₀ base [] h₀) (F : Fr h₀ L s.heap m) (X : (Mine.hd.heap_39 w.params).In h₀) (N : News h₀ L s.heap [(cD, oD), (cK, oK), (cS, oS)]) (T : Top p loose mean mg mb h₀) (hd : dp < 350) (hu : un < 500) (eS : oS.data = .cell (some (.ref sc))) (hl : base.IsList sc vs.toArray) (hi : IntsAre vs ns) (hn : ns.length ≤ 63) (q1 : cS < cK) (q2 : cK < cD)
   (XB : (Mine.hd.heap_39 w.params).In base) (TB : Top p loose mean mg mb base) (eD : oD.data = .cell vD) (eK : oK.data = .cell vK)
   (ret : ∀ h' tk m', Fr h₀ L h' m' → R (.ret (.bool true)) { s with heap := h', toks := tk, gens := ((s.gens.push .finished).push .finished).push .finished }),
   SegP (wpD (model PG w) (ktrTop dp un gd lawN (lawSc w) L 700 ccd (lawCl cD cK cS) []) (execs (lawBody w) (envX lawN (lawSc w) L 700 ccd (lawCl cD cK cS))) R E s) := by
  intro w p loose mean mg mb dp un gd A₀ base h₀ L ccd cD cK cS m s R E oD oK oS sc vs ns vD vK B F X N T hd hu eS hl hi hn q1 q2 XB TB eD eK ret
  rw [lawBody_is]
  have off0 : OwnOff ([] : List (Addr × Obj)) [cD, cK, cS] := fun p hp => nomatch hp
  refine chainA (seg0 _ _ _ _ _ _ _ _ _ _ _ _ _ _ _ _ _ _ _ _ _ _ _ _ _ _ _ _ _ B F X N T hd hu eS hl hi hn q1 q2 fun h1 tk1 t1 F1 N1 => ?_)
  refine chainA (seg1 _ _ _ _ _ _ _ _ _ _ _ _ _ _ _ _ _ _ _ _ _ _ _ _ _ _ _ _ _ _ _ _ B F1 X N1 T hd hu eS hl hi hn q1 q2 eK off0 (if_pos rfl) fun h2 tk2 t2 kd oK2 k1 k4 eK2 F2 N2 => ?_)
  refine chainA (seg2 _ _ _ _ _ _ _ _ _ _ _ _ _ _ _ _ _ _ _ _ _ _ _ _ _ _ _ _ _ _ _ _ _ B F2 X N2 T hd hu eS hl hi hn q1 q2 eK2 k1 k4 off0 (if_pos rfl) fun h3 tk3 t3 b hb3 F3 N3 => ?_)
  refine chainD (seg3 _ _ _ _ _ _ _ _ _ _ _ _ _ _ _ _ _ _ _ _ _ _ _ _ _ _ _ _ _ _ B F3 X N3 T hd hu eS hl hi hn q1 q2 XB TB (if_pos rfl) hb3 fun h4 tk4 F4 N4 => ?_)
  refine chainA (seg4 _ _ _ _ _ _ _ _ _ _ _ _ _ _ _ _ _ _ _ _ _ _ _ _ _ _ _ _ B F4 X N4 T hd hu eS hl hi hn q1 q2 fun h5 tk5 c q3 F5 N5 => ?_)
  refine chainA (seg5 _ _ _ _ _ _ _ _ _ _ _ _ _ _ _ _ _ _ _ _ _ _ _ _ _ _ _ _ c B F5 X N5 T hd hu eS hl hi hn q1 q2 q3 (if_pos rfl) ((if_neg (by decide)).trans (if_pos rfl)) fun h6 tk6 cvs nn cn mk m6 hc hc1 hc10 hic hmk hco F6 N6 => ?_)
  refine chainA (seg6 _ _ _ _ _ _ _ _ _ _ _ _ _ _ _ _ _ _ _ _ _ _ _ _ _ _ _ _ c nn cvs vD B F6 X N6 T hd hu eS hl hi hn q1 q2 q3 eD fun h7 tk7 x dx tb u1 u2 u3 u4 u5 u6 v1 v2 v3 oD7 eD7 l1 l2 l3 F7 N7 => ?_)
  have N7' : News h₀ L h7 ((cD, oD7) :: (cK, oK2) :: (cS, oS) :: (decT w x dx tb u1 u2 u3 u4 u5 u6 v1 v2 v3 .none 0 8 .none [] 0 ++ [(c, W.listOf cvs.toArray nn)])) := fun q hq => N7 q (by
    simp only [decT, List.cons_append, List.nil_append, List.mem_cons, List.not_mem_nil, or_false] at hq ⊢
    rcases hq with h | h | h | h | h | h | h <;> simp [h])
  refine chainA (seg7 _ _ _ _ _ _ _ _ _ _ _ _ _ _ _ _ _ _ _ _ _ _ _ _ _ _ _ _ c nn cvs x dx tb u1 u2 u3 u4 u5 u6 v1 v2 v3 B F7 X N7' T hd hu eS hl hi hn q1 q2 q3 eD7 l1 l2 l3 fun h8 tk8 tb8 t8 v38 items nn8 hs8 n1 n2 n3 F8 N8 => ?_)
  have N8' : News h₀ L h8 ((cD, oD7) :: (cK, oK2) :: (cS, oS) :: (decT w x dx tb8 u1 u2 u3 u4 u5 u6 v1 v2 v38 .none 0 8 (.bytes #[] t8) items nn8 ++ [(c, W.listOf cvs.toArray nn)])) := fun q hq => N8 q (by
    simp only [decT, List.cons_append, List.nil_append, List.mem_cons, List.not_mem_nil, or_false] at hq ⊢
    rcases hq with h | h | h | h | h | h | h <;> simp [h])
  refine chainA (seg8 _ _ _ _ _ _ _ _ _ _ _ _ _ _ _ _ _ _ _ _ _ _ _ _ _ _ _ _ c nn cvs cn mk x dx tb8 t8 u1 u2 u3 u4 u5 u6 v1 v2 v38 items nn8 B F8 X N8' T hd hu eS hl hi hn q1 q2 q3 eD7 l1 l3 n1 n2 n3 hs8 hc hc10 hic hco fun h9 tk9 D ys hb d1 d2 d3 d4 F9 N9 => ?_)
  have fx := fx_of hc hc1 (by omega)
  have hpl := fx.pl
  obtain ⟨tr1, tr2, tr3⟩ := tri ⟨cn.length, by omega⟩ hc1
  dsimp only at tr1 tr2 tr3
  have htot := fx.tot
  have heqv := fx.eqv
  have hsz : (cat (DS.of cn).pieces).size ≤ cn.length * (cn.length + 1) / 2 := by
    generalize cn.length * (cn.length + 1) = X at tr1 htot ⊢
    omega
  have heq : (cat (DS.of cn).pieces).size = cn.length * (cn.length + 1) / 2 ↔ mk = true := by
    rw [← heqv]
    generalize cn.length * (cn.length + 1) = X at tr1 ⊢
    omega
  refine chainA (seg9 _ _ _ _ _ _ _ _ _ _ _ _ _ _ _ _ _ _ _ _ _ _ _ _ _ _ _ _ _ B F9 X N9 T hd hu eS hl hi hn q1 q2 fun h10 tk10 t10 F10 N10 => ?_)
  refine chainA (seg10 _ _ _ _ _ _ _ _ _ _ _ _ _ _ _ _ _ _ _ _ _ _ _ _ _ _ _ _ c nn cvs D ys (DS.of cn).pieces t10 B F10 X N10 T hd hu eS hl hi hn q1 q2 hb (sz_all fx.chk (by omega)) fx.chk (mx_all fx.chk (by omega)) (if_pos rfl) ((if_neg (by decide)).trans (if_pos rfl)) fun h11 tk11 m11 e11 F11 N11 => ?_)
  have z1 : m11 (Str.ofString "pieces") = some (.ref D) := (e11 _ (by decide) (by decide)).trans ((if_neg (by decide)).trans (if_pos rfl))
  have z2 : m11 (Str.ofString "codes") = some (.ref c) := (e11 _ (by decide) (by decide)).trans ((if_neg (by decide)).trans ((if_neg (by decide)).trans hco))
  have z3 : m11 (Str.ofString "making") = some (.bool mk) := (e11 _ (by decide) (by decide)).trans ((if_neg (by decide)).trans ((if_neg (by decide)).trans hmk))
  refine chainA (seg11 _ _ _ _ _ _ _ _ _ _ _ _ _ _ _ _ _ _ _ _ _ _ _ _ _ _ _ _ c nn cvs D ys (DS.of cn).pieces B F11 X N11 T hd hu eS hl hi hn q1 q2 hb (by omega) z1 fun h12 tk12 t12 F12 N12 => ?_)
  refine chainA (seg12 _ _ _ _ _ _ _ _ _ _ _ _ _ _ _ _ _ _ _ _ _ _ _ _ _ _ _ _ c nn cvs cn B F12 X N12 T hd hu eS hl hi hn q1 q2 hc10 hic ((if_neg (by decide)).trans z2) fun h13 tk13 t13 zz hzz F13 N13 => ?_)
  subst hzz
  refine chainA (seg13 _ _ _ _ _ _ _ _ _ _ _ _ _ _ _ _ _ _ _ _ _ _ _ _ _ _ _ _ c nn cvs (cn.length * (cn.length + 1) / 2) mk t13 t12 0 (cat (DS.of cn).pieces) B F13 X N13 T hd hu eS hl hi hn q1 q2 tr2 tr3 hsz heq (fun h => by obtain ⟨y, _, hy⟩ := fx.rep h; exact ⟨y, hy⟩) (if_pos rfl) ((if_neg (by decide)).trans (if_pos rfl)) ((if_neg (by decide)).trans ((if_neg (by decide)).trans z3)) fun h14 tk14 F14 N14 => ?_)
  refine chainD (seg14 _ _ _ _ _ _ _ _ _ _ _ _ _ _ _ _ _ _ _ _ _ _ _ _ _ _ _ _ c nn cvs cn (cat (DS.of cn).pieces) t12 (#[] :: ((DS.of cn).pieces ++ [#[]])) B F14 X N14 T hd hu eS hl hi hn q1 q2 XB TB rfl q3 hc10 hic (codes_small hc (by omega)) (codes_run hc hc1 (by omega)) (by simp; omega) (cat_run _) (by omega) ((if_neg (by decide)).trans ((if_neg (by decide)).trans z2)) ((if_neg (by decide)).trans (if_pos rfl)) fun h15 tk15 m15 F15 => ?_)
  exact ret _ _ _ F15
end Mine
end
namespace Mine
theorem lull54 : True ∧ True := by
  w_top off
  k_with_none
  first
    | (walk1; fail)
    | exact ⟨trivial, trivial⟩
end Mine
section
open PySem PySem.W PySem.Spec PySem.Calls PyProof.Rows
set_option maxRecDepth 100000
namespace Mine
theorem and_use {P Q R : Prop} (h : P ∧ Q) (k : P → Q → R) : (P ∧ Q) ∧ R := ⟨h, k h.1 h.2⟩
theorem bare_push {g : Array GenState} (h : AllBare g) : AllBare (g.push .finished) := fun y hy => by
  rcases Array.mem_push.mp hy with hy | rfl
  · exact h y hy
  · rfl
set_option maxHeartbeats 8000000 in
theorem holds_ : PySem.Challenge.rw_bq0011_01.Holds := by
  refine hd ?_
  k_fill
  intro w s₀ s₁ mg mb G Y fa o pm cd doc dV kV ho hd hcd hD hmg hg args vals as hpre hlay hrd hwl hlo
  have KX := kIn_of Y
  have X := (Ground.X G).1
  have V := (Ground.X G).2
  try w_nolog (first | (have GL := glob_more (Ground.glob G (by first | k_qdec | decide +kernel) (by first | k_qdec | decide +kernel)) V) | (have GL := glob_more (Ground.glob G (by decide +kernel) (by decide +kernel)) V))
  refine Ground.open G ?_
  intro T B D TE TW
  try (refine guard_noD D (by decide +kernel) ?_; clear D)
  obtain ⟨_, _, M⟩ := bmod_of_top T
  have TA := at_of_top T
  try (obtain ⟨_, _, he, B0⟩ := based_of_top T rfl hmg ho hd; have he' : cd = _ := he; subst he'; clear he)
  wrow_args hpre hlay hrd hwl hlo
  refine and_use ⟨raisesW_false (by wrow_none_raised), postW_of (by wrow_shape) (by wtm_val) (by str_meet; first | done | w_fin)⟩ fun hNR hPO => ?_
  refine wpD_call ?_
  have K0 := below_caller (Top.heap T)
  have he := Dflts.none hD rfl; subst he; have he := Dflts.noKw hD; subst he
  refine D_call_cells (by decide) ho (fd_plain hd) (Top.nolimit T) hcd rfl (kinds_of (by kinds_ok)) (by decide) fun h₁ tk₁ cells F N0 X0 => ?_
  cells_open X0
  clear hd TA
  dsimp only
  have hfa : fa = 700 := by
    have e1 : mg (Str.ofString "law") = some (.ref 700) := mg_of KX T.g (by k_is)
    have e2 : mg (Str.ofString "law") = some (.ref fa) := hmg
    rw [e1] at e2
    injection e2 with e2
    injection e2 with e2
    exact e2.symm
  subst hfa
  rename (s₁.heap.IsList _ _) => hL9
  rename IntsAre _ _ => hI9
  rename ¬ _ < _ => hn9
  rename_i dD dK dS
  refine SegP.out (?_ : SegP _)
  refine lawAll w _ _ _ mg mb 302 7 (some []) callerA s₁.heap s₁.heap s₁.heap.objs.size _ (s₁.heap.objs.size + 1 + 1 + 1) (s₁.heap.objs.size + 1 + 1) (s₁.heap.objs.size + 1) _ _ _ _ _ _ _ _ _ _ _ _ K0 F KX N0 T (by decide) (by decide) dS hL9 hI9 (by omega) (by omega) (by omega) KX T dD dK ?_
  intro h9 tk9 m9 F9
  refine ⟨.inl ⟨_, _, [], rfl, hNR, ReadsW.bool true, hPO, fun _ => ⟨List.nodup_nil, fun _ hm => (nomatch hm)⟩⟩, .of_keep F9.keep, rfl, ?_⟩
  have hgg : s₁.gens = #[] := hg
  exact bare_push (bare_push (bare_push (hgg ▸ AllBare.empty)))
end Mine
end
set_option maxRecDepth 100000 in
set_option maxHeartbeats 8000000 in
theorem PySem.Challenge.cw_bq0011_01_holds : PySem.Challenge.rw_bq0011_01.Holds := by
  exact Mine.holds_
