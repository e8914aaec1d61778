import PyProof.Rows.All
import Wide.All
import OpenK.AllK
import Wide.FinOn
import Lean
import PySem.Challenge.RW_xp0015_02
set_option Elab.async false
set_option maxRecDepth 100000
set_option compiler.extract_closed false
-- PC
section
namespace Mine
open _root_.PySem _root_.PySem.Calls PyProof.Rows _root_.PySem.W

noncomputable def dirty : Code → Bool
  | .builtin id _ => Builtin.Bytes.decodersThatHold.contains id
  | _ => false
noncomputable def clean (l : List (Code × Pos)) : Bool := l.all fun x => !dirty x.1

noncomputable def wpC {α : Type} (M : Model) (A : Around) (t : Sem α) (Q : α → Shared → Prop) (E : Value → Shared → Prop) (s : Shared) : Prop :=
  ∀ Γ p, Γ.In A → clean ((Γ.code, p) :: Γ.below) = true → Sem.wp M Γ t (fun a _ s' => Q a s') (fun e _ s' => E e s') p s
noncomputable def codeC (M : Model) (A : Around) (c : Code) (R : Result → Shared → Prop) (s : Shared) : Prop :=
  ∀ Γ p, Γ.code = c → Γ.Below A → clean ((Γ.code, p) :: Γ.below) = true → wpCode M Γ R p s

section
variable {α β : Type} {M : Model} {A : Around} {E : Value → Shared → Prop} {s : Shared}
theorem clean_pos {c : Code} {p p' : Pos} {l : List (Code × Pos)} (h : clean ((c, p) :: l) = true) : clean ((c, p') :: l) = true := h
theorem wpC_of {t : Sem α} {Q : α → Shared → Prop} (h : wpAny M A t Q E s) : wpC M A t Q E s := fun Γ p hΓ _ => h Γ p hΓ
theorem codeC_of {c : Code} {R : Result → Shared → Prop} (h : codeAny M A c R s) : codeC M A c R s := fun Γ p hc hΓ _ => h Γ p hc hΓ
theorem wpC_pure {a : α} {Q : α → Shared → Prop} (h : Q a s) : wpC M A (pure a) Q E s := fun _ _ _ _ => h
theorem wpC_mono {t : Sem α} {Q Q' : α → Shared → Prop} {E' : Value → Shared → Prop} (h : wpC M A t Q E s) (hQ : ∀ a s, Q a s → Q' a s) (hE : ∀ e s, E e s → E' e s) : wpC M A t Q' E' s :=
  fun Γ p hΓ hc => Sem.wp_mono M Γ t (fun a _ s => hQ a s) (fun e _ s => hE e s) p s (h Γ p hΓ hc)
theorem wpC_bind {m : Sem α} {f : α → Sem β} {Q : β → Shared → Prop} (h : wpC M A m (fun a s' => wpC M A (f a) Q E s') E s) : wpC M A (m >>= f) Q E s := fun Γ p hΓ hc => by
  rw [Sem.wp_bind']
  exact Sem.wp_mono M Γ m (fun a p' s' h' => h' Γ p' hΓ (clean_pos hc)) (fun _ _ _ h' => h') p s (h Γ p hΓ hc)
theorem wpC_leaf {m : Sem α} {f : α → Sem β} {P : α → Shared → Prop} {Q : β → Shared → Prop} (h : wpAny M A m P E s) (k : ∀ a s', P a s' → wpC M A (f a) Q E s') : wpC M A (m >>= f) Q E s :=
  wpC_bind (wpC_mono (wpC_of h) k fun _ _ x => x)
theorem wpC_holding {vs : List Value} {m : Sem α} {Q : α → Shared → Prop} (h : wpC M A m Q E s) : wpC M A (holding vs m) Q E s := fun Γ p hΓ hc => by rw [Sem.wp_holding]; exact h Γ p hΓ hc
theorem wpC_onRaise {m : Sem α} {k : Value → Sem Unit} {Q : α → Shared → Prop} (h : wpC M A m Q (fun _ _ => False) s) : wpC M A (m.onRaise k) Q E s := fun Γ p hΓ hc => by
  rw [Sem.wp_onRaise]
  exact Sem.wp_mono M Γ m (fun _ _ _ h' => h') (fun e p' s' h' => h'.elim) p s (h Γ p hΓ hc)
theorem wpC_noErr {t : Sem α} {Q : α → Shared → Prop} (h : wpC M A t Q (fun _ _ => False) s) : wpC M A t Q E s := wpC_mono h (fun _ _ x => x) fun _ _ x => x.elim
theorem codeC_of_tree {c : Code} {R : Result → Shared → Prop}
    (h : wpC M (A.under c) (M.den c) (fun fin s' => match fin with | .done f => R (.ok f) s' | .again c' => c'.quiet = true ∧ dirty c' = false ∧ codeC M A c' R s')
      (fun e s' => R (.error e) s') s) : codeC M A c R s := fun Γ p hc hΓ hcl => by
  rw [wpCode_iff_wp, hc]
  refine Sem.wp_mono M Γ _ (fun fin p' s' h' => ?_) (fun _ _ _ h' => h') p s (h Γ p (hc ▸ hΓ.in) hcl)
  cases fin with
  | done f => exact h'
  | again c' =>
    refine ⟨h'.1, h'.2.2 (Γ.goto c') p' rfl (hΓ.goto c') ?_⟩
    unfold clean at hcl ⊢
    rw [List.all_cons, Bool.and_eq_true] at hcl ⊢
    refine ⟨?_, hcl.2⟩
    show (!dirty c') = true
    rw [h'.2.1]; rfl
theorem codeC_mono {c : Code} {R R' : Result → Shared → Prop} (h : codeC M A c R s) (hr : ∀ r s, R r s → R' r s) : codeC M A c R' s := fun Γ p hc hΓ hcl => wpCode_mono hr (h Γ p hc hΓ hcl)
end
theorem wpC_top {α : Type} {M : Model} {t : Sem α} {t' : Sem α} {Q : α → Shared → Prop} {E : Value → Shared → Prop} {A : Around} {s : Shared}
    (h : wpC M A t Q E s) (h' : wpAny M A t' Q E s) : wpAny M A (stack >>= fun st => if clean st then t else t') Q E s := fun Γ p hΓ => by
  show Sem.wp M Γ (if clean ((Γ.code, p) :: Γ.below) then t else t') _ _ p s
  by_cases hc : clean ((Γ.code, p) :: Γ.below) = true
  · rw [if_pos hc]; exact h Γ p hΓ hc
  · rw [if_neg hc]; exact h' Γ p hΓ

theorem sched_guard {prog : Program} {w : World} {s s' : Shared} {o : Outcome} {t t' : Sem Fin} {n : Nat} (hs : s.asleep)
    (h : schedN (denote table) prog w n (.single s ⟨stack >>= fun st => if clean st then t else t', .builtin "claim.caller" {}, default, []⟩) = .halted o s') :
    ∃ n', schedN (denote table) prog w n' (.single s ⟨t, .builtin "claim.caller" {}, default, []⟩) = .halted o s' := by
  cases n with
  | zero => cases h
  | succ n =>
    refine ⟨n, ?_⟩
    have hstep : step (denote table) prog w s ⟨stack >>= fun st => if clean st then t else t', .builtin "claim.caller" {}, default, []⟩ = .go s ⟨t, .builtin "claim.caller" {}, default, []⟩ := by
      obtain ⟨a, b, c, d, e⟩ := s
      show Step.go _ ⟨(if clean [(.builtin "claim.caller" {}, default)] then t else t'), _, _, _⟩ = _
      rw [if_pos (by decide +kernel)]
    have hcalm : Thread.calm ⟨stack >>= fun st => if clean st then t else t', .builtin "claim.caller" {}, default, []⟩ = true := by
      have : (stack >>= fun st => if clean st then t else t') = (Sem.stack fun st => if clean st then t else t') := rfl
      rw [this]
      simp [Thread.calm, Thread.atCollectorCode, Thread.yieldsInsideHandler]
    rw [schedN] at h
    rcases sstep_single (denote table) prog w s _ hcalm hs with e | e
    · rw [e, hstep] at h
      exact h
    · rw [hstep] at e; cases e

noncomputable abbrev WalkC (q : Program) (loose : List Str) (XP : (Str → Option Value) → Heap → Prop) (YP : World → Heap → Prop) (r : RowW) (d : DefRec) (kwd : List (Str × Expr)) (run : Value → List Value → Sem Value) : Prop :=
  ∀ (w : World) (s₀ s₁ : Shared) (mg mb : Str → Option Value), Ground q loose r.records XP w s₀ mg mb s₁.heap → YP w s₁.heap → ∀ (a : Addr) (o : Obj) (pm cd doc dV kV : Value), s₁.heap.get? a = some o →
    o.data = .func { docDef d.name d.params d.body d.scope pm cd doc with defaults := dV, kwdefaults := kV } → s₁.heap.CodeRec cd d.name → Dflts mg s₁.heap d.params kwd dV kV → mg d.name = some (.ref a) → s₁.gens = #[] →
    ∀ (args : List WData) (vals : List Value) (as : List Addr), r.claim.pre args = true → WData.layableAll args = true → ReadsAllW r.records (classAt s₀.heap) s₁.heap vals args as → WellAll w.params s₁.heap vals args → (∀ a ∈ as, (a == sysModules) = false) →
      GoodWG r.claim (classAt s₀.heap) (ExcName.means s₀.heap) args s₁ (.ok (.ret (.bool true))) s₁ ∧
      wpC (model r.prog w) callerA (run (.ref a) vals) (fun v s' => GoodWG r.claim (classAt s₀.heap) (ExcName.means s₀.heap) args s₁ (.ok (.ret v)) s')
        (fun e s' => GoodWG r.claim (classAt s₀.heap) (ExcName.means s₀.heap) args s₁ (.error e) s') s₁

noncomputable abbrev theTree (name : Str) (vs : List Value) : Sem Fin := do match ← nsGet mainNs name with
      | some f => do ret (← _root_.PySem.call f vs)
      | none => unsupported "claim.caller:no-such-global"

theorem PySem.W.holds_open {r : OpenRow} {q : Program} {loose : List Str} {Xt : Shared → Bool} {XP : (Str → Option Value) → Heap → Prop} {α : Type} {Yf : Shared → α} {Ya : World → α} {YP : World → Heap → Prop} {d : DefRec} {kwd : List (Str × Expr)} {N : Nat}
    (left : LeftO r.prog q loose Xt Yf Ya N) (hY : ∀ w s, Yf s = Ya w → YP w s.heap) (hYk : ∀ w h h', YP w h → (∀ b o, h.get? b = some o → h'.get? b = some o) → YP w h')
    (hX : ∀ s, Xt s = true → XP (s.heap.nsMap mainGlobals) s.heap) (hXk : ∀ mg h h', XP mg h → (∀ b o, h.get? b = some o → h'.get? b = some o) → XP mg h')
    (hdef : defOf q r.name = some (d, kwd)) (hp : r.prog.theDef r.name = some (d.params, d.body, d.scope)) (hk : kwWritten? d.params.kwonlyargs d.params.kw_defaults = some kwd) (hRf : ∀ s, Xt s = true → RecFacts r.records s.heap) (hwr : (!r.writes || r.records.isEmpty) = true)
    (k1 : r.wellSaid = true) (ok : (chainsOk q && opensWell r.prog && (frees r.toRowW && r.within.isEmpty)) = true) (hb : r.prog.bare) (hw : r.toRowW.promised)
    (call : WalkC q loose XP YP r.toRowW d kwd fun f vs => _root_.PySem.call f vs) : r.Holds := by
  refine ⟨k1, hw, ?_⟩
  have H := open_anyG (r := r.toRowW) (defs := if r.pinned then [r.name] else []) (kps := r.keeps) (writes := r.writes) (run := fun f vs => stack >>= fun st => if clean st then _root_.PySem.call f vs else pure (.bool true))
    (tree := fun vs => stack >>= fun st => if clean st then theTree r.name vs else pure (.done (.ret (.bool true)))) left hY hYk hX hXk hRf hwr ok hb hw ?_ ?_ ?_
  · obtain ⟨h1, h2, h3⟩ := H
    refine ⟨h1, h2, fun w => ⟨(h3 w).1, fun s hs => ?_⟩⟩
    obtain ⟨s₀, a1, a2, s₁, a3, a4, a5, a6, a7⟩ := (h3 w).2 s hs
    refine ⟨s₀, a1, a2, s₁, a3, a4, a5, a6, fun args b1 b2 ord b3 => ?_⟩
    obtain ⟨vs, s₂, c1, n, o, s', c2, c3⟩ := a7 args b1 b2 ord b3
    have hlife : s₂.heap.life = s.heap.life := ((layAllW_rest _ _ _ c1).2.2.2.trans a3.2.1).trans (fence_lifeW a1)
    have hz : s₂.asleep := Shared.asleep_of_life hlife (AfterImport.life hs)
    obtain ⟨n', e⟩ := sched_guard hz c2
    exact ⟨vs, s₂, c1, n', o, s', e, c3⟩
  · intro vs w s mg f Q E hg hf h
    have hC : wpC (model r.prog w) callerA (_root_.PySem.call f vs) (fun v s' => Q (.done (.ret v)) s') E s := fun Γ p hΓ hc => by
      have z := h Γ p hΓ
      change Sem.wp _ Γ (if clean ((Γ.code, p) :: Γ.below) then _root_.PySem.call f vs else pure (.bool true)) _ _ p s at z
      rw [if_pos hc] at z
      exact z
    have hT : wpC (model r.prog w) callerA (theTree r.name vs) Q E s := by
      refine wpC_bind (wpC_of (wpAny_nsGet hg ?_))
      rw [hf]
      exact wpC_bind (wpC_mono hC (fun v s' x => wpC_pure x) fun _ _ x => x)
    intro Γ p hΓ
    have z := h Γ p hΓ
    change Sem.wp _ Γ (if clean ((Γ.code, p) :: Γ.below) then _root_.PySem.call f vs else pure (.bool true)) _ _ p s at z
    show Sem.wp _ Γ (if clean ((Γ.code, p) :: Γ.below) then theTree r.name vs else pure (.done (.ret (.bool true)))) _ _ p s
    by_cases hc : clean ((Γ.code, p) :: Γ.below) = true
    · rw [if_pos hc]
      exact hT Γ p hΓ hc
    · rw [if_neg hc] at z ⊢
      exact z
  · intro w s hg G n hn
    obtain rfl : n = r.name := by split at hn <;> simp_all
    exact pinned_of_view hg G hdef hp hk
  · intro w s₀ s₁ mg mb G Y args vs as hpre hlay L low
    obtain ⟨a, o, pm, cd, doc, dV, kV, h1, h2, h3, h4, h5⟩ := G.fn hdef
    obtain ⟨g, z⟩ := call w s₀ s₁ mg mb G Y a o pm cd doc dV kV h2 h3 h4 h5 (defOf_name hdef ▸ h1) L.gens args vs as hpre hlay L.reads L.well (L.low low)
    exact ⟨.ref a, h1, wpC_top z (wpAny_pure g)⟩
end Mine
end
-- PCF
section
open _root_.PySem _root_.PySem.W PyProof.Rows
namespace Mine
noncomputable def bootT (P : Params) : BT := ((boot_heap P).objs.toList.foldl (fun (x : BT × Nat) o => (x.1.ins x.2 o, x.2 + 1)) (BT.nil, 0)).1
noncomputable def bootS (w : World) (os : OsState) : SharedT := ⟨bootT w.params, (boot_heap w.params).objs.size, (boot_heap w.params).life, Array.mk [], boot_drawn, boot_toks, os⟩
noncomputable def runT (ok : Thread → Bool) (g : SharedT → Thread → Option (SharedT × Thread)) (n : Nat) : SharedT → Thread → Option SharedT :=
  @Nat.rec (fun _ => SharedT → Thread → Option SharedT) (fun _ _ => none) (fun _ ih s t => @Bool.rec (fun _ => Option SharedT) (@Bool.rec (fun _ => Option SharedT) none ((g s t).bind fun x => ih x.1 x.2) (ok t)) (some s) (through t)) n
theorem runT_spec {p : Program} {w : World} {n₀ : Nat} {ann : Option Value} : ∀ {n : Nat} {s r : SharedT} {t : Thread}, runT (stepOk n₀ ann) (stepT (denote treeTable) p w) n s t = some r → topRun treeTable p w n₀ ann n s.abs t = some r.abs
  | 0, _, _, _, h => by cases h
  | n + 1, s, r, t, h => by
    change @Bool.rec (fun _ => Option SharedT) (@Bool.rec (fun _ => Option SharedT) none ((stepT (denote treeTable) p w s t).bind fun x => runT (stepOk n₀ ann) (stepT (denote treeTable) p w) n x.1 x.2) (stepOk n₀ ann t)) (some s) (through t) = some r at h
    rw [topRun]
    revert h
    cases through t with
    | true => rintro ⟨⟩; rfl
    | false =>
      cases stepOk n₀ ann t with
      | false => rintro ⟨⟩
      | true =>
        intro h
        obtain ⟨x, h1, h2⟩ := Option.bind_eq_some_iff.mp h
        simp only [stepT_spec h1]
        exact runT_spec h2
theorem bootS_abs (w : World) (os : OsState) : (bootS w os).abs = ⟨boot_heap w.params, Array.mk [], boot_drawn, boot_toks, os⟩ := by kernel_rfl
theorem left_run {p : Program} {w : World} {N : Nat} {s₀ : Shared} {r : Shared} (h0 : (s₀.heap.isNs mainGlobals && s₀.gens.size == 0) = true) (h1 : topRun treeTable p w s₀.heap.objs.size (s₀.heap.nsMap mainGlobals "__annotations__") N s₀ (topStub p) = some r)
    (h2 : (staticsOk (importedModules p.main.body) s₀.heap r.heap && namesBound p r.heap && gensDone r && laidKept s₀.heap r.heap) = true) : topFrom treeTable p w N s₀ = some r := by
  rw [topFrom, h0, h1]
  show (match _ with | true => some r | false => none) = _
  rw [h2]
noncomputable def LeftT (ok : Nat → Option Value → Thread → Bool) (st : (Code → Sem PySem.Fin) → Program → World → SharedT → Thread → Option (SharedT × Thread)) (den : (String → Option Builtin) → Code → Sem PySem.Fin) (tb : String → Option Builtin) {β : Type}
    (seen : Program → List Str → List Str → (Shared → Bool) → Bool → Shared → β) (good : β) (p q : Program) (loose : List Str) (Xt : Shared → Bool) {α : Type} (Yf : Shared → α) (Ya : World → α) (N : Nat) : Prop :=
  ∀ (w : World) (os : OsState), (runT (ok (boot_heap w.params).objs.size ((boot_heap w.params).nsMap mainGlobals "__annotations__")) (st (den tb) p w) N (bootS w os) (topStub p)).map (fun r =>
      (staticsOk (importedModules p.main.body) (boot_heap w.params) r.abs.heap && namesBound p r.abs.heap && gensDone r.abs && laidKept (boot_heap w.params) r.abs.heap,
       seen q loose (importedModules p.main.body) Xt true r.abs, Yf r.abs)) = some (true, good, Ya w)
theorem left_fast {p q : Program} {loose : List Str} {Xt : Shared → Bool} {α : Type} {Yf : Shared → α} {Ya : World → α} {N : Nat} (e : opening p = plainProg p.main.scope.names) (hN : Nat.ble 600 N = true) (f : ∀ s, fenceModules? p s = some s)
    (h0 : ∀ P, ((boot_heap P).isNs mainGlobals && (#[] : Array GenState).size == 0) = true)
    (h : LeftT PySem.W.Fast.tw6613529449190102663 PySem.W.Fast.tw10156331382660048174 PySem.W.Fast.tw11892475500146522536 PySem.W.Fast.tw14364793385576792824 PySem.W.Fast.tw4187177175401517315 (openGood q loose) p q loose Xt Yf Ya N) : LeftO p q loose Xt Yf Ya N := fun w => by
  obtain ⟨s₀, e1, e2⟩ := Option.map_eq_some_iff.mp (boot_open e hN f w)
  have e3 : s₀ = ⟨boot_heap w.params, Array.mk [], boot_drawn, boot_toks, s₀.os⟩ := congrArg (fun x : Heap × Array GenState × Drawn × Nat => Shared.mk x.1 x.2.1 x.2.2.1 x.2.2.2 s₀.os) e2
  rw [← PySem.W.Fast.te4187177175401517315, ← PySem.W.Fast.te6613529449190102663, ← PySem.W.Fast.te10156331382660048174, ← PySem.W.Fast.te11892475500146522536, ← PySem.W.Fast.te14364793385576792824] at h
  obtain ⟨r, r1, r2⟩ := Option.map_eq_some_iff.mp (h w s₀.os)
  have r3 := runT_spec r1
  rw [bootS_abs] at r3
  have z := left_run (s₀ := ⟨boot_heap w.params, Array.mk [], boot_drawn, boot_toks, s₀.os⟩) (h0 w.params) r3 (congrArg Prod.fst r2 :)
  rw [← e3] at z
  rw [openEnds, e1]
  show (topFrom treeTable p w N s₀).map _ = _
  rw [z]
  exact congrArg some (congrArg Prod.snd r2)
end Mine
end
-- HC_02
section
open _root_.PySem _root_.PySem.W PyProof.Rows
set_option maxHeartbeats 0
namespace Mine
noncomputable def vw : PySem.Program := PySem.W.view PySem.Challenge.pw_xp0015_02 [0, 2, 4, 5, 7, 9, 11, 12, 13, 14, 15, 16, 17, 18]
local macro_rules | `(tactic| o_head $H) => do
  let hw := Lean.mkIdent `hw
  let hc := Lean.mkIdent `hc
  `(tactic| (refine _root_.Mine.PySem.W.holds_open (q := vw) (loose := [PySem.Str.ofString "_Accumulator"]) (Xt := fun s => xlAt vw [] s && recOk (RowW.records (OpenRow.toRowW PySem.Challenge.rw_xp0015_02.row)) s) (XP := XL vw []) (Yf := Hook.obs $H) (Ya := Hook.val $H) (YP := Hook.says $H) (N := 3414) (left_fast (by rfl) (by rfl) (fun s => rfl) (fun _ => by kernel_rfl) (fun w os => by kernel_rfl)) (Hook.of $H) (Hook.keeps $H) (fun s e => xl_of s (Bool.and_eq_true_iff.mp e).1) XL.keeps (by rfl) (by rfl) (by rfl) (fun s e => recFacts_of (Bool.and_eq_true_iff.mp e).2) (by rfl) (by first | assumption | decide +kernel) (by decide +kernel) ⟨rfl, rfl, rfl, rfl, rfl, by decide +kernel⟩ ?$hw ?$hc))
open_top hd for PySem.Challenge.rw_xp0015_02
end Mine
end
section
open PySem.W
theorem Mine.walk_off : True := by
  w_top off
  trivial
end
-- PA
section
namespace Mine
open _root_.PySem _root_.PySem.Calls PyProof.Rows _root_.PySem.W

noncomputable abbrev accO (C d : Addr) (its : Array Value) (e : Nat) : Obj := { cls := .ref C, dict := some d, data := .seq its e }

section
variable {prog : Program} {w : World} {A : Around} {E : Value → Shared → Prop} {s : Shared} {K : Frag} {x p d C L : Addr} {h₀ : Heap} {m : Str → Option Value} {ox od : Obj} {odx : Option Obj} {news news' : List (Addr × Obj)} {its : Array Value} {e : Nat} {name : Str}

theorem inst_acc {h : Heap} (N : News h₀ L h news) (h1 : (p, accO C d its e) ∈ news) (h2 : (d, od) ∈ news) : InstAt h p (accO C d its e) C (some od) :=
  ⟨(N _ h1).1, rfl, rfl, (N _ h2).1⟩

theorem method_sub {pl : Sem Bool} {id ga : String} {Q : Value × List Value → Shared → Prop} (X : K.In s.heap) (I : InstAt s.heap x ox C odx)
    (hga : findIn K (.ref C) "__getattribute__" = some (some (.builtin ga))) (hcan : (Manifest.canonical ga != "object.__getattribute__") = false) (hk : findIn K (.ref C) "__getattr__" = some none)
    (hf : findIn K (.ref C) name = some (some (.builtin id))) (ht : typeIn K (.builtin id) = some (.type "method_descriptor")) (hs : shadowIn odx name = some false) (h : Q (.builtin id, [.ref x]) s) :
    wpAny (model prog w) A (getMethod (.ref x) name pl) Q E s := by
  unfold getMethod specialOf
  refine wpAny_bind (wpAny_bind (I.type.here ((looks_findIn X hga).here ?_)))
  dsimp only
  rw [hcan, if_neg (by decide)]
  refine wpAny_bind (wpAny_bind (I.type.here ((looks_findIn X hk).here ?_)))
  refine wpAny_bind (wpAny_bind (I.type.here ((looks_findIn X hf).here (wpAny_bind ((looks_typeIn X ht).here ?_)))))
  rw [if_neg (by decide +kernel)]
  refine wpAny_bind (wpAny_loadPart I.at_ ?_)
  have hd := I.dict
  cases e : ox.dict with
  | none => exact wpAny_bind (wpAny_rule (wpAny_pure h))
  | some dx =>
    cases odx with
    | none => rw [e] at hd; exact hd.elim
    | some o =>
      rw [e] at hd
      obtain ⟨r, a, b⟩ := Option.map_eq_some_iff.mp hs
      refine wpAny_bind (wpAny_bind (wpAny_loadPart hd ?_))
      rw [nsLook_of a]
      refine wpAny_pure ?_
      rw [b]
      exact wpAny_bind (wpAny_rule (wpAny_pure h))

theorem call_sub {id owner n : String} {b : Builtin} {self : Value} {rest : List Value} {Q : Value → Shared → Prop} (hq : plainId id = true) (hb : entryFor table id = some b)
    (hk : builtinKind id = some .method ∨ builtinKind id = some .slot) (hs : splitId id = some (owner, n)) (hi : Looks (model prog w) s.heap (isInstance self (.type owner)) true) (ha : argsOk id ⟨self :: rest, []⟩)
    (hc : wpAny (model prog w) A.in1 (b ⟨self :: rest, []⟩) (fun fin s' => ∃ v, fin = .done (.ret v) ∧ Q v s') E s) : wpAny (model prog w) A (call (.builtin id) (self :: rest)) Q E s := by
  refine wpAny_call (codeAny_call_builtin hq hb ?_)
  have fin : wpAny (model prog w) A.in1 (b ⟨self :: rest, []⟩) (fun fin s' => match fin with
      | .done f => (match (Except.ok f : Result) with | .ok (.ret v) => Q v s' | .ok _ => False | .error e => E e s')
      | .again c' => c'.quiet = true ∧ codeAny (model prog w) A c' (fun r s' => match r with | .ok (.ret v) => Q v s' | .ok _ => False | .error e => E e s') s') E s :=
    wpAny_mono hc (fun f s' h => by obtain ⟨v, rfl, hv⟩ := h; exact hv) fun _ _ z => z
  rcases hk with hk | hk
  all_goals
    simp only [checkBuiltinCall, hk, hs]
    refine wpAny_bind (hi.here ?_)
    simp only [Bool.not_true, Bool.false_eq_true, if_false]
    cases hsig : Manifest.signature? id with
    | none => exact wpAny_pure fin
    | some g =>
      simp only [argsOk, hsig] at ha
      have h2 : Bind.checkArgs id g ⟨self :: rest, []⟩ = pure () := ha
      show wpAny _ _ (Bind.checkArgs id g ⟨self :: rest, []⟩) _ _ _
      rw [h2]; exact wpAny_pure fin

theorem isi_sub {T : String} (X : K.In s.heap) (I : InstAt s.heap x ox C odx) (hs : subIn K (.ref C) (.type T) = some true) : Looks (model prog w) s.heap (isInstance (.ref x) (.type T)) true :=
  I.type.andThen (looks_subIn X hs)

theorem special_sub {id : String} {args : List Value} {Q : Option Value → Shared → Prop} (X : K.In s.heap) (I : InstAt s.heap x ox C odx)
    (hs : findIn K (.ref C) name = some (some (.builtin id))) (hbind : bindSpecial (.builtin id) (.ref x) = pure (.builtin id, [.ref x]))
    (h : wpAny (model prog w) A (call (.builtin id) (.ref x :: args)) (fun v => Q (some v)) E s) : wpAny (model prog w) A (callSpecial? (.ref x) name args) Q E s := by
  unfold callSpecial? specialOf
  refine wpAny_bind (wpAny_bind (I.type.here ((looks_findIn X hs).here (wpAny_holding (wpAny_bind ?_)))))
  rw [hbind]
  exact wpAny_pure (wpAny_bind (wpAny_mono h (fun _ _ z => wpAny_pure z) fun _ _ z => z))

theorem mapSeq_acc (f : Array Value → Array Value) (hn : (f its).size ≠ its.size) : Obj.mapSeq f (accO C d its e) = accO C d (f its) (e + 1) := by
  simp only [Obj.mapSeq, accO]
  rw [if_neg (by simpa using hn)]

theorem acc_append {v : Value} {Q : Value → Shared → Prop} (F : Fr h₀ L s.heap m) (X₀ : K.In h₀) (N : News h₀ L s.heap news) (hm : (d, od) ∈ news) (hsub : subIn K (.ref C) (.type "list") = some true)
    (U : Upd p (accO C d its e) (accO C d (its.push v) (e + 1)) news news') (hz : its.size ≤ sizeLine)
    (h : ∀ h', Fr h₀ L h' m → News h₀ L h' news' → Q .none { s with heap := h' }) : wpAny (model prog w) A (call (.builtin "list.append") [.ref p, v]) Q E s := by
  have X := X₀.keeps F.keep
  obtain ⟨pre, post, rfl, rfl, a, b⟩ := U.split
  have z := N (p, accO C d its e) (List.mem_append.mpr (.inr (.head _)))
  have I := inst_acc N (List.mem_append.mpr (.inr (.head _))) hm
  refine call_sub (owner := "list") (n := "append") slot_list_append.plain entry_list_append (.inl (by decide +kernel)) (by decide +kernel) (isi_sub X I hsub) (args_list_append _ _) ?_
  show wpAny _ _ (updateSeq p (·.push v) >>= fun _ => ret .none) _ _ s
  refine wpAny_bind (wpAny_updateSeq z.1 rfl (wpAny_pure ⟨.none, rfl, ?_⟩))
  have hs : Heap.SameBut p s.heap (s.heap.update p (Obj.mapSeq (·.push v))) := Heap.SameBut.update ..
  have ho : (s.heap.update p (Obj.mapSeq (·.push v))).get? p = some (accO C d (its.push v) (e + 1)) := by
    rw [Heap.get?_update_self _ z.1 (by rw [mapSeq_acc _ (by simp)]; rfl), mapSeq_acc _ (by simp)]
  exact h _ (F.change hs z.2.1 z.2.2) (news_set N a b hs ho)

theorem acc_getItem {k : Int} {t : Tok} {v : Value} {Q : Value → Shared → Prop} (F : Fr h₀ L s.heap m) (X₀ : K.In h₀) (N : News h₀ L s.heap news) (h1 : (p, accO C d its e) ∈ news) (h2 : (d, od) ∈ news)
    (hsub : subIn K (.ref C) (.type "list") = some true) (hsq : noSeq K C = true) (hs : findIn K (.ref C) "__getitem__" = some (some (.builtin "list.__getitem__")))
    (h0 : 0 ≤ k) (hfit : k < 2 ^ 63) (hx : its[k.toNat]? = some v) (h : Q v s) : wpAny (model prog w) A (getItem (.ref p) (.int k t)) Q E s := by
  have X := X₀.keeps F.keep
  have I := inst_acc N h1 h2
  unfold getItem sequenceKey
  refine wpAny_holding (wpAny_bind (wpAny_bind (I.type.here ?_)))
  refine wpAny_bind ((anyM_none X hsq).here ?_)
  rw [if_pos (show (!false) = true from rfl)]
  refine wpAny_pure (wpAny_bind (special_sub X I hs (slot_list_getitem.bind _) ?_))
  refine call_sub (owner := "list") (n := "__getitem__") slot_list_getitem.plain entry_list_getitem (by first | exact .inl (by decide +kernel) | exact .inr (by decide +kernel)) (by decide +kernel) (isi_sub X I hsub) (args_list_getitem _ _) ?_
  show wpAny _ _ (Builtin.List.listSubscript? (.int k t) >>= _) _ _ s
  refine wpAny_bind (wpAny_listSubscript_int (fitsIndex_of h0 hfit) ?_)
  clear hfit
  obtain ⟨j, rfl⟩ := Int.eq_ofNat_of_zero_le h0
  have hx' : its[j]? = some v := hx
  show wpAny _ _ ((seqItemAt p j >>= fun r => pure (r.map (j, ·))) >>= _) _ _ s
  refine wpAny_bind (wpAny_bind (wpAny_seqItemAt I.at_ rfl (wpAny_pure ?_)))
  rw [hx']
  first
    | exact wpAny_bind (wpAny_pure (wpAny_pure ⟨v, rfl, wpAny_pure h⟩))
    | exact wpAny_pure ⟨v, rfl, wpAny_pure h⟩

theorem acc_inPython {Q : Bool → Shared → Prop} (X : K.In s.heap) (I : InstAt s.heap x ox C odx) {id : String} (hs : findIn K (.ref C) "__getitem__" = some (some (.builtin id))) (h : Q false s) :
    wpAny (model prog w) A (getitemInPython (.ref x)) Q E s := by
  rw [getitemInPython_of_ne (by intro q; cases q)]
  exact wpAny_bind (wpAny_bind (I.type.here ((looks_findIn X hs).here (wpAny_pure h))))

theorem acc_tail {value slice : PySem.Expr} {i : Value} {ops : List Value} {Q : Value → Shared → Prop} (X : K.In s.heap) (I : InstAt s.heap x ox C odx) {id : String} (hs : findIn K (.ref C) "__getitem__" = some (some (.builtin id)))
    (hg : wpAny (model prog w) A (getItem (.ref x) i) Q E s) (hsl : subscripted slice false (.ref x) i = operate ops (getItem (.ref x) i)) :
    wpAny (model prog w) A (subscriptTail value slice (.ref x) i) Q E s := by
  unfold subscriptTail
  refine wpAny_bind (acc_inPython X I hs ?_)
  rw [hsl]
  exact wpAny_bind (wpAny_operating (wpAny_mono hg (fun r s₃ h₃ => wpAny_bind (wpAny_letTemporaryGo (wpAny_pure h₃))) fun _ _ x => x))

theorem acc_item {value slice : PySem.Expr} {k : Int} {t : Tok} {v : Value} {Q : Value → Shared → Prop} (F : Fr h₀ L s.heap m) (X₀ : K.In h₀) (N : News h₀ L s.heap news) (h1 : (p, accO C d its e) ∈ news) (h2 : (d, od) ∈ news)
    (hsub : subIn K (.ref C) (.type "list") = some true) (hsq : noSeq K C = true) (hs : findIn K (.ref C) "__getitem__" = some (some (.builtin "list.__getitem__")))
    (h0 : 0 ≤ k) (hfit : k < 2 ^ 63) (hx : its[k.toNat]? = some v) (h : Q v s)
    (hsl : subscripted slice false (.ref p) (.int k t) = operate [.ref p, .int k t] (getItem (.ref p) (.int k t)) := by with_unfolding_all rfl) :
    wpAny (model prog w) A (subscriptTail value slice (.ref p) (.int k t)) Q E s :=
  acc_tail (X₀.keeps F.keep) (inst_acc N h1 h2) hs (acc_getItem F X₀ N h1 h2 hsub hsq hs h0 hfit hx h) hsl

theorem acc_getSlice {sl : Addr} {vl vu : Value} {lo hi : Option Int} {Q : Value → Shared → Prop} (X : K.In s.heap) (I : InstAt s.heap p (accO C d its e) C odx)
    (hsub : subIn K (.ref C) (.type "list") = some true) (hsq : noSeq K C = true) (hs : findIn K (.ref C) "__getitem__" = some (some (.builtin "list.__getitem__")))
    (hsl : s.heap.IsSliceOf sl vl vu .none) (pl : IsPart vl lo) (pu : IsPart vu hi)
    (h : Q (.ref s.heap.objs.size) { s with heap := s.heap.push (W.listOf (slicePick its lo hi none) 0) }) (hz : its.size ≤ sizeLine) :
    wpAny (model prog w) A (getItem (.ref p) (.ref sl)) Q E s := by
  obtain ⟨os, hos, hcs, hds⟩ := id hsl
  have hTs : s.TypeIs (.ref sl) "slice" := ⟨os, hos, hcs⟩
  unfold getItem sequenceKey
  refine wpAny_holding (wpAny_bind (wpAny_bind (I.type.here ?_)))
  refine wpAny_bind ((anyM_none X hsq).here ?_)
  rw [if_pos (show (!false) = true from rfl)]
  refine wpAny_pure (wpAny_bind (special_sub X I hs (slot_list_getitem.bind _) ?_))
  refine call_sub (owner := "list") (n := "__getitem__") slot_list_getitem.plain entry_list_getitem (by first | exact .inl (by decide +kernel) | exact .inr (by decide +kernel)) (by decide +kernel) (isi_sub X I hsub) (args_list_getitem _ _) ?_
  show wpAny _ _ (Builtin.List.listSubscript? (.ref sl) >>= _) _ _ s
  refine wpAny_bind ?_
  unfold Builtin.List.listSubscript?
  refine wpAny_bind (wpAny_specialOf hTs slice_no_index ?_)
  simp only [Option.isNone_none, if_true]
  refine wpAny_pure ?_
  show wpAny _ _ (typeOf (.ref sl) >>= _) _ _ s
  refine wpAny_bind (wpAny_typeOf hTs ?_)
  rw [if_neg (by decide)]
  rw [listSliceParts_eq]
  refine wpAny_bind (wpAny_bind (wpAny_field hos hds (x := .none) rfl (wpAny_bind (wpAny_listPart .none ?_))))
  rw [if_neg (show ¬ ((rawPart none == rawInt 0) = true) from Bool.false_ne_true)]
  refine wpAny_bind (wpAny_field hos hds (x := vl) rfl (wpAny_bind (wpAny_listPart pl ?_)))
  refine wpAny_bind (wpAny_field hos hds (x := vu) rfl (wpAny_bind (wpAny_listPart pu (wpAny_pure ?_))))
  refine wpAny_bind (m := Builtin.List.listItems (.ref p)) ?_
  unfold Builtin.List.listItems
  refine wpAny_bind (wpAny_seqItems I.at_ rfl (wpAny_pure ?_))
  refine wpAny_bind (wpAny_of_eq (sliceIndices_raw lo hi none its.size (by simp)) ?_)
  exact wpAny_bind (wpAny_newObj_type (wpAny_pure ⟨_, rfl, wpAny_pure h⟩) (Nat.le_trans (slicePick_size_le its lo hi none) hz))

theorem inst_push {h : Heap} {o : Obj} (I : InstAt h x ox C odx) : InstAt (h.push o) x ox C odx := by
  refine ⟨Heap.get?_push_of_some _ I.at_, I.cls, I.no, ?_⟩
  have q := I.dict
  cases e : ox.dict with
  | none => cases odx with
    | none => trivial
    | some _ => rw [e] at q; exact q.elim
  | some dx => cases odx with
    | none => rw [e] at q; exact q.elim
    | some o' => rw [e] at q; exact Heap.get?_push_of_some _ q

theorem acc_slice {value : PySem.Expr} {a b : Option PySem.Expr} {q : Pos} {vl vu : Value} {lo hi : Option Int} {Q : Value → Shared → Prop} (F : Fr h₀ L s.heap m) (X₀ : K.In h₀) (N : News h₀ L s.heap news) (h1 : (p, accO C d its e) ∈ news) (h2 : (d, od) ∈ news)
    (hsub : subIn K (.ref C) (.type "list") = some true) (hsq : noSeq K C = true) (hs : findIn K (.ref C) "__getitem__" = some (some (.builtin "list.__getitem__")))
    (pl : IsPart vl lo) (pu : IsPart vu hi) (hz : its.size ≤ sizeLine)
    (h : ∀ D h', Fr h₀ L h' m → News h₀ L h' ((D, W.listOf (kms_pick its.toList lo hi).toArray 0) :: news) → (∀ p ∈ news, p.1 < D) → Q (.ref D) { s with heap := h' }) :
    wpAny (model prog w) A (subscriptTail value (.Slice a b none q) (.ref p) (.ref s.heap.objs.size)) Q E { s with heap := s.heap.push { cls := .type "slice", data := .fields #[vl, vu, .none] } } := by
  have X := X₀.keeps F.keep
  have X' : K.In (s.heap.push { cls := .type "slice", data := .fields #[vl, vu, .none] }) := X.keeps fun _ _ e => Heap.get?_push_of_some _ e
  have I := inst_push (o := { cls := .type "slice", data := .fields #[vl, vu, .none] }) (inst_acc N h1 h2)
  refine acc_tail (s := { s with heap := s.heap.push { cls := .type "slice", data := .fields #[vl, vu, .none] } }) X' I hs (ops := [.ref s.heap.objs.size, .ref p]) ?_ (by with_unfolding_all rfl)
  refine acc_getSlice (s := { s with heap := s.heap.push { cls := .type "slice", data := .fields #[vl, vu, .none] } }) X' I hsub hsq hs (Heap.IsSliceOf.new ..) pl pu ?_ hz
  have F1 := F.push { cls := .type "slice", data := .fields #[vl, vu, .none] }
  have N1 := N.push F { cls := .type "slice", data := .fields #[vl, vu, .none] }
  have N2 := News.push F1 N1 (W.listOf (slicePick its lo hi none) 0)
  rw [kms_pick_eq] at N2
  have N3 : News h₀ L ((s.heap.push { cls := .type "slice", data := .fields #[vl, vu, .none] }).push (W.listOf (kms_pick its.toList lo hi).toArray 0)) (((s.heap.push { cls := .type "slice", data := .fields #[vl, vu, .none] }).objs.size, W.listOf (kms_pick its.toList lo hi).toArray 0) :: news) :=
    fun p hp => by
      rcases List.mem_cons.mp hp with rfl | hp
      · exact N2 _ (.head _)
      · exact N2 _ (.tail _ (.tail _ hp))
  have := h _ _ (F1.push _) N3 (fun p hp => by rw [Heap.size_push]; exact Nat.lt_succ_of_lt (Heap.lt_size (N p hp).1))
  rw [kms_pick_eq]
  exact this

theorem kms_from {l : List Value} {i : Nat} (h : i ≤ l.length) : kms_pick l (some (i : Int)) none = l.drop i := by
  unfold kms_pick kms_lo kms_hi
  have : ¬ ((i : Int) < 0) := by omega
  simp only [if_neg this]
  rw [List.take_of_length_le (by rw [List.length_drop]; omega)]
  congr 1
  omega


theorem sliceIndices_from (its : Array Value) (i : Nat) (h : i ≤ its.size) : sliceIndices (rawPart (some (i : Int))) (rawPart none) (rawPart none) its.size = pure ((i : Int), (its.size : Int), 1) := by
  rw [sliceIndices_raw _ _ _ _ (by simp)]
  have e : sliceBounds (some (i : Int)) none none its.size = ((i : Int), (its.size : Int), 1) := by
    have h1 : ¬ ((i : Int) < 0) := by omega
    have h2 : (1 : Int) > 0 := by decide
    simp only [sliceBounds, Option.getD_none, h2, if_true, if_neg h1]
    have : max 0 (min (i : Int) its.size) = i := by omega
    rw [this]
  rw [e]

theorem acc_cut {sl nl : Addr} {i : Nat} {tk : Tok} {Q : Unit → Shared → Prop} (F : Fr h₀ L s.heap m) (X₀ : K.In h₀) (N : News h₀ L s.heap news) (h2 : (d, od) ∈ news)
    (hsub : subIn K (.ref C) (.type "list") = some true) (hsq : noSeq K C = true) (hs : findIn K (.ref C) "__setitem__" = some (some (.builtin "list.__setitem__")))
    (hsl : s.heap.IsSliceOf sl (.int i tk) .none .none) (hnl : s.heap.IsList nl #[]) (hi : i ≤ its.size) (hz : its.size ≤ sizeLine)
    (U : Upd p (accO C d its e) (accO C d (its.extract 0 i) (if i = its.size then e else e + 1)) news news')
    (h : ∀ h', Fr h₀ L h' m → News h₀ L h' news' → Q () { s with heap := h' }) :
    wpAny (model prog w) A (setItem (.ref p) (.ref sl) (.ref nl)) Q E s := by
  have X := X₀.keeps F.keep
  obtain ⟨pre, post, rfl, rfl, a, b⟩ := U.split
  have z := N (p, accO C d its e) (List.mem_append.mpr (.inr (.head _)))
  have I := inst_acc N (List.mem_append.mpr (.inr (.head _))) h2
  obtain ⟨os, hos, hcs, hds⟩ := id hsl
  have hTs : s.TypeIs (.ref sl) "slice" := ⟨os, hos, hcs⟩
  obtain ⟨on, hon, hcn, en, hdn⟩ := id hnl
  have hpn : p ≠ nl := by
    rintro rfl
    rw [z.1] at hon
    cases hon
    exact Value.noConfusion hcn
  unfold setItem sequenceKey
  refine wpAny_holding (wpAny_bind (wpAny_bind (I.type.here ?_)))
  refine wpAny_bind ((anyM_none X hsq).here ?_)
  rw [if_pos (show (!false) = true from rfl)]
  refine wpAny_pure (wpAny_bind (special_sub X I hs (slot_list_setitem.bind _) ?_))
  refine call_sub (owner := "list") (n := "__setitem__") slot_list_setitem.plain entry_list_setitem (by first | exact .inl (by decide +kernel) | exact .inr (by decide +kernel)) (by decide +kernel) (isi_sub X I hsub) (args_list_setitem _ _ _) ?_
  show wpAny _ _ (Builtin.List.listSubscript? (.ref sl) >>= _) _ _ s
  refine wpAny_bind ?_
  unfold Builtin.List.listSubscript?
  refine wpAny_bind (wpAny_specialOf hTs slice_no_index ?_)
  simp only [Option.isNone_none, if_true]
  refine wpAny_pure ?_
  show wpAny _ _ (typeOf (.ref sl) >>= _) _ _ s
  refine wpAny_bind (wpAny_typeOf hTs ?_)
  rw [if_neg (by decide)]
  rw [listSliceParts_eq]
  refine wpAny_bind (wpAny_bind (wpAny_field hos hds (x := .none) rfl (wpAny_bind (wpAny_listPart .none ?_))))
  rw [if_neg (show ¬ ((rawPart none == rawInt 0) = true) from Bool.false_ne_true)]
  refine wpAny_bind (wpAny_field hos hds (x := .int i tk) rfl (wpAny_bind (wpAny_listPart (.int (i : Int) tk) ?_)))
  refine wpAny_bind (wpAny_field hos hds (x := .none) rfl (wpAny_bind (wpAny_listPart .none (wpAny_pure ?_))))
  have e1 : Builtin.List.listSameRef (.ref p) (.ref nl) = false := by
    show (p == nl) = false
    simpa using hpn
  rw [e1]
  simp only [Bool.false_eq_true, if_false]
  refine wpAny_bind ?_
  unfold Builtin.List.listAllItems
  refine wpAny_bind (wpAny_typeOf hnl.typeIs ?_)
  rw [if_pos (by decide)]
  unfold Builtin.List.listItems
  refine wpAny_bind (wpAny_seqItems hon hdn (wpAny_pure ?_))
  refine wpAny_bind (wpAny_bind (wpAny_seqItems I.at_ rfl (wpAny_pure ?_)))
  refine wpAny_bind (wpAny_of_eq (sliceIndices_from its i hi) ?_)
  dsimp only
  rw [if_pos (by decide)]
  refine wpAny_bind (wpAny_rule ?_)
  have hlong : Builtin.List.listTooLong (its.size + (#[] : Array Value).size) = false := by
    simp only [Builtin.List.listTooLong, List.size_toArray, List.length_nil, Nat.add_zero]
    exact decide_eq_false (Nat.not_lt.mpr hz)
  rw [hlong]
  simp only [Bool.false_eq_true, if_false]
  have ef : (fun xs : Array Value => xs.extract 0 (i : Int).toNat ++ #[] ++ xs.extract (max (i : Int) (its.size : Int)).toNat) = fun xs : Array Value => xs.extract 0 i ++ xs.extract its.size := by
    funext xs
    have : (max (i : Int) (its.size : Int)).toNat = its.size := by omega
    rw [this, Array.append_empty]
    rfl
  have em : its.extract 0 i ++ its.extract its.size = its.extract 0 i := by simp
  refine wpAny_bind ?_
  rw [ef]
  show wpAny _ _ (updateSeq p _) _ _ _
  have hmap : Obj.mapSeq (fun xs : Array Value => xs.extract 0 i ++ xs.extract its.size) (accO C d its e) = accO C d (its.extract 0 i) (if i = its.size then e else e + 1) := by
    have hsz2 : (its.extract 0 i).size = i := by simp; omega
    simp only [Obj.mapSeq, accO]
    simp only [em, hsz2]
    by_cases q : i = its.size
    · simp [q]
    · simp [q]
  refine wpAny_updateSeq z.1 rfl ?_ hz (by rw [em]; simp; omega)
  refine wpAny_bind (wpAny_letGo (wpAny_pure ⟨_, rfl, wpAny_pure ?_⟩))
  have hsb : Heap.SameBut p s.heap (s.heap.update p (Obj.mapSeq fun xs : Array Value => xs.extract 0 i ++ xs.extract its.size)) := Heap.SameBut.update ..
  exact h _ (F.change hsb z.2.1 z.2.2) (news_set N a b hsb (by rw [Heap.get?_update_self _ z.1 (by rw [hmap]; rfl), hmap]))

theorem acc_cutS {nl : Addr} {i : Nat} {tk : Tok} {e0 : Nat} {Q : Unit → Shared → Prop} (F : Fr h₀ L s.heap m) (X₀ : K.In h₀) (N : News h₀ L s.heap news) (h2 : (d, od) ∈ news) (h3 : (nl, W.listOf #[] e0) ∈ news)
    (hsub : subIn K (.ref C) (.type "list") = some true) (hsq : noSeq K C = true) (hs : findIn K (.ref C) "__setitem__" = some (some (.builtin "list.__setitem__")))
    (hi : i ≤ its.size) (hz : its.size ≤ sizeLine)
    (U : Upd p (accO C d its e) (accO C d (its.extract 0 i) (if i = its.size then e else e + 1)) news news')
    (h : ∀ h', Fr h₀ L h' m → News h₀ L h' news' → Q () { s with heap := h' }) :
    wpAny (model prog w) A (setItem (.ref p) (.ref s.heap.objs.size) (.ref nl)) Q E { s with heap := s.heap.push { cls := .type "slice", data := .fields #[.int i tk, .none, .none] } } := by
  have up : ∀ b o, s.heap.get? b = some o → (s.heap.push { cls := .type "slice", data := .fields #[.int i tk, .none, .none] }).get? b = some o := fun _ _ e => Heap.get?_push_of_some _ e
  have N1 : News h₀ L (s.heap.push { cls := .type "slice", data := .fields #[.int i tk, .none, .none] }) news := fun q hq => ⟨up _ _ (N q hq).1, (N q hq).2⟩
  exact acc_cut (s := { s with heap := s.heap.push { cls := .type "slice", data := .fields #[.int i tk, .none, .none] } }) (F.push _) X₀ N1 h2 hsub hsq hs (Heap.IsSliceOf.new ..) ⟨_, up _ _ (N _ h3).1, rfl, _, rfl⟩ hi hz U h

theorem allLt_ne {news : List (Addr × Obj)} {t p : Addr} {o : Obj} (h : AllLt t news) (hm : (p, o) ∈ news) : t ≠ p := by
  induction news with
  | nil => exact nomatch hm
  | cons q r ih =>
    rcases List.mem_cons.mp hm with e | hm
    · have := h.1; rw [← e] at this; exact Nat.ne_of_gt this
    · exact ih h.2 hm

theorem news_ne {h : Heap} {t : Addr} {o1 o2 : Obj} (N : News h₀ L h news) (h1 : (t, o1) ∈ news) (h2 : (p, o2) ∈ news) (hne : o1 ≠ o2) : t ≠ p := by
  rintro rfl
  have a := (N _ h1).1
  have b := (N _ h2).1
  rw [a] at b
  exact hne (Option.some.inj b)
end
end Mine
end
-- PB
section
namespace Mine
open _root_.PySem _root_.PySem.Calls PyProof.Rows _root_.PySem.W

section
variable {prog : Program} {w : World} {A : Around} {E : Value → Shared → Prop} {s : Shared} {K : Frag} {x p d C L : Addr} {h₀ : Heap} {m : Str → Option Value} {ox od : Obj} {odx : Option Obj} {news news' : List (Addr × Obj)} {its : Array Value} {e : Nat} {name : Str}

theorem tr_cons {a : Addr} {y : Value} {r : List Value} {n : Nat} {Q : Bool → Shared → Prop} (N : News h₀ L s.heap news) (hm : (a, W.listOf (y :: r).toArray n) ∈ news) (hz : r.length ≤ 1000)
    (h : Q true { s with toks := s.toks + 1 + 1 }) : wpAny (model prog w) A (truthy (.ref a)) Q E s :=
  kgr_truthy (vs := y :: r) N hm rfl rfl (by rw [List.length_cons]; omega) h

theorem pop0 {D : Addr} {u : Tok} {y : Value} {r : List Value} {n : Nat} {Q : Value → Shared → Prop} (F : Fr h₀ L s.heap m) (N : News h₀ L s.heap news) (hz : r.length ≤ 1000)
    (U : Upd D (W.listOf (y :: r).toArray n) (W.listOf r.toArray (n + 1)) news news')
    (h : ∀ h', Fr h₀ L h' m → News h₀ L h' news' → Q y { s with heap := h' }) : wpAny (model prog w) A (call (.builtin "list.pop") [.ref D, .int 0 u]) Q E s :=
  kl_popAt (k := 0) (p := []) (q := r) F N (by decide) (by simp [seqIndex?]) (by simp [kl_cut]) U (by simp [sizeLine_eq]; omega) h
end

noncomputable def TurnQ (h₀ : Heap) (L : Addr) (It : Addr) (oI : Obj) (Jn : (Str → Option Value) → List (Addr × Obj) → Prop) (s : Shared) (Q : Flow → Shared → Prop) (f : Flow) (s₂ : Shared) : Prop :=
  match f with
  | .ret v => Q (.ret v) s₂
  | .brk => Q .next s₂
  | _ => ∃ h' tk m₂ nx₂, s₂ = { s with heap := h', toks := tk } ∧ Fr h₀ L h' m₂ ∧ News h₀ L h' ((It, oI) :: nx₂) ∧ (∀ p ∈ nx₂, p.1 ≠ It) ∧ Jn m₂ nx₂
theorem TurnQ.next {h₀ : Heap} {L : Addr} {It : Addr} {oI : Obj} {Jn : (Str → Option Value) → List (Addr × Obj) → Prop} {s : Shared} {Q : Flow → Shared → Prop} {h' : Heap} {tk : Nat} {m₂ : Str → Option Value} {nx₂ : List (Addr × Obj)}
    (F : Fr h₀ L h' m₂) (N : News h₀ L h' ((It, oI) :: nx₂)) (off : ∀ p ∈ nx₂, p.1 ≠ It) (J : Jn m₂ nx₂) : TurnQ h₀ L It oI Jn s Q .next { s with heap := h', toks := tk } := ⟨h', tk, m₂, nx₂, rfl, F, N, off, J⟩
theorem TurnQ.cont {h₀ : Heap} {L : Addr} {It : Addr} {oI : Obj} {Jn : (Str → Option Value) → List (Addr × Obj) → Prop} {s : Shared} {Q : Flow → Shared → Prop} {h' : Heap} {tk : Nat} {m₂ : Str → Option Value} {nx₂ : List (Addr × Obj)}
    (F : Fr h₀ L h' m₂) (N : News h₀ L h' ((It, oI) :: nx₂)) (off : ∀ p ∈ nx₂, p.1 ≠ It) (J : Jn m₂ nx₂) : TurnQ h₀ L It oI Jn s Q .cont { s with heap := h', toks := tk } := ⟨h', tk, m₂, nx₂, rfl, F, N, off, J⟩

section
variable {prog : Program} {w : World} {A : Around} {E : Value → Shared → Prop} {s : Shared} {env : Env} {h₀ : Heap} {target : Expr} {body : List Stmt} {Q : Flow → Shared → Prop}

theorem turns_of {I l : Addr} {fp : List Addr} {n : Nat} {P : Nat → Value → Prop} {St : Nat → Heap → Prop} {m : Str → Option Value} {news : List (Addr × Obj)} {s₂ : Shared}
    (J : Nat → (Str → Option Value) → List (Addr × Obj) → Prop) (W : Walks prog w A I fp [I] n P St)
    (hgo : ∀ i v (s : Shared) (Q : Unit → Shared → Prop) (E : Value → Shared → Prop), St i s.heap → Q () s → wpAny (model prog w) A (letOwnedTupleGo target (.ref I) v) Q E s)
    (hfp : fp = [I] ∨ (fp = [I, l] ∧ (∀ i m nx, J i m nx → ∃ o, (l, o) ∈ nx ∧ ∀ o', (l, o') ∈ nx → o' = o)) )
    (hlive : ∀ i h, St i h → ∃ o, h.get? I = some o)
    (hLf : env.locals ∉ fp) (hI : h₀.get? I = none) (hl : fp = [I, l] → h₀.get? l = none) (hnw : ∀ p ∈ news, p.1 ≠ I) (hst : St 0 s₂.heap) (F : Fr h₀ env.locals s₂.heap m) (N : News h₀ env.locals s₂.heap news) (h0 : J 0 m news)
    (hkeepl : fp = [I, l] → ∀ i m nx m' nx' o, J i m nx → J (i + 1) m' nx' → (l, o) ∈ nx → (l, o) ∈ nx')
    (turn : ∀ i v m₁ nx h tk oI, i < n → P i v → J i m₁ nx → (∀ p ∈ nx, p.1 ≠ I) → Fr h₀ env.locals h m₁ → News h₀ env.locals h ((I, oI) :: nx) →
      wpAny (model prog w) A (assign target env v) (fun _ s₃ => wpAny (model prog w) A (execs body env) (TurnQ h₀ env.locals I oI (J (i + 1)) s₂ Q) E s₃) E { s₂ with heap := h, toks := tk })
    (done : ∀ m₁ nx h tk, J n m₁ nx → Fr h₀ env.locals h m₁ → News h₀ env.locals h nx → Q .next { s₂ with heap := h, toks := tk }) :
    TurnsAt prog w A h₀ env target body Q E (.ref I) s₂ := by
  refine ⟨I, fp, [I], n, (fun i v _ => P i v), (fun i v h => P i v ∧ St (i + 1) h), St, m, news, J, rfl, KTurns.ofWalks W hgo, hLf, ?_, ?_, hst, F, N, h0, ?_, ?_⟩
  · intro b hb; rw [List.mem_singleton.mp hb]; exact hI
  · intro p hp h; exact hnw p hp (List.mem_singleton.mp h)
  · intro i v m₁ news₁ h₁ tk₁ own hi hP hJ hoff hsub hget hall hst₁ F₁ N₁
    obtain ⟨oI, heI⟩ := hlive _ _ hst₁
    have hIfp : I ∈ fp := by rcases hfp with e | e; (rw [e]; simp); (rw [e.1]; simp)
    have hIown : (I, oI) ∈ own := hall I hIfp hI oI heI
    have hoff' : ∀ p ∈ news₁, p.1 ≠ I := fun p hp e => hoff p hp (List.mem_singleton.mpr e)
    have N₂ : News h₀ env.locals h₁ ((I, oI) :: news₁) := fun p hp => by
      rcases List.mem_cons.mp hp with rfl | hp
      · exact N₁ _ (List.mem_append_left _ hIown)
      · exact N₁ p (List.mem_append_right _ hp)
    refine wpAny_mono (turn i v m₁ news₁ h₁ tk₁ oI hi hP hJ hoff' F₁ N₂) (fun _ s₃ h₃ => wpAny_mono h₃ (fun f s₄ h₄ => ?_) fun _ _ x => x) fun _ _ x => x
    have fin : (∃ h' tk m₂ nx₂, s₄ = { s₂ with heap := h', toks := tk } ∧ Fr h₀ env.locals h' m₂ ∧ News h₀ env.locals h' ((I, oI) :: nx₂) ∧ (∀ p ∈ nx₂, p.1 ≠ I) ∧ J (i + 1) m₂ nx₂) →
        LoopStepU h₀ env.locals [I] own (J (i + 1)) { s₂ with heap := h₁, toks := tk₁ } .next s₄ := by
      rintro ⟨h', tk, m₂, nx₂, rfl, F₂, N₃, off₂, J₂⟩
      refine ⟨rfl, h', tk, m₂, nx₂, rfl, F₂, ?_, fun p hp e => off₂ p hp (List.mem_singleton.mp e), J₂⟩
      intro p hp
      rcases List.mem_append.mp hp with hp | hp
      · have hpf := hsub p hp
        have hpg := hget p hp
        rcases hfp with e | ⟨e, hlu⟩
        · rw [e] at hpf
          have e1 : p.1 = I := List.mem_singleton.mp hpf
          have e2 : p.2 = oI := by rw [e1] at hpg; exact Option.some.inj (hpg.symm.trans heI)
          have : p = (I, oI) := Prod.ext e1 e2
          rw [this]; exact N₃ _ (.head _)
        · rw [e] at hpf
          rcases List.mem_cons.mp hpf with e1 | hpf
          · have e2 : p.2 = oI := by rw [e1] at hpg; exact Option.some.inj (hpg.symm.trans heI)
            have : p = (I, oI) := Prod.ext e1 e2
            rw [this]; exact N₃ _ (.head _)
          · have e1 : p.1 = l := List.mem_singleton.mp hpf
            obtain ⟨o, ho, _⟩ := hlu i m₁ news₁ hJ
            have e2 : p.2 = o := by
              have := (N₁ (l, o) (List.mem_append_right _ ho)).1
              rw [e1] at hpg
              exact Option.some.inj (hpg.symm.trans this)
            have : p = (l, o) := Prod.ext e1 e2
            rw [this]; exact N₃ _ (.tail _ (hkeepl e i m₁ news₁ m₂ nx₂ o hJ J₂ ho))
      · exact N₃ p (.tail _ hp)
    cases f with
    | ret v => exact h₄
    | brk => exact h₄
    | next => exact fin h₄
    | cont => exact fin h₄
  · intro h' tk m' news' F' N' _ hJ
    exact done m' news' h' tk hJ F' N'

theorem turns_list {l : Addr} {vs : List Value} {e : Nat} {m : Str → Option Value} {news : List (Addr × Obj)} (J : Nat → (Str → Option Value) → List (Addr × Obj) → Prop)
    (hh : A.handled = none) (F : Fr h₀ env.locals s.heap m) (N : News h₀ env.locals s.heap news) (hm : (l, W.listOf vs.toArray e) ∈ news) (h0 : J 0 m news)
    (hJ : ∀ i m nx, J i m nx → (l, W.listOf vs.toArray e) ∈ nx)
    (turn : ∀ i v m₁ nx h tk It oI, vs[i]? = some v → J i m₁ nx → (∀ p ∈ news, p.1 < It) → (∀ p ∈ nx, p.1 ≠ It) → Fr h₀ env.locals h m₁ → News h₀ env.locals h ((It, oI) :: nx) →
      wpAny (model prog w) A (assign target env v) (fun _ s₃ => wpAny (model prog w) A (execs body env) (TurnQ h₀ env.locals It oI (J (i + 1)) s Q) E s₃) E { s with heap := h, toks := tk })
    (done : ∀ m₁ nx h tk, J vs.length m₁ nx → Fr h₀ env.locals h m₁ → News h₀ env.locals h nx → Q .next { s with heap := h, toks := tk }) :
    wpAny (model prog w) A (pyIter (.ref l)) (fun it s₂ => TurnsAt prog w A h₀ env target body Q E it s₂) E s := by
  have hls : s.heap.IsList l vs.toArray := ⟨_, (N _ hm).1, rfl, _, rfl⟩
  have hlt : l < s.heap.objs.size := Heap.lt_size (N _ hm).1
  have hne : l ≠ s.heap.objs.size := Nat.ne_of_lt hlt
  refine wpAny_pyIter_list hls ?_
  have Wk := Walks.list (prog := prog) (w := w) hh s.heap.objs.size l hne vs.toArray
  have hlen : vs.toArray.size = vs.length := by simp
  rw [hlen] at Wk
  -- the invariant with one object at l
  let J' : Nat → (Str → Option Value) → List (Addr × Obj) → Prop := fun i m nx => J i m nx ∧ ∀ o', (l, o') ∈ nx → o' = W.listOf vs.toArray e
  have uniq : ∀ {h : Heap} {nx : List (Addr × Obj)}, News h₀ env.locals h nx → (l, W.listOf vs.toArray e) ∈ nx → ∀ o', (l, o') ∈ nx → o' = W.listOf vs.toArray e := fun N hm o' ho' => by
    have a := (N _ hm).1
    have b := (N _ ho').1
    rw [a] at b
    exact (Option.some.inj b).symm
  refine turns_of (l := l) (s₂ := { s with heap := s.heap.push { cls := .type "list_iterator", data := .fields #[.ref l, .int 0 0] } }) J' Wk (fun i v s' Q' E' st h => letGo_listiter st.1 h) (.inr ⟨rfl, fun i m nx hj => ⟨_, hJ i m nx hj.1, hj.2⟩⟩)
    (fun i h st => by obtain ⟨o, ho, _⟩ := st.1; exact ⟨o, ho⟩) ?_ (next_is_new F) (fun _ => (N _ hm).2.2) ?_ ⟨⟨_, Heap.get?_push_size _ rfl, rfl, rfl⟩, hls.push _⟩ (F.push _) (fun p hp => ⟨Heap.get?_push_of_some _ (N p hp).1, (N p hp).2⟩)
    ⟨h0, uniq N hm⟩ ?_ ?_ ?_
  · intro hL
    rcases List.mem_cons.mp hL with e' | hL
    · exact absurd F.ns.lt (e' ▸ Nat.lt_irrefl _)
    · exact (N _ hm).2.1 (List.mem_singleton.mp hL).symm
  · intro p hp e'
    exact absurd (Heap.lt_size (N p hp).1) (e' ▸ Nat.lt_irrefl _)
  · intro _ i m nx m' nx' o hj hj' ho
    rw [hj.2 o ho]
    exact hJ _ _ _ hj'.1
  · intro i v m₁ nx h tk oI hi hP hj hoff F₁ N₁
    refine wpAny_mono (turn i v m₁ nx h tk s.heap.objs.size oI (by simpa using hP) hj.1 (fun p hp => Heap.lt_size (N p hp).1) hoff F₁ N₁) (fun _ s₃ h₃ => wpAny_mono h₃ (fun f s₄ h₄ => ?_) fun _ _ x => x) fun _ _ x => x
    have up : (∃ h' tk m₂ nx₂, s₄ = { s with heap := h', toks := tk } ∧ Fr h₀ env.locals h' m₂ ∧ News h₀ env.locals h' ((s.heap.objs.size, oI) :: nx₂) ∧ (∀ p ∈ nx₂, p.1 ≠ s.heap.objs.size) ∧ J (i + 1) m₂ nx₂) →
        ∃ h' tk m₂ nx₂, s₄ = { s with heap := h', toks := tk } ∧ Fr h₀ env.locals h' m₂ ∧ News h₀ env.locals h' ((s.heap.objs.size, oI) :: nx₂) ∧ (∀ p ∈ nx₂, p.1 ≠ s.heap.objs.size) ∧ J' (i + 1) m₂ nx₂ := by
      rintro ⟨h', tk', m₂, nx₂, e1, F₂, N₂, off₂, J₂⟩
      exact ⟨h', tk', m₂, nx₂, e1, F₂, N₂, off₂, J₂, uniq (fun p hp => N₂ p (.tail _ hp)) (hJ _ _ _ J₂)⟩
    cases f with
    | ret v => exact h₄
    | brk => exact h₄
    | next => exact up h₄
    | cont => exact up h₄
  · intro m₁ nx h tk hj F₁ N₁
    exact done m₁ nx h tk hj.1 F₁ N₁
end
end Mine
end
-- PD
section
namespace Mine
open _root_.PySem _root_.PySem.Calls PyProof.Rows _root_.PySem.W

section
variable {M : Model} {A : Around} {E : Value → Shared → Prop} {s : Shared} {env : Env}
theorem wpC_standAt {α : Type} {pos : Pos} {t : Sem α} {Q : α → Shared → Prop} (h : wpC M A t Q E s) : wpC M A (standAt pos >>= fun _ => t) Q E s := wpC_bind (wpC_of (wpAny_standAt_unit h))
  where wpAny_standAt_unit {α : Type} {pos : Pos} {t : Sem α} {Q : α → Shared → Prop} (h : wpC M A t Q E s) : wpAny M A (standAt pos) (fun _ s' => wpC M A t Q E s') E s := wpAny_standAt h
theorem wpC_keep {α : Type} {vs : List Value} {t : Sem α} {Q : α → Shared → Prop} (h : wpC M A t Q E s) : wpC M A (t.keep vs) Q E s := fun Γ p hΓ hc => by rw [Sem.wp_keep]; exact h Γ p hΓ hc
theorem clean_enter {Γ : Ctx} {c : Code} {p q : Pos} {h : Option Value} (hd : dirty c = false) (hc : clean ((Γ.code, p) :: Γ.below) = true) : clean (((Γ.enter c h p).code, q) :: (Γ.enter c h p).below) = true := by
  show clean ((c, q) :: (Γ.code, p) :: Γ.below) = true
  unfold clean at hc ⊢
  rw [List.all_cons, hc, hd]; rfl
theorem wpC_call {f : Value} {pos : List Value} {kw : List (Str × Value)} {Q : Value → Shared → Prop}
    (hc : codeC M A (.call f ⟨pos, kw⟩) (fun r s' => match r with | .ok (.ret v) => Q v s' | .ok _ => False | .error e => E e s') s) : wpC M A (call f pos kw) Q E s := fun Γ p hΓ hcl => by
  unfold call
  rw [Sem.wp_runValue]
  exact hc _ p rfl (hΓ.enter _ none p (by intro x; cases x)) (clean_enter rfl hcl)

theorem wpC_execs_cons {st : Stmt} {rest : List Stmt} {Q : Flow → Shared → Prop} (h : wpC M A (exec st env) (fun f s' => match f with | .next => wpC M A (execs rest env) Q E s' | f => Q f s') E s) :
    wpC M A (execs (st :: rest) env) Q E s := fun Γ p hΓ hc => by
  rw [execs_cons, Sem.wp_bind']
  refine Sem.wp_mono M Γ _ (fun f p' s' h' => ?_) (fun _ _ _ h' => h') _ _ (h Γ p hΓ hc)
  cases f <;> first | exact h' Γ p' hΓ (clean_pos hc) | exact h'
theorem blockAt {P : Flow → Shared → Prop} {Q : Flow → Shared → Prop} {rest : List Stmt} (k : ∀ f s', P f s' → match f with | .next => wpC M A (execs rest env) Q E s' | f => Q f s') (Γ : Ctx) (hΓ : Γ.In A) (l : List Stmt) :
    ∀ (p : Pos) (s : Shared), clean ((Γ.code, p) :: Γ.below) = true → Sem.wp M Γ (execs l env) (fun a _ s' => P a s') (fun e _ s' => E e s') p s → Sem.wp M Γ (execs (l ++ rest) env) (fun a _ s' => Q a s') (fun e _ s' => E e s') p s := by
  induction l with
  | nil => intro p s hc z; exact k .next s z Γ p hΓ hc
  | cons st l ih =>
    intro p s hc z
    show Sem.wp M Γ (execs (st :: (l ++ rest)) env) _ _ p s
    rw [execs_cons, Sem.wp_bind'] at z ⊢
    refine Sem.wp_mono M Γ _ (fun f p' s' h' => ?_) (fun _ _ _ h' => h') _ _ z
    cases f with
    | next => exact ih p' s' (clean_pos hc) h'
    | brk => exact k _ _ h'
    | cont => exact k _ _ h'
    | ret v => exact k _ _ h'
theorem wpC_block {P : Flow → Shared → Prop} {Q : Flow → Shared → Prop} {l rest : List Stmt} (h : wpAny M A (execs l env) P E s) (k : ∀ f s', P f s' → match f with | .next => wpC M A (execs rest env) Q E s' | f => Q f s') :
    wpC M A (execs (l ++ rest) env) Q E s := fun Γ p hΓ hc => blockAt k Γ hΓ l p s hc (h Γ p hΓ)
theorem wpC_Assign_Name {x : Str} {pos' pos : Pos} {value : Expr} {Q : Flow → Shared → Prop} (h : wpC M A (eval value env) (fun v s₁ => wpAny M A (storeName env x v) (fun _ => Q .next) E s₁) E s)
    (hs : swapsWith value (some (.Name x pos')) pos.line env = pure false := by rfl) : wpC M A (exec (.Assign [.Name x pos'] value pos) env) Q E s := fun Γ p hΓ hc => by
  simp only [exec_Assign_Name env x pos' value pos hs, Sem.wp_bind', Sem.wp_cmd_standAt, Sem.wp_bindName, Sem.wp_pure']
  exact Sem.wp_mono M Γ _ (fun v _ s₁ h₁ => h₁ Γ _ hΓ) (fun _ _ _ h' => h') _ _ (h Γ _ hΓ (clean_pos hc))

theorem wpC_spliced_nil {Q : List Value → Shared → Prop} (h : Q [] s) : wpC M A (spliced []) Q E s := wpC_pure h
theorem wpC_spliced_cons {x : Sem Value} {rest : List (Bool × Sem Value)} {Q : List Value → Shared → Prop}
    (h : wpC M A x (fun v s₁ => wpC M A (spliced rest) (fun vs s₂ => Q (v :: vs) s₂) E s₁) E s) : wpC M A (spliced ((false, x) :: rest)) Q E s := by
  rw [spliced]
  refine wpC_bind (wpC_mono h (fun v s₁ h₁ => ?_) fun _ _ x => x)
  simp only [Bool.false_eq_true, if_false]
  exact wpC_bind (wpC_pure (wpC_bind (wpC_holding (wpC_mono h₁ (fun vs s₂ h₂ => wpC_pure h₂) fun _ _ x => x))))
theorem wpC_callName {P : Heap → Prop} {id : Str} {pn pos : Pos} {args : List Expr} {e : Expr} {rest : List Expr} {f : Value} {Q : Value → Shared → Prop} (hargs : args = e :: rest)
    (hf : wpAny M A (eval (.Name id pn) env) (fun f' s' => f' = f ∧ s' = s) E s)
    (hplain : (backTo pos (starEach (e :: rest) env)).any (·.1) = false)
    (he : backTo pos (starEach (e :: rest) env) = (false, eval e env) :: backTo pos (starEach rest env))
    (hk : ∀ h, P h → ∃ k, (k = Keeper.frame ∨ k = Keeper.machine ∨ k = Keeper.boundFrame) ∧ Looks M h (keeperOf f) k)
    (h : wpC M A (spliced (backTo pos (starEach (e :: rest) env))) (fun vs s₁ => P s₁.heap ∧ wpC M A (call f vs) Q E s₁) E s) :
    wpC M A (eval (.Call (.Name id pn) args [] pos) env) Q E s := by
  subst hargs
  rw [arm_eval_Call_Name']
  refine wpC_leaf hf (fun f' s' hfs => ?_)
  obtain ⟨rfl, rfl⟩ := hfs
  unfold callWith
  have hargs : wpC M A (evalArgs f' true (backTo pos (starEach (e :: rest) env)) (backToKw pos (keywordEach [] env))) (fun a s₁ => a.kw = [] ∧ P s₁.heap ∧ wpC M A (call f' a.pos a.kw) Q E s₁) E s' := by
    unfold evalArgs
    rw [he] at h ⊢
    show wpC M A (spliced ((false, eval e env) :: backTo pos (starEach rest env)) >>= _) _ E s'
    refine wpC_bind (wpC_mono h (fun vs s₁ h₁ => wpC_holding ?_) fun _ _ x => x)
    exact wpC_bind (wpC_pure (wpC_bind (wpC_pure (wpC_pure ⟨rfl, h₁⟩))))
  refine wpC_bind (wpC_holding (wpC_mono hargs (fun a s₁ h₁ => wpC_standAt ?_) fun _ _ x => x))
  obtain ⟨_, hP, hcall⟩ := h₁
  obtain ⟨k, hk', L⟩ := hk _ hP
  have hkw : (backToKw pos (keywordEach [] env)) = [] := rfl
  simp only [hplain, hkw, List.any_nil, Bool.or_false]
  refine wpC_bind (wpC_of (L.here ?_))
  have tail : ∀ {t : Sem Value}, wpC M A t Q E s₁ → wpC M A (t >>= fun r => holding [r] point >>= fun _ => pure r) Q E s₁ :=
    fun ht => wpC_bind (wpC_mono ht (fun r s₂ hr => wpC_of (wpAny_bind (wpAny_holding (wpAny_point (wpAny_pure hr))))) fun _ _ x => x)
  have marked (mk : Value) : wpC M A (callMarked mk f' ([] ++ a.pos) a.kw) Q E s₁ := by unfold callMarked; exact wpC_keep hcall
  rcases hk' with rfl | rfl | rfl <;> dsimp only <;> first | exact tail hcall | (split <;> first | exact tail hcall | exact tail (marked _))
end

section
variable {prog : Program} {w : World} {A : Around} {R : Result → Shared → Prop} {s : Shared}
theorem codeC_func {body : List Stmt} {env : Env} (h : wpC (model prog w) (A.deeper env) (execs body env) (fun f s' => R (.ok (.ret (match f with | .ret v => v | _ => .none))) s') (fun _ _ => False) s) :
    codeC (model prog w) A (.func body env) R s := by
  refine codeC_of_tree ?_
  show wpC _ (A.deeper env) (do point; match ← (execs body env).onRaise (leaving env) with | .ret v => ret v | _ => ret .none) _ _ s
  refine wpC_bind (wpC_of (wpAny_point ?_))
  refine wpC_bind (wpC_onRaise (wpC_mono h (fun f s' h' => ?_) fun _ _ h' => h'))
  cases f <;> exact wpC_pure h'
theorem codeC_call_function {a : Addr} {args : Args} {o : Obj} {fd : FuncData} {body : List Stmt} (hroom : A.depth < recursionLimit) (ho : s.heap.get? a = some o)
    (hd' : o.data = .func fd) (hco : fd.scope.isCoroutine = false) (hgen : fd.scope.isGenerator = false) (hbody : fd.body = .stmts body) (hcd : s.heap.CodeRec fd.code fd.qualname)
    (h : wpAny (model prog w) A.in1 (bindArgs fd args) (fun binds s₁ =>
      wpAny (model prog w) A.in1 (newFunctionEnv fd.scope fd.globals fd.closure binds (fd.qualname ++ ".<locals>.") (some a) fd.code none fd.builtins)
        (fun env s₂ => s₂.heap.NoLimit ∧ codeC (model prog w) A (.func body env) R s₂) (fun e s' => R (.error e) s') s₁) (fun e s' => R (.error e) s') s) :
    codeC (model prog w) A (.call (.ref a) args) R s := by
  refine codeC_of_tree ?_
  show wpC _ A.in1 (callAny (.ref a) args) _ _ s
  simp only [callAny]
  refine wpC_bind (wpC_of (wpAny_load ho ?_))
  obtain ⟨c, oc, vs, tq, hc, hoc, hdc, hq⟩ := hcd
  simp only [hd', callFunction, hco, hgen, hbody, hc]
  rw [hc] at h
  refine wpC_of ?_
  refine wpAny_bind (m := field (.ref c) 1) (wpAny_field hoc hdc hq (wpAny_bind (wpAny_pure ?_)))
  exact wpAny_bind (wpAny_mono h (fun binds s₁ h₁ => wpAny_bind (wpAny_mono h₁ (fun env s₂ h₂ => wpAny_bind (wpAny_enterFrame h₂.1 hroom
    (wpAny_pure (And.intro rfl ⟨rfl, h₂.2⟩)))) fun _ _ h' => h')) fun _ _ h' => h')
end
end Mine
end
-- PE
section
namespace Mine
open _root_.PySem _root_.PySem.Calls PyProof.Rows _root_.PySem.W

section
variable {prog : Program} {w : World} {A : Around} {R : Result → Shared → Prop} {s : Shared}
theorem codeC_call_def {a : Addr} {o : Obj} {fd : FuncData} {body : List Stmt} {args : Args} {binds : List (Str × Value)}
    (hroom : A.depth < recursionLimit) (ho : s.heap.get? a = some o) (hdata : o.data = .func fd) (hlim : s.heap.NoLimit) (hcd : s.heap.CodeRec fd.code fd.qualname)
    (hbody : fd.body = .stmts body) (hbind : BindsTo s fd args binds)
    (hcell : ∀ x ∈ fd.scope.names, x.2 ≠ .cell) (hloc : ∀ x ∈ binds, fd.scope.names.lookup x.1 = some .local)
    (h : ∀ h₀, h₀.Ns s.heap.objs.size (fun x => binds.reverse.lookup x) → (∀ b o, s.heap.get? b = some o → h₀.get? b = some o) →
      wpC (model prog w) (A.deeper (callEnv fd s.heap.objs.size a)) (execs body (callEnv fd s.heap.objs.size a)) (fun f s' => R (.ok (.ret (match f with | .ret v => v | _ => .none))) s') (fun _ _ => False)
        { s with heap := h₀, toks := s.toks + binds.length })
    (hco : fd.scope.isCoroutine = false := by rfl) (hgen : fd.scope.isGenerator = false := by rfl) (hk : fd.scope.kind = .function := by rfl) :
    codeC (model prog w) A (.call (.ref a) args) R s := by
  refine codeC_call_function hroom ho hdata hco hgen hbody hcd (hbind _ _ _ _ ?_)
  refine wpAny_newFunctionEnv hcell hloc (fun h₀ hns₀ hsb₀ => ⟨hlim.fresh _ hsb₀, codeC_func (h h₀ hns₀ fun b o e => ?_)⟩) hk
  exact hsb₀.extBut b o (Nat.ne_of_lt (Heap.lt_size e)) (Heap.get?_push_of_some _ e)
end

section
variable {prog : Program} {w : World} {A₀ A : Around} {s : Shared} {base h₀ : Heap} {outer : List Env} {L : Addr} {m mg mb : Str → Option Value} {env : Env} {news : List (Addr × Obj)} {K : Frag} {p : Program} {loose : List Str} {mean : ExcName → Option Value}
  {R : Result → Shared → Prop} {name qual : Str} {params : Arguments} {body : List Stmt} {scope : Scope} {dV kV doc pm cdv ct oc : Value} {an od : Option Addr} {osl : Array (Option Value)} {f : Addr} {args : Args} {binds : List (Str × Value)}

theorem codeC_def (B : Below A₀ base outer h₀) (F : Fr h₀ L s.heap m) (X₀ : K.In h₀) (N : News h₀ L s.heap news) (T : Top p loose mean mg mb h₀) (hA : A.frames = some (env :: outer)) (hf : env.frame = some L) (hke : env.scope.kind = .function)
    (ho : K.lookup f = some ⟨oc, od, .func (fnOf name qual params body scope dV kV doc pm an cdv ct), osl⟩) (hcd : codeIn K cdv qual = true) (hroom : A.depth < recursionLimit)
    (hbind : BindsTo s (fnOf name qual params body scope dV kV doc pm an cdv ct) args binds) (hloc : ∀ y ∈ binds, scope.names.lookup y.1 = some .local)
    (h : ∀ g L' h₁, Fr h₀ L g m → Fr g L' h₁ (fun y => binds.reverse.lookup y) → News g L' h₁ news → Below A base (env :: outer) g → K.In g → Top p loose mean mg mb g → (∀ p ∈ news, p.1 < L') →
      wpC (model prog w) (A.deeper (envOf qual scope L' f cdv)) (execs body (envOf qual scope L' f cdv))
        (fun fl s' => LeaveK h₀ L m g R (match fl with | .ret v => v | _ => .none) s') (fun _ _ => False)
        { s with heap := h₁, toks := s.toks + binds.length })
    (hco : scope.isCoroutine = false) (hgen : scope.isGenerator = false) (hk : scope.kind = .function)
    (hcell : ∀ x ∈ scope.names, x.2 ≠ .cell) : codeC (model prog w) A (.call (.ref f) args) R s := by
  obtain ⟨FG, BG, st, lv⟩ := groundX (R := R) B F N hA hf hke
  refine codeC_call_def (fd := fnX name qual params body scope [] dV kV doc pm an cdv ct) (body := body) (binds := binds) hroom ((X₀.keeps F.keep) _ _ ho) rfl (T.nolimit.keeps F.keep) (codeRec_of (X₀.keeps F.keep) hcd) rfl hbind hcell hloc (fun h₁ hns hk₁ => ?_) hco hgen hk
  exact wpC_mono (h _ s.heap.objs.size h₁ FG ⟨hns, fun b o e => hk₁ b o (of_hideAll _ e), Nat.le_of_eq (hideAll_size _ _)⟩
    (fun p hp => ⟨hk₁ _ _ (N p hp).1, Nat.ne_of_lt (Heap.lt_size (N p hp).1), hideAll_none _ (List.mem_map_of_mem hp)⟩) BG (X₀.keeps st) (T.keeps st) fun p hp => Heap.lt_size (N p hp).1) (fun fl s' hl => lv _ _ hl) fun _ _ y => y

theorem codeC_defC (B : Below A₀ base outer h₀) (F : Fr h₀ L s.heap m) (X₀ : K.In h₀) (N : News h₀ L s.heap news) (T : Top p loose mean mg mb h₀) (hA : A.frames = some (env :: outer)) (hf : env.frame = some L) (hke : env.scope.kind = .function)
    (ho : K.lookup f = some ⟨oc, od, .func (fnOf name qual params body scope dV kV doc pm an cdv ct), osl⟩) (hcd : codeIn K cdv qual = true) (hroom : A.depth < recursionLimit)
    (hbind : BindsTo s (fnOf name qual params body scope dV kV doc pm an cdv ct) args binds) (hkind : (binds.all fun y => scope.names.lookup y.1 == some .local || scope.names.lookup y.1 == some .cell) = true)
    (hnd : ((cellsFrom 0 scope.names []).map (·.1)).Nodup)
    (h : ∀ g L' h₁ tk cells, Fr h₀ L g m → Fr g L' h₁ (bindL (envOfC qual scope L' f cdv).kindOf binds fun _ => none) → News g L' h₁ (cells ++ news) →
      CellsAre (bindC (envOfC qual scope L' f cdv).kindOf binds fun _ => none) (cellsFrom (L' + 1) scope.names []) cells → Below A base (env :: outer) g → K.In g → Top p loose mean mg mb g → (∀ p ∈ news, p.1 < L') →
      wpC (model prog w) (A.deeper (envOfC qual scope L' f cdv)) (execs body (envOfC qual scope L' f cdv))
        (fun fl s' => LeaveK h₀ L m g R (match fl with | .ret v => v | _ => .none) s') (fun _ _ => False)
        { s with heap := h₁, toks := tk })
    (hco : scope.isCoroutine = false) (hgen : scope.isGenerator = false) (hk : scope.kind = .function) : codeC (model prog w) A (.call (.ref f) args) R s := by
  obtain ⟨FG, BG, st, lv⟩ := groundX (R := R) B F N hA hf hke
  refine codeC_call_function (fd := fnX name qual params body scope [] dV kV doc pm an cdv ct) hroom ((X₀.keeps F.keep) _ _ ho) rfl hco hgen rfl (codeRec_of (X₀.keeps F.keep) hcd) (hbind _ _ _ _ ?_)
  refine wpAny_newFunctionEnv_cells hk (kindsX hkind _) fun env' he s' x => ?_
  subst he
  refine ⟨(T.nolimit.keeps F.keep).keeps x.toInCall.keep, codeC_func ?_⟩
  obtain ⟨h₁, tk, rfl, _⟩ := x.done
  have hk₁ := x.toInCall.keep
  obtain ⟨cells, NC, Y⟩ := Cl.news (h₀ := s.heap) (Nat.le_refl _) fun n c hm => ⟨x.cell n c (lookup_of_mem_nodup (cellsFrom_names scope.names 0 (s.heap.objs.size + 1) [] [] rfl ▸ hnd) hm), x.above n c hm⟩
  refine wpC_mono (h _ s.heap.objs.size h₁ tk cells FG ⟨x.toInCall.ns, fun b o e => hk₁ b o (of_hideAll _ e), Nat.le_of_eq (hideAll_size _ _)⟩ (fun p hp => ?_) Y BG (X₀.keeps st) (T.keeps st) (fun p hp => Heap.lt_size (N p hp).1)) (fun fl s' hl => lv _ _ hl) fun _ _ y => y
  rcases List.mem_append.mp hp with hp | hp
  · refine ⟨(NC p hp).1, (NC p hp).2.1, ?_⟩
    cases q : (hideAll s.heap (news.map (·.1))).get? p.1 with
    | none => rfl
    | some o => have := of_hideAll _ q; rw [(NC p hp).2.2] at this; cases this
  · exact ⟨hk₁ _ _ (N p hp).1, Nat.ne_of_lt (Heap.lt_size (N p hp).1), hideAll_none _ (List.mem_map_of_mem hp)⟩
end

/-! bytearray -/
section
open Builtin.Bytes
variable {M : Model} {prog : Program} {w : World} {A : Around} {E : Value → Shared → Prop} {s : Shared}
theorem ba_mro : mroOf (.type "bytearray") = pure [.type "bytearray", .type "object"] := by rw [mroOf_type]; kernel_rfl
theorem ba_lookup_new : typeLookup (.type "bytearray") "__new__" = pure (some (.builtin "bytearray.__new__")) := by rw [typeLookup_type, builtinLookup_eq_fast]; kernel_rfl
theorem ba_slot_init : Slot "bytearray" "__init__" "bytearray.__init__" := .of (owner := "bytearray") (n := "__init__") (by rw [typeLookup_type, builtinLookup_eq_fast]; kernel_rfl) (by decide +kernel) (by decide +kernel) (by decide +kernel)
  (by first | exact .inl (by decide +kernel) | exact .inr (by decide +kernel)) (by rw [isSubtype_type]; kernel_rfl)
theorem ba_called : TypeCalled "bytearray" "bytearray.__new__" "bytearray.__init__" :=
  ⟨by decide +kernel, by decide +kernel, ⟨_, _, ba_mro⟩, madeBy_type ba_mro ba_lookup_new (by decide +kernel), by decide +kernel, by rw [isSubtype_type]; kernel_rfl, ba_slot_init⟩
theorem ba_typeCall (a : Value) : checkTypeCall "bytearray" ⟨[a], []⟩ = pure () := by kernel_rfl
theorem ba_newCall (a : Value) : checkBuiltinCall "bytearray.__new__" ⟨[.type "bytearray", a], []⟩ = pure () := by kernel_rfl
theorem ba_plain_new : plainId "bytearray.__new__" = true := by decide +kernel
theorem ba_plain_init : plainId "bytearray.__init__" = true := by decide +kernel
theorem ba_alias : Manifest.canonical (String.map (fun c : Char => if (c.isAlphanum || c == '_' || c == '.') = true then c else '_') "bytearray.__new__") ++ "" = "list.__new__" := by
  rw [show String.map (fun c : Char => if (c.isAlphanum || c == '_' || c == '.') = true then c else '_') "bytearray.__new__" = "bytearray.__new__" from by kernel_rfl, _root_.PySem.W.Fast.canonicalQ_eq]
  kernel_rfl
theorem ba_entry_new : entryFor table "bytearray.__new__" = some Builtin.«list.__new__» := entryFor_alias (id' := "list.__new__") (by rw [fastTable_eq_tree]; kernel_rfl) (by decide +kernel) ba_alias (by rw [fastTable_eq_tree]; kernel_rfl)
theorem ba_entry_init : entryFor table "bytearray.__init__" = some Builtin.«bytearray.__init__» := entryFor_of_tree (by kernel_rfl)
theorem ba_bind (v : Value) : bindOptional "bytearray.__init__" "bytearray" ["source", "encoding", "errors"] [v] [] = pure [some v, none, none] := by kernel_rfl
theorem ba_initArgs (o a : Value) : argsOk "bytearray.__init__" ⟨[o, a], []⟩ := by unfold argsOk; kernel_rfl
set_option maxRecDepth 1000000 in
set_option maxHeartbeats 4000000 in
theorem ba_owner : ("bytearray.__new__".splitOn ".__new__").headD "" = "bytearray" := by simp +decide [String.splitOn, String.splitOnAux]
theorem ba_sub : isSubtype (.type "bytearray") (.type "bytearray") = pure true := by rw [isSubtype_type]; kernel_rfl
end
end Mine
end
-- PF
section
namespace Mine
open _root_.PySem _root_.PySem.Calls PyProof.Rows _root_.PySem.W

noncomputable abbrev baO (b : Array UInt8) : Obj := { cls := .type "bytearray", data := .bytearray b }

section
open Builtin.Bytes
variable {M : Model} {prog : Program} {w : World} {A : Around} {E : Value → Shared → Prop} {s : Shared}

theorem wpC_if_false {α : Type} {c : Bool} {a b : Sem α} {Q : α → Shared → Prop} (hc : c = false) (h : wpC M A b Q E s) : wpC M A (if c = true then a else b) Q E s := by subst hc; exact h
theorem wpC_if_true {α : Type} {c : Bool} {a b : Sem α} {Q : α → Shared → Prop} (hc : c = true) (h : wpC M A a Q E s) : wpC M A (if c = true then a else b) Q E s := by subst hc; exact h
theorem wpC_of_eq {α : Type} {t : Sem α} {a : α} {Q : α → Shared → Prop} (h : t = pure a) (k : Q a s) : wpC M A t Q E s := by subst h; exact wpC_pure k

theorem exported_clean (self : Value) {l : List (Code × Pos)} (hg : guardsOf l = []) (hc : clean l = true) : (l.any fun
    | (.builtin "bytearray.__contains__" ⟨v :: _, _⟩, _) | (.builtin "bytearray.__mod__" ⟨v :: _, _⟩, _)
    | (.builtin "bytearray.__rmod__" ⟨_ :: v :: _, _⟩, _) | (.builtin "_struct.pack_into.held" ⟨v :: _, _⟩, _) => Builtin.Bytes.sameRef v self
    | (.builtin "bytearray.find.held" ⟨_ :: _ :: held, _⟩, _) => held.any (Builtin.Bytes.sameRef self)
    | (.builtin id ⟨v :: _, _⟩, _) => Builtin.Bytes.sameRef v self && decodersThatHold.contains id
    | _ => false) = false := by
  induction l with
  | nil => rfl
  | cons x l ih =>
    obtain ⟨c, p⟩ := x
    rw [guardsOf_cons] at hg
    obtain ⟨g1, g2⟩ := List.append_eq_nil_iff.mp hg
    unfold clean at hc
    rw [List.all_cons, Bool.and_eq_true] at hc
    rw [List.any_cons, ih g2 hc.2, Bool.or_false]
    have hng : c.isGuard = false := by
      unfold Code.guards at g1
      cases h : c.isGuard with
      | false => rfl
      | true => rw [h] at g1; simp at g1
    have hnd : dirty c = false := by simpa using hc.1
    clear ih hc hg g1 g2 l
    cases c <;> try rfl
    rename_i id args
    obtain ⟨pos, kw⟩ := args
    have n1 : ¬ id = "bytearray.__contains__" := by rintro rfl; exact absurd hng (by show ¬ guardIds.contains "bytearray.__contains__" = false; decide +kernel)
    have n2 : ¬ id = "bytearray.__mod__" := by rintro rfl; exact absurd hng (by show ¬ guardIds.contains "bytearray.__mod__" = false; decide +kernel)
    have n3 : ¬ id = "bytearray.__rmod__" := by rintro rfl; exact absurd hng (by show ¬ guardIds.contains "bytearray.__rmod__" = false; decide +kernel)
    have n4 : ¬ id = "_struct.pack_into.held" := by rintro rfl; exact absurd hng (by show ¬ guardIds.contains "_struct.pack_into.held" = false; decide +kernel)
    have n5 : ¬ id = "bytearray.find.held" := by rintro rfl; exact absurd hng (by show ¬ guardIds.contains "bytearray.find.held" = false; decide +kernel)
    have hd : decodersThatHold.contains id = false := hnd
    clear hng hnd
    delta exported_clean.match_1
    delta exported_clean._sparseCasesOn_1
    refine Eq.trans (dif_neg n1) ?_
    refine Eq.trans (dif_neg n2) ?_
    refine Eq.trans (dif_neg n3) ?_
    refine Eq.trans (dif_neg n4) ?_
    refine Eq.trans (dif_neg n5) ?_
    cases pos with
    | nil => rfl
    | cons v pos =>
      show (Builtin.Bytes.sameRef v self && decodersThatHold.contains id) = false
      rw [hd, Bool.and_false]
theorem wpC_exported {self : Value} {Q : Bool → Shared → Prop} (hg : A.guards = some []) (h : Q false s) : wpC M A (exported self) Q E s := fun Γ p hΓ hc => by
  have e := exported_clean self (l := (Γ.code, p) :: Γ.below) (by rw [guardsOf_cons]; exact hΓ.2.2.2.1 _ hg) hc
  unfold exported
  show Q _ s
  exact cast (congrArg (fun b => Q b s) e.symm) h

theorem ba_upd {a : Addr} {b : Array UInt8} {f : Array UInt8 → Array UInt8} {Q : Unit → Shared → Prop} (hS : s.heap.get? a = some (baO b)) (hz : (f b).size ≤ sizeLine)
    (h : ∀ h', h'.get? a = some (baO (f b)) → Heap.SameBut a s.heap h' → Q () { s with heap := h' }) : wpAny M A (write (.ref a) f) Q E s := by
  show wpAny M A (updateBytearray a f) Q E s
  unfold updateBytearray
  refine wpAny_bind (wpAny_load hS ?_)
  show wpAny _ _ (update a (Obj.mapBytearray f) >>= fun _ => lookBehind a) _ _ _
  refine wpAny_bind (wpAny_update hS ?_)
  have hS₂ : (s.heap.update a (Obj.mapBytearray f)).get? a = some (baO (f b)) := Heap.get?_update_self (Obj.mapBytearray f) hS rfl
  refine wpAny_lookBehind hS₂ ?_ (h _ hS₂ (Heap.SameBut.update ..))
  show (if (f b).size > sizeLine then some "bytearray:memory" else none) = none
  rw [if_neg (Nat.not_lt.mpr hz)]

theorem ba_release : typeLookup (.type "bytearray") "__release_buffer__" = pure (some (.builtin "bytearray.__release_buffer__")) := by rw [typeLookup_type, builtinLookup_eq_fast]; kernel_rfl
theorem ba_ends : ("bytearray.__release_buffer__".endsWith ("." ++ "__release_buffer__")) = true := by decide +kernel
theorem ba_drop : ("bytearray.__release_buffer__".dropRight ("__release_buffer__".length + 1)) = "bytearray" := by decide +kernel
theorem ba_ownRelease {a : Addr} {Q : Bool → Shared → Prop} (hT : s.TypeIs (.ref a) "bytearray") (h : Q false s) : wpAny M A (ownRelease (.ref a)) Q E s := by
  unfold ownRelease slotIsOwn
  refine wpAny_bind (wpAny_bind (wpAny_specialOf hT ba_release ?_))
  dsimp only
  rw [ba_ends]
  simp only [Bool.not_true, Bool.false_eq_true, if_false]
  rw [ba_drop]
  refine wpAny_isInstance hT ba_sub ?_
  exact wpAny_pure h

theorem ba_no_bytes : typeLookup (.type "bytearray") "__bytes__" = pure none := by rw [typeLookup_type, builtinLookup_eq_fast]; kernel_rfl
theorem ba_no_index : typeLookup (.type "bytearray") "__index__" = pure none := by rw [typeLookup_type, builtinLookup_eq_fast]; kernel_rfl
theorem ba_buffer : typeLookup (.type "bytearray") "__buffer__" = pure (some (.builtin "bytearray.__buffer__")) := by rw [typeLookup_type, builtinLookup_eq_fast]; kernel_rfl
theorem int_index : typeLookup (.type "int") "__index__" = pure (some (.builtin "int.__index__")) := by rw [typeLookup_type, builtinLookup_eq_fast]; kernel_rfl

theorem ba_init_tree {S : Addr} {n : Nat} {t : Tok} {Q : PySem.Fin → Shared → Prop} (hg : A.guards = some []) (hS : s.heap.get? S = some (baO #[])) (h0 : 0 < n) (hn : n ≤ 1000)
    (h : ∀ h', h'.get? S = some (baO (Array.replicate n 0)) → Heap.SameBut S s.heap h' → Q (.done (.ret .none)) { s with heap := h' }) :
    wpC M A (Builtin.«bytearray.__init__» ⟨[.ref S, .int n t], []⟩) Q E s := by
  have hT : s.TypeIs (.ref S) "bytearray" := ⟨_, hS, rfl⟩
  unfold Builtin.«bytearray.__init__»
  refine wpC_bind (wpC_of (ba_ownRelease hT ?_))
  refine wpC_if_false rfl ?_
  refine wpC_bind (wpC_of_eq (ba_bind _) ?_)
  refine wpC_bind (wpC_of_eq (a := ()) rfl ?_)
  refine wpC_bind (wpC_of_eq (a := ()) rfl ?_)
  refine wpC_bind (wpC_bind (wpC_exported hg ?_))
  refine wpC_of ?_
  refine wpAny_bind (wpAny_bind (wpAny_load hS (wpAny_pure ?_)))
  refine wpAny_pure ?_
  refine wpC_of ?_
  have hstr : asStr? (.int (n : Int) t) = pure none := by unfold asStr? notAStandIn; rfl
  have hidx : asIndex (.int (n : Int) t) = pure (n : Int) := rfl
  have hsp : specialOf (.int (n : Int) t) (Str.ofString "__index__") = pure (some (.builtin "int.__index__")) := by
    have e1 : typeOf (.int (n : Int) t) = pure (.type "int") := rfl
    simp only [specialOf, e1, pure_bind]
    exact int_index
  have hatt : (pure (n : Int) : Sem Int).attempt = pure (.ok (n : Int)) := rfl
  have hfit : fitsIndex (n : Int) = true := by
    simp only [fitsIndex, Bool.and_eq_true, decide_eq_true_eq]; omega
  have hneg : ¬ ((n : Int) < 0) := by omega
  have hmax : ((n : Int) == 2 ^ 63 - 1) = false := by simp only [beq_eq_false_iff_ne, ne_eq]; omega
  have hlong : tooLong n = false := by
    simp only [tooLong, decide_eq_false_iff_not, sizeLine_eq]; omega
  have hpos : (n : Int) > 0 := by omega
  have hnn : (n : Int).toNat = n := rfl
  simp only [hstr, hsp, hidx, hatt, hfit, hneg, hmax, hlong, hpos, hnn, pure_bind, Option.isSome_none, Option.isSome_some, Bool.not_true, Bool.false_eq_true, if_false, if_true]
  refine bm_if_false (by decide) ?_
  refine wpAny_bind (ba_upd hS (by simp) fun h1 e1 s1 => ?_)
  refine wpAny_bind (wpAny_rule ?_)
  refine wpAny_bind (ba_upd e1 (by simp [sizeLine_eq]; omega) fun h2 e2 s2 => ?_)
  exact wpAny_pure (h h2 e2 (s1.trans s2))

theorem ba_new_code (a : Value) {Q₁ : Value → Shared → Prop} (h : Q₁ (.ref s.heap.objs.size) { s with heap := s.heap.push (baO #[]) }) :
    codeAny (model prog w) A (.call (.builtin "bytearray.__new__") ⟨[.type "bytearray", a], []⟩) (wants Q₁ E) s := by
  refine codeAny_of_tree ?_
  show wpAny _ A.in1 (do checkBuiltinCall "bytearray.__new__" ⟨[.type "bytearray", a], []⟩; again (.builtin "bytearray.__new__" ⟨[.type "bytearray", a], []⟩)) _ _ s
  refine wpAny_bind (wpAny_of_eq (ba_newCall a) (wpAny_pure ⟨plainId_quiet ba_plain_new _, codeAny_builtin_stack ba_entry_new rfl fun p st => ?_⟩))
  rw [Around.under_plainId ba_plain_new _]
  have hsub := ba_sub
  have hown := ba_owner
  obtain ⟨hp, g, d, tk, os⟩ := s
  simp only [hown]
  wp_walk
  exact h

theorem codeC_builtin {id : String} {args : Args} {b : Builtin} {R : Result → Shared → Prop} (hb : entryFor table id = some b)
    (h : wpC (model prog w) (A.under (.builtin id args)) (b args) (fun fin s' => match fin with | .done f => R (.ok f) s' | .again c' => c'.quiet = true ∧ dirty c' = false ∧ codeC (model prog w) A c' R s') (fun e s' => R (.error e) s') s) :
    codeC (model prog w) A (.builtin id args) R s := by
  refine codeC_of_tree ?_
  show wpC _ _ (match entryFor table id with | some b => b args | none => unsupported ((withoutEnding? id "#data").getD id)) _ _ s
  rw [hb]; exact h

theorem ba_init_code {S : Addr} {n : Nat} {t : Tok} {Q : Value → Shared → Prop} (hg : A.guards = some []) (hS : s.heap.get? S = some (baO #[])) (h0 : 0 < n) (hn : n ≤ 1000)
    (h : ∀ h', h'.get? S = some (baO (Array.replicate n 0)) → Heap.SameBut S s.heap h' → Q .none { s with heap := h' }) :
    codeC (model prog w) A (.call (.builtin "bytearray.__init__") ⟨[.ref S, .int n t], []⟩) (fun r s' => match r with | .ok (.ret v) => Q v s' | .ok _ => False | .error e => E e s') s := by
  have hT : s.TypeIs (.ref S) "bytearray" := ⟨_, hS, rfl⟩
  refine codeC_of_tree ?_
  show wpC _ A.in1 (do checkBuiltinCall "bytearray.__init__" ⟨[.ref S, .int n t], []⟩; again (.builtin "bytearray.__init__" ⟨[.ref S, .int n t], []⟩)) _ _ s
  refine wpC_bind (wpC_of (ba_slot_init.check _ _ _ _ _ _ _ _ hT (ba_initArgs _ _) ?_))
  refine wpC_pure ⟨plainId_quiet ba_plain_init _, (by show decodersThatHold.contains "bytearray.__init__" = false; decide +kernel), codeC_builtin ba_entry_init ?_⟩
  rw [Around.under_plainId ba_plain_init _]
  exact ba_init_tree hg hS h0 hn fun h' e1 e2 => h h' e1 e2

end
end Mine
end
-- PG
section
namespace Mine
open _root_.PySem _root_.PySem.Calls PyProof.Rows _root_.PySem.W
section
open Builtin.Bytes
variable {M : Model} {prog : Program} {w : World} {A : Around} {E : Value → Shared → Prop} {s : Shared}
set_option maxHeartbeats 4000000 in
theorem ba_call {n : Nat} {t : Tok} {Q : Value → Shared → Prop} (hg : A.guards = some []) (h0 : 0 < n) (hn : n ≤ 1000)
    (h : ∀ h', h'.get? s.heap.objs.size = some (baO (Array.replicate n 0)) → (∀ b o, s.heap.get? b = some o → h'.get? b = some o) → Q (.ref s.heap.objs.size) { s with heap := h' }) :
    wpC (model prog w) A (call (.type "bytearray") [.int n t]) Q E s := by
  refine wpC_call (codeC_of_tree ?_)
  show wpC _ _ (callAny (.type "bytearray") _) _ _ _
  refine wpC_pure ⟨Code.quiet_builtin _ (by decide +kernel), (by show decodersThatHold.contains "type.__call__" = false; decide +kernel), codeC_builtin F.entry_type_call ?_⟩
  rw [Around.under_plain (weight_type_call_type "bytearray" [.int n t] []) rfl]
  have h1 := ba_called.notType
  have h2 := ba_called.canCreate
  have h3 := ba_typeCall (.int n t)
  have h4 := ba_mro
  have h5 := ba_called.made
  dsimp only
  unfold Builtin.«type.__call__»
  simp only [h1, h2, h3, h4, h5, pure_bind, List.isEmpty_cons, Bool.false_eq_true, if_false]
  refine wpC_bind ?_
  refine wpC_holding ?_
  refine wpC_call ?_
  refine codeC_mono (codeC_of (ba_new_code (w := w) (prog := prog) (A := A.in1) (E := fun _ _ => False) (s := s) (.int n t) (Q₁ := fun v s' => v = .ref s.heap.objs.size ∧ s' = { s with heap := s.heap.push (baO #[]) }) ⟨rfl, rfl⟩)) ?_
  intro r s₁ hr
  cases r with
  | error e => exact hr.elim
  | ok fl =>
    cases fl with
    | ret obj =>
      obtain ⟨rfl, rfl⟩ := hr
      dsimp only
      have hS : (s.heap.push (baO #[])).get? s.heap.objs.size = some (baO #[]) := Heap.get?_push_at rfl rfl
      have hT : ({ s with heap := s.heap.push (baO #[]) } : Shared).TypeIs (.ref s.heap.objs.size) "bytearray" := ⟨_, hS, rfl⟩
      refine wpC_bind ?_
      refine wpC_of ?_
      refine wpAny_isInstance hT ba_sub ?_
      simp only [Bool.not_true, Bool.false_eq_true, if_false]
      refine wpC_bind ?_
      refine wpC_holding ?_
      unfold callSpecial?
      refine wpC_bind ?_
      refine wpC_of ?_
      refine wpAny_specialOf hT ba_slot_init.lookup ?_
      dsimp only
      refine wpC_holding ?_
      rw [ba_slot_init.bind]
      simp only [pure_bind]
      refine wpC_bind ?_
      refine wpC_call ?_
      refine codeC_mono (ba_init_code (prog := prog) (w := w) (A := A.in1) (E := fun _ _ => False) (s := { s with heap := s.heap.push (baO #[]) }) (t := t) (Q := fun v s' => ∃ h', v = .none ∧ h'.get? s.heap.objs.size = some (baO (Array.replicate n 0)) ∧ Heap.SameBut s.heap.objs.size (s.heap.push (baO #[])) h' ∧ s' = { s with heap := h' }) (by exact hg) hS h0 hn fun h' e1 e2 => ⟨h', rfl, e1, e2, rfl⟩) ?_
      intro r s₂ hr
      cases r with
      | error e => exact hr.elim
      | ok fl =>
        rcases fl with _ | _ | _ | v
        all_goals first | exact hr.elim | skip
        obtain ⟨h', rfl, e1, e2, rfl⟩ := hr
        dsimp only
        refine wpC_pure ?_
        dsimp only
        refine wpC_if_false (by rfl) ?_
        refine wpC_pure ?_
        exact h h' e1 fun b o e => (e2.2 b (Nat.ne_of_lt (Heap.lt_size e))).trans (Heap.get?_push_of_some _ e)
    | _ => exact hr.elim
end
end Mine
end
-- PH
section
namespace Mine
open _root_.PySem _root_.PySem.Calls PyProof.Rows _root_.PySem.W
section
open Builtin.Bytes
variable {M : Model} {prog : Program} {w : World} {A : Around} {E : Value → Shared → Prop} {s : Shared}

theorem ba_slot_set : Slot "bytearray" "__setitem__" "bytearray.__setitem__" := .of (owner := "bytearray") (n := "__setitem__") (by rw [typeLookup_type, builtinLookup_eq_fast]; kernel_rfl) (by decide +kernel) (by decide +kernel) (by decide +kernel)
  (by first | exact .inl (by decide +kernel) | exact .inr (by decide +kernel)) (by rw [isSubtype_type]; kernel_rfl)
theorem ba_entry_set : entryFor table "bytearray.__setitem__" = some Builtin.«bytearray.__setitem__» := entryFor_of_tree (by kernel_rfl)
theorem ba_args_set (o a b : Value) : argsOk "bytearray.__setitem__" ⟨[o, a, b], []⟩ := by unfold argsOk; kernel_rfl

theorem ba_setItem {S : Addr} {b : Array UInt8} {k : Nat} {c : Int} {t u : Tok} {Q : Unit → Shared → Prop} (hS : s.heap.get? S = some (baO b)) (hb : b.size ≤ 1000) (hk : k < b.size) (h0 : 0 ≤ c) (h1 : c < 256)
    (h : ∀ h', h'.get? S = some (baO (b.setIfInBounds k c.toNat.toUInt8)) → Heap.SameBut S s.heap h' → Q () { s with heap := h' }) :
    wpAny (model prog w) A (setItem (.ref S) (.int k t) (.int c u)) Q E s := by
  have hT : s.TypeIs (.ref S) "bytearray" := ⟨_, hS, rfl⟩
  unfold setItem
  try with_reducible refine wpAny_holding ?_
  first | refine wpAny_bind (wpAny_pure ?_) | skip
  refine wpAny_bind (wpAny_sequenceKey hT (by decide) ?_)
  refine wpAny_bind (wpAny_callSpecial?_slot (name := Str.ofString "__setitem__") hT ba_slot_set (wpAny_call_entry ba_slot_set hT ba_entry_set ?_ (ba_args_set _ _ _)))
  have hsp : specialOf (.int (k : Int) t) (Str.ofString "__index__") = pure (some (.builtin "int.__index__")) := by
    have e1 : typeOf (.int (k : Int) t) = pure (.type "int") := rfl
    simp only [specialOf, e1, pure_bind]
    exact int_index
  have hidx : asIndex (.int (k : Int) t) = pure (k : Int) := rfl
  have hidc : asIndex (.int c u) = pure c := rfl
  have hfit : fitsIndex (k : Int) = true := by
    simp only [fitsIndex, Bool.and_eq_true, decide_eq_true_eq]; omega
  have hbv : byteValue (.int c u) = pure c.toNat.toUInt8 := by
    unfold byteValue
    rw [hidc]
    simp only [pure_bind]
    rw [if_neg (by simp only [Bool.or_eq_true, decide_eq_true_eq]; omega)]
  have hsub : subscript? (.int (k : Int) t) = pure (some (k : Int)) := by
    unfold subscript?
    simp only [hsp, hidx, hfit, pure_bind, Option.isNone_some, Bool.not_true, Bool.false_eq_true, if_false]
  have hseq : seqIndex? (k : Int) b.size = some k := by
    unfold seqIndex?
    have hn0 : ¬ ((k : Int) < 0) := by omega
    simp [hn0]
    omega
  show wpAny _ A.in1 (Builtin.«bytearray.__setitem__» ⟨[.ref S, .int k t, .int c u], []⟩) _ _ _
  unfold Builtin.«bytearray.__setitem__»
  simp only [hsub, hbv, pure_bind, List.isEmpty_nil, Bool.not_true, Bool.false_eq_true, if_false]
  refine wpAny_bind ?_
  unfold payload payload?
  refine wpAny_bind (wpAny_bind (wpAny_load hS (wpAny_pure (wpAny_pure ?_))))
  simp only [hseq]
  refine wpAny_bind (ba_upd hS (by simp [sizeLine_eq]; omega) fun h' e1 e2 => ?_)
  exact wpAny_pure ⟨_, rfl, wpAny_pure (h h' e1 e2)⟩

theorem ba_bytesNew {S : Addr} {b : Array UInt8} {Q : Value → Shared → Prop} (hS : s.heap.get? S = some (baO b)) (hb : b.size ≤ 1000)
    (hQ : ∀ t k, Q (.bytes b t) { s with toks := k }) :
    codeAny (model prog w) A (.call (.builtin "bytes.__new__") ⟨[.type "bytes", .ref S], []⟩) (wants Q E) s := by
  have hT : s.TypeIs (.ref S) "bytearray" := ⟨_, hS, rfl⟩
  refine codeAny_of_tree ?_
  show wpAny _ A.in1 (do checkBuiltinCall "bytes.__new__" ⟨[.type "bytes", .ref S], []⟩; again (.builtin "bytes.__new__" ⟨[.type "bytes", .ref S], []⟩)) _ _ s
  refine wpAny_bind (wpAny_of_eq (F.bm_newCall _) (wpAny_pure ⟨plainId_quiet F.bm_plain _, codeAny_builtin F.bm_entry ?_⟩))
  rw [Around.under_plainId F.bm_plain _]
  unfold Builtin.«bytes.__new__»
  refine wpAny_bind (wpAny_of_eq (a := true) rfl ?_)
  refine bm_if_false rfl ?_
  refine wpAny_bind (wpAny_of_eq F.bm_sub ?_)
  refine bm_if_false rfl ?_
  refine wpAny_bind (wpAny_of_eq (F.bm_bind _) ?_)
  refine wpAny_bind (wpAny_of_eq (a := ()) rfl ?_)
  refine wpAny_bind (wpAny_of_eq (a := ()) rfl ?_)
  refine bm_if_false rfl ?_
  refine wpAny_bind (wpAny_specialOf hT ba_no_bytes ?_)
  refine wpAny_bind (wpAny_bind ?_)
  show wpAny _ _ (load S >>= _) _ _ _
  refine wpAny_bind (wpAny_load hS ?_)
  refine wpAny_pure (wpAny_pure ?_)
  refine bm_if_false rfl ?_
  refine wpAny_bind (wpAny_specialOf hT ba_no_index ?_)
  refine bm_if_true rfl ?_
  first
    | show wpAny _ _ (Builtin.Bytes.buffer? "bytes.__new__" (.ref S) true >>= _) _ _ _
    | (refine wpAny_bind ?_; show wpAny _ _ (Builtin.Bytes.buffer? "bytes.__new__" (.ref S) true >>= _) _ _ _)
  have hbuf : ∀ {Q' : Option (Array UInt8) → Shared → Prop} {E' : Value → Shared → Prop}, Q' (some b) s → wpAny (model prog w) A.in1 (buffer? "bytes.__new__" (.ref S) true) Q' E' s := by
    intro Q' E' hq
    unfold buffer?
    refine wpAny_bind (wpAny_specialOf hT ba_buffer ?_)
    dsimp only
    have own : ∀ {Q2 : Bool → Shared → Prop} {E2 : Value → Shared → Prop}, Q2 true s → wpAny (model prog w) A.in1 (slotIsOwn (.ref S) "__buffer__") Q2 E2 s := by
      intro Q2 E2 h2
      unfold slotIsOwn
      refine wpAny_bind (wpAny_specialOf hT ba_buffer ?_)
      dsimp only
      rw [show ("bytearray.__buffer__".endsWith ("." ++ "__buffer__")) = true from by decide +kernel]
      simp only [Bool.not_true, Bool.false_eq_true, if_false]
      rw [show ("bytearray.__buffer__".dropRight ("__buffer__".length + 1)) = "bytearray" from by decide +kernel]
      exact wpAny_isInstance hT ba_sub h2
    refine wpAny_bind (own ?_)
    simp only [Bool.not_true, Bool.false_eq_true, if_false]
    refine wpAny_bind (wpAny_specialOf hT ba_buffer ?_)
    refine wpAny_bind (ba_ownRelease hT ?_)
    refine bm_if_false rfl ?_
    unfold payload payload?
    exact wpAny_bind (wpAny_bind (wpAny_bind (wpAny_load hS (wpAny_pure (wpAny_pure (wpAny_pure hq))))))
  refine wpAny_bind (hbuf ?_)
  refine wpAny_bind (wpAny_rule ?_)
  refine wpAny_bind (wpAny_mkBytes ?_ (by simp [sizeLine_eq]; omega))
  show wpAny _ _ (if (Value.type "bytes" == Value.type "bytes") = true then _ else _) _ _ _
  refine bm_if_true (by decide) ?_
  first
    | exact wpAny_pure (hQ _ _)
    | exact wpAny_bind (wpAny_pure (wpAny_pure (hQ _ _)))

theorem call_bytes_ba {S : Addr} {b : Array UInt8} {Q : Value → Shared → Prop} (hS : s.heap.get? S = some (baO b)) (hb : b.size ≤ 1000)
    (hQ : ∀ t k, Q (.bytes b t) { s with toks := k }) : wpAny (model prog w) A (call (.type "bytes") [.ref S]) Q E s := by
  refine callType_codes (Q₁ := fun obj s₁ => s₁.TypeIs obj "bytes" ∧ Q obj s₁) F.bm_called (F.bm_typeCall _) F.entry_object_init
    (ba_bytesNew hS hb fun t k => ⟨PySem.W.typeIs_bytes _ _ _, hQ t k⟩) fun obj s₁ h₁ => ?_
  exact ⟨h₁.1, F.args_object_init_2 obj _, object_init_meets F.bm_called.init.lookup F.bm_called.made (by decide) prog w A.in1 _ s₁ ⟨h₁.1, rfl, h₁.2⟩⟩
end
end Mine
end
-- PI
section
namespace Mine
open _root_.PySem _root_.PySem.Calls PyProof.Rows _root_.PySem.W

noncomputable def sw (x : List UInt8) (wd : Nat) : Nat → Array UInt8
  | 0 => Array.replicate x.length 0
  | c + 1 => (sw x wd c).setIfInBounds ((c / wd) * wd + (wd - 1 - c % wd)) (x.getD c 0)
theorem sw_size (x : List UInt8) (wd c : Nat) : (sw x wd c).size = x.length := by
  induction c with
  | zero => simp [sw]
  | succ c ih => simp [sw, ih]

theorem fr_facts {h₀ h : Heap} {L : Addr} {m : Str → Option Value} (P : (Str → Option Value) → Prop) (F : Fr h₀ L h m) (hP : P m) : ∃ m', Fr h₀ L h m' ∧ P m' := ⟨m, F, hP⟩

section
variable {prog : Program} {w : World} {A : Around} {E : Value → Shared → Prop} {s : Shared} {env : Env} {h₀ : Heap} {target : Expr} {body : List Stmt} {Q : Flow → Shared → Prop}

theorem ba_setN {L : Addr} {m : Str → Option Value} {news news' : List (Addr × Obj)} {S : Addr} {b b' : Array UInt8} {i : Int} {k : Nat} {c : Int} {t u : Tok} {Q : Unit → Shared → Prop}
    (F : Fr h₀ L s.heap m) (N : News h₀ L s.heap news) (hb : b.size ≤ 1000) (hkk : i = (k : Int)) (hk : k < b.size) (h0 : 0 ≤ c) (h1 : c < 256) (hb' : b.setIfInBounds k c.toNat.toUInt8 = b') (U : Upd S (baO b) (baO b') news news')
    (h : ∀ h', Fr h₀ L h' m → News h₀ L h' news' → Q () { s with heap := h' }) : wpAny (model prog w) A (setItem (.ref S) (.int i t) (.int c u)) Q E s := by
  subst hb'
  subst hkk
  obtain ⟨pre, post, rfl, rfl, a, b⟩ := U.split
  have z := N (S, _) (List.mem_append.mpr (.inr (.head _)))
  exact ba_setItem z.1 hb hk h0 h1 fun h' e1 e2 => h h' (F.change e2 z.2.1 z.2.2) (news_set N a b e2 e1)

theorem ba_callN {L : Addr} {m : Str → Option Value} {news : List (Addr × Obj)} {n : Nat} {t : Tok} {Q : Value → Shared → Prop} (F : Fr h₀ L s.heap m) (N : News h₀ L s.heap news) (hg : A.guards = some []) (h0 : 0 < n) (hn : n ≤ 1000)
    (h : ∀ S h', Fr h₀ L h' m → News h₀ L h' ((S, baO (Array.replicate n 0)) :: news) → (∀ p ∈ news, p.1 < S) → Q (.ref S) { s with heap := h' }) :
    wpC (model prog w) A (call (.type "bytearray") [.int n t]) Q E s :=
  ba_call hg h0 hn fun h' e1 e2 => let ⟨a, b, c⟩ := ks_newsPush F N rfl e1 e2; h _ h' a b c

theorem turns_range {r : Addr} {x : Str} {px : Pos} {a b c : Int} {t u v : Tok} {n : Nat} {m : Str → Option Value} {news : List (Addr × Obj)} (J : Nat → (Str → Option Value) → List (Addr × Obj) → Prop)
    (hh : A.handled = none) (hr : IsRange s.heap r a b c t u v) (hsm : Builtin.Range.small a b c = true) (hn : Builtin.Range.rangeSize a b c = (n : Int)) (F : Fr h₀ env.locals s.heap m) (N : News h₀ env.locals s.heap news) (h0 : J 0 m news)
    (turn : ∀ (i : Nat) m₁ nx h tk It oI tv, i < n → J i m₁ nx → (∀ p ∈ news, p.1 < It) → (∀ p ∈ nx, p.1 ≠ It) → Fr h₀ env.locals h m₁ → News h₀ env.locals h ((It, oI) :: nx) →
      wpAny (model prog w) A (assign (.Name x px) env (.int (a + i * c) tv)) (fun _ s₃ => wpAny (model prog w) A (execs body env) (TurnQ h₀ env.locals It oI (J (i + 1)) s Q) E s₃) E { s with heap := h, toks := tk })
    (done : ∀ m₁ nx h tk, J n m₁ nx → Fr h₀ env.locals h m₁ → News h₀ env.locals h nx → Q .next { s with heap := h, toks := tk }) :
    wpAny (model prog w) A (pyIter (.ref r)) (fun it s₂ => TurnsAt prog w A h₀ env (.Name x px) body Q E it s₂) E s := by
  refine wpAny_pyIter_range hr hsm ?_
  have Wk := Walks.range (prog := prog) (w := w) hh s.heap.objs.size a c n
  refine turns_of (l := 0) (s₂ := { s with heap := s.heap.push { cls := .type "range_iterator", data := .fields #[rawInt a, rawInt (Builtin.Range.rangeSize a b c), rawInt c] } }) J Wk (fun i v s' Q' E' st h => wpAny_pure h) (.inl rfl)
    (fun i h st => ⟨_, st⟩) ?_ (next_is_new F) (fun e => absurd (congrArg List.length e) (by simp)) ?_ ?_ (F.push _) (fun p hp => ⟨Heap.get?_push_of_some _ (N p hp).1, (N p hp).2⟩) h0 ?_ ?_ ?_
  · intro hL
    exact absurd F.ns.lt ((List.mem_singleton.mp hL) ▸ Nat.lt_irrefl _)
  · intro p hp e'
    exact absurd (Heap.lt_size (N p hp).1) (e' ▸ Nat.lt_irrefl _)
  · show IsRangeIter _ _ _ _ _
    have := Heap.get?_push_size s.heap (o := { cls := .type "range_iterator", data := .fields #[rawInt a, rawInt (Builtin.Range.rangeSize a b c), rawInt c] }) rfl
    rw [hn] at this
    have e1 : a + ((0 : Nat) : Int) * c = a := by simp
    have e2 : (n : Int) - ((0 : Nat) : Int) = n := by simp
    rw [e1, e2]
    rw [hn]
    exact this
  · intro e; exact absurd (congrArg List.length e) (by simp)
  · rintro i v m₁ nx h tk oI hi ⟨tv, rfl⟩ hj hoff F₁ N₁
    exact turn i m₁ nx h tk s.heap.objs.size oI tv hi hj (fun p hp => Heap.lt_size (N p hp).1) hoff F₁ N₁
  · intro m₁ nx h tk hj F₁ N₁
    exact done m₁ nx h tk hj F₁ N₁

end
end Mine
end
-- PN
section
namespace Mine
open _root_.PySem _root_.PySem.Calls PyProof.Rows _root_.PySem.W PyProof.Rows.LCg

noncomputable def RT (nm : Nat → Str) (vs : List Value) (cs : List Nat) : Prop := vs.length = cs.length ∧ ∀ (i : Nat) (v : Value) (c : Nat), vs[i]? = some v → cs[i]? = some c → ∃ t, v = Value.str (nm c) t
noncomputable abbrev tupO (u v : Value) : Obj := { cls := .type "tuple", data := .seq #[u, v] }
noncomputable def TW (nm : Nat → Str) (news : List (Addr × Obj)) (v : Value) (c : Nat) : Prop := ∃ t tb tk, v = .ref t ∧ (t, tupO (.str (Str.ofString " ") tb) (.str (nm c) tk)) ∈ news
noncomputable def PT (nm : Nat → Str) (news : List (Addr × Obj)) (vs : List Value) (cs : List Nat) : Prop := vs.length = cs.length ∧ ∀ (i : Nat) (v : Value) (c : Nat), vs[i]? = some v → cs[i]? = some c → TW nm news v c

section
variable {nm : Nat → Str} {vs ws : List Value} {cs ds : List Nat} {news news' : List (Addr × Obj)} {v : Value} {c : Nat}
theorem TW.mono (h : TW nm news v c) (s : ∀ p ∈ news, p ∈ news') : TW nm news' v c := let ⟨t, tb, tk, e, m⟩ := h; ⟨t, tb, tk, e, s _ m⟩
theorem PT.mono (h : PT nm news vs cs) (s : ∀ p ∈ news, p ∈ news') : PT nm news' vs cs := ⟨h.1, fun i v c a b => (h.2 i v c a b).mono s⟩
theorem PT.nil : PT nm news [] [] := ⟨rfl, fun i v c a => by simp at a⟩
theorem PT.app (h : PT nm news vs cs) (g : PT nm news ws ds) : PT nm news (vs ++ ws) (cs ++ ds) := by
  refine ⟨by simp [h.1, g.1], fun i v c a b => ?_⟩
  rcases Nat.lt_or_ge i vs.length with hi | hi
  · rw [List.getElem?_append_left hi] at a
    rw [List.getElem?_append_left (h.1 ▸ hi)] at b
    exact h.2 i v c a b
  · rw [List.getElem?_append_right hi] at a
    rw [List.getElem?_append_right (h.1 ▸ hi), ← h.1] at b
    exact g.2 _ v c a b
theorem PT.one (h : TW nm news v c) : PT nm news [v] [c] := by
  refine ⟨rfl, fun i v' c' a b => ?_⟩
  rcases i with _ | i
  · simp at a b; subst a; subst b; exact h
  · simp at a
theorem PT.push (h : PT nm news vs cs) (g : TW nm news v c) : PT nm news (vs ++ [v]) (cs ++ [c]) := h.app (PT.one g)
theorem PT.take (h : PT nm news vs cs) (k : Nat) : PT nm news (vs.take k) (cs.take k) := by
  refine ⟨by simp [h.1], fun i v c a b => ?_⟩
  rw [List.getElem?_take] at a b
  split at a
  · rename_i hi
    rw [if_pos hi] at b
    exact h.2 i v c a b
  · cases a
theorem PT.drop (h : PT nm news vs cs) (k : Nat) : PT nm news (vs.drop k) (cs.drop k) := by
  refine ⟨by simp [h.1], fun i v c a b => ?_⟩
  rw [List.getElem?_drop] at a b
  exact h.2 _ v c a b
theorem PT.at (h : PT nm news vs cs) {i : Nat} (hi : i < cs.length) : ∃ v, vs[i]? = some v ∧ TW nm news v cs[i] := by
  have h1 : i < vs.length := h.1 ▸ hi
  exact ⟨vs[i], List.getElem?_eq_getElem h1, h.2 i _ _ (List.getElem?_eq_getElem h1) (List.getElem?_eq_getElem hi)⟩
theorem RT.at (h : RT nm vs cs) {i : Nat} (hi : vs[i]? = some v) : ∃ c t, cs[i]? = some c ∧ v = .str (nm c) t := by
  have h1 : i < vs.length := by
    rcases Nat.lt_or_ge i vs.length with h | h
    · exact h
    · rw [List.getElem?_eq_none h] at hi; cases hi
  have h2 : i < cs.length := h.1 ▸ h1
  obtain ⟨t, e⟩ := h.2 i v _ hi (List.getElem?_eq_getElem h2)
  exact ⟨_, t, List.getElem?_eq_getElem h2, e⟩
theorem RT.nil : RT nm [] [] := ⟨rfl, fun i v c a => by simp at a⟩
theorem RT.push (h : RT nm vs cs) {t : Tok} : RT nm (vs ++ [.str (nm c) t]) (cs ++ [c]) := by
  refine ⟨by simp [h.1], fun i v c' a b => ?_⟩
  rcases Nat.lt_or_ge i vs.length with hi | hi
  · rw [List.getElem?_append_left hi] at a
    rw [List.getElem?_append_left (h.1 ▸ hi)] at b
    exact h.2 i v c' a b
  · rw [List.getElem?_append_right hi] at a
    rw [List.getElem?_append_right (h.1 ▸ hi), ← h.1] at b
    rcases hk : i - vs.length with _ | k
    · rw [hk] at a b; simp at a b; subst a; subst b; exact ⟨t, rfl⟩
    · rw [hk] at a; simp at a
theorem RT.cons_inv {v : Value} {vs : List Value} (h : RT nm (v :: vs) cs) : ∃ c cs' t, cs = c :: cs' ∧ v = .str (nm c) t ∧ RT nm vs cs' := by
  match cs, h with
  | [], h => exact absurd h.1 (by simp)
  | c :: cs', h =>
    obtain ⟨t, e⟩ := h.2 0 v c rfl rfl
    refine ⟨c, cs', t, rfl, e, ?_, fun i v c a b => h.2 (i + 1) v c (by simpa using a) (by simpa using b)⟩
    have := h.1; simpa using this
end

noncomputable def SeqAt (h : Heap) (a : Addr) (its : Array Value) : Prop := ∃ o, h.get? a = some o ∧ ∃ n, o.data = .seq its n

section
variable {prog : Program} {w : World} {A : Around} {E : Value → Shared → Prop} {s : Shared} {K : Frag} {x p d C L : Addr} {h₀ : Heap} {m : Str → Option Value} {ox od : Obj} {odx : Option Obj} {news news' : List (Addr × Obj)} {its : Array Value} {e : Nat} {name : Str} {env : Env}

theorem next_item {it l : Addr} {i : Nat} {items : Array Value} {x : Value} {Q : Option Value → Shared → Prop} (hit : s.heap.IsListIter it l i)
    (hl : SeqAt s.heap l items) (hx : items[i]? = some x)
    (hQ : ∀ h', h'.IsListIter it l (i + 1) → Heap.SameBut it s.heap h' → Q (some x) { s with heap := h' }) :
    wpAny (model prog w) A (pyNext (.ref it)) Q E s := by
  obtain ⟨o, ho, hc, hd⟩ := id hit
  obtain ⟨ol, hol, nl, hdl⟩ := hl
  unfold pyNext
  refine wpAny_bind (wpAny_attempt (wpAny_callSpecial?_slot (name := Str.ofString "__next__") hit.typeIs slot_listiter_next
    (wpAny_call_entry slot_listiter_next hit.typeIs entry_listiter_next ?_ (args_listiter_next _))))
  show wpAny _ _ (field (.ref it) 0 >>= _) _ _ s
  refine wpAny_bind (wpAny_field ho hd (x := .ref l) rfl ?_)
  show wpAny _ _ (if (Value.ref l == Value.none) = true then _ else _) _ _ s
  rw [if_neg (show ¬ ((Value.ref l == Value.none) = true) from Bool.false_ne_true)]
  show wpAny _ _ (field (.ref it) 1 >>= _) _ _ s
  refine wpAny_bind (wpAny_field ho hd (x := .int i 0) rfl ?_)
  show wpAny _ _ (seqItems? (.ref l) >>= _) _ _ s
  refine wpAny_bind (wpAny_seqItems hol hdl ?_)
  simp only [Int.toNat_natCast, hx]
  refine wpAny_bind (wpAny_setField ho hd (by simp) (wpAny_pure ⟨x, rfl, wpAny_pure (hQ _ ?_ (Heap.SameBut.update ..))⟩))
  exact ⟨_, Heap.get?_update_self _ ho (Obj.isFreed_of_fields (Obj.data_mapFields hd _)), (Obj.cls_mapFields ..).trans hc, by
    rw [Obj.data_mapFields hd]; simp [rawInt]⟩

theorem next_end {it l : Addr} {i : Nat} {items : Array Value} {Q : Option Value → Shared → Prop} (hh : A.handled = none)
    (hit : s.heap.IsListIter it l i) (hl : SeqAt s.heap l items) (hx : items[i]? = none)
    (hQ : ∀ h', Heap.ExtBut it s.heap h' → Q none { s with heap := h' }) : wpAny (model prog w) A (pyNext (.ref it)) Q E s := by
  obtain ⟨o, ho, hc, hd⟩ := id hit
  obtain ⟨ol, hol, nl, hdl⟩ := hl
  unfold pyNext
  refine wpAny_bind (wpAny_attempt (wpAny_callSpecial?_slot (name := Str.ofString "__next__") hit.typeIs slot_listiter_next
    (wpAny_call_entry slot_listiter_next hit.typeIs entry_listiter_next ?_ (args_listiter_next _))))
  show wpAny _ _ (field (.ref it) 0 >>= _) _ _ s
  refine wpAny_bind (wpAny_field ho hd (x := .ref l) rfl ?_)
  show wpAny _ _ (if (Value.ref l == Value.none) = true then _ else _) _ _ s
  rw [if_neg (show ¬ ((Value.ref l == Value.none) = true) from Bool.false_ne_true)]
  show wpAny _ _ (field (.ref it) 1 >>= _) _ _ s
  refine wpAny_bind (wpAny_field ho hd (x := .int i 0) rfl ?_)
  show wpAny _ _ (seqItems? (.ref l) >>= _) _ _ s
  refine wpAny_bind (wpAny_seqItems hol hdl ?_)
  simp only [Int.toNat_natCast, hx]
  refine wpAny_bind (wpAny_rule (wpAny_bind (wpAny_setField ho hd (by simp) ?_)))
  show wpAny _ _ (newExc (.type "StopIteration") [] >>= _) _ _ _
  refine wpAny_bind ?_
  simp only [newExc, newTuple]
  refine wpAny_bind (wpAny_newObj_type ?_ (by size_fits))
  refine wpAny_bind (m := firstArgMember _ _) (wpAny_of_eq (a := Value.none) (by first | rfl | (simp only [firstArgMember]; rfl)) ?_)
  refine wpAny_newObj_type ?_ (by size_fits)
  simp only [raiseNew]
  refine wpAny_bind (wpAny_handled ?_)
  rw [show A.in1.handled = none from hh]
  refine wpAny_bind (wpAny_pure (wpAny_throw ?_))
  refine wpAny_bind (wpAny_isInstance (T := "StopIteration") (b := true) ⟨_, Heap.get?_push_size _ rfl, rfl⟩ isSubtype_stop ?_)
  exact wpAny_pure (hQ _ (((Heap.SameBut.update ..).extBut.push _).push _))

theorem SeqAt.at' {h h' : Heap} {a : Addr} {its : Array Value} (x : SeqAt h a its) (k : ∀ o, h.get? a = some o → h'.get? a = some o) : SeqAt h' a its := let ⟨o, e, r⟩ := x; ⟨o, k _ e, r⟩

theorem walks_acc (hh : A.handled = none) (I ax : Addr) (hne : ax ≠ I) (items : Array Value) :
    Walks prog w A I [I, ax] [I] items.size (fun i v => items[i]? = some v) (fun i h => h.IsListIter I ax i ∧ SeqAt h ax items) where
  sub := fun b hb => by simp at hb; simp [hb]
  frame := fun _ _ _ st hk => ⟨st.1.at fun o e => hk I (by simp) o e, st.2.at' fun o e => hk ax (by simp) o e⟩
  item := fun i s Q E hi st hQ => by
    refine next_item st.1 st.2 (x := items[i]) (by simp [hi]) fun h' hit' hs' => ?_
    exact hQ _ h' s.toks (by simp [hi]) ⟨hit', st.2.at' fun o e => hs'.extBut ax o hne e⟩ fun b o hb e => hs'.extBut b o (fun h => hb (by simp [h])) e
  done := fun s Q E st hQ => next_end hh st.1 st.2 (by simp) fun h' he' => hQ h' s.toks fun b o hb e => he' b o (fun h => hb (by simp [h])) e
  self := fun _ _ _ _ st hQ => wpAny_pyIter_listiter st.1 hQ

theorem pyIter_acc {Q : Value → Shared → Prop} (X : K.In s.heap) (N : News h₀ L s.heap news) (h1 : (p, accO C d its e) ∈ news) (h2 : (d, od) ∈ news) (hsub : subIn K (.ref C) (.type "list") = some true)
    (hs : findIn K (.ref C) "__iter__" = some (some (.builtin "list.__iter__")))
    (hQ : Q (.ref s.heap.objs.size) { s with heap := s.heap.push { cls := .type "list_iterator", data := .fields #[.ref p, .int 0 0] } }) :
    wpAny (model prog w) A (pyIter (.ref p)) Q E s := by
  have I := inst_acc N h1 h2
  have one : ∀ (refuse : Sem Value) {Q : Option Value → Shared → Prop}, wpAny (model prog w) A (call (.builtin "list.__iter__") [.ref p]) (fun v => Q (some v)) E s →
      wpAny (model prog w) A (callSpecialIfBoundUnlessNone? (.ref p) "__iter__" refuse) Q E s := by
    intro refuse Q hc
    simp only [callSpecialIfBoundUnlessNone?, bindSpecialIfBound?]
    unfold specialOf
    refine wpAny_holding (wpAny_bind (wpAny_bind (wpAny_bind (I.type.here ((looks_findIn X hs).here ?_)))))
    simp only [slot_list_iter.bind]
    refine wpAny_bind (wpAny_askSetting (wpAny_ite ?_))
    have fin : wpAny (model prog w) A (if (Value.builtin "list.__iter__" == Value.none) = true then (refuse >>= fun v => pure (some v)) else (call (.builtin "list.__iter__") [.ref p] >>= fun v => pure (some v))) Q E s := by
      simp only [builtin_beq_none, Bool.false_eq_true, if_false]
      exact wpAny_bind (wpAny_mono hc (fun v s' h' => wpAny_pure h') fun _ _ h' => h')
    split
    · exact wpAny_bind (wpAny_pure (wpAny_pure fin))
    · exact wpAny_tryCatch (wpAny_bind (wpAny_pure (wpAny_pure fin)))
  unfold pyIter
  refine wpAny_bind ?_
  unfold specialOf
  refine wpAny_bind (I.type.here ((looks_findIn X hs).here ?_))
  show wpAny _ _ (callSpecialIfBoundUnlessNone? (.ref p) "__iter__" _ >>= _) _ _ s
  refine wpAny_bind (one _ ?_)
  refine call_sub (owner := "list") (n := "__iter__") slot_list_iter.plain entry_list_iter (by first | exact .inl (by decide +kernel) | exact .inr (by decide +kernel)) (by decide +kernel) (isi_sub X I hsub) (args_list_iter _) ?_
  show wpAny _ _ (do ret (← newFields "list_iterator" [.ref p, rawInt 0])) _ _ s
  refine wpAny_bind (wpAny_newObj_type (wpAny_pure ⟨_, rfl, ?_⟩))
  refine wpAny_bind (wpAny_specialOf (T := "list_iterator") ⟨_, Heap.get?_push_size _ rfl, rfl⟩ slot_listiter_next.lookup (wpAny_pure hQ))

open LCp in
theorem ListComp_A {elt iter : PySem.Expr} {x x₂ : Str} {px px₂ tp : Pos} {tk : Nat} {scope : Scope} {cl : List (Str × Addr)} {pos : Pos} {Q : Value → Shared → Prop} (F : Fr h₀ L s.heap m) (X₀ : K.In h₀) (N : News h₀ L s.heap news)
    (h1 : (p, accO C d its e) ∈ news) (h2 : (d, od) ∈ news) (hsub : subIn K (.ref C) (.type "list") = some true) (hs' : findIn K (.ref C) "__iter__" = some (some (.builtin "list.__iter__"))) (hsz : its.size ≤ sizeLine) (hh : A.handled = none)
    (hclos : closureFor scope env = pure cl) (hcell : ∀ y ∈ scope.names, y.2 ≠ .cell) (hkind : scope.kind = .function)
    (hnames : ∀ y ∈ scope.names, y.2 = .local → scope.names.lookup y.1 = some .local) (hx : scope.names.lookup x = some .local) (hx₂ : scope.names.lookup x₂ = some .local) (hxx : x ≠ x₂)
    (h : wpAny (model prog w) A (eval iter env) (fun xv s₁ => xv = .ref p ∧ s₁ = s) E s)
    (R : ∀ s₂ : Shared, (∃ h, s₂ = { s with heap := h }) → CompRestP prog w A h₀ L m env elt x x₂ scope cl s₂ (fun nx => (p, accO C d its e) ∈ nx) (fun i v => its[i]? = some v) (FinE h₀ L m s₂ Q) its.size 0 [] news)
    (hs : ∀ x, foldedSetIterable iter env x = pure x := by intro _; rfl) :
    wpAny (model prog w) A (eval (.ListComp elt [⟨.Tuple [.Name x px, .Name x₂ px₂] tk tp, iter, [], 0⟩] scope pos) env) Q E s := by
  rw [eval_ListComp]
  refine wpAny_comprehension_free (use := none) rfl hs hclos hkind hnames (wpAny_mono h (fun xv s₁ h₁ => ?_) fun _ _ e => e)
  obtain ⟨rfl, rfl⟩ := h₁
  have hlt : p < s₁.heap.objs.size := Heap.lt_size (N _ h1).1
  refine pyIter_acc (X₀.keeps F.keep) N h1 h2 hsub hs' ?_
  have up : ∀ b o, s₁.heap.get? b = some o → (s₁.heap.push { cls := .type "list_iterator", data := .fields #[.ref p, .int 0 0] }).get? b = some o := fun b o e => Heap.get?_push_of_some _ e
  refine block_P (walks_acc hh s₁.heap.objs.size p (Nat.ne_of_lt hlt) its) hsz (fun i h st => by obtain ⟨o, e, _⟩ := st.1; exact ⟨o, e⟩)
    (fun i h h' o nw st e e' k N S => ⟨by obtain ⟨o', q, r⟩ := st.1; rw [e] at q; cases q; exact ⟨o, e', r⟩, ⟨_, (N _ S).1, _, rfl⟩⟩)
    hcell hkind hx hx₂ hxx hh (fun i h st => ⟨_, _, st.1⟩) ⟨⟨_, Heap.get?_push_size _ rfl, rfl, rfl⟩, ⟨_, up _ _ (N _ h1).1, _, rfl⟩⟩ (fun b hb => ?_)
    (F.keeps up) (N.grown up) (Nat.ne_of_lt F.ns.lt) (next_is_new F) (fun p hp => Nat.ne_of_lt (Heap.lt_size (N p hp).1)) h1 (R _ ⟨_, rfl⟩) ?_
  · show b < (s₁.heap.push _).objs.size
    rw [Heap.size_push]
    rcases List.mem_cons.mp hb with rfl | hb
    · exact Nat.lt_succ_self _
    · rw [List.mem_singleton.mp hb]; exact Nat.lt_succ_of_lt hlt
  · intro D C h tk m' ys news' F' N' o1 hn hC₀ hD₀ hCL hDL hCD offC fin
    refine ⟨m', hn, fun h'' hs'' => fin D h'' tk (F'.change hs'' hCL hC₀) (fun p hp => ?_) o1⟩
    refine ⟨hs''.extBut _ _ ?_ (N' p hp).1, (N' p hp).2⟩
    rcases List.mem_cons.mp hp with rfl | hp
    · exact Ne.symm hCD
    · exact offC p hp

open LCp in
theorem names_A {nm : Nat → Str} {iter : PySem.Expr} {x x₂ : Str} {px px₂ pe tp : Pos} {tk : Nat} {scope : Scope} {cl : List (Str × Addr)} {pos : Pos} {vs : List Value} {cs : List Nat} {Q : Value → Shared → Prop} (F : Fr h₀ L s.heap m) (X₀ : K.In h₀) (N : News h₀ L s.heap news)
    (h1 : (p, accO C d vs.toArray e) ∈ news) (h2 : (d, od) ∈ news) (T : PT nm news vs cs) (hsub : subIn K (.ref C) (.type "list") = some true) (hs' : findIn K (.ref C) "__iter__" = some (some (.builtin "list.__iter__"))) (hsz : vs.length ≤ sizeLine) (hh : A.handled = none)
    (hclos : closureFor scope env = pure cl) (hcell : ∀ y ∈ scope.names, y.2 ≠ .cell) (hkind : scope.kind = .function)
    (hnames : ∀ y ∈ scope.names, y.2 = .local → scope.names.lookup y.1 = some .local) (hx : scope.names.lookup x = some .local) (hx₂ : scope.names.lookup x₂ = some .local) (hxx : x ≠ x₂)
    (hkd : ∀ C, (compEnvC scope cl C env).scope.kind = .function ∧ (compEnvC scope cl C env).kindOf x₂ = some .local) (hdb : (x₂ == ("__debug__" : Str)) = false)
    (h : wpAny (model prog w) A (eval iter env) (fun xv s₁ => xv = .ref p ∧ s₁ = s) E s)
    (fin : ∀ D ys h' tk', RT nm ys cs → Fr h₀ L h' m → News h₀ L h' ((D, lst ys) :: news) → (∀ p ∈ news, p.1 ≠ D) → Q (.ref D) { s with heap := h', toks := tk' })
    (hs : ∀ x, foldedSetIterable iter env x = pure x := by intro _; rfl) :
    wpAny (model prog w) A (eval (.ListComp (.Name x₂ pe) [⟨.Tuple [.Name x px, .Name x₂ px₂] tk tp, iter, [], 0⟩] scope pos) env) Q E s := by
  refine ListComp_A F X₀ N h1 h2 hsub hs' (by simpa using hsz) hh hclos hcell hkind hnames hx hx₂ hxx h (fun s₂ hs₂ => ?_) hs
  obtain ⟨hp₂, rfl⟩ := hs₂
  have go : ∀ k i ys, i + k = vs.length → RT nm ys (cs.take i) → CompRestP prog w A h₀ L m env (.Name x₂ pe) x x₂ scope cl { s with heap := hp₂ } (fun nx => (p, accO C d vs.toArray e) ∈ nx) (fun i v => vs.toArray[i]? = some v) (FinE h₀ L m { s with heap := hp₂ } Q) k i ys news := by
    intro k
    induction k with
    | zero =>
      intro i ys hi hr
      rw [Nat.add_zero] at hi
      rw [hi, T.1, List.take_length] at hr
      intro D h tk F' N' o1
      refine fin D ys h tk hr F' N' ?_
      clear N'
      intro q hq
      have : ∀ (l : List (Addr × Obj)), Off1 D l → ∀ p ∈ l, p.1 ≠ D := by
        intro l
        induction l with
        | nil => intro _ p hp; cases hp
        | cons a l ih => intro o p hp; rcases List.mem_cons.mp hp with rfl | hp; exact o.1; exact ih o.2 p hp
      exact this news o1 q hq
    | succ k ih =>
      intro i ys hi hr
      refine CompRestP.succ fun v hv => ?_
      have hv' : vs[i]? = some v := by simpa using hv
      have hic : i < cs.length := by rw [← T.1]; omega
      obtain ⟨t, tb, tw, rfl, hm⟩ := T.2 i v cs[i] hv' (List.getElem?_eq_getElem hic)
      refine ⟨t, _, _, _, _, rfl, hm, rfl, rfl, ?_⟩
      intro I oI C' oC D m₂ h tk E' hC ha hb F' N' off ne
      refine LCgL.ld_own N' (.tail _ (.head _)) hC hb ?_ (hkd _).1 (hkd _).2 hdb
      refine CompEnd.intro F' N' news (fun p hp => hp) off h1 ?_
      refine ih (i + 1) (ys ++ [_]) (by omega) ?_
      rw [List.take_succ, List.getElem?_eq_getElem hic]
      exact hr.push
  have := go vs.length 0 [] (by simp) (by simpa using RT.nil)
  simpa using this
end
end Mine
end
-- PO
section
namespace Mine
open _root_.PySem _root_.PySem.Calls PyProof.Rows _root_.PySem.W PyProof.Rows.LCg

noncomputable def cutAt (c : Nat) (ws : List Nat) : Nat → Nat
  | 0 => 0
  | k + 1 => if c < ws.getD k 0 then cutAt c ws k else k + 1
noncomputable def ins (ws : List Nat) (c : Nat) : List Nat := ws.take (cutAt c ws ws.length) ++ [c] ++ ws.drop (cutAt c ws ws.length)
noncomputable def along (cs : List Nat) : List Nat := cs.foldl ins []
theorem cutAt_le (c : Nat) (ws : List Nat) : ∀ k, cutAt c ws k ≤ k
  | 0 => Nat.le_refl _
  | k + 1 => by
    rw [cutAt]
    split
    · exact Nat.le_succ_of_le (cutAt_le c ws k)
    · exact Nat.le_refl _
theorem ins_length (ws : List Nat) (c : Nat) : (ins ws c).length = ws.length + 1 := by
  have := cutAt_le c ws ws.length
  simp only [ins, List.length_append, List.length_take, List.length_drop, List.length_singleton]
  omega
theorem ins_mem (ws : List Nat) (c x : Nat) : x ∈ ins ws c ↔ x = c ∨ x ∈ ws := by
  have e := List.take_append_drop (cutAt c ws ws.length) ws
  have : x ∈ ws ↔ x ∈ ws.take (cutAt c ws ws.length) ∨ x ∈ ws.drop (cutAt c ws ws.length) := by
    rw [← List.mem_append, e]
  rw [this]
  simp only [ins, List.mem_append, List.mem_singleton]
  constructor
  · rintro ((h | h) | h)
    · exact .inr (.inl h)
    · exact .inl h
    · exact .inr (.inr h)
  · rintro (h | h | h)
    · exact .inl (.inr h)
    · exact .inl (.inl h)
    · exact .inr h
theorem along_snoc (cs : List Nat) (c : Nat) : along (cs ++ [c]) = ins (along cs) c := by simp [along]
theorem along_length (cs : List Nat) : (along cs).length = cs.length := by
  suffices ∀ ws, (cs.foldl ins ws).length = ws.length + cs.length by simpa [along] using this []
  induction cs with
  | nil => intro ws; simp
  | cons c cs ih => intro ws; simp only [List.foldl_cons, ih, ins_length, List.length_cons]; omega
theorem along_mem (cs : List Nat) (x : Nat) : x ∈ along cs ↔ x ∈ cs := by
  suffices ∀ ws, x ∈ cs.foldl ins ws ↔ x ∈ ws ∨ x ∈ cs by simpa [along] using this []
  induction cs with
  | nil => intro ws; simp
  | cons c cs ih =>
    intro ws
    simp only [List.foldl_cons, ih, ins_mem, List.mem_cons]
    constructor
    · rintro ((h | h) | h)
      · exact .inr (.inl h)
      · exact .inl h
      · exact .inr (.inr h)
    · rintro (h | h | h)
      · exact .inl (.inr h)
      · exact .inl (.inl h)
      · exact .inr h
theorem take_snoc {cs : List Nat} {i c : Nat} (h : cs[i]? = some c) : cs.take (i + 1) = cs.take i ++ [c] := by
  rw [List.take_succ, h]; rfl

noncomputable def Rises (nm : Nat → Str) (n : Nat) : Prop := ∀ a b, a < n → b < n → (decide ((nm a).cps.toList < (nm b).cps.toList) = decide (a < b))

structure Hold (P : Prop) : Prop where
  out : P
structure Mark : Prop where

section
variable {prog : Program} {w : World} {A : Around} {E : Value → Shared → Prop} {Q : Flow → Shared → Prop} {s : Shared} {env : Env} {h₀ : Heap} {L : Addr}
theorem news_tail {h : Heap} {p : Addr × Obj} {l : List (Addr × Obj)} (N : News h₀ L h (p :: l)) : News h₀ L h l := fun q hq => N q (.tail _ hq)
noncomputable def Left (h₀ : Heap) (L : Addr) (s : Shared) (Done : (Str → Option Value) → List (Addr × Obj) → Prop) (s₂ : Shared) : Prop :=
  ∃ h' tk' m' nx', s₂ = { s with heap := h', toks := tk' } ∧ Fr h₀ L h' m' ∧ News h₀ L h' nx' ∧ Done m' nx'
theorem Left.intro {s : Shared} {Done : (Str → Option Value) → List (Addr × Obj) → Prop} {h' : Heap} {tk' : Nat} {m' : Str → Option Value} {nx' : List (Addr × Obj)} (F : Fr h₀ L h' m') (N : News h₀ L h' nx') (d : Done m' nx') :
    Left h₀ L s Done { s with heap := h', toks := tk' } := ⟨_, _, _, _, rfl, F, N, d⟩
theorem While_to {test : PySem.Expr} {body : List Stmt} {pos : Pos} {m : Str → Option Value} {news : List (Addr × Obj)} (J : Nat → (Str → Option Value) → List (Addr × Obj) → Prop) (Done : (Str → Option Value) → List (Addr × Obj) → Prop) {n₀ : Nat}
    (F : Fr h₀ L s.heap m) (N : News h₀ L s.heap news) (hJ : J n₀ m news)
    (turn : ∀ n m₁ news₁ h₁ tk₁, Fr h₀ L h₁ m₁ → News h₀ L h₁ news₁ → J n m₁ news₁ →
      wpAny (model prog w) A (isTrue test env (eval test env)) (fun b s₂ =>
        if b = true then wpAny (model prog w) A (execs body env) (WhileStep h₀ L s J n) E s₂ else Left h₀ L s Done s₂) E { s with heap := h₁, toks := tk₁ })
    (done : ∀ m' nx' h' tk', Fr h₀ L h' m' → News h₀ L h' nx' → Done m' nx' → Q .next { s with heap := h', toks := tk' })
    (hE : PassesOwn (model prog w) A env E := by passes_own) :
    wpAny (model prog w) A (exec (.While test body [] pos) env) Q E s := by
  refine While_inv J F N hJ (fun n m₁ news₁ h₁ tk₁ F₁ N₁ J₁ => wpAny_mono (turn n m₁ news₁ h₁ tk₁ F₁ N₁ J₁) (fun b s₂ h₂ => ?_) fun _ _ x => x) hE
  cases b with
  | true => simpa using h₂
  | false =>
    simp only [Bool.false_eq_true, if_false] at h₂ ⊢
    obtain ⟨h', tk', m', nx', rfl, F', N', d⟩ := h₂
    exact done m' nx' h' tk' F' N' d
end
end Mine
end
-- PP
section
namespace Mine
open _root_.PySem _root_.PySem.Calls PyProof.Rows _root_.PySem.W
section
variable {prog : Program} {w : World} {A : Around} {E : Value → Shared → Prop} {s : Shared} {K : Frag} {x p d C L : Addr} {h₀ : Heap} {m : Str → Option Value} {ox od : Obj} {odx : Option Obj} {news news' : List (Addr × Obj)} {its : Array Value} {e : Nat} {name : Str}
theorem method_subF {f : Addr} {pl : Sem Bool} {ga : String} {Q : Value × List Value → Shared → Prop} (X : K.In s.heap) (I : InstAt s.heap x ox C odx)
    (hga : findIn K (.ref C) "__getattribute__" = some (some (.builtin ga))) (hcan : (Manifest.canonical ga != "object.__getattribute__") = false) (hk : findIn K (.ref C) "__getattr__" = some none)
    (hf : findIn K (.ref C) name = some (some (.ref f))) (ht : typeIn K (.ref f) = some (.type "function")) (hs : shadowIn odx name = some false) (h : Q (.ref f, [.ref x]) s) :
    wpAny (model prog w) A (getMethod (.ref x) name pl) Q E s := by
  unfold getMethod specialOf
  refine wpAny_bind (wpAny_bind (I.type.here ((looks_findIn X hga).here ?_)))
  dsimp only
  rw [hcan, if_neg (by decide)]
  refine wpAny_bind (wpAny_bind (I.type.here ((looks_findIn X hk).here ?_)))
  refine wpAny_bind (wpAny_bind (I.type.here ((looks_findIn X hf).here (wpAny_bind ((looks_typeIn X ht).here ?_)))))
  rw [if_neg (by decide +kernel)]
  refine wpAny_bind (wpAny_loadPart I.at_ ?_)
  have hd := I.dict
  cases e : ox.dict with
  | none => exact wpAny_bind (wpAny_rule (wpAny_pure h))
  | some dx =>
    cases odx with
    | none => rw [e] at hd; exact hd.elim
    | some o =>
      rw [e] at hd
      obtain ⟨r, a, b⟩ := Option.map_eq_some_iff.mp hs
      refine wpAny_bind (wpAny_bind (wpAny_loadPart hd ?_))
      rw [nsLook_of a]
      refine wpAny_pure ?_
      rw [b]
      exact wpAny_bind (wpAny_rule (wpAny_pure h))
end
end Mine
end
-- PQ
section
namespace Mine
open _root_.PySem _root_.PySem.Calls PyProof.Rows _root_.PySem.W PyProof.Rows.LCg

noncomputable def held1 (s : Nat × List Nat) (x : Nat) : Nat × List Nat := if s.1 < x then (s.1, s.2 ++ [x]) else (x, s.2 ++ [s.1])
noncomputable def draw (s : List Nat × List Nat) : List Nat × List Nat :=
  match s.1 with
  | [] => s
  | h :: r => let t := r.foldl held1 (h, []); (t.2, s.2 ++ [t.1])
noncomputable def drawN : Nat → List Nat × List Nat → List Nat × List Nat
  | 0, s => s
  | n + 1, s => draw (drawN n s)
noncomputable def down (cs : List Nat) : List Nat := (drawN cs.length (cs, [])).2
theorem held_length (r : List Nat) (s : Nat × List Nat) : (r.foldl held1 s).2.length = s.2.length + r.length := by
  induction r generalizing s with
  | nil => simp
  | cons x r ih =>
    rw [List.foldl_cons, ih, held1]
    split <;> simp <;> omega
theorem held_mem (r : List Nat) (s : Nat × List Nat) (x : Nat) : (x = (r.foldl held1 s).1 ∨ x ∈ (r.foldl held1 s).2) ↔ (x = s.1 ∨ x ∈ s.2 ∨ x ∈ r) := by
  induction r generalizing s with
  | nil => simp
  | cons y r ih =>
    rw [List.foldl_cons, ih, held1]
    split <;> grind
theorem draw_length (s : List Nat × List Nat) : (draw s).1.length = s.1.length - 1 := by
  obtain ⟨a, b⟩ := s
  cases a with
  | nil => rfl
  | cons h r => simp [draw, held_length]
theorem drawN_length (n : Nat) (s : List Nat × List Nat) : (drawN n s).1.length = s.1.length - n := by
  induction n with
  | zero => rfl
  | succ n ih => rw [drawN, draw_length, ih]; omega
theorem draw_mem (s : List Nat × List Nat) (x : Nat) : (x ∈ (draw s).1 ∨ x ∈ (draw s).2) ↔ (x ∈ s.1 ∨ x ∈ s.2) := by
  obtain ⟨a, b⟩ := s
  cases a with
  | nil => rfl
  | cons h r =>
    have := held_mem r (h, []) x
    simp only [draw, List.mem_append, List.mem_singleton, List.mem_cons, List.not_mem_nil, false_or] at this ⊢
    grind
theorem drawN_mem (n : Nat) (s : List Nat × List Nat) (x : Nat) : (x ∈ (drawN n s).1 ∨ x ∈ (drawN n s).2) ↔ (x ∈ s.1 ∨ x ∈ s.2) := by
  induction n with
  | zero => rfl
  | succ n ih => rw [drawN, draw_mem, ih]

section
variable {nm : Nat → Str} {vs ws : List Value} {cs ds : List Nat} {v : Value} {c : Nat}
theorem RT.app_inv {cs : List Nat} (h : RT nm vs (c :: cs)) : ∃ t vs', vs = .str (nm c) t :: vs' ∧ RT nm vs' cs := by
  match vs, h with
  | [], h => exact absurd h.1 (by simp)
  | v :: vs', h =>
    obtain ⟨t, e⟩ := h.2 0 v c rfl rfl
    refine ⟨t, vs', by rw [e], ?_, fun i v c a b => h.2 (i + 1) v c (by simpa using a) (by simpa using b)⟩
    have := h.1; simpa using this
end
end Mine
end
-- PR
section
namespace Mine
open _root_.PySem _root_.PySem.Calls PyProof.Rows _root_.PySem.W PyProof.Rows.LCg

section
variable {prog : Program} {w : World} {A : Around} {E : Value → Shared → Prop} {s : Shared} {h₀ : Heap} {L : Addr} {m : Str → Option Value} {env : Env}

noncomputable def SrcW (prog : Program) (w : World) (A : Around) (E : Value → Shared → Prop) (h₀ : Heap) (L : Addr) (m : Str → Option Value) (env : Env) (elt : PySem.Expr) (x : Str) (scope : Scope) (cl : List (Str × Addr)) (Fin : Shared → List Value → List (Addr × Obj) → Prop) (xv : Value) (s₁ : Shared) : Prop :=
  wpAny (model prog w) A (pyIter xv) (fun it s₂ => ∃ (I : Addr) (fp : List Addr) (n : Nat) (P : Nat → Value → Prop) (St : Nat → Heap → Prop) (S : List (Addr × Obj) → Prop) (news : List (Addr × Obj)), it = .ref I ∧ Walks prog w A I fp [I] n P St ∧ n ≤ sizeLine ∧
    (∀ i h, St i h → ∃ o, h.get? I = some o) ∧ (∀ i h h' o nw, St i h → h.get? I = some o → h'.get? I = some o → (∀ b o, h₀.get? b = some o → h'.get? b = some o) → News h₀ L h' nw → S nw → St i h') ∧
    St 0 s₂.heap ∧ (∀ b ∈ fp, b < s₂.heap.objs.size) ∧ Fr h₀ L s₂.heap m ∧ News h₀ L s₂.heap news ∧ L ≠ I ∧ h₀.get? I = none ∧ (∀ p ∈ news, p.1 ≠ I) ∧ S news ∧
    CompRest prog w A h₀ L m env elt x scope cl s₂ S P (Fin s₂) n 0 [] news) E s₁

theorem ListComp_W {elt iter : PySem.Expr} {x : Str} {px : Pos} {scope : Scope} {cl : List (Str × Addr)} {pos : Pos} {Q : Value → Shared → Prop} (_F₀ : Fr h₀ L s.heap m)
    (hclos : closureFor scope env = pure cl) (hcell : ∀ y ∈ scope.names, y.2 ≠ .cell) (hkind : scope.kind = .function)
    (hnames : ∀ y ∈ scope.names, y.2 = .local → scope.names.lookup y.1 = some .local) (hx : scope.names.lookup x = some .local)
    (h : wpAny (model prog w) A (eval iter env) (SrcW prog w A E h₀ L m env elt x scope cl (fun s₂ => FinE h₀ L m s₂ Q)) E s)
    (hs : ∀ x, foldedSetIterable iter env x = pure x := by intro _; rfl) :
    wpAny (model prog w) A (eval (.ListComp elt [⟨.Name x px, iter, [], 0⟩] scope pos) env) Q E s := by
  rw [eval_ListComp]
  refine wpAny_comprehension_free (use := none) rfl hs hclos hkind hnames (wpAny_mono h (fun xv s₁ h₁ => wpAny_mono h₁ (fun it s₂ h₂ => ?_) fun _ _ e => e) fun _ _ e => e)
  obtain ⟨I, fp, n, P, St, S, news, rfl, W, hsz, hIo, hSt, hst, hfp, F, N, hIL, hI₀, off, hS, R⟩ := h₂
  refine block_U W hsz hIo hSt hcell hkind hx hst hfp F N hIL hI₀ off hS R ?_
  intro D C h tk m' ys news' F' N' o1 hn hC₀ hD₀ hCL hDL hCD offC fin
  refine ⟨m', hn, fun h'' hs'' => fin D h'' tk (F'.change hs'' hCL hC₀) (fun p hp => ?_) o1⟩
  refine ⟨hs''.extBut _ _ ?_ (N' p hp).1, (N' p hp).2⟩
  rcases List.mem_cons.mp hp with rfl | hp
  · exact Ne.symm hCD
  · exact offC p hp

theorem Assign_ListComp_W {elt iter : PySem.Expr} {x y : Str} {px py : Pos} {scope : Scope} {cl : List (Str × Addr)} {pos spos : Pos} {Q : Flow → Shared → Prop} (_F₀ : Fr h₀ L s.heap m) (hLe : env.locals = L)
    (hsw : swapsWith (.ListComp elt [⟨.Name x px, iter, [], 0⟩] scope pos) (some (.Name y py)) spos.line env = pure true)
    (hclos : closureFor scope env = pure cl) (hcell : ∀ z ∈ scope.names, z.2 ≠ .cell) (hkind : scope.kind = .function)
    (hnames : ∀ z ∈ scope.names, z.2 = .local → scope.names.lookup z.1 = some .local) (hx : scope.names.lookup x = some .local)
    (hy : env.kindOf y = some .local) (hp : (env.scope.kind == .class || (env.scope.kind == .module && env.locals != env.globals)) = false)
    (h : wpAny (model prog w) A (eval iter env) (SrcW prog w A E h₀ L m env elt x scope cl (fun s₂ => FinA h₀ L m s₂ y Q)) E s)
    (hs : ∀ x, foldedSetIterable iter env x = pure x := by intro _; rfl) :
    wpAny (model prog w) A (exec (.Assign [.Name y py] (.ListComp elt [⟨.Name x px, iter, [], 0⟩] scope pos) spos) env) Q E s := by
  subst hLe
  rw [exec_Assign_Name_used _ _ _ _ hsw]
  refine wpAny_bind (wpAny_standAt (wpAny_bind ?_))
  show wpAny _ A (do let _ ← comprehension (.ListComp elt [⟨.Name x px, iter, [], 0⟩] scope pos) scope env _ (newList []) false (eval iter env) (some (assign (.Name y py) env))) _ _ s
  refine wpAny_bind (wpAny_mono (wpAny_comprehension_free (use := some (assign (.Name y py) env)) (Q := fun _ s' => Q .next s') rfl hs hclos hkind hnames
    (wpAny_mono h (fun xv s₁ h₁ => wpAny_mono h₁ (fun it s₂ h₂ => ?_) fun _ _ e => e) fun _ _ e => e)) (fun _ s' hq => wpAny_pure (wpAny_pure hq)) fun _ _ e => e)
  obtain ⟨I, fp, n, P, St, S, news, rfl, W, hsz, hIo, hSt, hst, hfp, F, N, hIL, hI₀, off, hS, R⟩ := h₂
  refine block_U W hsz hIo hSt hcell hkind hx hst hfp F N hIL hI₀ off hS R ?_
  intro D C h' tk m' ys news' F' N' o1 hn hC₀ hD₀ hCL hDL hCD offC fin
  show wpAny _ A (assign (.Name y py) env (.ref D)) _ _ _
  refine wpAny_assign_Name (wpAny_storeName_local hy F'.ns (fun h₂ hn₂ hs₂ => ?_) hp)
  have hL₀ : h₀.get? env.locals = none := Heap.get?_none_of_le F'.above
  have F₂ : Fr h₀ env.locals h₂ (fun z => if z = y then some (.ref D) else m z) := ⟨hn₂, fun b o e => hs₂.extBut b o (fun q => by rw [q, hL₀] at e; cases e) (F'.keep b o e), F'.above⟩
  refine ⟨m', hn.sameBut hs₂ hCL, fun h'' hs'' => fin D h'' _ (F₂.change hs'' hCL hC₀) (fun p hp => ?_) o1⟩
  have z : h₂.get? p.1 = some p.2 := hs₂.extBut _ _ (N' p hp).2.1 (N' p hp).1
  refine ⟨hs''.extBut _ _ ?_ z, (N' p hp).2⟩
  rcases List.mem_cons.mp hp with rfl | hp
  · exact Ne.symm hCD
  · exact offC p hp

theorem srcW_list {elt : PySem.Expr} {x : Str} {scope : Scope} {cl : List (Str × Addr)} {Fin : Shared → List Value → List (Addr × Obj) → Prop} {ax : Addr} {vs : List Value} {k : Nat} {news : List (Addr × Obj)}
    (hh : A.handled = none) (F : Fr h₀ L s.heap m) (N : News h₀ L s.heap news) (hm : (ax, W.listOf vs.toArray k) ∈ news) (hsz : vs.length ≤ sizeLine)
    (R : ∀ g, CompRest prog w A h₀ L m env elt x scope cl { s with heap := g } (fun nx => (ax, W.listOf vs.toArray k) ∈ nx) (fun i v => vs[i]? = some v) (Fin { s with heap := g }) vs.length 0 [] news) :
    SrcW prog w A E h₀ L m env elt x scope cl Fin (.ref ax) s := by
  have hl : s.heap.IsList ax vs.toArray := ⟨_, (N _ hm).1, rfl, _, rfl⟩
  have hlt : ax < s.heap.objs.size := Heap.lt_size (N _ hm).1
  refine wpAny_pyIter_list hl ?_
  have up : ∀ b o, s.heap.get? b = some o → (s.heap.push { cls := .type "list_iterator", data := .fields #[.ref ax, .int 0 0] }).get? b = some o := fun b o e => Heap.get?_push_of_some _ e
  have Wk := Walks.list (prog := prog) (w := w) hh s.heap.objs.size ax (Nat.ne_of_lt hlt) vs.toArray
  have e1 : vs.toArray.size = vs.length := by simp
  have e2 : ∀ i : Nat, vs.toArray[i]? = vs[i]? := fun i => by simp
  simp only [e1, e2] at Wk
  refine ⟨_, _, _, _, _, _, news, rfl, Wk, hsz, fun i h st => by obtain ⟨o, e, _⟩ := st.1; exact ⟨o, e⟩, ?_, ⟨⟨_, Heap.get?_push_size _ rfl, rfl, rfl⟩, hl.push _⟩, fun b hb => ?_,
    F.keeps up, N.grown up, Nat.ne_of_lt F.ns.lt, next_is_new F, fun p hp => Nat.ne_of_lt (Heap.lt_size (N p hp).1), hm, R _⟩
  · intro i h h' o nw st e e' _ N' hS
    exact ⟨by obtain ⟨o', q, r⟩ := st.1; rw [e] at q; cases q; exact ⟨o, e', r⟩, ⟨_, (N' _ hS).1, rfl, _, rfl⟩⟩
  · show b < (s.heap.push _).objs.size
    rw [Heap.size_push]
    rcases List.mem_cons.mp hb with rfl | hb
    · exact Nat.lt_succ_self _
    · rw [List.mem_singleton.mp hb]; exact Nat.lt_succ_of_lt hlt

theorem srcW_bytes {elt : PySem.Expr} {x : Str} {scope : Scope} {cl : List (Str × Addr)} {Fin : Shared → List Value → List (Addr × Obj) → Prop} {b : Array UInt8} {tb : Tok} {news : List (Addr × Obj)}
    (hh : A.handled = none) (F : Fr h₀ L s.heap m) (N : News h₀ L s.heap news) (hsz : b.size ≤ sizeLine)
    (R : ∀ g, CompRest prog w A h₀ L m env elt x scope cl { s with heap := g } (fun _ => True) (fun i v => ∃ c u, b[i]? = some c ∧ v = .int (c.toNat : Int) u) (Fin { s with heap := g }) b.size 0 [] news) :
    SrcW prog w A E h₀ L m env elt x scope cl Fin (.bytes b tb) s := by
  refine KBw.pyIter_bytes ?_
  have up : ∀ a o, s.heap.get? a = some o → (s.heap.push { cls := .type "bytes_iterator", data := .fields #[.bytes b tb, .int 0 0] }).get? a = some o := fun b o e => Heap.get?_push_of_some _ e
  refine ⟨_, _, _, _, _, _, news, rfl, KBw.walks hh s.heap.objs.size b tb, hsz, fun i h st => by obtain ⟨o, e, _⟩ := st; exact ⟨o, e⟩, ?_, ⟨_, Heap.get?_push_size _ rfl, rfl, rfl⟩, fun a ha => ?_,
    F.keeps up, N.grown up, Nat.ne_of_lt F.ns.lt, next_is_new F, fun p hp => Nat.ne_of_lt (Heap.lt_size (N p hp).1), trivial, R _⟩
  · intro i h h' o nw st e e' _ _ _
    obtain ⟨o', q, r⟩ := st
    rw [e] at q; cases q; exact ⟨o, e', r⟩
  · rw [List.mem_singleton.mp ha]
    show s.heap.objs.size < (s.heap.push _).objs.size
    rw [Heap.size_push]; exact Nat.lt_succ_self _

theorem srcW_range {elt : PySem.Expr} {x : Str} {scope : Scope} {cl : List (Str × Addr)} {Fin : Shared → List Value → List (Addr × Obj) → Prop} {r : Addr} {a b : Int} {t u v : Tok} {n : Nat} {news : List (Addr × Obj)}
    (hh : A.handled = none) (F : Fr h₀ L s.heap m) (N : News h₀ L s.heap news) (hr : IsRange s.heap r a b 1 t u v) (hsm : Builtin.Range.small a b 1 = true) (hn : Builtin.Range.rangeSize a b 1 = ((n : Nat) : Int)) (hsz : n ≤ sizeLine)
    (R : ∀ g, CompRest prog w A h₀ L m env elt x scope cl { s with heap := g } (fun _ => True) (fun i v => ∃ t, v = .int (a + (i : Int)) t) (Fin { s with heap := g }) n 0 [] news) :
    SrcW prog w A E h₀ L m env elt x scope cl Fin (.ref r) s := by
  refine wpAny_pyIter_range hr hsm ?_
  refine ⟨_, _, _, _, _, _, news, rfl, range_walks hh a n, hsz, fun i h st => ⟨_, st⟩, range_st, ?_, fun b hb => ?_,
    F.keeps fun _ _ e => Heap.get?_push_of_some _ e, N.grown fun _ _ e => Heap.get?_push_of_some _ e, Nat.ne_of_lt F.ns.lt, next_is_new F, fun p hp => Nat.ne_of_lt (Heap.lt_size (N p hp).1), trivial, R _⟩
  · show IsRangeIter _ _ _ _ _
    rw [hn]; simpa using Heap.get?_push_size _ rfl
  · rw [List.mem_singleton.mp hb]
    show s.heap.objs.size < (s.heap.push _).objs.size
    rw [Heap.size_push]; exact Nat.lt_succ_self _

noncomputable def ElJ (h₀ : Heap) (L : Addr) (m : Str → Option Value) (s : Shared) (I C D : Addr) (own : List (Addr × Obj)) (J : Value → List (Addr × Obj) → Prop) (y : Value) (s' : Shared) : Prop :=
  ∃ h' tk' nx', s' = { s with heap := h', toks := tk' } ∧ Fr h₀ L h' m ∧ News h₀ L h' (own ++ nx') ∧ (∀ p ∈ nx', p.1 ≠ I ∧ p.1 ≠ C ∧ p.1 ≠ D) ∧ J y nx'
theorem ElJ.intro {s : Shared} {I C D : Addr} {own : List (Addr × Obj)} {J : Value → List (Addr × Obj) → Prop} {y : Value} {h' : Heap} {tk' : Nat} (nx' : List (Addr × Obj)) (F : Fr h₀ L h' m) (N : News h₀ L h' (own ++ nx'))
    (off : ∀ p ∈ nx', p.1 ≠ I ∧ p.1 ≠ C ∧ p.1 ≠ D) (j : J y nx') : ElJ h₀ L m s I C D own J y { s with heap := h', toks := tk' } := ⟨h', tk', nx', rfl, F, N, off, j⟩
noncomputable def ElR (h₀ : Heap) (L : Addr) (m : Str → Option Value) (s : Shared) (own : List (Addr × Obj)) (R : Value → Prop) (y : Value) (s' : Shared) : Prop :=
  ∃ h' tk', s' = { s with heap := h', toks := tk' } ∧ Fr h₀ L h' m ∧ News h₀ L h' own ∧ R y
theorem ElR.intro {s : Shared} {own : List (Addr × Obj)} {R : Value → Prop} {y : Value} {h' : Heap} {tk' : Nat} (F : Fr h₀ L h' m) (N : News h₀ L h' own) (r : R y) : ElR h₀ L m s own R y { s with heap := h', toks := tk' } := ⟨h', tk', rfl, F, N, r⟩

theorem compRest_J {elt : PySem.Expr} {x : Str} {scope : Scope} {cl : List (Str × Addr)} {S : List (Addr × Obj) → Prop} {P : Nat → Value → Prop} {Fin : List Value → List (Addr × Obj) → Prop} {news : List (Addr × Obj)} {n : Nat}
    (J : Nat → List Value → List (Addr × Obj) → Prop) (hS : ∀ i ys nx, J i ys nx → S nx) (h0 : J 0 [] news)
    (step : ∀ i ys nx v I oI C oC D m₂ h tk (E' : Value → Shared → Prop), i < n → P i v → J i ys nx → NsObj oC m₂ → m₂ x = some v → Fr h₀ L h m → News h₀ L h ((I, oI) :: (C, oC) :: (D, lst ys) :: nx) → Off3 I C D nx → ((@Ne Nat I C) ∧ (@Ne Nat I D) ∧ (@Ne Nat C D)) →
      wpAny (model prog w) A (eval elt (compEnvC scope cl C env)) (ElJ h₀ L m s I C D [(I, oI), (C, oC), (D, lst ys)] (fun y nx' => J (i + 1) (ys ++ [y]) nx')) E' { s with heap := h, toks := tk })
    (fin : ∀ ys nx, J n ys nx → Fin ys nx) : CompRest prog w A h₀ L m env elt x scope cl s S P Fin n 0 [] news := by
  have go : ∀ k i ys nx, i + k = n → J i ys nx → CompRest prog w A h₀ L m env elt x scope cl s S P Fin k i ys nx := by
    intro k
    induction k with
    | zero => intro i ys nx hi hJ; exact fin ys nx (by rw [Nat.add_zero] at hi; exact hi ▸ hJ)
    | succ k ih =>
      intro i ys nx hi hJ
      refine CompRest.succ fun v I oI C oC D m₂ h tk E' hP hC hx F N off ne => ?_
      refine wpAny_mono (step i ys nx v I oI C oC D m₂ h tk E' (by omega) hP hJ hC hx F N off ne) (fun y s' h' => ?_) fun _ _ e => e
      obtain ⟨h', tk', nx', rfl, F', N', off', J'⟩ := h'
      exact CompEnd.intro F' N' nx' (fun p hp => hp) (Off3.of off') (hS _ _ _ J') (ih (i + 1) _ nx' (by omega) J')
  exact go n 0 [] news (by simp) h0

theorem compRest_R {elt : PySem.Expr} {x : Str} {scope : Scope} {cl : List (Str × Addr)} {S : List (Addr × Obj) → Prop} {P : Nat → Value → Prop} {Fin : List Value → List (Addr × Obj) → Prop} {news : List (Addr × Obj)} {n : Nat}
    (R : Nat → Value → Prop) (hS : S news)
    (step : ∀ i ys v I oI C oC D m₂ h tk (E' : Value → Shared → Prop), i < n → P i v → NsObj oC m₂ → m₂ x = some v → Fr h₀ L h m → News h₀ L h ((I, oI) :: (C, oC) :: (D, lst ys) :: news) →
      wpAny (model prog w) A (eval elt (compEnvC scope cl C env)) (ElR h₀ L m s ((I, oI) :: (C, oC) :: (D, lst ys) :: news) (R i)) E' { s with heap := h, toks := tk })
    (fin : ∀ ys, ys.length = n → (∀ i y, ys[i]? = some y → R i y) → Fin ys news) : CompRest prog w A h₀ L m env elt x scope cl s S P Fin n 0 [] news := by
  refine compRest_J (J := fun i ys nx => nx = news ∧ ys.length = i ∧ ∀ j y, ys[j]? = some y → R j y) (by rintro i ys nx ⟨rfl, _⟩; exact hS) ⟨rfl, rfl, fun j y e => by simp at e⟩ ?_ (by rintro ys nx ⟨rfl, h1, h2⟩; exact fin ys h1 h2)
  rintro i ys nx v I oI C oC D m₂ h tk E' hi hP ⟨rfl, hl, hR⟩ hC hx F N off ne
  refine wpAny_mono (step i ys v I oI C oC D m₂ h tk E' hi hP hC hx F N) (fun y s' h' => ?_) fun _ _ e => e
  obtain ⟨h', tk', rfl, F', N', r⟩ := h'
  refine ⟨h', tk', nx, rfl, F', N', off.mem, rfl, by simp [hl], fun j y' e => ?_⟩
  rcases Nat.lt_or_ge j ys.length with hj | hj
  · rw [List.getElem?_append_left hj] at e; exact hR j y' e
  · rw [List.getElem?_append_right hj] at e
    rcases hk : j - ys.length with _ | k
    · rw [hk] at e; simp at e; subst e
      have : j = i := by omega
      rw [this]; exact r
    · rw [hk] at e; simp at e
theorem off1_mem {D : Addr} : ∀ {l : List (Addr × Obj)}, Off1 D l → ∀ p ∈ l, p.1 ≠ D := by
  intro l
  induction l with
  | nil => intro _ p hp; cases hp
  | cons a l ih => intro o p hp; rcases List.mem_cons.mp hp with rfl | hp; exact o.1; exact ih o.2 p hp
end
end Mine
end
-- PS
section
namespace Mine
open _root_.PySem _root_.PySem.Calls PyProof.Rows _root_.PySem.W PyProof.Rows.LCg

theorem Rises.inj {nm : Nat → Str} {n a b : Nat} (h : Rises nm n) (ha : a < n) (hb : b < n) (e : (nm a).cps.toList = (nm b).cps.toList) : a = b := by
  have h1 := h a b ha hb
  have h2 := h b a hb ha
  rw [e, decide_eq_false (List.lt_irrefl _)] at h1
  rw [e, decide_eq_false (List.lt_irrefl _)] at h2
  have h3 : ¬ a < b := of_decide_eq_false h1.symm
  have h4 : ¬ b < a := of_decide_eq_false h2.symm
  omega

noncomputable def IT (vs : List Value) (ns : List Nat) : Prop := vs.length = ns.length ∧ ∀ (i : Nat) (v : Value) (c : Nat), vs[i]? = some v → ns[i]? = some c → ∃ t, v = Value.int (c : Int) t
theorem IT.cons_inv {v : Value} {vs : List Value} {cs : List Nat} (h : IT (v :: vs) cs) : ∃ c cs' t, cs = c :: cs' ∧ v = .int (c : Int) t ∧ IT vs cs' := by
  match cs, h with
  | [], h => exact absurd h.1 (by simp)
  | c :: cs', h =>
    obtain ⟨t, e⟩ := h.2 0 v c rfl rfl
    refine ⟨c, cs', t, rfl, e, ?_, fun i v c a b => h.2 (i + 1) v c (by simpa using a) (by simpa using b)⟩
    have := h.1; simpa using this
theorem IT.ints : ∀ {vs : List Value} {cs : List Nat}, IT vs cs → IntsAre vs (cs.map fun n : Nat => (n : Int))
  | [], cs, h => by
    have : cs = [] := List.eq_nil_of_length_eq_zero h.1.symm
    subst this
    exact IntsAre.nil
  | v :: vs, cs, h => by
    obtain ⟨c, cs', t, rfl, rfl, h'⟩ := h.cons_inv
    exact IntsAre.cons _ t (IT.ints h')
theorem IT.of_get {vs : List Value} {cs : List Nat} (hl : vs.length = cs.length) (h : ∀ (i : Nat) (v : Value), vs[i]? = some v → ∃ t, v = Value.int ((cs.getD i 0 : Nat) : Int) t) : IT vs cs := by
  refine ⟨hl, fun i v c a b => ?_⟩
  obtain ⟨t, e⟩ := h i v a
  rw [List.getD_eq_getElem?_getD, b] at e
  exact ⟨t, e⟩
theorem RT.of_get {nm : Nat → Str} {vs : List Value} {cs : List Nat} (hl : vs.length = cs.length) (h : ∀ (i : Nat) (v : Value), vs[i]? = some v → ∃ t, v = Value.str (nm (cs.getD i 0)) t) : RT nm vs cs := by
  refine ⟨hl, fun i v c a b => ?_⟩
  obtain ⟨t, e⟩ := h i v a
  rw [List.getD_eq_getElem?_getD, b] at e
  exact ⟨t, e⟩

theorem sorted_iff {ns : List Nat} {ms : List Int} (p : ms.Perm (ns.map fun n : Nat => (n : Int))) (o : ms.Pairwise (· ≤ ·)) :
    decide (ns.map (fun n : Nat => (n : Int)) = ms) = decide (ns.Pairwise (· ≤ ·)) := by
  have hp : (ns.map fun n : Nat => (n : Int)).Pairwise (· ≤ ·) ↔ ns.Pairwise (· ≤ ·) := by
    rw [List.pairwise_map]
    constructor
    · exact fun h => h.imp fun {a b} h => Int.ofNat_le.mp h
    · exact fun h => h.imp fun {a b} h => Int.ofNat_le.mpr h
  rw [decide_eq_decide]
  constructor
  · intro e
    rw [← hp, e]; exact o
  · intro h
    exact (p.eq_of_pairwise (fun a b _ _ h1 h2 => Int.le_antisymm h1 h2) o (hp.mpr h)).symm

noncomputable def nthV : List Value → Nat → Option Value
  | [], _ => none
  | x :: _, 0 => some x
  | _ :: l, n + 1 => nthV l n
theorem nthV_eq : ∀ (l : List Value) (n : Nat), nthV l n = l[n]?
  | [], n => by simp [nthV]
  | x :: l, 0 => by simp [nthV]
  | x :: l, n + 1 => by simp [nthV, nthV_eq l n]
noncomputable def isStr (x : Str) : Value → Bool
  | .str y _ => y.cps.toList == x.cps.toList
  | _ => false

section
variable {prog : Program} {w : World} {A : Around} {E : Value → Shared → Prop} {s : Shared} {h₀ : Heap} {L D : Addr} {m : Str → Option Value} {news : List (Addr × Obj)} {nm : Nat → Str} {nv : List Value} {n k : Nat}
theorem words_index {c : Nat} {t : Tok} {Q : Value → Shared → Prop} (N : News h₀ L s.heap news) (hm : (D, W.listOf nv.toArray n) ∈ news) (hR : RT nm nv (List.range k)) (hn : Rises nm k) (hc : c < k) (hk : k ≤ 1000)
    (h : Q (.int (c : Nat) s.toks) { s with toks := s.toks + 1 }) : wpAny (model prog w) A (call (.builtin "list.index") [.ref D, .str (nm c) t]) Q E s := by
  have hl : nv.length = k := by simpa using hR.1
  have hget : ∀ i (hi : i < nv.length), ∃ t, nv[i] = .str (nm i) t := fun i hi => hR.2 i _ i (List.getElem?_eq_getElem hi) (by rw [List.getElem?_range (hl ▸ hi)])
  refine call_meets PySem.F.slot_list_index ⟨_, (N _ hm).1, rfl⟩ PySem.F.entry_list_index (PySem.F.args_list_index_2 _ _)
    (MeetsSeq.list_index D nv.toArray n (.str (nm c) t) (isStr (nm c)) (fun y hy => ?_) c (by simp; omega) (by omega) ?_ fun i hi hlt => ?_) ⟨(N _ hm).1, h⟩
  · have hy' : y ∈ nv := by simpa using hy
    obtain ⟨i, hi, rfl⟩ := List.getElem_of_mem hy'
    obtain ⟨t', e⟩ := hget i hi
    rw [e]
    exact SeqRoads2.EqGives.str _ _ _ _
  · obtain ⟨t', e⟩ := hget c (by omega)
    simp only [List.getElem_toArray, e, isStr, beq_self_eq_true]
  · have hi' : i < nv.length := by simpa using hi
    obtain ⟨t', e⟩ := hget i hi'
    simp only [List.getElem_toArray, e, isStr]
    rw [beq_eq_false_iff_ne]
    intro e2
    have := hn.inj (by omega) hc e2
    omega

theorem led_list {its : Array Value} (N : News h₀ L s.heap news) (hm : (D, W.listOf its n) ∈ news) : s.heap.IsList D its := ⟨_, (N _ hm).1, rfl, _, rfl⟩
theorem led_item {value slice : PySem.Expr} {its : Array Value} {i : Int} {u : Tok} {x : Value} {Q : Value → Shared → Prop} (N : News h₀ L s.heap news) (hm : (D, W.listOf its n) ∈ news)
    (h0 : 0 ≤ i) (hfit : i < 2 ^ 63) (hx : its[i.toNat]? = some x) (h : Q x s)
    (hs : subscripted slice false (.ref D) (.int i u) = operate [.ref D, .int i u] (getItem (.ref D) (.int i u))) (hg : ∀ r, letTemporaryGo value (.ref D) r = pure ()) :
    wpAny (model prog w) A (subscriptTail value slice (.ref D) (.int i u)) Q E s := item_list (led_list N hm) h0 hfit hx h hs hg
theorem led_itemV {value slice : PySem.Expr} {its : List Value} {i : Int} {u : Tok} {x : Value} {Q : Value → Shared → Prop} (N : News h₀ L s.heap news) (hm : (D, W.listOf its.toArray n) ∈ news)
    (h0 : 0 ≤ i) (hfit : i < 2 ^ 63) (hx : nthV its i.toNat = some x) (h : Q x s)
    (hs : subscripted slice false (.ref D) (.int i u) = operate [.ref D, .int i u] (getItem (.ref D) (.int i u))) (hg : ∀ r, letTemporaryGo value (.ref D) r = pure ()) :
    wpAny (model prog w) A (subscriptTail value slice (.ref D) (.int i u)) Q E s := item_list (led_list N hm) h0 hfit (by rw [List.getElem?_toArray, ← nthV_eq]; exact hx) h hs hg
theorem byteArr_nat (cs : List Nat) : byteArr (cs.map fun n : Nat => (n : Int)) = (cs.map Nat.toUInt8).toArray := by
  simp [byteArr, List.map_map, Function.comp_def]
theorem led_bytes {ys : List Value} {cs : List Nat} {Q : Value → Shared → Prop} (F : Fr h₀ L s.heap m) (N : News h₀ L s.heap news) (hm : (D, W.listOf ys.toArray n) ∈ news) (hI : IT ys cs) (h256 : ∀ c ∈ cs, c < 256) (hz : cs.length ≤ 1000) (hh : A.handled = none)
    (h : ∀ h' t k, Fr h₀ L h' m → News h₀ L h' news → Q (.bytes (cs.map Nat.toUInt8).toArray t) { s with heap := h', toks := k }) : wpAny (model prog w) A (call (.type "bytes") [.ref D]) Q E s := by
  refine call_bytes_ints (led_list N hm) hI.ints (fun i hi => ?_) (by rw [hI.1]; simp [sizeLine_eq]; omega) hh fun h' t k hk => ?_
  · obtain ⟨c, hc, rfl⟩ := List.mem_map.mp hi
    have := h256 c hc
    omega
  · rw [byteArr_nat]
    exact h h' t k (F.keeps hk) (N.grown hk)
theorem RT.cons {v : Value} {c : Nat} {vs : List Value} {cs : List Nat} {t : Tok} (e : v = .str (nm c) t) (h : RT nm vs cs) : RT nm (v :: vs) (c :: cs) := by
  refine ⟨by simp [h.1], fun i v' c' a b => ?_⟩
  cases i with
  | zero => simp at a b; subst a; subst b; exact ⟨t, e⟩
  | succ i => exact h.2 i v' c' (by simpa using a) (by simpa using b)
theorem four {α : Type} {l : List α} (h : l.length = 4) : ∃ a b c d, l = [a, b, c, d] := by
  match l, h with
  | [a, b, c, d], _ => exact ⟨a, b, c, d, rfl⟩
theorem RT.four {vs : List Value} {a b c d : Nat} (h : RT nm vs [a, b, c, d]) : ∃ t1 t2 t3 t4, vs = [.str (nm a) t1, .str (nm b) t2, .str (nm c) t3, .str (nm d) t4] := by
  obtain ⟨t1, v1, rfl, h1⟩ := h.app_inv
  obtain ⟨t2, v2, rfl, h2⟩ := h1.app_inv
  obtain ⟨t3, v3, rfl, h3⟩ := h2.app_inv
  obtain ⟨t4, v4, rfl, h4⟩ := h3.app_inv
  have : v4 = [] := List.eq_nil_of_length_eq_zero h4.1
  subst this
  exact ⟨t1, t2, t3, t4, rfl⟩
theorem RT.eight {vs : List Value} {a b c d a' b' c' d' : Nat} (h : RT nm vs [a, b, c, d, a', b', c', d']) : ∃ t1 t2 t3 t4 t5 t6 t7 t8, vs = [.str (nm a) t1, .str (nm b) t2, .str (nm c) t3, .str (nm d) t4, .str (nm a') t5, .str (nm b') t6, .str (nm c') t7, .str (nm d') t8] := by
  obtain ⟨t1, v1, rfl, h1⟩ := h.app_inv
  obtain ⟨t2, v2, rfl, h2⟩ := h1.app_inv
  obtain ⟨t3, v3, rfl, h3⟩ := h2.app_inv
  obtain ⟨t4, v4, rfl, h4⟩ := h3.app_inv
  obtain ⟨t5, t6, t7, t8, rfl⟩ := h4.four
  exact ⟨t1, t2, t3, t4, t5, t6, t7, t8, rfl⟩
theorem names_get {c k : Nat} {nv : List Value} (hR : RT nm nv (List.range k)) (hc : c < k) : ∃ t, nv.toArray[((c : Nat) : Int).toNat]? = some (.str (nm c) t) := by
  have hl : nv.length = k := by simpa using hR.1
  have h1 : c < nv.length := by omega
  obtain ⟨t, e⟩ := hR.2 c _ c (List.getElem?_eq_getElem h1) (by rw [List.getElem?_range hc])
  exact ⟨t, by simp [h1, ← e]⟩
end
end Mine
end
-- PT
section
namespace Mine
open _root_.PySem _root_.PySem.Calls PyProof.Rows _root_.PySem.W PyProof.Rows.LCg

section
variable {prog : Program} {w : World} {A : Around} {E : Value → Shared → Prop} {s : Shared} {h₀ : Heap} {L : Addr} {m : Str → Option Value} {env : Env}

theorem block_C {elt iter : PySem.Expr} {x : Str} {px : Pos} {scope : Scope} {cl : List (Str × Addr)} {pos : Pos} {s₂ : Shared} {I : Addr} {fp : List Addr} {n : Nat} {P : Nat → Value → Prop} {St : Nat → Heap → Prop} {S : List (Addr × Obj) → Prop} {news : List (Addr × Obj)}
    {RR : Value → Addr → Result → Shared → Prop} (J : Nat → List Value → List (Addr × Obj) → Prop)
    (W : Walks prog w A I fp [I] n P St) (hsz : n ≤ sizeLine) (hIo : ∀ i h, St i h → ∃ o, h.get? I = some o)
    (hSt : ∀ i h h' o nw, St i h → h.get? I = some o → h'.get? I = some o → (∀ b o, h₀.get? b = some o → h'.get? b = some o) → News h₀ L h' nw → S nw → St i h')
    (hcf : ∀ k, cellsFrom k scope.names cl = (x, k) :: cl) (hpc : ∀ h : Heap, pushCells h scope.names = h.push { cls := .type "cell", data := .cell none }) (hkind : scope.kind = .function) (hx : ∀ C K, (compEnvC scope ((x, K) :: cl) C env).kindOf x = some .cell) (hst : St 0 s₂.heap) (hfp : ∀ b ∈ fp, b < s₂.heap.objs.size)
    (F : Fr h₀ L s₂.heap m) (N : News h₀ L s₂.heap news) (hIL : L ≠ I) (hI₀ : h₀.get? I = none) (off : ∀ p ∈ news, p.1 ≠ I) (h0 : J 0 [] news) (hS : ∀ i ys nx, J i ys nx → S nx)
    (step : ∀ i ys nx v I oI C oC K oK D h tk (E' : Value → Shared → Prop), i < n → P i v → J i ys nx → oK.data = .cell (some v) → Fr h₀ L h m → News h₀ L h ((I, oI) :: (C, oC) :: (K, oK) :: (D, lst ys) :: nx) → (∀ p ∈ nx, p.1 ≠ I ∧ p.1 ≠ C ∧ p.1 ≠ K ∧ p.1 ≠ D) → (@Ne Nat I C ∧ @Ne Nat I K ∧ @Ne Nat I D ∧ @Ne Nat C K ∧ @Ne Nat C D ∧ @Ne Nat K D) →
      wpAny (model prog w) A (eval elt (compEnvC scope ((x, K) :: cl) C env)) (ElJ h₀ L m s₂ I C D [(I, oI), (C, oC), (K, oK), (D, lst ys)] (fun y nx' => (∀ p ∈ nx', p.1 ≠ K) ∧ J (i + 1) (ys ++ [y]) nx')) E' { s₂ with heap := h, toks := tk })
    (hRR : ∀ D C h tk m' ys news', Fr h₀ L h m → News h₀ L h ((D, lst ys) :: news') → (∀ p ∈ news', p.1 ≠ D) → h.Ns C m' → h₀.get? C = none → h₀.get? D = none → C ≠ L → D ≠ L → C ≠ D → (∀ p ∈ news', p.1 ≠ C) → J n ys news' → RR (.ref D) C (.ok .next) { s₂ with heap := h, toks := tk }) :
    wpAny (model prog w) A (newList []) (fun acc s₃ => wpAny (model prog w) A (newFunctionEnv scope env.globals cl [] env.qual none .none (some env)) (fun cenv s₄ =>
      codeAny (model prog w) A (.compStart (.ListComp elt [⟨.Name x px, iter, [], 0⟩] scope pos) 0 (.ref I) acc { cenv with scope := relabel scope env }) (RR acc cenv.locals) s₄) E s₃) E s₂ := by
  refine wpAny_newObj_type ?_
  generalize hH2 : s₂.heap.push { cls := .type "list", dict := none, data := .seq ([] : List Value).toArray } = H2
  have hC : H2.objs.size = s₂.heap.objs.size + 1 := by rw [← hH2, Heap.size_push]
  unfold newFunctionEnv
  simp only [Option.isSome_some, if_true]
  refine wpAny_bind (wpAny_alloc ?_)
  refine wpAny_bind (wpAny_layCells _ (fun name kind cells => by cases hkc : kind == NameKind.cell <;> simp [hkc]) _ _ _ _ ?_)
  simp only [List.forIn_nil]
  refine wpAny_bind (wpAny_pure (wpAny_pure ?_))
  simp only [hpc]
  generalize hH3 : H2.push { cls := .type "dict", data := .dict #[] } = H3
  have hK : H3.objs.size = s₂.heap.objs.size + 2 := by rw [← hH3, Heap.size_push, hC]
  rw [hcf H3.objs.size]
  generalize hh₁ : H3.push { cls := .type "cell", data := .cell none } = h₁
  have hDC : s₂.heap.objs.size ≠ H2.objs.size := by rw [hC]; exact Nat.ne_of_lt (Nat.lt_succ_self _)
  have hDK : s₂.heap.objs.size ≠ H3.objs.size := by omega
  have hCK : H2.objs.size ≠ H3.objs.size := by omega
  have below : ∀ b, b < s₂.heap.objs.size → b ≠ H2.objs.size ∧ b ≠ s₂.heap.objs.size ∧ b ≠ H3.objs.size := fun b hb => ⟨by omega, by omega, by omega⟩
  have hDf : s₂.heap.objs.size ∉ fp := fun hm => Nat.lt_irrefl _ (hfp _ hm)
  have hCf : H2.objs.size ∉ fp := fun hm => by have h9 : H2.objs.size < s₂.heap.objs.size := hfp _ hm; omega
  have hKf : H3.objs.size ∉ fp := fun hm => by have h9 : H3.objs.size < s₂.heap.objs.size := hfp _ hm; omega
  have hIf : I ∈ fp := W.sub I (List.mem_singleton.mpr rfl)
  have hIlt : I < s₂.heap.objs.size := hfp I hIf
  have old2 : ∀ b o, H2.get? b = some o → h₁.get? b = some o := fun b o e => hh₁ ▸ Heap.get?_push_of_some _ (hH3 ▸ Heap.get?_push_of_some _ e)
  have old : ∀ b o, s₂.heap.get? b = some o → h₁.get? b = some o := fun b o e => old2 b o (hH2 ▸ Heap.get?_push_of_some _ e)
  have hacc : h₁.get? s₂.heap.objs.size = some (lst []) := old2 _ _ (hH2 ▸ Heap.get?_push_size _ rfl)
  have hcell : h₁.get? H3.objs.size = some { cls := .type "cell", data := .cell none } := hh₁ ▸ Heap.get?_push_size _ rfl
  have hns₁ : h₁.Ns H2.objs.size (fun _ => none) := by
    have a : H3.Ns H2.objs.size (fun _ => none) := hH3 ▸ Heap.Ns.new H2 (.type "dict")
    exact a.at' fun o e => hh₁ ▸ Heap.get?_push_of_some _ e
  have hst₁ : St 0 h₁ := W.frame _ _ _ hst fun b _ o e => old b o e
  have fresh : ∀ a, s₂.heap.objs.size ≤ a → s₂.heap.get? a = none := fun a ha => by
    cases e : s₂.heap.get? a with
    | none => rfl
    | some o' => exact absurd (Heap.lt_size e) (Nat.not_lt.mpr ha)
  have fresh₀ : ∀ a, s₂.heap.objs.size ≤ a → h₀.get? a = none := fun a ha => by
    cases e : h₀.get? a with
    | none => rfl
    | some o' => have := F.keep a o' e; rw [fresh a ha] at this; cases this
  have hD₀ : h₀.get? s₂.heap.objs.size = none := fresh₀ _ (Nat.le_refl _)
  have hC₀ : h₀.get? H2.objs.size = none := fresh₀ _ (by omega)
  have hK₀ : h₀.get? H3.objs.size = none := fresh₀ _ (by omega)
  have hLlt : L < s₂.heap.objs.size := F.ns.lt
  have hDL : s₂.heap.objs.size ≠ L := Ne.symm (below L hLlt).2.1
  have hCL : H2.objs.size ≠ L := Ne.symm (below L hLlt).1
  have hKL : H3.objs.size ≠ L := Ne.symm (below L hLlt).2.2
  have hCI : I ≠ H2.objs.size := (below I hIlt).1
  have hDI : I ≠ s₂.heap.objs.size := (below I hIlt).2.1
  have hKI : I ≠ H3.objs.size := (below I hIlt).2.2
  have loop : ∀ s₃ : Shared, s₃ = { s₂ with heap := h₁ } →
      codeAny (model prog w) A (.compLoop (.ListComp elt [⟨.Name x px, iter, [], 0⟩] scope pos) 0 (.ref I) (.ref s₂.heap.objs.size) (compEnvC scope ((x, H3.objs.size) :: cl) H2.objs.size env))
        (RR (.ref s₂.heap.objs.size) H2.objs.size) s₃ := by
    rintro s₃ rfl
    refine codeAny_compLoop_tests
      (fun k s' => ∃ h' tk i ys m' v₀ news', s' = { s₂ with heap := h', toks := tk } ∧ i ≤ n ∧ k = n + 1 - i ∧ ys.length = i ∧ St i h' ∧ Fr h₀ L h' m ∧ h'.Ns H2.objs.size m' ∧ h'.IsCell H3.objs.size v₀ ∧ News h₀ L h' ((s₂.heap.objs.size, lst ys) :: news') ∧
        (∀ p ∈ news', p.1 ≠ I ∧ p.1 ≠ H2.objs.size ∧ p.1 ≠ H3.objs.size ∧ p.1 ≠ s₂.heap.objs.size) ∧ J i ys news') ?_ (n + 1)
      ⟨h₁, s₂.toks, 0, [], _, none, news, rfl, Nat.zero_le _, rfl, rfl, hst₁, F.keeps old, hns₁, ⟨_, hcell, rfl⟩, fun p hp => ?_, fun p hp => ⟨off p hp, (below _ (Heap.lt_size (N p hp).1)).1, (below _ (Heap.lt_size (N p hp).1)).2.2, (below _ (Heap.lt_size (N p hp).1)).2.1⟩, h0⟩
    · rintro k s' ⟨h', tk, i, ys, m', v₀, news', rfl, hi, rfl, hyl, hst', F', hn', hc', N', off', hJ'⟩
      by_cases hlt : i < n
      · refine W.item i _ _ _ hlt hst' fun v h₂ tk₂ hPv hst₂ hk₂ => ?_
        have up₂ : ∀ b o, b ≠ I → h'.get? b = some o → h₂.get? b = some o := fun b o hb e => hk₂ b o (by simpa using hb) e
        have hc₂ : h₂.IsCell H3.objs.size v₀ := by obtain ⟨o, e, d⟩ := hc'; exact ⟨o, up₂ _ _ (Ne.symm hKI) e, d⟩
        refine wpAny_assign_Name (wpAny_storeName_cell (by simp [compEnvC, relabel, hkind]) (hx _ _) (by simp [compEnvC]) hc₂ fun h₃ hv₃ hs₃ => ?_)
        refine wpAny_tests_nil ?_
        simp only [if_true]
        obtain ⟨oK, heK, hdK⟩ := hv₃
        have up₃ : ∀ b o, b ≠ I → b ≠ H3.objs.size → h'.get? b = some o → h₃.get? b = some o := fun b o h1 h2 e => hs₃.extBut b o h2 (up₂ b o h1 e)
        have hst₃ : St (i + 1) h₃ := W.frame _ _ _ hst₂ fun b hb o e => hs₃.extBut b o (fun q => hKf (by have q' : b = H3.objs.size := q; rw [← q']; exact hb)) e
        obtain ⟨oI, heI⟩ := hIo _ _ hst₃
        have hn₃ : h₃.Ns H2.objs.size m' := hn'.at' fun o e => up₃ _ o (Ne.symm hCI) hCK e
        obtain ⟨oC, heC, hoC⟩ := ns_obj hn₃
        have F₃ : Fr h₀ L h₃ m := (fr_but F' hk₂ hIL hI₀).change hs₃ hKL hK₀
        have N₃ : News h₀ L h₃ ((I, oI) :: (H2.objs.size, oC) :: (H3.objs.size, oK) :: (s₂.heap.objs.size, lst ys) :: news') := fun p hp => by
          rcases List.mem_cons.mp hp with rfl | hp
          · exact ⟨heI, Ne.symm hIL, hI₀⟩
          · rcases List.mem_cons.mp hp with rfl | hp
            · exact ⟨heC, hCL, hC₀⟩
            · rcases List.mem_cons.mp hp with rfl | hp
              · exact ⟨heK, hKL, hK₀⟩
              · have z := N' p hp
                refine ⟨up₃ _ _ ?_ ?_ z.1, z.2⟩
                · rcases List.mem_cons.mp hp with rfl | hp
                  · exact Ne.symm hDI
                  · exact (off' p hp).1
                · rcases List.mem_cons.mp hp with rfl | hp
                  · exact hDK
                  · exact (off' p hp).2.2.1
        refine wpAny_mono (step i ys news' v I oI H2.objs.size oC H3.objs.size oK s₂.heap.objs.size h₃ _ _ hlt hPv hJ' hdK F₃ N₃ off' ⟨hCI, hKI, hDI, hCK, Ne.symm hDC, Ne.symm hDK⟩) (fun y s₄ h₄ => ?_) fun _ _ e => e
        obtain ⟨h₄, tk₄, news₄, rfl, F₄, N₄, off₄, offK₄, J₄⟩ := h₄
        have zI := (N₄ (I, oI) (.head _)).1
        have zC := (N₄ (H2.objs.size, oC) (.tail _ (.head _))).1
        have zK := (N₄ (H3.objs.size, oK) (.tail _ (.tail _ (.head _)))).1
        have zD := (N₄ (s₂.heap.objs.size, lst ys) (.tail _ (.tail _ (.tail _ (.head _))))).1
        have N₄' : News h₀ L h₄ news₄ := fun p hp => N₄ p (.tail _ (.tail _ (.tail _ (.tail _ hp))))
        have hst₄ : St (i + 1) h₄ := hSt _ _ _ _ _ hst₃ heI zI F₄.keep N₄' (hS _ _ _ J₄)
        refine append_at (hsz := by show ys.toArray.size ≤ sizeLine; rw [List.size_toArray, hyl]; exact Nat.le_trans hi hsz) zD fun h₅ hs₅ hD₅ => ?_
        refine ⟨n + 1 - (i + 1), by omega, h₅, tk₄, i + 1, ys ++ [y], _, some v, news₄, rfl, hlt, rfl, by rw [List.length_append, List.length_singleton, hyl], W.frame _ _ _ hst₄ fun b hb o e => hs₅.extBut b o (fun q => hDf (q ▸ hb)) e, F₄.change hs₅ hDL hD₀,
          (hoC.ns zC).sameBut hs₅ (Ne.symm hDC), ⟨oK, hs₅.extBut _ _ (Ne.symm hDK) zK, hdK⟩, fun p hp => ?_, fun p hp => ⟨(off₄ p hp).1, (off₄ p hp).2.1, offK₄ p hp, (off₄ p hp).2.2⟩, J₄⟩
        rcases List.mem_cons.mp hp with rfl | hp
        · exact ⟨hD₅.trans (congrArg some (lst_snoc ys y)), hDL, hD₀⟩
        · exact ⟨hs₅.extBut _ _ (off₄ p hp).2.2 (N₄' p hp).1, (N₄' p hp).2⟩
      · obtain rfl : i = n := Nat.le_antisymm hi (Nat.not_lt.mp hlt)
        refine W.done _ _ _ hst' fun h₂ tk₂ hk₂ => ?_
        exact hRR _ _ h₂ tk₂ _ ys news' (fr_but F' hk₂ hIL hI₀) (news_but N' hk₂ fun p hp => by
          rcases List.mem_cons.mp hp with rfl | hp
          · exact Ne.symm hDI
          · exact (off' p hp).1) (fun p hp => (off' p hp).2.2.2) (hn'.at' fun o e => hk₂ _ o (by simpa using Ne.symm hCI) e) hC₀ hD₀ hCL hDL (Ne.symm hDC) (fun p hp => (off' p hp).2.1) hJ'
    · rcases List.mem_cons.mp hp with rfl | hp
      · exact ⟨hacc, hDL, hD₀⟩
      · exact ⟨old _ _ (N p hp).1, (N p hp).2⟩
  exact codeAny_compStart_list (loop _ rfl) (W.self 0 _ _ _ hst₁ (loop _ rfl))

noncomputable def SrcK (prog : Program) (w : World) (A : Around) (h₀ : Heap) (L : Addr) (m : Str → Option Value) (env : Env) (elt : PySem.Expr) (x : Str) (scope : Scope) (cl : List (Str × Addr)) (Fin : Shared → List Value → List (Addr × Obj) → Prop) (xv : Value) (s₁ : Shared) : Prop :=
  ∃ (r : Addr) (a b : Int) (t u v : Tok) (n : Nat) (news : List (Addr × Obj)) (J : Nat → List Value → List (Addr × Obj) → Prop), xv = .ref r ∧ A.handled = none ∧ Fr h₀ L s₁.heap m ∧ News h₀ L s₁.heap news ∧ IsRange s₁.heap r a b 1 t u v ∧ Builtin.Range.small a b 1 = true ∧ Builtin.Range.rangeSize a b 1 = ((n : Nat) : Int) ∧ n ≤ sizeLine ∧ J 0 [] news ∧
    (∀ g i ys nx v I oI C oC K oK D h tk (E' : Value → Shared → Prop), i < n → (∃ t, v = Value.int (a + (i : Int)) t) → J i ys nx → oK.data = .cell (some v) → Fr h₀ L h m → News h₀ L h ((I, oI) :: (C, oC) :: (K, oK) :: (D, lst ys) :: nx) → (∀ p ∈ nx, p.1 ≠ I ∧ p.1 ≠ C ∧ p.1 ≠ K ∧ p.1 ≠ D) → (@Ne Nat I C ∧ @Ne Nat I K ∧ @Ne Nat I D ∧ @Ne Nat C K ∧ @Ne Nat C D ∧ @Ne Nat K D) →
      wpAny (model prog w) A (eval elt (compEnvC scope ((x, K) :: cl) C env)) (ElJ h₀ L m { s₁ with heap := g } I C D [(I, oI), (C, oC), (K, oK), (D, lst ys)] (fun y nx' => (∀ p ∈ nx', p.1 ≠ K) ∧ J (i + 1) (ys ++ [y]) nx')) E' { { s₁ with heap := g } with heap := h, toks := tk }) ∧
    (∀ g ys nx, J n ys nx → Fin { s₁ with heap := g } ys nx)

theorem off1_of {D : Addr} : ∀ {l : List (Addr × Obj)}, (∀ p ∈ l, p.1 ≠ D) → Off1 D l := by
  intro l
  induction l with
  | nil => intro _; trivial
  | cons a l ih => intro h; exact ⟨h a (.head _), ih fun p hp => h p (.tail _ hp)⟩

theorem ListComp_K {elt iter : PySem.Expr} {x : Str} {px : Pos} {scope : Scope} {cl : List (Str × Addr)} {pos : Pos} {Q : Value → Shared → Prop} (_F₀ : Fr h₀ L s.heap m)
    (hclos : closureFor scope env = pure cl) (hkind : scope.kind = .function)
    (hcf : ∀ k, cellsFrom k scope.names cl = (x, k) :: cl) (hpc : ∀ h : Heap, pushCells h scope.names = h.push { cls := .type "cell", data := .cell none }) (hx : ∀ C K, (compEnvC scope ((x, K) :: cl) C env).kindOf x = some .cell)
    (hnames : ∀ y ∈ scope.names, y.2 = .local → scope.names.lookup y.1 = some .local)
    (h : wpAny (model prog w) A (eval iter env) (SrcK prog w A h₀ L m env elt x scope cl (fun s₂ => FinE h₀ L m s₂ Q)) E s)
    (hs : ∀ x, foldedSetIterable iter env x = pure x := by intro _; rfl) :
    wpAny (model prog w) A (eval (.ListComp elt [⟨.Name x px, iter, [], 0⟩] scope pos) env) Q E s := by
  rw [eval_ListComp]
  refine wpAny_comprehension_free (use := none) rfl hs hclos hkind hnames (wpAny_mono h (fun xv s₁ h₁ => ?_) fun _ _ e => e)
  obtain ⟨r, a, b, t, u, v, n, news, J, rfl, hh, F, N, hr, hsm, hn, hsz, h0, step, fin⟩ := h₁
  refine wpAny_pyIter_range hr hsm ?_
  refine block_C J (range_walks hh a n) hsz (fun i h st => ⟨_, st⟩) (S := fun _ => True) range_st hcf hpc hkind hx (by show IsRangeIter _ _ _ _ _; rw [hn]; simpa using Heap.get?_push_size _ rfl) (fun b hb => ?_)
    (F.keeps fun _ _ e => Heap.get?_push_of_some _ e) (N.grown fun _ _ e => Heap.get?_push_of_some _ e) (Nat.ne_of_lt F.ns.lt) (next_is_new F) (fun p hp => Nat.ne_of_lt (Heap.lt_size (N p hp).1)) h0 (fun _ _ _ _ => trivial) (step _) ?_
  · rw [List.mem_singleton.mp hb]
    show s₁.heap.objs.size < (s₁.heap.push _).objs.size
    rw [Heap.size_push]; exact Nat.lt_succ_self _
  · intro D C h tk m' ys news' F' N' o1 hn hC₀ hD₀ hCL hDL hCD offC hJ
    refine ⟨m', hn, fun h'' hs'' => fin (s₁.heap.push { cls := .type "range_iterator", data := .fields #[rawInt a, rawInt (Builtin.Range.rangeSize a b 1), rawInt 1] }) ys news' hJ D h'' tk (F'.change hs'' hCL hC₀) (fun p hp => ?_) (off1_of o1)⟩
    refine ⟨hs''.extBut _ _ ?_ (N' p hp).1, (N' p hp).2⟩
    rcases List.mem_cons.mp hp with rfl | hp
    · exact Ne.symm hCD
    · exact offC p hp

theorem Assign_ListComp_K {elt iter : PySem.Expr} {x y : Str} {px py : Pos} {scope : Scope} {cl : List (Str × Addr)} {pos spos : Pos} {Q : Flow → Shared → Prop} (_F₀ : Fr h₀ L s.heap m) (hLe : env.locals = L)
    (hsw : swapsWith (.ListComp elt [⟨.Name x px, iter, [], 0⟩] scope pos) (some (.Name y py)) spos.line env = pure true)
    (hclos : closureFor scope env = pure cl) (hkind : scope.kind = .function)
    (hcf : ∀ k, cellsFrom k scope.names cl = (x, k) :: cl) (hpc : ∀ h : Heap, pushCells h scope.names = h.push { cls := .type "cell", data := .cell none }) (hx : ∀ C K, (compEnvC scope ((x, K) :: cl) C env).kindOf x = some .cell)
    (hnames : ∀ z ∈ scope.names, z.2 = .local → scope.names.lookup z.1 = some .local)
    (hy : env.kindOf y = some .local) (hp : (env.scope.kind == .class || (env.scope.kind == .module && env.locals != env.globals)) = false)
    (h : wpAny (model prog w) A (eval iter env) (SrcK prog w A h₀ L m env elt x scope cl (fun s₂ => FinA h₀ L m s₂ y Q)) E s)
    (hs : ∀ x, foldedSetIterable iter env x = pure x := by intro _; rfl) :
    wpAny (model prog w) A (exec (.Assign [.Name y py] (.ListComp elt [⟨.Name x px, iter, [], 0⟩] scope pos) spos) env) Q E s := by
  subst hLe
  rw [exec_Assign_Name_used _ _ _ _ hsw]
  refine wpAny_bind (wpAny_standAt (wpAny_bind ?_))
  show wpAny _ A (do let _ ← comprehension (.ListComp elt [⟨.Name x px, iter, [], 0⟩] scope pos) scope env _ (newList []) false (eval iter env) (some (assign (.Name y py) env))) _ _ s
  refine wpAny_bind (wpAny_mono (wpAny_comprehension_free (use := some (assign (.Name y py) env)) (Q := fun _ s' => Q .next s') rfl hs hclos hkind hnames
    (wpAny_mono h (fun xv s₁ h₁ => ?_) fun _ _ e => e)) (fun _ s' hq => wpAny_pure (wpAny_pure hq)) fun _ _ e => e)
  obtain ⟨r, a, b, t, u, v, n, news, J, rfl, hh, F, N, hr, hsm, hn, hsz, h0, step, fin⟩ := h₁
  refine wpAny_pyIter_range hr hsm ?_
  refine block_C J (range_walks hh a n) hsz (fun i h st => ⟨_, st⟩) (S := fun _ => True) range_st hcf hpc hkind hx (by show IsRangeIter _ _ _ _ _; rw [hn]; simpa using Heap.get?_push_size _ rfl) (fun b hb => ?_)
    (F.keeps fun _ _ e => Heap.get?_push_of_some _ e) (N.grown fun _ _ e => Heap.get?_push_of_some _ e) (Nat.ne_of_lt F.ns.lt) (next_is_new F) (fun p hp => Nat.ne_of_lt (Heap.lt_size (N p hp).1)) h0 (fun _ _ _ _ => trivial) (step _) ?_
  · rw [List.mem_singleton.mp hb]
    show s₁.heap.objs.size < (s₁.heap.push _).objs.size
    rw [Heap.size_push]; exact Nat.lt_succ_self _
  · intro D C h' tk m' ys news' F' N' o1 hn hC₀ hD₀ hCL hDL hCD offC hJ
    show wpAny _ A (assign (.Name y py) env (.ref D)) _ _ _
    refine wpAny_assign_Name (wpAny_storeName_local hy F'.ns (fun h₂ hn₂ hs₂ => ?_) hp)
    have hL₀ : h₀.get? env.locals = none := Heap.get?_none_of_le F'.above
    have F₂ : Fr h₀ env.locals h₂ (fun z => if z = y then some (.ref D) else m z) := ⟨hn₂, fun b o e => hs₂.extBut b o (fun q => by rw [q, hL₀] at e; cases e) (F'.keep b o e), F'.above⟩
    refine ⟨m', hn.sameBut hs₂ hCL, fun h'' hs'' => fin (s₁.heap.push { cls := .type "range_iterator", data := .fields #[rawInt a, rawInt (Builtin.Range.rangeSize a b 1), rawInt 1] }) ys news' hJ D h'' _ (F₂.change hs'' hCL hC₀) (fun p hp => ?_) (off1_of o1)⟩
    have z : h₂.get? p.1 = some p.2 := hs₂.extBut _ _ (N' p hp).2.1 (N' p hp).1
    refine ⟨hs''.extBut _ _ ?_ z, (N' p hp).2⟩
    rcases List.mem_cons.mp hp with rfl | hp
    · exact Ne.symm hCD
    · exact offC p hp
end
end Mine
end
-- PU
section
namespace Mine
open _root_.PySem _root_.PySem.Calls PyProof.Rows _root_.PySem.W PyProof.Rows.LCg

open LCp
theorem codeAny_compLoop_pairT {prog : Program} {w : World} {A : Around} {s : Shared} {elt iter c : PySem.Expr} {elts : List PySem.Expr} {x1 : Nat} {tp : Pos} {scope : Scope} {pos : Pos} {it acc : Value} {env : Env} {R : Result → Shared → Prop} (I : Nat → Shared → Prop)
    (turn : ∀ n s, I n s → wpAny (model prog w) A (pyNext it) (fun r s₁ => match r with
      | none => R (.ok .next) s₁
      | some v => wpAny (model prog w) A (letOwnedTupleGo (.Tuple elts x1 tp) it v) (fun _ s₁' => wpAny (model prog w) A (assign (.Tuple elts x1 tp) env v) (fun _ s₂ =>
          wpAny (model prog w) A (isTrue c env (eval c env)) (fun ok s₃ => if ok = true then
          wpAny (model prog w) A (eval elt env) (fun x s₄ =>
              wpAny (model prog w) A (call (.builtin "list.append") [acc, x]) (fun _ s₅ => ∃ m, m < n ∧ I m s₅) (notedBy (model prog w) A env fun e s' => R (.error e) s') s₄) (notedBy (model prog w) A env fun e s' => R (.error e) s') s₃
            else ∃ m, m < n ∧ I m s₃) (notedBy (model prog w) A env fun e s' => R (.error e) s') s₂)
          (notedBy (model prog w) A env fun e s' => R (.error e) s') s₁') (notedBy (model prog w) A env fun e s' => R (.error e) s') s₁) (notedBy (model prog w) A env fun e s' => R (.error e) s') s)
    (n : Nat) (h : I n s) : codeAny (model prog w) A (.compLoop (.ListComp elt [⟨.Tuple elts x1 tp, iter, [c], 0⟩] scope pos) 0 it acc env) R s := by
  refine codeAny_loop rfl I (fun n s hI => ?_) n h
  show wpAny _ A ((compTurn (.ListComp elt [⟨.Tuple elts x1 tp, iter, [c], 0⟩] scope pos) 0 it acc env).onRaise (fun x => do noteFrame x env; theTreesLotGoes x)) _ _ s
  refine wpAny_noted ?_
  rw [compTurn_list]
  refine wpAny_bind (wpAny_standAt (wpAny_bind (wpAny_mono (turn n s hI) (fun r s₁ h₁ => ?_) fun _ _ h' => h')))
  cases r with
  | none => exact wpAny_pure h₁
  | some v =>
    refine wpAny_bind (wpAny_mono h₁ (fun _ s₁' h₁' => ?_) fun _ _ h' => h')
    refine wpAny_bind (wpAny_mono h₁' (fun _ s₂ h₂ => wpAny_bind (wpAny_mono (wpAny_tests_one h₂) (fun ok s₃ h₃ => ?_) fun _ _ h' => h')) fun _ _ h' => h')
    cases ok with
    | false => exact wpAny_pure ⟨rfl, h₃⟩
    | true =>
      exact wpAny_bind (wpAny_bind (wpAny_mono h₃ (fun x s₄ h₄ => wpAny_bind (wpAny_mono h₄ (fun _ s₅ h₅ => wpAny_pure (wpAny_pure ⟨rfl, h₅⟩)) fun _ _ h' => h')) fun _ _ h' => h'))

theorem cnt_le (q : Nat → Bool) (i : Nat) : ((List.range i).filter q).length ≤ i := Nat.le_trans (List.length_filter_le _ _) (Nat.le_of_eq (List.length_range))
theorem cnt_succ (q : Nat → Bool) (i : Nat) : ((List.range (i + 1)).filter q).length = ((List.range i).filter q).length + (if q i = true then 1 else 0) := by
  rw [List.range_succ, List.filter_append, List.length_append]
  cases hq : q i <;> simp [hq]

noncomputable def TstQ (h₀ : Heap) (L : Addr) (m : Str → Option Value) (s : Shared) (own : List (Addr × Obj)) (q ok : Bool) (s' : Shared) : Prop := ok = q ∧ ∃ h' tk', s' = { s with heap := h', toks := tk' } ∧ Fr h₀ L h' m ∧ News h₀ L h' own
theorem TstQ.intro {h₀ : Heap} {L : Addr} {m : Str → Option Value} {s : Shared} {own : List (Addr × Obj)} {q ok : Bool} {h' : Heap} {tk' : Nat} (e : ok = q) (F : Fr h₀ L h' m) (N : News h₀ L h' own) : TstQ h₀ L m s own q ok { s with heap := h', toks := tk' } := ⟨e, h', tk', rfl, F, N⟩

section
variable {prog : Program} {w : World} {A : Around} {E : Value → Shared → Prop} {s : Shared} {h₀ : Heap} {L : Addr} {m : Str → Option Value} {env : Env}

theorem block_Q {c iter : PySem.Expr} {a b : Str} {pe pa pb tp : Pos} {kk : Nat} {scope : Scope} {cl : List (Str × Addr)} {pos : Pos} {s₂ : Shared} {I ax : Addr} {vs : List Value} {ek : Nat} {news : List (Addr × Obj)} {RR : Value → Addr → Result → Shared → Prop}
    (q : Nat → Bool) (hh : A.handled = none) (hsz : vs.length ≤ sizeLine) (hne : ax ≠ I)
    (hcell : ∀ y ∈ scope.names, y.2 ≠ .cell) (hkind : scope.kind = .function) (hxa : scope.names.lookup a = some .local) (hxb : scope.names.lookup b = some .local) (hab : a ≠ b) (hdb : (a == ("__debug__" : Str)) = false)
    (hst : s₂.heap.IsListIter I ax 0) (F : Fr h₀ L s₂.heap m) (N : News h₀ L s₂.heap news) (hm : (ax, W.listOf vs.toArray ek) ∈ news) (hIL : L ≠ I) (hI₀ : h₀.get? I = none) (off : ∀ p ∈ news, p.1 ≠ I)
    (hit : ∀ (i : Nat) (v : Value), vs[i]? = some v → ∃ t v₁ v₂, v = .ref t ∧ (t, tupO v₁ v₂) ∈ news ∧
      ∀ I oI C oC D ys m₂ h tk (E' : Value → Shared → Prop), NsObj oC m₂ → m₂ a = some v₁ → m₂ b = some v₂ → Fr h₀ L h m → News h₀ L h ((I, oI) :: (C, oC) :: (D, lst ys) :: news) →
        wpAny (model prog w) A (isTrue c (compEnvC scope cl C env) (eval c (compEnvC scope cl C env))) (fun ok s' => TstQ h₀ L m s₂ ((I, oI) :: (C, oC) :: (D, lst ys) :: news) (q i) ok s') E' { s₂ with heap := h, toks := tk })
    (hRR : ∀ D C h tk m' ys, ys.length = ((List.range vs.length).filter q).length → Fr h₀ L h m → News h₀ L h ((D, lst ys) :: news) → (∀ p ∈ news, p.1 ≠ D) → h.Ns C m' → h₀.get? C = none → h₀.get? D = none → C ≠ L → D ≠ L → C ≠ D → (∀ p ∈ news, p.1 ≠ C) → RR (.ref D) C (.ok .next) { s₂ with heap := h, toks := tk }) :
    wpAny (model prog w) A (newList []) (fun acc s₃ => wpAny (model prog w) A (newFunctionEnv scope env.globals cl [] env.qual none .none (some env)) (fun cenv s₄ =>
      codeAny (model prog w) A (.compStart (.ListComp (.Name a pe) [⟨.Tuple [.Name a pa, .Name b pb] kk tp, iter, [c], 0⟩] scope pos) 0 (.ref I) acc { cenv with scope := relabel scope env }) (RR acc cenv.locals) s₄) E s₃) E s₂ := by
  refine wpAny_newObj_type (wpAny_newFunctionEnv hcell (by intro y hy; simp at hy) (fun h₁ hns₁ hsb₁ => ?_) hkind)
  dsimp only at hns₁ hsb₁ ⊢
  generalize hH2 : s₂.heap.push { cls := .type "list", dict := none, data := .seq ([] : List Value).toArray } = H2 at hns₁ hsb₁ ⊢
  have hC : H2.objs.size = s₂.heap.objs.size + 1 := by rw [← hH2, Heap.size_push]
  have hDC : s₂.heap.objs.size ≠ H2.objs.size := by rw [hC]; exact Nat.ne_of_lt (Nat.lt_succ_self _)
  have below : ∀ b, b < s₂.heap.objs.size → b ≠ H2.objs.size ∧ b ≠ s₂.heap.objs.size := fun b hb => ⟨by rw [hC]; exact Nat.ne_of_lt (Nat.lt_succ_of_lt hb), Nat.ne_of_lt hb⟩
  have hIlt : I < s₂.heap.objs.size := by obtain ⟨o, e, _⟩ := hst; exact Heap.lt_size e
  have hAlt : ax < s₂.heap.objs.size := Heap.lt_size (N _ hm).1
  have old : ∀ b o, s₂.heap.get? b = some o → h₁.get? b = some o := fun b o e => hsb₁.extBut b o (below b (Heap.lt_size e)).1 (Heap.get?_push_of_some _ (hH2 ▸ Heap.get?_push_of_some _ e))
  have hacc : h₁.get? s₂.heap.objs.size = some (lst []) := hsb₁.extBut _ _ hDC (Heap.get?_push_of_some _ (hH2 ▸ Heap.get?_push_size _ rfl))
  have fresh₀ : ∀ a, s₂.heap.objs.size ≤ a → h₀.get? a = none := fun a ha => by
    cases e : h₀.get? a with
    | none => rfl
    | some o' => exact absurd (Heap.lt_size (F.keep a o' e)) (Nat.not_lt.mpr ha)
  have hD₀ : h₀.get? s₂.heap.objs.size = none := fresh₀ _ (Nat.le_refl _)
  have hC₀ : h₀.get? H2.objs.size = none := fresh₀ _ (by rw [hC]; exact Nat.le_succ _)
  have hLlt : L < s₂.heap.objs.size := F.ns.lt
  have hDL : s₂.heap.objs.size ≠ L := Ne.symm (below L hLlt).2
  have hCL : H2.objs.size ≠ L := Ne.symm (below L hLlt).1
  have hCI : I ≠ H2.objs.size := (below I hIlt).1
  have hDI : I ≠ s₂.heap.objs.size := (below I hIlt).2
  have N1 : News h₀ L h₁ news := fun p hp => ⟨old _ _ (N p hp).1, (N p hp).2⟩
  have offC : ∀ p ∈ news, p.1 ≠ H2.objs.size := fun p hp => (below _ (Heap.lt_size (N p hp).1)).1
  have offD : ∀ p ∈ news, p.1 ≠ s₂.heap.objs.size := fun p hp => (below _ (Heap.lt_size (N p hp).1)).2
  have Wk := Walks.list (prog := prog) (w := w) hh I ax hne vs.toArray
  have e1 : vs.toArray.size = vs.length := by simp
  have e2 : ∀ i : Nat, vs.toArray[i]? = vs[i]? := fun i => by simp
  simp only [e1, e2] at Wk
  have hst₁ : h₁.IsListIter I ax 0 ∧ h₁.IsList ax vs.toArray := ⟨by obtain ⟨o, e, r⟩ := hst; exact ⟨o, old _ _ e, r⟩, ⟨_, (N1 _ hm).1, rfl, _, rfl⟩⟩
  have loop : ∀ s₃ : Shared, s₃ = { s₂ with heap := h₁, toks := s₂.toks + ([] : List (Str × Value)).length } →
      codeAny (model prog w) A (.compLoop (.ListComp (.Name a pe) [⟨.Tuple [.Name a pa, .Name b pb] kk tp, iter, [c], 0⟩] scope pos) 0 (.ref I) (.ref s₂.heap.objs.size) (compEnvC scope cl H2.objs.size env))
        (RR (.ref s₂.heap.objs.size) H2.objs.size) s₃ := by
    rintro s₃ rfl
    refine codeAny_compLoop_pairT
      (fun k s' => ∃ h' tk i ys m', s' = { s₂ with heap := h', toks := tk } ∧ i ≤ vs.length ∧ k = vs.length + 1 - i ∧ ys.length = ((List.range i).filter q).length ∧ (h'.IsListIter I ax i ∧ h'.IsList ax vs.toArray) ∧ Fr h₀ L h' m ∧ h'.Ns H2.objs.size m' ∧ News h₀ L h' ((s₂.heap.objs.size, lst ys) :: news)) ?_ (vs.length + 1)
      ⟨h₁, _, 0, [], _, rfl, Nat.zero_le _, rfl, rfl, hst₁, F.keeps old, hns₁, fun p hp => ?_⟩
    · rintro k s' ⟨h', tk, i, ys, m', rfl, hi, rfl, hyl, hst', F', hn', N'⟩
      by_cases hlt : i < vs.length
      · refine Wk.item i _ _ _ hlt hst' fun v h₂ tk₂ hPv hst₂ hk₂ => ?_
        obtain ⟨t, v₁, v₂, rfl, hmt, R''⟩ := hit i v hPv
        have N₂ : News h₀ L h₂ ((s₂.heap.objs.size, lst ys) :: news) := news_but N' hk₂ fun p hp => by
          rcases List.mem_cons.mp hp with rfl | hp
          · exact Ne.symm hDI
          · exact off p hp
        have ht : IsTup h₂ t #[v₁, v₂] := ⟨tupO v₁ v₂, (N₂ _ (List.mem_cons_of_mem _ hmt)).1, rfl, _, rfl⟩
        refine wpAny_letOwnedTupleGo_listiter hst₂.1 ?_
        refine assign_Tuple_tuple hh ht rfl rfl fun h₅ he => ?_
        have he' : ∀ b o, h₂.get? b = some o → h₅.get? b = some o := fun b o e => he b o (Nat.ne_of_lt (Heap.lt_size e)) e
        refine assignInOrder_cons (wpAny_assign_Name (wpAny_storeName_local (lookup_relabel_local hxa) ((hn'.at' fun o e => hk₂ _ o (by simpa using Ne.symm hCI) e).at' fun o e => he' _ o e) (fun h₆ hn₆ hs₆ => ?_) (by simp [compEnvC, relabel, hkind])))
        refine assignInOrder_cons (wpAny_assign_Name (wpAny_storeName_local (lookup_relabel_local hxb) hn₆ (fun h₃ hn₃ hs₃ => ?_) (by simp [compEnvC, relabel, hkind])))
        refine assignInOrder_nil ?_
        have old3 : ∀ b o, b ≠ H2.objs.size → h₂.get? b = some o → h₃.get? b = some o := fun b o hb e => hs₃.extBut b o hb (hs₆.extBut b o hb (he' b o e))
        have hst₃ : h₃.IsListIter I ax (i + 1) ∧ h₃.IsList ax vs.toArray := by
          obtain ⟨⟨o, e, r⟩, ⟨o', e', r'⟩⟩ := hst₂
          exact ⟨⟨o, old3 _ _ hCI e, r⟩, ⟨o', old3 _ _ (offC _ hm) e', r'⟩⟩
        obtain ⟨oI, heI, hrI⟩ := hst₃.1
        obtain ⟨oC, heC, hoC⟩ := ns_obj hn₃
        have F₃ : Fr h₀ L h₃ m := (((fr_but F' hk₂ hIL hI₀).keeps he').change hs₆ hCL hC₀).change hs₃ hCL hC₀
        have N₃ : News h₀ L h₃ ((I, oI) :: (H2.objs.size, oC) :: (s₂.heap.objs.size, lst ys) :: news) := fun p hp => by
          rcases List.mem_cons.mp hp with rfl | hp
          · exact ⟨heI, Ne.symm hIL, hI₀⟩
          · rcases List.mem_cons.mp hp with rfl | hp
            · exact ⟨heC, hCL, hC₀⟩
            · have z := N₂ p hp
              refine ⟨old3 _ _ ?_ z.1, z.2⟩
              rcases List.mem_cons.mp hp with rfl | hp
              · exact hDC
              · exact offC p hp
        refine wpAny_mono (R'' I oI H2.objs.size oC s₂.heap.objs.size ys _ h₃ _ _ hoC (by simp [hab]) (by simp) F₃ N₃) (fun ok s₄ h₄ => ?_) fun _ _ e => e
        obtain ⟨rfl, h₄, tk₄, rfl, F₄, N₄⟩ := h₄
        have zI := (N₄ (I, oI) List.mem_cons_self).1
        have zC := (N₄ (H2.objs.size, oC) (List.mem_cons_of_mem _ List.mem_cons_self)).1
        have zD := (N₄ (s₂.heap.objs.size, lst ys) (List.mem_cons_of_mem _ (List.mem_cons_of_mem _ List.mem_cons_self))).1
        have N₄' : News h₀ L h₄ news := fun p hp => N₄ p (List.mem_cons_of_mem _ (List.mem_cons_of_mem _ (List.mem_cons_of_mem _ hp)))
        have hst₄ : h₄.IsListIter I ax (i + 1) ∧ h₄.IsList ax vs.toArray := ⟨⟨oI, zI, hrI⟩, ⟨_, (N₄' _ hm).1, rfl, _, rfl⟩⟩
        by_cases hq : q i = true
        · rw [if_pos hq]
          refine LCgL.ld_own (v := v₁) N₄ (.tail _ (.head _)) hoC (by simp [hab]) ?_ (by simp [compEnvC, relabel, hkind]) (lookup_relabel_local hxa) hdb
          refine append_at (hsz := by show ys.toArray.size ≤ sizeLine; rw [List.size_toArray, hyl]; exact Nat.le_trans (cnt_le q i) (Nat.le_trans hi hsz)) zD fun h₅ hs₅ hD₅ => ?_
          refine ⟨vs.length + 1 - (i + 1), by omega, h₅, tk₄, i + 1, ys ++ [v₁], _, rfl, hlt, rfl, by rw [List.length_append, List.length_singleton, hyl, cnt_succ, if_pos hq], ?_, F₄.change hs₅ hDL hD₀,
            (hoC.ns zC).sameBut hs₅ (Ne.symm hDC), fun p hp => ?_⟩
          · obtain ⟨⟨o, e, r⟩, ⟨o', e', r'⟩⟩ := hst₄
            exact ⟨⟨o, hs₅.extBut _ _ hDI e, r⟩, ⟨o', hs₅.extBut _ _ (offD _ hm) e', r'⟩⟩
          · rcases List.mem_cons.mp hp with rfl | hp
            · exact ⟨hD₅.trans (congrArg some (lst_snoc ys v₁)), hDL, hD₀⟩
            · exact ⟨hs₅.extBut _ _ (offD p hp) (N₄' p hp).1, (N₄' p hp).2⟩
        · rw [if_neg hq]
          refine ⟨vs.length + 1 - (i + 1), by omega, h₄, tk₄, i + 1, ys, _, rfl, hlt, rfl, by rw [hyl, cnt_succ, if_neg hq, Nat.add_zero], hst₄, F₄, hoC.ns zC, fun p hp => N₄ p (List.mem_cons_of_mem _ (List.mem_cons_of_mem _ hp))⟩
      · obtain rfl : i = vs.length := Nat.le_antisymm hi (Nat.not_lt.mp hlt)
        refine Wk.done _ _ _ hst' fun h₂ tk₂ hk₂ => ?_
        exact hRR _ _ h₂ tk₂ _ ys hyl (fr_but F' hk₂ hIL hI₀) (news_but N' hk₂ fun p hp => by
          rcases List.mem_cons.mp hp with rfl | hp
          · exact Ne.symm hDI
          · exact off p hp) offD (hn'.at' fun o e => hk₂ _ o (by simpa using Ne.symm hCI) e) hC₀ hD₀ hCL hDL (Ne.symm hDC) offC
    · rcases List.mem_cons.mp hp with rfl | hp
      · exact ⟨hacc, hDL, hD₀⟩
      · exact N1 p hp
  exact codeAny_compStart_list (loop _ rfl) (Wk.self 0 _ _ _ hst₁ (loop _ rfl))

theorem ListComp_Q {c iter : PySem.Expr} {a b : Str} {pe pa pb tp : Pos} {kk : Nat} {scope : Scope} {cl : List (Str × Addr)} {pos : Pos} {ax : Addr} {vs : List Value} {ek : Nat} {news : List (Addr × Obj)} {Q : Value → Shared → Prop}
    (q : Nat → Bool) (hh : A.handled = none) (hsz : vs.length ≤ sizeLine)
    (hclos : closureFor scope env = pure cl) (hcell : ∀ y ∈ scope.names, y.2 ≠ .cell) (hkind : scope.kind = .function)
    (hnames : ∀ y ∈ scope.names, y.2 = .local → scope.names.lookup y.1 = some .local) (hxa : scope.names.lookup a = some .local) (hxb : scope.names.lookup b = some .local) (hab : a ≠ b) (hdb : (a == ("__debug__" : Str)) = false)
    (F : Fr h₀ L s.heap m) (N : News h₀ L s.heap news) (hm : (ax, W.listOf vs.toArray ek) ∈ news)
    (h : wpAny (model prog w) A (eval iter env) (fun xv s₁ => xv = .ref ax ∧ s₁ = s) E s)
    (hit : ∀ g, ∀ (i : Nat) (v : Value), vs[i]? = some v → ∃ t v₁ v₂, v = .ref t ∧ (t, tupO v₁ v₂) ∈ news ∧
      ∀ I oI C oC D ys m₂ h tk (E' : Value → Shared → Prop), NsObj oC m₂ → m₂ a = some v₁ → m₂ b = some v₂ → Fr h₀ L h m → News h₀ L h ((I, oI) :: (C, oC) :: (D, lst ys) :: news) →
        wpAny (model prog w) A (isTrue c (compEnvC scope cl C env) (eval c (compEnvC scope cl C env))) (fun ok s' => TstQ h₀ L m { s with heap := g } ((I, oI) :: (C, oC) :: (D, lst ys) :: news) (q i) ok s') E' { { s with heap := g } with heap := h, toks := tk })
    (fin : ∀ D ys h' tk', ys.length = ((List.range vs.length).filter q).length → Fr h₀ L h' m → News h₀ L h' ((D, lst ys) :: news) → (∀ p ∈ news, p.1 ≠ D) → Q (.ref D) { s with heap := h', toks := tk' })
    (hs : ∀ x, foldedSetIterable iter env x = pure x := by intro _; rfl) :
    wpAny (model prog w) A (eval (.ListComp (.Name a pe) [⟨.Tuple [.Name a pa, .Name b pb] kk tp, iter, [c], 0⟩] scope pos) env) Q E s := by
  rw [eval_ListComp]
  refine wpAny_comprehension_free (use := none) rfl hs hclos hkind hnames (wpAny_mono h (fun xv s₁ h₁ => ?_) fun _ _ e => e)
  obtain ⟨rfl, rfl⟩ := h₁
  have hl : s₁.heap.IsList ax vs.toArray := ⟨_, (N _ hm).1, rfl, _, rfl⟩
  have hlt : ax < s₁.heap.objs.size := Heap.lt_size (N _ hm).1
  refine wpAny_pyIter_list hl ?_
  have up : ∀ b o, s₁.heap.get? b = some o → (s₁.heap.push { cls := .type "list_iterator", data := .fields #[.ref ax, .int 0 0] }).get? b = some o := fun b o e => Heap.get?_push_of_some _ e
  refine block_Q q hh hsz (Nat.ne_of_lt hlt) hcell hkind hxa hxb hab hdb ⟨_, Heap.get?_push_size _ rfl, rfl, rfl⟩ (F.keeps up) (N.grown up) hm (Nat.ne_of_lt F.ns.lt) (next_is_new F) (fun p hp => Nat.ne_of_lt (Heap.lt_size (N p hp).1)) (hit _) ?_
  intro D C h' tk m' ys hyl F' N' o1 hn hC₀ hD₀ hCL hDL hCD offC
  refine ⟨m', hn, fun h'' hs'' => fin D ys h'' tk hyl (F'.change hs'' hCL hC₀) (fun p hp => ?_) o1⟩
  refine ⟨hs''.extBut _ _ ?_ (N' p hp).1, (N' p hp).2⟩
  rcases List.mem_cons.mp hp with rfl | hp
  · exact Ne.symm hCD
  · exact offC p hp
end
end Mine
end
-- PV
section
namespace Mine
open _root_.PySem _root_.PySem.Calls PyProof.Rows _root_.PySem.W

section
variable {M : Model} {A : Around} {s : Shared} {env : Env}
noncomputable abbrev NoE : Value → Shared → Prop := fun _ _ => False
theorem wpC_run {c : Code} {Q : Flow → Shared → Prop} (hd : dirty c = false) (hc : codeC M A c (fun r s' => match r with | .ok f => Q f s' | .error _ => False) s) : wpC M A (run c none) Q NoE s := fun Γ p hΓ hcl => by
  rw [Sem.wp_run]
  refine wpCode_mono (fun r s' h' => ?_) (hc _ p rfl (hΓ.enter c none p (by intro x; cases x)) (clean_enter hd hcl))
  cases r <;> exact h'
theorem wpC_runOwn {c : Code} {Q : Flow → Shared → Prop} (hd : dirty c = false) (hc : codeC M A c (fun r s' => match r with | .ok f => Q f s' | .error _ => False) s) : wpC M A (runOwn c env none) Q NoE s := by
  unfold runOwn
  exact wpC_onRaise (wpC_run hd hc)
end

section
variable {prog : Program} {w : World} {A : Around} {s : Shared} {env : Env}
theorem wpC_For {target iter : Expr} {body : List Stmt} {pos : Pos} {Q : Flow → Shared → Prop}
    (h : wpAny (model prog w) A (eval iter env) (fun x s₁ => wpAny (model prog w) A (pyIter x) (fun it s₂ =>
      codeC (model prog w) A (.forLoop target it body [] env) (fun r s' => match r with | .ok f => Q f s' | .error _ => False) s₂) NoE s₁) NoE s)
    (hs : ∀ x, foldedSetIterable iter env x = pure x := by intro _; rfl) :
    wpC (model prog w) A (exec (.For target iter body [] pos) env) Q NoE s := by
  rw [exec_For]
  refine wpC_bind (wpC_of (wpAny_standAt ?_))
  refine wpC_leaf h fun x s₁ h₁ => ?_
  refine wpC_bind (wpC_of (wpAny_of_eq (hs x) ?_))
  refine wpC_bind (wpC_of (wpAny_standAt ?_))
  refine wpC_bind (wpC_holding (wpC_mono (wpC_of h₁) (fun it s₂ h₂ => ?_) fun _ _ e => e))
  exact wpC_runOwn rfl h₂

theorem codeC_for_turn {target : Expr} {it : Value} {body : List Stmt} {Q : Flow → Shared → Prop}
    (h : wpAny (model prog w) A (pyNext it) (fun r s₁ => match r with
      | none => Q .next s₁
      | some v => wpAny (model prog w) A (letOwnedTupleGo target it v) (fun _ s₂ => wpAny (model prog w) A (assign target env v) (fun _ s₃ =>
          wpC (model prog w) A (execs body env) (fun f s₄ => match f with
            | .next | .cont => codeC (model prog w) A (.forLoop target it body [] env) (fun r s' => match r with | .ok f => Q f s' | .error _ => False) s₄
            | .brk => Q .next s₄
            | .ret v => Q (.ret v) s₄) NoE s₃) NoE s₂) NoE s₁) NoE s) :
    codeC (model prog w) A (.forLoop target it body [] env) (fun r s' => match r with | .ok f => Q f s' | .error _ => False) s := by
  refine codeC_of_tree ?_
  show wpC _ A ((forTurn target it body [] env).onRaise (fun x => do noteFrame x env; theTreesLotGoes x)) _ _ s
  refine wpC_onRaise ?_
  unfold forTurn
  refine wpC_bind (wpC_of (wpAny_standAt ?_))
  refine wpC_bind (wpC_onRaise (wpC_mono (wpC_of h) (fun r s₁ h₁ => ?_) fun _ _ e => e))
  cases r with
  | none => exact wpC_pure ⟨rfl, rfl, codeC_of (codeAny_block (wpAny_execs_nil h₁))⟩
  | some v =>
    refine wpC_leaf h₁ fun _ s₂ h₂ => wpC_leaf h₂ fun _ s₃ h₃ => wpC_bind (wpC_mono h₃ (fun f s₄ h₄ => ?_) fun _ _ e => e)
    cases f with
    | next => exact wpC_pure ⟨rfl, rfl, h₄⟩
    | cont => exact wpC_pure ⟨rfl, rfl, h₄⟩
    | brk => exact wpC_pure h₄
    | ret v => exact wpC_pure h₄

theorem codeC_cellsN {R : Result → Shared → Prop} {name : Str} {params : Arguments} {body : List Stmt} {scope : Scope}
    {pm cd doc : Value} {a : Addr} {o : Obj} {args : List Value} {binds : List (Str × Value)}
    (hroom : A.depth < recursionLimit) (ho : s.heap.get? a = some o) (hdata : o.data = .func (Calls.docDef name params body scope pm cd doc)) (hlim : s.heap.NoLimit) (hcd : s.heap.CodeRec cd name)
    (hbind : bindArgs (Calls.docDef name params body scope pm cd doc) ⟨args, []⟩ = pure binds)
    (hkind : ∀ x ∈ binds, scope.names.lookup x.1 = some .local ∨ (scope.names.lookup x.1 = some .cell ∧ ((cellsFrom (s.heap.objs.size + 1) scope.names []).lookup x.1).isSome = true))
    (hnd : ((cellsFrom 0 scope.names []).map (·.1)).Nodup)
    (h : ∀ h₁ tk cells, Fr s.heap s.heap.objs.size h₁ (bindL (envOfC name scope s.heap.objs.size a cd).kindOf binds fun _ => none) → News s.heap s.heap.objs.size h₁ cells →
      CellsAre (bindC (envOfC name scope s.heap.objs.size a cd).kindOf binds fun _ => none) (cellsFrom (s.heap.objs.size + 1) scope.names []) cells →
      wpC (model prog w) (A.deeper (envOfC name scope s.heap.objs.size a cd)) (execs body (envOfC name scope s.heap.objs.size a cd))
        (fun f s' => R (.ok (.ret (match f with | .ret v => v | _ => .none))) s') NoE { s with heap := h₁, toks := tk })
    (hco : scope.isCoroutine = false := by rfl) (hgen : scope.isGenerator = false := by rfl) (hk : scope.kind = .function := by rfl) :
    codeC (model prog w) A (.call (.ref a) ⟨args, []⟩) R s := by
  refine codeC_call_function hroom ho hdata hco hgen rfl hcd ?_
  rw [hbind]
  refine wpAny_pure ?_
  refine wpAny_newFunctionEnv_cells hk hkind fun env' he s' x => ?_
  subst he
  refine ⟨hlim.keeps x.toInCall.keep, codeC_func ?_⟩
  obtain ⟨h₁, tk, rfl, _⟩ := x.done
  have hk₁ := x.toInCall.keep
  obtain ⟨cells, NC, Y⟩ := Cl.news (h₀ := s.heap) (Nat.le_refl _) fun n c hm => ⟨x.cell n c (lookup_of_mem_nodup (cellsFrom_names scope.names 0 (s.heap.objs.size + 1) [] [] rfl ▸ hnd) hm), x.above n c hm⟩
  exact h h₁ tk cells ⟨x.toInCall.ns, fun b o e => hk₁ b o e, Nat.le_refl _⟩ NC Y
end
end Mine
end
-- PX
section
namespace Mine
open _root_.PySem _root_.PySem.Calls PyProof.Rows _root_.PySem.W PyProof.Rows.LCg _root_.PySem.Spec PyProof.V

theorem RT.strs {nm : Nat → Str} : ∀ {vs : List Value} {cs : List Nat}, RT nm vs cs → StrsAre vs (cs.map nm)
  | [], [], _ => .nil
  | [], _ :: _, h => absurd h.1 (by simp)
  | v :: vs, cs, h => by
    obtain ⟨c, cs', t, rfl, rfl, h'⟩ := h.cons_inv
    exact .cons _ t (RT.strs h')
theorem StrsAre.rt {nm : Nat → Str} : ∀ {cs : List Nat} {vs : List Value}, StrsAre vs (cs.map nm) → RT nm vs cs
  | [], _, .nil => RT.nil
  | c :: cs, _, .cons _ t h => RT.cons rfl (StrsAre.rt h)
theorem canLay_strs : ∀ {ss : List Str}, (∀ x ∈ ss, PyData.strOk x = true) → PyData.canLayAll0 (ss.map PyData.str) = true
  | [], _ => rfl
  | x :: r, h => by
    simp only [List.map_cons, PyData.canLayAll0, PyData.canLay0, Bool.and_eq_true]
    exact ⟨h x (.head _), canLay_strs fun y hy => h y (.tail _ hy)⟩
theorem depth_strs : ∀ ss : List Str, PyData.depthAll (ss.map PyData.str) = 0
  | [] => rfl
  | _ :: r => by simp [PyData.depthAll, PyData.depth, depth_strs r]
theorem shaped_strs {ss : List Str} (h : ∀ x ∈ ss, PyData.strOk x = true) : SeqAt.shaped (.list (ss.map PyData.str)) = true := by
  simp [SeqAt.shaped, PyData.canLay0, PyData.depth, canLay_strs h, depth_strs]
theorem same_strs : ∀ ns ms : List Str, PySem.Spec.sameAll (ns.map PyData.str) (ms.map PyData.str) = decide (ns = ms)
  | [], [] => by simp [PySem.Spec.sameAll]
  | [], _ :: _ => by simp [PySem.Spec.sameAll]
  | _ :: _, [] => by simp [PySem.Spec.sameAll]
  | a :: r, b :: t => by
    simp only [List.map_cons, PySem.Spec.sameAll, PySem.Spec.same, same_strs r t]
    by_cases h : a = b <;> by_cases h' : r = t <;> simp [h, h']
theorem carried_strs : ∀ {vs : List Value} {ns : List Str}, StrsAre vs ns → CarriedAll vs (ns.map PyData.str)
  | _, _, .nil => .nil
  | _, _, .cons _ t r => .cons (.str _ t) (carried_strs r)
theorem map_nm_eq {nm : Nat → Str} {n : Nat} (hn : Rises nm n) : ∀ {cs ds : List Nat}, (∀ c ∈ cs, c < n) → (∀ c ∈ ds, c < n) → decide (cs.map nm = ds.map nm) = decide (cs = ds)
  | [], [], _, _ => by simp
  | [], _ :: _, _, _ => by simp
  | _ :: _, [], _, _ => by simp
  | c :: cs, d :: ds, h1, h2 => by
    have ih := map_nm_eq hn (fun x hx => h1 x (.tail _ hx)) (fun x hx => h2 x (.tail _ hx)) (cs := cs) (ds := ds)
    rw [decide_eq_decide] at ih ⊢
    simp only [List.map_cons, List.cons.injEq, ih]
    constructor
    · rintro ⟨e, r⟩
      exact ⟨hn.inj (h1 c (.head _)) (h2 d (.head _)) (by rw [e]), r⟩
    · rintro ⟨rfl, r⟩
      exact ⟨rfl, r⟩

theorem str_le_antisymm {x y : Str} (h1 : ltCps y.cps.toList x.cps.toList = false) (h2 : ltCps x.cps.toList y.cps.toList = false) : x = y := by
  rw [ltCps_eq] at h1 h2
  have e : x.cps.toList = y.cps.toList := List.le_antisymm (List.not_lt.mp (of_decide_eq_false h1)) (List.not_lt.mp (of_decide_eq_false h2))
  obtain ⟨a⟩ := x
  obtain ⟨b⟩ := y
  congr 1
  exact Array.ext' e
theorem str_le_trans {x y z : Str} (h1 : ltCps y.cps.toList x.cps.toList = false) (h2 : ltCps z.cps.toList y.cps.toList = false) : ltCps z.cps.toList x.cps.toList = false := by
  rw [ltCps_eq] at h1 h2 ⊢
  exact decide_eq_false (List.not_lt.mpr (List.le_trans (List.not_lt.mp (of_decide_eq_false h1)) (List.not_lt.mp (of_decide_eq_false h2))))
theorem pairwise_of_risingS : ∀ (p : Str) (l : List Str), risingS p l = true → (p :: l).Pairwise (fun a b => ltCps b.cps.toList a.cps.toList = false)
  | p, [], _ => List.pairwise_singleton _ _
  | p, x :: r, h => by
    have h' : (!ltCps x.cps.toList p.cps.toList && risingS x r) = true := h
    rw [Bool.and_eq_true, Bool.not_eq_true'] at h'
    have ih := pairwise_of_risingS x r h'.2
    refine List.pairwise_cons.mpr ⟨fun y hy => ?_, ih⟩
    rcases List.mem_cons.mp hy with rfl | hy
    · exact h'.1
    · exact str_le_trans h'.1 ((List.pairwise_cons.mp ih).1 y hy)
theorem pairwise_of_sortedS : ∀ (l : List Str), sortedS l = true → l.Pairwise (fun a b => ltCps b.cps.toList a.cps.toList = false)
  | [], _ => .nil
  | x :: r, h => pairwise_of_risingS x r h
theorem sorted_same {nm : Nat → Str} {n : Nat} (hn : Rises nm n) {cs : List Nat} {ss : List Str} (hc : ∀ c ∈ cs, c < n) (ho : cs.Pairwise (· ≤ ·)) (p : ss.Perm (cs.map nm)) (o : sortedS ss = true) : ss = cs.map nm := by
  refine p.eq_of_pairwise (fun a b _ _ h1 h2 => str_le_antisymm h1 h2) (pairwise_of_sortedS _ o) ?_
  rw [List.pairwise_map]
  refine ho.imp_of_mem fun {a b} ha hb h => ?_
  rw [ltCps_eq, hn b a (hc b hb) (hc a ha)]
  exact decide_eq_false (by omega)

section
variable {prog : Program} {w : World} {A : Around} {E : Value → Shared → Prop} {s : Shared} {h₀ : Heap} {L : Addr} {m : Str → Option Value} {a b : Addr} {xs ys : List Value} {cs ds : List Nat} {nm : Nat → Str} {Q : Value → Shared → Prop} {news : List (Addr × Obj)}
theorem eq_words (ha : s.heap.IsList a xs.toArray) (hb : s.heap.IsList b ys.toArray) (hi : RT nm xs cs) (hj : RT nm ys ds) (hn : Rises nm 16) (ok : ∀ c, c < 16 → PyData.strOk (nm c) = true) (hc : ∀ c ∈ cs, c < 16) (hd : ∀ c ∈ ds, c < 16)
    (hu : A.units + 64 < cLine) (h : Q (.bool (decide (cs = ds))) s) : wpAny (model prog w) A (compareOp .Eq (.ref a) (.ref b)) Q E s :=
  eq_dataH_same (reads_newData ha (carried_strs hi.strs)) (reads_newData hb (carried_strs hj.strs)) (shaped_strs fun x hx => by obtain ⟨c, h, rfl⟩ := List.mem_map.mp hx; exact ok c (hc c h)) (shaped_strs fun x hx => by obtain ⟨c, h, rfl⟩ := List.mem_map.mp hx; exact ok c (hd c h)) hu
    (SeqAt.noMix_of_shape (.list .str) rfl _ _ (list_map_has fun _ => rfl) (list_map_has fun _ => rfl)) (by simp only [PySem.Spec.same]; rw [same_strs, map_nm_eq hn hc hd]; exact h)
theorem ne_words (ha : s.heap.IsList a xs.toArray) (hb : s.heap.IsList b ys.toArray) (hi : RT nm xs cs) (hj : RT nm ys ds) (hn : Rises nm 16) (ok : ∀ c, c < 16 → PyData.strOk (nm c) = true) (hc : ∀ c ∈ cs, c < 16) (hd : ∀ c ∈ ds, c < 16)
    (hu : A.units + 64 < cLine) (h : Q (.bool (!decide (cs = ds))) s) : wpAny (model prog w) A (compareOp .NotEq (.ref a) (.ref b)) Q E s :=
  ne_dataH_same (reads_newData ha (carried_strs hi.strs)) (reads_newData hb (carried_strs hj.strs)) (shaped_strs fun x hx => by obtain ⟨c, h, rfl⟩ := List.mem_map.mp hx; exact ok c (hc c h)) (shaped_strs fun x hx => by obtain ⟨c, h, rfl⟩ := List.mem_map.mp hx; exact ok c (hd c h)) hu
    (SeqAt.noMix_of_shape (.list .str) rfl _ _ (list_map_has fun _ => rfl) (list_map_has fun _ => rfl)) (by simp only [PySem.Spec.same]; rw [same_strs, map_nm_eq hn hc hd]; exact h)
theorem sorted_words {e : Nat} (F : Fr h₀ L s.heap m) (N : News h₀ L s.heap news) (hm : (a, W.listOf xs.toArray e) ∈ news) (hi : RT nm xs cs) (hn : Rises nm 16) (hc : ∀ c ∈ cs, c < 16) (ho : cs.Pairwise (· ≤ ·)) (h64 : cs.length < 64)
    (h : ∀ h' D vs' e', Fr h₀ L h' m → News h₀ L h' ((D, W.listOf (List.toArray vs') e') :: news) → (∀ p ∈ news, p.1 ≠ D) → RT nm vs' cs → Q (.ref D) { s with heap := h' }) :
    wpAny (model prog w) A (call (.builtin "sorted") [.ref a]) Q E s := by
  refine sorted_N_str F N (led_list N hm) hi.strs (by rw [hi.1]; exact h64) fun h' vs' ss' e' F' N' hS' hp hs => ?_
  have e1 := sorted_same hn hc ho hp hs
  subst e1
  exact h h' _ vs' e' F' N' (fun p hp => Nat.ne_of_lt (Nat.lt_succ_of_lt (Heap.lt_size (N p hp).1))) (StrsAre.rt hS')
end
end Mine
end
-- PJ
section
namespace Mine
open _root_.PySem _root_.PySem.Calls PyProof.Rows _root_.PySem.W

theorem wd_slot_get : Slot "wrapper_descriptor" "__get__" "wrapper_descriptor.__get__" := .of (owner := "wrapper_descriptor") (n := "__get__") (by rw [typeLookup_type, builtinLookup_eq_fast]; kernel_rfl) (by decide +kernel) (by decide +kernel) (by decide +kernel)
  (by first | exact .inl (by decide +kernel) | exact .inr (by decide +kernel)) (by rw [isSubtype_type]; kernel_rfl)
theorem wd_entry_get : entryFor table "wrapper_descriptor.__get__" = some Builtin.«wrapper_descriptor.__get__» := entryFor_of_tree (by kernel_rfl)
theorem wd_getArgs (a b c : Value) : argsOk "wrapper_descriptor.__get__" ⟨[a, b, c], []⟩ := by unfold argsOk; kernel_rfl

noncomputable abbrev mwObj (id : String) (x : Addr) : Obj := { cls := .type "method-wrapper", data := .fields #[.builtin id, .ref x] }
section
variable {prog : Program} {w : World} {A : Around} {E : Value → Shared → Prop} {h : Heap} {g : Array GenState} {d : Drawn} {t : Nat} {os : OsState}
set_option maxHeartbeats 4000000 in
theorem sup_ga {so D x C : Addr} {l₀ l : List Value} {K : Frag} {name : Str} {tk : Tok} {Q : PySem.Fin → Shared → Prop} {id owner : String}
    (hso : h.get? so = some { cls := .type "super", dict := none, data := .fields #[.ref D, .ref x, .ref C], slots := #[] }) (hno : Looks (model prog w) h (opaqueClassAbove (.ref C)) none)
    (hC : Looks (model prog w) h (mroOf (.ref C)) l₀) (hl : (l₀.dropWhile (· != .ref D)).drop 1 = l) (X : K.In h)
    (hf : alongIn K name l = some (some (.builtin id))) (hty : typeOf (.builtin id) = pure (.type "wrapper_descriptor")) (hown : ".".intercalate (id.cutAt '.').dropLast = owner) {ox : Obj} (hx : h.get? x = some ox) (hxc : ox.cls = .ref C) (hsub : Looks (model prog w) h (isSubtype (.ref C) (.type owner)) true) (hxC : x ≠ C) (hn : (name == ("__class__" : Str)) = false)
    (hq : Q (.done (.ret (.ref h.objs.size))) ⟨h.push (mwObj id x), g, d, t, os⟩) :
    wpAny (model prog w) A (Builtin.«super.__getattribute__» ⟨[.ref so, .str name tk], []⟩) Q E ⟨h, g, d, t, os⟩ := by
  have hlk := wd_slot_get.lookup
  have hne : (Value.ref x == Value.ref C) = false := by simp [hxC]
  have hTf : (⟨h, g, d, t, os⟩ : Shared).TypeIs (.builtin id) "wrapper_descriptor" := hty
  have hdt : ({ cls := .type "super", dict := none, data := .fields #[.ref D, .ref x, .ref C], slots := #[] } : Obj).data = .fields #[.ref D, .ref x, .ref C] := rfl
  have f0 : (#[.ref D, .ref x, .ref C] : Array Value)[0]? = some (.ref D) := rfl
  have f1 : (#[.ref D, .ref x, .ref C] : Array Value)[1]? = some (.ref x) := rfl
  have f2 : (#[.ref D, .ref x, .ref C] : Array Value)[2]? = some (.ref C) := rfl
  unfold Builtin.«super.__getattribute__»
  repeat (first
    | (with_reducible refine wpAny_field hso hdt f0 ?_) | (with_reducible refine wpAny_field hso hdt f1 ?_) | (with_reducible refine wpAny_field hso hdt f2 ?_)
    | (with_reducible refine ks_wpAny_notOpaque hno ?_)
    | (with_reducible refine Looks.at hC ?_; rw [hl])
    | (refine ks_forIn_along X (fun _ _ => rfl) rfl ?_ hf)
    | (with_reducible refine wpAny_typeOf hTf ?_)
    | (with_reducible refine wpAny_call_entry wd_slot_get hTf wd_entry_get ?_ (wd_getArgs _ _ _))
    | (simp only [hown])
    | (with_reducible refine Looks.at hsub ?_)
    | (with_reducible refine wpAny_loadPart_at hx ?_; rw [hxc])
    | (with_reducible refine ⟨_, rfl, ?_⟩)
    | (simp only [hn, hne, Bool.or_false, Bool.false_eq_true, if_false])
    | wp_step
    | dsimp only)
  all_goals first | exact hq | trace_state
end
end Mine
end
-- PK
section
namespace Mine
open _root_.PySem _root_.PySem.Calls PyProof.Rows _root_.PySem.W
section
variable {prog : Program} {w : World} {A : Around} {E : Value → Shared → Prop}
section
variable {h : Heap} {g : Array GenState} {d : Drawn} {t : Nat} {os : OsState}
theorem sup_getMethod {so D x C : Addr} {l₀ l : List Value} {K : Frag} {name : Str} {pl : Sem Bool} {Q : Value × List Value → Shared → Prop} {id owner : String}
    (hso : h.get? so = some { cls := .type "super", dict := none, data := .fields #[.ref D, .ref x, .ref C], slots := #[] }) (hno : Looks (model prog w) h (opaqueClassAbove (.ref C)) none)
    (hC : Looks (model prog w) h (mroOf (.ref C)) l₀) (hl : (l₀.dropWhile (· != .ref D)).drop 1 = l) (X : K.In h)
    (hf : alongIn K name l = some (some (.builtin id))) (hty : typeOf (.builtin id) = pure (.type "wrapper_descriptor")) (hown : ".".intercalate (id.cutAt '.').dropLast = owner) {ox : Obj} (hx : h.get? x = some ox) (hxc : ox.cls = .ref C) (hsub : Looks (model prog w) h (isSubtype (.ref C) (.type owner)) true) (hxC : x ≠ C) (hn : (name == ("__class__" : Str)) = false)
    (hq : Q (.ref h.objs.size, []) ⟨h.push (mwObj id x), g, d, t + 1, os⟩) :
    wpAny (model prog w) A (getMethod (.ref so) name pl) Q E ⟨h, g, d, t, os⟩ := by
  have hlk := F.ks_slot_super_ga.lookup
  have hcan := F.ks_canon_super_ga
  have hT : ∀ t', (⟨h, g, d, t', os⟩ : Shared).TypeIs (.ref so) "super" := fun _ => ⟨_, hso, rfl⟩
  unfold getMethod
  refine wpAny_bind (wpAny_specialOf (hT _) hlk ?_)
  show wpAny _ _ (if (Manifest.canonical "super.__getattribute__" != "object.__getattribute__") = true then _ else _) _ _ _
  rw [if_pos hcan]
  unfold getAttr getAttrBy
  refine wpAny_bind (wpAny_bind (wpAny_mkText (wpAny_holding (wpAny_bind (wpAny_typeOf (hT _) (wpAny_bind (wpAny_of_eq hlk ?_)))))))
  show wpAny _ _ (getAttrByItsOwn (.ref so) (.str name t) (.type "super") (.builtin "super.__getattribute__") true false) _ _ _
  unfold getAttrByItsOwn hookBefore callGetattribute boundAndCalled
  refine wpAny_bind (wpAny_of_eq (show (if onTheHeap (.type "super") then typeLookup (.type "super") "__getattr__" else pure none) = pure none from rfl) ?_)
  refine wpAny_bind (wpAny_attempt (wpAny_holding ?_))
  show wpAny _ _ (bindSpecial (.builtin "super.__getattribute__") (.ref so) >>= _) _ _ _
  refine wpAny_bind (wpAny_of_eq (F.ks_slot_super_ga.bind _) ?_)
  refine wpAny_mono (Q := fun v s' => v = .ref h.objs.size ∧ s' = ⟨h.push (mwObj id x), g, d, t + 1, os⟩) (E := fun _ _ => False)
    (wpAny_call_entry F.ks_slot_super_ga (hT _) F.ks_entry_super_ga (sup_ga hso hno hC hl X hf hty hown hx hxc hsub hxC hn ⟨_, rfl, rfl, rfl⟩) (F.ks_gaArgs_super _ _)) (fun v s' hv => ?_) fun _ _ z => z.elim
  obtain ⟨rfl, rfl⟩ := hv
  exact wpAny_pure (wpAny_pure hq)
end
variable {s : Shared} {h₀ : Heap} {L x C D so : Addr} {m : Str → Option Value} {news news' : List (Addr × Obj)} {K : Frag} {ox : Obj} {odx : Option Obj}
theorem sup_methodB {name : Str} {pl : Sem Bool} {Q : Value × List Value → Shared → Prop} {id owner : String} (F : Fr h₀ L s.heap m) (X₀ : K.In h₀) (N : News h₀ L s.heap news) (hso : (so, ks_superObj D x C) ∈ news) (I : InstAt s.heap x ox C odx) (ho : nsIn K cStatics "thirdparty.any" = some none)
    (hm : ks_superIn K C D name = some (some (.builtin id))) (hty : typeOf (.builtin id) = pure (.type "wrapper_descriptor")) (hown : ".".intercalate (id.cutAt '.').dropLast = owner) (hsub : subIn K (.ref C) (.type owner) = some true) (hn : (name == ("__class__" : Str)) = false)
    (h : ∀ q h', Fr h₀ L h' m → News h₀ L h' ((q, mwObj id x) :: news) → (∀ p ∈ news, p.1 < q) → Q (.ref q, []) { s with heap := h', toks := s.toks + 1 }) : wpAny (model prog w) A (getMethod (.ref so) name pl) Q E s := by
  have X : K.In s.heap := X₀.keeps F.keep
  obtain ⟨hh, g, d, t, os⟩ := s
  cases hc : clsIn K C with
  | none => unfold ks_superIn at hm; rw [hc] at hm; cases hm
  | some cd =>
    unfold ks_superIn at hm
    rw [hc] at hm
    refine sup_getMethod (N _ hso).1 (looks_opaque X ho) (l₀ := cd.mro) ?_ rfl X hm hty hown I.at_ I.cls (looks_subIn X hsub) (ks_ne X I hc) hn ?_
    · exact fun A Q E s k q => wpAny_bind ((looks_clsIn X hc) A _ E s k (wpAny_pure q))
    · obtain ⟨F', N', l'⟩ := ks_newsPush (s := ⟨hh, g, d, t, os⟩) (o := mwObj id x) F N rfl (Heap.get?_push_at rfl rfl) (fun b o e => Heap.get?_push_of_some _ e)
      exact h _ _ F' N' l'

theorem bound_call {q : Addr} {id : String} {b : Builtin} {Q : Value → Shared → Prop} (N : News h₀ L s.heap news) (hq : (q, mwObj id x) ∈ news) (hc : checkBoundCall id ⟨[.ref x], []⟩ = pure ()) (hp : plainId id = true) (hb : entryFor table id = some b)
    (h : wpAny (model prog w) A.in1 (b ⟨[.ref x], []⟩) (fun fin s' => ∃ v, fin = .done (.ret v) ∧ Q v s') E s) : wpAny (model prog w) A (call (.ref q) []) Q E s := by
  refine wpAny_call (codeAny_of_tree ?_)
  show wpAny _ A.in1 (callAny (.ref q) ⟨[], []⟩) _ _ s
  unfold callAny
  refine wpAny_bind (wpAny_load (N _ hq).1 ?_)
  show wpAny _ A.in1 (checkBoundCall id ⟨[.ref x], []⟩ >>= fun _ => again (.builtin id ⟨[.ref x], []⟩)) _ _ s
  refine wpAny_bind (wpAny_of_eq hc (wpAny_pure ⟨plainId_quiet hp _, codeAny_builtin hb ?_⟩))
  rw [Around.under_plainId hp _]
  exact wpAny_mono h (fun fin s' hv => by obtain ⟨v, rfl, hv⟩ := hv; exact hv) fun _ _ z => z
theorem mw_keeps {q : Addr} {id : String} (N : News h₀ L s.heap news) (hq : (q, mwObj id x) ∈ news) : Looks (model prog w) s.heap (keeperOf (.ref q)) .machine := by
  refine (Looks.ld (part := none) (N _ hq).1).andThen ?_
  exact .now
theorem callWith_mw {q : Addr} {id : String} {pos : Pos} {env : Env} {Q : Value → Shared → Prop} (N : News h₀ L s.heap news) (hq : (q, mwObj id x) ∈ news) (h : wpAny (model prog w) A (call (.ref q) ([] ++ [])) Q E s) :
    wpAny (model prog w) A (callWith pos (.ref q) [] (backTo pos (starEach [] env)) []) Q E s :=
  callWith_of (P := fun h' => h' = s.heap) rfl (fun h' e => ⟨.machine, .inr (.inl rfl), e ▸ mw_keeps N hq⟩) (evalArgs_nil3 ⟨rfl, h⟩)

theorem li_check (x : Addr) : checkBoundCall "list.__init__" ⟨[.ref x], []⟩ = pure () := by kernel_rfl
theorem ll_check (x : Addr) : checkBoundCall "list.__len__" ⟨[.ref x], []⟩ = pure () := by kernel_rfl
theorem li_type : typeOf (.builtin "list.__init__") = pure (.type "wrapper_descriptor") := by show builtinType _ = _; rw [builtinType_eq_fast]; kernel_rfl

theorem acc_superInit {d C q : Addr} {Q : Value → Shared → Prop} (F : Fr h₀ L s.heap m) (N : News h₀ L s.heap news) (hq : (q, mwObj "list.__init__" x) ∈ news) (hx : (x, accO C d #[] 0) ∈ news)
    (h : ∀ h', Fr h₀ L h' m → News h₀ L h' news → Q .none { s with heap := h' }) : wpAny (model prog w) A (call (.ref q) []) Q E s := by
  refine bound_call N hq (li_check x) _root_.PySem.F.slot_list_init.plain _root_.PySem.F.entry_list_init ?_
  have hxo := (N _ hx)
  unfold Builtin.«list.__init__»
  simp only [List.isEmpty_nil, Bool.not_true, Bool.false_eq_true, if_false, List.length_nil]
  refine wpAny_bind (m := Builtin.List.listItems (.ref x)) ?_
  unfold Builtin.List.listItems
  refine wpAny_bind (wpAny_seqItems hxo.1 rfl (wpAny_pure ?_))
  refine wpAny_bind ?_
  show wpAny _ _ (updateSeq x _) _ _ _
  have hmap : Obj.mapSeq (fun _ => #[]) (accO C d #[] 0) = accO C d #[] 0 := rfl
  refine wpAny_updateSeq hxo.1 rfl ?_ (by simp) (by simp)
  refine wpAny_bind (wpAny_letGo (wpAny_pure ⟨_, rfl, ?_⟩))
  have hsb : Heap.SameBut x s.heap (s.heap.update x (Obj.mapSeq fun _ => #[])) := Heap.SameBut.update ..
  have hgx : (s.heap.update x (Obj.mapSeq fun _ => #[])).get? x = some (accO C d #[] 0) := by rw [Heap.get?_update_self _ hxo.1 (by rw [hmap]; rfl), hmap]
  refine h _ (F.change hsb hxo.2.1 hxo.2.2) fun p hp => ?_
  by_cases e : p.1 = x
  · have hp' := (N p hp)
    rw [e] at hp'
    rw [hxo.1] at hp'
    refine ⟨?_, (N p hp).2⟩
    rw [e, hgx]; exact hp'.1
  · exact ⟨(hsb.2 _ e).trans (N p hp).1, (N p hp).2⟩

theorem wpAny_pure_fin {M : Model} {v : Value} {Q : PySem.Fin → Shared → Prop} (h : Q (.done (.ret v)) s) : wpAny M A (ret v) Q E s := wpAny_pure h
theorem acc_superLen {d C q : Addr} {its : Array Value} {e : Nat} {Q : Value → Shared → Prop} (N : News h₀ L s.heap news) (hq : (q, mwObj "list.__len__" x) ∈ news) (hx : (x, accO C d its e) ∈ news)
    (h : Q (.int its.size s.toks) { s with toks := s.toks + 1 }) : wpAny (model prog w) A (call (.ref q) []) Q E s := by
  refine bound_call N hq (ll_check x) slot_list_len.plain entry_list_len ?_
  have hxo := (N _ hx)
  show wpAny _ _ ((seqSize x) >>= fun n => retInt n) _ _ _
  unfold seqSize
  refine wpAny_bind (wpAny_bind (wpAny_loadPart hxo.1 (wpAny_pure ?_)))
  show wpAny _ _ (mkInt its.size >>= fun v => ret v) _ _ _
  exact wpAny_bind (fun _ _ _ => wpAny_pure_fin ⟨_, rfl, h⟩)
end
end Mine
end
-- PL
section
set_option maxHeartbeats 4000000
namespace Mine
open _root_.PySem _root_.PySem.Calls PyProof.Rows _root_.PySem.W Builtin Builtin.ObjectAttr Builtin.Getset_descriptor

noncomputable def makesL (K : Frag) (C : Addr) : Bool := match K.lookup C with
  | some ⟨_, _, .cls cd, sl⟩ => !cd.abstract && !cd.hasDel && (sl.toList[4]?).join == some (.builtin "list.__new__") && !cd.mro.isEmpty && cd.mro.contains (.ref C) && cd.mro.contains (.type "list") &&
      specialIn K (.ref C) "__call__" == some (some (.builtin "type.__call__")) && instIn K (.ref C) (.type "type") == some true
  | _ => false
structure MakesL (M : Model) (h : Heap) (C : Addr) : Prop where
  obj : ∃ oc od cd sl, h.get? C = some ⟨oc, od, .cls cd, sl⟩ ∧ cd.abstract = false ∧ cd.hasDel = false ∧ cd.mro.isEmpty = false
  made : Looks M h (Bind.madeBy (.ref C)) (some "list.__new__")
  base : Looks M h (Bind.staticBase (.ref C)) (.ref C)
  self : Looks M h (isSubtype (.ref C) (.ref C)) true
  top : Looks M h (isSubtype (.ref C) (.type "list")) true
  call : Looks M h (specialOf (.ref C) "__call__") (some (.builtin "type.__call__"))
  typ : Looks M h (isInstance (.ref C) (.type "type")) true
theorem makesL_of {K : Frag} {M : Model} {h : Heap} (X : K.In h) {C : Addr} (e : makesL K C = true) : MakesL M h C := by
  unfold makesL at e
  split at e
  · rename_i oc od cd sl ho
    simp only [Bool.and_eq_true, Bool.not_eq_true', beq_iff_eq] at e
    obtain ⟨⟨⟨⟨⟨⟨⟨e1, e2⟩, e3⟩, e4⟩, e5⟩, e6⟩, e7⟩, e8⟩ := e
    have hc : clsIn K C = some cd := by unfold clsIn; rw [ho]
    have hm : Looks M h (mroOf (.ref C)) cd.mro := (looks_clsIn X hc).andThen .now
    obtain ⟨c, l, hl⟩ : ∃ c l, cd.mro = c :: l := by cases q : cd.mro with | nil => rw [q] at e4; cases e4 | cons c l => exact ⟨c, l, rfl⟩
    have made : Looks M h (Bind.madeBy (.ref C)) (some "list.__new__") := by
      intro A Q E s k q
      unfold Bind.madeBy
      refine wpAny_bind (hm A _ E s k ?_)
      rw [hl, List.forIn_cons]
      refine wpAny_bind (wpAny_bind (wpAny_bind (wpAny_bind (wpAny_loadPart (k _ _ (X _ _ ho)) (wpAny_pure ?_)))))
      dsimp only
      rw [← Array.getElem?_toList, e3]
      exact wpAny_pure (wpAny_pure (wpAny_pure q))
    refine ⟨⟨oc, od, cd, sl, X _ _ ho, e1, e2, e4⟩, made, ?_, looks_mroIn X ?_, looks_mroIn X ?_, looks_specialIn X e7, looks_instIn X e8⟩
    · intro A Q E s k q
      unfold Bind.staticBase
      refine wpAny_bind (hm A _ E s k ?_)
      rw [hl, List.forIn_cons]
      exact wpAny_bind (wpAny_bind (wpAny_bind (made A _ E s k (wpAny_pure (wpAny_pure (wpAny_pure q))))))
    · unfold mroIn; rw [hc, Option.bind_some, if_neg (by rw [e4]; decide), e5]
    · unfold mroIn; rw [hc, Option.bind_some, if_neg (by rw [e4]; decide), e6]
  · cases e

theorem ln_split : splitId "list.__new__" = some ("list", "__new__") := by decide +kernel
theorem ln_row : Manifest.signature? "list.__new__" = some ⟨.any, "list", "list", .cls, [⟨"args", .varPos, false⟩, ⟨"kwargs", .varKw, false⟩]⟩ := by kernel_rfl
theorem ln_args (C : Addr) : Bind.checkArgs "list.__new__" ⟨.any, "list", "list", .cls, [⟨"args", .varPos, false⟩, ⟨"kwargs", .varKw, false⟩]⟩ ⟨[.ref C], []⟩ = pure () := by kernel_rfl
theorem ln_kind : builtinKind "list.__new__" = some .builtinFn := by decide +kernel
section
variable {prog : Program} {w : World} {A : Around} {K : Frag} {C : Addr} {R : Result → Shared → Prop} {h : Heap} {g : Array GenState} {d : Drawn} {t : Nat} {os : OsState}
theorem newL_K (Y : MakesL (model prog w) h C)
    (hq : R (.ok (.ret (.ref (h.objs.size + 1)))) ⟨(h.push emptyDict).push (accO C h.objs.size #[] 0), g, d, t, os⟩) :
    codeAny (model prog w) A (.call (.builtin "list.__new__") ⟨[.ref C], []⟩) R ⟨h, g, d, t, os⟩ := by
  obtain ⟨⟨oc, od, cd, sl, hC, e1, e2, e4⟩, made, base, self, top, call, typ⟩ := Y
  refine codeAny_call_builtin_code (Code.quiet_builtin _ (by decide +kernel)) ?_
  simp only [checkBuiltinCall, ln_kind, ln_split, ln_row]
  have args := ln_args C
  rw [args]
  repeat (first | simp only [bne_self_eq_false, Bool.false_eq_true, if_false] | lk)
  refine codeAny_builtin_stack _root_.PySem.F.entry_list_new rfl fun p st => ?_
  rw [Around.under_plainId _root_.PySem.F.plain_list_new _]
  have hown := owner_list_new
  simp only [hown]
  repeat (first | simp only [bne_self_eq_false, Bool.false_eq_true, if_false] | lk)
  show wpAny _ _ (load C) _ _ _
  refine wpAny_load (Heap.get?_push_of_some _ (Heap.get?_push_of_some _ hC)) (wpAny_pure ?_)
  rw [e2]
  refine wpAny_pure (wpAny_pure ?_)
  show R _ _
  rw [Heap.size_push]
  exact hq

theorem make_coreL {init : Value} (Y : MakesL (model prog w) h C) (hi : Looks (model prog w) h (typeLookup (.ref C) "__init__") (some init))
    (hb : ∀ self, Looks (model prog w) h (bindSpecial init self) (init, [self]))
    (hq : codeAny (model prog w) (A.under (.builtin "type.__call__" ⟨[.ref C], []⟩)) (.call init ⟨[.ref (h.objs.size + 1)], []⟩) (InitBack (h.objs.size + 1) R) ⟨(h.push emptyDict).push (accO C h.objs.size #[] 0), g, d, t, os⟩) :
    codeAny (model prog w) A (.call (.ref C) ⟨[], []⟩) R ⟨h, g, d, t, os⟩ := by
  have Y' := Y
  obtain ⟨⟨oc, od, cd, sl, hC, e1, e2, e4⟩, made, base, self, top, call, typ⟩ := Y
  refine codeAny_of_tree ?_
  show wpAny _ _ (callAny (.ref C) _) _ _ _
  refine nd_load hC ?_
  show wpAny _ _ (callAny.viaDunder (.ref C) _) _ _ _
  unfold callAny.viaDunder
  refine wpAny_bind (call.at ?_)
  dsimp only
  rw [tc_bind]
  refine wpAny_bind (wpAny_pure (wpAny_bind (wpAny_pure ?_)))
  refine wpAny_pure (a := Fin.again (.call (.builtin "type.__call__") ⟨[.ref C], []⟩)) (And.intro rfl ?_)
  refine codeAny_call_builtin_at (Code.quiet_builtin _ (by decide +kernel)) entry_typeCall (check_slot tc_kind tc_split typ (tc_args _ _ _) ?_)
  unfold Builtin.«type.__call__»
  have hm : Looks (model prog w) h (mroOf (.ref C)) cd.mro := ((Looks.ld (part := none) hC).andThen .now).andThen .now
  repeat (first | simp only [e4, Bool.false_eq_true, if_false] | with_reducible refine wpAny_call ?_ | lk)
  refine newL_K Y' ?_
  have k : ∀ b o, h.get? b = some o → ((h.push emptyDict).push (accO C h.objs.size #[] 0)).get? b = some o := fun b o e => Heap.get?_push_of_some _ (Heap.get?_push_of_some _ e)
  have hx : ((h.push emptyDict).push (accO C h.objs.size #[] 0)).get? (h.objs.size + 1) = some (accO C h.objs.size #[] 0) := by heap_get
  have t1 : Looks (model prog w) ((h.push emptyDict).push (accO C h.objs.size #[] 0)) (typeOf (.ref (h.objs.size + 1))) (.ref C) := (Looks.ld hx).andThen .now
  have s1 := self.keeps k
  have i1 := hi.keeps k
  have b1 := (hb (.ref (h.objs.size + 1))).keeps k
  unfold isInstance callSpecial? specialOf
  repeat (first | with_reducible refine wpAny_call ?_ | lk)
  refine codeAny_mono hq fun r s' z => ?_
  rcases r with e | (v | _ | _ | _) <;> first | exact z | exact z.elim | skip
  obtain ⟨rfl, z⟩ := z
  exact wpAny_pure (wpAny_pure z)
end
section
variable {prog : Program} {w : World} {A : Around} {E : Value → Shared → Prop} {K : Frag} {C : Addr} {s : Shared} {h₀ : Heap} {L : Addr} {m : Str → Option Value} {news : List (Addr × Obj)} {R : Result → Shared → Prop} {Q : Value → Shared → Prop}
theorem make_KL {fI : Addr} (F : Fr h₀ L s.heap m) (N : News h₀ L s.heap news) (X : K.In s.heap) (hm : makesL K C = true)
    (hi : findIn K (.ref C) "__init__" = some (some (.ref fI))) (hf : typeIn K (.ref fI) = some (.type "function"))
    (h : ∀ x dx h', Fr h₀ L h' m → News h₀ L h' ((x, accO C dx #[] 0) :: (dx, dictOf [] 0) :: news) → (∀ p ∈ news, p.1 < dx) → dx < x →
      codeAny (model prog w) (A.under (.builtin "type.__call__" ⟨[.ref C], []⟩)) (.call (.ref fI) ⟨[.ref x], []⟩) (InitBack x R) { s with heap := h' }) :
    codeAny (model prog w) A (.call (.ref C) ⟨[], []⟩) R s := by
  obtain ⟨hh, g, d, t, os⟩ := s
  refine make_coreL (makesL_of X hm) (looks_findIn X hi) (fun self => bind_fn X self hf) (h _ hh.objs.size _ ((F.push _).push _) ?_ (fun p hp => Heap.lt_size (N p hp).1) (Nat.lt_succ_self _))
  have := (N.push F emptyDict).push (F.push _) (accO C hh.objs.size #[] 0)
  rwa [Heap.size_push] at this
theorem call_clsL {fI : Addr} (F : Fr h₀ L s.heap m) (X₀ : K.In h₀) (N : News h₀ L s.heap news) (hm : makesL K C = true) (hi : findIn K (.ref C) "__init__" = some (some (.ref fI))) (hf : isFn K (.ref fI) = true)
    (h : ∀ x dx h', Fr h₀ L h' m → News h₀ L h' ((x, accO C dx #[] 0) :: (dx, dictOf [] 0) :: news) → (∀ p ∈ news, p.1 < dx) → dx < x →
      codeAny (model prog w) (A.under (.builtin "type.__call__" ⟨[.ref C], []⟩)) (.call (.ref fI) ⟨[.ref x], []⟩) (InitBack x fun r s' => match r with | .ok (.ret v) => Q v s' | .ok _ => False | .error e => E e s') { s with heap := h' }) :
    wpAny (model prog w) A (call (.ref C) []) Q E s := wpAny_call (make_KL F N (X₀.keeps F.keep) hm hi (beq_iff_eq.mp hf) h)
end
end Mine
end
-- PM
section
set_option maxHeartbeats 4000000
namespace Mine
open _root_.PySem _root_.PySem.Calls PyProof.Rows _root_.PySem.W Builtin Builtin.ObjectAttr Builtin.Getset_descriptor

theorem refuse_list (self : Value) : refuseLoop self "__setattr__" [.type "list", .type "object"] = pure () := by
  have e : classOwn (.type "list") "__setattr__" = pure none := by kernel_rfl
  have o := _root_.PySem.F.store_object.passes self
  have q : refuseLoop self "__setattr__" [.type "list", .type "object"] = refuseLoop self "__setattr__" [.type "object"] := by
    unfold refuseLoop
    simp only [List.forIn_cons, e, pure_bind]
    rfl
  rw [q]; exact o

section
variable {prog : Program} {w : World} {A : Around} {E : Value → Shared → Prop} {K : Frag} {C x dx L : Addr} {s : Shared} {h₀ : Heap} {m : Str → Option Value} {news news' : List (Addr × Obj)} {R : Result → Shared → Prop} {es es' : List DictEntry} {n n' : Nat} {its : Array Value} {e0 : Nat}
theorem acc_osa {name : Str} {tk : Tok} {v : Value} (F : Fr h₀ L s.heap m) (N : News h₀ L s.heap news) (X : K.In s.heap) (hx : (x, accO C dx its e0) ∈ news)
    (hc0 : (clsIn K C).map (·.mro) = some [.ref C, .type "list", .type "object"]) (hf : findIn K (.ref C) name = some none) (hh : (clsIn K C).any (·.hasDict) = true)
    (hl : (lookIn name (dictOf es n)).isSome = true) (U : Upd dx (dictOf es n) (dictOf es' n') news news')
    (e : Obj.putName name (PyData.keyHash w.params name) (.str name s.toks) v (dictOf es n) = dictOf es' n') (hz : es'.length ≤ 1000)
    (h : ∀ h', Fr h₀ L h' m → News h₀ L h' news' → R (.ok (.ret .none)) { s with heap := h', toks := s.toks + 1 }) :
    codeAny (model prog w) A (.call (.builtin "object.__setattr__") ⟨[.ref x, .str name tk, v], []⟩) R s := by
  have SF := _root_.PySem.F.store_object
  obtain ⟨cd, hc, hmro⟩ := Option.map_eq_some_iff.mp hc0
  obtain ⟨pre, post, rfl, rfl, h1, h2⟩ := U.split
  have hdx := (N (dx, dictOf es n) (by simp)).1
  have I : InstAt s.heap x (accO C dx its e0) C (some (dictOf es n)) := ⟨(N _ hx).1, rfl, rfl, hdx⟩
  have hm : Looks (model prog w) s.heap (mroOf (.ref C)) cd.mro := (looks_clsIn X hc).andThen .now
  have sub : Looks (model prog w) s.heap (isInstance (.ref x) (.type "object")) true := I.type.andThen (looks_mroIn X (by unfold mroIn; rw [hc, Option.bind_some, hmro]; rfl))
  refine codeAny_call_builtin SF.slot.plain SF.entry (@check_slot (model prog w) _ _ s "object.__setattr__" "object" "__setattr__" (.ref x) [.str name tk, v] [] _ SF.kind SF.split sub (SF.args (.ref x) (.str name tk) v) ?_)
  have L3 : Looks (model prog w) s.heap (storeTaker? none) none := .now
  rw [osa_eq, refuse_eq]
  refine wpAny_bind (wpAny_bind (I.type.here (wpAny_bind (hm.here ?_))))
  rw [hmro, refuseLoop_ref, refuse_list]
  refine wpAny_pure (wpAny_bind (I.type.here (wpAny_bind ((looks_findIn X hf).here (wpAny_bind (L3.here ?_))))))
  have hd' : cd.hasDict = true := by rw [hc] at hh; exact hh
  obtain ⟨U1, U2⟩ := news_upd (f := Obj.putName name (PyData.keyHash w.params name) (.str name s.toks) v) F N h1 h2 e rfl
  have D := (N (dx, dictOf es n) (by simp)).1
  have D' := (U2 (dx, dictOf es' n') (by simp)).1
  refine wpAny_bind (wpAny_pure (wpAny_bind (wpAny_bind (wpAny_loadPart I.at_ (wpAny_bind ((looks_clsIn X hc).here ?_))))))
  rw [hd']
  refine wpAny_pure (a := some dx) (wpAny_bind (wpAny_pure (wpAny_bind ?_)))
  unfold nsSet
  refine wpAny_bind (wpAny_bind (wpAny_askSetting (wpAny_pure (wpAny_bind (wpAny_mkText (wpAny_bind (wpAny_loadPart D ?_)))))))
  rw [lookIn_dict] at hl
  unfold getL at hl
  dsimp only
  have c : (!es.toArray.any (·.key.isStr name) && es.toArray.any (·.refKey)) = false := by
    rw [← Array.any_toList, ← Array.any_toList]
    split at hl
    · rename_i en he
      rw [List.any_eq_true.mpr ⟨en, List.mem_of_find?_eq_some he, List.find?_some he⟩]; rfl
    · split at hl
      · cases hl
      · rename_i z; rw [Bool.not_eq_true] at z; rw [z, Bool.and_false]
  rw [aRefKeyMayBeTheName_at, c]
  refine wpAny_updatePart D ?_
  refine wpAny_bind (wpAny_lookBehind D' (by exact pastItsLine_dict (by rw [List.size_toArray, sizeLine_eq]; omega)) ?_)
  exact wpAny_pure (h _ U1 U2)

theorem acc_setAttr {name : Str} {v : Value} {Q : Unit → Shared → Prop} (F : Fr h₀ L s.heap m) (X₀ : K.In h₀) (N : News h₀ L s.heap news) (hx : (x, accO C dx its e0) ∈ news)
    (hs : findIn K (.ref C) "__setattr__" = some (some (.builtin "object.__setattr__"))) (hc0 : (clsIn K C).map (·.mro) = some [.ref C, .type "list", .type "object"]) (hf : findIn K (.ref C) name = some none) (hh : (clsIn K C).any (·.hasDict) = true)
    (hl : (getL name es).isSome = true) (U : Upd dx (dictOf es n) (dictOf es' n') news news')
    (e : (putL name (PyData.keyHash w.params name) (.str name (s.toks + 1)) v es, putN name es n) = (es', n')) (hz : es'.length ≤ 1000)
    (h : ∀ h', Fr h₀ L h' m → News h₀ L h' news' → Q () { s with heap := h', toks := s.toks + 2 }) : wpAny (model prog w) A (setAttr (.ref x) name v) Q E s := by
  have X := X₀.keeps F.keep
  have hdx : (dx, dictOf es n) ∈ news := by
    obtain ⟨pre, post, rfl, _⟩ := U.split
    simp
  have I : InstAt s.heap x (accO C dx its e0) C (some (dictOf es n)) := ⟨(N _ hx).1, rfl, rfl, (N _ hdx).1⟩
  obtain ⟨e1, e2⟩ := Prod.mk.inj e
  exact set_plain X I hs (acc_osa (s := { s with toks := s.toks + 1 }) F N X hx hc0 hf hh hl U (by rw [putName_dict, e1, e2]) hz fun h' F' N' => h h' F' N')
end
end Mine
end
-- QA
section
namespace Mine

/-! sorting -/
theorem cutAt_above (c : Nat) (ws : List Nat) : ∀ (k i : Nat), cutAt c ws k ≤ i → i < k → c < ws.getD i 0
  | 0, i, _, h => absurd h (Nat.not_lt_zero _)
  | k + 1, i, h1, h2 => by
    rw [cutAt] at h1
    split at h1
    · rename_i hc
      rcases Nat.lt_or_ge i k with h | h
      · exact cutAt_above c ws k i h1 h
      · have : i = k := by omega
        rw [this]; exact hc
    · omega
theorem cutAt_below (c : Nat) (ws : List Nat) : ∀ (k : Nat), cutAt c ws k = 0 ∨ ws.getD (cutAt c ws k - 1) 0 ≤ c
  | 0 => .inl rfl
  | k + 1 => by
    rw [cutAt]
    split
    · exact cutAt_below c ws k
    · rename_i hc
      refine .inr ?_
      simpa using hc
theorem ins_perm (ws : List Nat) (c : Nat) : (ins ws c).Perm (c :: ws) := by
  unfold ins
  rw [List.append_assoc, List.singleton_append]
  refine List.perm_middle.trans ?_
  rw [List.take_append_drop]
theorem ins_sorted {ws : List Nat} (h : ws.Pairwise (· ≤ ·)) (c : Nat) : (ins ws c).Pairwise (· ≤ ·) := by
  have hle := cutAt_le c ws ws.length
  have hget := List.pairwise_iff_getElem.mp h
  unfold ins
  rw [List.append_assoc, List.singleton_append, List.pairwise_append, List.pairwise_cons]
  have hlow : ∀ a ∈ ws.take (cutAt c ws ws.length), a ≤ c := by
    intro a ha
    obtain ⟨i, hi, rfl⟩ := List.getElem_of_mem ha
    have hi' : i < cutAt c ws ws.length := by
      rw [List.length_take] at hi; omega
    rw [List.getElem_take]
    rcases cutAt_below c ws ws.length with h0 | h0
    · omega
    · have hj : cutAt c ws ws.length - 1 < ws.length := by omega
      rw [List.getD_eq_getElem?_getD, List.getElem?_eq_getElem hj] at h0
      simp only [Option.getD_some] at h0
      rcases Nat.lt_or_ge i (cutAt c ws ws.length - 1) with h1 | h1
      · exact Nat.le_trans (hget i _ (by omega) hj h1) h0
      · have : i = cutAt c ws ws.length - 1 := by omega
        simpa [this] using h0
  have hhigh : ∀ a ∈ ws.drop (cutAt c ws ws.length), c ≤ a := by
    intro a ha
    obtain ⟨i, hi, rfl⟩ := List.getElem_of_mem ha
    rw [List.length_drop] at hi
    rw [List.getElem_drop]
    have := cutAt_above c ws ws.length (cutAt c ws ws.length + i) (by omega) (by omega)
    rw [List.getD_eq_getElem?_getD, List.getElem?_eq_getElem (by omega)] at this
    simp only [Option.getD_some] at this
    exact Nat.le_of_lt this
  refine ⟨h.sublist (List.take_sublist _ _), ⟨hhigh, h.sublist (List.drop_sublist _ _)⟩, fun a ha b hb => ?_⟩
  rcases List.mem_cons.mp hb with rfl | hb
  · exact hlow a ha
  · exact Nat.le_trans (hlow a ha) (hhigh b hb)
theorem along_sort (cs : List Nat) : (along cs).Pairwise (· ≤ ·) ∧ (along cs).Perm cs := by
  suffices h : ∀ ws : List Nat, ws.Pairwise (· ≤ ·) → (cs.foldl ins ws).Pairwise (· ≤ ·) ∧ (cs.foldl ins ws).Perm (ws ++ cs) by
    simpa [along] using h [] .nil
  induction cs with
  | nil => intro ws h; exact ⟨h, by simp⟩
  | cons c cs ih =>
    intro ws h
    obtain ⟨h1, h2⟩ := ih (ins ws c) (ins_sorted h c)
    refine ⟨h1, h2.trans ?_⟩
    exact ((ins_perm ws c).append_right cs).trans List.perm_middle.symm

theorem held_sort (r : List Nat) (s : Nat × List Nat) (h : ∀ x ∈ s.2, s.1 ≤ x) : (∀ x ∈ (r.foldl held1 s).2, (r.foldl held1 s).1 ≤ x) ∧ ((r.foldl held1 s).1 :: (r.foldl held1 s).2).Perm (s.1 :: s.2 ++ r) := by
  induction r generalizing s with
  | nil => exact ⟨h, by simp⟩
  | cons y r ih =>
    rw [List.foldl_cons]
    have e : (held1 s y).1 :: (held1 s y).2 ++ r = (held1 s y).1 :: ((held1 s y).2 ++ r) := rfl
    have h1 : (∀ x ∈ (held1 s y).2, (held1 s y).1 ≤ x) ∧ ((held1 s y).1 :: (held1 s y).2).Perm (s.1 :: s.2 ++ [y]) := by
      unfold held1
      split
      · rename_i hlt
        refine ⟨fun x hx => ?_, .refl _⟩
        rcases List.mem_append.mp hx with hx | hx
        · exact h x hx
        · rw [List.mem_singleton.mp hx]; exact Nat.le_of_lt hlt
      · rename_i hlt
        refine ⟨fun x hx => ?_, ?_⟩
        · show y ≤ x
          rcases List.mem_append.mp hx with hx | hx
          · exact Nat.le_trans (Nat.le_of_not_lt hlt) (h x hx)
          · rw [List.mem_singleton.mp hx]; exact Nat.le_of_not_lt hlt
        · show (y :: (s.2 ++ [s.1])).Perm (s.1 :: s.2 ++ [y])
          have a : (y :: (s.2 ++ [s.1])).Perm (y :: (s.1 :: s.2)) := List.Perm.cons _ (by simpa using (List.perm_append_comm (l₁ := s.2) (l₂ := [s.1])))
          exact a.trans (by simpa using (List.perm_append_comm (l₁ := [y]) (l₂ := s.1 :: s.2)))
    obtain ⟨i1, i2⟩ := ih _ h1.1
    refine ⟨i1, i2.trans ?_⟩
    have := h1.2.append_right r
    simpa [List.append_assoc] using this

theorem draw_sort (s : List Nat × List Nat) (h1 : s.2.Pairwise (· ≤ ·)) (h2 : ∀ a ∈ s.2, ∀ b ∈ s.1, a ≤ b) :
    (draw s).2.Pairwise (· ≤ ·) ∧ (∀ a ∈ (draw s).2, ∀ b ∈ (draw s).1, a ≤ b) ∧ ((draw s).2 ++ (draw s).1).Perm (s.2 ++ s.1) := by
  obtain ⟨a, out⟩ := s
  cases a with
  | nil => exact ⟨h1, h2, .refl _⟩
  | cons x r =>
    have hs := held_sort r (x, []) (fun _ h => by cases h)
    simp only [draw]
    have hp : ((r.foldl held1 (x, [])).1 :: (r.foldl held1 (x, [])).2).Perm (x :: r) := hs.2
    have hm : ∀ y, y ∈ (r.foldl held1 (x, [])).1 :: (r.foldl held1 (x, [])).2 → y ∈ x :: r := fun y hy => hp.mem_iff.mp hy
    refine ⟨?_, ?_, ?_⟩
    · rw [List.pairwise_append]
      refine ⟨h1, List.pairwise_singleton _ _, fun y hy z hz => ?_⟩
      rw [List.mem_singleton.mp hz]
      exact h2 y hy _ (hm _ (.head _))
    · intro y hy z hz
      rcases List.mem_append.mp hy with hy | hy
      · exact h2 y hy z (hm z (.tail _ hz))
      · rw [List.mem_singleton.mp hy]; exact hs.1 z hz
    · rw [List.append_assoc, List.singleton_append]
      exact hp.append_left out
theorem down_sort (cs : List Nat) : (down cs).Pairwise (· ≤ ·) ∧ (down cs).Perm cs := by
  have h : ∀ n, (drawN n (cs, [])).2.Pairwise (· ≤ ·) ∧ (∀ a ∈ (drawN n (cs, [])).2, ∀ b ∈ (drawN n (cs, [])).1, a ≤ b) ∧ ((drawN n (cs, [])).2 ++ (drawN n (cs, [])).1).Perm cs := by
    intro n
    induction n with
    | zero => exact ⟨List.Pairwise.nil, (fun a h => by cases h), List.Perm.refl _⟩
    | succ n ih =>
      obtain ⟨a, b, c⟩ := draw_sort _ ih.1 ih.2.1
      exact ⟨a, b, c.trans ih.2.2⟩
  obtain ⟨a, b, c⟩ := h cs.length
  refine ⟨a, ?_⟩
  have e : (drawN cs.length (cs, [])).1 = [] := List.eq_nil_of_length_eq_zero (by rw [drawN_length]; simp)
  rw [e, List.append_nil] at c
  exact c
end Mine
end
-- PY
section
namespace Mine
open _root_.PySem _root_.PySem.Calls PyProof.Rows _root_.PySem.W

section
variable {prog : Program} {w : World} {A : Around} {s : Shared} {env : Env} {h₀ : Heap} {L : Addr}
theorem codeC_for_list {l I : Addr} {x : Str} {px : Pos} {body : List Stmt} {vs : List Value} {e : Nat} {Q : Flow → Shared → Prop} (J : Nat → (Str → Option Value) → List (Addr × Obj) → Prop)
    (hh : A.handled = none) (hne : l ≠ I) (hLI : L ≠ I) (hI₀ : h₀.get? I = none)
    (hJ : ∀ i m nx, J i m nx → (l, W.listOf vs.toArray e) ∈ nx)
    (turn : ∀ i v m₁ nx h tk oI, vs[i]? = some v → J i m₁ nx → (∀ p ∈ nx, p.1 ≠ I) → oI.cls = .type "list_iterator" → Fr h₀ L h m₁ → News h₀ L h ((I, oI) :: nx) →
      wpAny (model prog w) A (assign (.Name x px) env v) (fun _ s₃ => wpC (model prog w) A (execs body env) (TurnQ h₀ L I oI (J (i + 1)) s Q) NoE s₃) NoE { s with heap := h, toks := tk })
    (done : ∀ m₁ nx h tk, J vs.length m₁ nx → Fr h₀ L h m₁ → News h₀ L h nx → Q .next { s with heap := h, toks := tk }) :
    ∀ k i m nx h tk, i + k = vs.length → h.IsListIter I l i → J i m nx → (∀ p ∈ nx, p.1 ≠ I) → Fr h₀ L h m → News h₀ L h nx →
      codeC (model prog w) A (.forLoop (.Name x px) (.ref I) body [] env) (fun r s' => match r with | .ok f => Q f s' | .error _ => False) { s with heap := h, toks := tk } := by
  have Wk := Walks.list (prog := prog) (w := w) hh I l hne vs.toArray
  intro k
  induction k with
  | zero =>
    intro i m nx h tk hi hit hj hoff F N
    refine codeC_for_turn ?_
    have hls : h.IsList l vs.toArray := ⟨_, (N _ (hJ _ _ _ hj)).1, rfl, _, rfl⟩
    have hi' : i = vs.toArray.size := by simpa using hi
    subst hi'
    refine Wk.done { s with heap := h, toks := tk } _ _ ⟨hit, hls⟩ fun h₂ tk₂ hk₂ => ?_
    have hk₂' : ∀ b o, b ≠ I → h.get? b = some o → h₂.get? b = some o := fun b o hb e' => hk₂ b o (by simpa using hb) e'
    refine done m nx h₂ tk₂ (by simpa using hj) ⟨F.ns.at' fun o e' => hk₂' _ o hLI e', fun b o e' => hk₂' b o (fun q => by rw [q, hI₀] at e'; cases e') (F.keep b o e'), F.above⟩ fun p hp => ⟨hk₂' _ _ (hoff p hp) (N p hp).1, (N p hp).2⟩
  | succ k ih =>
    intro i m nx h tk hi hit hj hoff F N
    refine codeC_for_turn ?_
    have hls : h.IsList l vs.toArray := ⟨_, (N _ (hJ _ _ _ hj)).1, rfl, _, rfl⟩
    have hlt : i < vs.toArray.size := by simp; omega
    refine Wk.item i { s with heap := h, toks := tk } _ _ hlt ⟨hit, hls⟩ fun v h₂ tk₂ hPv hst₂ hk₂ => ?_
    have hk₂' : ∀ b o, b ≠ I → h.get? b = some o → h₂.get? b = some o := fun b o hb e' => hk₂ b o (by simpa using hb) e'
    have F₂ : Fr h₀ L h₂ m := ⟨F.ns.at' fun o e' => hk₂' _ o hLI e', fun b o e' => hk₂' b o (fun q => by rw [q, hI₀] at e'; cases e') (F.keep b o e'), F.above⟩
    obtain ⟨oI, heI, hcI, hdI⟩ := id hst₂.1
    have N₂ : News h₀ L h₂ ((I, oI) :: nx) := fun p hp => by
      rcases List.mem_cons.mp hp with rfl | hp
      · exact ⟨heI, Ne.symm hLI, hI₀⟩
      · exact ⟨hk₂' _ _ (hoff p hp) (N p hp).1, (N p hp).2⟩
    refine letGo_listiter hst₂.1 ?_
    refine wpAny_mono (turn i v m nx h₂ tk₂ oI (by simpa using hPv) hj hoff hcI F₂ N₂) (fun _ s₃ h₃ => wpC_mono h₃ (fun f s₄ h₄ => ?_) fun _ _ e' => e') fun _ _ e' => e'
    have fin : (∃ h' tk m₂ nx₂, s₄ = { s with heap := h', toks := tk } ∧ Fr h₀ L h' m₂ ∧ News h₀ L h' ((I, oI) :: nx₂) ∧ (∀ p ∈ nx₂, p.1 ≠ I) ∧ J (i + 1) m₂ nx₂) →
        codeC (model prog w) A (.forLoop (.Name x px) (.ref I) body [] env) (fun r s' => match r with | .ok f => Q f s' | .error _ => False) s₄ := by
      rintro ⟨h', tk', m₂, nx₂, rfl, F₃, N₃, off₃, J₃⟩
      exact ih (i + 1) m₂ nx₂ h' tk' (by omega) ⟨oI, (N₃ _ (.head _)).1, hcI, hdI⟩ J₃ off₃ F₃ fun p hp => N₃ p (.tail _ hp)
    cases f with
    | next => exact fin h₄
    | cont => exact fin h₄
    | brk => exact h₄
    | ret v => exact h₄
end
end Mine
end
section
namespace Mine
section
open _root_.PySem _root_.PySem.W PyProof.Rows PyProof.Rows.LCg
def shT (n : Nat) : Lean.MacroM (Lean.TSyntax `tactic) := `(tactic| (with_reducible show wpAny _ _ (call (Value.ref $(Lean.quote n)) _) _ _ _))
def tcT : Nat → Lean.MacroM (Lean.TSyntax `tactic)
  | 0 => `(tactic| exact rfl)
  | 1 => `(tactic| first | exact rfl | assumption)
  | 2 => `(tactic| k_asm)
  | 3 => `(tactic| k_is)
  | 4 => `(tactic| ktr_room)
  | 5 => `(tactic| first | exact BindsTo.of_eq rfl | exact binds_K (by k_in) rfl (by k_is) rfl rfl rfl)
  | 6 => `(tactic| decide)
  | 7 => `(tactic| exact locs rfl)
  | 8 => `(tactic| (exact news_ne (by assumption) (by k_mem) (by k_mem) (by intro q; cases q)))
  | 9 => `(tactic| k_upd)
  | 10 => `(tactic| k_mem)
  | 11 => `(tactic| assumption)
  | 12 => `(tactic| k_in)
  | 13 => `(tactic| k_inst)
  | 14 => `(tactic| decide +kernel)
  | 15 => `(tactic| exact .int _ _)
  | 16 => `(tactic| exact .none)
  | 17 => `(tactic| ks_is)
  | 18 => `(tactic| first | exact li_type | exact ll_type)
  | 19 => `(tactic| ktr_units)
  | 20 => `(tactic| first | decide | omega)
  | 21 => `(tactic| with_unfolding_all rfl)
  | 22 => `(tactic| (intro _; with_unfolding_all rfl))
  | 23 => `(tactic| exact led_list (by k_asm) (by k_mem))
  | 24 => `(tactic| rfl)
  | 25 => `(tactic| (first | exact Nat.le_of_ble_eq_true rfl | (simp [sizeLine_eq] <;> omega)))
  | 26 => `(tactic| first | exact .int _ _ | exact .none)
  | _ => `(tactic| skip)
def casesT (t : Lean.TSyntax `tactic) : List Char → Lean.MacroM (Lean.TSyntax `tactic)
  | i :: c :: r => do
    let u ← tcT (c.toNat - 48)
    let x := Lean.mkIdent (← Lean.MonadQuotation.addMacroScope (Lean.Name.mkSimple ("kz" ++ String.singleton i)))
    casesT (← `(tactic| ($t:tactic; case $x:ident => $u:tactic))) r
  | _ => pure t
def argsT (h i : Nat) : Nat → Lean.MacroM (List Lean.Term)
  | 0 => pure []
  | n + 1 => do
    let x := Lean.mkIdent (← Lean.MonadQuotation.addMacroScope (Lean.Name.mkSimple ("kz" ++ String.singleton (Char.ofNat (97 + i)))))
    let a ← if i == h then `(?_) else `(?$x:ident)
    return a :: (← argsT h (i + 1) n)
def segT (l : Lean.Term) (n h : Nat) (c : String) : Lean.MacroM (Lean.TSyntax `tactic) := do
  let args := (← argsT h 0 n).toArray
  let a : Lean.Term := if l.raw.isOfKind ``Lean.Parser.Term.app then Lean.Syntax.mkApp ⟨l.raw[0]⟩ (l.raw[1].getArgs.map (fun x => ⟨x⟩) ++ args) else Lean.Syntax.mkApp l args
  casesT (← `(tactic| refine' $a)) c.toList
end
section
open _root_.PySem _root_.PySem.W PyProof.Rows
section
local macro_rules | `(tactic| ktr_enter) => `(tactic| k_enter)
section
def mT0 : Lean.MacroM (Lean.TSyntax `tactic) := do
  let t0 ← segT (← `(code_def)) 18 13 "f0g0h1a2b2c2d2e2i3j3k4l5r6m7o0p0q0"
  `(tactic| ($t0:tactic; k_whole; intro g' L' h' FG' F' N' B' X' T'; (try dsimp only); (try k_fold)))
local macro_rules | `(tactic| k_enter) => mT0
section
local macro_rules | `(tactic| k_units) => `(tactic| ktr_units)
section
def mT1 : Lean.MacroM (Lean.TSyntax `tactic) := do
  let t0 ← segT (← `(Upd.tail)) 2 2 "a8b9"
  `(tactic| first | assumption | (rename (∀ t, Upd _ _ _ _ _) => hU; exact hU _) | ($t0:tactic))
local macro_rules | `(tactic| k_upd) => mT1
section
def mT2 : Lean.MacroM (Lean.TSyntax `tactic) := `(tactic| ((repeat (first | with_reducible assumption | exact List.mem_cons_self | refine List.mem_cons_of_mem _ ?_)); done))
local macro_rules | `(tactic| k_mem) => mT2
section
local macro_rules | `(tactic| k_get) => `(tactic| assumption)
section
def mT3 : Lean.MacroM (Lean.TSyntax `tactic) := do
  let t0 ← segT (← `(tr_cons)) 4 3 "a2b:c;"
  `(tactic| (k_here; k_dflt ($t0:tactic; k_whole)))
local macro_rules | `(tactic| walk_at "truthy ref") => mT3
section
def mT4 : Lean.MacroM (Lean.TSyntax `tactic) := do
  let t0 ← segT (← `(pop0)) 5 4 "a2b2d9c;"
  `(tactic| (k_here; k_dflt ($t0:tactic; k_whole); intro h' F' N'; (try k_sweep)))
local macro_rules | `(tactic| walk_at "call builtin:list.pop") => mT4
-- CQ_02
section

set_option maxHeartbeats 4000000 in
theorem lnew_c {w : World} {p : Program} {loose : List Str} {mean : ExcName → Option Value} {mg mb : Str → Option Value}
    {dp un : Nat} {gd : Option (List Code)} {cn : Str} {cs : Scope} {a : Addr} {ccd : Value} {cl : List (Str × Addr)} {outer : List Env} {A₀ : Around} {base h₀ : Heap} {L : Addr} {m : Str → Option Value} {s : Shared}
    {Q E : Value → Shared → Prop} {news : List (Addr × Obj)}
    (B : Below A₀ base outer h₀) (F : Fr h₀ L s.heap m) (X : (hd.heap_39 w.params).In h₀) (N : News h₀ L s.heap news) (T : Top p loose mean mg mb h₀) (hk : cs.kind = .function)
    (hd : dp + 10 < recursionLimit) (hu : un + 100 < cLine)
    (ret : ∀ ln lnd pb es n h' tk', Fr h₀ L h' m → News h₀ L h' ((pb, W.listOf #[] 0) :: (ln, instObj 150 lnd) :: (lnd, dictOf es n) :: news) → getL (Str.ofString "pushback") es = some (some (.ref pb)) → getL (Str.ofString "push_token") es = some none → getL (Str.ofString "get_token") es = some none → (∀ p ∈ news, p.1 < lnd) → lnd < ln → ln < pb → Q (.ref ln) { s with heap := h', toks := tk' }) :
    wpAny (model PySem.Challenge.pw_xp0015_02 w) (ktrTop dp un gd cn cs L a ccd cl outer) (call (.ref 150) [.none]) Q E s := by
  k_steps
  rename _ ∧ _ ∧ AllLt _ _ => l1
  exact ret _ _ _ _ _ _ _ (by assumption) (by assumption) rfl rfl rfl (by assumption) (by assumption) l1.1
end
section
def mT5 : Lean.MacroM (Lean.TSyntax `tactic) := do
  let t0 ← segT (← `(inst_acc)) 3 3 "a2b:c:"
  `(tactic| ($t0:tactic))
local macro_rules | `(tactic| k_inst) => mT5
section
def mT6 : Lean.MacroM (Lean.TSyntax `tactic) := do
  let t0 ← segT (← `(method_sub)) 9 8 "a<b=c3d>e3f3g3h;"
  `(tactic| (k_here; k_dflt ($t0:tactic; k_whole)))
local macro_rules | `(tactic| walk_at "getMethod ref") => mT6
section
def mT7 : Lean.MacroM (Lean.TSyntax `tactic) := do
  let t0 ← segT (← `(acc_append)) 8 7 "a2b2c2f9d:e3g;"
  `(tactic| (k_here; (with_reducible show wpAny _ _ (call (Value.builtin _) [Value.ref _, _]) _ _ _); k_dflt ($t0:tactic; k_whole); intro h' F' N'; (try k_sweep)))
local macro_rules | `(tactic| walk_at "call builtin:list.append") => mT7
section
def mT8 : Lean.MacroM (Lean.TSyntax `tactic) := do
  let t0 ← segT (← `(acc_slice)) 12 11 "a2b2c2d:e:f3g3h3i?j@k;"
  `(tactic| (k_here; k_dflt ($t0:tactic; k_whole); intro D' h' F' N' l1; (try k_sweep)))
local macro_rules | `(tactic| walk_at "subscriptTail Name Slice ref ref") => mT8
section
def mT9 : Lean.MacroM (Lean.TSyntax `tactic) := do
  let t0 ← segT (← `(acc_cutS)) 12 11 "a2b2c2k9d:e:f3g3h3i;j;"
  `(tactic| (k_here; k_dflt ($t0:tactic; k_whole); intro h' F' N'; (try k_sweep)))
local macro_rules | `(tactic| walk_at "setItem ref ref") => mT9
-- CA_02
section
set_option maxHeartbeats 4000000 in
theorem put_c {w : World} {p : Program} {loose : List Str} {mean : ExcName → Option Value} {mg mb : Str → Option Value}
    {dp un : Nat} {gd : Option (List Code)} {cn : Str} {cs : Scope} {a : Addr} {ccd : Value} {cl : List (Str × Addr)} {outer : List Env} {A₀ : Around} {base h₀ : Heap} {L : Addr} {m : Str → Option Value} {s : Shared}
    {Q E : Value → Shared → Prop} {news : List (Addr × Obj)}
    {news' : List (Addr × Obj)} {ln lnd pb : Addr} {v : Value} {its : Array Value} {e n : Nat} {es : List DictEntry}
    (B : Below A₀ base outer h₀) (F : Fr h₀ L s.heap m) (X : (hd.heap_39 w.params).In h₀) (N : News h₀ L s.heap news) (T : Top p loose mean mg mb h₀) (hk : cs.kind = .function)
    (hd : dp + 10 < recursionLimit) (hu : un + 100 < cLine)
    (h1 : (ln, instObj 150 lnd) ∈ news) (h2 : (lnd, dictOf es n) ∈ news) (h3 : getL (Str.ofString "pushback") es = some (some (.ref pb)))
    (U : Upd pb (W.listOf its e) (W.listOf (its.push v) (e + 1)) news news') (hpb : (pb, W.listOf its e) ∈ news) (hz : its.size ≤ 1000)
    (ret : ∀ h' tk', Fr h₀ L h' m → News h₀ L h' news' → Q .none { s with heap := h', toks := tk' }) :
    wpAny (model PySem.Challenge.pw_xp0015_02 w) (ktrTop dp un gd cn cs L a ccd cl outer) (call (.ref 147) [.ref ln, v]) Q E s := by
  refine wpAny_call ?_
  k_dflt ktr_enter
  k_steps
  exact ret _ _ (by assumption) (by assumption)

set_option maxHeartbeats 4000000 in
theorem get_c {w : World} {p : Program} {loose : List Str} {mean : ExcName → Option Value} {mg mb : Str → Option Value}
    {dp un : Nat} {gd : Option (List Code)} {cn : Str} {cs : Scope} {a : Addr} {ccd : Value} {cl : List (Str × Addr)} {outer : List Env} {A₀ : Around} {base h₀ : Heap} {L : Addr} {m : Str → Option Value} {s : Shared}
    {Q E : Value → Shared → Prop} {news : List (Addr × Obj)}
    {news' : List (Addr × Obj)} {ln lnd pb : Addr} {x : Str} {t : Tok} {vs : List Value} {e n : Nat} {es : List DictEntry}
    (B : Below A₀ base outer h₀) (F : Fr h₀ L s.heap m) (X : (hd.heap_39 w.params).In h₀) (N : News h₀ L s.heap news) (T : Top p loose mean mg mb h₀) (hk : cs.kind = .function)
    (hd : dp + 10 < recursionLimit) (hu : un + 100 < cLine)
    (h1 : (ln, instObj 150 lnd) ∈ news) (h2 : (lnd, dictOf es n) ∈ news) (h3 : getL (Str.ofString "pushback") es = some (some (.ref pb)))
    (U : Upd pb (W.listOf (Value.str x t :: vs).toArray e) (W.listOf vs.toArray (e + 1)) news news') (hpb : (pb, W.listOf (Value.str x t :: vs).toArray e) ∈ news) (hz : vs.length ≤ 1000)
    (ret : ∀ h' tk', Fr h₀ L h' m → News h₀ L h' news' → Q (.str x t) { s with heap := h', toks := tk' }) :
    wpAny (model PySem.Challenge.pw_xp0015_02 w) (ktrTop dp un gd cn cs L a ccd cl outer) (call (.ref 140) [.ref ln]) Q E s := by
  refine wpAny_call ?_
  k_dflt ktr_enter
  k_steps
  exact ret _ _ (by assumption) (by assumption)

set_option maxHeartbeats 4000000 in
theorem qnew_c {w : World} {p : Program} {loose : List Str} {mean : ExcName → Option Value} {mg mb : Str → Option Value}
    {dp un : Nat} {gd : Option (List Code)} {cn : Str} {cs : Scope} {a : Addr} {ccd : Value} {cl : List (Str × Addr)} {outer : List Env} {A₀ : Around} {base h₀ : Heap} {L : Addr} {m : Str → Option Value} {s : Shared}
    {Q E : Value → Shared → Prop} {news : List (Addr × Obj)}
    {x : Str} {t : Tok}
    (B : Below A₀ base outer h₀) (F : Fr h₀ L s.heap m) (X : (hd.heap_39 w.params).In h₀) (N : News h₀ L s.heap news) (T : Top p loose mean mg mb h₀) (hk : cs.kind = .function)
    (hd : dp + 10 < recursionLimit) (hu : un + 100 < cLine)
    (ret : ∀ q dx es n h' tk', Fr h₀ L h' m → News h₀ L h' ((q, instObj 228 dx) :: (dx, dictOf es n) :: news) → getL (Str.ofString "text") es = some (some (.str x t)) → (∀ p ∈ news, p.1 < dx) → dx < q → Q (.ref q) { s with heap := h', toks := tk' }) :
    wpAny (model PySem.Challenge.pw_xp0015_02 w) (ktrTop dp un gd cn cs L a ccd cl outer) (call (.ref 228) [.str x t]) Q E s := by
  k_steps
  exact ret _ _ _ _ _ _ (by assumption) (by assumption) rfl (by assumption) (by assumption)





set_option maxHeartbeats 4000000 in
theorem push_c {w : World} {p : Program} {loose : List Str} {mean : ExcName → Option Value} {mg mb : Str → Option Value}
    {dp un : Nat} {gd : Option (List Code)} {cn : Str} {cs : Scope} {a : Addr} {ccd : Value} {cl : List (Str × Addr)} {outer : List Env} {A₀ : Around} {base h₀ : Heap} {L : Addr} {m : Str → Option Value} {s : Shared}
    {Q E : Value → Shared → Prop} {news : List (Addr × Obj)}
    {news' : Addr → List (Addr × Obj)} {pl d : Addr} {v u : Value} {its : Array Value} {e n : Nat} {es : List DictEntry}
    (B : Below A₀ base outer h₀) (F : Fr h₀ L s.heap m) (X : (hd.heap_39 w.params).In h₀) (N : News h₀ L s.heap news) (T : Top p loose mean mg mb h₀) (hk : cs.kind = .function)
    (hd : dp + 10 < recursionLimit) (hu : un + 100 < cLine)
    (h1 : (pl, accO 108 d its e) ∈ news) (h2 : (d, dictOf es n) ∈ news) (h3 : shadowIn (some (dictOf es n)) (Str.ofString "append") = some false) (hz : its.size ≤ sizeLine)
    (U : ∀ t, Upd pl (accO 108 d its e) (accO 108 d (its.push (.ref t)) (e + 1)) news (news' t))
    (ret : ∀ t h' tk', Fr h₀ L h' m → News h₀ L h' ((t, { cls := .type "tuple", data := .seq #[v, u] }) :: news' t) → (∀ p ∈ news, p.1 < t) → Q .none { s with heap := h', toks := tk' }) :
    wpAny (model PySem.Challenge.pw_xp0015_02 w) (ktrTop dp un gd cn cs L a ccd cl outer) (call (.ref 52) [.ref pl, v, u]) Q E s := by
  refine wpAny_call ?_
  k_dflt ktr_enter
  k_steps
  all_goals first | exact ret _ _ _ (by assumption) (by assumption) (by assumption) | skip

set_option maxHeartbeats 4000000 in
theorem pop_from_c {w : World} {p : Program} {loose : List Str} {mean : ExcName → Option Value} {mg mb : Str → Option Value}
    {dp un : Nat} {gd : Option (List Code)} {cn : Str} {cs : Scope} {a : Addr} {ccd : Value} {cl : List (Str × Addr)} {outer : List Env} {A₀ : Around} {base h₀ : Heap} {L : Addr} {m : Str → Option Value} {s : Shared}
    {Q E : Value → Shared → Prop} {news : List (Addr × Obj)}
    {news' : List (Addr × Obj)} {pl d : Addr} {its : Array Value} {e n : Nat} {es : List DictEntry} {j : Nat} {tj : Tok}
    (B : Below A₀ base outer h₀) (F : Fr h₀ L s.heap m) (X : (hd.heap_39 w.params).In h₀) (N : News h₀ L s.heap news) (T : Top p loose mean mg mb h₀) (hk : cs.kind = .function)
    (hd : dp + 10 < recursionLimit) (hu : un + 100 < cLine)
    (h1 : (pl, accO 108 d its e) ∈ news) (h2 : (d, dictOf es n) ∈ news) (hz : its.size ≤ sizeLine) (hj : j ≤ its.size)
    (U : Upd pl (accO 108 d its e) (accO 108 d (its.extract 0 j) (if j = its.size then e else e + 1)) news news')
    (ret : ∀ t h' tk', Fr h₀ L h' m → News h₀ L h' ((t, W.listOf (its.toList.drop j).toArray 0) :: news') → (∀ p ∈ news, p.1 < t) → Q (.ref t) { s with heap := h', toks := tk' }) :
    wpAny (model PySem.Challenge.pw_xp0015_02 w) (ktrTop dp un gd cn cs L a ccd cl outer) (call (.ref 60) [.ref pl, .int j tj]) Q E s := by
  refine wpAny_call ?_
  k_dflt ktr_enter
  k_steps
  rename News h₀ L _ (_ :: _ :: _) => N9
  rw [kms_from (l := its.toList) (i := j) (by simpa using hj)] at N9
  exact ret _ _ _ (by assumption) (fun q hq => N9 q (List.mem_cons_of_mem _ hq)) (by assumption)
end
section
def mT10 : Lean.MacroM (Lean.TSyntax `tactic) := do
  let t0 ← segT (← `(acc_superInit)) 5 4 "a2b2c:d:"
  `(tactic| (k_here; k_dflt ($t0:tactic); intro h' F' N'))
local macro_rules | `(tactic| walk_at "call ref") => mT10
section
def mT11 : Lean.MacroM (Lean.TSyntax `tactic) := do
  let t0 ← segT (← `(acc_superLen)) 4 3 "a2b:c:"
  `(tactic| (k_here; k_dflt ($t0:tactic)))
local macro_rules | `(tactic| walk_at "call ref") => mT11
section
def mT12 : Lean.MacroM (Lean.TSyntax `tactic) := do
  let t0 ← segT (← `(ks_code_super)) 18 13 "f0g0h1a2b2c2d2e2i3j3k4l5m7o6p0q0r0"
  `(tactic| ($t0:tactic; intro g' L' h' FG' F' N' B' X' T' l1; (try k_lt l1); (try dsimp only)))
local macro_rules | `(tactic| ks_enter) => mT12
section
def mT13 : Lean.MacroM (Lean.TSyntax `tactic) := do
  let t0 ← segT (← `(sup_methodB (owner := "list"))) 12 11 "a2b2c2d:e=f3gAhBi>j3k6"
  `(tactic| (k_here; k_dflt ($t0:tactic); intro q' h' F' N' l1; (try k_lt l1)))
local macro_rules | `(tactic| walk_at "getMethod ref") => mT13
section
def mT14 : Lean.MacroM (Lean.TSyntax `tactic) := do
  let t0 ← segT (← `(callWith_mw (env := ?env))) 3 2 "a2b:"
  `(tactic| (k_here; k_dflt ($t0:tactic)))
local macro_rules | `(tactic| walk_at "callWith ref") => mT14
-- CB_02
section
set_option maxHeartbeats 4000000 in
theorem pcount_c {w : World} {p : Program} {loose : List Str} {mean : ExcName → Option Value} {mg mb : Str → Option Value}
    {dp un : Nat} {gd : Option (List Code)} {cn : Str} {cs : Scope} {a : Addr} {ccd : Value} {cl : List (Str × Addr)} {outer : List Env} {A₀ : Around} {base h₀ : Heap} {L : Addr} {m : Str → Option Value} {s : Shared}
    {Q E : Value → Shared → Prop} {news : List (Addr × Obj)} {pl d : Addr} {its : Array Value} {e n : Nat} {es : List DictEntry}
    (B : Below A₀ base outer h₀) (F : Fr h₀ L s.heap m) (X : (hd.heap_39 w.params).In h₀) (N : News h₀ L s.heap news) (T : Top p loose mean mg mb h₀) (hk : cs.kind = .function)
    (hd : dp + 10 < recursionLimit) (hu : un + 100 < cLine)
    (h1 : (pl, accO 108 d its e) ∈ news) (h2 : (d, dictOf es n) ∈ news)
    (ret : ∀ h' tk' t, Fr h₀ L h' m → News h₀ L h' news → Q (.int its.size t) { s with heap := h', toks := tk' }) :
    wpAny (model PySem.Challenge.pw_xp0015_02 w) (ktrTop dp un gd cn cs L a ccd cl outer) (call (.ref 105) [.ref pl]) Q E s := by
  refine wpAny_call ?_
  k_dflt ks_enter
  k_steps
  rename News _ _ _ _ => N9
  exact ret _ _ _ (by assumption) (by first | exact N9 | exact fun p hp => N9 p (.tail _ (.tail _ hp)))
set_option maxHeartbeats 4000000 in
theorem anew_c {w : World} {p : Program} {loose : List Str} {mean : ExcName → Option Value} {mg mb : Str → Option Value}
    {dp un : Nat} {gd : Option (List Code)} {cn : Str} {cs : Scope} {a : Addr} {ccd : Value} {cl : List (Str × Addr)} {outer : List Env} {A₀ : Around} {base h₀ : Heap} {L : Addr} {m : Str → Option Value} {s : Shared}
    {Q E : Value → Shared → Prop} {news : List (Addr × Obj)}
    (B : Below A₀ base outer h₀) (F : Fr h₀ L s.heap m) (X : (hd.heap_39 w.params).In h₀) (N : News h₀ L s.heap news) (T : Top p loose mean mg mb h₀) (hk : cs.kind = .function)
    (hd : dp + 10 < recursionLimit) (hu : un + 100 < cLine)
    (ret : ∀ pl d es n h' tk', Fr h₀ L h' m → News h₀ L h' ((pl, accO 108 d #[] 0) :: (d, dictOf es n) :: news) → (∀ p ∈ news, p.1 < d) → d < pl → shadowIn (some (dictOf es n)) (Str.ofString "append") = some false → shadowIn (some (dictOf es n)) (Str.ofString "part_count") = some false → shadowIn (some (dictOf es n)) (Str.ofString "pop_from") = some false → shadowIn (some (dictOf es n)) (Str.ofString "push") = some false → (∃ t0, getL (Str.ofString "_initial_size") es = some (some (.int 0 t0))) → Q (.ref pl) { s with heap := h', toks := tk' }) :
    wpAny (model PySem.Challenge.pw_xp0015_02 w) (ktrTop dp un gd cn cs L a ccd cl outer) (call (.ref 108) []) Q E s := by
  refine call_clsL F X N (by kernel_rfl) (by k_is) (by k_is) ?_
  intro x d h' F1 N1 l1 l2
  k_dflt ks_enter
  k_steps
  k_dflt (refine' acc_setAttr ?k1 ?k2 ?k3 ?k4 ?k5 ?k6 ?k7 ?k8 ?k9 ?k10 ?k11 ?k12 ?_)
  (case k1 => k_asm); (case k2 => k_asm); (case k3 => k_asm); (case k4 => k_mem); (case k5 => k_is); (case k6 => kernel_rfl); (case k7 => k_is); (case k8 => kernel_rfl)
  case k10 => exact Upd.tail (Nat.ne_of_gt l2) (Upd.head fun p hp => Nat.ne_of_lt (l1 p hp))
  case k9 => rfl
  case k11 => k_put
  case k12 => exact Nat.le_of_ble_eq_true rfl
  intro h' F' N'
  dsimp only
  refine ks_wpAt_execs_cons ?_
  refine ks_wpAt_Expr_any ?_
  ks_step "eval Call"
  refine ks_wpAt_MethodCall ?_
  ks_step "attributeBase Call"
  k_dflt (refine ks_node (by k_asm) (by k_asm) (by k_asm) (by k_asm) (by k_is) (by rfl) (by rfl) (by k_inst) (by k_is) (by rfl) (by first | rfl | decide +kernel) (by k_is) (by k_is) (by k_is) (by k_is) (by decide) (by rfl) (by rfl) (by rfl) (by rfl) (by decide +kernel) (by first | boot_by_name | rfl | kernel_rfl) ?_)
  intro so' h' F' N' l1
  k_steps
  rename News _ _ _ _ => N9
  exact ret _ _ _ _ _ _ (by assumption) (fun p hp => N9 p (.tail _ (.tail _ hp))) (by assumption) (by assumption) rfl rfl rfl rfl ⟨_, rfl⟩
end
end
end
end
end
end
section
open PyProof.Rows.LCg
section
def mT15 : Lean.MacroM (Lean.TSyntax `tactic) := do
  let s0 ← shT 60
  let s1 ← shT 52
  let s2 ← shT 108
  let s3 ← shT 105
  let s4 ← shT 228
  let t0 ← segT (← `(anew_c)) 9 8 "a2b2c1d2e2f1g4hC"
  let t1 ← segT (← `(pcount_c (pl := ?pl) (d := ?d))) 11 10 "a2b2c1d2e2f1g4hCi:j:"
  let t2 ← segT (← `(qnew_c)) 9 8 "a2b2c1d2e2f1g4hC"
  `(tactic| (k_here; first
  | ($s0:tactic; refine Hold.out ?_)
  | ($s1:tactic; refine Hold.out ?_)
  | (($s2:tactic; k_dflt ($t0:tactic); intro pl9 d9 es9 n9 h9 tk9 F9 N9 l8 l9 sh9 sh8 sh7 sh6 sh5; (try k_sweep)))
  | (($s3:tactic; k_dflt ($t1:tactic); intro h9 tk9 t9 F9 N9; (try k_sweep)))
  | (($s4:tactic; k_dflt ($t2:tactic); intro q9 dx9 es9 n9 h9 tk9 F9 N9 g9 l8 l9; (try k_sweep)))))
local macro_rules | `(tactic| walk_at "call ref") => mT15
section
local macro_rules | `(tactic| walk_at "eval ListComp") => `(tactic| (k_here; refine Hold.out ?_))
section
local macro_rules | `(tactic| walk_at "exec While") => `(tactic| (k_here; refine Hold.out ?_))
section
def mT16 : Lean.MacroM (Lean.TSyntax `tactic) := `(tactic| (k_here; (rename Fr _ _ _ _ => lF'); (with_unfolding_all refine' For_turns lF' ?_); k_whole))
local macro_rules | `(tactic| walk_at "exec For Tuple Name cons nil") => mT16
section
local macro_rules | `(tactic| walk_at "exec For Name Name cons nil") => mT16
section
def mT17 : Lean.MacroM (Lean.TSyntax `tactic) := `(tactic| refine ldn (by assumption) (by first | rfl | assumption) ?_)
local macro_rules | `(tactic| walk_at "loadName") => mT17
section
def mT18 : Lean.MacroM (Lean.TSyntax `tactic) := do
  let t0 ← segT (← `(method_subF)) 9 8 "a<b=c3d>e3f3g3h;"
  `(tactic| (k_here; k_dflt ($t0:tactic; k_whole)))
local macro_rules | `(tactic| walk_at "getMethod ref") => mT18
section
def mT19 : Lean.MacroM (Lean.TSyntax `tactic) := do
  let t0 ← segT (← `(ld)) 3 2 "a2b1"
  `(tactic| (k_here; k_dflt ($t0:tactic; k_whole)))
local macro_rules | `(tactic| walk_at "eval Name") => mT19
-- AL_02
section
set_option maxHeartbeats 4000000 in
theorem along_c {w : World} {p : Program} {loose : List Str} {mean : ExcName → Option Value} {mg mb : Str → Option Value}
    {dp un : Nat} {gd : Option (List Code)} {cn : Str} {cs : Scope} {a : Addr} {ccd : Value} {cl : List (Str × Addr)} {outer : List Env} {A₀ : Around} {base h₀ : Heap} {L : Addr} {m : Str → Option Value} {s : Shared}
    {Q E : Value → Shared → Prop} {news : List (Addr × Obj)}
    {nm : Nat → Str} {row : Addr} {vr : List Value} {er : Nat} {ns : List Nat}
    (hnm : Rises nm 16) (hR : RT nm vr ns) (hcs : ∀ c ∈ ns, c < 16) (hlen : ns.length ≤ 16)
    (B : Below A₀ base outer h₀) (F : Fr h₀ L s.heap m) (X : (hd.heap_39 w.params).In h₀) (N : News h₀ L s.heap news) (T : Top p loose mean mg mb h₀) (hk : cs.kind = .function)
    (hd : dp + 20 < recursionLimit) (hu : un + 200 < cLine)
    (hm : (row, W.listOf vr.toArray er) ∈ news)
    (ret : ∀ D ys h' tk', RT nm ys (along ns) → Fr h₀ L h' m → News h₀ L h' ((D, lst ys) :: news) → (∀ p ∈ news, p.1 ≠ D) → Q (.ref D) { s with heap := h', toks := tk' }) :
    wpAny (model PySem.Challenge.pw_xp0015_02 w) (ktrTop dp un gd cn cs L a ccd cl outer) (call (.ref 249) [.ref row]) Q E s := by
  refine wpAny_call ?_
  k_dflt ktr_enter
  rename_i g' L' h' FG' F' N' B' X' T'
  k_steps
  rename Fr _ _ _ _ => F3
  rename News _ _ _ _ => N3
  rename_i pl d es n h3 tk3 l8 l9 sh sh8 sh7 sh6 sh5 h4
  obtain ⟨m3, F4, hp3⟩ := fr_facts (fun m => m (Str.ofString "pile") = some (.ref pl)) F3 (by rfl)
  clear F3
  refine turns_list (J := fun i m nx => m (Str.ofString "pile") = some (.ref pl) ∧ ∃ vs e tl, nx = (pl, accO 108 d vs.toArray e) :: tl ∧ PT nm tl vs (along (ns.take i)) ∧ (∀ p ∈ (d, dictOf es n) :: news, p ∈ tl) ∧ (∀ p ∈ tl, p.1 ≠ pl))
    (by rfl) F4 N3 (.tail _ (.tail _ hm)) ⟨hp3, [], 0, _, rfl, PT.nil, fun p hp => hp, ?off⟩ ?hJ ?turn ?done
  case off =>
    intro p hp
    rcases List.mem_cons.mp hp with rfl | hp
    · exact Nat.ne_of_lt l9
    · exact Nat.ne_of_lt (Nat.lt_trans (l8 p hp) l9)
  case hJ =>
    rintro i m nx ⟨_, vs, e, tl, rfl, _, hsub, _⟩
    exact .tail _ (hsub _ (.tail _ hm))
  case turn =>
    intro i v m5 nx5 h5 tk5 It oI hv hJ hIt hoff F5 N5
    obtain ⟨hp5, vs, e, tl, rfl, hT, hsub, hne⟩ := hJ
    obtain ⟨c, t, hc, rfl⟩ := hR.at hv
    have hd5 : (d, dictOf es n) ∈ tl := hsub _ (.head _)
    k_steps
    rename Fr _ _ _ _ => F6
    rename News _ _ _ _ => N6
    rename_i h20 tk20 q dx eq nq h21 tk21 gq lq1 lq2 h22 h23 tk23 t9 h24
    have hz : vs.length ≤ 16 := by
      have h1 := hT.1
      rw [along_length, List.length_take] at h1
      omega
    obtain ⟨m6, F7, hmk, hpl, hwd, hkk, hrow⟩ := fr_facts (fun m => m (Str.ofString "mark") = some (.ref q) ∧ m (Str.ofString "pile") = some (.ref pl) ∧ m (Str.ofString "word") = some (.str (nm c) t) ∧ m (Str.ofString "k") = some (.int vs.length t9) ∧ True) F6 ⟨by rfl, by exact hp5, by rfl, by rfl, trivial⟩
    clear F6
    have hws : ∀ x ∈ along (ns.take i), x < 16 := fun x hx => hcs x (List.mem_of_mem_take ((along_mem _ _).mp hx))
    have hc16 : c < 16 := hcs c (List.mem_of_getElem? hc)
    refine Hold.mk ?_
    refine While_to (J := fun k m nx => (∀ z, z ≠ Str.ofString "k" → m z = m6 z) ∧ (∃ t, m (Str.ofString "k") = some (.int (k : Int) t)) ∧ nx = (q, instObj 228 dx) :: (dx, dictOf eq nq) :: (It, oI) :: (pl, accO 108 d vs.toArray e) :: tl ∧ k ≤ vs.length ∧ cutAt c (along (ns.take i)) vs.length = cutAt c (along (ns.take i)) k)
      (Done := fun m nx => (∀ z, z ≠ Str.ofString "k" → m z = m6 z) ∧ (∃ t, m (Str.ofString "k") = some (.int (cutAt c (along (ns.take i)) vs.length : Nat) t)) ∧ nx = (q, instObj 228 dx) :: (dx, dictOf eq nq) :: (It, oI) :: (pl, accO 108 d vs.toArray e) :: tl)
      F7 N6 ⟨fun _ _ => rfl, ⟨_, hkk⟩, rfl, Nat.le_refl _, rfl⟩ ?turn2 ?done2
    case turn2 =>
      intro k m7 nx7 h7 tk7 F7 N7 hJ
      obtain ⟨hag, ⟨tk', hk7⟩, rfl, hkl, hcut⟩ := hJ
      have hmk7 : m7 (Str.ofString "mark") = some (.ref q) := (hag _ (by decide)).trans hmk
      have hpl7 : m7 (Str.ofString "pile") = some (.ref pl) := (hag _ (by decide)).trans hpl
      cases k with
      | zero =>
        k_steps
        exact Left.intro F7 N7 ⟨hag, ⟨_, by rw [hcut]; exact hk7⟩, rfl⟩
      | succ k =>
        obtain ⟨v, hv, tt, tb, tw, rfl, hmt⟩ := hT.at (i := k) (by rw [← hT.1]; omega)
        generalize hcc : (along (ns.take i))[k]'(by rw [← hT.1]; omega) = c' at hmt
        have hc'16 : c' < 16 := hcc ▸ hws _ (List.getElem_mem _)
        have hlt := hnm c c' hc16 hc'16
        have hgd : (along (ns.take i)).getD k 0 = c' := by
          rw [List.getD_eq_getElem?_getD, List.getElem?_eq_getElem (by rw [← hT.1]; omega), hcc]; rfl
        k_steps
        k_dflt (refine' acc_item (v := .ref tt) ?F ?X ?N ?h1 ?h2 ?s1 ?s2 ?s3 ?h0 ?hf ?hx ?_)
        (case F => k_asm); (case X => assumption); (case N => k_asm); (case h1 => k_mem); (case h2 => k_mem); (case s1 => k_is); (case s2 => k_is); (case s3 => k_is)
        case h0 => omega
        case hf => omega
        case hx => rw [show ((k + 1 : Nat) : Int) - 1 = (k : Int) by omega]; simpa using hv
        k_steps
        · rename (nm c).cps.toList < (nm c').cps.toList => hlt'
          have hcc' : c < c' := by rw [decide_eq_true hlt'] at hlt; exact of_decide_eq_true hlt.symm
          refine WhileStep.intro (by assumption) (by assumption) (Nat.lt_succ_self k) ⟨fun z hz => (if_neg hz).trans (hag z hz), ?_, rfl, by omega, ?_⟩
          · have e1 : ((k + 1 : Nat) : Int) - 1 = (k : Int) := by omega
            rw [← e1]
            exact ⟨_, if_pos rfl⟩
          · rw [hcut, cutAt, hgd, if_pos hcc']
        · rename ¬ (nm c).cps.toList < (nm c').cps.toList => hlt'
          have hcc' : ¬ c < c' := by rw [decide_eq_false hlt'] at hlt; exact of_decide_eq_false hlt.symm
          refine Left.intro (by assumption) (by assumption) ⟨hag, ⟨tk', ?_⟩, rfl⟩
          rw [hcut, cutAt, hgd, if_neg hcc']
          exact hk7
    case done2 =>
      intro m8 nx8 h8 tk8 F8 N8 hD
      obtain ⟨hag, ⟨tk', hk8⟩, rfl⟩ := hD
      generalize hcut : cutAt c (along (ns.take i)) vs.length = cut at hk8
      have hcl : cut ≤ vs.length := hcut ▸ cutAt_le _ _ _
      have hpl8 : m8 (Str.ofString "pile") = some (.ref pl) := (hag _ (by decide)).trans hpl
      have hwd8 : m8 (Str.ofString "word") = some (.str (nm c) t) := (hag _ (by decide)).trans hwd
      have hIpl : It ≠ pl := fun e => hoff _ (.head _) e.symm
      have hdpl : dx ≠ pl := Nat.ne_of_gt (lq1 _ (.tail _ (.head _)))
      have hqpl : q ≠ pl := Nat.ne_of_gt (Nat.lt_trans (lq1 _ (.tail _ (.head _))) lq2)
      have hdI : dx ≠ It := Nat.ne_of_gt (lq1 _ (.head _))
      have hqI : q ≠ It := Nat.ne_of_gt (Nat.lt_trans (lq1 _ (.head _)) lq2)
      k_steps
      refine Hold.mk ?_
      k_dflt (refine' pop_from_c (news' := (q, instObj 228 dx) :: (dx, dictOf eq nq) :: (It, oI) :: (pl, accO 108 d (vs.toArray.extract 0 cut) (if cut = vs.toArray.size then e else e + 1)) :: tl) (j := cut) (its := vs.toArray) (e := e) (es := es) ?kB ?kF ?kX ?kN ?kT ?kk ?kd ?ku ?h1 ?h2 ?hz ?hj ?U ?_)
      (case kB => k_asm); (case kF => k_asm); (case kX => assumption); (case kN => k_asm); (case kT => k_asm); (case kk => exact rfl); (case kd => ktr_room); (case ku => ktr_units); (case h1 => k_mem); (case h2 => k_mem)
      case hz => simp [sizeLine_eq]; omega
      case hj => simpa using hcl
      case U => exact Upd.tail hqpl (Upd.tail hdpl (Upd.tail hIpl (Upd.head hne)))
      intro rl h9 tk9 F9 N9 l9
      have hrlI : rl ≠ It := Nat.ne_of_gt (l9 _ (.tail _ (.tail _ (.head _))))
      have hrlp : rl ≠ pl := Nat.ne_of_gt (l9 _ (.tail _ (.tail _ (.tail _ (.head _)))))
      k_steps
      refine Hold.mk ?_
      k_dflt (refine' push_c (news' := fun tt => (rl, W.listOf (vs.toArray.toList.drop cut).toArray 0) :: (q, instObj 228 dx) :: (dx, dictOf eq nq) :: (It, oI) :: (pl, accO 108 d ((vs.toArray.extract 0 cut).push (.ref tt)) ((if cut = vs.toArray.size then e else e + 1) + 1)) :: tl) ?kB ?kF ?kX ?kN ?kT ?kk ?kd ?ku ?h1 ?h2 ?h3 ?hz ?U ?_)
      (case kB => k_asm); (case kF => k_asm); (case kX => assumption); (case kN => k_asm); (case kT => k_asm); (case kk => exact rfl); (case kd => ktr_room); (case ku => ktr_units); (case h1 => k_mem); (case h2 => k_mem); (case h3 => assumption)
      case hz => simp [sizeLine_eq]; omega
      case U => exact fun _ => Upd.tail hrlp (Upd.tail hqpl (Upd.tail hdpl (Upd.tail hIpl (Upd.head hne))))
      intro tt h10 tk10 F10 N10 l10
      k_steps
      rename Fr _ _ _ _ => F11
      rename News _ _ _ _ => N11
      have htI : tt ≠ It := Nat.ne_of_gt (l10 _ (.tail _ (.tail _ (.tail _ (.head _)))))
      have htp : tt ≠ pl := Nat.ne_of_gt (l10 _ (.tail _ (.tail _ (.tail _ (.tail _ (.head _))))))
      obtain ⟨m9, F12, hpl9⟩ := fr_facts (fun m => m (Str.ofString "pile") = some (.ref pl)) F11 (by exact hpl8)
      clear F11
      have eP : ((vs.toArray.extract 0 cut).push (Value.ref tt)) = (vs.take cut ++ [Value.ref tt]).toArray := by
        apply Array.ext'; simp [List.extract_eq_drop_take]
      rw [eP] at N11
      generalize ((if cut = vs.toArray.size then e else e + 1) + 1) = e1 at N11
      obtain ⟨tkb, N12⟩ : ∃ tkb, News g' L' h10 ((It, oI) :: (pl, accO 108 d (vs.take cut ++ [Value.ref tt]).toArray e1) :: (tt, tupO (.str (Str.ofString " ") tkb) (.str (nm c) t)) :: (rl, W.listOf (vs.drop cut).toArray 0) :: tl) := ⟨_, fun p hp => N11 p (by
        simp only [List.mem_cons] at hp ⊢
        rcases hp with h | h | h | h | h
        · exact .inr (.inr (.inr (.inr (.inl h))))
        · exact .inr (.inr (.inr (.inr (.inr (.inl h)))))
        · exact .inl h
        · exact .inr (.inl h)
        · exact .inr (.inr (.inr (.inr (.inr (.inr h))))))⟩
      refine turns_list (l := rl) (vs := vs.drop cut) (J := fun j m nx => m (Str.ofString "pile") = some (.ref pl) ∧ ∃ us e3 tl3, nx = (It, oI) :: (pl, accO 108 d us.toArray e3) :: tl3 ∧ PT nm tl3 us ((along (ns.take i)).take cut ++ [c] ++ ((along (ns.take i)).drop cut).take j) ∧ (∀ p ∈ tl, p ∈ tl3) ∧ (rl, W.listOf (vs.drop cut).toArray 0) ∈ tl3 ∧ (∀ p ∈ tl3, p.1 ≠ pl) ∧ (∀ p ∈ tl3, p.1 ≠ It))
        (by rfl) F12 N12 (by k_mem) ⟨hpl9, vs.take cut ++ [Value.ref tt], e1, _, rfl, by
            rw [List.take_zero, List.append_nil]
            exact ((hT.take cut).mono fun p hp => .tail _ (.tail _ hp)).push ⟨tt, tkb, t, rfl, .head _⟩, fun p hp => .tail _ (.tail _ hp), .tail _ (.head _), by
            intro p hp
            rcases List.mem_cons.mp hp with rfl | hp
            · exact htp
            · rcases List.mem_cons.mp hp with rfl | hp
              · exact hrlp
              · exact hne p hp, by
            intro p hp
            rcases List.mem_cons.mp hp with rfl | hp
            · exact htI
            · rcases List.mem_cons.mp hp with rfl | hp
              · exact hrlI
              · exact hoff p (.tail _ hp)⟩ ?hJ3 ?turn3 ?done3
      case hJ3 =>
        rintro j m nx ⟨_, us, e3, tl3, rfl, _, _, hm3, _⟩
        exact .tail _ (.tail _ hm3)
      case done3 =>
        intro m13 nx13 h13 tk13 hJ F13 N13
        obtain ⟨hp13, us, e3, tl3, rfl, hT3, hs3, hm3, hp3, hI3⟩ := hJ
        k_steps
        refine TurnQ.next (nx₂ := (pl, accO 108 d us.toArray e3) :: tl3) (by assumption) (by assumption) ?_ ⟨hp13, us, e3, tl3, rfl, ?_, fun p hp => hs3 p (hsub p hp), hp3⟩
        · intro p hp
          rcases List.mem_cons.mp hp with rfl | hp
          · exact Ne.symm hIpl
          · exact hI3 p hp
        · rw [take_snoc hc, along_snoc, ins, ← hT.1, hcut]
          have hl : ((along (ns.take i)).drop cut).take (vs.drop cut).length = (along (ns.take i)).drop cut := by
            rw [(hT.drop cut).1, List.take_length]
          rw [← hl]; exact hT3
      case turn3 =>
        intro j v3 m13 nx13 h13 tk13 It2 oI2 hv3 hJ hIt2 hoff2 F13 N13
        obtain ⟨hp13, us, e3, tl3, rfl, hT3, hs3, hm3, hp3, hI3⟩ := hJ
        have hjl : j < ((along (ns.take i)).drop cut).length := by
          rw [← (hT.drop cut).1]
          rcases Nat.lt_or_ge j (vs.drop cut).length with h | h
          · exact h
          · rw [List.getElem?_eq_none h] at hv3; cases hv3
        obtain ⟨t3, tb3, tw3, rfl, hmt3⟩ := (hT.drop cut).2 j v3 _ hv3 (List.getElem?_eq_getElem hjl)
        have hmt4 := hs3 _ hmt3
        have hd3 : (d, dictOf es n) ∈ tl3 := hs3 _ hd5
        k_steps
        rename News _ _ _ _ => N14
        have hl3 : us.length ≤ 40 := by
          have := hT3.1
          simp only [List.length_append, List.length_take, List.length_drop, List.length_singleton, along_length] at this
          omega
        have hI2p : It2 ≠ pl := fun e => hoff2 _ (.tail _ (.head _)) e.symm
        refine Hold.mk ?_
        k_dflt (refine' push_c (pl := pl) (d := d) (its := us.toArray) (e := e3) (news' := fun tt => (It2, oI2) :: (It, oI) :: (pl, accO 108 d (us.toArray.push (.ref tt)) (e3 + 1)) :: tl3) ?kB ?kF ?kX ?kN ?kT ?kk ?kd ?ku ?h1 ?h2 ?h3 ?hz ?U ?_)
        (case kB => k_asm); (case kF => k_asm); (case kX => assumption); (case kN => k_asm); (case kT => k_asm); (case kk => exact rfl); (case kd => ktr_room); (case ku => ktr_units); (case h1 => k_mem); (case h2 => k_mem); (case h3 => assumption)
        case hz => simp [sizeLine_eq]; omega
        case U => exact fun _ => Upd.tail hI2p (Upd.tail hIpl (Upd.head hp3))
        intro tt2 h15 tk15 F15 N15 l15
        k_steps
        have ht2I2 : tt2 ≠ It2 := Nat.ne_of_gt (l15 _ (.head _))
        have ht2I : tt2 ≠ It := Nat.ne_of_gt (l15 _ (.tail _ (.head _)))
        have ht2p : tt2 ≠ pl := Nat.ne_of_gt (l15 _ (.tail _ (.tail _ (.head _))))
        rw [show us.toArray.push (Value.ref tt2) = (us ++ [Value.ref tt2]).toArray by simp] at N15
        refine TurnQ.next (nx₂ := (It, oI) :: (pl, accO 108 d (us ++ [Value.ref tt2]).toArray (e3 + 1)) :: (tt2, tupO (.str (Str.ofString " ") tb3) (.str (nm ((along (ns.take i)).drop cut)[j]) tw3)) :: tl3) (by assumption) (fun p hp => N15 p (by
          simp only [List.mem_cons] at hp ⊢
          rcases hp with h | h | h | h | h
          · exact .inr (.inl h)
          · exact .inr (.inr (.inl h))
          · exact .inr (.inr (.inr (.inl h)))
          · exact .inl h
          · exact .inr (.inr (.inr (.inr h))))) ?_ ⟨?hp, us ++ [Value.ref tt2], e3 + 1, _, rfl, ?_, fun p hp => .tail _ (hs3 p hp), .tail _ hm3, ?_, ?_⟩
        case hp => exact hp13
        · intro p hp
          simp only [List.mem_cons] at hp
          rcases hp with rfl | rfl | rfl | hp
          · exact hoff2 _ (.head _)
          · exact Ne.symm hI2p
          · exact ht2I2
          · exact hoff2 p (.tail _ (.tail _ hp))
        · rw [take_snoc (List.getElem?_eq_getElem hjl), ← List.append_assoc]
          exact (hT3.mono fun p hp => .tail _ hp).push ⟨tt2, tb3, tw3, rfl, .head _⟩
        · intro p hp
          rcases List.mem_cons.mp hp with rfl | hp
          · exact ht2p
          · exact hp3 p hp
        · intro p hp
          rcases List.mem_cons.mp hp with rfl | hp
          · exact ht2I
          · exact hI3 p hp
  case done =>
    intro m5 nx5 h5 tk5 hJ F5 N5
    obtain ⟨hp5, vs, e, tl, rfl, hT, hsub, hne⟩ := hJ
    rw [hR.1, List.take_length] at hT
    have hd5 : (d, dictOf es n) ∈ tl := hsub _ (.head _)
    have hz : vs.length ≤ 16 := by rw [hT.1, along_length]; exact hlen
    k_steps
    refine Hold.mk ?_
    k_dflt (refine' names_A (p := pl) (d := d) (e := e) (od := dictOf es n) (cs := along ns) (vs := vs) (nm := nm) ?kF ?kX ?kN ?h1 ?h2 ?hT ?s1 ?s2 ?hz rfl ?hclos ?hcell rfl ?hnames rfl rfl ?hxx ?hkd rfl ?hi ?_)
    (case kF => k_asm); (case kX => assumption); (case kN => k_asm); (case h1 => k_mem); (case h2 => k_mem)
    case hT => exact hT.mono fun p hp => .tail _ hp
    case s1 => k_is
    case s2 => k_is
    case hz => simp [sizeLine_eq]; omega
    case hclos => with_unfolding_all rfl
    case hcell => decide
    case hnames => decide
    case hxx => decide
    case hkd => exact fun _ => ⟨rfl, rfl⟩
    case hi =>
      k_steps
    intro D ys h9 tk9 hY F9 N9 o9
    k_steps
    rename News _ _ _ _ => N10
    exact ret _ ys _ _ hY (by assumption) (fun p hp => N10 p (by
      rcases List.mem_cons.mp hp with rfl | hp
      · exact .head _
      · exact .tail _ (.tail _ (hsub p (.tail _ hp))))) fun p hp => o9 p (.tail _ (hsub p (.tail _ hp)))
end
end
end
end
end
end
end
end
end
end
end
end
end
end
end
section
open PyProof.Rows.LCg
section
def mT20 : Lean.MacroM (Lean.TSyntax `tactic) := do
  let s0 ← shT 140
  let s1 ← shT 147
  let s2 ← shT 150
  let s3 ← shT 228
  let t0 ← segT (← `(lnew_c)) 9 8 "a2b2c1d2e2f1g4hC"
  let t1 ← segT (← `(qnew_c)) 9 8 "a2b2c1d2e2f1g4hC"
  `(tactic| (k_here; first
  | ($s0:tactic; refine Hold.out ?_)
  | ($s1:tactic; refine Hold.out ?_)
  | (($s2:tactic; k_dflt ($t0:tactic); intro ln9 lnd9 pb9 es9 n9 h9 tk9 F9 N9 g9 g8 g7 l7 l8 l9; (try k_sweep)))
  | (($s3:tactic; k_dflt ($t1:tactic); intro q9 dx9 es9 n9 h9 tk9 F9 N9 g9 l8 l9; (try k_sweep)))))
local macro_rules | `(tactic| walk_at "call ref") => mT20
section
def mT21 : Lean.MacroM (Lean.TSyntax `tactic) := `(tactic| (k_here; (fail_if_success have hm9 : Mark := by assumption); refine Hold.out ?_))
local macro_rules | `(tactic| walk_at "exec If") => mT21
section
local macro_rules | `(tactic| walk_at "exec For Name Name cons nil") => mT16
section
local macro_rules | `(tactic| walk_at "exec For Name Call cons nil") => mT16
section
def mT22 : Lean.MacroM (Lean.TSyntax `tactic) := do
  let t0 ← segT (← `(KM.len_K (n := 4))) 5 4 "a2b:c;d6"
  `(tactic| (k_here; (with_reducible show wpAny _ _ (call (Value.builtin "len") [Value.ref _]) _ _ _); k_dflt ($t0:tactic; k_whole)))
local macro_rules | `(tactic| walk_at "call builtin:len") => mT22
section
local macro_rules | `(tactic| walk_at "loadName") => mT17
section
local macro_rules | `(tactic| walk_at "eval Name") => mT19
-- DN_02
section
set_option maxHeartbeats 4000000 in
theorem down_c {w : World} {p : Program} {loose : List Str} {mean : ExcName → Option Value} {mg mb : Str → Option Value}
    {dp un : Nat} {gd : Option (List Code)} {cn : Str} {cs : Scope} {a : Addr} {ccd : Value} {cl : List (Str × Addr)} {outer : List Env} {A₀ : Around} {base h₀ : Heap} {L : Addr} {m : Str → Option Value} {s : Shared}
    {Q E : Value → Shared → Prop} {news : List (Addr × Obj)}
    {nm : Nat → Str} {col : Addr} {vr : List Value} {er : Nat} {ns : List Nat}
    (hnm : Rises nm 16) (hR : RT nm vr ns) (hcs : ∀ c ∈ ns, c < 16) (hlen : ns.length = 4)
    (B : Below A₀ base outer h₀) (F : Fr h₀ L s.heap m) (X : (hd.heap_39 w.params).In h₀) (N : News h₀ L s.heap news) (T : Top p loose mean mg mb h₀) (hk : cs.kind = .function)
    (hd : dp + 20 < recursionLimit) (hu : un + 200 < cLine)
    (hm : (col, W.listOf vr.toArray er) ∈ news)
    (ret : ∀ D ys e h' tk', RT nm ys (down ns) → Fr h₀ L h' m → News h₀ L h' ((D, W.listOf ys.toArray e) :: news) → (∀ p ∈ news, p.1 ≠ D) → Q (.ref D) { s with heap := h', toks := tk' }) :
    wpAny (model PySem.Challenge.pw_xp0015_02 w) (ktrTop dp un gd cn cs L a ccd cl outer) (call (.ref 261) [.ref col]) Q E s := by
  refine wpAny_call ?_
  k_dflt ktr_enter
  rename_i g' L' h' FG' F' N' B' X' T'
  k_steps
  rename Fr _ _ _ _ => F3
  rename News _ _ _ _ => N3
  rename_i ln lnd pb es n h3 tk3 g3 gpu gge l7 l8 l9 h4
  have hvl : vr.length = 4 := hR.1.trans hlen
  have hlp : ∀ p ∈ (ln, instObj 150 lnd) :: (lnd, dictOf es n) :: news, p.1 ≠ pb := by
    intro p hp
    rcases List.mem_cons.mp hp with rfl | hp
    · exact Nat.ne_of_lt l9
    · rcases List.mem_cons.mp hp with rfl | hp
      · exact Nat.ne_of_lt (Nat.lt_trans l8 l9)
      · exact Nat.ne_of_lt (Nat.lt_trans (l7 p hp) (Nat.lt_trans l8 l9))
  obtain ⟨m3, F4, hln3, hcl3⟩ := fr_facts (fun m => m (Str.ofString "line") = some (.ref ln) ∧ m (Str.ofString "column") = some (.ref col)) F3 ⟨by rfl, by rfl⟩
  clear F3
  refine turns_list (J := fun i m nx => (∀ z, z ≠ Str.ofString "word" → m z = m3 z) ∧ ∃ e, nx = (pb, W.listOf (vr.take i).toArray e) :: (ln, instObj 150 lnd) :: (lnd, dictOf es n) :: news)
    (by rfl) F4 N3 (.tail _ (.tail _ (.tail _ hm))) ⟨fun _ _ => rfl, 0, rfl⟩ ?hJ1 ?turn1 ?done1
  case hJ1 =>
    rintro i m nx ⟨_, e, rfl⟩
    exact .tail _ (.tail _ (.tail _ hm))
  case turn1 =>
    intro i v m5 nx5 h5 tk5 It oI hv hJ hIt hoff F5 N5
    obtain ⟨hag, e, rfl⟩ := hJ
    have hln5 : m5 (Str.ofString "line") = some (.ref ln) := (hag _ (by decide)).trans hln3
    have hIpb : It ≠ pb := fun e => hoff _ (.head _) e.symm
    k_steps
    refine Hold.mk ?_
    k_dflt (refine' put_c (v := v) (its := (vr.take i).toArray) (e := e) (news' := (It, oI) :: (pb, W.listOf (vr.take (i + 1)).toArray (e + 1)) :: (ln, instObj 150 lnd) :: (lnd, dictOf es n) :: news) ?kB ?kF ?kX ?kN ?kT ?kk ?kd ?ku ?h1 ?h2 ?h3 ?U ?h4 ?hz ?_)
    (case kB => k_asm); (case kF => k_asm); (case kX => assumption); (case kN => k_asm); (case kT => k_asm); (case kk => exact rfl); (case kd => ktr_room); (case ku => ktr_units); (case h1 => k_mem); (case h2 => k_mem); (case h3 => assumption); (case h4 => k_mem)
    case hz => simp; omega
    case U =>
      have : (vr.take i).toArray.push v = (vr.take (i + 1)).toArray := by rw [List.take_succ, hv]; simp
      rw [this]
      exact Upd.tail hIpb (Upd.head hlp)
    intro h6 tk6 F6 N6
    k_steps
    refine TurnQ.next (nx₂ := (pb, W.listOf (vr.take (i + 1)).toArray (e + 1)) :: (ln, instObj 150 lnd) :: (lnd, dictOf es n) :: news) (by assumption) (by assumption) ?_ ⟨fun z hz => (if_neg hz).trans (hag z hz), _, rfl⟩
    intro p hp
    rcases List.mem_cons.mp hp with rfl | hp
    · exact Ne.symm hIpb
    · exact hoff p (.tail _ hp)
  case done1 =>
    intro m5 nx5 h5 tk5 hJ F5 N5
    obtain ⟨hag, e, rfl⟩ := hJ
    rw [List.take_length] at N5
    have hln5 : m5 (Str.ofString "line") = some (.ref ln) := (hag _ (by decide)).trans hln3
    have hcl5 : m5 (Str.ofString "column") = some (.ref col) := (hag _ (by decide)).trans hcl3
    have hsz : vr.toArray.size = 4 := by simpa using hvl
    k_steps
    rename IsRange _ _ _ _ _ _ _ _ => hr
    rename Fr _ _ _ _ => F6
    rename News _ _ _ _ => N6
    rename_i tol h10 F10 N10 l10 h11 F11 N11 h12 tk12 t1 u1 v1 hkeep
    obtain ⟨l10a, l10b, l10c, l10d⟩ := l10
    have hpt : pb ≠ tol := Nat.ne_of_lt l10a
    obtain ⟨m6, F7, hln6, htl6, hcl6⟩ := fr_facts (fun m => m (Str.ofString "line") = some (.ref ln) ∧ m (Str.ofString "told") = some (.ref tol) ∧ m (Str.ofString "column") = some (.ref col)) F6 ⟨by exact hln5, by rfl, by exact hcl5⟩
    clear F6
    refine turns_range (n := 4) (J := fun q m nx => (∀ z, z ≠ Str.ofString "waiting" → z ≠ Str.ofString "held" → z ≠ Str.ofString "k" → z ≠ Str.ofString "other" → m z = m6 z) ∧ ∃ vs e ys e' tl, nx = (pb, W.listOf vs.toArray e) :: (tol, W.listOf ys.toArray e') :: tl ∧ RT nm vs (drawN q (ns, [])).1 ∧ RT nm ys (drawN q (ns, [])).2 ∧
        (∀ p ∈ (ln, instObj 150 lnd) :: (lnd, dictOf es n) :: news, p ∈ tl) ∧ (∀ p ∈ tl, p.1 ≠ pb ∧ p.1 ≠ tol))
      (by rfl) hr (by decide) (by decide) F7 (fun p hp => N6 p ?perm) ⟨fun _ _ _ _ _ => rfl, vr, e, [], 0, _, rfl, hR, RT.nil, fun p hp => hp, ?off⟩ ?turn2 ?done2
    case perm =>
      simp only [List.mem_cons] at hp ⊢
      rcases hp with h | h | h
      · exact .inr (.inl h)
      · exact .inl h
      · exact .inr (.inr h)
    case off =>
      intro p hp
      refine ⟨hlp p hp, ?_⟩
      rcases List.mem_cons.mp hp with rfl | hp
      · exact Nat.ne_of_lt l10b
      · rcases List.mem_cons.mp hp with rfl | hp
        · exact Nat.ne_of_lt l10c
        · exact Nat.ne_of_lt (Nat.lt_trans (l7 p hp) l10c)
    case turn2 =>
      intro q m7 nx7 h7 tk7 It oI tv hq hJ hIt hoff F7 N7
      obtain ⟨hag7, vs, e7, ys, e7', tl, rfl, hV, hY, hsub, hne⟩ := hJ
      have hlen7 := drawN_length q (ns, [])
      simp only [hlen] at hlen7
      have hln7 : m7 (Str.ofString "line") = some (.ref ln) := (hag7 _ (by decide) (by decide) (by decide) (by decide)).trans hln6
      have htl7 : m7 (Str.ofString "told") = some (.ref tol) := (hag7 _ (by decide) (by decide) (by decide) (by decide)).trans htl6
      obtain ⟨c0, r, hcr⟩ : ∃ c0 r, (drawN q (ns, [])).1 = c0 :: r := by
        cases hd : (drawN q (ns, [])).1 with
        | nil => rw [hd] at hlen7; simp at hlen7; omega
        | cons c0 r => exact ⟨c0, r, rfl⟩
      have hall : ∀ x, x ∈ (drawN q (ns, [])).1 → x < 16 := fun x hx => by
        have := (drawN_mem q (ns, []) x).mp (.inl hx)
        rcases this with h | h
        · exact hcs x h
        · cases h
      have hrl : r.length = 3 - q := by rw [hcr] at hlen7; simp at hlen7; omega
      rw [hcr] at hV
      obtain ⟨t0, vs', rfl, hV'⟩ := hV.app_inv
      have hvl' : vs'.length = 3 - q := hV'.1.trans hrl
      have hlnm : (ln, instObj 150 lnd) ∈ tl := hsub _ (.head _)
      have hlndm : (lnd, dictOf es n) ∈ tl := hsub _ (.tail _ (.head _))
      have hIpb : It ≠ pb := fun e => hoff _ (.head _) e.symm
      have hItl : It ≠ tol := fun e => hoff _ (.tail _ (.head _)) e.symm
      k_steps
      refine Hold.mk ?_
      k_dflt (refine' get_c (x := nm c0) (t := t0) (vs := vs') (e := e7) (news' := (It, oI) :: (pb, W.listOf vs'.toArray (e7 + 1)) :: (tol, W.listOf ys.toArray e7') :: tl) ?kB ?kF ?kX ?kN ?kT ?kk ?kd ?ku ?h1 ?h2 ?h3 ?U ?h4 ?hz ?_)
      (case kB => k_asm); (case kF => k_asm); (case kX => assumption); (case kN => k_asm); (case kT => k_asm); (case kk => exact rfl); (case kd => ktr_room); (case ku => ktr_units); (case h1 => k_mem); (case h2 => k_mem); (case h3 => assumption); (case h4 => k_mem)
      case hz => omega
      case U =>
        refine Upd.tail hIpb (Upd.head fun p hp => ?_)
        rcases List.mem_cons.mp hp with rfl | hp
        · exact Ne.symm hpt
        · exact (hne p hp).1
      intro h8 tk8 F8 N8
      k_steps
      rename IsRange _ _ _ _ _ _ _ _ => hr9
      rename Fr _ _ _ _ => F9
      rename News _ _ _ _ => N9
      rename_i q0 dx0 eq0 nq0 h21 tk21 gq lq1 lq2 h22 F22 N22 h23 tk23 t2 u2 v2 hk2
      have hagree : ∀ z, z ≠ Str.ofString "waiting" → z ≠ Str.ofString "held" → z ≠ Str.ofString "k" → z ≠ Str.ofString "other" → (if z = Str.ofString "held" then some (Value.ref q0) else if z = Str.ofString "waiting" then some (Value.int ((4 : Nat) - 1 + (q : Int) * -1) tv) else m7 z) = m6 z :=
        fun z h1 h2 h3 h4 => (if_neg h2).trans ((if_neg h1).trans (hag7 z h1 h2 h3 h4))
      obtain ⟨m9, F10, hln9, htl9, hhe9, hag9⟩ := fr_facts (fun m => m (Str.ofString "line") = some (.ref ln) ∧ m (Str.ofString "told") = some (.ref tol) ∧ m (Str.ofString "held") = some (.ref q0) ∧ (∀ z, z ≠ Str.ofString "waiting" → z ≠ Str.ofString "held" → z ≠ Str.ofString "k" → z ≠ Str.ofString "other" → m z = m6 z)) F9 ⟨by exact hln7, by exact htl7, by rfl, by exact hagree⟩
      clear F9
      have hc0 : c0 < 16 := hall c0 (hcr ▸ List.mem_cons_self)
      have hr16 : ∀ x ∈ r, x < 16 := fun x hx => hall x (hcr ▸ List.mem_cons_of_mem _ hx)
      refine turns_range (n := 3 - q) (J := fun j m nx => (∀ z, z ≠ Str.ofString "held" → z ≠ Str.ofString "k" → z ≠ Str.ofString "other" → m z = m9 z) ∧ ∃ qh dxh esh nh th vs2 e2 tl2, m (Str.ofString "held") = some (.ref qh) ∧ (qh, instObj 228 dxh) ∈ tl2 ∧ (dxh, dictOf esh nh) ∈ tl2 ∧
          getL (Str.ofString "text") esh = some (some (.str (nm ((r.take j).foldl held1 (c0, [])).1) th)) ∧ nx = (It, oI) :: (pb, W.listOf (List.toArray vs2) e2) :: (tol, W.listOf ys.toArray e7') :: tl2 ∧ RT nm vs2 (r.drop j ++ ((r.take j).foldl held1 (c0, [])).2) ∧ (∀ p ∈ tl, p ∈ tl2) ∧ (∀ p ∈ tl2, p.1 ≠ It ∧ p.1 ≠ pb ∧ p.1 ≠ tol))
        (by rfl) hr9 ?hsm ?hn F10 (fun p hp => N9 p ?perm) ⟨fun _ _ _ _ => rfl, q0, dx0, eq0, nq0, t0, vs', e7 + 1, (q0, instObj 228 dx0) :: (dx0, dictOf eq0 nq0) :: tl, hhe9, .head _, .tail _ (.head _), gq, rfl, ?hV, fun p hp => .tail _ (.tail _ hp), ?off⟩ ?turn3 ?done3
      case hsm =>
        have : q = 0 ∨ q = 1 ∨ q = 2 ∨ q = 3 := by omega
        rcases this with rfl | rfl | rfl | rfl <;> decide
      case hn =>
        have : q = 0 ∨ q = 1 ∨ q = 2 ∨ q = 3 := by omega
        rcases this with rfl | rfl | rfl | rfl <;> decide
      case perm =>
        simp only [List.mem_cons] at hp ⊢
        rcases hp with h | h | h | h | h | h
        · exact .inr (.inr (.inl h))
        · exact .inr (.inr (.inr (.inl h)))
        · exact .inr (.inr (.inr (.inr (.inl h))))
        · exact .inl h
        · exact .inr (.inl h)
        · exact .inr (.inr (.inr (.inr (.inr h))))
      case hV => simpa using hV'
      case off =>
        have hI0 : dx0 ≠ It := Nat.ne_of_gt (lq1 _ (.head _))
        have hp0 : dx0 ≠ pb := Nat.ne_of_gt (lq1 _ (.tail _ (.head _)))
        have ht0 : dx0 ≠ tol := Nat.ne_of_gt (lq1 _ (.tail _ (.tail _ (.head _))))
        have hI1 : q0 ≠ It := Nat.ne_of_gt (Nat.lt_trans (lq1 _ (.head _)) lq2)
        have hp1 : q0 ≠ pb := Nat.ne_of_gt (Nat.lt_trans (lq1 _ (.tail _ (.head _))) lq2)
        have ht1 : q0 ≠ tol := Nat.ne_of_gt (Nat.lt_trans (lq1 _ (.tail _ (.tail _ (.head _)))) lq2)
        intro p hp
        rcases List.mem_cons.mp hp with rfl | hp
        · exact ⟨hI1, hp1, ht1⟩
        · rcases List.mem_cons.mp hp with rfl | hp
          · exact ⟨hI0, hp0, ht0⟩
          · exact ⟨hoff p (.tail _ (.tail _ hp)), hne p hp⟩
      case done3 =>
        intro m13 nx13 h13 tk13 hJ F13 N13
        obtain ⟨hag13, qh, dxh, esh, nh, th, vs2, e2, tl2, hhe, hqm, hdm, hgt, rfl, hV2, hs2, hne2⟩ := hJ
        have htl13 : m13 (Str.ofString "told") = some (.ref tol) := (hag13 _ (by decide) (by decide) (by decide)).trans htl9
        have htolr : ∀ p ∈ tl2, p.1 ≠ tol := fun p hp => (hne2 p hp).2.2
        generalize hst : ((r.take (3 - q)).foldl held1 (c0, [])) = st at hgt hV2
        have hU : Upd tol (W.listOf ys.toArray e7') (W.listOf (ys.toArray.push (Value.str (nm st.1) th)) (e7' + 1)) ((It, oI) :: (pb, W.listOf vs2.toArray e2) :: (tol, W.listOf ys.toArray e7') :: tl2) ((It, oI) :: (pb, W.listOf vs2.toArray e2) :: (tol, W.listOf (ys.toArray.push (Value.str (nm st.1) th)) (e7' + 1)) :: tl2) :=
          Upd.tail hItl (Upd.tail hpt (Upd.head htolr))
        have hysl : ys.toArray.size ≤ sizeLine := by
          have h1 := hY.1
          have h2 : (drawN q (ns, [])).2.length = q := by
            have : ∀ k, k ≤ 4 → (drawN k (ns, [])).2.length = k := by
              intro k
              induction k with
              | zero => intro _; rfl
              | succ k ih =>
                intro hk
                have h3 := ih (by omega)
                have h4 := drawN_length k (ns, [])
                simp only [hlen] at h4
                rw [drawN, draw]
                cases hd : (drawN k (ns, [])).1 with
                | nil => rw [hd] at h4; simp at h4; omega
                | cons a b => simp [h3]
            exact this q (by omega)
          simp [sizeLine_eq]; omega
        k_steps
        have eP : ys.toArray.push (Value.str (nm st.1) th) = (ys ++ [Value.str (nm st.1) th]).toArray := by simp
        rename Fr _ _ _ _ => F15
        rename News _ _ _ _ => N15
        rw [eP] at N15
        have hdn : drawN (q + 1) (ns, []) = (st.2, (drawN q (ns, [])).2 ++ [st.1]) := by
          rw [drawN, draw, hcr]
          have : r.take (3 - q) = r := by rw [← hrl]; exact List.take_length
          rw [this] at hst
          simp only [hst]
        refine TurnQ.next (nx₂ := (pb, W.listOf vs2.toArray e2) :: (tol, W.listOf (ys ++ [Value.str (nm st.1) th]).toArray (e7' + 1)) :: tl2) F15 N15 ?_ ⟨?hag, vs2, e2, ys ++ [Value.str (nm st.1) th], e7' + 1, tl2, rfl, ?hV, ?hY, fun p hp => hs2 p (hsub p hp), fun p hp => ⟨(hne2 p hp).2.1, (hne2 p hp).2.2⟩⟩
        case hag => exact fun z z1 z2 z3 z4 => (hag13 z z2 z3 z4).trans (hag9 z z1 z2 z3 z4)
        case hV =>
          rw [hdn]
          have : r.drop (3 - q) = [] := by rw [← hrl]; exact List.drop_length
          rw [this, List.nil_append] at hV2
          exact hV2
        case hY =>
          rw [hdn]
          exact hY.push
        · intro p hp
          rcases List.mem_cons.mp hp with rfl | hp
          · exact Ne.symm hIpb
          · rcases List.mem_cons.mp hp with rfl | hp
            · exact Ne.symm hItl
            · exact (hne2 p hp).1
      case turn3 =>
        intro j m13 nx13 h13 tk13 It2 oI2 tv2 hj hJ hIt2 hoff2 F13 N13
        obtain ⟨hag13, qh, dxh, esh, nh, th, vs2, e2, tl2, hhe, hqm, hdm, hgt, rfl, hV2, hs2, hne2⟩ := hJ
        have hln13 : m13 (Str.ofString "line") = some (.ref ln) := (hag13 _ (by decide) (by decide) (by decide)).trans hln9
        have hjr : j < r.length := by omega
        have hdr : r.drop j = r[j] :: r.drop (j + 1) := List.drop_eq_getElem_cons hjr
        generalize hc1 : r[j] = c1 at hdr
        have hc116 : c1 < 16 := hc1 ▸ hr16 _ (List.getElem_mem _)
        have htk : r.take (j + 1) = r.take j ++ [c1] := by rw [← hc1]; exact take_snoc (List.getElem?_eq_getElem hjr)
        generalize hst : (r.take j).foldl held1 (c0, []) = st at hgt hV2
        have hst16 : st.1 < 16 := by
          rcases (held_mem (r.take j) (c0, []) st.1).mp (.inl (by rw [hst])) with h | h | h
          · rw [h]; exact hc0
          · cases h
          · exact hr16 _ (List.mem_of_mem_take h)
        rw [hdr, List.cons_append] at hV2
        have hvl2 := hV2.1
        obtain ⟨t3, vs3, rfl, hV3⟩ := hV2.app_inv
        have hst2 : st.2.length = j := by
          have := held_length (r.take j) (c0, [])
          rw [hst] at this
          simp at this; omega
        have hvl3 : vs3.length ≤ 20 := by
          have := hV3.1
          simp only [List.length_append, List.length_drop] at this
          omega
        have hlt := hnm st.1 c1 hst16 hc116
        have hlnm2 : (ln, instObj 150 lnd) ∈ tl2 := hs2 _ hlnm
        have hlndm2 : (lnd, dictOf es n) ∈ tl2 := hs2 _ hlndm
        have hI2I : It2 ≠ It := fun e => hoff2 _ (.head _) e.symm
        have hI2p : It2 ≠ pb := fun e => hoff2 _ (.tail _ (.head _)) e.symm
        have hI2t : It2 ≠ tol := fun e => hoff2 _ (.tail _ (.tail _ (.head _))) e.symm
        have hpbr : ∀ p ∈ (tol, W.listOf ys.toArray e7') :: tl2, p.1 ≠ pb := by
          intro p hp
          rcases List.mem_cons.mp hp with rfl | hp
          · exact Ne.symm hpt
          · exact (hne2 p hp).2.1
        k_steps
        refine Hold.mk ?_
        k_dflt (refine' get_c (x := nm c1) (t := t3) (vs := vs3) (e := e2) (news' := (It2, oI2) :: (It, oI) :: (pb, W.listOf vs3.toArray (e2 + 1)) :: (tol, W.listOf ys.toArray e7') :: tl2) ?kB ?kF ?kX ?kN ?kT ?kk ?kd ?ku ?h1 ?h2 ?h3 ?U ?h4 ?hz ?_)
        (case kB => k_asm); (case kF => k_asm); (case kX => assumption); (case kN => k_asm); (case kT => k_asm); (case kk => exact rfl); (case kd => ktr_room); (case ku => ktr_units); (case h1 => k_mem); (case h2 => k_mem); (case h3 => assumption); (case h4 => k_mem)
        case hz => omega
        case U => exact Upd.tail hI2p (Upd.tail hIpb (Upd.head hpbr))
        intro h14 tk14 F14 N14
        k_steps
        rename_i qo dxo eqo nqo h16 tk16 gqo lqa lqb h17 F17 N17
        have hoI2 : dxo ≠ It2 := Nat.ne_of_gt (lqa _ (.head _))
        have hoI : dxo ≠ It := Nat.ne_of_gt (lqa _ (.tail _ (.head _)))
        have hop : dxo ≠ pb := Nat.ne_of_gt (lqa _ (.tail _ (.tail _ (.head _))))
        have hot : dxo ≠ tol := Nat.ne_of_gt (lqa _ (.tail _ (.tail _ (.tail _ (.head _)))))
        have hqI2 : qo ≠ It2 := Nat.ne_of_gt (Nat.lt_trans (lqa _ (.head _)) lqb)
        have hqI : qo ≠ It := Nat.ne_of_gt (Nat.lt_trans (lqa _ (.tail _ (.head _))) lqb)
        have hqp : qo ≠ pb := Nat.ne_of_gt (Nat.lt_trans (lqa _ (.tail _ (.tail _ (.head _)))) lqb)
        have hqt : qo ≠ tol := Nat.ne_of_gt (Nat.lt_trans (lqa _ (.tail _ (.tail _ (.tail _ (.head _))))) lqb)
        have hag14 : ∀ z, z ≠ Str.ofString "held" → z ≠ Str.ofString "k" → z ≠ Str.ofString "other" → m13 z = m9 z := hag13
        refine Hold.mk ?_
        have hmark : Mark := ⟨⟩
        have hoff3 : ∀ p ∈ (It, oI) :: (pb, W.listOf vs3.toArray (e2 + 1)) :: (tol, W.listOf ys.toArray e7') :: tl2, p.1 ≠ It2 := by
          intro p hp
          rcases List.mem_cons.mp hp with rfl | hp
          · exact Ne.symm hI2I
          · rcases List.mem_cons.mp hp with rfl | hp
            · exact Ne.symm hI2p
            · exact hoff2 p (.tail _ (.tail _ hp))
        k_steps
        · rename (nm st.1).cps.toList < (nm c1).cps.toList => hlt'
          have hcc' : st.1 < c1 := by rw [decide_eq_true hlt'] at hlt; exact of_decide_eq_true hlt.symm
          refine Hold.mk ?_
          k_dflt (refine' put_c (v := Value.str (nm c1) t3) (its := vs3.toArray) (e := e2 + 1) (news' := (qo, instObj 228 dxo) :: (dxo, dictOf eqo nqo) :: (It2, oI2) :: (It, oI) :: (pb, W.listOf (vs3 ++ [Value.str (nm c1) t3]).toArray (e2 + 1 + 1)) :: (tol, W.listOf ys.toArray e7') :: tl2) ?kB ?kF ?kX ?kN ?kT ?kk ?kd ?ku ?h1 ?h2 ?h3 ?U ?h4 ?hz ?_)
          (case kB => k_asm); (case kF => k_asm); (case kX => assumption); (case kN => k_asm); (case kT => k_asm); (case kk => exact rfl); (case kd => ktr_room); (case ku => ktr_units); (case h1 => k_mem); (case h2 => k_mem); (case h3 => assumption); (case h4 => k_mem)
          case hz => simp; omega
          case U =>
            rw [show vs3.toArray.push (Value.str (nm c1) t3) = (vs3 ++ [Value.str (nm c1) t3]).toArray by simp]
            exact Upd.tail hqp (Upd.tail hop (Upd.tail hI2p (Upd.tail hIpb (Upd.head hpbr))))
          intro h18 tk18 F18 N18
          k_steps
          refine TurnQ.next (nx₂ := (It, oI) :: (pb, W.listOf (vs3 ++ [Value.str (nm c1) t3]).toArray (e2 + 1 + 1)) :: (tol, W.listOf ys.toArray e7') :: (qo, instObj 228 dxo) :: (dxo, dictOf eqo nqo) :: tl2) (by assumption) (fun p hp => N18 p (by
            simp only [List.mem_cons] at hp ⊢
            rcases hp with h | h | h | h | h | h | h
            · exact .inr (.inr (.inl h))
            · exact .inr (.inr (.inr (.inl h)))
            · exact .inr (.inr (.inr (.inr (.inl h))))
            · exact .inr (.inr (.inr (.inr (.inr (.inl h)))))
            · exact .inl h
            · exact .inr (.inl h)
            · exact .inr (.inr (.inr (.inr (.inr (.inr h))))))) ?_ ⟨?hag, qh, dxh, esh, nh, th, vs3 ++ [Value.str (nm c1) t3], e2 + 1 + 1, (qo, instObj 228 dxo) :: (dxo, dictOf eqo nqo) :: tl2, ?hh, .tail _ (.tail _ hqm), .tail _ (.tail _ hdm), ?hg, rfl, ?hV, fun p hp => .tail _ (.tail _ (hs2 p hp)), ?hne⟩
          case hag => exact fun z z1 z2 z3 => (if_neg z3).trans ((if_neg z2).trans (hag13 z z1 z2 z3))
          case hh => exact hhe
          case hg =>
            rw [htk, List.foldl_append, hst]
            simp only [List.foldl_cons, List.foldl_nil, held1]
            rw [if_pos hcc']
            exact hgt
          case hV =>
            rw [htk, List.foldl_append, hst]
            simp only [List.foldl_cons, List.foldl_nil, held1]
            rw [if_pos hcc', ← List.append_assoc]
            exact hV3.push
          case hne =>
            intro p hp
            rcases List.mem_cons.mp hp with rfl | hp
            · exact ⟨hqI, hqp, hqt⟩
            · rcases List.mem_cons.mp hp with rfl | hp
              · exact ⟨hoI, hop, hot⟩
              · exact hne2 p hp
          · intro p hp
            simp only [List.mem_cons] at hp
            rcases hp with rfl | rfl | rfl | rfl | rfl | hp
            · exact Ne.symm hI2I
            · exact Ne.symm hI2p
            · exact Ne.symm hI2t
            · exact hqI2
            · exact hoI2
            · exact hoff2 p (.tail _ (.tail _ (.tail _ hp)))
        · rename ¬ (nm st.1).cps.toList < (nm c1).cps.toList => hlt'
          have hcc' : ¬ st.1 < c1 := by rw [decide_eq_false hlt'] at hlt; exact of_decide_eq_false hlt.symm
          rename News _ _ _ _ => N17b
          have N17c := news_tail N17b
          clear N17b
          refine Hold.mk ?_
          k_dflt (refine' put_c (v := Value.str (nm st.1) th) (its := vs3.toArray) (e := e2 + 1) (news' := (qo, instObj 228 dxo) :: (dxo, dictOf eqo nqo) :: (It2, oI2) :: (It, oI) :: (pb, W.listOf (vs3 ++ [Value.str (nm st.1) th]).toArray (e2 + 1 + 1)) :: (tol, W.listOf ys.toArray e7') :: tl2) ?kB ?kF ?kX ?kN ?kT ?kk ?kd ?ku ?h1 ?h2 ?h3 ?U ?h4 ?hz ?_)
          (case kB => k_asm); (case kF => k_asm); (case kX => assumption); (case kN => k_asm); (case kT => k_asm); (case kk => exact rfl); (case kd => ktr_room); (case ku => ktr_units); (case h1 => k_mem); (case h2 => k_mem); (case h3 => assumption); (case h4 => k_mem)
          case hz => simp; omega
          case U =>
            rw [show vs3.toArray.push (Value.str (nm st.1) th) = (vs3 ++ [Value.str (nm st.1) th]).toArray by simp]
            exact Upd.tail hqp (Upd.tail hop (Upd.tail hI2p (Upd.tail hIpb (Upd.head hpbr))))
          intro h18 tk18 F18 N18
          k_steps
          refine TurnQ.next (nx₂ := (It, oI) :: (pb, W.listOf (vs3 ++ [Value.str (nm st.1) th]).toArray (e2 + 1 + 1)) :: (tol, W.listOf ys.toArray e7') :: (qo, instObj 228 dxo) :: (dxo, dictOf eqo nqo) :: tl2) (by assumption) (fun p hp => N18 p (by
            simp only [List.mem_cons] at hp ⊢
            rcases hp with h | h | h | h | h | h | h
            · exact .inr (.inr (.inl h))
            · exact .inr (.inr (.inr (.inl h)))
            · exact .inr (.inr (.inr (.inr (.inl h))))
            · exact .inr (.inr (.inr (.inr (.inr (.inl h)))))
            · exact .inl h
            · exact .inr (.inl h)
            · exact .inr (.inr (.inr (.inr (.inr (.inr h))))))) ?_ ⟨?hag, qo, dxo, eqo, nqo, t3, vs3 ++ [Value.str (nm st.1) th], e2 + 1 + 1, (qo, instObj 228 dxo) :: (dxo, dictOf eqo nqo) :: tl2, ?hh, .head _, .tail _ (.head _), ?hg, rfl, ?hV, fun p hp => .tail _ (.tail _ (hs2 p hp)), ?hne⟩
          case hag => exact fun z z1 z2 z3 => (if_neg z1).trans ((if_neg z3).trans ((if_neg z3).trans ((if_neg z2).trans (hag13 z z1 z2 z3))))
          case hh => rfl
          case hg =>
            rw [htk, List.foldl_append, hst]
            simp only [List.foldl_cons, List.foldl_nil, held1]
            rw [if_neg hcc']
            exact gqo
          case hV =>
            rw [htk, List.foldl_append, hst]
            simp only [List.foldl_cons, List.foldl_nil, held1]
            rw [if_neg hcc', ← List.append_assoc]
            exact hV3.push
          case hne =>
            intro p hp
            rcases List.mem_cons.mp hp with rfl | hp
            · exact ⟨hqI, hqp, hqt⟩
            · rcases List.mem_cons.mp hp with rfl | hp
              · exact ⟨hoI, hop, hot⟩
              · exact hne2 p hp
          · intro p hp
            simp only [List.mem_cons] at hp
            rcases hp with rfl | rfl | rfl | rfl | rfl | hp
            · exact Ne.symm hI2I
            · exact Ne.symm hI2p
            · exact Ne.symm hI2t
            · exact hqI2
            · exact hoI2
            · exact hoff2 p (.tail _ (.tail _ (.tail _ hp)))
    case done2 =>
      intro m7 nx7 h7 tk7 hJ F7 N7
      obtain ⟨hag7, vs, e7, ys, e7', tl, rfl, hV, hY, hsub, hne⟩ := hJ
      have hlen7 := drawN_length 4 (ns, [])
      simp only [hlen] at hlen7
      have hv0 : vs = [] := List.eq_nil_of_length_eq_zero (hV.1.trans hlen7)
      subst hv0
      have hln7 : m7 (Str.ofString "line") = some (.ref ln) := (hag7 _ (by decide) (by decide) (by decide) (by decide)).trans hln6
      have htl7 : m7 (Str.ofString "told") = some (.ref tol) := (hag7 _ (by decide) (by decide) (by decide) (by decide)).trans htl6
      have hlnm : (ln, instObj 150 lnd) ∈ tl := hsub _ (.head _)
      have hlndm : (lnd, dictOf es n) ∈ tl := hsub _ (.tail _ (.head _))
      k_steps
      rename News _ _ _ _ => N16
      refine ret tol ys e7' _ _ (by rw [down, hlen]; exact hY) (by assumption) (fun p hp => ?_) (fun p hp => (hne p (hsub p (.tail _ (.tail _ hp)))).2)
      have hp' : p ∈ (pb, W.listOf #[] e7) :: (tol, W.listOf ys.toArray e7') :: tl := by
        rcases List.mem_cons.mp hp with rfl | hp
        · exact .tail _ (.head _)
        · exact .tail _ (.tail _ (hsub p (.tail _ (.tail _ hp))))
      first | exact N16 p hp' | exact N16 p (.tail _ hp') | exact N16 p (.tail _ (.tail _ hp'))
end
end
end
end
end
end
end
end
end
section
local macro_rules | `(tactic| walk_at "exec For Name Call cons nil") => mT16
section
local macro_rules | `(tactic| walk_at "eval Name") => mT19
section
def mT23 : Lean.MacroM (Lean.TSyntax `tactic) := `(tactic| (k_here; (with_reducible show wpAny _ _ (subscriptTail _ _ (Value.bytes _ _) (Value.int _ _)) _ _ _); (refine KBy.item_N ?a ?b ?c ?_; (case a => omega); (case b => omega); (case c => omega))))
local macro_rules | `(tactic| walk_at "subscriptTail") => mT23
-- CS_02
section
set_option maxHeartbeats 4000000 in
theorem swap_c {w : World} {p : Program} {loose : List Str} {mean : ExcName → Option Value} {mg mb : Str → Option Value}
    {dp un : Nat} {cn : Str} {cs : Scope} {a : Addr} {ccd : Value} {cl : List (Str × Addr)} {outer : List Env} {A₀ : Around} {base h₀ : Heap} {L : Addr} {m : Str → Option Value} {s : Shared}
    {Q E : Value → Shared → Prop} {news : List (Addr × Obj)} {x : List UInt8} {t u : Tok} (hx : x.length = 8)
    (B : Below A₀ base outer h₀) (F : Fr h₀ L s.heap m) (X : (hd.heap_39 w.params).In h₀) (N : News h₀ L s.heap news) (T : Top p loose mean mg mb h₀) (hk : cs.kind = .function)
    (hd : dp + 10 < recursionLimit) (hu : un + 100 < cLine)
    (ret : ∀ h' tk' t', Fr h₀ L h' m → News h₀ L h' news → Q (.bytes (sw x 4 8) t') { s with heap := h', toks := tk' }) :
    wpC (model PySem.Challenge.pw_xp0015_02 w) (ktrTop dp un (some []) cn cs L a ccd cl outer) (call (.ref 28) [.bytes x.toArray t, .int 4 u]) Q E s := by
  refine wpC_call ?_
  k_dflt (refine' codeC_def B F X N T ?kA ?kF ?kK ?k6 ?k7 ?k8 ?k9 ?kB ?_ ?c2 ?c3 ?c4 ?c5; (case kA => exact rfl); (case kF => exact rfl); (case kK => assumption); (case k6 => k_is); (case k7 => k_is); (case k8 => ktr_room); (case k9 => exact BindsTo.of_eq rfl); (case c5 => decide); (case kB => exact locs rfl); (case c2 => exact rfl); (case c3 => exact rfl); (case c4 => exact rfl))
  intro g L' h₁ FG F' N' B' X' T' l1
  refine wpC_execs_cons ?_
  refine wpC_Assign_Name ?_
  refine wpC_callName (f := .type "bytearray") (P := (Mine.hd.heap_39 w.params).In) rfl ?hf (by rfl) (by rfl) (fun h _ => ⟨.machine, .inr (.inl rfl), .of_pure rfl⟩) ?_
  case hf => k_steps
  refine wpC_of ?_
  k_steps
  have hsz : ((x.toArray.size : Nat) : Int) = ((8 : Nat) : Int) := by rw [List.size_toArray, hx]
  rw [hsz]
  refine ba_callN F' N' (by rfl) (by decide) (by decide) ?_
  intro S h' F2 N2 l2

  k_steps
  refine wpC_of ?_
  k_steps
  rename IsRange _ _ _ _ _ _ _ _ => hr
  rename Fr _ _ _ _ => F3
  rename News _ _ _ _ => N3
  rw [hsz] at hr
  obtain ⟨m3, F4, hd3, hw3, hs3⟩ := fr_facts (fun m => m (Str.ofString "data") = some (.bytes x.toArray t) ∧ m (Str.ofString "width") = some (.int 4 u) ∧ m (Str.ofString "swapped_data") = some (.ref S)) F3 ⟨by rfl, by rfl, by rfl⟩
  clear F3
  refine turns_range (n := 2) (J := fun q m nx => (∀ z, z ≠ Str.ofString "i" → z ≠ Str.ofString "j" → m z = m3 z) ∧ nx = (S, baO (sw x 4 (q * 4))) :: news) (by rfl) hr (by decide) (by decide) F4 N3 ⟨fun _ _ _ => rfl, by rw [Nat.zero_mul, sw, hx]⟩ ?turn1 ?done1
  case done1 =>
    intro m5 nx5 h5 tk5 hJ F5 N5
    obtain ⟨hag, rfl⟩ := hJ
    have hs5 : m5 (Str.ofString "swapped_data") = some (.ref S) := (hag _ (by decide) (by decide)).trans hs3
    k_steps
    refine call_bytes_ba (N5 _ (.head _)).1 (by rw [sw_size]; omega) ?_
    intro t9 k9
    k_steps
    refine ret _ _ _ (by assumption) (fun p hp => ?_)
    rename News _ _ _ (_ :: news) => N9
    exact N9 p (.tail _ hp)
  case turn1 =>
    intro q m5 nx5 h5 tk5 It oI tv hq hJ hIt hoff F5 N5
    obtain ⟨hag, rfl⟩ := hJ
    have hd5 : m5 (Str.ofString "data") = some (.bytes x.toArray t) := (hag _ (by decide) (by decide)).trans hd3
    have hw5 : m5 (Str.ofString "width") = some (.int 4 u) := (hag _ (by decide) (by decide)).trans hw3
    have hs5 : m5 (Str.ofString "swapped_data") = some (.ref S) := (hag _ (by decide) (by decide)).trans hs3
    k_steps
    rename IsRange _ _ _ _ _ _ _ _ => hr6
    rename Fr _ _ _ _ => F6
    rename News _ _ _ _ => N6
    obtain ⟨m6, F7, hd6, hw6, hs6, hi6, hg6⟩ := fr_facts (fun m => m (Str.ofString "data") = some (.bytes x.toArray t) ∧ m (Str.ofString "width") = some (.int 4 u) ∧ m (Str.ofString "swapped_data") = some (.ref S) ∧ m (Str.ofString "i") = some (.int (0 + q * 4) tv) ∧
      ∀ z, z ≠ Str.ofString "i" → z ≠ Str.ofString "j" → m z = m3 z) F6 ⟨by exact hd5, by exact hw5, by exact hs5, by rfl, fun z hz1 hz2 => (if_neg hz1).trans (hag z hz1 hz2)⟩
    clear F6
    refine turns_range (n := 4) (J := fun j m nx => (∀ z, z ≠ Str.ofString "j" → m z = m6 z) ∧ nx = (It, oI) :: (S, baO (sw x 4 (q * 4 + j))) :: news) (by rfl) hr6 (by decide) (by decide) F7 N6 ⟨fun _ _ => rfl, rfl⟩ ?turn2 ?done2
    case done2 =>
      intro m8 nx8 h8 tk8 hJ F8 N8
      obtain ⟨hag8, rfl⟩ := hJ
      k_steps
      have hIS : It ≠ S := fun e => hoff _ (.head _) e.symm
      refine TurnQ.next (m₂ := m8) (nx₂ := (S, baO (sw x 4 ((q + 1) * 4))) :: news) F8 ?_ ?_ ⟨fun z hz1 hz2 => (hag8 z hz2).trans (hg6 z hz1 hz2), rfl⟩
      · rw [Nat.succ_mul]; exact N8
      · intro p hp
        rcases List.mem_cons.mp hp with rfl | hp
        · exact Ne.symm hIS
        · exact hoff p (.tail _ hp)
    case turn2 =>
      intro j m8 nx8 h8 tk8 It2 oI2 tv2 hj hJ hIt2 hoff2 F8 N8
      obtain ⟨hag8, rfl⟩ := hJ
      have hd8 : m8 (Str.ofString "data") = some (.bytes x.toArray t) := (hag8 _ (by decide)).trans hd6
      have hw8 : m8 (Str.ofString "width") = some (.int 4 u) := (hag8 _ (by decide)).trans hw6
      have hs8 : m8 (Str.ofString "swapped_data") = some (.ref S) := (hag8 _ (by decide)).trans hs6
      have hi8 : m8 (Str.ofString "i") = some (.int (0 + q * 4) tv) := (hag8 _ (by decide)).trans hi6
      k_steps
      have hIS : It ≠ S := fun e => hoff _ (.head _) e.symm
      have hIS2 : It2 ≠ S := fun e => hoff2 _ (.tail _ (.head _)) e.symm
      have hcn : (0 + (q : Int) * 4 + (0 + (j : Int) * 1)).toNat = q * 4 + j := by omega
      refine ba_setN (k := q * 4 + (4 - 1 - j)) (b' := sw x 4 (q * 4 + j + 1)) (by assumption) (by assumption) (by rw [sw_size]; omega) (by omega) (by rw [sw_size]; omega) (Int.natCast_nonneg _) (by have := (x.getD (0 + (q : Int) * 4 + (0 + (j : Int) * 1)).toNat 0).toNat_lt; omega) ?_
        (Upd.tail hIS2 (Upd.tail hIS (Upd.head fun p hp => Nat.ne_of_lt (l2 p hp)))) ?_
      · rw [hcn, sw]
        have e1 : (q * 4 + j) / 4 * 4 + (4 - 1 - (q * 4 + j) % 4) = q * 4 + (4 - 1 - j) := by omega
        rw [e1, Int.toNat_natCast]
        congr 1
        exact UInt8.ofNat_toNat
      · intro h10 F10 N10
        k_steps
        refine TurnQ.next (nx₂ := (It, oI) :: (S, baO (sw x 4 (q * 4 + j + 1))) :: news) (by assumption) (by assumption) ?_ ⟨fun z hz => (if_neg hz).trans (hag8 z hz), rfl⟩
        intro p hp
        rcases List.mem_cons.mp hp with rfl | hp
        · exact hoff2 _ (.head _)
        · rcases List.mem_cons.mp hp with rfl | hp
          · exact Ne.symm hIS2
          · exact hoff2 p (.tail _ (.tail _ hp))
end
end
end
end
section
open PyProof.Rows.LCg
-- NA_02
section
noncomputable def nmT (c : Nat) : Str := Str.ofString (["{\"}#", "{\"}A", "{\"}a", "{\"}ab", "{a&}#", "{a&}A", "{a&}a", "{a&}ab", "{a}#", "{a}A", "{a}a", "{a}ab", "{b}#", "{b}A", "{b}a", "{b}ab"].getD c "")

theorem truthy_ne {prog : Program} {w : World} {A : Around} {E : Value → Shared → Prop} {s : Shared} {x : Str} {t : Tok} {Q : Bool → Shared → Prop} (h0 : 0 < x.length) (hz : x.length ≤ 1000)
    (h : Q true { s with toks := s.toks + 1 + 1 }) : wpAny (model prog w) A (truthy (.str x t)) Q E s :=
  P.truthy_str (by omega) (by
    have e : ((x.length : Int) != 0) = true := by rw [bne_iff_ne]; omega
    rw [e]; exact h)
local macro_rules | `(tactic| walk_at "truthy str") => `(tactic| (k_here; (refine truthy_ne ?k1 ?k2 ?_; (case k1 => assumption); (case k2 => assumption))))
set_option maxHeartbeats 4000000 in
theorem q2_c {w : World} {p : Program} {loose : List Str} {mean : ExcName → Option Value} {mg mb : Str → Option Value}
    {dp un : Nat} {gd : Option (List Code)} {cn : Str} {cs : Scope} {a : Addr} {ccd : Value} {cl : List (Str × Addr)} {outer : List Env} {A₀ : Around} {base h₀ : Heap} {L : Addr} {m : Str → Option Value} {s : Shared}
    {Q E : Value → Shared → Prop} {news : List (Addr × Obj)} {x y : Str} {t u : Tok} (hy0 : 0 < y.length) (hy1 : y.length ≤ 1000) (hx1 : x.length ≤ 1000)
    (B : Below A₀ base outer h₀) (F : Fr h₀ L s.heap m) (X : (hd.heap_39 w.params).In h₀) (N : News h₀ L s.heap news) (T : Top p loose mean mg mb h₀) (hk : cs.kind = .function)
    (hd : dp + 10 < recursionLimit) (hu : un + 100 < cLine)
    (ret : ∀ q dx es n t' h' tk', Fr h₀ L h' m → News h₀ L h' ((q, instObj 228 dx) :: (dx, dictOf es n) :: news) → getL (Str.ofString "text") es = some (some (.str (Str.ofString "{" ++ x ++ Str.ofString "}" ++ y) t')) → (∀ p ∈ news, p.1 < dx) → dx < q → Q (.ref q) { s with heap := h', toks := tk' }) :
    wpAny (model PySem.Challenge.pw_xp0015_02 w) (ktrTop dp un gd cn cs L a ccd cl outer) (call (.ref 228) [.str x t, .str y u]) Q E s := by
  k_steps
  exact ret _ _ _ _ _ _ _ (by assumption) (by assumption) rfl (by assumption) (by assumption)

noncomputable def hmT (i : Nat) : Str := Str.ofString (["\"", "a&", "a", "b"].getD i "")
noncomputable def tgT (j : Nat) : Str := Str.ofString (["#", "A", "a", "ab"].getD j "")
theorem nmT_eq {i j : Nat} (hi : i < 4) (hj : j < 4) : Str.ofString "{" ++ hmT i ++ Str.ofString "}" ++ tgT j = nmT (4 * i + j) := by
  have h1 : i = 0 ∨ i = 1 ∨ i = 2 ∨ i = 3 := by omega
  have h2 : j = 0 ∨ j = 1 ∨ j = 2 ∨ j = 3 := by omega
  rcases h1 with rfl | rfl | rfl | rfl <;> rcases h2 with rfl | rfl | rfl | rfl <;> decide +kernel
theorem hmT_le {i : Nat} (hi : i < 4) : (hmT i).length ≤ 1000 := by
  have h1 : i = 0 ∨ i = 1 ∨ i = 2 ∨ i = 3 := by omega
  rcases h1 with rfl | rfl | rfl | rfl <;> decide +kernel
theorem tgT_le {i : Nat} (hi : i < 4) : (tgT i).length ≤ 1000 ∧ 0 < (tgT i).length := by
  have h1 : i = 0 ∨ i = 1 ∨ i = 2 ∨ i = 3 := by omega
  rcases h1 with rfl | rfl | rfl | rfl <;> decide +kernel
local macro_rules | `(tactic| walk_at "exec For Name List cons nil") => `(tactic| (k_here; (rename Fr _ _ _ _ => lF'); (with_unfolding_all refine' For_turns lF' ?_); k_whole))
local macro_rules | `(tactic| walk_at "call ref") => `(tactic| (k_here; (with_reducible show wpAny _ _ (call (Value.ref 228) _) _ _ _); refine Hold.out ?_))
local macro_rules | `(tactic| walk_at "eval Name") => `(tactic| (k_here; k_dflt (refine' ld ?k1 ?k2 ?_; (case k1 => k_asm); (case k2 => first | exact rfl | assumption); k_whole)))
set_option maxHeartbeats 4000000 in
theorem names_c {w : World} {p : Program} {loose : List Str} {mean : ExcName → Option Value} {mg mb : Str → Option Value}
    {dp un : Nat} {gd : Option (List Code)} {cn : Str} {cs : Scope} {a : Addr} {ccd : Value} {cl : List (Str × Addr)} {outer : List Env} {A₀ : Around} {base h₀ : Heap} {L : Addr} {m : Str → Option Value} {s : Shared}
    {Q E : Value → Shared → Prop} {news : List (Addr × Obj)}
    (B : Below A₀ base outer h₀) (F : Fr h₀ L s.heap m) (X : (hd.heap_39 w.params).In h₀) (N : News h₀ L s.heap news) (T : Top p loose mean mg mb h₀) (hk : cs.kind = .function)
    (hd : dp + 30 < recursionLimit) (hu : un + 300 < cLine)
    (ret : ∀ t ys e h' tk', RT nmT ys (List.range 16) → Fr h₀ L h' m → News h₀ L h' ((t, W.listOf ys.toArray e) :: news) → (∀ p ∈ news, p.1 ≠ t) → Q (.ref t) { s with heap := h', toks := tk' }) :
    wpAny (model PySem.Challenge.pw_xp0015_02 w) (ktrTop dp un gd cn cs L a ccd cl outer) (call (.ref 244) []) Q E s := by
  refine wpAny_call ?_
  k_dflt ktr_enter
  rename_i g' L' h' FG' F' N' B' X' T'
  k_steps
  rename Fr _ _ _ _ => F3
  rename News _ _ _ _ => N3
  rename_i tk0 nl h3 ln1 h4 hl h5 l2
  have hln : nl ≠ hl := Nat.ne_of_lt l2.1
  have N4 : News g' L' _ ((nl, W.listOf ([] : List Value).toArray 0) :: (hl, W.listOf [.str (hmT 0) tk, .str (hmT 1) (tk + 1), .str (hmT 2) (tk + 1 + 1), .str (hmT 3) (tk + 1 + 1 + 1)].toArray 0) :: news) := fun p hp => N3 p (by
    rcases List.mem_cons.mp hp with rfl | hp
    · exact .tail _ (.head _)
    · rcases List.mem_cons.mp hp with rfl | hp
      · exact .head _
      · exact .tail _ (.tail _ hp))
  clear N3
  have hHR : RT hmT [.str (hmT 0) tk, .str (hmT 1) (tk + 1), .str (hmT 2) (tk + 1 + 1), .str (hmT 3) (tk + 1 + 1 + 1)] [0, 1, 2, 3] := .cons rfl (.cons rfl (.cons rfl (.cons rfl RT.nil)))
  generalize hvs : [Value.str (hmT 0) tk, .str (hmT 1) (tk + 1), .str (hmT 2) (tk + 1 + 1), .str (hmT 3) (tk + 1 + 1 + 1)] = vh at N4 hHR
  obtain ⟨m3, F4, hnl3⟩ := fr_facts (fun m => m (Str.ofString "names") = some (.ref nl)) F3 (by rfl)
  clear F3
  refine turns_list (l := hl) (vs := vh) (J := fun i m nx => m (Str.ofString "names") = some (.ref nl) ∧ ∃ ys e tl, nx = (nl, W.listOf (List.toArray ys) e) :: tl ∧ RT nmT ys (List.range (4 * i)) ∧ (∀ p ∈ (hl, W.listOf vh.toArray 0) :: news, p ∈ tl) ∧ (∀ p ∈ tl, p.1 ≠ nl))
    (by rfl) F4 N4 (by k_mem) ⟨hnl3, [], 0, _, rfl, RT.nil, fun p hp => hp, ?off⟩ ?hJ ?turn ?done
  case off =>
    intro p hp
    rcases List.mem_cons.mp hp with rfl | hp
    · exact Ne.symm hln
    · exact Nat.ne_of_lt (ln1 p hp)
  case hJ =>
    rintro i m nx ⟨_, ys, e, tl, rfl, _, hs, _⟩
    exact .tail _ (hs _ (.head _))
  case done =>
    intro m5 nx5 h5 tk5 hJ F5 N5
    obtain ⟨hn5, ys, e, tl, rfl, hY, hs, hne⟩ := hJ
    have h4 : vh.length = 4 := hHR.1
    rw [h4] at hY
    k_steps
    rename News _ _ _ _ => N9
    exact ret _ ys e _ _ hY (by assumption) (fun p hp => N9 p (by
      rcases List.mem_cons.mp hp with rfl | hp
      · exact .head _
      · exact .tail _ (hs p (.tail _ hp)))) fun p hp => hne p (hs p (.tail _ hp))
  case turn =>
    intro i v m5 nx5 h5 tk5 It oI hv hJ hIt hoff F5 N5
    obtain ⟨hn5, ys, e, tl, rfl, hY, hs, hne⟩ := hJ
    obtain ⟨ci, ti, hci, rfl⟩ := hHR.at hv
    have hi4 : i < 4 := by
      rcases Nat.lt_or_ge i 4 with h | h
      · exact h
      · rw [List.getElem?_eq_none (by simpa using h)] at hci; cases hci
    have hcii : ci = i := by
      have h1 : i = 0 ∨ i = 1 ∨ i = 2 ∨ i = 3 := by omega
      rcases h1 with rfl | rfl | rfl | rfl <;> simp at hci <;> exact hci.symm
    subst hcii
    have hyl : ys.length = 4 * ci := by simpa using hY.1
    have hxl := hmT_le hi4
    k_steps
    rename Fr _ _ _ _ => F6
    rename News _ _ _ _ => N6
    rename_i tk6 h6 h7 gl h8 l3
    obtain ⟨l3a, l3b, l3c⟩ := l3
    have hnI : nl ≠ It := hoff _ (.head _)
    have N7 : News g' L' _ ((It, oI) :: (nl, W.listOf ys.toArray e) :: (gl, W.listOf [.str (tgT 0) tk, .str (tgT 1) (tk + 1), .str (tgT 2) (tk + 1 + 1), .str (tgT 3) (tk + 1 + 1 + 1)].toArray 0) :: tl) := fun p hp => N6 p (by
      rcases List.mem_cons.mp hp with rfl | hp
      · exact .tail _ (.head _)
      · rcases List.mem_cons.mp hp with rfl | hp
        · exact .tail _ (.tail _ (.head _))
        · rcases List.mem_cons.mp hp with rfl | hp
          · exact .head _
          · exact .tail _ (.tail _ (.tail _ hp)))
    clear N6
    have hTR : RT tgT [.str (tgT 0) tk, .str (tgT 1) (tk + 1), .str (tgT 2) (tk + 1 + 1), .str (tgT 3) (tk + 1 + 1 + 1)] [0, 1, 2, 3] := .cons rfl (.cons rfl (.cons rfl (.cons rfl RT.nil)))
    generalize hvs2 : [Value.str (tgT 0) tk, .str (tgT 1) (tk + 1), .str (tgT 2) (tk + 1 + 1), .str (tgT 3) (tk + 1 + 1 + 1)] = vg at N7 hTR
    obtain ⟨m6, F7, hn6, hh6⟩ := fr_facts (fun m => m (Str.ofString "names") = some (.ref nl) ∧ m (Str.ofString "home") = some (.str (hmT ci) ti)) F6 ⟨by exact hn5, by rfl⟩
    clear F6
    refine turns_list (l := gl) (vs := vg) (J := fun j m nx => m (Str.ofString "names") = some (.ref nl) ∧ m (Str.ofString "home") = some (.str (hmT ci) ti) ∧ ∃ ys e tl2, nx = (It, oI) :: (nl, W.listOf (List.toArray ys) e) :: tl2 ∧ RT nmT ys (List.range (4 * ci + j)) ∧ (∀ p ∈ (gl, W.listOf vg.toArray 0) :: tl, p ∈ tl2) ∧ (∀ p ∈ tl2, p.1 ≠ nl ∧ p.1 ≠ It))
      (by rfl) F7 N7 (by k_mem) ⟨hn6, hh6, ys, e, _, rfl, hY, fun p hp => hp, ?off2⟩ ?hJ2 ?turn2 ?done2
    case off2 =>
      intro p hp
      rcases List.mem_cons.mp hp with rfl | hp
      · exact ⟨Nat.ne_of_gt l3b, Nat.ne_of_gt l3a⟩
      · exact ⟨hne p hp, hoff p (.tail _ hp)⟩
    case hJ2 =>
      rintro j m nx ⟨_, _, ys, e, tl, rfl, _, hs, _⟩
      exact .tail _ (.tail _ (hs _ (.head _)))
    case done2 =>
      intro m8 nx8 h8 tk8 hJ F8 N8
      obtain ⟨hn8, hh8, ys8, e8, tl8, rfl, hY8, hs8, hne8⟩ := hJ
      have h4 : vg.length = 4 := hTR.1
      rw [h4] at hY8
      k_steps
      refine TurnQ.next (nx₂ := (nl, W.listOf ys8.toArray e8) :: tl8) (by assumption) (by assumption) ?_ ⟨hn8, ys8, e8, tl8, rfl, by rw [Nat.mul_succ]; exact hY8, fun p hp => hs8 p (.tail _ (hs p hp)), fun p hp => (hne8 p hp).1⟩
      intro p hp
      rcases List.mem_cons.mp hp with rfl | hp
      · exact hnI
      · exact (hne8 p hp).2
    case turn2 =>
      intro j v m8 nx8 h8 tk8 It2 oI2 hv2 hJ hIt2 hoff2 F8 N8
      obtain ⟨hn8, hh8, ys8, e8, tl8, rfl, hY8, hs8, hne8⟩ := hJ
      obtain ⟨cj, tj, hcj, rfl⟩ := hTR.at hv2
      have hj4 : j < 4 := by
        rcases Nat.lt_or_ge j 4 with h | h
        · exact h
        · rw [List.getElem?_eq_none (by simpa using h)] at hcj; cases hcj
      have hcjj : cj = j := by
        have h1 : j = 0 ∨ j = 1 ∨ j = 2 ∨ j = 3 := by omega
        rcases h1 with rfl | rfl | rfl | rfl <;> simp at hcj <;> exact hcj.symm
      subst hcjj
      have hyl8 : ys8.length = 4 * ci + cj := by simpa using hY8.1
      have hI2n : It2 ≠ nl := fun e => hoff2 _ (.tail _ (.head _)) e.symm
      have hI2I : It2 ≠ It := fun e => hoff2 _ (.head _) e.symm
      k_steps
      refine Hold.mk ?_
      k_dflt (refine' q2_c (x := hmT ci) (y := tgT cj) (tgT_le hj4).2 (tgT_le hj4).1 hxl ?kB ?kF ?kX ?kN ?kT ?kk ?kd ?ku ?_)
      (case kB => k_asm); (case kF => k_asm); (case kX => assumption); (case kN => k_asm); (case kT => k_asm); (case kk => exact rfl); (case kd => ktr_room); (case ku => ktr_units)
      intro q dx eq nq tq h9 tk9 F9 N9 gq lq1 lq2
      rw [nmT_eq hi4 hj4] at gq
      have hdn : dx ≠ nl := Nat.ne_of_gt (lq1 _ (.tail _ (.tail _ (.head _))))
      have hqn : q ≠ nl := Nat.ne_of_gt (Nat.lt_trans (lq1 _ (.tail _ (.tail _ (.head _)))) lq2)
      have hdI : dx ≠ It := Nat.ne_of_gt (lq1 _ (.tail _ (.head _)))
      have hqI : q ≠ It := Nat.ne_of_gt (Nat.lt_trans (lq1 _ (.tail _ (.head _))) lq2)
      have hdI2 : dx ≠ It2 := Nat.ne_of_gt (lq1 _ (.head _))
      have hqI2 : q ≠ It2 := Nat.ne_of_gt (Nat.lt_trans (lq1 _ (.head _)) lq2)
      have hysl : ys8.toArray.size ≤ sizeLine := by simp [sizeLine_eq]; omega
      have hU : Upd nl (W.listOf ys8.toArray e8) (W.listOf (ys8.toArray.push (Value.str (nmT (4 * ci + cj)) tq)) (e8 + 1)) ((q, instObj 228 dx) :: (dx, dictOf eq nq) :: (It2, oI2) :: (It, oI) :: (nl, W.listOf ys8.toArray e8) :: tl8)
          ((q, instObj 228 dx) :: (dx, dictOf eq nq) :: (It2, oI2) :: (It, oI) :: (nl, W.listOf (ys8.toArray.push (Value.str (nmT (4 * ci + cj)) tq)) (e8 + 1)) :: tl8) :=
        Upd.tail hqn (Upd.tail hdn (Upd.tail hI2n (Upd.tail (Ne.symm hnI) (Upd.head fun p hp => (hne8 p hp).1))))
      k_steps
      have eP : ys8.toArray.push (Value.str (nmT (4 * ci + cj)) tq) = (ys8 ++ [Value.str (nmT (4 * ci + cj)) tq]).toArray := by simp
      rename News _ _ _ _ => N12
      rw [eP] at N12
      refine TurnQ.next (nx₂ := (It, oI) :: (nl, W.listOf (ys8 ++ [Value.str (nmT (4 * ci + cj)) tq]).toArray (e8 + 1)) :: (q, instObj 228 dx) :: (dx, dictOf eq nq) :: tl8) (by assumption) (fun p hp => N12 p (by
        simp only [List.mem_cons] at hp ⊢
        rcases hp with h | h | h | h | h | h
        · exact .inr (.inr (.inl h))
        · exact .inr (.inr (.inr (.inl h)))
        · exact .inr (.inr (.inr (.inr (.inl h))))
        · exact .inl h
        · exact .inr (.inl h)
        · exact .inr (.inr (.inr (.inr (.inr h)))))) ?_ ⟨?hn, ?hh, ys8 ++ [Value.str (nmT (4 * ci + cj)) tq], e8 + 1, _, rfl, ?hR, fun p hp => .tail _ (.tail _ (hs8 p hp)), ?hne⟩
      case hn => exact hn8
      case hh => exact hh8
      case hR =>
        rw [← Nat.add_assoc, List.range_succ]
        exact hY8.push
      case hne =>
        intro p hp
        rcases List.mem_cons.mp hp with rfl | hp
        · exact ⟨hqn, hqI⟩
        · rcases List.mem_cons.mp hp with rfl | hp
          · exact ⟨hdn, hdI⟩
          · exact hne8 p hp
      · intro p hp
        simp only [List.mem_cons] at hp
        rcases hp with rfl | rfl | rfl | rfl | hp
        · exact Ne.symm hI2I
        · exact Ne.symm hI2n
        · exact hqI2
        · exact hdI2
        · exact hoff2 p (.tail _ (.tail _ hp))
end
section
local macro_rules | `(tactic| walk_at "call builtin:sorted") => `(tactic| (k_here; refine Hold.out ?_))
section
local macro_rules | `(tactic| walk_at "eval ListComp") => `(tactic| (k_here; refine Hold.out ?_))
section
local macro_rules | `(tactic| walk_at "exec Assign cons ListComp") => `(tactic| (k_here; refine Hold.out ?_))
section
local macro_rules | `(tactic| walk_at "SrcW") => `(tactic| (k_here; refine Hold.out ?_))
section
local macro_rules | `(tactic| walk_at "loadName") => mT17
section
def mT24 : Lean.MacroM (Lean.TSyntax `tactic) := do
  let t0 ← segT (← `(words_index)) 7 6 "a2b:c;d;e;f6"
  `(tactic| (k_here; (with_reducible show wpAny _ _ (call (Value.builtin _) [Value.ref _, Value.str _ _]) _ _ _); k_dflt ($t0:tactic; k_whole)))
local macro_rules | `(tactic| walk_at "call builtin:list.index") => mT24
-- RI_02
section
set_option maxHeartbeats 4000000 in
theorem rises_c {w : World} {p : Program} {loose : List Str} {mean : ExcName → Option Value} {mg mb : Str → Option Value}
    {dp un : Nat} {gd : Option (List Code)} {cn : Str} {cs : Scope} {a : Addr} {ccd : Value} {cl : List (Str × Addr)} {outer : List Env} {A₀ : Around} {base h₀ : Heap} {L : Addr} {m : Str → Option Value} {s : Shared}
    {Q E : Value → Shared → Prop} {news : List (Addr × Obj)}
    {nm : Nat → Str} {col nml : Addr} {vr nv : List Value} {er en : Nat} {ns : List Nat}
    (hnm : Rises nm 16) (hR : RT nm vr ns) (hcs : ∀ c ∈ ns, c < 16) (hlen : ns.length = 4) (hV : RT nm nv (List.range 16))
    (B : Below A₀ base outer h₀) (F : Fr h₀ L s.heap m) (X : (hd.heap_39 w.params).In h₀) (N : News h₀ L s.heap news) (T : Top p loose mean mg mb h₀) (hk : cs.kind = .function)
    (hd : dp + 20 < recursionLimit) (hu : un + 200 < cLine)
    (hm : (col, W.listOf vr.toArray er) ∈ news) (hn : (nml, W.listOf nv.toArray en) ∈ news)
    (ret : ∀ h' tk', Fr h₀ L h' m → News h₀ L h' news → Q (.bool (decide (ns.Pairwise (· ≤ ·)))) { s with heap := h', toks := tk' }) :
    wpAny (model PySem.Challenge.pw_xp0015_02 w) (ktrTop dp un gd cn cs L a ccd cl outer) (call (.ref 266) [.ref col, .ref nml]) Q E s := by
  refine wpAny_call ?_
  k_dflt (refine' code_defC ?k1 ?k2 ?k3 ?k4 ?k5 ?kA ?kF ?kK ?k6 ?k7 ?k8 ?k9 ?kB ?kD ?_ ?c2 ?c3 ?c4; (case kA => exact rfl); (case kF => exact rfl); (case kK => assumption); (case k1 => k_asm); (case k2 => k_asm); (case k3 => k_asm); (case k4 => k_asm); (case k5 => k_asm); (case k6 => k_is); (case k7 => k_is); (case k8 => ktr_room); (case k9 => exact BindsTo.of_eq rfl); (case kB => exact rfl); (case kD => decide +kernel); (case c2 => exact rfl); (case c3 => exact rfl); (case c4 => exact rfl))
  intro g' L' h' tk' cells' FG' F' N' Y' B' X' T' l1
  k_cells Y'
  simp only [List.cons_append, List.nil_append] at N'
  dsimp only

  rename_i oc dc
  k_steps
  refine Hold.mk ?_
  refine Assign_ListComp_W (by k_asm) (by rfl) (by with_unfolding_all rfl) (by with_unfolding_all rfl) (by decide) rfl (by decide) rfl rfl rfl ?_
  k_steps
  rename Fr _ _ _ _ => F3
  rename News _ _ _ _ => N3
  refine Hold.mk ?_
  refine srcW_list (vs := vr) rfl F3 N3 (by k_mem) (by rw [hR.1, hlen]; decide) (fun g0 => ?_)
  refine compRest_R (R := fun i y => ∃ t, y = .int ((ns.getD i 0 : Nat) : Int) t) (by k_mem) ?step ?fin
  case step =>
    intro i ys v I oI C oC D m₂ h4 tk4 E' hi hP hC hx F4 N4
    obtain ⟨c, t, hc, rfl⟩ := hR.at hP
    have hc16 : c < 16 := hcs c (List.mem_of_getElem? hc)
    k_steps
    exact ElR.intro (by assumption) (by assumption) ⟨_, by rw [List.getD_eq_getElem?_getD, hc]; rfl⟩
  case fin =>
    intro ys hl hy D h5 tk5 F5 N5 o5
    have hI : IT ys ns := IT.of_get (hl.trans hR.1) hy
    k_steps
    rename Fr _ _ _ _ => F6
    rename News _ _ _ _ => N6
    refine Hold.mk ?_
    have hII := hI.ints
    refine kso_sorted F6 N6 ⟨_, (N6 (D, lst ys) (by k_mem)).1, rfl, _, rfl⟩ hII (by simp [hlen]) ?_
    intro D2 vs2 ns2 c2 h7 F7 N7 l7 i7 e7 p7 o7 _
    k_steps
    rename News _ _ _ _ => N9
    rw [sorted_iff p7 o7]
    exact ret _ _ (by assumption) (fun p hp => by first | exact N9 p hp | exact N9 p (.tail _ hp) | exact N9 p (.tail _ (.tail _ hp)) | exact N9 p (.tail _ (.tail _ (.tail _ hp))))
end
end
section
def mT25 : Lean.MacroM (Lean.TSyntax `tactic) := do
  let t0 ← segT (← `(led_item)) 8 5 "a2b:cDdDe;gEhF"
  let t1 ← segT (← `(led_itemV)) 8 5 "a2b:cDdDe0gEhF"
  `(tactic| (k_here; (with_reducible show wpAny _ _ (subscriptTail _ _ (Value.ref _) (Value.int _ _)) _ _ _); k_dflt (first | ($t0:tactic; k_whole) | ($t1:tactic; k_whole))))
local macro_rules | `(tactic| walk_at "subscriptTail") => mT25
section
def mT26 : Lean.MacroM (Lean.TSyntax `tactic) := do
  let t0 ← segT (← `(kmk_add_lit)) 7 5 "a2b2cGdGeHgI"
  `(tactic| (k_here; (with_reducible show wpAny _ _ (binaryOp _ (Value.ref _) (Value.ref _)) _ _ _); k_dflt ($t0:tactic); intro D' h' F' N' l1))
local macro_rules | `(tactic| walk_at "binaryOp Add ref ref") => mT26
section
def mT27 : Lean.MacroM (Lean.TSyntax `tactic) := do
  let t0 ← segT (← `(kms_slice_lit)) 10 6 "a2b2cGdJeJfHhEiFjI"
  `(tactic| (k_here; (with_reducible show wpAny _ _ (subscriptTail _ (PySem.Expr.Slice _ _ none _) (Value.ref _) (Value.ref _)) _ _ _); k_dflt ($t0:tactic); intro D' h' F' N' l1))
local macro_rules | `(tactic| walk_at "subscriptTail Name Slice ref ref") => mT27
section
local macro_rules | `(tactic| walk_at "eval Name") => mT19
section
local macro_rules | `(tactic| walk_at "exec For Name Call cons nil") => mT16
-- CO_02
section
theorem ints_at {vs : List Value} {ns : List Int} (h : IntsAre vs ns) : ∀ {i : Nat} {v : Value}, vs[i]? = some v → ∃ z t, ns[i]? = some z ∧ v = .int z t := by
  induction h with
  | nil => intro i v e; simp at e
  | cons n t _ ih =>
    intro i v e
    cases i with
    | zero => simp at e; exact ⟨n, t, by simp, e.symm⟩
    | succ i => simp at e; obtain ⟨z, t', a, b⟩ := ih e; exact ⟨z, t', by simpa using a, b⟩
set_option maxHeartbeats 4000000 in
theorem codes_c {w : World} {p : Program} {loose : List Str} {mean : ExcName → Option Value} {mg mb : Str → Option Value}
    {dp un : Nat} {gd : Option (List Code)} {cn : Str} {cs : Scope} {a : Addr} {ccd : Value} {cl : List (Str × Addr)} {outer : List Env} {A₀ : Around} {base h₀ : Heap} {L : Addr} {m : Str → Option Value} {s : Shared}
    {Q E : Value → Shared → Prop} {news : List (Addr × Obj)}
    {sc : Addr} {vsc : List Value} {xs : List Int} (hsc : h₀.IsList sc vsc.toArray) (hI : IntsAre vsc xs) (hx63 : xs.length ≤ 63)
    (B : Below A₀ base outer h₀) (F : Fr h₀ L s.heap m) (X : (hd.heap_39 w.params).In h₀) (N : News h₀ L s.heap news) (T : Top p loose mean mg mb h₀) (hk : cs.kind = .function)
    (hd : dp + 20 < recursionLimit) (hu : un + 200 < cLine)
    (ret : ∀ t ys ns h' tk', IT ys ns → ns.length = 16 → (∀ c ∈ ns, c < 16) → Fr h₀ L h' m → News h₀ L h' ((t, lst ys) :: news) → (∀ p ∈ news, p.1 ≠ t) → Q (.ref t) { s with heap := h', toks := tk' }) :
    wpAny (model PySem.Challenge.pw_xp0015_02 w) (ktrTop dp un gd cn cs L a ccd cl outer) (call (.ref 237) [.ref sc]) Q E s := by
  have hvl : vsc.length = xs.length := IntsAre.length hI
  refine wpAny_call ?_
  k_dflt ktr_enter
  rename_i g' L' h' FG' F' N' B' X' T'
  have hsc' : g'.IsList sc vsc.toArray := by
    obtain ⟨o, ho, r⟩ := hsc
    exact ⟨o, FG'.keep _ _ ho, r⟩
  k_steps
  rename IsRange _ _ _ _ _ _ _ _ => hr
  rename Fr _ _ _ _ => F3
  rename News _ _ _ _ => N3
  obtain ⟨n, hn60, hnx, hne⟩ : ∃ n : Nat, n ≤ 60 ∧ n ≤ xs.length ∧ (if (60 : Int) < (xs.length : Int) then (60 : Int) else (xs.length : Int)) = (n : Int) := by
    by_cases h : 60 < xs.length
    · exact ⟨60, Nat.le_refl _, by omega, by rw [if_pos (by omega)]; rfl⟩
    · exact ⟨xs.length, by omega, Nat.le_refl _, by rw [if_neg (by omega)]⟩
  rw [hne] at hr
  clear hne
  rename_i cl h3 l3 h4 F5 h5 tk5 F6 N6 h6 tk6 t1 u1 v1 a4
  obtain ⟨us0, zs0, hU0, hz0, N4⟩ : ∃ us zs, IntsAre us zs ∧ zs.length = 16 ∧ News g' L' h6 ((cl, W.listOf (List.toArray us) 0) :: news) := ⟨_, [9, 2, 14, 4, 11, 0, 7, 13, 5, 1, 15, 8, 3, 10, 6, 12], by repeat constructor, rfl, N3⟩
  clear N3
  obtain ⟨m3, F7, hc3, hs3⟩ := fr_facts (fun m => m (Str.ofString "cells") = some (.ref cl) ∧ m (Str.ofString "script") = some (.ref sc)) F3 ⟨by rfl, by rfl⟩
  clear F3
  refine turns_range (n := n) (J := fun i m nx => m (Str.ofString "cells") = some (.ref cl) ∧ m (Str.ofString "script") = some (.ref sc) ∧ ∃ us e zs, nx = (cl, W.listOf (List.toArray us) e) :: news ∧ IntsAre us zs ∧ zs.length = 16)
    (by rfl) hr (small_one (by omega) (by omega) (by omega) (by omega)) (by rw [rangeSize_nat]; omega) F7 N4 ⟨hc3, hs3, us0, 0, zs0, rfl, hU0, hz0⟩ ?turn ?done
  case turn =>
    intro i m5 nx5 h5 tk5 It oI tv hi hJ hIt hoff F5 N5
    obtain ⟨hc5, hs5, us, e, zs, rfl, hU, hz⟩ := hJ
    have hul : us.length = 16 := (IntsAre.length hU).trans hz
    have hIc : It ≠ cl := fun e => hoff _ (.head _) e.symm
    have hmod : 0 ≤ ((0 + (i : Int) * 1).fmod 16) ∧ ((0 + (i : Int) * 1).fmod 16) < 16 := ⟨Int.fmod_nonneg_of_pos _ (by decide), Int.fmod_lt_of_pos _ (by decide)⟩
    k_steps
    rename Fr _ _ _ _ => F8
    rename News _ _ _ _ => N8
    refine ksa_set F8 N8 (Upd.tail hIc (Upd.head fun p hp => Nat.ne_of_lt (l3 p hp))) hU hmod.1 (by rw [hz]; exact hmod.2) (by have := hmod.2; omega) (fun h9 F9 N9 hU9 hz9 _ => ?_)
    k_steps
    refine TurnQ.next (nx₂ := (cl, W.listOf (List.toArray _) e) :: news) (by assumption) (by assumption) ?_ ⟨?hc, ?hs, _, e, _, rfl, hU9, hz9.trans hz⟩
    case hc => exact hc5
    case hs => exact hs5
    intro p hp
    rcases List.mem_cons.mp hp with rfl | hp
    · exact Ne.symm hIc
    · exact hoff p (.tail _ hp)
  case done =>
    intro m5 nx5 h5 tk5 hJ F5 N5
    obtain ⟨hc5, hs5, us, e, zs, rfl, hU, hz⟩ := hJ
    have hul : us.length = 16 := (IntsAre.length hU).trans hz
    k_steps
    refine Hold.mk ?_
    refine ListComp_W (by k_asm) (by with_unfolding_all rfl) (by decide) rfl (by decide) rfl ?_
    k_steps
    rename Fr _ _ _ _ => F8
    rename News _ _ _ _ => N8
    refine Hold.mk ?_
    refine srcW_list (vs := us) rfl F8 N8 (by k_mem) (by rw [hul]; decide) (fun g0 => ?_)
    refine compRest_R (R := fun i y => ∃ t, y = .int (((zs.map fun z => (z.fmod 16).toNat).getD i 0 : Nat) : Int) t) (by k_mem) ?step ?fin
    case step =>
      intro i ys v I oI C oC D m₂ h4 tk4 E' hi hP hC hx F9 N9
      obtain ⟨z, t, hzi, rfl⟩ : ∃ z t, zs[i]? = some z ∧ v = .int z t := ints_at hU hP
      k_steps
      have e1 : (((zs.map fun z => (z.fmod 16).toNat).getD i 0 : Nat) : Int) = z.fmod 16 := by
        rw [List.getD_eq_getElem?_getD, List.getElem?_map, hzi]
        exact Int.toNat_of_nonneg (Int.fmod_nonneg_of_pos _ (by decide))
      refine ElR.intro (by assumption) (by assumption) ?_
      rw [e1]
      exact ⟨_, rfl⟩
    case fin =>
      intro ys hl hy D h5 tk5 F9 N9 o5
      have hI : IT ys (zs.map fun z => (z.fmod 16).toNat) := IT.of_get (by simp [hl, hz, hul]) hy
      k_steps
      rename News _ _ _ _ => N10
      refine ret D ys _ _ _ hI (by simp [hz]) ?_ (by assumption) (fun p hp => N10 p (by
        rcases List.mem_cons.mp hp with rfl | hp
        · exact .head _
        · repeat (first | exact hp | apply List.Mem.tail))) (fun p hp => off1_mem o5 p (.tail _ hp))
      intro c hc
      obtain ⟨z, _, rfl⟩ := List.mem_map.mp hc
      have h1 := Int.fmod_lt_of_pos z (show (0 : Int) < 16 by decide)
      omega
end
end
end
section
local macro_rules | `(tactic| walk_at "call builtin:list.index") => mT24
-- TU_02
section
theorem sw8 (a b c d e f g h : UInt8) : sw [a, b, c, d, e, f, g, h] 4 8 = #[d, c, b, a, h, g, f, e] := by
  apply Array.ext'
  simp [sw, List.replicate, Array.toList_setIfInBounds, Array.toList_replicate]
set_option maxHeartbeats 4000000 in
theorem turned_c {w : World} {p : Program} {loose : List Str} {mean : ExcName → Option Value} {mg mb : Str → Option Value}
    {dp un : Nat} {cn : Str} {cs : Scope} {a : Addr} {ccd : Value} {cl : List (Str × Addr)} {outer : List Env} {A₀ : Around} {base h₀ : Heap} {L : Addr} {m : Str → Option Value} {s : Shared}
    {Q E : Value → Shared → Prop} {news : List (Addr × Obj)}
    {nm : Nat → Str} {rws nml a0 a1 a2 a3 : Addr} {v1 v3 nv : List Value} {er en e1 e3 : Nat} {c1 c3 : List Nat}
    (hnm : Rises nm 16) (h1 : RT nm v1 c1) (h3 : RT nm v3 c3) (hc1 : ∀ c ∈ c1, c < 16) (hc3 : ∀ c ∈ c3, c < 16) (hl1 : c1.length = 4) (hl3 : c3.length = 4) (hV : RT nm nv (List.range 16))
    (B : Below A₀ base outer h₀) (F : Fr h₀ L s.heap m) (X : (hd.heap_39 w.params).In h₀) (N : News h₀ L s.heap news) (T : Top p loose mean mg mb h₀) (hk : cs.kind = .function)
    (hd : dp + 30 < recursionLimit) (hu : un + 300 < cLine)
    (hm : (rws, W.listOf #[.ref a0, .ref a1, .ref a2, .ref a3] er) ∈ news) (hn : (nml, W.listOf nv.toArray en) ∈ news) (hm1 : (a1, W.listOf v1.toArray e1) ∈ news) (hm3 : (a3, W.listOf v3.toArray e3) ∈ news)
    (ret : ∀ t b1 b3 w1 w3 h' tk', RT nm w1 c1.reverse → RT nm w3 c3.reverse → Fr h₀ L h' m → News h₀ L h' ((t, W.listOf #[.ref a0, .ref b1, .ref a2, .ref b3] 0) :: (b1, W.listOf w1.toArray 0) :: (b3, W.listOf w3.toArray 0) :: news) → (∀ p ∈ news, p.1 ≠ t ∧ p.1 ≠ b1 ∧ p.1 ≠ b3) → t ≠ b1 → t ≠ b3 → b1 ≠ b3 → Q (.ref t) { s with heap := h', toks := tk' }) :
    wpC (model PySem.Challenge.pw_xp0015_02 w) (ktrTop dp un (some []) cn cs L a ccd cl outer) (call (.ref 254) [.ref rws, .ref nml]) Q E s := by
  obtain ⟨p0, p1, p2, p3, rfl⟩ := four hl1
  obtain ⟨q0, q1, q2, q3, rfl⟩ := four hl3
  obtain ⟨t0, t1, t2, t3, rfl⟩ := h1.four
  obtain ⟨t4, t5, t6, t7, rfl⟩ := h3.four
  refine wpC_call ?_
  k_dflt (refine' codeC_defC B F X N T ?kA ?kF ?kK ?k6 ?k7 ?k8 ?k9 ?kB ?kD ?_ ?c2 ?c3 ?c4; (case kA => exact rfl); (case kF => exact rfl); (case kK => assumption); (case k6 => k_is); (case k7 => k_is); (case k8 => ktr_room); (case k9 => exact BindsTo.of_eq rfl); (case kB => exact rfl); (case kD => decide +kernel); (case c2 => exact rfl); (case c3 => exact rfl); (case c4 => exact rfl))
  intro g' L' h' tk' cells' FG' F' N' Y' B' X' T' l1
  k_cells Y'
  simp only [List.cons_append, List.nil_append] at N'
  rename_i oc dc
  refine wpC_execs_cons ?_
  refine wpC_Assign_Name ?_
  refine wpC_callName (f := .ref 28) (P := (Mine.hd.heap_39 w.params).In) rfl ?hf (by rfl) (by rfl) (keeps_K (by k_is)) ?_
  case hf => k_steps
  refine wpC_of ?_
  k_steps
  refine Hold.mk ?_
  refine ListComp_W (by k_asm) (by with_unfolding_all rfl) (by decide) rfl (by decide) rfl ?_
  k_steps
  rename Fr _ _ _ _ => F3
  rename News _ _ _ _ => N3
  refine Hold.mk ?_
  refine srcW_list (vs := [.str (nm p0) t0, .str (nm p1) t1, .str (nm p2) t2, .str (nm p3) t3, .str (nm q0) t4, .str (nm q1) t5, .str (nm q2) t6, .str (nm q3) t7]) rfl F3 N3 (by k_mem) (Nat.le_of_ble_eq_true rfl) (fun g0 => ?_)
  have hR : RT nm [.str (nm p0) t0, .str (nm p1) t1, .str (nm p2) t2, .str (nm p3) t3, .str (nm q0) t4, .str (nm q1) t5, .str (nm q2) t6, .str (nm q3) t7] [p0, p1, p2, p3, q0, q1, q2, q3] :=
    .cons rfl (.cons rfl (.cons rfl (.cons rfl (.cons rfl (.cons rfl (.cons rfl (.cons rfl RT.nil)))))))
  have hcs : ∀ c ∈ [p0, p1, p2, p3, q0, q1, q2, q3], c < 16 := by
    intro c hc
    simp only [List.mem_cons, List.not_mem_nil, or_false] at hc hc1 hc3
    rcases hc with h | h | h | h | h | h | h | h
    · exact hc1 c (.inl h)
    · exact hc1 c (.inr (.inl h))
    · exact hc1 c (.inr (.inr (.inl h)))
    · exact hc1 c (.inr (.inr (.inr h)))
    · exact hc3 c (.inl h)
    · exact hc3 c (.inr (.inl h))
    · exact hc3 c (.inr (.inr (.inl h)))
    · exact hc3 c (.inr (.inr (.inr h)))
  refine compRest_R (R := fun i y => ∃ t, y = .int (([p0, p1, p2, p3, q0, q1, q2, q3].getD i 0 : Nat) : Int) t) (by k_mem) ?step ?fin
  case step =>
    intro i ys v I oI C oC D m₂ h4 tk4 E' hi hP hC hx F4 N4
    obtain ⟨c, t, hc, rfl⟩ := hR.at hP
    have hc16 : c < 16 := hcs c (List.mem_of_getElem? hc)
    k_steps
    exact ElR.intro (by assumption) (by assumption) ⟨_, by rw [List.getD_eq_getElem?_getD, hc]; rfl⟩
  case fin =>
    intro ys hl hy D h5 tk5 F5 N5 o5
    have hI : IT ys [p0, p1, p2, p3, q0, q1, q2, q3] := IT.of_get hl hy
    k_steps
    rename Fr _ _ _ _ => F6
    rename News _ _ _ _ => N6
    refine led_bytes F6 N6 (by k_mem) hI (fun c hc => Nat.lt_trans (hcs c hc) (by decide)) (Nat.le_of_ble_eq_true rfl) rfl ?_
    intro h7 tb k7 F7 N7
    k_steps
    refine swap_c (x := List.map Nat.toUInt8 [p0, p1, p2, p3, q0, q1, q2, q3]) rfl B' F7 X' N7 T' rfl ?kd ?ku ?_
    (case kd => ktr_room); (case ku => ktr_units)
    intro h8 tk8 t8 F8 N8
    have hsw : sw (List.map Nat.toUInt8 [p0, p1, p2, p3, q0, q1, q2, q3]) 4 8 = ([p3, p2, p1, p0, q3, q2, q1, q0].map Nat.toUInt8).toArray := sw8 _ _ _ _ _ _ _ _
    rw [hsw]
    clear hsw
    k_steps
    refine wpC_of ?_
    k_steps
    refine Hold.mk ?_
    refine Assign_ListComp_W (by k_asm) (by rfl) (by with_unfolding_all rfl) (by with_unfolding_all rfl) (by decide) rfl (by decide) rfl rfl rfl ?_
    k_steps
    rename Fr _ _ _ _ => F9
    rename News _ _ _ _ => N9
    refine Hold.mk ?_
    refine srcW_bytes rfl F9 N9 (Nat.le_of_ble_eq_true rfl) (fun g1 => ?_)
    have hcs2 : ∀ c ∈ [p3, p2, p1, p0, q3, q2, q1, q0], c < 16 := by
      intro c hc
      refine hcs c ?_
      simp only [List.mem_cons, List.not_mem_nil, or_false] at hc ⊢
      grind
    refine compRest_R (R := fun i y => ∃ t, y = .str (nm ([p3, p2, p1, p0, q3, q2, q1, q0].getD i 0)) t) trivial ?step2 ?fin2
    case step2 =>
      intro i ys2 v I oI C oC D2 m₂ h10 tk10 E' hi hP hC hx F10 N10
      obtain ⟨c8, u8, hc8, rfl⟩ := hP
      obtain ⟨c0, hc0, rfl⟩ : ∃ c0, [p3, p2, p1, p0, q3, q2, q1, q0][i]? = some c0 ∧ c8 = c0.toUInt8 := by
        rw [List.getElem?_toArray, List.getElem?_map] at hc8
        obtain ⟨c0, h1, h2⟩ := Option.map_eq_some_iff.mp hc8
        exact ⟨c0, h1, h2.symm⟩
      have hc16 : c0 < 16 := hcs2 c0 (List.mem_of_getElem? hc0)
      have e0 : c0.toUInt8.toNat = c0 := by
        simp only [Nat.toUInt8, UInt8.toNat_ofNat']
        omega
      rw [e0] at hx
      clear e0 hc8
      obtain ⟨tn, hnx⟩ := names_get hV hc16
      k_steps
      exact ElR.intro (by assumption) (by assumption) ⟨_, by rw [List.getD_eq_getElem?_getD, hc0]; rfl⟩
    case fin2 =>
      intro ys2 hl2 hy2 D2 h10 tk10 F10 N10 o10
      obtain ⟨s0, s1, s2, s3, s4, s5, s6, s7, rfl⟩ := (RT.of_get (cs := [p3, p2, p1, p0, q3, q2, q1, q0]) hl2 hy2).eight
      k_steps
      rename_i b1 h11 lb1 b3 h12 lb3 t9 h13 F13 N13 lt9 kF kN Tc kX
      refine ret t9 b1 b3 [.str (nm p3) s0, .str (nm p2) s1, .str (nm p1) s2, .str (nm p0) s3] [.str (nm q3) s4, .str (nm q2) s5, .str (nm q1) s6, .str (nm q0) s7] _ _ (.cons rfl (.cons rfl (.cons rfl (.cons rfl RT.nil)))) (.cons rfl (.cons rfl (.cons rfl (.cons rfl RT.nil)))) kF (fun p hp => kN p ?_) (fun p hp => ⟨?_, ?_, ?_⟩) ?_ ?_ ?_
      · rcases List.mem_cons.mp hp with rfl | hp
        · exact .head _
        · rcases List.mem_cons.mp hp with rfl | hp
          · exact .tail _ (.tail _ (.head _))
          · rcases List.mem_cons.mp hp with rfl | hp
            · exact .tail _ (.head _)
            · repeat (first | exact hp | apply List.Mem.tail)
      · exact Ne.symm (allLt_ne (o := p.2) lt9.2.2.2.2.2.2 hp)
      · exact Nat.ne_of_lt (lb1 p (.tail _ (.tail _ (.tail _ (.tail _ hp)))))
      · exact Nat.ne_of_lt (lb3 p (.tail _ (.tail _ (.tail _ (.tail _ (.tail _ hp))))))
      · exact Nat.ne_of_gt lt9.2.1
      · exact Nat.ne_of_gt lt9.1
      · exact Nat.ne_of_lt (lb3 _ (.head _))
end
section
local macro_rules | `(tactic| walk_at "exec For Name Name cons nil") => mT16
section
local macro_rules | `(tactic| walk_at "call builtin:min") => `(tactic| (k_here; refine Hold.out ?_))
section
local macro_rules | `(tactic| walk_at "call builtin:max") => `(tactic| (k_here; refine Hold.out ?_))
section
local macro_rules | `(tactic| walk_at "call builtin:list.append") => `(tactic| (k_here; refine Hold.out ?_))
section
local macro_rules | `(tactic| walk_at "SrcK") => `(tactic| (k_here; refine Hold.out ?_))
-- PA_02
section
noncomputable def Span (nx : List (Addr × Obj)) (v : Value) (r : List Nat) : Prop := ∃ t lo hi u1 u2, v = .ref t ∧ (t, tupO (.int lo u1) (.int hi u2)) ∈ nx ∧ lo ∈ r.map (fun n : Nat => (n : Int)) ∧ (∀ a, a ∈ r.map (fun n : Nat => (n : Int)) → lo ≤ a) ∧ hi ∈ r.map (fun n : Nat => (n : Int)) ∧ (∀ a, a ∈ r.map (fun n : Nat => (n : Int)) → a ≤ hi)
theorem span_lt {r : List Nat} {lo : Int} (t : Nat) (h1 : lo ∈ r.map (fun n : Nat => (n : Int))) (h2 : ∀ a, a ∈ r.map (fun n : Nat => (n : Int)) → lo ≤ a) : r.any (· < t) = decide (lo < (t : Int)) := by
  rw [Bool.eq_iff_iff, List.any_eq_true, decide_eq_true_iff]
  constructor
  · rintro ⟨x, hx, hlt⟩
    have := h2 _ (List.mem_map_of_mem hx)
    have := of_decide_eq_true hlt
    omega
  · intro h
    obtain ⟨x, hx, rfl⟩ := List.mem_map.mp h1
    exact ⟨x, hx, decide_eq_true (by omega)⟩
theorem span_le {r : List Nat} {hi : Int} (t : Nat) (h1 : hi ∈ r.map (fun n : Nat => (n : Int))) (h2 : ∀ a, a ∈ r.map (fun n : Nat => (n : Int)) → a ≤ hi) : r.any (t ≤ ·) = decide ((t : Int) ≤ hi) := by
  rw [Bool.eq_iff_iff, List.any_eq_true, decide_eq_true_iff]
  constructor
  · rintro ⟨x, hx, hlt⟩
    have := h2 _ (List.mem_map_of_mem hx)
    have := of_decide_eq_true hlt
    omega
  · intro h
    obtain ⟨x, hx, rfl⟩ := List.mem_map.mp h1
    exact ⟨x, hx, decide_eq_true (by omega)⟩
theorem filter_at (rows : List (List Nat)) (f : List Nat → Bool) : ((List.range rows.length).filter fun j => f (rows.getD j [])).length = (rows.filter f).length := by
  have e : rows = (List.range rows.length).map fun j => rows.getD j [] := by
    apply List.ext_getElem
    · simp
    · intro i h1 h2
      simp [List.getD_eq_getElem?_getD, h1]
  have e2 : rows.filter f = ((List.range rows.length).map fun j => rows.getD j []).filter f := congrArg _ e
  rw [e2, List.filter_map, List.length_map]
  rfl
theorem Span.mono {nx nx' : List (Addr × Obj)} {v : Value} {r : List Nat} (h : Span nx v r) (hs : ∀ p ∈ nx, p ∈ nx') : Span nx' v r := by
  obtain ⟨t, lo, hi, u1, u2, e, m, z⟩ := h
  exact ⟨t, lo, hi, u1, u2, e, hs _ m, z⟩
noncomputable def Spans (nx : List (Addr × Obj)) (ss : List Value) (rows : List (List Nat)) : Prop := ∀ (j : Nat) (v : Value) (r : List Nat), ss[j]? = some v → rows[j]? = some r → Span nx v r
noncomputable def partedAt (rows : List (List Nat)) (t : Nat) : Nat := (rows.filter fun r => r.any (· < t) && r.any (t ≤ ·)).length
set_option maxHeartbeats 4000000 in
theorem parted_c {w : World} {p : Program} {loose : List Str} {mean : ExcName → Option Value} {mg mb : Str → Option Value}
    {dp un : Nat} {gd : Option (List Code)} {cn : Str} {cs : Scope} {a : Addr} {ccd : Value} {cl : List (Str × Addr)} {outer : List Env} {A₀ : Around} {base h₀ : Heap} {L : Addr} {m : Str → Option Value} {s : Shared}
    {Q E : Value → Shared → Prop} {news : List (Addr × Obj)}
    {nm : Nat → Str} {brd nml : Addr} {er en : Nat} {ras : List Value} {nv : List Value} {rows : List (List Nat)}
    (hnm : Rises nm 16) (hV : RT nm nv (List.range 16)) (hl : rows.length = 4) (hr : ∀ r ∈ rows, r.length = 4 ∧ ∀ c ∈ r, c < 16)
    (B : Below A₀ base outer h₀) (F : Fr h₀ L s.heap m) (X : (hd.heap_39 w.params).In h₀) (N : News h₀ L s.heap news) (T : Top p loose mean mg mb h₀) (hk : cs.kind = .function)
    (hd : dp + 30 < recursionLimit) (hu : un + 300 < cLine)
    (hm : (brd, W.listOf ras.toArray er) ∈ news) (hn : (nml, W.listOf nv.toArray en) ∈ news) (hb : ras.length = 4) (hrow : ∀ (i : Nat) (v : Value) (r : List Nat), ras[i]? = some v → rows[i]? = some r → ∃ a vs e, v = .ref a ∧ (a, W.listOf (List.toArray vs) e) ∈ news ∧ RT nm vs r)
    (ret : ∀ i h' tk' t, i < 15 → Fr h₀ L h' m → News h₀ L h' news → Q (.int ((partedAt rows (i + 1) : Nat) : Int) t) { s with heap := h', toks := tk' }) :
    wpAny (model PySem.Challenge.pw_xp0015_02 w) (ktrTop dp un gd cn cs L a ccd cl outer) (call (.ref 271) [.ref brd, .ref nml]) Q E s := by
  refine wpAny_call ?_
  k_dflt (refine' code_defC ?k1 ?k2 ?k3 ?k4 ?k5 ?kA ?kF ?kK ?k6 ?k7 ?k8 ?k9 ?kB ?kD ?_ ?c2 ?c3 ?c4; (case kA => exact rfl); (case kF => exact rfl); (case kK => assumption); (case k1 => k_asm); (case k2 => k_asm); (case k3 => k_asm); (case k4 => k_asm); (case k5 => k_asm); (case k6 => k_is); (case k7 => k_is); (case k8 => ktr_room); (case k9 => exact BindsTo.of_eq rfl); (case kB => exact rfl); (case kD => decide +kernel); (case c2 => exact rfl); (case c3 => exact rfl); (case c4 => exact rfl))
  intro g' L' h' tk' cells' FG' F' N' Y' B' X' T' l1
  k_cells Y'
  simp only [List.cons_append, List.nil_append] at N'
  dsimp only

  rename_i ob oa db da
  k_steps
  rename_i sp h3 F3 N3 l3
  have hsp2 : sp ≠ L' + 1 + 1 := Nat.ne_of_gt l3.1
  have hsp1 : sp ≠ L' + 1 := Nat.ne_of_gt l3.2.1
  have hsn : ∀ p ∈ news, p.1 ≠ sp := fun p hp => Ne.symm (allLt_ne (o := p.2) l3.2.2 hp)
  have hnl : ∀ p ∈ (L' + 1, oa) :: news, p.1 ≠ L' + 1 + 1 := by
    intro p hp
    rcases List.mem_cons.mp hp with rfl | hp
    · exact Nat.ne_of_lt (Nat.lt_succ_self _)
    · exact Nat.ne_of_lt (Nat.lt_trans (l1 p hp) (Nat.lt_succ_of_lt (Nat.lt_succ_self _)))
  have hnl1 : ∀ p ∈ news, p.1 ≠ L' + 1 := fun p hp => Nat.ne_of_lt (Nat.lt_succ_of_lt (l1 p hp))
  refine storeX_C F3 N3 rfl (UpdF.tail hsp2 (UpdF.head hnl)) db (fun h4 ob2 F4 N4 db2 => ?_) rfl rfl
  clear db N3 F3
  k_steps
  rename Fr _ _ _ _ => F4
  refine turns_list (l := brd) (vs := ras) (J := fun i m nx => ∃ ss e tl, nx = (sp, W.listOf (List.toArray ss) e) :: (L' + 1 + 1, ob2) :: (L' + 1, oa) :: tl ∧ ss.length = i ∧ Spans tl ss rows ∧ (∀ p ∈ news, p ∈ tl) ∧ (∀ p ∈ tl, p.1 ≠ sp ∧ p.1 ≠ L' + 1 + 1 ∧ p.1 ≠ L' + 1))
    (by rfl) F4 N4 (by k_mem) ⟨[], 0, news, rfl, rfl, (fun j v r a => by simp at a), fun p hp => hp, fun p hp => ⟨hsn p hp, hnl p (.tail _ hp), hnl1 p hp⟩⟩ ?hJ ?turn ?done
  case hJ =>
    rintro i m nx ⟨ss, e, tl, rfl, _, _, hs, _⟩
    exact .tail _ (.tail _ (.tail _ (hs _ hm)))
  case turn =>
    intro i v m5 nx5 h5 tk5 It oI hv hJ hIt hoff F5 N5
    obtain ⟨ss, e, tl, rfl, hsl, hSp, hs, hne⟩ := hJ
    have hi4 : i < 4 := by
      rcases Nat.lt_or_ge i 4 with h | h
      · exact h
      · rw [List.getElem?_eq_none (by omega)] at hv; cases hv
    obtain ⟨r, hri⟩ : ∃ r, rows[i]? = some r := ⟨_, List.getElem?_eq_getElem (by omega)⟩
    obtain ⟨ra, vs, re, rfl, hra, hRT⟩ := hrow i v r hv hri
    obtain ⟨hr4, hrc⟩ := hr r (List.mem_of_getElem? hri)
    have hra' := hs _ hra
    have hn' := hs _ hn
    k_steps
    refine Hold.mk ?_
    refine Assign_ListComp_W (by k_asm) (by rfl) (by with_unfolding_all rfl) (by with_unfolding_all rfl) (by decide) rfl (by decide) rfl rfl rfl ?_
    k_steps
    rename Fr _ _ _ _ => F6
    rename News _ _ _ _ => N6
    refine Hold.mk ?_
    refine srcW_list (vs := vs) rfl F6 N6 (by k_mem) (by rw [hRT.1, hr4]; decide) (fun g0 => ?_)
    refine compRest_R (R := fun i y => ∃ t, y = .int ((r.getD i 0 : Nat) : Int) t) (by k_mem) ?step ?fin
    case step =>
      intro i ys v I oI C oC D m₂ h4 tk4 E' hi hP hC hx F4 N4
      obtain ⟨c, t, hc, rfl⟩ := hRT.at hP
      have hc16 : c < 16 := hrc c (List.mem_of_getElem? hc)
      k_steps
      exact ElR.intro (by assumption) (by assumption) ⟨_, by rw [List.getD_eq_getElem?_getD, hc]; rfl⟩
    case fin =>
      intro ys hyl hy D h5 tk5 F5 N5 o5
      have hI : IT ys r := IT.of_get (hyl.trans hRT.1) hy
      have hII := hI.ints
      k_steps
      refine Hold.mk ?_
      refine kso_min F5 N5 (led_list N5 (.head _)) hII (by simp [hr4]) rfl ?_
      intro h6 lo u1 tk6 F7 N7 hlo1 hlo2
      k_steps
      refine Hold.mk ?_
      rename Fr _ _ _ _ => F8
      rename News _ _ _ _ => N8
      refine kso_max F8 N8 (led_list N8 (.head _)) hII (by simp [hr4]) rfl ?_
      intro h9 hi u2 tk9 F9 N9 hhi1 hhi2
      k_steps
      refine Hold.mk ?_
      rename_i tq h10 F10 N10 l10
      have offD := off1_mem o5
      have hDsp : D ≠ sp := Ne.symm (offD _ (.tail _ (.head _)))
      have hIsp : It ≠ sp := Ne.symm (hoff _ (.head _))
      refine append_K F10 N10 (Upd.tail (Nat.ne_of_gt l10.2.2.1) (Upd.tail hDsp (Upd.tail hIsp (Upd.head ?offs)))) (fun h11 F11 N11 => ?_) (by simp [sizeLine_eq]; omega)
      case offs =>
        intro p hp
        rcases List.mem_cons.mp hp with rfl | hp
        · exact Ne.symm hsp2
        · rcases List.mem_cons.mp hp with rfl | hp
          · exact Ne.symm hsp1
          · exact (hne p hp).1
      k_steps
      have eP : ss.toArray.push (Value.ref tq) = (ss ++ [Value.ref tq]).toArray := by simp
      rw [eP] at N11
      refine TurnQ.next (nx₂ := (sp, W.listOf (ss ++ [Value.ref tq]).toArray (e + 1)) :: (L' + 1 + 1, ob2) :: (L' + 1, oa) :: (tq, tupO (.int lo u1) (.int hi u2)) :: tl) (by assumption) (fun p hp => N11 p (by
        simp only [List.mem_cons] at hp ⊢
        rcases hp with h | h | h | h | h | h
        · exact .inr (.inr (.inl h))
        · exact .inr (.inr (.inr (.inl h)))
        · exact .inr (.inr (.inr (.inr (.inl h))))
        · exact .inr (.inr (.inr (.inr (.inr (.inl h)))))
        · exact .inl h
        · exact .inr (.inr (.inr (.inr (.inr (.inr h))))))) ?_ ⟨_, _, (tq, tupO (.int lo u1) (.int hi u2)) :: tl, rfl, by simp [hsl], ?hSp, fun p hp => .tail _ (hs p hp), ?hne⟩
      case hSp =>
        intro j v r' ha hb'
        rcases Nat.lt_or_ge j ss.length with hj | hj
        · rw [List.getElem?_append_left hj] at ha
          exact (hSp j v r' ha hb').mono fun p hp => .tail _ hp
        · rw [List.getElem?_append_right hj] at ha
          rcases hk : j - ss.length with _ | k
          · rw [hk] at ha
            simp at ha
            subst ha
            have hji : j = i := by omega
            rw [hji, hri] at hb'
            cases hb'
            exact ⟨tq, lo, hi, u1, u2, rfl, .head _, hlo1, hlo2, hhi1, hhi2⟩
          · rw [hk] at ha; simp at ha
      case hne =>
        intro p hp
        rcases List.mem_cons.mp hp with rfl | hp
        · exact ⟨Nat.ne_of_gt l10.2.2.1, Nat.ne_of_gt l10.2.2.2.1, Nat.ne_of_gt l10.2.2.2.2.1⟩
        · exact hne p hp
      · intro p hp
        simp only [List.mem_cons] at hp
        rcases hp with rfl | rfl | rfl | rfl | hp
        · exact hoff (sp, W.listOf ss.toArray e) (.head _)
        · exact hoff _ (.tail _ (.head _))
        · exact hoff _ (.tail _ (.tail _ (.head _)))
        · exact Nat.ne_of_gt l10.2.1
        · exact hoff p (.tail _ (.tail _ (.tail _ hp)))
  case done =>
    intro m5 nx5 h5 tk5 hJ F5 N5
    obtain ⟨ss, e, tl, rfl, hsl, hSp, hs, hne⟩ := hJ
    k_steps
    refine Hold.mk ?_
    refine ListComp_K (by k_asm) (by with_unfolding_all rfl) rfl (fun k => rfl) (fun h => rfl) (fun C K => rfl) (by decide) ?_
    k_steps
    refine Hold.mk ?_
    rename Fr _ _ _ _ => F6
    rename News _ _ _ _ => N6
    rename IsRange _ _ _ _ _ _ _ _ => hrg
    refine ⟨_, _, _, _, _, _, 15, _, (fun i ys nx => nx = (sp, W.listOf (List.toArray ss) e) :: (L' + 1 + 1, ob2) :: (L' + 1, oa) :: tl ∧ ys.length = i ∧ ∀ (j : Nat) (y : Value), ys[j]? = some y → ∃ t, y = .int ((partedAt rows (j + 1) : Nat) : Int) t), rfl, rfl, F6, N6, hrg, by decide, by decide, by decide, ⟨rfl, rfl, fun j y a => by simp at a⟩, ?step, ?fin⟩
    case step =>
      rintro g i ys nx v I oI C oC K oK D h7 tk7 E' hi ⟨tv, rfl⟩ ⟨rfl, hyl, hy⟩ hdK F7 N7 off ne
      k_steps
      refine Hold.mk ?_
      have hI1 : Value.int (1 + (i : Int)) tv = Value.int ((i + 1 : Nat) : Int) tv := by rw [Int.add_comm]; rfl
      rw [hI1] at hdK
      clear hI1
      refine ListComp_Q (vs := ss) (ax := sp) (ek := e) (fun j => (rows.getD j []).any (· < i + 1) && (rows.getD j []).any (i + 1 ≤ ·)) rfl (by rw [hsl, hb]; decide) (by with_unfolding_all rfl) (by decide) rfl (by decide) rfl rfl (by decide) (by decide) F7 N7 (by k_mem) ?src ?hit ?fin2
      case src => k_steps
      case hit =>
        intro g2 j v hv
        have hj : j < ss.length := by
          rcases Nat.lt_or_ge j ss.length with h | h
          · exact h
          · rw [List.getElem?_eq_none h] at hv; cases hv
        obtain ⟨r, hrj⟩ : ∃ r, rows[j]? = some r := ⟨_, List.getElem?_eq_getElem (by omega)⟩
        obtain ⟨t, lo, hi, u1, u2, rfl, hmt, hlo1, hlo2, hhi1, hhi2⟩ := hSp j v r hv hrj
        refine ⟨t, _, _, rfl, by k_mem, ?_⟩
        intro I2 oI2 C2 oC2 D2 ys2 m₂ h8 tk8 E2 hC2 hlo hhi F8 N8
        have hgd : rows.getD j [] = r := by rw [List.getD_eq_getElem?_getD, hrj]; rfl
        k_steps
        all_goals refine TstQ.intro ?_ (by assumption) (by assumption)
        all_goals rw [hgd, span_lt _ hlo1 hlo2, span_le _ hhi1 hhi2]
        · rename_i a1 a2
          rw [decide_eq_true a1, decide_eq_true a2]; rfl
        · rename_i a1 a2
          rw [decide_eq_true a1, decide_eq_false a2]; rfl
        · rename_i a1
          rw [decide_eq_false a1]; rfl
      case fin2 =>
        intro D2 ys2 h8 tk8 hl2 F8 N8 o8
        k_steps
        have hP2 : ys2.length = partedAt rows (i + 1) := by
          rw [hl2, hsl, hb, ← hl]
          exact filter_at rows fun r => r.any (· < i + 1) && r.any (i + 1 ≤ ·)
        have hle : partedAt rows (i + 1) ≤ 4 := by rw [← hl]; exact List.length_filter_le _ _
        refine KM.len_K N8 (.head _) (by simpa using hP2) (Nat.lt_of_le_of_lt hle (by decide)) ?_
        refine ElJ.intro ((sp, W.listOf (List.toArray ss) e) :: (L' + 1 + 1, ob2) :: (L' + 1, oa) :: tl) (by assumption) (fun p hp => N8 p (.tail _ hp)) (fun p hp => ⟨(off p hp).1, (off p hp).2.1, (off p hp).2.2.2⟩) ⟨fun p hp => (off p hp).2.2.1, rfl, by simp [hyl], ?_⟩
        intro j y a
        rcases Nat.lt_or_ge j ys.length with hj | hj
        · rw [List.getElem?_append_left hj] at a
          exact hy j y a
        · rw [List.getElem?_append_right hj] at a
          rcases hk : j - ys.length with _ | k
          · rw [hk] at a
            simp at a
            have hji : j = i := by omega
            rw [hji]
            exact ⟨_, a.symm⟩
          · rw [hk] at a; simp at a
    case fin =>
      rintro g ys nx ⟨rfl, hyl, hy⟩
      k_steps
      refine Hold.mk ?_
      rename Fr _ _ _ _ => F8
      rename News _ _ _ _ => N8
      have hIT : IT ys ((List.range 15).map fun j => partedAt rows (j + 1)) := IT.of_get (by simp [hyl]) (fun j y a => by
        have hj : j < 15 := by
          rcases Nat.lt_or_ge j ys.length with h | h
          · omega
          · rw [List.getElem?_eq_none h] at a; cases a
        obtain ⟨t, rfl⟩ := hy j y a
        refine ⟨t, ?_⟩
        rw [List.getD_eq_getElem?_getD, List.getElem?_map, List.getElem?_range hj]
        rfl)
      refine kso_max F8 N8 (led_list N8 (.head _)) hIT.ints (by simp) rfl ?_
      intro h9 M u2 tk9 F9 N9 hM1 _
      obtain ⟨j, hj, rfl⟩ : ∃ j : Nat, j < 15 ∧ M = ((partedAt rows (j + 1) : Nat) : Int) := by
        simp only [List.mem_map, List.mem_range] at hM1
        obtain ⟨a, ⟨j, hj, rfl⟩, rfl⟩ := hM1
        exact ⟨j, hj, rfl⟩
      clear hM1
      k_steps
      rename News _ _ _ _ => N9
      exact ret j _ _ _ hj (by assumption) (fun p hp => N9 p (.tail _ (.tail _ (.tail _ (.tail _ (hs p hp))))))
end
end
end
end
end
end
section
local macro_rules | `(tactic| walk_at "compareOp NotEq ref ref") => `(tactic| (k_here; refine Hold.out ?_))
section
local macro_rules | `(tactic| walk_at "compareOp Eq ref ref") => `(tactic| (k_here; refine Hold.out ?_))
section
local macro_rules | `(tactic| walk_at "call ref") => `(tactic| (k_here; refine Hold.out ?_))
section
local macro_rules | `(tactic| walk_at "exec For Name Call cons nil") => mT16
section
local macro_rules | `(tactic| walk_at "SrcK") => `(tactic| (k_here; refine Hold.out ?_))
-- LP_02
section
theorem look_then {K : Frag} {f : Addr} {oc oc' : Value} {od od' : Option Addr} {name name' qual qual' : Str} {params params' : Arguments} {body body' : List Stmt} {scope scope' : Scope} {dV kV doc pm cdv ct dV' kV' doc' pm' cdv' ct' : Value} {an an' : Option Addr} {osl osl' : Array (Option Value)} {P : Prop}
    (h1 : K.lookup f = some ⟨oc', od', .func (fnOf name' qual' params' body' scope' dV' kV' doc' pm' an' cdv' ct'), osl'⟩) (hl : K.lookup f = some ⟨oc, od, .func (fnOf name qual params body scope dV kV doc pm an cdv ct), osl⟩)
    (k : body = body' → scope = scope' → P) : P := by
  rw [h1] at hl
  simp only [Option.some.injEq, Obj.mk.injEq, Data.func.injEq, fnOf, FuncData.mk.injEq, FuncBody.stmts.injEq] at hl
  exact k (by simp only [hl]) (by simp only [hl])

theorem nm_ok : ∀ c, c < 16 → PyData.strOk (nmT c) = true := by decide +kernel
theorem nm_rises : Rises nmT 16 := by
  have h : ∀ a : Fin 16, ∀ b : Fin 16, decide ((nmT a.1).cps.toList < (nmT b.1).cps.toList) = decide (a.1 < b.1) := by decide +kernel
  intro a b ha hb
  exact h ⟨a, ha⟩ ⟨b, hb⟩
theorem cells_ne (L : Nat) : L + 1 + 1 ≠ L + 1 ∧ L + 1 + 1 + 1 ≠ L + 1 ∧ L + 1 + 1 + 1 + 1 ≠ L + 1 ∧ L + 1 + 1 + 1 + 1 + 1 ≠ L + 1 ∧ L + 1 + 1 + 1 ≠ L + 1 + 1 ∧ L + 1 + 1 + 1 + 1 ≠ L + 1 + 1 ∧ L + 1 + 1 + 1 + 1 + 1 ≠ L + 1 + 1 ∧
    L + 1 + 1 + 1 + 1 ≠ L + 1 + 1 + 1 ∧ L + 1 + 1 + 1 + 1 + 1 ≠ L + 1 + 1 + 1 ∧ L + 1 + 1 + 1 + 1 + 1 ≠ L + 1 + 1 + 1 + 1 := by
  refine ⟨?_, ?_, ?_, ?_, ?_, ?_, ?_, ?_, ?_, ?_⟩ <;> omega

theorem fr_at {h₀ h : Heap} {L : Addr} {m : Str → Option Value} {x : Str} {v : Value} (F : Fr h₀ L h m) (e : m x = some v) : Fr h₀ L h (fun z => if z = x then some v else m z) := by
  have : m = fun z => if z = x then some v else m z := by
    funext z
    by_cases hz : z = x
    · rw [if_pos hz, hz, e]
    · rw [if_neg hz]
  exact this ▸ F
theorem mem_mid {α : Type} {p x : α} {A B : List α} (h : p ∈ A ++ x :: B) : p = x ∨ p ∈ A ++ B := by
  rw [List.mem_append, List.mem_cons] at h
  rw [List.mem_append]
  rcases h with h | h | h
  · exact .inr (.inl h)
  · exact .inl h
  · exact .inr (.inr h)
noncomputable def Board (nm : Nat → Str) (nx : List (Addr × Obj)) (ras : List Value) (rows : List (List Nat)) : Prop :=
  ras.length = rows.length ∧ ∀ (i : Nat) (v : Value) (r : List Nat), ras[i]? = some v → rows[i]? = some r → ∃ a vs e, v = .ref a ∧ (a, W.listOf (List.toArray vs) e) ∈ nx ∧ RT nm vs r
theorem Board.mono {nm : Nat → Str} {nx nx' : List (Addr × Obj)} {ras : List Value} {rows : List (List Nat)} (h : Board nm nx ras rows) (hs : ∀ p ∈ nx, p ∈ nx') : Board nm nx' ras rows :=
  ⟨h.1, fun i v r a b => by obtain ⟨x, vs, e, h1, h2, h3⟩ := h.2 i v r a b; exact ⟨x, vs, e, h1, hs _ h2, h3⟩⟩
noncomputable def Off5 (L : Addr) (tl : List (Addr × Obj)) : Prop := ∀ p ∈ tl, p.1 ≠ L + 1 ∧ p.1 ≠ L + 1 + 1 ∧ p.1 ≠ L + 1 + 1 + 1 ∧ p.1 ≠ L + 1 + 1 + 1 + 1 ∧ p.1 ≠ L + 1 + 1 + 1 + 1 + 1
theorem IT.take {vs : List Value} {cs : List Nat} (h : IT vs cs) (k : Nat) : IT (vs.take k) (cs.take k) := by
  refine ⟨by simp [h.1], fun i v c a b => ?_⟩
  rw [List.getElem?_take] at a b
  split at a
  · rename_i hi
    rw [if_pos hi] at b
    exact h.2 i v c a b
  · cases a
theorem IT.drop {vs : List Value} {cs : List Nat} (h : IT vs cs) (k : Nat) : IT (vs.drop k) (cs.drop k) := by
  refine ⟨by simp [h.1], fun i v c a b => ?_⟩
  rw [List.getElem?_drop] at a b
  exact h.2 _ v c a b
theorem IT.at {vs : List Value} {cs : List Nat} (h : IT vs cs) {i : Nat} {v : Value} (hi : vs[i]? = some v) : ∃ c t, cs[i]? = some c ∧ v = .int (c : Int) t := by
  have h1 : i < vs.length := by
    rcases Nat.lt_or_ge i vs.length with h | h
    · exact h
    · rw [List.getElem?_eq_none h] at hi; cases hi
  have h2 : i < cs.length := h.1 ▸ h1
  obtain ⟨t, e⟩ := h.2 i v _ hi (List.getElem?_eq_getElem h2)
  exact ⟨_, t, List.getElem?_eq_getElem h2, e⟩
theorem pick_row {l : List Value} {i : Nat} {a b : Int} (hl : l.length = 16) (hi : i < 4) (ha : a = 4 * (i : Int)) (hb : b = 4 * (i : Int) + 4) : kms_pick l (some a) (some b) = (l.drop (4 * i)).take 4 := by
  have e1 : kms_lo (some a) l.length = 4 * i := by
    rw [kms_lo, if_neg (by omega), hl]; omega
  have e2 : kms_hi (some b) l.length = 4 * i + 4 := by
    rw [kms_hi, if_neg (by omega), hl]; omega
  rw [kms_pick, e1, e2]
  congr 1
  omega
theorem Board.snoc {nm : Nat → Str} {nx : List (Addr × Obj)} {ras : List Value} {rows : List (List Nat)} {a : Addr} {vs : List Value} {e : Nat} {r : List Nat} (h : Board nm nx ras rows) (hm : (a, W.listOf (List.toArray vs) e) ∈ nx) (hR : RT nm vs r) : Board nm nx (ras ++ [.ref a]) (rows ++ [r]) := by
  refine ⟨by simp [h.1], fun i v r' ha hb => ?_⟩
  rcases Nat.lt_or_ge i ras.length with hi | hi
  · rw [List.getElem?_append_left hi] at ha
    rw [List.getElem?_append_left (h.1 ▸ hi)] at hb
    exact h.2 i v r' ha hb
  · rw [List.getElem?_append_right hi] at ha
    rw [List.getElem?_append_right (h.1 ▸ hi), ← h.1] at hb
    rcases hk : i - ras.length with _ | k
    · rw [hk] at ha hb; simp at ha hb; subst ha; subst hb; exact ⟨a, vs, e, rfl, hm, hR⟩
    · rw [hk] at ha; simp at ha
noncomputable def rowsOf (ns : List Nat) : List (List Nat) := (List.range 4).map fun r => (ns.drop (4 * r)).take 4
theorem rowsOf_ok {ns : List Nat} (h : ns.length = 16) (hc : ∀ c ∈ ns, c < 16) : ∀ r ∈ rowsOf ns, r.length = 4 ∧ ∀ c ∈ r, c < 16 := by
  intro r hr
  obtain ⟨i, hi, rfl⟩ := List.mem_map.mp hr
  have := List.mem_range.mp hi
  refine ⟨?_, fun c h => hc c (List.mem_of_mem_drop (List.mem_of_mem_take h))⟩
  rw [List.length_take, List.length_drop, h]
  omega
set_option maxHeartbeats 4000000 in
theorem pre_c {w : World} {p : Program} {loose : List Str} {mean : ExcName → Option Value} {mg mb : Str → Option Value}
    {g : Heap} {L fa : Addr} {cdv : Value} {m : Str → Option Value} {s : Shared} {oc : Value} {od : Option Addr} {name qual : Str} {params : Arguments} {body : List Stmt} {scope : Scope} {dV kV doc pm cdv0 ct : Value} {an : Option Addr} {osl : Array (Option Value)}
    (hl : (hd.heap_39 w.params).lookup 276 = some ⟨oc, od, .func (fnOf name qual params body scope dV kV doc pm an cdv0 ct), osl⟩)
    {s1 s2 s3 s4 s5 : Stmt} {rest : List Stmt} (hb : body = s1 :: s2 :: s3 :: s4 :: s5 :: rest)
    {Q : Flow → Shared → Prop} {o1 o2 o3 o4 o5 : Obj} {sc : Addr} {vsc : List Value} {xs : List Int} (hsc : g.IsList sc vsc.toArray) (hI : IntsAre vsc xs) (hx63 : xs.length ≤ 63)
    (B : Below callerA g [] g) (F : Fr g L s.heap m) (X : (hd.heap_39 w.params).In g) (T : Top p loose mean mg mb g) (N : News g L s.heap [(L + 1 + 1 + 1 + 1 + 1, o5), (L + 1 + 1 + 1 + 1, o4), (L + 1 + 1 + 1, o3), (L + 1 + 1, o2), (L + 1, o1)]) (hm : m (Str.ofString "script") = some (.ref sc))
    (d1 : o1.data = .cell none) (d2 : o2.data = .cell none)
    (ret : ∀ cd nml lv ysc ns nv en lvs h' tk' m' o1' o2' tl, IT ysc ns → ns.length = 16 → (∀ c ∈ ns, c < 16) → RT nmT nv (List.range 16) → m' (Str.ofString "level") = some (.ref lv) → Fr g L h' m' →
      News g L h' ((L + 1 + 1 + 1 + 1 + 1, o5) :: (L + 1 + 1 + 1 + 1, o4) :: (L + 1 + 1 + 1, o3) :: (L + 1 + 1, o2') :: (L + 1, o1') :: tl) → o1'.data = .cell (some (.ref cd)) → o2'.data = .cell (some (.ref nml)) →
      (cd, lst ysc) ∈ tl → (nml, W.listOf (List.toArray nv) en) ∈ tl → (lv, lst lvs) ∈ tl → Board nmT tl lvs ((rowsOf ns).map along) → Off5 L tl → Q .next { s with heap := h', toks := tk' }) :
    wpAny (model PySem.Challenge.pw_xp0015_02 w) (callerA.deeper (envOfC (Str.ofString "law") scope L fa cdv)) (execs [s1, s2, s3, s4, s5] (envOfC (Str.ofString "law") scope L fa cdv)) Q NoE s := by
  refine' look_then ?k1 hl ?_
  case k1 => k_is
  intro e1 e2
  subst e2
  rw [hb] at e1
  clear hl hb
  simp only [List.cons.injEq] at e1
  obtain ⟨e1, e2, e3, e4, e5, e6⟩ := e1
  subst e1 e2 e3 e4 e5

  replace F := fr_at F hm
  k_steps
  all_goals (try k_data)
  refine Hold.mk ?_
  k_dflt (refine' codes_c hsc hI hx63 ?kB ?kF ?kX ?kN ?kT ?kk ?kd ?ku ?_)
  (case kB => k_asm); (case kF => k_asm); (case kX => assumption); (case kN => k_asm); (case kT => k_asm); (case kk => exact rfl); (case kd => ktr_room); (case ku => ktr_units)
  intro cd ysc ns h1 tk1 hIT hn16 hnc F1 N1 off1
  have hyl : ysc.length = 16 := hIT.1.trans hn16
  k_steps
  obtain ⟨n21, n31, n41, n51, n32, n42, n52, n43, n53, n54⟩ := cells_ne L
  have c1 : cd ≠ L + 1 := Ne.symm (off1 _ (.tail _ (.tail _ (.tail _ (.tail _ (.head _))))))
  have c2 : cd ≠ L + 1 + 1 := Ne.symm (off1 _ (.tail _ (.tail _ (.tail _ (.head _)))))
  have c3 : cd ≠ L + 1 + 1 + 1 := Ne.symm (off1 _ (.tail _ (.tail _ (.head _))))
  have c4 : cd ≠ L + 1 + 1 + 1 + 1 := Ne.symm (off1 _ (.tail _ (.head _)))
  have c5 : cd ≠ L + 1 + 1 + 1 + 1 + 1 := Ne.symm (off1 _ (.head _))
  refine storeX_C F1 N1 rfl (UpdF.tail c1 (UpdF.tail n51 (UpdF.tail n41 (UpdF.tail n31 (UpdF.tail n21 (UpdF.head (by intro p hp; cases hp))))))) d1 (fun h2 o1' F2 N2 d1' => ?_) rfl rfl
  clear d1 N1 F1
  k_steps
  all_goals (try k_data)
  refine Hold.mk ?_
  k_dflt (refine' names_c ?kB ?kF ?kX ?kN ?kT ?kk ?kd ?ku ?_)
  (case kB => k_asm); (case kF => k_asm); (case kX => assumption); (case kN => k_asm); (case kT => k_asm); (case kk => exact rfl); (case kd => ktr_room); (case ku => ktr_units)
  intro nml nv en h3 tk3 hRT F3 N3 off3
  k_steps
  have e1 : nml ≠ L + 1 := Ne.symm (off3 _ (.tail _ (.tail _ (.tail _ (.tail _ (.tail _ (.head _)))))))
  have e2 : nml ≠ L + 1 + 1 := Ne.symm (off3 _ (.tail _ (.tail _ (.tail _ (.tail _ (.head _))))))
  have e3 : nml ≠ L + 1 + 1 + 1 := Ne.symm (off3 _ (.tail _ (.tail _ (.tail _ (.head _)))))
  have e4 : nml ≠ L + 1 + 1 + 1 + 1 := Ne.symm (off3 _ (.tail _ (.tail _ (.head _))))
  have e5 : nml ≠ L + 1 + 1 + 1 + 1 + 1 := Ne.symm (off3 _ (.tail _ (.head _)))
  refine storeX_C F3 N3 rfl (UpdF.tail e2 (UpdF.tail c2 (UpdF.tail n52 (UpdF.tail n42 (UpdF.tail n32 (UpdF.head ?h21)))))) d2 (fun h4 o2' F4 N4 d2' => ?_) rfl rfl
  case h21 =>
    intro p hp
    rcases List.mem_cons.mp hp with rfl | hp
    · exact Ne.symm n21
    · cases hp
  clear d2 N3 F3
  k_steps
  all_goals (try k_data)
  refine Hold.mk ?_
  refine sorted_words F4 N4 (.head _) hRT nm_rises (fun c hc => List.mem_range.mp hc) List.pairwise_le_range (by decide) (fun h5 sd sv se F5 N5 off5 hRS => ?_)
  k_steps
  refine Hold.mk ?_
  refine ne_words (led_list N5 (by k_mem)) (led_list N5 (.head _)) hRT hRS nm_rises nm_ok (fun c hc => List.mem_range.mp hc) (fun c hc => List.mem_range.mp hc) (by ke_room) ?_
  rw [decide_eq_true rfl]
  k_steps
  all_goals (try k_data)
  refine Hold.mk ?_
  rename News _ _ _ _ => N6
  rename Fr _ _ _ _ => F6
  refine Assign_ListComp_W (by k_asm) (by rfl) (by with_unfolding_all rfl) (by with_unfolding_all rfl) (by decide) rfl (by decide) rfl rfl rfl ?_
  k_steps
  all_goals (try k_data)
  refine Hold.mk ?_
  rename IsRange _ _ _ _ _ _ _ _ => hrg
  rename News _ _ _ _ => N7
  rename Fr _ _ _ _ => F7
  refine srcW_range rfl F7 N7 hrg (by decide) (n := 4) (by decide) (by decide) (fun g0 => ?_)
  refine compRest_J (J := fun i ys nx => ∃ tl, nx = (sd, W.listOf (List.toArray sv) se) :: (nml, W.listOf (List.toArray nv) en) :: (cd, lst ysc) :: (L + 1 + 1 + 1 + 1 + 1, o5) :: (L + 1 + 1 + 1 + 1, o4) :: (L + 1 + 1 + 1, o3) :: (L + 1 + 1, o2') :: (L + 1, o1') :: tl ∧ Board nmT tl ys ((rowsOf ns).take i) ∧ Off5 L tl)
    (fun _ _ _ _ => trivial) ⟨[], rfl, ⟨rfl, fun i v r a => by simp at a⟩, fun p hp => by cases hp⟩ ?step ?fin
  case step =>
    intro i ys nx v I oI C oC D m₂ h8 tk8 E' hi hP hJ hC hx F8 N8 off8 ne8
    obtain ⟨t8, rfl⟩ := hP
    obtain ⟨tl, rfl, hB, hO⟩ := hJ
    k_steps
    all_goals (try k_data)
    refine Hold.mk ?_
    refine ListComp_W (by k_asm) (by with_unfolding_all rfl) (by decide) rfl (by decide) rfl ?_
    k_steps
    all_goals (try k_data)
    refine Hold.mk ?_
    rename_i D9 h9 F9 N9 l9
    have ePk : kms_pick ysc.toArray.toList (some (4 * (0 + (i : Int)))) (some (4 * (0 + (i : Int)) + 4)) = (ysc.drop (4 * i)).take 4 := pick_row hyl hi (by omega) (by omega)
    rw [ePk] at N9
    clear ePk
    have hITr0 : IT ((ysc.drop (4 * i)).take 4) ((ns.drop (4 * i)).take 4) := (hIT.drop (4 * i)).take 4
    have hvl0 : ((ysc.drop (4 * i)).take 4).length ≤ 4 := List.length_take_le _ _
    have hc0 : ∀ c ∈ (ns.drop (4 * i)).take 4, c < 16 := fun c hc => hnc c (List.mem_of_mem_drop (List.mem_of_mem_take hc))
    obtain ⟨cr, hcr⟩ : ∃ cr, (ns.drop (4 * i)).take 4 = cr := ⟨_, rfl⟩
    obtain ⟨vr, hvr⟩ : ∃ vr, (ysc.drop (4 * i)).take 4 = vr := ⟨_, rfl⟩
    have N9' := N9
    rw [hvr] at N9' hITr0 hvl0
    rw [hcr] at hITr0 hc0
    clear hvr N9
    have hITr := hITr0
    have hvl := hvl0
    have hc16r := hc0
    refine srcW_list (vs := vr) rfl F9 N9' (by k_mem) (Nat.le_trans hvl (by decide)) (fun g9 => ?_)
    refine compRest_R (R := fun j y => ∃ t, y = .str (nmT (cr.getD j 0)) t) (by k_mem) ?step2 ?fin2
    case step2 =>
      intro j ys2 v2 I2 oI2 C2 oC2 D2 m₃ h10 tk10 E2 hj hP2 hC2 hx2 F10 N10
      have hP3 : vr[j]? = some v2 := hP2
      have hP4 := IT.at hITr hP3
      obtain ⟨c, tc, hc, hv2⟩ := hP4
      subst hv2
      have hc16 : c < 16 := hc16r c (List.mem_of_getElem? hc)
      have hg := names_get (nm := nmT) (nv := nv) (k := 16) (c := c) hRT hc16
      revert hg
      rintro ⟨tn, hnx⟩
      k_steps
      all_goals (try k_data)
      exact ElR.intro (by assumption) (by assumption) ⟨_, by rw [List.getD_eq_getElem?_getD, hc]; rfl⟩
    case fin2 =>
      intro ys2 hl2 hy2 D2 h10 tk10 F10 N10 o10
      have hR2 : RT nmT ys2 cr := RT.of_get (hl2.trans hITr.1) hy2
      have o10' := off1_mem o10
      have o8 := off8.mem
      refine ElJ.intro ((sd, W.listOf (List.toArray sv) se) :: (nml, W.listOf (List.toArray nv) en) :: (cd, lst ysc) :: (L + 1 + 1 + 1 + 1 + 1, o5) :: (L + 1 + 1 + 1 + 1, o4) :: (L + 1 + 1 + 1, o3) :: (L + 1 + 1, o2') :: (L + 1, o1') :: (D2, lst ys2) :: tl) F10 (fun p hp => N10 p (by
        rcases List.mem_cons.mp hp with rfl | hp
        · exact .tail _ (.tail _ (.head _))
        rcases List.mem_cons.mp hp with rfl | hp
        · exact .tail _ (.tail _ (.tail _ (.head _)))
        rcases List.mem_cons.mp hp with rfl | hp
        · exact .tail _ (.tail _ (.tail _ (.tail _ (.head _))))
        rcases List.mem_cons.mp hp with rfl | hp
        · exact .tail _ (.tail _ (.tail _ (.tail _ (.tail _ (.head _)))))
        rcases List.mem_cons.mp hp with rfl | hp
        · exact .tail _ (.tail _ (.tail _ (.tail _ (.tail _ (.tail _ (.head _))))))
        rcases List.mem_cons.mp hp with rfl | hp
        · exact .tail _ (.tail _ (.tail _ (.tail _ (.tail _ (.tail _ (.tail _ (.head _)))))))
        rcases List.mem_cons.mp hp with rfl | hp
        · exact .tail _ (.tail _ (.tail _ (.tail _ (.tail _ (.tail _ (.tail _ (.tail _ (.head _))))))))
        rcases List.mem_cons.mp hp with rfl | hp
        · exact .tail _ (.tail _ (.tail _ (.tail _ (.tail _ (.tail _ (.tail _ (.tail _ (.tail _ (.head _)))))))))
        rcases List.mem_cons.mp hp with rfl | hp
        · exact .tail _ (.tail _ (.tail _ (.tail _ (.tail _ (.tail _ (.tail _ (.tail _ (.tail _ (.tail _ (.head _))))))))))
        rcases List.mem_cons.mp hp with rfl | hp
        · exact .tail _ (.tail _ (.tail _ (.tail _ (.tail _ (.tail _ (.tail _ (.tail _ (.tail _ (.tail _ (.tail _ (.head _)))))))))))
        rcases List.mem_cons.mp hp with rfl | hp
        · exact .tail _ (.tail _ (.tail _ (.tail _ (.tail _ (.tail _ (.tail _ (.tail _ (.tail _ (.tail _ (.tail _ (.tail _ (.head _))))))))))))
        rcases List.mem_cons.mp hp with rfl | hp
        · exact .head _
        exact .tail _ (.tail _ (.tail _ (.tail _ (.tail _ (.tail _ (.tail _ (.tail _ (.tail _ (.tail _ (.tail _ (.tail _ (.tail _ (hp))))))))))))))) ?off2 ⟨(D2, lst ys2) :: tl, rfl, ?hB2, ?hO2⟩
      case off2 =>
        intro p hp
        have hp' := mem_mid (A := [(sd, W.listOf (List.toArray sv) se), (nml, W.listOf (List.toArray nv) en), (cd, lst ysc), (L + 1 + 1 + 1 + 1 + 1, o5), (L + 1 + 1 + 1 + 1, o4), (L + 1 + 1 + 1, o3), (L + 1 + 1, o2'), (L + 1, o1')]) hp
        rcases hp' with rfl | hp'
        · exact ⟨Ne.symm (o10' _ (.tail _ (.head _))), Ne.symm (o10' _ (.tail _ (.tail _ (.head _)))), Ne.symm (o10' _ (.tail _ (.tail _ (.tail _ (.head _)))))⟩
        · exact o8 p hp'
      case hB2 =>
        have e1 : (rowsOf ns).take (i + 1) = (rowsOf ns).take i ++ [cr] := by
          rw [← hcr, List.take_succ]
          congr 1
          rw [rowsOf, List.getElem?_map, List.getElem?_range hi]
          rfl
        rw [e1]
        exact (hB.mono fun p hp => .tail _ hp).snoc (.head _) hR2
      case hO2 =>
        intro p hp
        rcases List.mem_cons.mp hp with rfl | hp
        · exact ⟨Ne.symm (o10' _ (.tail _ (.tail _ (.tail _ (.tail _ (.tail _ (.tail _ (.tail _ (.tail _ (.tail _ (.tail _ (.tail _ (.head _))))))))))))), Ne.symm (o10' _ (.tail _ (.tail _ (.tail _ (.tail _ (.tail _ (.tail _ (.tail _ (.tail _ (.tail _ (.tail _ (.head _)))))))))))), Ne.symm (o10' _ (.tail _ (.tail _ (.tail _ (.tail _ (.tail _ (.tail _ (.tail _ (.tail _ (.tail _ (.head _))))))))))), Ne.symm (o10' _ (.tail _ (.tail _ (.tail _ (.tail _ (.tail _ (.tail _ (.tail _ (.tail _ (.head _)))))))))), Ne.symm (o10' _ (.tail _ (.tail _ (.tail _ (.tail _ (.tail _ (.tail _ (.tail _ (.head _)))))))))⟩
        · exact hO p hp
  case fin =>
    intro ys nx hJ
    obtain ⟨tl, rfl, hB, hO⟩ := hJ
    have hB4 : Board nmT tl ys (rowsOf ns) := by
      have e : (rowsOf ns).take 4 = rowsOf ns := List.take_of_length_le (by simp [rowsOf])
      rw [← e]; exact hB
    have hys : ys.length = 4 := hB4.1.trans (by simp [rowsOf])
    clear hB
    k_steps
    all_goals (try k_data)
    refine Hold.mk ?_
    refine Assign_ListComp_W (by k_asm) (by rfl) (by with_unfolding_all rfl) (by with_unfolding_all rfl) (by decide) rfl (by decide) rfl rfl rfl ?_
    k_steps
    all_goals (try k_data)
    refine Hold.mk ?_
    rename News _ _ _ _ => N11
    rename Fr _ _ _ _ => F11
    rename_i bd _ _ o11

    refine srcW_list (vs := ys) rfl F11 N11 (by k_mem) (by rw [hys]; decide) (fun g11 => ?_)
    refine compRest_J (J := fun i zs nx => ∃ tl3, nx = (bd, lst ys) :: (sd, W.listOf (List.toArray sv) se) :: (nml, W.listOf (List.toArray nv) en) :: (cd, lst ysc) :: (L + 1 + 1 + 1 + 1 + 1, o5) :: (L + 1 + 1 + 1 + 1, o4) :: (L + 1 + 1 + 1, o3) :: (L + 1 + 1, o2') :: (L + 1, o1') :: tl3 ∧ (∀ p ∈ tl, p ∈ tl3) ∧ Board nmT tl3 zs (((rowsOf ns).map along).take i) ∧ (∀ p ∈ tl3, p ∈ tl ∨ ∀ q ∈ [(bd, lst ys), (sd, W.listOf (List.toArray sv) se), (nml, W.listOf (List.toArray nv) en), (cd, lst ysc), (L + 1 + 1 + 1 + 1 + 1, o5), (L + 1 + 1 + 1 + 1, o4), (L + 1 + 1 + 1, o3), (L + 1 + 1, o2'), (L + 1, o1')], p.1 ≠ q.1))
      (fun _ _ _ hJ => by obtain ⟨tl3, rfl, _⟩ := hJ; k_mem) ⟨tl, rfl, fun p hp => hp, ⟨rfl, fun i v r a => by simp at a⟩, fun p hp => .inl hp⟩ ?stepL ?finL
    case stepL =>
      intro i zs nx v I oI C oC D m₂ h12 tk12 E' hi hP hJ hC hx F12 N12 off12 ne12
      obtain ⟨tl3, rfl, hsub3, hB3z, hOz3⟩ := hJ
      have hi4 : i < (rowsOf ns).length := by rw [← hB4.1]; exact hi
      obtain ⟨r, hri⟩ : ∃ r, (rowsOf ns)[i]? = some r := ⟨_, List.getElem?_eq_getElem hi4⟩
      obtain ⟨ra, rvs, re, rfl, hra, hrR⟩ := hB4.2 i v r hP hri
      have hra' := hsub3 _ hra
      obtain ⟨hr4, hr16⟩ := (rowsOf_ok hn16 hnc) r (List.mem_of_getElem? hri)
      k_steps
      all_goals (try k_data)
      refine Hold.mk ?_
      k_dflt (refine' along_c nm_rises hrR hr16 ?kl ?kB ?kF ?kX ?kN ?kT ?kk ?kd ?ku ?km ?_)
      (case kl => rw [hr4]; decide); (case kB => k_asm); (case kF => k_asm); (case kX => assumption); (case kN => k_asm); (case kT => k_asm); (case kk => exact rfl); (case kd => ktr_room); (case ku => ktr_units); (case km => k_mem)
      intro D2 zs2 h13 tk13 hR2 F13 N13 o13
      have o12' := off12.mem
      refine ElJ.intro ((bd, lst ys) :: (sd, W.listOf (List.toArray sv) se) :: (nml, W.listOf (List.toArray nv) en) :: (cd, lst ysc) :: (L + 1 + 1 + 1 + 1 + 1, o5) :: (L + 1 + 1 + 1 + 1, o4) :: (L + 1 + 1 + 1, o3) :: (L + 1 + 1, o2') :: (L + 1, o1') :: (D2, lst zs2) :: tl3) F13 (fun p hp => N13 p (by
        rcases List.mem_cons.mp hp with rfl | hp
        · exact .tail _ (.head _)
        rcases List.mem_cons.mp hp with rfl | hp
        · exact .tail _ (.tail _ (.head _))
        rcases List.mem_cons.mp hp with rfl | hp
        · exact .tail _ (.tail _ (.tail _ (.head _)))
        rcases List.mem_cons.mp hp with rfl | hp
        · exact .tail _ (.tail _ (.tail _ (.tail _ (.head _))))
        rcases List.mem_cons.mp hp with rfl | hp
        · exact .tail _ (.tail _ (.tail _ (.tail _ (.tail _ (.head _)))))
        rcases List.mem_cons.mp hp with rfl | hp
        · exact .tail _ (.tail _ (.tail _ (.tail _ (.tail _ (.tail _ (.head _))))))
        rcases List.mem_cons.mp hp with rfl | hp
        · exact .tail _ (.tail _ (.tail _ (.tail _ (.tail _ (.tail _ (.tail _ (.head _)))))))
        rcases List.mem_cons.mp hp with rfl | hp
        · exact .tail _ (.tail _ (.tail _ (.tail _ (.tail _ (.tail _ (.tail _ (.tail _ (.head _))))))))
        rcases List.mem_cons.mp hp with rfl | hp
        · exact .tail _ (.tail _ (.tail _ (.tail _ (.tail _ (.tail _ (.tail _ (.tail _ (.tail _ (.head _)))))))))
        rcases List.mem_cons.mp hp with rfl | hp
        · exact .tail _ (.tail _ (.tail _ (.tail _ (.tail _ (.tail _ (.tail _ (.tail _ (.tail _ (.tail _ (.head _))))))))))
        rcases List.mem_cons.mp hp with rfl | hp
        · exact .tail _ (.tail _ (.tail _ (.tail _ (.tail _ (.tail _ (.tail _ (.tail _ (.tail _ (.tail _ (.tail _ (.head _)))))))))))
        rcases List.mem_cons.mp hp with rfl | hp
        · exact .tail _ (.tail _ (.tail _ (.tail _ (.tail _ (.tail _ (.tail _ (.tail _ (.tail _ (.tail _ (.tail _ (.tail _ (.head _))))))))))))
        rcases List.mem_cons.mp hp with rfl | hp
        · exact .head _
        exact .tail _ (.tail _ (.tail _ (.tail _ (.tail _ (.tail _ (.tail _ (.tail _ (.tail _ (.tail _ (.tail _ (.tail _ (.tail _ (hp))))))))))))))) ?offL ⟨(D2, lst zs2) :: tl3, rfl, fun p hp => .tail _ (hsub3 p hp), ?hBL, ?hOL⟩
      case offL =>
        intro p hp
        have hp' : p = (D2, lst zs2) ∨ p ∈ (bd, lst ys) :: (sd, W.listOf (List.toArray sv) se) :: (nml, W.listOf (List.toArray nv) en) :: (cd, lst ysc) :: (L + 1 + 1 + 1 + 1 + 1, o5) :: (L + 1 + 1 + 1 + 1, o4) :: (L + 1 + 1 + 1, o3) :: (L + 1 + 1, o2') :: (L + 1, o1') :: tl3 := mem_mid (A := [(bd, lst ys), (sd, W.listOf (List.toArray sv) se), (nml, W.listOf (List.toArray nv) en), (cd, lst ysc), (L + 1 + 1 + 1 + 1 + 1, o5), (L + 1 + 1 + 1 + 1, o4), (L + 1 + 1 + 1, o3), (L + 1 + 1, o2'), (L + 1, o1')]) hp
        rcases hp' with rfl | hp'
        · exact ⟨Ne.symm (o13 _ (.head _)), Ne.symm (o13 _ (.tail _ (.head _))), Ne.symm (o13 _ (.tail _ (.tail _ (.head _))))⟩
        · exact o12' p hp'
      case hBL =>
        have e1 : ((rowsOf ns).map along).take (i + 1) = ((rowsOf ns).map along).take i ++ [along r] := by
          rw [List.take_succ, List.getElem?_map, hri]
          rfl
        rw [e1]
        exact (hB3z.mono fun p hp => .tail _ hp).snoc (.head _) hR2
      case hOL =>
        intro p hp
        rcases List.mem_cons.mp hp with rfl | hp
        · exact .inr fun q hq => Ne.symm (o13 q (.tail _ (.tail _ (.tail _ (List.mem_append_left (as := [(bd, lst ys), (sd, W.listOf (List.toArray sv) se), (nml, W.listOf (List.toArray nv) en), (cd, lst ysc), (L + 1 + 1 + 1 + 1 + 1, o5), (L + 1 + 1 + 1 + 1, o4), (L + 1 + 1 + 1, o3), (L + 1 + 1, o2'), (L + 1, o1')]) tl3 hq)))))
        · exact hOz3 p hp
    case finL =>
      intro zs nx hJ
      obtain ⟨tl3, rfl, hsub3, hB3z, hOz3⟩ := hJ
      have hZ3 : Board nmT tl3 zs ((rowsOf ns).map along) := by
        have e : ((rowsOf ns).map along).take (ys).length = (rowsOf ns).map along := List.take_of_length_le (by rw [List.length_map, ← hB4.1]; exact Nat.le_refl _)
        rw [← e]; exact hB3z
      clear hB3z
      k_steps
      all_goals (try k_data)
      rename News _ _ _ _ => N14
      rename_i lv _ _ _ o14
      refine ret cd nml lv ysc ns nv en zs _ _ _ o1' o2' ((lv, lst zs) :: (bd, lst ys) :: (sd, W.listOf (List.toArray sv) se) :: (nml, W.listOf (List.toArray nv) en) :: (cd, lst ysc) :: tl3) hIT hn16 hnc hRT ?hl (by assumption) (fun p hp => N14 p (by
        rcases List.mem_cons.mp hp with rfl | hp
        · exact .tail _ (.tail _ (.tail _ (.tail _ (.tail _ (.head _)))))
        rcases List.mem_cons.mp hp with rfl | hp
        · exact .tail _ (.tail _ (.tail _ (.tail _ (.tail _ (.tail _ (.head _))))))
        rcases List.mem_cons.mp hp with rfl | hp
        · exact .tail _ (.tail _ (.tail _ (.tail _ (.tail _ (.tail _ (.tail _ (.head _)))))))
        rcases List.mem_cons.mp hp with rfl | hp
        · exact .tail _ (.tail _ (.tail _ (.tail _ (.tail _ (.tail _ (.tail _ (.tail _ (.head _))))))))
        rcases List.mem_cons.mp hp with rfl | hp
        · exact .tail _ (.tail _ (.tail _ (.tail _ (.tail _ (.tail _ (.tail _ (.tail _ (.tail _ (.head _)))))))))
        rcases List.mem_cons.mp hp with rfl | hp
        · exact .head _
        rcases List.mem_cons.mp hp with rfl | hp
        · exact .tail _ (.head _)
        rcases List.mem_cons.mp hp with rfl | hp
        · exact .tail _ (.tail _ (.head _))
        rcases List.mem_cons.mp hp with rfl | hp
        · exact .tail _ (.tail _ (.tail _ (.head _)))
        rcases List.mem_cons.mp hp with rfl | hp
        · exact .tail _ (.tail _ (.tail _ (.tail _ (.head _))))
        exact .tail _ (.tail _ (.tail _ (.tail _ (.tail _ (.tail _ (.tail _ (.tail _ (.tail _ (.tail _ (hp)))))))))))) d1' d2' (by k_mem) (by k_mem) (by k_mem) (hZ3.mono fun p hp => .tail _ (.tail _ (.tail _ (.tail _ (.tail _ hp))))) ?hO5
      case hl => rfl
      case hO5 =>
        intro p hp
        rcases List.mem_cons.mp hp with rfl | hp
        · exact ⟨Ne.symm o14.2.2.2.2.2.2.2.2.1, Ne.symm o14.2.2.2.2.2.2.2.1, Ne.symm o14.2.2.2.2.2.2.1, Ne.symm o14.2.2.2.2.2.1, Ne.symm o14.2.2.2.2.1⟩
        rcases List.mem_cons.mp hp with rfl | hp
        · exact ⟨Ne.symm o11.2.2.2.2.2.2.2.1, Ne.symm o11.2.2.2.2.2.2.1, Ne.symm o11.2.2.2.2.2.1, Ne.symm o11.2.2.2.2.1, Ne.symm o11.2.2.2.1⟩
        rcases List.mem_cons.mp hp with rfl | hp
        · exact ⟨Ne.symm (off5 _ (.tail _ (.tail _ (.tail _ (.tail _ (.tail _ (.tail _ (.head _)))))))), Ne.symm (off5 _ (.tail _ (.tail _ (.tail _ (.tail _ (.tail _ (.head _))))))), Ne.symm (off5 _ (.tail _ (.tail _ (.tail _ (.tail _ (.head _)))))), Ne.symm (off5 _ (.tail _ (.tail _ (.tail _ (.head _))))), Ne.symm (off5 _ (.tail _ (.tail _ (.head _))))⟩
        rcases List.mem_cons.mp hp with rfl | hp
        · exact ⟨e1, e2, e3, e4, e5⟩
        rcases List.mem_cons.mp hp with rfl | hp
        · exact ⟨c1, c2, c3, c4, c5⟩
        rcases hOz3 p hp with hp | hp
        · exact hO p hp
        · exact ⟨hp _ (.tail _ (.tail _ (.tail _ (.tail _ (.tail _ (.tail _ (.tail _ (.tail _ (.head _))))))))), hp _ (.tail _ (.tail _ (.tail _ (.tail _ (.tail _ (.tail _ (.tail _ (.head _)))))))), hp _ (.tail _ (.tail _ (.tail _ (.tail _ (.tail _ (.tail _ (.head _))))))), hp _ (.tail _ (.tail _ (.tail _ (.tail _ (.tail _ (.head _)))))), hp _ (.tail _ (.tail _ (.tail _ (.tail _ (.head _)))))⟩
end
-- LR_02
section
theorem IT.of_ints : ∀ {cs : List Nat} {vs : List Value}, IntsAre vs (cs.map fun n : Nat => (n : Int)) → IT vs cs
  | [], _, .nil => ⟨rfl, fun i v c a => by simp at a⟩
  | c :: cs, _, .cons _ t h => by
    have ih := IT.of_ints h
    refine ⟨by simp [ih.1], fun i v c' a b => ?_⟩
    cases i with
    | zero => simp at a b; subst a; subst b; exact ⟨t, rfl⟩
    | succ i => exact ih.2 i v c' (by simpa using a) (by simpa using b)
noncomputable def turnB (rows : List (List Nat)) : List (List Nat) := [rows.getD 0 [], (rows.getD 1 []).reverse, rows.getD 2 [], (rows.getD 3 []).reverse]
noncomputable def colsB (rows : List (List Nat)) : List (List Nat) := (List.range 4).map fun k => down (rows.map fun r => r.getD k 0)
noncomputable def brdB (cols : List (List Nat)) : List (List Nat) := (List.range 4).map fun r => cols.map fun c => c.getD r 0
theorem down_size {cs : List Nat} : (down cs).length = cs.length := by
  suffices h : ∀ n (s : List Nat × List Nat), n ≤ s.1.length → (drawN n s).2.length = s.2.length + n by
    simpa [down] using h cs.length (cs, []) (Nat.le_refl _)
  intro n
  induction n with
  | zero => intro s _; rfl
  | succ n ih =>
    intro s hn
    have e1 := ih s (by omega)
    have e2 := drawN_length n s
    rw [drawN]
    rcases hd : drawN n s with ⟨a, b⟩
    rw [hd] at e1 e2
    simp only at e1 e2
    cases a with
    | nil => simp at e2; omega
    | cons x r => simp [draw, e1]; omega
theorem down_mem {cs : List Nat} {x : Nat} (h : x ∈ down cs) : x ∈ cs := by
  have := (drawN_mem cs.length (cs, []) x).mp (.inr h)
  simpa using this
theorem getD_ok {r : List Nat} {k : Nat} (h : r.length = 4) (hc : ∀ c ∈ r, c < 16) (hk : k < 4) : r.getD k 0 < 16 := by
  rw [List.getD_eq_getElem?_getD, List.getElem?_eq_getElem (by omega)]
  exact hc _ (List.getElem_mem _)
theorem colsB_ok {rows : List (List Nat)} (h4 : rows.length = 4) (h : ∀ r ∈ rows, r.length = 4 ∧ ∀ c ∈ r, c < 16) : ∀ r ∈ colsB rows, r.length = 4 ∧ ∀ c ∈ r, c < 16 := by
  intro r hr
  obtain ⟨k, hk, rfl⟩ := List.mem_map.mp hr
  have hk := List.mem_range.mp hk
  refine ⟨by rw [down_size, List.length_map, h4], fun c hc => ?_⟩
  obtain ⟨q, hq, rfl⟩ := List.mem_map.mp (down_mem hc)
  exact getD_ok (h q hq).1 (h q hq).2 hk
theorem brdB_ok {rows : List (List Nat)} (h4 : rows.length = 4) (h : ∀ r ∈ rows, r.length = 4 ∧ ∀ c ∈ r, c < 16) : ∀ r ∈ brdB rows, r.length = 4 ∧ ∀ c ∈ r, c < 16 := by
  intro r hr
  obtain ⟨k, hk, rfl⟩ := List.mem_map.mp hr
  have hk := List.mem_range.mp hk
  refine ⟨by rw [List.length_map, h4], fun c hc => ?_⟩
  obtain ⟨q, hq, rfl⟩ := List.mem_map.mp hc
  exact getD_ok (h q hq).1 (h q hq).2 hk
theorem Board.rows4 {nm : Nat → Str} {nx : List (Addr × Obj)} {ras : List Value} {r0 r1 r2 r3 : List Nat} (h : Board nm nx ras [r0, r1, r2, r3]) :
    ∃ a0 a1 a2 a3 v0 v1 v2 v3 e0 e1 e2 e3, ras = [.ref a0, .ref a1, .ref a2, .ref a3] ∧ (a0, W.listOf (List.toArray v0) e0) ∈ nx ∧ (a1, W.listOf (List.toArray v1) e1) ∈ nx ∧ (a2, W.listOf (List.toArray v2) e2) ∈ nx ∧ (a3, W.listOf (List.toArray v3) e3) ∈ nx ∧ RT nm v0 r0 ∧ RT nm v1 r1 ∧ RT nm v2 r2 ∧ RT nm v3 r3 := by
  obtain ⟨x0, x1, x2, x3, rfl⟩ := four h.1
  obtain ⟨a0, v0, e0, rfl, m0, R0⟩ := h.2 0 x0 r0 rfl rfl
  obtain ⟨a1, v1, e1, rfl, m1, R1⟩ := h.2 1 x1 r1 rfl rfl
  obtain ⟨a2, v2, e2, rfl, m2, R2⟩ := h.2 2 x2 r2 rfl rfl
  obtain ⟨a3, v3, e3, rfl, m3, R3⟩ := h.2 3 x3 r3 rfl rfl
  exact ⟨a0, a1, a2, a3, v0, v1, v2, v3, e0, e1, e2, e3, rfl, m0, m1, m2, m3, R0, R1, R2, R3⟩
theorem Board.item {nm : Nat → Str} {vs : List Value} {r : List Nat} {i : Nat} {z : Int} (h : RT nm vs r) (hi : i < r.length) (hz : z = (i : Int)) : ∃ t, (List.toArray vs)[z.toNat]? = some (.str (nm (r.getD i 0)) t) := by
  have h1 : i < vs.length := h.1 ▸ hi
  obtain ⟨t, e⟩ := h.2 i _ _ (List.getElem?_eq_getElem h1) (List.getElem?_eq_getElem hi)
  refine ⟨t, ?_⟩
  have e2 : z.toNat = i := by omega
  rw [e2, List.getElem?_toArray, List.getElem?_eq_getElem h1, e, List.getD_eq_getElem?_getD, List.getElem?_eq_getElem hi]
  rfl
theorem Board.nil {nm : Nat → Str} {nx : List (Addr × Obj)} : Board nm nx [] [] := ⟨rfl, fun i v r a => by simp at a⟩
set_option maxHeartbeats 4000000 in
theorem round_c {w : World} {p : Program} {loose : List Str} {mean : ExcName → Option Value} {mg mb : Str → Option Value}
    {g : Heap} {L fa : Addr} {cdv : Value} {m : Str → Option Value} {s : Shared} {oc : Value} {od : Option Addr} {name qual : Str} {params : Arguments} {body : List Stmt} {scope : Scope} {dV kV doc pm cdv0 ct : Value} {an : Option Addr} {osl : Array (Option Value)}
    (hl : (hd.heap_39 w.params).lookup 276 = some ⟨oc, od, .func (fnOf name qual params body scope dV kV doc pm an cdv0 ct), osl⟩)
    {s1 s2 s3 s4 s5 : Stmt} {tgt itr : Expr} {bd orl : List Stmt} {ps : Pos} {rest : List Stmt} (hb : body = s1 :: s2 :: s3 :: s4 :: s5 :: .For tgt itr bd orl ps :: rest)
    {Q : Flow → Shared → Prop} {o1 o2 o3 o4 o5 : Obj} {nml lv : Addr} {v1 v3 v4 v5 : Option Value} {nv lvs : List Value} {en le : Nat} {rows : List (List Nat)} {most : Int} {tm : Tok} {tl : List (Addr × Obj)}
    (B : Below callerA g [] g) (F : Fr g L s.heap m) (X : (hd.heap_39 w.params).In g) (T : Top p loose mean mg mb g) (N : News g L s.heap ((L + 1 + 1 + 1 + 1 + 1, o5) :: (L + 1 + 1 + 1 + 1, o4) :: (L + 1 + 1 + 1, o3) :: (L + 1 + 1, o2) :: (L + 1, o1) :: tl)) (hlev : m (Str.ofString "level") = some (.ref lv)) (hmost : m (Str.ofString "most") = some (.int most tm))
    (d1 : o1.data = .cell v1) (d2 : o2.data = .cell (some (.ref nml))) (d3 : o3.data = .cell v3) (d4 : o4.data = .cell v4) (d5 : o5.data = .cell v5)
    (hRT : RT nmT nv (List.range 16)) (hnm : (nml, W.listOf (List.toArray nv) en) ∈ tl) (hlv : (lv, W.listOf (List.toArray lvs) le) ∈ tl) (hBd : Board nmT tl lvs rows) (hr4 : rows.length = 4) (hrow : ∀ r ∈ rows, r.length = 4 ∧ ∀ c ∈ r, c < 16) (hO : Off5 L tl)
    (hpar : ∀ i, i < 15 → ((partedAt (brdB (colsB (turnB rows))) (i + 1) : Nat) : Int) ≤ most) (hris : ∀ k, k < 4 → (((brdB (colsB (turnB rows))).map along).map fun r => r.getD k 0).Pairwise (· ≤ ·))
    (ret : ∀ lv' zs h' tk' m' o3' o4' o5' v3' v4' v5' tl', m' (Str.ofString "level") = some (.ref lv') → Fr g L h' m' → News g L h' ((L + 1 + 1 + 1 + 1 + 1, o5') :: (L + 1 + 1 + 1 + 1, o4') :: (L + 1 + 1 + 1, o3') :: (L + 1 + 1, o2) :: (L + 1, o1) :: tl') → o3'.data = .cell v3' → o4'.data = .cell v4' → o5'.data = .cell v5' →
      (∀ p ∈ tl, p ∈ tl') → (lv', lst zs) ∈ tl' → Board nmT tl' zs ((brdB (colsB (turnB rows))).map along) → Off5 L tl' → Q .next { s with heap := h', toks := tk' }) :
    wpC (model PySem.Challenge.pw_xp0015_02 w) (callerA.deeper (envOfC (Str.ofString "law") scope L fa cdv)) (execs bd (envOfC (Str.ofString "law") scope L fa cdv)) Q NoE s := by
  refine' look_then ?k1 hl ?_
  case k1 => k_is
  intro e1 e2
  subst e2
  rw [hb] at e1
  clear hl hb
  simp only [List.cons.injEq] at e1
  obtain ⟨-, -, -, -, -, e1, -⟩ := e1
  simp only [Stmt.For.injEq] at e1
  obtain ⟨-, -, e1, -, -⟩ := e1
  subst e1

  obtain ⟨n21, n31, n41, n51, n32, n42, n52, n43, n53, n54⟩ := cells_ne L
  obtain ⟨r0, r1, r2, r3, rfl⟩ := four hr4
  obtain ⟨a0, a1, a2, a3, w0, w1, w2, w3, f0, f1, f2, f3, rfl, ma0, ma1, ma2, ma3, R0, R1, R2, R3⟩ := hBd.rows4
  obtain ⟨q00, q01⟩ := hrow r0 (.head _)
  obtain ⟨q10, q11⟩ := hrow r1 (.tail _ (.head _))
  obtain ⟨q20, q21⟩ := hrow r2 (.tail _ (.tail _ (.head _)))
  obtain ⟨q30, q31⟩ := hrow r3 (.tail _ (.tail _ (.tail _ (.head _))))
  replace F := fr_at (fr_at F hlev) (x := Str.ofString "most") (v := .int most tm) ((if_neg (by decide)).trans hmost)
  refine wpC_execs_cons ?_
  refine wpC_Assign_Name ?_
  refine wpC_callName (f := .ref 254) (P := (Mine.hd.heap_39 w.params).In) rfl ?hf (by rfl) (by rfl) (keeps_K (by k_is)) ?_
  case hf => k_steps
  refine wpC_of ?_
  k_steps
  all_goals (try k_data)
  k_dflt (refine' turned_c nm_rises R1 R3 q11 q31 q10 q30 hRT ?kB ?kF ?kX ?kN ?kT ?kk ?kd ?ku ?x1 ?x2 ?x3 ?x4 ?_)
  (case kB => k_asm); (case kF => k_asm); (case kX => assumption); (case kN => k_asm); (case kT => k_asm); (case kk => exact rfl); (case kd => ktr_room); (case ku => ktr_units); (case x1 => k_mem); (case x2 => k_mem); (case x3 => k_mem); (case x4 => k_mem)
  intro t b1 b3 u1 u3 h1 tk1 hu1 hu3 F1 N1 off1 tb1 tb3 b13
  have hO3 : ∀ p ∈ (L + 1 + 1, o2) :: (L + 1, o1) :: tl, p.1 ≠ L + 1 + 1 + 1 := by
    intro p hp
    rcases List.mem_cons.mp hp with rfl | hp
    · exact Ne.symm n32
    rcases List.mem_cons.mp hp with rfl | hp
    · exact Ne.symm n31
    · exact (hO p hp).2.2.1
  obtain ⟨x31, x32, x33⟩ := off1 (L + 1 + 1 + 1, o3) (.tail _ (.tail _ (.head _)))
  refine storeX_C F1 N1 rfl (UpdF.tail (Ne.symm x31) (UpdF.tail (Ne.symm x32) (UpdF.tail (Ne.symm x33) (UpdF.tail n53 (UpdF.tail n43 (UpdF.head hO3)))))) d3 (fun h2 o3' F2 N2 d3' => ?_) rfl rfl
  clear N1 F1 d3 N F
  have hB1 : Board nmT ((t, W.listOf #[.ref a0, .ref b1, .ref a2, .ref b3] 0) :: (b1, W.listOf (List.toArray u1) 0) :: (b3, W.listOf (List.toArray u3) 0) :: tl) [.ref a0, .ref b1, .ref a2, .ref b3] (turnB [r0, r1, r2, r3]) :=
    (((Board.nil.snoc (.tail _ (.tail _ (.tail _ ma0))) R0).snoc (.tail _ (.head _)) hu1).snoc (.tail _ (.tail _ (.tail _ ma2))) R2).snoc (.tail _ (.tail _ (.head _))) hu3
  have hB1l : ∀ r ∈ turnB [r0, r1, r2, r3], r.length = 4 ∧ ∀ c ∈ r, c < 16 := by
    intro r hr
    rcases List.mem_cons.mp hr with rfl | hr
    · exact ⟨q00, q01⟩
    rcases List.mem_cons.mp hr with rfl | hr
    · exact ⟨(List.length_reverse).trans q10, fun c hc => q11 c (List.mem_reverse.mp hc)⟩
    rcases List.mem_cons.mp hr with rfl | hr
    · exact ⟨q20, q21⟩
    rcases List.mem_cons.mp hr with rfl | hr
    · exact ⟨(List.length_reverse).trans q30, fun c hc => q31 c (List.mem_reverse.mp hc)⟩
    · cases hr
  refine wpC_of ?_
  k_steps
  all_goals (try k_data)
  refine Hold.mk ?_
  refine wpAny_Assign_Name ?_ (by with_unfolding_all rfl)
  k_steps
  all_goals (try k_data)
  refine Hold.mk ?_
  refine ListComp_K (by k_asm) (by with_unfolding_all rfl) rfl (fun k => rfl) (fun h => rfl) (fun C K => rfl) (by decide) ?_
  k_steps
  all_goals (try k_data)
  refine Hold.mk ?_
  rename Fr _ _ _ _ => F6
  rename News _ _ _ _ => N6
  rename IsRange _ _ _ _ _ _ _ _ => hrg
  have hOt : Off5 L ((t, W.listOf #[.ref a0, .ref b1, .ref a2, .ref b3] 0) :: (b1, W.listOf (List.toArray u1) 0) :: (b3, W.listOf (List.toArray u3) 0) :: tl) := by
    have y1 := off1 (L + 1, o1) (.tail _ (.tail _ (.tail _ (.tail _ (.head _)))))
    have y2 := off1 (L + 1 + 1, o2) (.tail _ (.tail _ (.tail _ (.head _))))
    have y3 := off1 (L + 1 + 1 + 1, o3) (.tail _ (.tail _ (.head _)))
    have y4 := off1 (L + 1 + 1 + 1 + 1, o4) (.tail _ (.head _))
    have y5 := off1 (L + 1 + 1 + 1 + 1 + 1, o5) (.head _)
    intro p hp
    rcases List.mem_cons.mp hp with rfl | hp
    · exact ⟨Ne.symm y1.1, Ne.symm y2.1, Ne.symm y3.1, Ne.symm y4.1, Ne.symm y5.1⟩
    rcases List.mem_cons.mp hp with rfl | hp
    · exact ⟨Ne.symm y1.2.1, Ne.symm y2.2.1, Ne.symm y3.2.1, Ne.symm y4.2.1, Ne.symm y5.2.1⟩
    rcases List.mem_cons.mp hp with rfl | hp
    · exact ⟨Ne.symm y1.2.2, Ne.symm y2.2.2, Ne.symm y3.2.2, Ne.symm y4.2.2, Ne.symm y5.2.2⟩
    · exact hO p hp
  obtain ⟨tlA, hsA, hX, hB, hOA, N6⟩ : ∃ tlA, (∀ p ∈ tl, p ∈ tlA) ∧ (t, W.listOf (List.toArray [.ref a0, .ref b1, .ref a2, .ref b3]) 0) ∈ tlA ∧ Board nmT tlA [.ref a0, .ref b1, .ref a2, .ref b3] (turnB [r0, r1, r2, r3]) ∧ Off5 L tlA ∧ News g L _ ((L + 1 + 1 + 1 + 1 + 1, o5) :: (L + 1 + 1 + 1 + 1, o4) :: (L + 1 + 1 + 1, o3') :: (L + 1 + 1, o2) :: (L + 1, o1) :: tlA) :=
    ⟨(t, W.listOf #[.ref a0, .ref b1, .ref a2, .ref b3] 0) :: (b1, W.listOf (List.toArray u1) 0) :: (b3, W.listOf (List.toArray u3) 0) :: tl, fun p hp => .tail _ (.tail _ (.tail _ hp)), .head _, hB1, hOt, fun p hp => N6 p (by
      rcases List.mem_cons.mp hp with rfl | hp
      · exact .tail _ (.tail _ (.tail _ (.head _)))
      rcases List.mem_cons.mp hp with rfl | hp
      · exact .tail _ (.tail _ (.tail _ (.tail _ (.head _))))
      rcases List.mem_cons.mp hp with rfl | hp
      · exact .tail _ (.tail _ (.tail _ (.tail _ (.tail _ (.head _)))))
      rcases List.mem_cons.mp hp with rfl | hp
      · exact .tail _ (.tail _ (.tail _ (.tail _ (.tail _ (.tail _ (.head _))))))
      rcases List.mem_cons.mp hp with rfl | hp
      · exact .tail _ (.tail _ (.tail _ (.tail _ (.tail _ (.tail _ (.tail _ (.head _)))))))
      rcases List.mem_cons.mp hp with rfl | hp
      · exact .head _
      rcases List.mem_cons.mp hp with rfl | hp
      · exact .tail _ (.head _)
      rcases List.mem_cons.mp hp with rfl | hp
      · exact .tail _ (.tail _ (.head _))
      exact .tail _ (.tail _ (.tail _ (.tail _ (.tail _ (.tail _ (.tail _ (.tail _ (hp)))))))))⟩

  refine ⟨_, _, _, _, _, _, 4, _, (fun i ys nx => ∃ tl2, nx = (L + 1 + 1 + 1 + 1 + 1, o5) :: (L + 1 + 1 + 1 + 1, o4) :: (L + 1 + 1 + 1, o3') :: (L + 1 + 1, o2) :: (L + 1, o1) :: tl2 ∧ (∀ p ∈ tlA, p ∈ tl2) ∧ Board nmT tl2 ys ((colsB (turnB [r0, r1, r2, r3])).take i) ∧ Off5 L tl2), rfl, rfl, F6, N6, hrg, by decide, by decide, by decide, ⟨tlA, rfl, fun p hp => hp, Board.nil, hOA⟩, ?step, ?fin⟩
  case step =>
    rintro g2 i ys nx v I oI C oC K oK D h7 tk7 E' hi ⟨tv, rfl⟩ ⟨tl2, rfl, hsub, hBz, hOz⟩ hdK F7 N7 off ne
    have hX' := hsub _ hX
    have hRl : (turnB [r0, r1, r2, r3]).length = 4 := hB.1.symm.trans rfl
    k_steps
    all_goals (try k_data)
    refine Hold.mk ?_
    refine ListComp_W (by k_asm) (by with_unfolding_all rfl) (by decide) rfl (by decide) rfl ?_
    k_steps
    all_goals (try k_data)
    refine Hold.mk ?_
    rename Fr _ _ _ _ => F8
    rename News _ _ _ _ => N8
    refine srcW_list (vs := [.ref a0, .ref b1, .ref a2, .ref b3]) rfl F8 N8 (by k_mem) (by rw [hB.1, hRl]; decide) (fun g8 => ?_)
    refine compRest_R (R := fun j y => ∃ tt, y = .str (nmT (((turnB [r0, r1, r2, r3]).map fun r => r.getD i 0).getD j 0)) tt) (by k_mem) ?step2 ?fin2
    case step2 =>
      intro j ys2 v2 I2 oI2 C2 oC2 D2 m₃ h9 tk9 E2 hj hP2 hC2 hx2 F9 N9
      obtain ⟨rj, hrj⟩ : ∃ r, (turnB [r0, r1, r2, r3])[j]? = some r := ⟨_, List.getElem?_eq_getElem (hB.1 ▸ hj)⟩
      obtain ⟨ra, rvs, re, rfl, hra, hrR⟩ := hB.2 j v2 rj hP2 hrj
      have hra' := hsub _ hra
      obtain ⟨tn, hnx⟩ := Board.item (z := 0 + (i : Int)) hrR (by rw [(hB1l rj (List.mem_of_getElem? hrj)).1]; exact hi) (by omega)
      k_steps
      all_goals (try k_data)
      have eG : (((turnB [r0, r1, r2, r3]).map fun r => r.getD i 0).getD j 0) = rj.getD i 0 := by
        rw [List.getD_eq_getElem?_getD, List.getElem?_map, hrj]
        rfl
      refine ElR.intro (by assumption) (by assumption) ?_
      rw [eG]
      exact ⟨_, rfl⟩
    case fin2 =>
      intro ys2 hl2 hy2 D2 h9 tk9 F9 N9 o9
      have hR2 : RT nmT ys2 ((turnB [r0, r1, r2, r3]).map fun r => r.getD i 0) := RT.of_get (hl2.trans (by rw [List.length_map]; exact hB.1)) hy2
      have hc2 : ∀ c ∈ ((turnB [r0, r1, r2, r3]).map fun r => r.getD i 0), c < 16 := by
        intro c hc
        obtain ⟨r, hr, rfl⟩ := List.mem_map.mp hc
        obtain ⟨hr4, hr16⟩ := hB1l r hr
        refine hr16 _ ?_
        rw [List.getD_eq_getElem?_getD, List.getElem?_eq_getElem (by omega)]
        exact List.getElem_mem _
      k_steps
      all_goals (try k_data)
      refine Hold.mk ?_
      k_dflt (refine' down_c nm_rises hR2 hc2 ?kl ?kB ?kF ?kX ?kN ?kT ?kk ?kd ?ku ?km ?_)
      (case kl => rw [List.length_map]; exact hRl); (case kB => k_asm); (case kF => k_asm); (case kX => assumption); (case kN => k_asm); (case kT => k_asm); (case kk => exact rfl); (case kd => ktr_room); (case ku => ktr_units); (case km => k_mem)
      intro D3 ys3 e3 h10 tk10 hR3 F10 N10 o10
      have offA := off
      refine ElJ.intro ((L + 1 + 1 + 1 + 1 + 1, o5) :: (L + 1 + 1 + 1 + 1, o4) :: (L + 1 + 1 + 1, o3') :: (L + 1 + 1, o2) :: (L + 1, o1) :: (D3, W.listOf (List.toArray ys3) e3) :: tl2) (by assumption) (fun p hp => N10 p (by
        rcases List.mem_cons.mp hp with rfl | hp
        · exact .tail _ (.tail _ (.head _))
        rcases List.mem_cons.mp hp with rfl | hp
        · exact .tail _ (.tail _ (.tail _ (.head _)))
        rcases List.mem_cons.mp hp with rfl | hp
        · exact .tail _ (.tail _ (.tail _ (.tail _ (.head _))))
        rcases List.mem_cons.mp hp with rfl | hp
        · exact .tail _ (.tail _ (.tail _ (.tail _ (.tail _ (.head _)))))
        rcases List.mem_cons.mp hp with rfl | hp
        · exact .tail _ (.tail _ (.tail _ (.tail _ (.tail _ (.tail _ (.head _))))))
        rcases List.mem_cons.mp hp with rfl | hp
        · exact .tail _ (.tail _ (.tail _ (.tail _ (.tail _ (.tail _ (.tail _ (.head _)))))))
        rcases List.mem_cons.mp hp with rfl | hp
        · exact .tail _ (.tail _ (.tail _ (.tail _ (.tail _ (.tail _ (.tail _ (.tail _ (.head _))))))))
        rcases List.mem_cons.mp hp with rfl | hp
        · exact .tail _ (.tail _ (.tail _ (.tail _ (.tail _ (.tail _ (.tail _ (.tail _ (.tail _ (.head _)))))))))
        rcases List.mem_cons.mp hp with rfl | hp
        · exact .tail _ (.tail _ (.tail _ (.tail _ (.tail _ (.tail _ (.tail _ (.tail _ (.tail _ (.tail _ (.head _))))))))))
        rcases List.mem_cons.mp hp with rfl | hp
        · exact .head _
        exact .tail _ (.tail _ (.tail _ (.tail _ (.tail _ (.tail _ (.tail _ (.tail _ (.tail _ (.tail _ (.tail _ (hp))))))))))))) ?offL ⟨?offK, (D3, W.listOf (List.toArray ys3) e3) :: tl2, rfl, fun p hp => .tail _ (hsub p hp), ?hBL, ?hOL⟩
      case offL =>
        intro p hp
        have hp' := mem_mid (A := [(L + 1 + 1 + 1 + 1 + 1, o5), (L + 1 + 1 + 1 + 1, o4), (L + 1 + 1 + 1, o3'), (L + 1 + 1, o2), (L + 1, o1)]) hp
        rcases hp' with rfl | hp'
        · exact ⟨Ne.symm (o10 _ (.tail _ (.head _))), Ne.symm (o10 _ (.tail _ (.tail _ (.head _)))), Ne.symm (o10 _ (.tail _ (.tail _ (.tail _ (.tail _ (.head _))))))⟩
        · exact ⟨(off p hp').1, (off p hp').2.1, (off p hp').2.2.2⟩
      case offK =>
        intro p hp
        have hp' := mem_mid (A := [(L + 1 + 1 + 1 + 1 + 1, o5), (L + 1 + 1 + 1 + 1, o4), (L + 1 + 1 + 1, o3'), (L + 1 + 1, o2), (L + 1, o1)]) hp
        rcases hp' with rfl | hp'
        · exact Ne.symm (o10 _ (.tail _ (.tail _ (.tail _ (.head _)))))
        · exact (off p hp').2.2.1
      case hBL =>
        have e1 : (colsB (turnB [r0, r1, r2, r3])).take (i + 1) = (colsB (turnB [r0, r1, r2, r3])).take i ++ [down ((turnB [r0, r1, r2, r3]).map fun r => r.getD i 0)] := by
          rw [List.take_succ]
          congr 1
          rw [colsB, List.getElem?_map, List.getElem?_range hi]
          rfl
        rw [e1]
        exact (hBz.mono fun p hp => .tail _ hp).snoc (.head _) hR3
      case hOL =>
        intro p hp
        rcases List.mem_cons.mp hp with rfl | hp
        · exact ⟨Ne.symm (o10 _ (.tail _ (.tail _ (.tail _ (.tail _ (.tail _ (.tail _ (.tail _ (.tail _ (.tail _ (.head _))))))))))), Ne.symm (o10 _ (.tail _ (.tail _ (.tail _ (.tail _ (.tail _ (.tail _ (.tail _ (.tail _ (.head _)))))))))), Ne.symm (o10 _ (.tail _ (.tail _ (.tail _ (.tail _ (.tail _ (.tail _ (.tail _ (.head _))))))))), Ne.symm (o10 _ (.tail _ (.tail _ (.tail _ (.tail _ (.tail _ (.tail _ (.head _)))))))), Ne.symm (o10 _ (.tail _ (.tail _ (.tail _ (.tail _ (.tail _ (.head _)))))))⟩
        · exact hOz p hp
  case fin =>
    rintro g2 ys nx ⟨tl2, rfl, hsub, hBz, hOz⟩
    have hZ : Board nmT tl2 ys (colsB (turnB [r0, r1, r2, r3])) := by
      have e : (colsB (turnB [r0, r1, r2, r3])).take 4 = (colsB (turnB [r0, r1, r2, r3])) := List.take_of_length_le (by simp [colsB])
      rw [← e]; exact hBz
    clear hBz
    k_steps
    all_goals (try k_data)
    rename Fr _ _ _ _ => F12
    rename News _ _ _ _ => N12
    rename_i cld _ _ o12
    have hys : ys.length = 4 := hZ.1.trans (by simp [colsB])
    have hcl : ∀ r ∈ colsB (turnB [r0, r1, r2, r3]), r.length = 4 ∧ ∀ c ∈ r, c < 16 := colsB_ok rfl hB1l
    have hO5 : ∀ p ∈ (L + 1 + 1 + 1 + 1, o4) :: (L + 1 + 1 + 1, o3') :: (L + 1 + 1, o2) :: (L + 1, o1) :: tl2, p.1 ≠ L + 1 + 1 + 1 + 1 + 1 := by
      intro p hp
      rcases List.mem_cons.mp hp with rfl | hp
      · exact Ne.symm n54
      rcases List.mem_cons.mp hp with rfl | hp
      · exact Ne.symm n53
      rcases List.mem_cons.mp hp with rfl | hp
      · exact Ne.symm n52
      rcases List.mem_cons.mp hp with rfl | hp
      · exact Ne.symm n51
      · exact (hOz p hp).2.2.2.2
    refine storeX_C F12 N12 rfl (UpdF.tail (Ne.symm o12.1) (UpdF.head hO5)) d5 (fun h13 o5' F13 N13 d5' => ?_) rfl rfl
    obtain ⟨tlB, hsB, hXB, hBB, hOB, N13⟩ : ∃ tlB, (∀ p ∈ tlA, p ∈ tlB) ∧ (cld, W.listOf (List.toArray ys) ys.length) ∈ tlB ∧ Board nmT tlB ys (colsB (turnB [r0, r1, r2, r3])) ∧ Off5 L tlB ∧ News g L _ ((L + 1 + 1 + 1 + 1 + 1, o5') :: (L + 1 + 1 + 1 + 1, o4) :: (L + 1 + 1 + 1, o3') :: (L + 1 + 1, o2) :: (L + 1, o1) :: tlB) :=
      ⟨(cld, lst ys) :: tl2, fun p hp => .tail _ (hsub p hp), .head _, hZ.mono fun p hp => .tail _ hp, (by
        intro p hp
        rcases List.mem_cons.mp hp with rfl | hp
        · exact ⟨Ne.symm o12.2.2.2.2.1, Ne.symm o12.2.2.2.1, Ne.symm o12.2.2.1, Ne.symm o12.2.1, Ne.symm o12.1⟩
        · exact hOz p hp), fun p hp => N13 p (by
        rcases List.mem_cons.mp hp with rfl | hp
        · exact .tail _ (.head _)
        rcases List.mem_cons.mp hp with rfl | hp
        · exact .tail _ (.tail _ (.head _))
        rcases List.mem_cons.mp hp with rfl | hp
        · exact .tail _ (.tail _ (.tail _ (.head _)))
        rcases List.mem_cons.mp hp with rfl | hp
        · exact .tail _ (.tail _ (.tail _ (.tail _ (.head _))))
        rcases List.mem_cons.mp hp with rfl | hp
        · exact .tail _ (.tail _ (.tail _ (.tail _ (.tail _ (.head _)))))
        rcases List.mem_cons.mp hp with rfl | hp
        · exact .head _
        exact .tail _ (.tail _ (.tail _ (.tail _ (.tail _ (.tail _ (hp)))))))⟩
    clear N12 F12 d5 hZ hOz hsub
    k_steps
    all_goals (try k_data)
    refine Hold.mk ?_
    refine Assign_ListComp_K (by k_asm) (by rfl) (by with_unfolding_all rfl) (by with_unfolding_all rfl) rfl (fun k => rfl) (fun h => rfl) (fun C K => rfl) (by decide) rfl rfl ?_
    k_steps
    all_goals (try k_data)
    refine Hold.mk ?_
    rename Fr _ _ _ _ => F6
    rename News _ _ _ _ => N6
    rename IsRange _ _ _ _ _ _ _ _ => hrg
  
    refine ⟨_, _, _, _, _, _, 4, _, (fun i bz nx => ∃ tlC, nx = (L + 1 + 1 + 1 + 1 + 1, o5') :: (L + 1 + 1 + 1 + 1, o4) :: (L + 1 + 1 + 1, o3') :: (L + 1 + 1, o2) :: (L + 1, o1) :: tlC ∧ (∀ p ∈ tlB, p ∈ tlC) ∧ Board nmT tlC bz ((brdB (colsB (turnB [r0, r1, r2, r3]))).take i) ∧ Off5 L tlC), rfl, rfl, F6, N6, hrg, by decide, by decide, by decide, ⟨tlB, rfl, fun p hp => hp, Board.nil, hOB⟩, ?step, ?fin⟩
    case step =>
      rintro g2 i bz nx v I oI C oC K oK D h7 tk7 E' hi ⟨tv, rfl⟩ ⟨tlC, rfl, hsub, hBz, hOz⟩ hdK F7 N7 off ne
      have hX' := hsub _ hXB
      have hRl : (colsB (turnB [r0, r1, r2, r3])).length = 4 := hBB.1.symm.trans hys
      k_steps
      all_goals (try k_data)
      refine Hold.mk ?_
      refine ListComp_W (by k_asm) (by with_unfolding_all rfl) (by decide) rfl (by decide) rfl ?_
      k_steps
      all_goals (try k_data)
      refine Hold.mk ?_
      rename Fr _ _ _ _ => F8
      rename News _ _ _ _ => N8
      refine srcW_list (vs := ys) rfl F8 N8 (by k_mem) (by rw [hBB.1, hRl]; decide) (fun g8 => ?_)
      refine compRest_R (R := fun j y => ∃ tt, y = .str (nmT (((colsB (turnB [r0, r1, r2, r3])).map fun r => r.getD i 0).getD j 0)) tt) (by k_mem) ?step2 ?fin2
      case step2 =>
        intro j ys2 v2 I2 oI2 C2 oC2 D2 m₃ h9 tk9 E2 hj hP2 hC2 hx2 F9 N9
        obtain ⟨rj, hrj⟩ : ∃ r, (colsB (turnB [r0, r1, r2, r3]))[j]? = some r := ⟨_, List.getElem?_eq_getElem (hBB.1 ▸ hj)⟩
        obtain ⟨ra, rvs, re, rfl, hra, hrR⟩ := hBB.2 j v2 rj hP2 hrj
        have hra' := hsub _ hra
        obtain ⟨tn, hnx⟩ := Board.item (z := 0 + (i : Int)) hrR (by rw [(hcl rj (List.mem_of_getElem? hrj)).1]; exact hi) (by omega)
        k_steps
        all_goals (try k_data)
        have eG : (((colsB (turnB [r0, r1, r2, r3])).map fun r => r.getD i 0).getD j 0) = rj.getD i 0 := by
          rw [List.getD_eq_getElem?_getD, List.getElem?_map, hrj]
          rfl
        refine ElR.intro (by assumption) (by assumption) ?_
        rw [eG]
        exact ⟨_, rfl⟩
      case fin2 =>
        intro ys2 hl2 hy2 D2 h9 tk9 F9 N9 o9
        have hR2 : RT nmT ys2 ((colsB (turnB [r0, r1, r2, r3])).map fun r => r.getD i 0) := RT.of_get (hl2.trans (by rw [List.length_map]; exact hBB.1)) hy2
        have hc2 : ∀ c ∈ ((colsB (turnB [r0, r1, r2, r3])).map fun r => r.getD i 0), c < 16 := by
          intro c hc
          obtain ⟨r, hr, rfl⟩ := List.mem_map.mp hc
          obtain ⟨hr4, hr16⟩ := hcl r hr
          refine hr16 _ ?_
          rw [List.getD_eq_getElem?_getD, List.getElem?_eq_getElem (by omega)]
          exact List.getElem_mem _
        have o10 := off1_mem o9
        have offA := off
        refine ElJ.intro ((L + 1 + 1 + 1 + 1 + 1, o5') :: (L + 1 + 1 + 1 + 1, o4) :: (L + 1 + 1 + 1, o3') :: (L + 1 + 1, o2) :: (L + 1, o1) :: (D2, lst ys2) :: tlC) (by assumption) (fun p hp => N9 p (by
          rcases List.mem_cons.mp hp with rfl | hp
          · exact .tail _ (.head _)
          rcases List.mem_cons.mp hp with rfl | hp
          · exact .tail _ (.tail _ (.head _))
          rcases List.mem_cons.mp hp with rfl | hp
          · exact .tail _ (.tail _ (.tail _ (.head _)))
          rcases List.mem_cons.mp hp with rfl | hp
          · exact .tail _ (.tail _ (.tail _ (.tail _ (.head _))))
          rcases List.mem_cons.mp hp with rfl | hp
          · exact .tail _ (.tail _ (.tail _ (.tail _ (.tail _ (.head _)))))
          rcases List.mem_cons.mp hp with rfl | hp
          · exact .tail _ (.tail _ (.tail _ (.tail _ (.tail _ (.tail _ (.head _))))))
          rcases List.mem_cons.mp hp with rfl | hp
          · exact .tail _ (.tail _ (.tail _ (.tail _ (.tail _ (.tail _ (.tail _ (.head _)))))))
          rcases List.mem_cons.mp hp with rfl | hp
          · exact .tail _ (.tail _ (.tail _ (.tail _ (.tail _ (.tail _ (.tail _ (.tail _ (.head _))))))))
          rcases List.mem_cons.mp hp with rfl | hp
          · exact .tail _ (.tail _ (.tail _ (.tail _ (.tail _ (.tail _ (.tail _ (.tail _ (.tail _ (.head _)))))))))
          rcases List.mem_cons.mp hp with rfl | hp
          · exact .head _
          exact .tail _ (.tail _ (.tail _ (.tail _ (.tail _ (.tail _ (.tail _ (.tail _ (.tail _ (.tail _ (hp)))))))))))) ?offL ⟨?offK, (D2, lst ys2) :: tlC, rfl, fun p hp => .tail _ (hsub p hp), ?hBL, ?hOL⟩
        case offL =>
          intro p hp
          have hp' := mem_mid (A := [(L + 1 + 1 + 1 + 1 + 1, o5'), (L + 1 + 1 + 1 + 1, o4), (L + 1 + 1 + 1, o3'), (L + 1 + 1, o2), (L + 1, o1)]) hp
          rcases hp' with rfl | hp'
          · exact ⟨Ne.symm (o10 _ (.head _)), Ne.symm (o10 _ (.tail _ (.head _))), Ne.symm (o10 _ (.tail _ (.tail _ (.tail _ (.head _)))))⟩
          · exact ⟨(off p hp').1, (off p hp').2.1, (off p hp').2.2.2⟩
        case offK =>
          intro p hp
          have hp' := mem_mid (A := [(L + 1 + 1 + 1 + 1 + 1, o5'), (L + 1 + 1 + 1 + 1, o4), (L + 1 + 1 + 1, o3'), (L + 1 + 1, o2), (L + 1, o1)]) hp
          rcases hp' with rfl | hp'
          · exact Ne.symm (o10 _ (.tail _ (.tail _ (.head _))))
          · exact (off p hp').2.2.1
        case hBL =>
          have e1 : (brdB (colsB (turnB [r0, r1, r2, r3]))).take (i + 1) = (brdB (colsB (turnB [r0, r1, r2, r3]))).take i ++ [((colsB (turnB [r0, r1, r2, r3])).map fun r => r.getD i 0)] := by
            rw [List.take_succ]
            congr 1
            rw [brdB, List.getElem?_map, List.getElem?_range hi]
            rfl
          rw [e1]
          exact (hBz.mono fun p hp => .tail _ hp).snoc (.head _) hR2
        case hOL =>
          intro p hp
          rcases List.mem_cons.mp hp with rfl | hp
          · exact ⟨Ne.symm (o10 _ (.tail _ (.tail _ (.tail _ (.tail _ (.tail _ (.tail _ (.tail _ (.tail _ (.head _)))))))))), Ne.symm (o10 _ (.tail _ (.tail _ (.tail _ (.tail _ (.tail _ (.tail _ (.tail _ (.head _))))))))), Ne.symm (o10 _ (.tail _ (.tail _ (.tail _ (.tail _ (.tail _ (.tail _ (.head _)))))))), Ne.symm (o10 _ (.tail _ (.tail _ (.tail _ (.tail _ (.tail _ (.head _))))))), Ne.symm (o10 _ (.tail _ (.tail _ (.tail _ (.tail _ (.head _))))))⟩
          · exact hOz p hp
    case fin =>
      rintro g2 bz nx ⟨tlC, rfl, hsub, hBz, hOz⟩
      have hZ : Board nmT tlC bz (brdB (colsB (turnB [r0, r1, r2, r3]))) := by
        have e : (brdB (colsB (turnB [r0, r1, r2, r3]))).take 4 = (brdB (colsB (turnB [r0, r1, r2, r3]))) := List.take_of_length_le (by simp [brdB])
        rw [← e]; exact hBz
      clear hBz
      k_steps
      all_goals (try k_data)
      rename_i bd _ _ _ _ o14
      have hbz : bz.length = 4 := hZ.1.trans (by simp [brdB])
      have hbl : ∀ r ∈ brdB (colsB (turnB [r0, r1, r2, r3])), r.length = 4 ∧ ∀ c ∈ r, c < 16 := brdB_ok (by simp [colsB]) hcl
      refine Hold.mk ?_
      refine Assign_ListComp_W (by k_asm) (by rfl) (by with_unfolding_all rfl) (by with_unfolding_all rfl) (by decide) rfl (by decide) rfl rfl rfl ?_
      k_steps
      all_goals (try k_data)
      refine Hold.mk ?_
      rename News _ _ _ _ => N11
      rename Fr _ _ _ _ => F11
    
      refine srcW_list (vs := bz) rfl F11 N11 (by k_mem) (by rw [hbz]; decide) (fun g11 => ?_)
      refine compRest_J (J := fun i zs nx => ∃ tl3, nx = (bd, lst bz) :: (L + 1 + 1 + 1 + 1 + 1, o5') :: (L + 1 + 1 + 1 + 1, o4) :: (L + 1 + 1 + 1, o3') :: (L + 1 + 1, o2) :: (L + 1, o1) :: tl3 ∧ (∀ p ∈ tlC, p ∈ tl3) ∧ Board nmT tl3 zs (((brdB (colsB (turnB [r0, r1, r2, r3]))).map along).take i) ∧ (∀ p ∈ tl3, p ∈ tlC ∨ ∀ q ∈ [(bd, lst bz), (L + 1 + 1 + 1 + 1 + 1, o5'), (L + 1 + 1 + 1 + 1, o4), (L + 1 + 1 + 1, o3'), (L + 1 + 1, o2), (L + 1, o1)], p.1 ≠ q.1))
        (fun _ _ _ hJ => by obtain ⟨tl3, rfl, _⟩ := hJ; k_mem) ⟨tlC, rfl, fun p hp => hp, ⟨rfl, fun i v r a => by simp at a⟩, fun p hp => .inl hp⟩ ?stepL ?finL
      case stepL =>
        intro i zs nx v I oI C oC D m₂ h12 tk12 E' hi hP hJ hC hx F12 N12 off12 ne12
        obtain ⟨tl3, rfl, hsub3, hB3z, hOz3⟩ := hJ
        have hi4 : i < (brdB (colsB (turnB [r0, r1, r2, r3]))).length := by rw [← hZ.1]; exact hi
        obtain ⟨r, hri⟩ : ∃ r, (brdB (colsB (turnB [r0, r1, r2, r3])))[i]? = some r := ⟨_, List.getElem?_eq_getElem hi4⟩
        obtain ⟨ra, rvs, re, rfl, hra, hrR⟩ := hZ.2 i v r hP hri
        have hra' := hsub3 _ hra
        obtain ⟨hr4, hr16⟩ := hbl r (List.mem_of_getElem? hri)
        k_steps
        all_goals (try k_data)
        refine Hold.mk ?_
        k_dflt (refine' along_c nm_rises hrR hr16 ?kl ?kB ?kF ?kX ?kN ?kT ?kk ?kd ?ku ?km ?_)
        (case kl => rw [hr4]; decide); (case kB => k_asm); (case kF => k_asm); (case kX => assumption); (case kN => k_asm); (case kT => k_asm); (case kk => exact rfl); (case kd => ktr_room); (case ku => ktr_units); (case km => k_mem)
        intro D2 zs2 h13 tk13 hR2 F13 N13 o13
        have o12' := off12.mem
        refine ElJ.intro ((bd, lst bz) :: (L + 1 + 1 + 1 + 1 + 1, o5') :: (L + 1 + 1 + 1 + 1, o4) :: (L + 1 + 1 + 1, o3') :: (L + 1 + 1, o2) :: (L + 1, o1) :: (D2, lst zs2) :: tl3) F13 (fun p hp => N13 p (by
          rcases List.mem_cons.mp hp with rfl | hp
          · exact .tail _ (.head _)
          rcases List.mem_cons.mp hp with rfl | hp
          · exact .tail _ (.tail _ (.head _))
          rcases List.mem_cons.mp hp with rfl | hp
          · exact .tail _ (.tail _ (.tail _ (.head _)))
          rcases List.mem_cons.mp hp with rfl | hp
          · exact .tail _ (.tail _ (.tail _ (.tail _ (.head _))))
          rcases List.mem_cons.mp hp with rfl | hp
          · exact .tail _ (.tail _ (.tail _ (.tail _ (.tail _ (.head _)))))
          rcases List.mem_cons.mp hp with rfl | hp
          · exact .tail _ (.tail _ (.tail _ (.tail _ (.tail _ (.tail _ (.head _))))))
          rcases List.mem_cons.mp hp with rfl | hp
          · exact .tail _ (.tail _ (.tail _ (.tail _ (.tail _ (.tail _ (.tail _ (.head _)))))))
          rcases List.mem_cons.mp hp with rfl | hp
          · exact .tail _ (.tail _ (.tail _ (.tail _ (.tail _ (.tail _ (.tail _ (.tail _ (.head _))))))))
          rcases List.mem_cons.mp hp with rfl | hp
          · exact .tail _ (.tail _ (.tail _ (.tail _ (.tail _ (.tail _ (.tail _ (.tail _ (.tail _ (.head _)))))))))
          rcases List.mem_cons.mp hp with rfl | hp
          · exact .head _
          exact .tail _ (.tail _ (.tail _ (.tail _ (.tail _ (.tail _ (.tail _ (.tail _ (.tail _ (.tail _ (hp)))))))))))) ?offL ⟨(D2, lst zs2) :: tl3, rfl, fun p hp => .tail _ (hsub3 p hp), ?hBL, ?hOL⟩
        case offL =>
          intro p hp
          have hp' : p = (D2, lst zs2) ∨ p ∈ (bd, lst bz) :: (L + 1 + 1 + 1 + 1 + 1, o5') :: (L + 1 + 1 + 1 + 1, o4) :: (L + 1 + 1 + 1, o3') :: (L + 1 + 1, o2) :: (L + 1, o1) :: tl3 := mem_mid (A := [(bd, lst bz), (L + 1 + 1 + 1 + 1 + 1, o5'), (L + 1 + 1 + 1 + 1, o4), (L + 1 + 1 + 1, o3'), (L + 1 + 1, o2), (L + 1, o1)]) hp
          rcases hp' with rfl | hp'
          · exact ⟨Ne.symm (o13 _ (.head _)), Ne.symm (o13 _ (.tail _ (.head _))), Ne.symm (o13 _ (.tail _ (.tail _ (.head _))))⟩
          · exact o12' p hp'
        case hBL =>
          have e1 : ((brdB (colsB (turnB [r0, r1, r2, r3]))).map along).take (i + 1) = ((brdB (colsB (turnB [r0, r1, r2, r3]))).map along).take i ++ [along r] := by
            rw [List.take_succ, List.getElem?_map, hri]
            rfl
          rw [e1]
          exact (hB3z.mono fun p hp => .tail _ hp).snoc (.head _) hR2
        case hOL =>
          intro p hp
          rcases List.mem_cons.mp hp with rfl | hp
          · exact .inr fun q hq => Ne.symm (o13 q (.tail _ (.tail _ (.tail _ (List.mem_append_left (as := [(bd, lst bz), (L + 1 + 1 + 1 + 1 + 1, o5'), (L + 1 + 1 + 1 + 1, o4), (L + 1 + 1 + 1, o3'), (L + 1 + 1, o2), (L + 1, o1)]) tl3 hq)))))
          · exact hOz3 p hp
      case finL =>
        intro zs nx hJ
        obtain ⟨tl3, rfl, hsub3, hB3z, hOz3⟩ := hJ
        have hZ3 : Board nmT tl3 zs ((brdB (colsB (turnB [r0, r1, r2, r3]))).map along) := by
          have e : ((brdB (colsB (turnB [r0, r1, r2, r3]))).map along).take (bz).length = (brdB (colsB (turnB [r0, r1, r2, r3]))).map along := List.take_of_length_le (by rw [List.length_map, ← hZ.1]; exact Nat.le_refl _)
          rw [← e]; exact hB3z
        clear hB3z
        k_steps
        all_goals (try k_data)
        rename Fr _ _ _ _ => F15
        rename News _ _ _ _ => N15
        rename_i lvn _ _ o15
        refine Hold.mk ?_
        k_dflt (refine' parted_c (rows := brdB (colsB (turnB [r0, r1, r2, r3]))) nm_rises hRT ?hl hbl ?kB ?kF ?kX ?kN ?kT ?kk ?kd ?ku ?hm ?hn hbz ?hrow ?_)
        (case hl => simp [brdB]); (case kB => k_asm); (case kF => k_asm); (case kX => assumption); (case kN => k_asm); (case kT => k_asm); (case kk => exact rfl); (case kd => ktr_room); (case ku => ktr_units); (case hm => k_mem)
        case hn => exact .tail _ (.tail _ (.tail _ (.tail _ (.tail _ (.tail _ (.tail _ (hsub3 _ (hsub _ (hsB _ (hsA _ hnm))))))))))
        case hrow => exact fun i v r a b => (hZ.mono fun p hp => .tail _ (.tail _ (.tail _ (.tail _ (.tail _ (.tail _ (.tail _ (hsub3 p hp)))))))).2 i v r a b
        intro ip h16 tk16 tq hip F16 N16
        have hpi := hpar ip hip
        k_steps
        all_goals (try k_data)
        rename Fr _ _ _ _ => F17
        rename News _ _ _ _ => N17
        rename IsRange _ _ _ _ _ _ _ _ => hrg2
        obtain ⟨m3, F18, hm3⟩ := fr_facts (fun m => m (Str.ofString "level") = some (.ref lvn)) F17 (by rfl)
        clear F17 F15 hpi
        have hOf : Off5 L tl3 := by
          intro p hp
          rcases hOz3 p hp with hp | hp
          · exact hOz p hp
          · exact ⟨hp _ (.tail _ (.tail _ (.tail _ (.tail _ (.tail _ (.head _)))))), hp _ (.tail _ (.tail _ (.tail _ (.tail _ (.head _))))), hp _ (.tail _ (.tail _ (.tail _ (.head _)))), hp _ (.tail _ (.tail _ (.head _))), hp _ (.tail _ (.head _))⟩
        have hZl : ∀ r ∈ (brdB (colsB (turnB [r0, r1, r2, r3]))).map along, r.length = 4 ∧ ∀ c ∈ r, c < 16 := by
          intro r hr
          obtain ⟨q, hq, rfl⟩ := List.mem_map.mp hr
          exact ⟨(along_length q).trans (hbl q hq).1, fun c hc => (hbl q hq).2 c ((along_mem q c).mp hc)⟩
        have hzs : zs.length = 4 := hZ3.1.trans (by simp [brdB])
        refine turns_range (n := 4) (J := fun i m nx => m (Str.ofString "level") = some (.ref lvn) ∧ ∃ o4' v4', o4'.data = .cell v4' ∧ nx = (lvn, lst zs) :: (bd, lst bz) :: (L + 1 + 1 + 1 + 1 + 1, o5') :: (L + 1 + 1 + 1 + 1, o4') :: (L + 1 + 1 + 1, o3') :: (L + 1 + 1, o2) :: (L + 1, o1) :: tl3)
          (by rfl) hrg2 (by decide) (by decide) F18 N17 ⟨hm3, o4, _, d4, rfl⟩ ?turn ?done
        case turn =>
          intro i m5 nx5 h19 tk19 It oI tv hi hJ hIt hoff F19 N19
          obtain ⟨hl5, o4', v4', d4', rfl⟩ := hJ
          replace F19 := fr_at F19 hl5
          k_steps
          all_goals (try k_data)
          have hIL4 : It ≠ L + 1 + 1 + 1 + 1 := fun e => hoff (L + 1 + 1 + 1 + 1, o4') (.tail _ (.tail _ (.tail _ (.head _)))) e.symm
          have hL4 : ∀ p ∈ (L + 1 + 1 + 1, o3') :: (L + 1 + 1, o2) :: (L + 1, o1) :: tl3, p.1 ≠ L + 1 + 1 + 1 + 1 := by
            intro p hp
            rcases List.mem_cons.mp hp with rfl | hp
            · exact Ne.symm n43
            rcases List.mem_cons.mp hp with rfl | hp
            · exact Ne.symm n42
            rcases List.mem_cons.mp hp with rfl | hp
            · exact Ne.symm n41
            · exact (hOf p hp).2.2.2.1
          refine storeX_C F19 N19 rfl (UpdF.tail hIL4 (UpdF.tail (Ne.symm o15.2.2.1) (UpdF.tail (Ne.symm o14.2.1) (UpdF.tail n54 (UpdF.head hL4))))) d4' (fun h20 o4n F20 N20 d4n => ?_) rfl rfl
          clear F19 N19 d4'
          k_steps
          all_goals (try k_data)
          refine Hold.mk ?_
          refine ListComp_W (by k_asm) (by with_unfolding_all rfl) (by decide) rfl (by decide) rfl ?_
          k_steps
          all_goals (try k_data)
          refine Hold.mk ?_
          rename Fr _ _ _ _ => F21
          rename News _ _ _ _ => N21
          refine srcW_list (vs := zs) rfl F21 N21 (by k_mem) (by rw [hzs]; decide) (fun g8 => ?_)
          refine compRest_R (R := fun j y => ∃ tt, y = .str (nmT ((((brdB (colsB (turnB [r0, r1, r2, r3]))).map along).map fun r => r.getD i 0).getD j 0)) tt) (by k_mem) ?step2 ?fin2
          case step2 =>
            intro j ys2 v2 I2 oI2 C2 oC2 D2 m₃ h9 tk9 E2 hj hP2 hC2 hx2 F9 N9
            obtain ⟨rj, hrj⟩ : ∃ r, ((brdB (colsB (turnB [r0, r1, r2, r3]))).map along)[j]? = some r := ⟨_, List.getElem?_eq_getElem (hZ3.1 ▸ hj)⟩
            obtain ⟨ra, rvs, re, rfl, hra, hrR⟩ := hZ3.2 j v2 rj hP2 hrj
            obtain ⟨tn, hnx⟩ := Board.item (z := 0 + (i : Int) * 1) hrR (by rw [(hZl rj (List.mem_of_getElem? hrj)).1]; exact hi) (by omega)
            k_steps
            all_goals (try k_data)
            have eG : ((((brdB (colsB (turnB [r0, r1, r2, r3]))).map along).map fun r => r.getD i 0).getD j 0) = rj.getD i 0 := by
              rw [List.getD_eq_getElem?_getD, List.getElem?_map, hrj]
              rfl
            refine ElR.intro (by assumption) (by assumption) ?_
            rw [eG]
            exact ⟨_, rfl⟩
          case fin2 =>
            intro ys2 hl2 hy2 D2 h9 tk9 F9 N9 o9
            have hR2 : RT nmT ys2 (((brdB (colsB (turnB [r0, r1, r2, r3]))).map along).map fun r => r.getD i 0) := RT.of_get (hl2.trans (by rw [List.length_map]; exact hZ3.1)) hy2
            have hc2 : ∀ c ∈ (((brdB (colsB (turnB [r0, r1, r2, r3]))).map along).map fun r => r.getD i 0), c < 16 := by
              intro c hc
              obtain ⟨r, hr, rfl⟩ := List.mem_map.mp hc
              exact getD_ok (hZl r hr).1 (hZl r hr).2 hi
            k_steps
            all_goals (try k_data)
            refine Hold.mk ?_
            k_dflt (refine' rises_c nm_rises hR2 hc2 ?kl hRT ?kB ?kF ?kX ?kN ?kT ?kk ?kd ?ku ?km ?kn ?_)
            (case kl => rw [List.length_map]; exact hZ3.1.symm.trans hzs); (case kB => k_asm); (case kF => k_asm); (case kX => assumption); (case kN => k_asm); (case kT => k_asm); (case kk => exact rfl); (case kd => ktr_room); (case ku => ktr_units); (case km => k_mem)
            case kn => exact .tail _ (.tail _ (.tail _ (.tail _ (.tail _ (.tail _ (.tail _ (.tail _ (.tail _ (hsub3 _ (hsub _ (hsB _ (hsA _ hnm))))))))))))
            intro h22 tk22 F22 N22
            rw [decide_eq_true (hris i hi)]
            k_steps
            all_goals (try k_data)
            refine TurnQ.next (nx₂ := (lvn, lst zs) :: (bd, lst bz) :: (L + 1 + 1 + 1 + 1 + 1, o5') :: (L + 1 + 1 + 1 + 1, o4n) :: (L + 1 + 1 + 1, o3') :: (L + 1 + 1, o2) :: (L + 1, o1) :: tl3) F22 (fun p hp => N22 p (.tail _ hp)) ?_ ⟨rfl, o4n, _, d4n, rfl⟩
            intro p hp
            rcases List.mem_cons.mp hp with rfl | hp
            · exact hoff _ (.head _)
            rcases List.mem_cons.mp hp with rfl | hp
            · exact hoff _ (.tail _ (.head _))
            rcases List.mem_cons.mp hp with rfl | hp
            · exact hoff _ (.tail _ (.tail _ (.head _)))
            rcases List.mem_cons.mp hp with rfl | hp
            · exact Ne.symm hIL4
            · exact hoff p (.tail _ (.tail _ (.tail _ (.tail _ hp))))
        case done =>
          intro m5 nx5 h19 tk19 hJ F19 N19
          obtain ⟨hl5, o4', v4', d4', rfl⟩ := hJ
          k_steps
          all_goals (try k_data)
          refine ret lvn zs _ _ m5 o3' o4' o5' _ _ _ ((lvn, lst zs) :: (bd, lst bz) :: tl3) hl5 (by assumption) (fun p hp => N19 p (by
            rcases List.mem_cons.mp hp with rfl | hp
            · exact .tail _ (.tail _ (.head _))
            rcases List.mem_cons.mp hp with rfl | hp
            · exact .tail _ (.tail _ (.tail _ (.head _)))
            rcases List.mem_cons.mp hp with rfl | hp
            · exact .tail _ (.tail _ (.tail _ (.tail _ (.head _))))
            rcases List.mem_cons.mp hp with rfl | hp
            · exact .tail _ (.tail _ (.tail _ (.tail _ (.tail _ (.head _)))))
            rcases List.mem_cons.mp hp with rfl | hp
            · exact .tail _ (.tail _ (.tail _ (.tail _ (.tail _ (.tail _ (.head _))))))
            rcases List.mem_cons.mp hp with rfl | hp
            · exact .head _
            rcases List.mem_cons.mp hp with rfl | hp
            · exact .tail _ (.head _)
            exact .tail _ (.tail _ (.tail _ (.tail _ (.tail _ (.tail _ (.tail _ (hp))))))))) d3' d4' d5' (fun p hp => .tail _ (.tail _ (hsub3 _ (hsub _ (hsB _ (hsA _ hp)))))) (.head _) (hZ3.mono fun p hp => .tail _ (.tail _ hp)) ?hOO
          intro p hp
          rcases List.mem_cons.mp hp with rfl | hp
          · exact ⟨Ne.symm o15.2.2.2.2.2.1, Ne.symm o15.2.2.2.2.1, Ne.symm o15.2.2.2.1, Ne.symm o15.2.2.1, Ne.symm o15.2.1⟩
          rcases List.mem_cons.mp hp with rfl | hp
          · exact ⟨Ne.symm o14.2.2.2.2.1, Ne.symm o14.2.2.2.1, Ne.symm o14.2.2.1, Ne.symm o14.2.1, Ne.symm o14.1⟩
          · exact hOf p hp
end
-- LE_02
section
set_option maxHeartbeats 4000000 in
theorem end_c {w : World} {p : Program} {loose : List Str} {mean : ExcName → Option Value} {mg mb : Str → Option Value}
    {g : Heap} {L fa : Addr} {cdv : Value} {m : Str → Option Value} {s : Shared} {oc : Value} {od : Option Addr} {name qual : Str} {params : Arguments} {body : List Stmt} {scope : Scope} {dV kV doc pm cdv0 ct : Value} {an : Option Addr} {osl : Array (Option Value)}
    (hl : (hd.heap_39 w.params).lookup 276 = some ⟨oc, od, .func (fnOf name qual params body scope dV kV doc pm an cdv0 ct), osl⟩)
    {s1 s2 s3 s4 s5 s6 : Stmt} {rest : List Stmt} (hb : body = s1 :: s2 :: s3 :: s4 :: s5 :: s6 :: rest)
    {Q : Flow → Shared → Prop} {o1 o2 o3 o4 o5 : Obj} {cd nml lv : Addr} {v3 : Option Value} {ysc nv lvs : List Value} {en le : Nat} {ns : List Nat} {rows : List (List Nat)} {tl : List (Addr × Obj)}
    (B : Below callerA g [] g) (F : Fr g L s.heap m) (X : (hd.heap_39 w.params).In g) (T : Top p loose mean mg mb g) (N : News g L s.heap ((L + 1 + 1 + 1 + 1 + 1, o5) :: (L + 1 + 1 + 1 + 1, o4) :: (L + 1 + 1 + 1, o3) :: (L + 1 + 1, o2) :: (L + 1, o1) :: tl)) (hlev : m (Str.ofString "level") = some (.ref lv))
    (d1 : o1.data = .cell (some (.ref cd))) (d2 : o2.data = .cell (some (.ref nml))) (d3 : o3.data = .cell v3)
    (hIT : IT ysc ns) (hn16 : ns.length = 16) (hnc : ∀ c ∈ ns, c < 16)
    (hRT : RT nmT nv (List.range 16)) (hcd : (cd, lst ysc) ∈ tl) (hnm : (nml, W.listOf (List.toArray nv) en) ∈ tl) (hlv : (lv, W.listOf (List.toArray lvs) le) ∈ tl) (hBd : Board nmT tl lvs rows) (hr4 : rows.length = 4) (hrow : ∀ r ∈ rows, r.length = 4 ∧ ∀ c ∈ r, c < 16) (hO : Off5 L tl)
    (hperm : rows.flatten.Perm ns) (hsor : rows.flatten.Pairwise (· ≤ ·))
    (ret : ∀ h' tk' m', Fr g L h' m' → Q (.ret (.bool true)) { s with heap := h', toks := tk' }) :
    wpC (model PySem.Challenge.pw_xp0015_02 w) (callerA.deeper (envOfC (Str.ofString "law") scope L fa cdv)) (execs rest (envOfC (Str.ofString "law") scope L fa cdv)) Q NoE s := by
  refine' look_then ?k1 hl ?_
  case k1 => k_is
  intro e1 e2
  subst e2
  rw [hb] at e1
  clear hl hb
  simp only [List.cons.injEq] at e1
  obtain ⟨-, -, -, -, -, -, e1⟩ := e1
  subst e1

  obtain ⟨n21, n31, n41, n51, n32, n42, n52, n43, n53, n54⟩ := cells_ne L
  obtain ⟨r0, r1, r2, r3, rfl⟩ := four hr4
  obtain ⟨a0, a1, a2, a3, w0, w1, w2, w3, f0, f1, f2, f3, rfl, ma0, ma1, ma2, ma3, R0, R1, R2, R3⟩ := hBd.rows4
  obtain ⟨q00, q01⟩ := hrow r0 (.head _)
  obtain ⟨q10, q11⟩ := hrow r1 (.tail _ (.head _))
  obtain ⟨q20, q21⟩ := hrow r2 (.tail _ (.tail _ (.head _)))
  obtain ⟨q30, q31⟩ := hrow r3 (.tail _ (.tail _ (.tail _ (.head _))))
  replace F := fr_at F hlev
  refine wpC_execs_cons ?_
  refine wpC_Assign_Name ?_
  refine wpC_callName (f := .ref 254) (P := (Mine.hd.heap_39 w.params).In) rfl ?hf (by rfl) (by rfl) (keeps_K (by k_is)) ?_
  case hf => k_steps
  refine wpC_of ?_
  k_steps
  all_goals (try k_data)
  k_dflt (refine' turned_c nm_rises R1 R3 q11 q31 q10 q30 hRT ?kB ?kF ?kX ?kN ?kT ?kk ?kd ?ku ?x1 ?x2 ?x3 ?x4 ?_)
  (case kB => k_asm); (case kF => k_asm); (case kX => assumption); (case kN => k_asm); (case kT => k_asm); (case kk => exact rfl); (case kd => ktr_room); (case ku => ktr_units); (case x1 => k_mem); (case x2 => k_mem); (case x3 => k_mem); (case x4 => k_mem)
  intro t b1 b3 u1 u3 h1 tk1 hu1 hu3 F1 N1 off1 tb1 tb3 b13
  have hO3 : ∀ p ∈ (L + 1 + 1, o2) :: (L + 1, o1) :: tl, p.1 ≠ L + 1 + 1 + 1 := by
    intro p hp
    rcases List.mem_cons.mp hp with rfl | hp
    · exact Ne.symm n32
    rcases List.mem_cons.mp hp with rfl | hp
    · exact Ne.symm n31
    · exact (hO p hp).2.2.1
  obtain ⟨x31, x32, x33⟩ := off1 (L + 1 + 1 + 1, o3) (.tail _ (.tail _ (.head _)))
  refine storeX_C F1 N1 rfl (UpdF.tail (Ne.symm x31) (UpdF.tail (Ne.symm x32) (UpdF.tail (Ne.symm x33) (UpdF.tail n53 (UpdF.tail n43 (UpdF.head hO3)))))) d3 (fun h2 o3' F2 N2 d3' => ?_) rfl rfl
  clear N1 F1 d3 N F
  obtain ⟨c00, c01, c02, c03, rfl⟩ := four q00
  obtain ⟨c10, c11, c12, c13, rfl⟩ := four q10
  obtain ⟨c20, c21, c22, c23, rfl⟩ := four q20
  obtain ⟨c30, c31, c32, c33, rfl⟩ := four q30
  obtain ⟨t00, t01, t02, t03, rfl⟩ := R0.four
  obtain ⟨t10, t11, t12, t13, rfl⟩ := hu1.four
  obtain ⟨t20, t21, t22, t23, rfl⟩ := R2.four
  obtain ⟨t30, t31, t32, t33, rfl⟩ := hu3.four
  refine wpC_of ?_
  k_steps
  all_goals (try k_data)
  rename Fr _ _ _ _ => F3
  rename News _ _ _ _ => N3
  rename_i td _ _ h4
  obtain ⟨told, cs, hcs, hTD, hc16, tlA, hAm, N4⟩ : ∃ told cs, cs = [c00, c01, c02, c03, c10, c11, c12, c13, c20, c21, c22, c23, c30, c31, c32, c33] ∧ RT nmT told cs ∧ (∀ c ∈ cs, c < 16) ∧ ∃ tlA, (∀ p ∈ (L + 1 + 1 + 1 + 1 + 1, o5) :: (L + 1 + 1 + 1 + 1, o4) :: (L + 1 + 1 + 1, o3') :: (L + 1 + 1, o2) :: (L + 1, o1) :: tl, p ∈ tlA) ∧ News g L h4 ((td, W.listOf (List.toArray told) 0) :: tlA) := by
    refine ⟨_, _, rfl, ?hT, ?hc, _, ?hA, N3⟩
    case hT => exact RT.cons rfl (RT.cons rfl (RT.cons rfl (RT.cons rfl (RT.cons rfl (RT.cons rfl (RT.cons rfl (RT.cons rfl (RT.cons rfl (RT.cons rfl (RT.cons rfl (RT.cons rfl (RT.cons rfl (RT.cons rfl (RT.cons rfl (RT.cons rfl RT.nil)))))))))))))))
    case hc =>
      intro c hc
      have hfl : c ∈ [[c00, c01, c02, c03], [c10, c11, c12, c13], [c20, c21, c22, c23], [c30, c31, c32, c33]].flatten := hc
      obtain ⟨r, hr, hcr⟩ := List.mem_flatten.mp hfl
      exact (hrow r hr).2 c hcr
    case hA =>
      intro p hp
      repeat (first | exact hp | apply List.Mem.tail)
  have hpm : cs.Perm ns := hcs ▸ hperm
  have hso : cs.Pairwise (· ≤ ·) := hcs ▸ hsor
  clear N3 hcs hperm hsor
  have hmd := hAm _ (.tail _ (.tail _ (.tail _ (.tail _ (.tail _ (hcd))))))
  have hmn := hAm _ (.tail _ (.tail _ (.tail _ (.tail _ (.tail _ (hnm))))))
  have hm1 := hAm (L + 1, o1) (.tail _ (.tail _ (.tail _ (.tail _ (.head _)))))
  have hm2 := hAm (L + 1 + 1, o2) (.tail _ (.tail _ (.tail _ (.head _))))
  refine Hold.mk ?_
  refine ListComp_W (by k_asm) (by with_unfolding_all rfl) (by decide) rfl (by decide) rfl ?_
  k_steps
  all_goals (try k_data)
  refine Hold.mk ?_
  refine kso_sorted F3 N4 (led_list N4 (.tail _ hmd)) hIT.ints (by rw [List.length_map, hn16]; decide) ?_
  intro D2 vs2 ns2 k2 h5 F5 N5 l5 i5 len5 p5 s5 _
  have e5 : ns2 = cs.map fun n : Nat => (n : Int) := by
    refine (p5.trans (hpm.map _).symm).eq_of_pairwise (fun a b _ _ h1 h2 => Int.le_antisymm h1 h2) s5 ?_
    rw [List.pairwise_map]
    exact hso.imp fun {a b} h => Int.ofNat_le.mpr h
  subst e5
  have hIT2 : IT vs2 cs := IT.of_ints i5
  have hl16 : vs2.length = 16 := hIT2.1.trans (hpm.length_eq.trans hn16)
  k_steps
  all_goals (try k_data)
  refine Hold.mk ?_
  rename Fr _ _ _ _ => F6
  rename News _ _ _ _ => N6
  refine srcW_list (vs := vs2) rfl F6 N6 (by k_mem) (by rw [hl16]; decide) (fun g9 => ?_)
  refine compRest_R (R := fun j y => ∃ t, y = .str (nmT (cs.getD j 0)) t) (by k_mem) ?step2 ?fin2
  case step2 =>
    intro j ys2 v2 I2 oI2 C2 oC2 D3 m₃ h10 tk10 E2 hj hP2 hC2 hx2 F10 N10
    obtain ⟨c, tc, hc, rfl⟩ := hIT2.at hP2
    have hcl : c < 16 := hc16 c (List.mem_of_getElem? hc)
    obtain ⟨tn, hnx⟩ := names_get hRT hcl
    k_steps
    all_goals (try k_data)
    exact ElR.intro (by assumption) (by assumption) ⟨_, by rw [List.getD_eq_getElem?_getD, hc]; rfl⟩
  case fin2 =>
    intro ys2 hl2 hy2 D3 h10 tk10 F10 N10 o10
    have hR2 : RT nmT ys2 cs := RT.of_get (hl2.trans hIT2.1) hy2
    k_steps
    all_goals (try k_data)
    refine Hold.mk ?_
    rename News _ _ _ _ => N11
    rename Fr _ _ _ _ => F11
    refine eq_words (led_list N11 (by k_mem)) (led_list N11 (.head _)) hTD hR2 nm_rises nm_ok hc16 hc16 (by ke_room) ?_
    rw [decide_eq_true rfl]
    k_steps
    all_goals (try k_data)
    exact ret _ _ _ (by assumption)
end
-- QB
section
noncomputable def bi (p : Prop) [Decidable p] : Nat := if p then 1 else 0
noncomputable def cnt (t : Nat) (l : List Nat) : Nat := l.countP fun x => decide (t ≤ x)
theorem cnt_perm {t : Nat} {l l' : List Nat} (h : l.Perm l') : cnt t l = cnt t l' := h.countP_eq _
theorem cnt4 (t a b c d : Nat) : cnt t [a, b, c, d] = bi (t ≤ a) + bi (t ≤ b) + bi (t ≤ c) + bi (t ≤ d) := by
  simp only [cnt, List.countP_cons, List.countP_nil, bi, decide_eq_true_eq]
  omega
theorem bi_iff {p q : Prop} [Decidable p] [Decidable q] (h : p ↔ q) : bi p = bi q := by
  unfold bi
  by_cases hp : p
  · rw [if_pos hp, if_pos (h.mp hp)]
  · rw [if_neg hp, if_neg (fun hq => hp (h.mpr hq))]
theorem cnt_le4 {t : Nat} {l : List Nat} (h : l.length = 4) : cnt t l ≤ 4 := h ▸ List.countP_le_length
theorem sorted_get {t k a b c d : Nat} (h : [a, b, c, d].Pairwise (· ≤ ·)) (hk : k < 4) : t ≤ [a, b, c, d].getD k 0 ↔ 4 ≤ cnt t [a, b, c, d] + k := by
  have h1 : a ≤ b ∧ b ≤ c ∧ c ≤ d := by
    simp only [List.pairwise_cons, List.mem_cons, List.not_mem_nil, or_false] at h
    exact ⟨h.1 b (.inl rfl), h.2.1 c (.inl rfl), h.2.2.1 d rfl⟩
  rw [cnt4]
  have hk' : k = 0 ∨ k = 1 ∨ k = 2 ∨ k = 3 := by omega
  unfold bi
  rcases hk' with rfl | rfl | rfl | rfl <;> simp only [List.getD_cons_zero, List.getD_cons_succ] <;> repeat' split
  all_goals omega
theorem sorted_get' {t k : Nat} {l : List Nat} (hl : l.length = 4) (h : l.Pairwise (· ≤ ·)) (hk : k < 4) : t ≤ l.getD k 0 ↔ 4 ≤ cnt t l + k := by
  obtain ⟨a, b, c, d, rfl⟩ := four hl
  exact sorted_get h hk
theorem rev_get {k : Nat} {l : List Nat} (hl : l.length = 4) (hk : k < 4) : l.reverse.getD k 0 = l.getD (3 - k) 0 := by
  obtain ⟨a, b, c, d, rfl⟩ := four hl
  have hk' : k = 0 ∨ k = 1 ∨ k = 2 ∨ k = 3 := by omega
  rcases hk' with rfl | rfl | rfl | rfl <;> rfl

noncomputable def cc (a b c d k : Nat) : Nat := bi (4 ≤ a + k) + bi (k + 1 ≤ b) + bi (4 ≤ c + k) + bi (k + 1 ≤ d)
noncomputable def nn (a b c d r : Nat) : Nat := bi (4 ≤ cc a b c d 0 + r) + bi (4 ≤ cc a b c d 1 + r) + bi (4 ≤ cc a b c d 2 + r) + bi (4 ≤ cc a b c d 3 + r)
noncomputable def pc (a b c d : Nat) : Nat := bi (0 < a ∧ a < 4) + bi (0 < b ∧ b < 4) + bi (0 < c ∧ c < 4) + bi (0 < d ∧ d < 4)

theorem once : ∀ a b c d : Fin 5, pc (nn a b c d 0) (nn a b c d 1) (nn a b c d 2) (nn a b c d 3) ≤ 2 ∧ nn a b c d 0 + nn a b c d 1 + nn a b c d 2 + nn a b c d 3 = a + b + c + d ∧ nn a b c d 0 ≤ nn a b c d 1 ∧ nn a b c d 1 ≤ nn a b c d 2 ∧ nn a b c d 2 ≤ nn a b c d 3 := by decide +kernel
theorem twice : ∀ a b c d : Fin 5, pc (nn (nn a b c d 0) (nn a b c d 1) (nn a b c d 2) (nn a b c d 3) 0) (nn (nn a b c d 0) (nn a b c d 1) (nn a b c d 2) (nn a b c d 3) 1) (nn (nn a b c d 0) (nn a b c d 1) (nn a b c d 2) (nn a b c d 3) 2) (nn (nn a b c d 0) (nn a b c d 1) (nn a b c d 2) (nn a b c d 3) 3) ≤ 1 := by decide +kernel
theorem once' {a b c d : Nat} (ha : a ≤ 4) (hb : b ≤ 4) (hc : c ≤ 4) (hd : d ≤ 4) : pc (nn a b c d 0) (nn a b c d 1) (nn a b c d 2) (nn a b c d 3) ≤ 2 ∧ nn a b c d 0 + nn a b c d 1 + nn a b c d 2 + nn a b c d 3 = a + b + c + d ∧ nn a b c d 0 ≤ nn a b c d 1 ∧ nn a b c d 1 ≤ nn a b c d 2 ∧ nn a b c d 2 ≤ nn a b c d 3 :=
  once ⟨a, by omega⟩ ⟨b, by omega⟩ ⟨c, by omega⟩ ⟨d, by omega⟩
theorem twice' {a b c d : Nat} (ha : a ≤ 4) (hb : b ≤ 4) (hc : c ≤ 4) (hd : d ≤ 4) : pc (nn (nn a b c d 0) (nn a b c d 1) (nn a b c d 2) (nn a b c d 3) 0) (nn (nn a b c d 0) (nn a b c d 1) (nn a b c d 2) (nn a b c d 3) 1) (nn (nn a b c d 0) (nn a b c d 1) (nn a b c d 2) (nn a b c d 3) 2) (nn (nn a b c d 0) (nn a b c d 1) (nn a b c d 2) (nn a b c d 3) 3) ≤ 1 :=
  twice ⟨a, by omega⟩ ⟨b, by omega⟩ ⟨c, by omega⟩ ⟨d, by omega⟩

structure Four (r0 r1 r2 r3 : List Nat) : Prop where
  l0 : r0.length = 4
  l1 : r1.length = 4
  l2 : r2.length = 4
  l3 : r3.length = 4
  s0 : r0.Pairwise (· ≤ ·)
  s1 : r1.Pairwise (· ≤ ·)
  s2 : r2.Pairwise (· ≤ ·)
  s3 : r3.Pairwise (· ≤ ·)

theorem col_cnt {r0 r1 r2 r3 : List Nat} (f : Four r0 r1 r2 r3) {t k : Nat} (hk : k < 4) :
    cnt t ((turnB [r0, r1, r2, r3]).map fun r => r.getD k 0) = cc (cnt t r0) (cnt t r1) (cnt t r2) (cnt t r3) k := by
  show cnt t [r0.getD k 0, r1.reverse.getD k 0, r2.getD k 0, r3.reverse.getD k 0] = _
  rw [cnt4, rev_get f.l1 hk, rev_get f.l3 hk]
  unfold cc
  have e0 := bi_iff (sorted_get' (t := t) f.l0 f.s0 hk)
  have e1 := bi_iff (sorted_get' (t := t) f.l1 f.s1 (show 3 - k < 4 by omega))
  have e2 := bi_iff (sorted_get' (t := t) f.l2 f.s2 hk)
  have e3 := bi_iff (sorted_get' (t := t) f.l3 f.s3 (show 3 - k < 4 by omega))
  rw [e0, e1, e2, e3, bi_iff (show 4 ≤ cnt t r1 + (3 - k) ↔ k + 1 ≤ cnt t r1 by omega), bi_iff (show 4 ≤ cnt t r3 + (3 - k) ↔ k + 1 ≤ cnt t r3 by omega)]

noncomputable def rowS (rows : List (List Nat)) (r : Nat) : List Nat := (colsB (turnB rows)).map fun c => c.getD r 0
theorem brd_rows (rows : List (List Nat)) : brdB (colsB (turnB rows)) = [rowS rows 0, rowS rows 1, rowS rows 2, rowS rows 3] := rfl
theorem rowS_len (rows : List (List Nat)) (r : Nat) : (rowS rows r).length = 4 := by simp [rowS, colsB]
theorem rowS_cnt {r0 r1 r2 r3 : List Nat} (f : Four r0 r1 r2 r3) {t r : Nat} (hr : r < 4) : cnt t (rowS [r0, r1, r2, r3] r) = nn (cnt t r0) (cnt t r1) (cnt t r2) (cnt t r3) r := by
  have col : ∀ k, k < 4 → (t ≤ (down ((turnB [r0, r1, r2, r3]).map fun r => r.getD k 0)).getD r 0 ↔ 4 ≤ cc (cnt t r0) (cnt t r1) (cnt t r2) (cnt t r3) k + r) := by
    intro k hk
    obtain ⟨hs, hp⟩ := down_sort ((turnB [r0, r1, r2, r3]).map fun r => r.getD k 0)
    rw [sorted_get' (by rw [hp.length_eq]; rfl) hs hr, cnt_perm hp, col_cnt f hk]
  show cnt t [(down ((turnB [r0, r1, r2, r3]).map fun r => r.getD 0 0)).getD r 0, (down ((turnB [r0, r1, r2, r3]).map fun r => r.getD 1 0)).getD r 0, (down ((turnB [r0, r1, r2, r3]).map fun r => r.getD 2 0)).getD r 0, (down ((turnB [r0, r1, r2, r3]).map fun r => r.getD 3 0)).getD r 0] = _
  rw [cnt4, bi_iff (col 0 (by decide)), bi_iff (col 1 (by decide)), bi_iff (col 2 (by decide)), bi_iff (col 3 (by decide))]
  rfl

theorem row_any {q : List Nat} (h : q.length = 4) (t : Nat) : (q.any (· < t) && q.any (t ≤ ·)) = decide (0 < cnt t q ∧ cnt t q < 4) := by
  obtain ⟨a, b, c, d, rfl⟩ := four h
  rw [cnt4, Bool.eq_iff_iff]
  simp only [List.any_cons, List.any_nil, Bool.or_false, Bool.and_eq_true, Bool.or_eq_true, decide_eq_true_eq]
  unfold bi
  repeat' split
  all_goals omega
theorem parted_pc {q0 q1 q2 q3 : List Nat} (h0 : q0.length = 4) (h1 : q1.length = 4) (h2 : q2.length = 4) (h3 : q3.length = 4) (t : Nat) : partedAt [q0, q1, q2, q3] t = pc (cnt t q0) (cnt t q1) (cnt t q2) (cnt t q3) := by
  unfold partedAt pc
  rw [← List.countP_eq_length_filter]
  simp only [List.countP_cons, List.countP_nil, row_any h0, row_any h1, row_any h2, row_any h3, decide_eq_true_eq, bi]
  omega

theorem four_along {q0 q1 q2 q3 : List Nat} (h0 : q0.length = 4) (h1 : q1.length = 4) (h2 : q2.length = 4) (h3 : q3.length = 4) : Four (along q0) (along q1) (along q2) (along q3) :=
  ⟨(along_length _).trans h0, (along_length _).trans h1, (along_length _).trans h2, (along_length _).trans h3, (along_sort _).1, (along_sort _).1, (along_sort _).1, (along_sort _).1⟩
theorem cnt_along (t : Nat) (q : List Nat) : cnt t (along q) = cnt t q := cnt_perm (along_sort q).2

theorem cols_rise {r0 r1 r2 r3 : List Nat} (f : Four r0 r1 r2 r3) (h : ∀ t, cnt t r0 ≤ cnt t r1 ∧ cnt t r1 ≤ cnt t r2 ∧ cnt t r2 ≤ cnt t r3) {k : Nat} (hk : k < 4) :
    ([r0, r1, r2, r3].map fun r => r.getD k 0).Pairwise (· ≤ ·) := by
  have le : ∀ {x y : List Nat}, x.length = 4 → y.length = 4 → x.Pairwise (· ≤ ·) → y.Pairwise (· ≤ ·) → (∀ t, cnt t x ≤ cnt t y) → x.getD k 0 ≤ y.getD k 0 := by
    intro x y lx ly sx sy hc
    have a := (sorted_get' (t := x.getD k 0) lx sx hk).mp (Nat.le_refl _)
    exact (sorted_get' ly sy hk).mpr (Nat.le_trans a (Nat.add_le_add_right (hc _) k))
  have h01 := le f.l0 f.l1 f.s0 f.s1 fun t => (h t).1
  have h12 := le f.l1 f.l2 f.s1 f.s2 fun t => (h t).2.1
  have h23 := le f.l2 f.l3 f.s2 f.s3 fun t => (h t).2.2
  simp only [List.map_cons, List.map_nil, List.pairwise_cons, List.mem_cons, List.not_mem_nil, or_false]
  refine ⟨?_, ?_, ?_, ?_, .nil⟩
  · rintro a (rfl | rfl | rfl) <;> omega
  · rintro a (rfl | rfl) <;> omega
  · rintro a rfl; omega
  · intro a ha; cases ha
theorem cnt_append (t : Nat) (a b : List Nat) : cnt t (a ++ b) = cnt t a + cnt t b := List.countP_append
theorem count_cnt (x : Nat) (l : List Nat) : l.count x + cnt (x + 1) l = cnt x l := by
  induction l with
  | nil => rfl
  | cons y l ih =>
    simp only [cnt, List.countP_cons, List.count_cons, decide_eq_true_eq, beq_iff_eq] at ih ⊢
    repeat' split
    all_goals omega
theorem perm_of_cnt {l l' : List Nat} (h : ∀ t, cnt t l = cnt t l') : l.Perm l' := by
  rw [List.perm_iff_count]
  intro x
  have a := count_cnt x l
  have b := count_cnt x l'
  have c := h x
  have d := h (x + 1)
  omega
theorem mem_cnt_pos {x : Nat} {l : List Nat} (h : x ∈ l) : 0 < cnt x l := List.countP_pos_iff.mpr ⟨x, h, by simp⟩
theorem cnt_all {t : Nat} {l : List Nat} (h : l.length ≤ cnt t l) {y : Nat} (hy : y ∈ l) : t ≤ y := by
  have := List.countP_eq_length.mp (Nat.le_antisymm List.countP_le_length h) y hy
  simpa using this
theorem flat_sorted {r0 r1 r2 r3 : List Nat} (f : Four r0 r1 r2 r3) (h : ∀ t, cnt t r0 ≤ cnt t r1 ∧ cnt t r1 ≤ cnt t r2 ∧ cnt t r2 ≤ cnt t r3) (hp : ∀ t, pc (cnt t r0) (cnt t r1) (cnt t r2) (cnt t r3) ≤ 1) :
    [r0, r1, r2, r3].flatten.Pairwise (· ≤ ·) := by
  have l0 := f.l0
  have l1 := f.l1
  have l2 := f.l2
  have l3 := f.l3
  have key : ∀ t, (0 < cnt t r0 → 4 ≤ cnt t r1 ∧ 4 ≤ cnt t r2 ∧ 4 ≤ cnt t r3) ∧ (0 < cnt t r1 → 4 ≤ cnt t r2 ∧ 4 ≤ cnt t r3) ∧ (0 < cnt t r2 → 4 ≤ cnt t r3) := by
    intro t
    have := hp t
    have := h t
    unfold pc bi at *
    refine ⟨fun h0 => ?_, fun h0 => ?_, fun h0 => ?_⟩ <;> (repeat' split at *) <;> omega
  simp only [List.flatten_cons, List.flatten_nil, List.append_nil, List.pairwise_append]
  refine ⟨f.s0, ⟨f.s1, ⟨f.s2, f.s3, ?_⟩, ?_⟩, ?_⟩
  · intro a ha b hb
    exact cnt_all (by rw [l3]; exact (key a).2.2 (mem_cnt_pos ha)) hb
  · intro a ha b hb
    have := (key a).2.1 (mem_cnt_pos ha)
    rcases List.mem_append.mp hb with hb | hb
    · exact cnt_all (by rw [l2]; exact this.1) hb
    · exact cnt_all (by rw [l3]; exact this.2) hb
  · intro a ha b hb
    have := (key a).1 (mem_cnt_pos ha)
    rcases List.mem_append.mp hb with hb | hb
    · exact cnt_all (by rw [l1]; exact this.1) hb
    · rcases List.mem_append.mp hb with hb | hb
      · exact cnt_all (by rw [l2]; exact this.2.1) hb
      · exact cnt_all (by rw [l3]; exact this.2.2) hb

noncomputable def stepB (rows : List (List Nat)) : List (List Nat) := (brdB (colsB (turnB rows))).map along
theorem stepB_four {r0 r1 r2 r3 : List Nat} (f : Four r0 r1 r2 r3) : ∃ q0 q1 q2 q3, stepB [r0, r1, r2, r3] = [q0, q1, q2, q3] ∧ Four q0 q1 q2 q3 ∧
    ∀ t, cnt t q0 = nn (cnt t r0) (cnt t r1) (cnt t r2) (cnt t r3) 0 ∧ cnt t q1 = nn (cnt t r0) (cnt t r1) (cnt t r2) (cnt t r3) 1 ∧ cnt t q2 = nn (cnt t r0) (cnt t r1) (cnt t r2) (cnt t r3) 2 ∧ cnt t q3 = nn (cnt t r0) (cnt t r1) (cnt t r2) (cnt t r3) 3 := by
  refine ⟨_, _, _, _, by rw [stepB, brd_rows]; rfl, four_along (rowS_len _ _) (rowS_len _ _) (rowS_len _ _) (rowS_len _ _), fun t => ?_⟩
  refine ⟨?_, ?_, ?_, ?_⟩ <;> rw [cnt_along, rowS_cnt f (by decide)]
theorem step_parted {r0 r1 r2 r3 : List Nat} (f : Four r0 r1 r2 r3) (t : Nat) : partedAt (brdB (colsB (turnB [r0, r1, r2, r3]))) t = pc (nn (cnt t r0) (cnt t r1) (cnt t r2) (cnt t r3) 0) (nn (cnt t r0) (cnt t r1) (cnt t r2) (cnt t r3) 1) (nn (cnt t r0) (cnt t r1) (cnt t r2) (cnt t r3) 2) (nn (cnt t r0) (cnt t r1) (cnt t r2) (cnt t r3) 3) := by
  rw [brd_rows, parted_pc (rowS_len _ _) (rowS_len _ _) (rowS_len _ _) (rowS_len _ _), rowS_cnt f (by decide), rowS_cnt f (by decide), rowS_cnt f (by decide), rowS_cnt f (by decide)]

theorem law_plain {ns : List Nat} (h16 : ns.length = 16) : ∃ rows rows1 rows2, rows = (rowsOf ns).map along ∧ rows1 = stepB rows ∧ rows2 = stepB rows1 ∧ rows.length = 4 ∧ rows1.length = 4 ∧ rows2.length = 4 ∧
    (∀ i, partedAt (brdB (colsB (turnB rows))) i ≤ 2) ∧ (∀ k, k < 4 → (rows1.map fun r => r.getD k 0).Pairwise (· ≤ ·)) ∧
    (∀ i, partedAt (brdB (colsB (turnB rows1))) i ≤ 1) ∧ (∀ k, k < 4 → (rows2.map fun r => r.getD k 0).Pairwise (· ≤ ·)) ∧ rows2.flatten.Perm ns ∧ rows2.flatten.Pairwise (· ≤ ·) := by
  obtain ⟨p0, p1, p2, p3, hrw, l0, l1, l2, l3, hfl⟩ : ∃ p0 p1 p2 p3, rowsOf ns = [p0, p1, p2, p3] ∧ p0.length = 4 ∧ p1.length = 4 ∧ p2.length = 4 ∧ p3.length = 4 ∧ ns = p0 ++ p1 ++ p2 ++ p3 := by
    refine ⟨(ns.drop 0).take 4, (ns.drop 4).take 4, (ns.drop 8).take 4, (ns.drop 12).take 4, rfl, ?_, ?_, ?_, ?_, ?_⟩
    · rw [List.length_take, List.length_drop, h16]; rfl
    · rw [List.length_take, List.length_drop, h16]; rfl
    · rw [List.length_take, List.length_drop, h16]; rfl
    · rw [List.length_take, List.length_drop, h16]; rfl
    · have e3 : (ns.drop 12).take 4 = ns.drop 12 := List.take_of_length_le (by rw [List.length_drop, h16]; decide)
      have e2 : (ns.drop 8).take 4 ++ ns.drop 12 = ns.drop 8 := by
        have := List.take_append_drop 4 (ns.drop 8)
        rwa [List.drop_drop] at this
      have e1 : (ns.drop 4).take 4 ++ ns.drop 8 = ns.drop 4 := by
        have := List.take_append_drop 4 (ns.drop 4)
        rwa [List.drop_drop] at this
      have e0 : ns.take 4 ++ ns.drop 4 = ns := List.take_append_drop 4 ns
      rw [e3, List.append_assoc, List.append_assoc, e2, e1, List.drop_zero, e0]
  have f := four_along l0 l1 l2 l3
  obtain ⟨q0, q1, q2, q3, e1, f1, c1⟩ := stepB_four f
  obtain ⟨u0, u1, u2, u3, e2, f2, c2⟩ := stepB_four f1
  have b0 := fun t => once' (cnt_le4 (t := t) f.l0) (cnt_le4 (t := t) f.l1) (cnt_le4 (t := t) f.l2) (cnt_le4 (t := t) f.l3)
  have b1 := fun t => once' (cnt_le4 (t := t) f1.l0) (cnt_le4 (t := t) f1.l1) (cnt_le4 (t := t) f1.l2) (cnt_le4 (t := t) f1.l3)
  have b2 := fun t => twice' (cnt_le4 (t := t) f.l0) (cnt_le4 (t := t) f.l1) (cnt_le4 (t := t) f.l2) (cnt_le4 (t := t) f.l3)
  have m1 : ∀ t, cnt t q0 ≤ cnt t q1 ∧ cnt t q1 ≤ cnt t q2 ∧ cnt t q2 ≤ cnt t q3 := by
    intro t
    obtain ⟨x0, x1, x2, x3⟩ := c1 t
    rw [x0, x1, x2, x3]
    exact (b0 t).2.2
  have m2 : ∀ t, cnt t u0 ≤ cnt t u1 ∧ cnt t u1 ≤ cnt t u2 ∧ cnt t u2 ≤ cnt t u3 := by
    intro t
    obtain ⟨x0, x1, x2, x3⟩ := c2 t
    rw [x0, x1, x2, x3]
    exact (b1 t).2.2
  have pt : ∀ t, pc (cnt t u0) (cnt t u1) (cnt t u2) (cnt t u3) ≤ 1 := by
    intro t
    obtain ⟨x0, x1, x2, x3⟩ := c2 t
    obtain ⟨y0, y1, y2, y3⟩ := c1 t
    rw [x0, x1, x2, x3, y0, y1, y2, y3]
    exact b2 t
  refine ⟨[along p0, along p1, along p2, along p3], [q0, q1, q2, q3], [u0, u1, u2, u3], by rw [hrw]; rfl, e1.symm, e2.symm, rfl, rfl, rfl, fun t => ?_, fun k hk => cols_rise f1 m1 hk, fun t => ?_, fun k hk => cols_rise f2 m2 hk, perm_of_cnt fun t => ?_, flat_sorted f2 m2 pt⟩
  · rw [step_parted f]
    exact (b0 t).1
  · rw [step_parted f1]
    obtain ⟨y0, y1, y2, y3⟩ := c1 t
    rw [y0, y1, y2, y3]
    exact b2 t
  · obtain ⟨x0, x1, x2, x3⟩ := c2 t
    obtain ⟨y0, y1, y2, y3⟩ := c1 t
    have z0 := (b0 t).2.1
    have z1 := (b1 t).2.1
    simp only [List.flatten_cons, List.flatten_nil, List.append_nil, hfl, cnt_append]
    simp only [cnt_along] at *
    omega
end
-- LW_02
section
noncomputable def rowsAt (rows : List (List Nat)) : Nat → List (List Nat)
  | 0 => rows
  | n + 1 => stepB (rowsAt rows n)
noncomputable def RowsOk (rows : List (List Nat)) : Prop := rows.length = 4 ∧ ∀ r ∈ rows, r.length = 4 ∧ ∀ c ∈ r, c < 16
theorem along_ok {rows : List (List Nat)} (h : RowsOk rows) : RowsOk (rows.map along) := by
  refine ⟨(List.length_map _).trans h.1, fun r hr => ?_⟩
  obtain ⟨q, hq, rfl⟩ := List.mem_map.mp hr
  exact ⟨(along_length q).trans (h.2 q hq).1, fun c hc => (h.2 q hq).2 c ((along_mem q c).mp hc)⟩
theorem turnB_ok {rows : List (List Nat)} (h : RowsOk rows) : RowsOk (turnB rows) := by
  obtain ⟨h4, h⟩ := h
  obtain ⟨r0, r1, r2, r3, rfl⟩ := four h4
  have g0 := h r0 (.head _)
  have g1 := h r1 (.tail _ (.head _))
  have g2 := h r2 (.tail _ (.tail _ (.head _)))
  have g3 := h r3 (.tail _ (.tail _ (.tail _ (.head _))))
  refine ⟨rfl, fun r hr => ?_⟩
  rcases List.mem_cons.mp hr with rfl | hr
  · exact g0
  rcases List.mem_cons.mp hr with rfl | hr
  · exact ⟨(List.length_reverse).trans g1.1, fun c hc => g1.2 c (List.mem_reverse.mp hc)⟩
  rcases List.mem_cons.mp hr with rfl | hr
  · exact g2
  rcases List.mem_cons.mp hr with rfl | hr
  · exact ⟨(List.length_reverse).trans g3.1, fun c hc => g3.2 c (List.mem_reverse.mp hc)⟩
  · cases hr
theorem stepB_ok {rows : List (List Nat)} (h : RowsOk rows) : RowsOk (stepB rows) := by
  have h1 := turnB_ok h
  exact along_ok ⟨by simp [brdB], brdB_ok (by simp [colsB]) (colsB_ok h1.1 h1.2)⟩
theorem rowsAt_ok {rows : List (List Nat)} (h : RowsOk rows) : ∀ i, RowsOk (rowsAt rows i)
  | 0 => h
  | i + 1 => stepB_ok (rowsAt_ok h i)
theorem list_off {g h : Heap} {L I a : Addr} {oI : Obj} {its : Array Value} {e : Nat} {nx : List (Addr × Obj)} (N : News g L h nx) (hI : (I, oI) ∈ nx) (hc : oI.cls = .type "list_iterator") (ha : (a, W.listOf its e) ∈ nx) : a ≠ I := by
  rintro rfl
  have h1 := (N _ hI).1
  have h2 := (N _ ha).1
  rw [h1] at h2
  have h3 : oI = W.listOf its e := Option.some.inj h2
  rw [h3] at hc
  simp [W.listOf] at hc
set_option maxHeartbeats 4000000 in
theorem law_w {w : World} {p : Program} {loose : List Str} {mean : ExcName → Option Value} {mg mb : Str → Option Value}
    {g : Heap} {L fa : Addr} {cdv : Value} {m : Str → Option Value} {s : Shared} {oc : Value} {od : Option Addr} {name qual : Str} {params : Arguments} {body : List Stmt} {scope : Scope} {dV kV doc pm cdv0 ct : Value} {an : Option Addr} {osl : Array (Option Value)}
    (hl : (hd.heap_39 w.params).lookup 276 = some ⟨oc, od, .func (fnOf name qual params body scope dV kV doc pm an cdv0 ct), osl⟩)
    {Q : Flow → Shared → Prop} {o1 o2 o3 o4 o5 : Obj} {sc : Addr} {vsc : List Value} {xs : List Int} (hsc : g.IsList sc vsc.toArray) (hI : IntsAre vsc xs) (hx63 : xs.length ≤ 63)
    (B : Below callerA g [] g) (F : Fr g L s.heap m) (X : (hd.heap_39 w.params).In g) (T : Top p loose mean mg mb g) (N : News g L s.heap [(L + 1 + 1 + 1 + 1 + 1, o5), (L + 1 + 1 + 1 + 1, o4), (L + 1 + 1 + 1, o3), (L + 1 + 1, o2), (L + 1, o1)]) (hm : m (Str.ofString "script") = some (.ref sc))
    (d1 : o1.data = .cell none) (d2 : o2.data = .cell none) (d3 : o3.data = .cell none) (d4 : o4.data = .cell none) (d5 : o5.data = .cell none)
    (ret : ∀ h' tk' m', Fr g L h' m' → Q (.ret (.bool true)) { s with heap := h', toks := tk' }) :
    wpC (model PySem.Challenge.pw_xp0015_02 w) (callerA.deeper (envOfC (Str.ofString "law") scope L fa cdv)) (execs body (envOfC (Str.ofString "law") scope L fa cdv)) Q NoE s := by
  have hl2 := hl
  refine' look_then ?k1 hl2 ?_
  case k1 => k_is
  intro e1 e2
  subst e1 e2
  clear hl2
  refine wpC_block (pre_c hl rfl hsc hI hx63 B F X T N hm d1 d2 ?ret) (fun f s' h => h)
  intro cd nml lv ysc ns nv en lvs h1 tk1 m1 o1' o2' tl hIT hn16 hnc hRT hlev F1 N1 d1' d2' hcd hnm hlv hBd hO
  obtain ⟨rows, rows1, rows2, e0, er1, er2, h4, h41, h42, P1, C1, P2, C2, hpm, hso⟩ := law_plain hn16
  rw [← e0] at hBd
  refine wpC_execs_cons ?_
  refine wpC_For ?_
  k_steps
  all_goals (try k_data)
  rename Fr _ _ _ _ => F2
  rename News _ _ _ _ => N2
  rename_i XL h2 l2
  have hrows : RowsOk rows := e0 ▸ along_ok ⟨by simp [rowsOf], rowsOf_ok hn16 hnc⟩
  obtain ⟨x2, x1, N2⟩ : ∃ x2 x1 : Tok, News g L h2 ((XL, W.listOf (List.toArray [.int 2 x2, .int 1 x1]) 0) :: (L + 1 + 1 + 1 + 1 + 1, o5) :: (L + 1 + 1 + 1 + 1, o4) :: (L + 1 + 1 + 1, o3) :: (L + 1 + 1, o2') :: (L + 1, o1') :: tl) := ⟨_, _, N2⟩
  have hOX : Off5 L ((XL, W.listOf (List.toArray [.int 2 x2, .int 1 x1]) 0) :: tl) := by
    intro p hp
    rcases List.mem_cons.mp hp with rfl | hp
    · exact ⟨Nat.ne_of_gt l2.2.2.2.2.1, Nat.ne_of_gt l2.2.2.2.1, Nat.ne_of_gt l2.2.2.1, Nat.ne_of_gt l2.2.1, Nat.ne_of_gt l2.1⟩
    · exact hO p hp
  have hXlt : XL < h2.objs.size := Heap.lt_size (N2 _ (.head _)).1
  have hLlt : L < h2.objs.size := F2.ns.lt
  refine wpAny_pyIter_list (led_list N2 (.head _)) ?_
  have up : ∀ b o, h2.get? b = some o → (h2.push { cls := .type "list_iterator", data := .fields #[.ref XL, .int 0 0] }).get? b = some o := fun b o e => Heap.get?_push_of_some _ e
  refine codeC_for_list (l := XL) (I := h2.objs.size) (vs := [.int 2 x2, .int 1 x1]) (e := 0) (L := L) (h₀ := g) (s := s)
    (fun i m nx => ∃ lv lvs le o3 o4 o5 v3 v4 v5 tl, nx = (L + 1 + 1 + 1 + 1 + 1, o5) :: (L + 1 + 1 + 1 + 1, o4) :: (L + 1 + 1 + 1, o3) :: (L + 1 + 1, o2') :: (L + 1, o1') :: tl ∧ m (Str.ofString "level") = some (.ref lv) ∧ o3.data = .cell v3 ∧ o4.data = .cell v4 ∧ o5.data = .cell v5 ∧ (cd, lst ysc) ∈ tl ∧ (nml, W.listOf (List.toArray nv) en) ∈ tl ∧ (XL, W.listOf (List.toArray [.int 2 x2, .int 1 x1]) 0) ∈ tl ∧ (lv, W.listOf (List.toArray lvs) le) ∈ tl ∧ Board nmT tl lvs (rowsAt rows i) ∧ Off5 L tl)
    rfl (Nat.ne_of_lt hXlt) (Nat.ne_of_lt hLlt) (next_is_new F2) ?hJ ?turn ?done 2 0 m1 _ _ _ rfl ⟨_, Heap.get?_push_size _ rfl, rfl, rfl⟩ ⟨lv, lvs, _, o3, o4, o5, _, _, _, (XL, W.listOf (List.toArray [.int 2 x2, .int 1 x1]) 0) :: tl, rfl, hlev, d3, d4, d5, .tail _ hcd, .tail _ hnm, .head _, .tail _ hlv, hBd.mono fun p hp => .tail _ hp, hOX⟩ ?off (F2.keeps up) ?news
  case news => exact News.grown (fun p hp => N2 p (by
      rcases List.mem_cons.mp hp with rfl | hp
      · exact .tail _ (.head _)
      rcases List.mem_cons.mp hp with rfl | hp
      · exact .tail _ (.tail _ (.head _))
      rcases List.mem_cons.mp hp with rfl | hp
      · exact .tail _ (.tail _ (.tail _ (.head _)))
      rcases List.mem_cons.mp hp with rfl | hp
      · exact .tail _ (.tail _ (.tail _ (.tail _ (.head _))))
      rcases List.mem_cons.mp hp with rfl | hp
      · exact .tail _ (.tail _ (.tail _ (.tail _ (.tail _ (.head _)))))
      rcases List.mem_cons.mp hp with rfl | hp
      · exact .head _
      exact .tail _ (.tail _ (.tail _ (.tail _ (.tail _ (.tail _ (hp)))))))) up
  case off =>
    intro p hp
    refine Nat.ne_of_lt (Heap.lt_size (N2 p ?_).1)
    rcases List.mem_cons.mp hp with rfl | hp
    · exact .tail _ (.head _)
    rcases List.mem_cons.mp hp with rfl | hp
    · exact .tail _ (.tail _ (.head _))
    rcases List.mem_cons.mp hp with rfl | hp
    · exact .tail _ (.tail _ (.tail _ (.head _)))
    rcases List.mem_cons.mp hp with rfl | hp
    · exact .tail _ (.tail _ (.tail _ (.tail _ (.head _))))
    rcases List.mem_cons.mp hp with rfl | hp
    · exact .tail _ (.tail _ (.tail _ (.tail _ (.tail _ (.head _)))))
    rcases List.mem_cons.mp hp with rfl | hp
    · exact .head _
    · exact .tail _ (.tail _ (.tail _ (.tail _ (.tail _ (.tail _ (hp))))))
  case hJ =>
    rintro i m nx ⟨lv, lvs, le, o3, o4, o5, v3, v4, v5, tl, rfl, _, _, _, _, _, _, hX, _⟩
    exact .tail _ (.tail _ (.tail _ (.tail _ (.tail _ (hX)))))
  case turn =>
    rintro i v m2 nx h3 tk3 oI hv ⟨lv, lvs, le, o3, o4, o5, v3, v4, v5, tl, rfl, hlev, d3, d4, d5, hcd, hnm, hX, hlv, hBd, hO⟩ hoff hcI F3 N3
    obtain ⟨most, tm, rfl, hpar, hris⟩ : ∃ (most : Int) (tm : Tok), v = .int most tm ∧ (∀ j, j < 15 → ((partedAt (brdB (colsB (turnB (rowsAt rows i)))) (j + 1) : Nat) : Int) ≤ most) ∧ (∀ k, k < 4 → ((stepB (rowsAt rows i)).map fun r => r.getD k 0).Pairwise (· ≤ ·)) := by
      rcases i with _ | _ | i
      · refine ⟨2, x2, (Option.some.inj hv).symm, fun j _ => ?_, fun k hk => ?_⟩
        · have := P1 (j + 1)
          show ((partedAt (brdB (colsB (turnB rows))) (j + 1) : Nat) : Int) ≤ 2
          omega
        · have := C1 k hk
          rwa [er1] at this
      · refine ⟨1, x1, (Option.some.inj hv).symm, fun j _ => ?_, fun k hk => ?_⟩
        · have := P2 (j + 1)
          rw [er1] at this
          show ((partedAt (brdB (colsB (turnB (stepB rows)))) (j + 1) : Nat) : Int) ≤ 1
          omega
        · have := C2 k hk
          rwa [er2, er1] at this
      · simp at hv
    have hok := rowsAt_ok hrows i
    have hOI : Off5 L ((h2.objs.size, oI) :: tl) := by
      intro p hp
      rcases List.mem_cons.mp hp with rfl | hp
      · exact ⟨Ne.symm (hoff (L + 1, o1') (.tail _ (.tail _ (.tail _ (.tail _ (.head _)))))), Ne.symm (hoff (L + 1 + 1, o2') (.tail _ (.tail _ (.tail _ (.head _))))), Ne.symm (hoff (L + 1 + 1 + 1, o3) (.tail _ (.tail _ (.head _)))), Ne.symm (hoff (L + 1 + 1 + 1 + 1, o4) (.tail _ (.head _))), Ne.symm (hoff (L + 1 + 1 + 1 + 1 + 1, o5) (.head _))⟩
      · exact hO p hp
    k_steps
    all_goals (try k_data)
    rename Fr _ _ _ _ => F4
    rename News _ _ _ _ => N4
    refine round_c hl rfl (most := most) (tm := tm) (rows := rowsAt rows i) (tl := (h2.objs.size, oI) :: tl) B F4 X T (fun p hp => N4 p (by
        rcases List.mem_cons.mp hp with rfl | hp
        · exact .tail _ (.head _)
        rcases List.mem_cons.mp hp with rfl | hp
        · exact .tail _ (.tail _ (.head _))
        rcases List.mem_cons.mp hp with rfl | hp
        · exact .tail _ (.tail _ (.tail _ (.head _)))
        rcases List.mem_cons.mp hp with rfl | hp
        · exact .tail _ (.tail _ (.tail _ (.tail _ (.head _))))
        rcases List.mem_cons.mp hp with rfl | hp
        · exact .tail _ (.tail _ (.tail _ (.tail _ (.tail _ (.head _)))))
        rcases List.mem_cons.mp hp with rfl | hp
        · exact .head _
        exact .tail _ (.tail _ (.tail _ (.tail _ (.tail _ (.tail _ (hp)))))))) ?hlv ?hmo d1' d2' d3 d4 d5 hRT (.tail _ hnm) (.tail _ hlv) (hBd.mono fun p hp => .tail _ hp) hok.1 hok.2 hOI hpar hris ?ret2
    case hlv => exact (if_neg (by decide)).trans hlev
    case hmo => exact if_pos rfl
    intro lv' zs h5 tk5 m5 o3' o4' o5' v3' v4' v5' tl' hlev' F5 N5 d3' d4' d5' hsub hlv' hB' hO'
    have hIm : (h2.objs.size, oI) ∈ (L + 1 + 1 + 1 + 1 + 1, o5') :: (L + 1 + 1 + 1 + 1, o4') :: (L + 1 + 1 + 1, o3') :: (L + 1 + 1, o2') :: (L + 1, o1') :: tl' := .tail _ (.tail _ (.tail _ (.tail _ (.tail _ (hsub _ (.head _))))))
    obtain ⟨fl, hfl⟩ : ∃ fl, fl = tl'.filter fun p => decide (p.1 ≠ h2.objs.size) := ⟨_, rfl⟩
    have hfm : ∀ p, p ∈ fl → p ∈ tl' ∧ p.1 ≠ h2.objs.size := fun p hp => by
      rw [hfl] at hp
      exact ⟨(List.mem_filter.mp hp).1, of_decide_eq_true (List.mem_filter.mp hp).2⟩
    have keep : ∀ (a : Addr) (its : Array Value) (e : Nat), (a, W.listOf its e) ∈ tl' → (a, W.listOf its e) ∈ fl := fun a its e h => by
      rw [hfl]
      exact List.mem_filter.mpr ⟨h, decide_eq_true (list_off N5 hIm hcI (.tail _ (.tail _ (.tail _ (.tail _ (.tail _ (h)))))))⟩
    clear hfl
    refine TurnQ.next (nx₂ := (L + 1 + 1 + 1 + 1 + 1, o5') :: (L + 1 + 1 + 1 + 1, o4') :: (L + 1 + 1 + 1, o3') :: (L + 1 + 1, o2') :: (L + 1, o1') :: fl) F5 ?tN ?tO
      ⟨lv', zs, zs.length, o3', o4', o5', _, _, _, fl, rfl, hlev', d3', d4', d5', keep _ _ _ (hsub _ (.tail _ hcd)), keep _ _ _ (hsub _ (.tail _ hnm)), keep _ _ _ (hsub _ (.tail _ hX)), keep _ _ _ hlv', ⟨hB'.1, fun i v r a b => by obtain ⟨x, vs, e, h1, h2, h3⟩ := hB'.2 i v r a b; exact ⟨x, vs, e, h1, keep _ _ _ h2, h3⟩⟩, fun p hp => hO' p (hfm p hp).1⟩
    case tN =>
      intro p hp
      rcases List.mem_cons.mp hp with rfl | hp
      · exact N5 _ hIm
      rcases List.mem_cons.mp hp with rfl | hp
      · exact N5 _ (.head _)
      rcases List.mem_cons.mp hp with rfl | hp
      · exact N5 _ (.tail _ (.head _))
      rcases List.mem_cons.mp hp with rfl | hp
      · exact N5 _ (.tail _ (.tail _ (.head _)))
      rcases List.mem_cons.mp hp with rfl | hp
      · exact N5 _ (.tail _ (.tail _ (.tail _ (.head _))))
      rcases List.mem_cons.mp hp with rfl | hp
      · exact N5 _ (.tail _ (.tail _ (.tail _ (.tail _ (.head _)))))
      · exact N5 p (.tail _ (.tail _ (.tail _ (.tail _ (.tail _ ((hfm p hp).1))))))
    case tO =>
      intro p hp
      rcases List.mem_cons.mp hp with rfl | hp
      · exact hoff (L + 1 + 1 + 1 + 1 + 1, o5) (.head _)
      rcases List.mem_cons.mp hp with rfl | hp
      · exact hoff (L + 1 + 1 + 1 + 1, o4) (.tail _ (.head _))
      rcases List.mem_cons.mp hp with rfl | hp
      · exact hoff (L + 1 + 1 + 1, o3) (.tail _ (.tail _ (.head _)))
      rcases List.mem_cons.mp hp with rfl | hp
      · exact hoff (L + 1 + 1, o2') (.tail _ (.tail _ (.tail _ (.head _))))
      rcases List.mem_cons.mp hp with rfl | hp
      · exact hoff (L + 1, o1') (.tail _ (.tail _ (.tail _ (.tail _ (.head _)))))
      · exact (hfm p hp).2
  case done =>
    rintro m2 nx h3 tk3 ⟨lv, lvs, le, o3, o4, o5, v3, v4, v5, tl, rfl, hlev, d3, d4, d5, hcd, hnm, hX, hlv, hBd, hO⟩ F3 N3
    have er : rowsAt rows 2 = rows2 := by rw [er2, er1]; rfl
    have hBd2 : Board nmT tl lvs (rowsAt rows 2) := hBd
    have hok := rowsAt_ok hrows 2
    rw [er] at hBd2 hok
    exact end_c hl rfl B F3 X T N3 hlev d1' d2' d3 hIT hn16 hnc hRT hcd hnm hlv hBd2 hok.1 hok.2 hO hpm hso (fun h' tk' m' F => ret h' tk' m' F)
end
end
end
end
end
end
end
end
end
end
end
end
end
end
end
end
end
end
end
end
end
end
end
end
end
end Mine
end
-- TP_02
section
open _root_.PySem _root_.PySem.W PyProof.Rows
namespace Mine
theorem good_true {c : ClaimW} {cl : Str → Option Addr} {mean : ExcName → Option Value} {args : List WData} {s₁ s' : Shared} (hn : ∀ cls, c.raises args cls = false) (hp : c.post args (.bool true) args = true)
    (hk : ∀ b o, s₁.heap.get? b = some o → s'.heap.get? b = some o) (hos : s'.os = s₁.os) (hg : s'.gens = #[]) : GoodWG c cl mean args s₁ (.ok (.ret (.bool true))) s' :=
  GoodW.toG ⟨.inl ⟨.bool true, .bool true, [], rfl, hn, .bool true, hp, unshared_nil⟩, hk, hos, hg⟩
set_option maxHeartbeats 4000000 in
theorem t1 : PySem.Challenge.rw_xp0015_02.Holds := Mine.hd (by
  k_fill
  intro w s₀ s₁ mg mb G Y fa o pm cd doc dV kV ho hd hcd hD hmg hg args vals as hpre hlay hrd hwl hlo
  have KX := kIn_of Y
  have X := (Ground.X G).1
  have V := (Ground.X G).2
  refine Ground.open G ?_
  intro T B D TE TW
  clear hmg
  wrow_args hpre hlay hrd hwl hlo
  rename Heap.IsList _ _ _ => hL
  rename IntsAre _ _ => hIa
  rename ¬ ((_ : Int) < _) => h63
  rename_i xs hs hlay0 hL' hr1 hl2 w4 w3 sc vsc w0 ra w1 r0 hr hc
  have key : ∀ s' : Shared, (∀ b o, s₁.heap.get? b = some o → s'.heap.get? b = some o) → s'.os = s₁.os → s'.gens = #[] → GoodWG Challenge.rw_xp0015_02.row.claim (classAt s₀.heap) (ExcName.means s₀.heap) [ofPy (PyData.list (xs.map PyData.int))] s₁ (.ok (.ret (.bool true))) s' :=
    fun s' hk hos hg => good_true (raisesW_false (by wrow_none_raised)) (postW_of (by wrow_shape) (by wtm_val) (by w_fin)) hk hos hg
  refine ⟨key s₁ (fun _ _ e => e) rfl hg, ?_⟩
  show wpC _ _ (call (.ref fa) [.ref sc]) _ _ _
  refine wpC_call ?_
  have he := Dflts.none hD rfl
  subst he
  have he := Dflts.noKw hD
  subst he
  refine codeC_cellsN (by decide) ho (fd_plain hd) (Top.nolimit T) hcd rfl (kinds_of (by kinds_ok)) (by decide) fun h₁ tk₁ cells F N0 Y0 => ?_
  k_cells Y0
  rename_i q1 q2 q3 q4 q5 e1 e2 e3 e4 e5
  refine' law_w ?hl hL hIa ?h63 (below_caller s₁.heap) F KX T N0 rfl e5 e4 e3 e2 e1 ?ret
  case hl => k_is
  case h63 => omega
  case ret =>
    intro h' tk' m' F'
    exact key _ F'.keep rfl hg)
end Mine
end
theorem PySem.Challenge.cw_xp0015_02_holds : PySem.Challenge.rw_xp0015_02.Holds := by
  exact Mine.t1
