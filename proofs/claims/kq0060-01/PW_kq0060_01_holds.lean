import PyProof.Rows.All
import Wide.All
import OpenK.AllK
import Wide.FinOn
import PySem.Challenge.RW_kq0060_01
set_option Elab.async false
set_option maxRecDepth 100000
set_option maxHeartbeats 8000000
section
open PySem PySem.W PyProof.Rows PySem.Spec PySem.Calls
namespace Mine
section
/-- no entry of the stack that could hold a bytearray's octets -/
noncomputable def holderIds : List String := ["bytearray.__contains__", "bytearray.__mod__", "bytearray.__rmod__", "_struct.pack_into.held", "bytearray.find.held"] ++ Builtin.Bytes.decodersThatHold
noncomputable def okCode : Code → Bool
  | .builtin id _ => !holderIds.contains id
  | _ => true
noncomputable def Clean (Γ : PySem.Ctx) : Prop := okCode Γ.code = true ∧ ∀ x ∈ Γ.below, okCode x.1 = true
theorem Clean.enter {Γ : PySem.Ctx} (h : Clean Γ) {c : Code} (hc : okCode c = true) (hd : Option Value) (p : Pos) : Clean (Γ.enter c hd p) :=
  ⟨hc, fun x hx => by
    rcases List.mem_cons.mp hx with rfl | hx
    · exact h.1
    · exact h.2 x hx⟩
theorem Clean.goto {Γ : PySem.Ctx} (h : Clean Γ) {c : Code} (hc : okCode c = true) : Clean (Γ.goto c) := ⟨hc, h.2⟩
section
variable {α β : Type}
/-- wpAny, said of clean contexts alone; nothing is raised -/
noncomputable def wpC (M : Model) (A : Around) (t : Sem α) (Q : α → Shared → Prop) (s : Shared) : Prop :=
  ∀ Γ p, Γ.In A → Clean Γ → Sem.wp M Γ t (fun a _ s' => Q a s') (fun _ _ _ => False) p s
noncomputable def codeC (M : Model) (A : Around) (c : Code) (R : Result → Shared → Prop) (s : Shared) : Prop :=
  ∀ Γ p, Γ.code = c → Γ.Below A → Clean Γ → wpCode M Γ R p s
variable {M : Model} {A : Around} {s : Shared}
theorem wpC_of {t : Sem α} {Q : α → Shared → Prop} (h : wpAny M A t Q (fun _ _ => False) s) : wpC M A t Q s := fun Γ p i _ => h Γ p i
theorem wpC_mono {t : Sem α} {Q Q' : α → Shared → Prop} (h : wpC M A t Q s) (hQ : ∀ a s, Q a s → Q' a s) : wpC M A t Q' s := fun Γ p i c =>
  Sem.wp_mono M Γ t (fun a _ s => hQ a s) (fun _ _ _ h => h) p s (h Γ p i c)
theorem wpC_pure {a : α} {Q : α → Shared → Prop} (h : Q a s) : wpC M A (pure a) Q s := fun _ _ _ _ => h
theorem wpC_bind {m : Sem α} {f : α → Sem β} {Q : β → Shared → Prop} (h : wpC M A m (fun a s' => wpC M A (f a) Q s') s) : wpC M A (m >>= f) Q s := fun Γ p i c => by
  rw [Sem.wp_bind']
  exact Sem.wp_mono M Γ m (fun a p' s' h' => h' Γ p' i c) (fun _ _ _ h' => h') p s (h Γ p i c)
/-- a plain part first -/
theorem wpC_any {m : Sem α} {f : α → Sem β} {Q : β → Shared → Prop} (h : wpAny M A m (fun a s' => wpC M A (f a) Q s') (fun _ _ => False) s) : wpC M A (m >>= f) Q s := wpC_bind (wpC_of h)
theorem wpC_holding {vs : List Value} {m : Sem α} {Q : α → Shared → Prop} (h : wpC M A m Q s) : wpC M A (holding vs m) Q s := fun Γ p i c => by rw [Sem.wp_holding]; exact h Γ p i c
theorem wpC_onRaise {m : Sem α} {k : Value → Sem Unit} {Q : α → Shared → Prop} (h : wpC M A m Q s) : wpC M A (m.onRaise k) Q s := fun Γ p i c => by
  rw [Sem.wp_onRaise]
  exact Sem.wp_mono M Γ m (fun _ _ _ h' => h') (fun _ _ _ h' => h'.elim) p s (h Γ p i c)
theorem wpC_if {c : Bool} {a b : Sem α} {Q : α → Shared → Prop} (h1 : c = true → wpC M A a Q s) (h2 : c = false → wpC M A b Q s) : wpC M A (if c = true then a else b) Q s := by
  cases c with
  | true => exact h1 rfl
  | false => exact h2 rfl
theorem codeC_of {c : Code} {R : Result → Shared → Prop} (h : codeAny M A c R s) : codeC M A c R s := fun Γ p hc i _ => h Γ p hc i
theorem codeC_mono {c : Code} {R R' : Result → Shared → Prop} (h : codeC M A c R s) (hR : ∀ r s, R r s → R' r s) : codeC M A c R' s := fun Γ p hc i k => wpCode_mono hR (h Γ p hc i k)
theorem codeC_of_tree {c : Code} {R : Result → Shared → Prop}
    (h : wpC M (A.under c) (M.den c) (fun fin s' => match fin with | .done f => R (.ok f) s' | .again c' => c'.quiet = true ∧ okCode c' = true ∧ codeC M A c' R s') s) : codeC M A c R s := fun Γ p hc hΓ k => by
  rw [wpCode_iff_wp, hc]
  refine Sem.wp_mono M Γ _ (fun fin p' s' h' => ?_) (fun _ _ _ h' => h'.elim) p s (h Γ p (hc ▸ hΓ.in) k)
  cases fin with
  | done f => exact h'
  | again c' => exact ⟨h'.1, h'.2.2 (Γ.goto c') p' rfl (hΓ.goto c') (k.goto h'.2.1)⟩
theorem wpC_run {c : Code} {Q : Flow → Shared → Prop} (hc : codeC M A c (fun r s' => match r with | .ok f => Q f s' | .error _ => False) s) (ok : okCode c = true) : wpC M A (run c) Q s :=
  fun Γ p hΓ k => by rw [Sem.wp_run]; exact wpCode_mono (fun r s' h => by cases r <;> exact h) (hc _ p rfl (hΓ.enter c none p (by intro x; cases x)) (k.enter ok _ _))
theorem wpC_call {f : Value} {pos : List Value} {kw : List (Str × Value)} {Q : Value → Shared → Prop}
    (hc : codeC M A (.call f ⟨pos, kw⟩) (fun r s' => match r with | .ok (.ret v) => Q v s' | _ => False) s) : wpC M A (call f pos kw) Q s := fun Γ p hΓ k => by
  unfold call
  rw [Sem.wp_runValue]
  refine wpCode_mono (fun r s' h => ?_) (hc _ p rfl (hΓ.enter _ none p (by intro x; cases x)) (k.enter rfl _ _))
  rcases r with e | f
  · exact h.elim
  · cases f <;> first | exact h | exact h.elim
end

theorem caller_clean : Clean (⟨.builtin "claim.caller" {}, none, none, [], none⟩ : PySem.Ctx) := ⟨by decide +kernel, fun x hx => nomatch hx⟩

theorem thread_endsC {prog : Program} {w : World} {t : Sem Fin} {s : Shared} {R : Result → Shared → Prop} (hreg : s.asleep)
    (h : wpC (model prog w) callerA t (fun fin s' => ∃ f, fin = .done f ∧ (R (.ok f) s' ∧ leftWithCleanup s'.gens = false)) s) :
    ∃ n r s' s'', runN (denote table) prog w n s ⟨t, .builtin "claim.caller" {}, default, []⟩ = .halted (outcomeOf r) s' ∧
      schedN (denote table) prog w n (.single s ⟨t, .builtin "claim.caller" {}, default, []⟩) = .halted (outcomeOf r) s' ∧ s'.forget = s''.forget ∧ R r s'' := by
  obtain ⟨n, r, s₁, s₂, hs, hn, hfo, hR⟩ := wp_halts_full (M := model prog w) (R := R) hreg
    (Sem.wp_mono _ _ t (fun fin p' s' h' => by obtain ⟨f, rfl, hf⟩ := h'; exact hf) (fun _ _ _ h' => h'.elim) default s (h _ default caller_in caller_clean))
  exact ⟨n, r, s₂, s₁, hn, hs, hfo, hR⟩

theorem callFromC {c : ClaimW} {tree : List Value → Sem Fin} {w : World} {s : Shared} {free : Addr → Prop} {gens : Prop} {kept : Heap → Prop} (hz : s.asleep) (hgens : s.gens = #[])
    (hspec : ∀ args, c.pre args = true → WData.layableAll args = true →
      ∀ ord : List DictEntry → List DictEntry, (∀ l, (ord l).Perm l) →
      ∃ vs s₁, layAllW c.records (classAt s.heap) w.params ord args s = some (vs, s₁) ∧
        wpC (model c.prog w) callerA (tree vs) (fun fin s' => ∃ f, fin = .done f ∧ (c.Ends s args vs s₁ (.ok f) s' ∧ s'.os = s.os ∧ AllBare s'.gens ∧ kept s'.heap)) s₁) :
    c.CallFrom (fun vs => ⟨tree vs, .builtin "claim.caller" {}, default, []⟩) w free gens kept s := by
  intro args hpre hlay ord hord
  obtain ⟨vs, s₁, hlaid, hcode⟩ := hspec args hpre hlay ord hord
  have hal := layAllW_rest _ _ _ hlaid
  obtain ⟨k, r, s', s'', hrun, hsched, hfo, hcase, hos, hkp⟩ := thread_endsC (prog := c.prog) (w := w) (t := tree vs) (s := s₁)
    (R := fun r s' => c.Ends s args vs s₁ r s' ∧ s'.os = s.os ∧ kept s'.heap)
    (Shared.asleep_of_life hal.2.2.2 hz)
    (wpC_mono hcode (by
      rintro fin s' ⟨f, e, h1, h2, h3, h4⟩
      exact ⟨f, e, ⟨h1, h2, h4⟩, leftWithCleanup_false_of_bare h3⟩))
  obtain ⟨eh, _, _, eo, _⟩ := Shared.forget_eq hfo
  have hcase := hcase.congr eh
  have hkp : kept s'.heap := by first | exact eh ▸ hkp | (rw [eh] at hkp; exact hkp) | (rw [← eh] at hkp; exact hkp)
  rw [← eo] at hos
  have hlife : s'.heap.life = s.heap.life := (runN_life _ _ _ hrun).trans hal.2.2.2
  refine ⟨vs, s₁, hlaid, k, _, s', hsched, ?_, (fun _ i x hx => by rw [hgens] at hx; simp at hx), hkp, by rw [hlife], Shared.rest_eq hos⟩
  rcases hcase with ⟨v, rfl, d1, d2, d3, d4, d5⟩ | ⟨e, ob, cls, rfl, d1, d2, d3, d4, d5⟩
  · exact .inl ⟨v, rfl, d1, d2, d3, fun b o y _ => d4 b o y, d5⟩
  · exact .inr ⟨e, ob, cls, rfl, d1, d2, d3, d4, fun b o y _ => d5 b o y⟩

/-- what is to be walked: as WalkO, of clean contexts -/
noncomputable abbrev WalkC (q : Program) (loose : List Str) (XP : (Str → Option Value) → Heap → Prop) (YP : World → Heap → Prop) (r : RowW) (d : DefRec) (kwd : List (Str × Expr)) : Prop :=
  ∀ (w : World) (s₀ s₁ : Shared) (mg mb : Str → Option Value), Ground q loose r.records XP w s₀ mg mb s₁.heap → YP w s₁.heap → ∀ (a : Addr) (o : Obj) (pm cd doc dV kV : Value), s₁.heap.get? a = some o →
    o.data = .func { docDef d.name d.params d.body d.scope pm cd doc with defaults := dV, kwdefaults := kV } → s₁.heap.CodeRec cd d.name → Dflts mg s₁.heap d.params kwd dV kV → mg d.name = some (.ref a) → s₁.gens = #[] →
    ∀ (args : List WData) (vals : List Value) (as : List Addr), r.claim.pre args = true → WData.layableAll args = true → ReadsAllW r.records (classAt s₀.heap) s₁.heap vals args as → WellAll w.params s₁.heap vals args → (∀ a ∈ as, (a == sysModules) = false) →
      wpC (model r.prog w) callerA (PySem.call (.ref a) vals) (fun v s' => GoodWG r.claim (classAt s₀.heap) (ExcName.means s₀.heap) args s₁ (.ok (.ret v)) s') s₁

theorem open_anyC {r : RowW} {q : Program} {loose defs kps : List Str} {writes : Bool} {Xt : Shared → Bool} {XP : (Str → Option Value) → Heap → Prop} {α : Type} {Yf : Shared → α} {Ya : World → α} {YP : World → Heap → Prop} {N : Nat}
    (left : LeftO r.prog q loose Xt Yf Ya N) (hY : ∀ w s, Yf s = Ya w → YP w s.heap) (hYk : ∀ w h h', YP w h → (∀ b o, h.get? b = some o → h'.get? b = some o) → YP w h') (hX : ∀ s, Xt s = true → XP (s.heap.nsMap mainGlobals) s.heap) (hXk : ∀ mg h h', XP mg h → (∀ b o, h.get? b = some o → h'.get? b = some o) → XP mg h')
    (hRf : ∀ s, Xt s = true → RecFacts r.records s.heap) (hwr : (!writes || r.records.isEmpty) = true) (ok : (chainsOk q && opensWell r.prog && (frees r && r.within.isEmpty)) = true) (hb : r.prog.bare) (hw : r.promised)
    (pin : ∀ w s, s.heap.isNs mainGlobals = true → Ground q loose [] XP w s (s.heap.nsMap mainGlobals) (s.heap.nsMap builtinsNs) s.heap → ∀ n ∈ defs, isTheDefsW r.prog s.heap n)
    (call : ∀ (w : World) (s₀ s₁ : Shared) (mg mb : Str → Option Value), Ground q loose r.records XP w s₀ mg mb s₁.heap → YP w s₁.heap → ∀ (args : List WData) (vs : List Value) (as : List Addr),
      r.claim.pre args = true → WData.layableAll args = true → Laid r.records w s₀ s₁ args vs as → sysModules < s₀.heap.objs.size → ∃ f, mg r.name = some f ∧
        wpC (model r.prog w) callerA (PySem.call f vs) (fun v s' => GoodWG r.claim (classAt s₀.heap) (ExcName.means s₀.heap) args s₁ (.ok (.ret v)) s') s₁) :
    r.claim.HoldsOpenBy (callStub r.name) defs kps writes := by
  obtain ⟨ok, k5⟩ := Bool.and_eq_true_iff.mp ok
  obtain ⟨hch, o1⟩ := Bool.and_eq_true_iff.mp ok
  obtain ⟨k5, k6⟩ := Bool.and_eq_true_iff.mp k5
  obtain ⟨hsame, hu, ha, hap, hm⟩ := frees_parts k5
  refine ⟨⟨hb, o1, by show r.makers.map _ = []; rw [hm]; rfl⟩, hw.witness, fun w => ⟨(left.behind hX hch w).1, fun s' hs' => ?_⟩⟩
  obtain ⟨s₀, hf, hg0, s, hT, hz, hgens, hg, G00, y⟩ := (left.behind (XP := fun mg h => XP mg h ∧ RecFacts r.records h) (fun s hs => ⟨hX s hs, hRf s hs⟩) hch w).2 s' hs'
  have G0 : Ground q loose [] XP w s (s.heap.nsMap mainGlobals) (s.heap.nsMap builtinsNs) s.heap := ⟨G00.T, G00.B, G00.D, G00.TE, G00.TD, G00.W, G00.X.1, G00.cls, G00.has, G00.apart, G00.once, G00.K⟩
  have RF := G00.X.2
  have hT' := hT
  refine ⟨s₀, hf, hg0, s, hT, pin w s hg G0, RF.1, RF.2.1, ?_⟩
  have hgens : s.gens = #[] := Array.eq_empty_of_size_eq_zero (beq_iff_eq.mp hgens)
  have G : Ground q loose r.records XP w s _ _ s.heap := RF.ground G0
  refine callFromC (c := r.claim) (tree := fun vs => do match ← nsGet mainNs r.name with
      | some f => do ret (← PySem.call f vs)
      | none => unsupported "claim.caller:no-such-global") hz hgens fun args hpre hlay ord hord => ?_
  obtain ⟨⟨vs, s₁⟩, hlaid⟩ := Option.isSome_iff_exists.mp (layAllW_isSome (P := w.params) (ord := ord) G.has args r.args s (pre_splitW hpre).1)
  have keeps := layAllW_keeps _ _ _ hlaid
  have hal := layAllW_rest _ _ _ hlaid
  obtain ⟨as, hrd, hin, hold⟩ := reads_layAllW hord _ _ _ hlaid hlay s₁.heap (fun _ _ e => e)
  have L : Laid r.records w s s₁ args vs as := ⟨⟨ord, hord, hlaid⟩, hrd, hin, hold, keeps, hal.1.trans hgens, hal.2.2.1⟩
  have G₁ := G.keeps hXk keeps
  obtain ⟨f, hf, h⟩ := call w s s₁ _ _ G₁ (hYk _ _ _ (hY w s y) keeps) args vs as hpre hlay L G.low
  have hi := ident_freeW hu ha hap
  have hwi : r.claim.within = [] := List.isEmpty_iff.mp k6
  refine ⟨vs, s₁, hlaid, wpC_any (wpAny_nsGet G₁.T.g ?_)⟩
  rw [hf]
  refine wpC_bind (wpC_mono h fun v s' g => wpC_pure ?_)
  have z := g.laid (c := r.claim) hsame hwi hi L
  exact ⟨_, rfl, z.1, z.2.1, z.2.2, fun q => ⟨namesKept_of hT' hg kps keeps g.2.1.old, noTable hwr q⟩⟩

/-- the head's one check: the top from the booted heap on, over a tree of objects, by the library's own twins -/
theorem seen_tw : @openSeen = PySem.W.Fast.tw4187177175401517315 := PySem.W.Fast.te4187177175401517315
theorem tree_tw : @treeTable = PySem.W.Fast.tw14364793385576792824 := PySem.W.Fast.te14364793385576792824
theorem step_tw : @stepT = PySem.W.Fast.tw10156331382660048174 := PySem.W.Fast.te10156331382660048174
theorem ok_tw : @stepOk = PySem.W.Fast.tw6613529449190102663 := PySem.W.Fast.te6613529449190102663
theorem den_tw : @denote = PySem.W.Fast.tw11892475500146522536 := PySem.W.Fast.te11892475500146522536
noncomputable def topRunT (p : Program) (w : World) (n₀ : Nat) (ann : Option Value) : Nat → SharedT → Thread → Option SharedT
  | 0, _, _ => none
  | n + 1, s, t => match through t with
    | true => some s
    | false => match PySem.W.Fast.tw6613529449190102663 n₀ ann t with
      | false => none
      | true => match PySem.W.Fast.tw10156331382660048174 (PySem.W.Fast.tw11892475500146522536 PySem.W.Fast.tw14364793385576792824) p w s t with
        | some (s', t') => topRunT p w n₀ ann n s' t'
        | none => none
theorem topRunT_of {p : Program} {w : World} {n₀ : Nat} {ann : Option Value} : ∀ {n : Nat} {s s' : SharedT} {t : Thread}, topRunT p w n₀ ann n s t = some s' → topRun treeTable p w n₀ ann n s.abs t = some s'.abs
  | 0, _, _, _, h => by cases h
  | n + 1, s, s', t, h => by
    unfold topRunT at h
    unfold topRun
    rw [← ok_tw, ← step_tw, ← den_tw, ← tree_tw] at h
    cases he : through t with
    | true => rw [he] at h; cases h; rfl
    | false =>
      rw [he] at h
      cases hk : stepOk n₀ ann t with
      | false => rw [hk] at h; cases h
      | true =>
        rw [hk] at h
        cases hs : stepT (denote treeTable) p w s t with
        | none => rw [hs] at h; cases h
        | some r => obtain ⟨s₂, t₂⟩ := r; rw [hs] at h; rw [stepT_spec hs]; exact topRunT_of h
noncomputable def insAll : Nat → List Obj → BT → BT
  | _, [], t => t
  | i, o :: r, t => insAll (i + 1) r (t.ins i o)
noncomputable def bootT (P : Params) : BT := insAll 0 (boot_heap P).objs.toList .nil
theorem bootT_eq (P : Params) : absHeap (bootT P) 11 (boot_heap P).life = boot_heap P := by kernel_rfl
theorem boot_size (P : Params) : ((boot_heap P).objs.size, (boot_heap P).nsMap mainGlobals "__annotations__", (boot_heap P).isNs mainGlobals) = (11, some (.ref 6), true) := by kernel_rfl
noncomputable abbrev LeftM (p q : Program) (loose : List Str) (Xt : Shared → Bool) {α : Type} (Yf : Shared → α) (Ya : World → α) (N : Nat) : Prop :=
  ∀ w : World, (opening p, fenceModules? p, Nat.ble 600 N, fun os => (topRunT p w 11 (some (.ref 6)) N ⟨bootT w.params, 11, (boot_heap w.params).life, #[], boot_drawn, boot_toks, os⟩ (topStub p)).map fun s =>
      ((staticsOk (importedModules p.main.body) (boot_heap w.params) s.abs.heap && namesBound p s.abs.heap && gensDone s.abs && laidKept (boot_heap w.params) s.abs.heap), PySem.W.Fast.tw4187177175401517315 q loose (importedModules p.main.body) Xt true s.abs, Yf s.abs)) =
    (plainProg p.main.scope.names, some, true, fun _ => some (true, openGood q loose, Ya w))
theorem LeftM.left {p q : Program} {loose : List Str} {Xt : Shared → Bool} {α : Type} {Yf : Shared → α} {Ya : World → α} {N : Nat} (h : LeftM p q loose Xt Yf Ya N) : LeftO p q loose Xt Yf Ya N := fun w => by
  obtain ⟨h1, h2, h3, h4⟩ : _ ∧ _ ∧ _ ∧ _ := by simpa only [Prod.mk.injEq] using h w
  have o := boot_open (p := p) (N := N) h1 h3 (fun s => congrFun h2 s) w
  obtain ⟨⟨hh, gs, d, k, os⟩, e, e'⟩ := Option.map_eq_some_iff.mp o
  obtain ⟨rfl, rfl, rfl, rfl⟩ : hh = boot_heap w.params ∧ gs = #[] ∧ d = boot_drawn ∧ k = boot_toks := by simpa using e'
  have r := congrFun h4 os
  rw [← seen_tw] at r
  obtain ⟨s₁, r1, r2⟩ := Option.map_eq_some_iff.mp r
  have r1 := topRunT_of r1
  obtain ⟨l1, l2, l3⟩ : _ ∧ _ ∧ _ := by simpa only [Prod.mk.injEq] using r2
  generalize s₁.abs = s₂ at *
  unfold SharedT.abs at r1
  dsimp only at r1
  rw [bootT_eq] at r1
  obtain ⟨z1, z2, z3⟩ : _ ∧ _ ∧ _ := by simpa only [Prod.mk.injEq] using boot_size w.params
  have t : topFrom treeTable p w N ⟨boot_heap w.params, #[], boot_drawn, boot_toks, os⟩ = some s₂ := by
    unfold topFrom
    dsimp only
    rw [z1, z2, z3, r1]
    show (match staticsOk (importedModules p.main.body) (boot_heap w.params) s₂.heap && namesBound p s₂.heap && gensDone s₂ && laidKept (boot_heap w.params) s₂.heap with | true => _ | false => _) = _
    rw [l1]
  unfold openEnds
  rw [e]
  show (topFrom treeTable p w N _).map _ = _
  rw [t]
  exact congrArg some (Prod.ext l2 l3)
/-- the head, its walk said of clean contexts (the library's own head asks it of every context) -/
theorem PySem.W.holds_open {r : OpenRow} {q : Program} {loose : List Str} {Xt : Shared → Bool} {XP : (Str → Option Value) → Heap → Prop} {α : Type} {Yf : Shared → α} {Ya : World → α} {YP : World → Heap → Prop} {d : DefRec} {kwd : List (Str × Expr)} {N : Nat}
    (left : LeftM r.prog q loose Xt Yf Ya N) (hY : ∀ w s, Yf s = Ya w → YP w s.heap) (hYk : ∀ w h h', YP w h → (∀ b o, h.get? b = some o → h'.get? b = some o) → YP w h')
    (hX : ∀ s, Xt s = true → XP (s.heap.nsMap mainGlobals) s.heap) (hXk : ∀ mg h h', XP mg h → (∀ b o, h.get? b = some o → h'.get? b = some o) → XP mg h')
    (hdef : defOf q r.name = some (d, kwd)) (hp : r.prog.theDef r.name = some (d.params, d.body, d.scope)) (_hk : kwWritten? d.params.kwonlyargs d.params.kw_defaults = some kwd) (hRf : ∀ s, Xt s = true → RecFacts r.records s.heap) (hwr : (!r.writes || r.records.isEmpty) = true)
    (k1 : r.wellSaid = true) (ok : (chainsOk q && opensWell r.prog && (frees r.toRowW && r.within.isEmpty)) = true) (hb : r.prog.bare) (hw : r.toRowW.promised)
    (call : WalkC q loose XP YP r.toRowW d kwd) : r.Holds := by
  refine ⟨k1, hw, open_anyC (r := r.toRowW) left.left hY hYk hX hXk hRf hwr ok hb hw
    (fun w s hg G n hn => ?_) fun w s₀ s₁ mg mb G Y args vs as hpre hlay L low => ?_⟩
  · obtain rfl : n = r.name := by split at hn <;> simp_all
    exact pinned_of_view hg G hdef hp _hk
  · obtain ⟨a, o, pm, cd, doc, dV, kV, h1, h2, h3, h4, h5⟩ := G.fn hdef
    exact ⟨.ref a, h1, call w s₀ s₁ mg mb G Y a o pm cd doc dV kV h2 h3 h4 h5 (defOf_name hdef ▸ h1) L.gens args vs as hpre hlay L.reads L.well (L.low low)⟩
end
end Mine
end
section
open PySem PySem.W PyProof.Rows
namespace Mine
open_top hd for PySem.Challenge.rw_kq0060_01
theorem walk_off : True := by w_on; w_top off; trivial
end Mine
end
section
open PySem PySem.W PyProof.Rows PySem.Spec PySem.Calls
namespace Mine
section
namespace G
theorem mro : mroOf (.type "bytearray") = pure [.type "bytearray", .type "object"] := by rw [mroOf_type]; kernel_rfl
theorem lookup_new : typeLookup (.type "bytearray") "__new__" = pure (some (.builtin "bytearray.__new__")) := by rw [typeLookup_type, builtinLookup_eq_fast]; kernel_rfl
theorem slot_init : Slot "bytearray" "__init__" "bytearray.__init__" :=
  .of (owner := "bytearray") (n := "__init__") (by rw [typeLookup_type, builtinLookup_eq_fast]; kernel_rfl) (by decide +kernel) (by decide +kernel) (by decide +kernel)
    (by first | exact .inl (by decide +kernel) | exact .inr (by decide +kernel)) (by rw [isSubtype_type]; kernel_rfl)
theorem called : TypeCalled "bytearray" "bytearray.__new__" "bytearray.__init__" :=
  ⟨by decide +kernel, by decide +kernel, ⟨_, _, mro⟩, madeBy_type mro lookup_new (by decide +kernel), by decide +kernel, by rw [isSubtype_type]; kernel_rfl, slot_init⟩
theorem typeCall (a : Value) : checkTypeCall "bytearray" ⟨[a], []⟩ = pure () := by kernel_rfl
theorem newCall (a : Value) : checkBuiltinCall "bytearray.__new__" ⟨[.type "bytearray", a], []⟩ = pure () := by kernel_rfl
theorem entry_new : entryFor table "bytearray.__new__" = some Builtin.«list.__new__» := entryFor_alias (id' := "list.__new__") (by kernel_rfl) (by first | rfl | decide +kernel) (by decide +kernel) (by kernel_rfl)
theorem plain_new : plainId "bytearray.__new__" = true := by decide +kernel
theorem entry_init : entryFor table "bytearray.__init__" = some Builtin.«bytearray.__init__» := by first | exact entryFor_of_fast (by kernel_rfl) | exact entryFor_of_tree (by kernel_rfl)
theorem plain_init : plainId "bytearray.__init__" = true := by decide +kernel
theorem args_init (a b : Value) : argsOk "bytearray.__init__" ⟨[a, b], []⟩ := by unfold argsOk; kernel_rfl
theorem sub_self : isSubtype (.type "bytearray") (.type "bytearray") = pure true := by rw [isSubtype_type]; kernel_rfl
theorem bind (v : Value) : Builtin.Bytes.bindOptional "bytearray.__init__" "bytearray" ["source", "encoding", "errors"] [v] [] = pure [some v, none, none] := by kernel_rfl
theorem release : typeLookup (.type "bytearray") "__release_buffer__" = pure (some (.builtin "bytearray.__release_buffer__")) := by rw [typeLookup_type, builtinLookup_eq_fast]; kernel_rfl
theorem index_int : typeLookup (.type "int") "__index__" = pure (some (.builtin "int.__index__")) := by rw [typeLookup_type, builtinLookup_eq_fast]; kernel_rfl
end G
set_option maxRecDepth 1000000 in
theorem owner_new : ("bytearray.__new__".splitOn ".__new__").headD "" = "bytearray" := by simp +decide [String.splitOn, String.splitOnAux]
noncomputable abbrev baObj (b : Array UInt8) : Obj := { cls := .type "bytearray", data := .bytearray b }
section
variable {prog : Program} {w : World} {A : Around} {E : Value → Shared → Prop} {s : Shared}
theorem code_ba_new (a : Value) {Q₁ : Value → Shared → Prop} (h : Q₁ (.ref s.heap.objs.size) { s with heap := s.heap.push (baObj #[]) }) :
    codeAny (model prog w) A (.call (.builtin "bytearray.__new__") ⟨[.type "bytearray", a], []⟩) (wants Q₁ E) s := by
  refine codeAny_of_tree ?_
  show wpAny _ A.in1 (do checkBuiltinCall "bytearray.__new__" ⟨[.type "bytearray", a], []⟩; again (.builtin "bytearray.__new__" ⟨[.type "bytearray", a], []⟩)) _ _ s
  refine wpAny_bind (wpAny_of_eq (G.newCall a) (wpAny_pure ⟨plainId_quiet G.plain_new _, codeAny_builtin_stack G.entry_new rfl fun p st => ?_⟩))
  rw [Around.under_plainId G.plain_new _]
  have hsub := G.sub_self
  have hown := owner_new
  obtain ⟨hp, g, d, tk, os⟩ := s
  simp only [hown]
  wp_walk
  exact h
theorem den_of {id : String} {b : Builtin} (h : entryFor table id = some b) (args : Args) : (model prog w).den (.builtin id args) = b args := by
  show (match entryFor table id with | some b => b args | none => unsupported ((withoutEnding? id "#data").getD id)) = _
  rw [h]
theorem ok_of {id : String} {args : Args} (h : holderIds.contains id = false) : okCode (.builtin id args) = true := by show (!holderIds.contains id) = true; rw [h]; rfl
theorem wpC_stack {M : Model} {F : Code × Pos → Bool} {Q : Bool → Shared → Prop} (hF : ∀ x, okCode x.1 = true → F x = false) (h : Q false s) : wpC M A (stack >>= fun l => pure (l.any F)) Q s := fun Γ p i c => by
  rw [Sem.wp_bind']
  show Sem.wp M Γ stack _ _ p s
  unfold stack
  rw [Sem.wp_stack]
  have e : ((Γ.code, p) :: Γ.below).any F = false := List.any_eq_false.mpr fun x hx => by
    rw [hF x ?_]
    · exact Bool.false_ne_true
    · rcases List.mem_cons.mp hx with rfl | hx
      · exact c.1
      · exact c.2 x hx
  exact (congrArg (fun b => Q b s) e).mpr h
theorem ok_not {id : String} {args : Args} (h : okCode (.builtin id args) = true) (k : String) (hk : holderIds.contains k = true) : ¬ id = k := by
  rintro rfl
  have h : (!holderIds.contains id) = true := h
  rw [hk] at h
  cases h
theorem wpC_exported {v : Value} {Q : Bool → Shared → Prop} {M : Model} (h : Q false s) : wpC M A (Builtin.Bytes.exported v) Q s := by
  refine wpC_stack ?_ h
  rintro ⟨c, p⟩ hx
  cases c with
  | builtin id args =>
    have e1 := ok_not hx "bytearray.__contains__" (by decide +kernel)
    have e2 := ok_not hx "bytearray.__mod__" (by decide +kernel)
    have e3 := ok_not hx "bytearray.__rmod__" (by decide +kernel)
    have e4 := ok_not hx "_struct.pack_into.held" (by decide +kernel)
    have e5 := ok_not hx "bytearray.find.held" (by decide +kernel)
    have e6 : Builtin.Bytes.decodersThatHold.contains id = false := by
      rw [Bool.eq_false_iff]
      intro h2
      exact ok_not hx id (List.contains_iff_mem.mpr (List.mem_append_right _ (List.contains_iff_mem.mp h2))) rfl
    obtain ⟨pos, kw⟩ := args
    unfold Builtin.Bytes.exported.match_1
    dsimp only [Builtin.Bytes.exported._sparseCasesOn_1]
    rw [dif_neg e1, dif_neg e2, dif_neg e3, dif_neg e4, dif_neg e5]
    cases pos with
    | nil => rfl
    | cons u r =>
      show (Builtin.Bytes.sameRef u v && Builtin.Bytes.decodersThatHold.contains id) = false
      rw [e6, Bool.and_false]
  | _ => rfl
theorem wpAny_ownRelease {M : Model} {v : Value} {Q : Bool → Shared → Prop} (hT : s.TypeIs v "bytearray") (h : Q false s) : wpAny M A (Builtin.Bytes.ownRelease v) Q E s := by
  have e1 : (!"bytearray.__release_buffer__".endsWith ("." ++ "__release_buffer__")) = false := by decide +kernel
  have e2 : "bytearray.__release_buffer__".dropRight ("__release_buffer__".length + 1) = "bytearray" := by decide +kernel
  refine wpAny_bind (wpAny_bind (wpAny_specialOf hT G.release ?_))
  show wpAny _ _ (if (!"bytearray.__release_buffer__".endsWith ("." ++ "__release_buffer__")) = true then pure false
      else isInstance v (Value.type ("bytearray.__release_buffer__".dropRight ("__release_buffer__".length + 1)))) _ _ _
  rw [e1, e2]
  simp only [Bool.false_eq_true, if_false]
  exact wpAny_isInstance hT G.sub_self (wpAny_pure h)
theorem wpAny_write {M : Model} {a : Addr} {b : Array UInt8} {f : Array UInt8 → Array UInt8} {Q : Unit → Shared → Prop} (ha : s.heap.get? a = some (baObj b)) (hz : (f b).size ≤ sizeLine)
    (h : ∀ h', Heap.SameBut a s.heap h' → h'.get? a = some (baObj (f b)) → Q () { s with heap := h' }) : wpAny M A (Builtin.Bytes.write (.ref a) f) Q E s := by
  show wpAny _ _ (updateBytearray a f) _ _ _
  unfold updateBytearray
  refine wpAny_bind (wpAny_load ha ?_)
  show wpAny _ _ (update a (Obj.mapBytearray f) >>= fun _ => lookBehind a) _ _ _
  have ha' : (s.heap.update a (Obj.mapBytearray f)).get? a = some (baObj (f b)) := Heap.get?_update_self (Obj.mapBytearray f) ha rfl
  refine wpAny_bind (wpAny_update ha (wpAny_lookBehind ha' ?_ (h _ (Heap.SameBut.update ..) ha')))
  show (if (f b).size > sizeLine then some "bytearray:memory" else none) = none
  rw [if_neg]
  omega
theorem cF {α : Type} {M : Model} {A : Around} {s : Shared} {c : Bool} {a b : Sem α} {Q : α → Shared → Prop} (hc : c = false) (h : wpC M A b Q s) : wpC M A (if c = true then a else b) Q s := by
  subst hc; exact h
theorem aF {α : Type} {M : Model} {A : Around} {E : Value → Shared → Prop} {s : Shared} {c : Prop} [Decidable c] {a b : Sem α} {Q : α → Shared → Prop} (hc : ¬ c) (h : wpAny M A b Q E s) : wpAny M A (if c then a else b) Q E s := by
  rw [if_neg hc]; exact h
theorem aT {α : Type} {M : Model} {A : Around} {E : Value → Shared → Prop} {s : Shared} {c : Prop} [Decidable c] {a b : Sem α} {Q : α → Shared → Prop} (hc : c) (h : wpAny M A a Q E s) : wpAny M A (if c then a else b) Q E s := by
  rw [if_pos hc]; exact h
theorem ba_init {n : Int} {t : Tok} {a : Addr} {R : Result → Shared → Prop} (h0 : 0 ≤ n) (h1 : n ≤ 1000) (ha : s.heap.get? a = some (baObj #[]))
    (h : ∀ h', (∀ b o, b ≠ a → s.heap.get? b = some o → h'.get? b = some o) → h'.get? a = some (baObj (Array.replicate n.toNat 0)) → R (.ok (.ret .none)) { s with heap := h' }) :
    codeC (model prog w) A (.builtin "bytearray.__init__" ⟨[.ref a, .int n t], []⟩) R s := by
  refine codeC_of_tree ?_
  rw [Around.under_plainId G.plain_init _, den_of G.entry_init _]
  have hT : s.TypeIs (.ref a) "bytearray" := ⟨_, ha, rfl⟩
  refine wpC_any (wpAny_ownRelease hT ?_)
  refine cF rfl ?_
  refine wpC_any (wpAny_of_eq (G.bind _) ?_)
  refine wpC_any (wpAny_of_eq (a := ()) rfl ?_)
  refine wpC_any (wpAny_of_eq (a := ()) rfl ?_)
  refine wpC_bind ?_
  show wpC _ _ (Builtin.Bytes.exported (.ref a) >>= fun b => match toBool b with | true => pure b | false => _) _ _
  refine wpC_bind (wpC_exported ?_)
  show wpC _ _ (do let c ← Builtin.Bytes.exportsOf (Value.ref a); pure (decide (c > 0))) _ _
  refine wpC_any (wpAny_bind (wpAny_load ha (wpAny_pure ?_)))
  refine wpC_pure ?_
  refine cF rfl ?_
  refine wpC_of (wpAny_bind (wpAny_write ha (Nat.zero_le _) fun h1 hs1 ha1 => ?_))
  have f1 : ¬ (!Builtin.Bytes.fitsIndex n) = true := by
    unfold Builtin.Bytes.fitsIndex
    simp only [Bool.not_eq_true', Bool.and_eq_false_iff, decide_eq_false_iff_not]
    omega
  have f3 : ¬ (n == 2 ^ 63 - 1) = true := fun e => by have := beq_iff_eq.mp e; omega
  have f4 : ¬ Builtin.Bytes.tooLong n.toNat = true := fun e => by
    have := of_decide_eq_true e
    rw [sizeLine_eq] at this
    omega
  refine wpAny_bind (wpAny_of_eq (a := none) rfl ?_)
  refine aF Bool.false_ne_true ?_
  refine wpAny_bind (wpAny_pure ?_)
  refine wpAny_bind (wpAny_specialOf (v := .int n t) (T := "int") (PySem.typeIs_int _ _ _) G.index_int ?_)
  refine aT rfl ?_
  refine wpAny_bind (wpAny_attempt (wpAny_of_eq (rfl : asIndex (.int n t) = pure n) ?_))
  refine aF f1 (aF (Int.not_lt.mpr h0) (aF f3 (aF f4 (wpAny_bind (wpAny_rule ?_)))))
  by_cases hp : n > 0
  · refine aT hp (wpAny_bind (wpAny_write ha1 (by rw [Array.size_replicate, sizeLine_eq]; omega) fun h2 hs2 ha2 => ?_))
    exact wpAny_pure (h h2 (fun b o hb e => hs2.extBut b o hb (hs1.extBut b o hb e)) ha2)
  · have e : n.toNat = 0 := by omega
    exact aF hp (wpAny_pure (h h1 (fun b o hb e => hs1.extBut b o hb e) (by rw [e]; exact ha1)))
theorem wpC_bytearray {n : Int} {t : Tok} {Q : Value → Shared → Prop} (h0 : 0 ≤ n) (h1 : n ≤ 1000)
    (h : ∀ h', (∀ b o, s.heap.get? b = some o → h'.get? b = some o) → h'.get? s.heap.objs.size = some (baObj (Array.replicate n.toNat 0)) → Q (.ref s.heap.objs.size) { s with heap := h' }) :
    wpC (model prog w) A (call (.type "bytearray") [.int n t]) Q s := by
  obtain ⟨c, tl, hmro⟩ := G.called.mro
  have hmade := G.called.made
  have h1' := G.called.notType
  have h2' := G.called.canCreate
  refine wpC_call (codeC_of_tree ?_)
  show wpC _ _ (callAny (.type "bytearray") _) _ _
  refine wpC_pure ⟨Code.quiet_builtin _ (by decide +kernel), ok_of (by decide +kernel), codeC_of_tree ?_⟩
  rw [Around.under_plain (weight_type_call_type "bytearray" [.int n t] []) rfl]
  rw [den_of F.entry_type_call _]
  unfold Builtin.«type.__call__»
  simp only [h1', Bool.false_eq_true, if_false, h2']
  refine wpC_any (wpAny_of_eq (G.typeCall _) ?_)
  refine wpC_any (wpAny_of_eq hmro ?_)
  simp only [List.isEmpty_cons, Bool.false_eq_true, if_false]
  refine wpC_any (wpAny_of_eq hmade ?_)
  refine wpC_any (wpAny_pure ?_)
  refine wpC_any (wpAny_holding (wpAny_call (codeAny_mono (code_ba_new (E := fun _ _ => False) (Q₁ := fun obj s₁ => obj = .ref s.heap.objs.size ∧ s₁ = { s with heap := s.heap.push (baObj #[]) }) _ ⟨rfl, rfl⟩) (fun r s' hr => ?_))))
  rcases r with e | f
  · exact hr.elim
  cases f with
  | ret obj =>
    obtain ⟨rfl, rfl⟩ := hr
    have ha : (s.heap.push (baObj #[])).get? s.heap.objs.size = some (baObj #[]) := Heap.get?_push_size _ rfl
    have hT : ({ s with heap := s.heap.push (baObj #[]) } : Shared).TypeIs (.ref s.heap.objs.size) "bytearray" := ⟨_, ha, rfl⟩
    refine wpC_any (wpAny_isInstance hT G.sub_self ?_)
    simp only [Bool.not_true, Bool.false_eq_true, if_false]
    refine wpC_bind (wpC_holding ?_)
    simp only [callSpecial?]
    refine wpC_any (wpAny_specialOf hT G.slot_init.lookup ?_)
    simp only [G.slot_init.bind]
    refine wpC_holding (wpC_any (wpAny_pure (wpC_bind (wpC_call (codeC_of_tree ?_)))))
    show wpC _ A.in1.in1 (do checkBuiltinCall "bytearray.__init__" ⟨[.ref s.heap.objs.size, .int n t], []⟩; again (.builtin "bytearray.__init__" ⟨[.ref s.heap.objs.size, .int n t], []⟩)) _ _
    refine wpC_any (G.slot_init.check _ _ _ _ _ _ _ _ hT (G.args_init _ _) (wpC_pure ⟨plainId_quiet G.plain_init _, ok_of (by decide +kernel), ba_init h0 h1 ha fun h' hk hb => wpC_pure ?_⟩))
    refine wpC_pure ?_
    exact h h' (fun b o e => hk b o (Nat.ne_of_lt (Heap.lt_size e)) (Heap.get?_push_of_some _ e)) hb
  | _ => exact hr.elim
end
end
section
section
variable {M : Model} {A : Around} {s : Shared} {env : Env}
theorem sp_execs {st : Stmt} {rest : List Stmt} {Q : Flow → Shared → Prop}
    (h : wpC M A (exec st env) (fun f s' => match f with | .next => wpC M A (execs rest env) Q s' | f => Q f s') s) : wpC M A (execs (st :: rest) env) Q s := by
  rw [execs_cons]
  refine wpC_bind (wpC_mono h fun f s' h' => ?_)
  cases f <;> first | exact h' | exact wpC_pure h'
theorem sp_assignName {x : Str} {px : Pos} {value : Expr} {pos : Pos} {Q : Flow → Shared → Prop}
    (h : wpC M A (eval value env) (fun v s₁ => wpAny M A (storeName env x v) (fun _ => Q .next) (fun _ _ => False) s₁) s)
    (hs : swapsWith value (some (.Name x px)) pos.line env = pure false := by rfl) : wpC M A (exec (.Assign [.Name x px] value pos) env) Q s := by
  rw [exec_Assign_Name env x px value pos hs]
  refine wpC_any (wpAny_standAt (wpC_bind (wpC_mono h fun v s₁ h₁ => ?_)))
  exact wpC_any (wpAny_standAt (wpC_any (wpAny_bindName (wpAny_mono h₁ (fun _ _ h => wpC_pure h) fun _ _ h => h))))
theorem sp_assignTuple {elts : List Expr} {k : Nat} {tpos pos : Pos} {value : Expr} {Q : Flow → Shared → Prop}
    (h : wpC M A (eval value env) (fun v s₁ => wpAny M A (assign (.Tuple elts k tpos) env v) (fun _ => Q .next) (fun _ _ => False) s₁) s)
    (hs : swapsWithSole [.Tuple elts k tpos] value pos.line env = pure false := by rfl)
    (hw : swappedStores [.Tuple elts k tpos] value env = pure none := by rfl) : wpC M A (exec (.Assign [.Tuple elts k tpos] value pos) env) Q s := by
  rw [exec_Assign]
  refine wpC_any (wpAny_standAt ?_)
  rw [hs]
  refine wpC_any (wpAny_pure ?_)
  rw [if_neg (by decide)]
  refine wpC_bind (wpC_mono h fun v s₁ h₁ => ?_)
  rw [hw]
  refine wpC_any (wpAny_pure ?_)
  show wpC M A (do assignAll v [assign (.Tuple elts k tpos) env]; pure .next) Q s₁
  exact wpC_any (wpAny_mono h₁ (fun _ _ x => wpC_pure x) fun _ _ x => x)
theorem sp_assignTupleSw {elts : List Expr} {k : Nat} {tpos pos : Pos} {value : Expr} {names : List Str} {Q : Flow → Shared → Prop}
    (h : wpC M A (eval value env) (fun v s₁ => wpAny M A (unpackItems v names.length none) (fun items s₂ =>
      wpAny M A (assignInOrder (names.reverse.map fun n => bindName env n) items.reverse) (fun _ => Q .next) (fun _ _ => False) s₂) (fun _ _ => False) s₁) s)
    (hs : swapsWithSole [.Tuple elts k tpos] value pos.line env = pure false := by rfl)
    (hw : swappedStores [.Tuple elts k tpos] value env = pure (some names) := by rfl) : wpC M A (exec (.Assign [.Tuple elts k tpos] value pos) env) Q s := by
  rw [exec_Assign]
  refine wpC_any (wpAny_standAt ?_)
  rw [hs]
  refine wpC_any (wpAny_pure ?_)
  rw [if_neg (by decide)]
  refine wpC_bind (wpC_mono h fun v s₁ h₁ => ?_)
  rw [hw]
  refine wpC_any (wpAny_pure ?_)
  show wpC M A (do rule "assign.swapped-stores"; let items ← unpackItems v names.length none; assignInOrder (names.reverse.map fun n => bindName env n) items.reverse; pure .next) Q s₁
  exact wpC_any (wpAny_rule (wpC_any (wpAny_mono h₁ (fun _ _ x => wpC_any (wpAny_mono x (fun _ _ y => wpC_pure y) fun _ _ x => x)) fun _ _ x => x)))
theorem sp_if {test : Expr} {body orelse : List Stmt} {pos : Pos} {Q : Flow → Shared → Prop}
    (h : wpC M A (isTrue test env (eval test env)) (fun b s₂ => if b then wpC M A (execs body env) Q s₂ else wpC M A (execs orelse env) Q s₂) s) : wpC M A (exec (.If test body orelse pos) env) Q s := by
  rw [exec_If]
  refine wpC_any (wpAny_standAt (wpC_bind (wpC_mono h fun b s₂ h₂ => ?_)))
  cases b <;> exact h₂
theorem sp_cmp {l r : Expr} {op : CmpOp} {pos : Pos} {whole : Sem Value} {Q : Bool → Shared → Prop}
    (h : wpC M A (eval l env) (fun a s₁ => wpAny M A (eval r env) (fun b s₂ => wpAny M A (compareOp op a b) (fun c s₃ => wpAny M A (truthy c) Q (fun _ _ => False) s₃) (fun _ _ => False) s₂) (fun _ _ => False) s₁) s)
    (hb : behindInMarks op r = false := by rfl) : wpC M A (isTrue (.Compare l [op] [r] pos) env whole) Q s := by
  rw [isTrue_Compare1, markedBehindIn_of_false hb]
  refine wpC_bind (wpC_mono h fun a s₁ h₁ => wpC_of ?_)
  exact wpAny_bind (wpAny_holding (wpAny_mono h₁ (fun b s₂ h₂ => wpAny_bind (wpAny_standAt (wpAny_bind (fun Γ p i => by rw [Sem.wp_operate]; exact wpAny_mono h₂ (fun c s₃ h₃ => wpAny_holding h₃) (fun _ _ x => x) Γ p i)))) fun _ _ x => x))
theorem sp_tuple2 {a b : Expr} {k : Nat} {pos : Pos} {Q : Value → Shared → Prop}
    (h : wpC M A (eval a env) (fun v s₁ => wpAny M A (eval b env) (fun u s₂ => wpAny M A (newTuple [v, u]) Q (fun _ _ => False) s₂) (fun _ _ => False) s₁) s)
    (he : starEach [a, b] env = [(false, eval a env), (false, eval b env)] := by rfl) : wpC M A (eval (.Tuple [a, b] k pos) env) Q s := by
  show wpC M A (do standAt pos; newTuple (← spliced (backTo pos (starEach [a, b] env)))) Q s
  refine wpC_any (wpAny_standAt (wpC_bind ?_))
  rw [he]
  show wpC M A (spliced [(false, eval a env), (false, eval b env)]) _ s
  show wpC M A (do let v ← eval a env; let here ← pure [v]; return here ++ (← holding here (spliced [(false, eval b env)]))) _ s
  refine wpC_bind (wpC_mono h fun v s₁ h₁ => wpC_of ?_)
  refine wpAny_bind (wpAny_pure (wpAny_bind (wpAny_holding ?_)))
  show wpAny M A (do let u ← eval b env; let here ← pure [u]; return here ++ (← holding here (spliced []))) _ _ s₁
  refine wpAny_bind (wpAny_mono h₁ (fun u s₂ h₂ => ?_) fun _ _ x => x)
  exact wpAny_bind (wpAny_pure (wpAny_bind (wpAny_holding (wpAny_pure (wpAny_pure (wpAny_pure (wpC_of h₂)))))))
theorem sp_call {func : Expr} {args : List Expr} {pos : Pos} {Q : Value → Shared → Prop}
    (h : wpAny M A (eval func env) (fun f s₁ => wpC M A (callWith pos f [] (backTo pos (starEach args env)) []) Q s₁) (fun _ _ => False) s)
    (he : eval (.Call func args [] pos) env = (do callWith pos (← eval func env) [] (backTo pos (starEach args env)) (backToKw pos (keywordEach [] env))) := by rfl) :
    wpC M A (eval (.Call func args [] pos) env) Q s := by
  rw [he]; exact wpC_any h
theorem sp_callWith {K : Frag} {pos : Pos} {f : Value} {h₀ : Heap} {e : Expr} {rest : List Expr} {Q : Value → Shared → Prop} (_X : K.In h₀) (hk : keepIn K f = true)
    (h : wpAny M A (spliced (backTo pos (starEach (e :: rest) env))) (fun vs s₁ => K.In s₁.heap ∧ wpC M A (call f vs) Q s₁) (fun _ _ => False) s)
    (he : starEach (e :: rest) env = (false, eval e env) :: starEach rest env := by rfl) (hplain : (backTo pos (starEach rest env)).any (·.1) = false := by rfl) :
    wpC M A (callWith pos f [] (backTo pos (starEach (e :: rest) env)) []) Q s := by
  rw [he] at h ⊢
  have hpl : ((backTo pos ((false, eval e env) :: starEach rest env)).any (·.1) || ([] : List (Option Str × Sem Value)).any (·.1.isNone)) = false := by
    show ((false || (backTo pos (starEach rest env)).any (·.1)) || false) = false; rw [hplain]; rfl
  unfold callWith
  have h' : wpAny M A (spliced ((false, eval e env) :: backTo pos (starEach rest env))) (fun vs s₁ => K.In s₁.heap ∧ wpC M A (call f ([] ++ vs) []) Q s₁) (fun _ _ => False) s := h
  refine wpC_any (wpAny_holding (wpAny_mono (evalArgs_plain (Q := fun a s₁ => K.In s₁.heap ∧ wpC M A (call f ([] ++ a.pos) a.kw) Q s₁) h') (fun a s₁ h₁ => ?_) fun _ _ x => x))
  refine wpC_any (wpAny_standAt ?_)
  obtain ⟨k, hk', L⟩ := keeps_K (M := M) hk _ h₁.1
  simp only [hpl]
  refine wpC_any (L.here ?_)
  have tail : ∀ {t : Sem Value}, wpC M A t Q s₁ → wpC M A (t >>= fun r => holding [r] point >>= fun _ => pure r) Q s₁ :=
    fun ht => wpC_bind (wpC_mono ht (fun r s₂ hr => wpC_any (wpAny_holding (wpAny_point (wpC_pure hr)))))
  have marked (mk : Value) : wpC M A (callMarked mk f ([] ++ a.pos) a.kw) Q s₁ := fun Γ p i c => by unfold callMarked; rw [Sem.wp_keep]; exact h₁.2 Γ p i c
  rcases hk' with rfl | rfl | rfl <;> dsimp only <;> first | exact tail h₁.2 | (split <;> first | exact tail h₁.2 | exact tail (marked _))
/-- a class of the interpreter's own called -/
theorem sp_callType {pos : Pos} {T : String} {e : Expr} {Q : Value → Shared → Prop}
    (h : wpAny M A (spliced (backTo pos (starEach [e] env))) (fun vs s₁ => wpC M A (call (.type T) vs) Q s₁) (fun _ _ => False) s)
    (he : starEach [e] env = [(false, eval e env)] := by rfl) :
    wpC M A (callWith pos (.type T) [] (backTo pos (starEach [e] env)) []) Q s := by
  rw [he] at h ⊢
  unfold callWith
  refine wpC_any (wpAny_holding (wpAny_mono (evalArgs_plain (Q := fun a s₁ => a.kw = [] ∧ wpC M A (call (.type T) a.pos) Q s₁) (wpAny_mono h (fun vs s₁ h₁ => ⟨rfl, h₁⟩) fun _ _ x => x)) (fun a s₁ h₁ => ?_) fun _ _ x => x))
  refine wpC_any (wpAny_standAt ?_)
  show wpC M A (keeperOf (.type T) >>= _) Q s₁
  refine wpC_any (wpAny_of_eq (a := Keeper.machine) rfl ?_)
  obtain ⟨ap, ak⟩ := a
  obtain ⟨rfl, h₂⟩ := h₁
  show wpC M A (call (.type T) ap [] >>= fun r => holding [r] point >>= fun _ => pure r) Q s₁
  exact wpC_bind (wpC_mono h₂ (fun r s₂ hr => wpC_any (wpAny_holding (wpAny_point (wpC_pure hr)))))
end
section
variable {prog : Program} {w : World} {A : Around} {s : Shared} {env : Env}
theorem sp_runOwn {c : Code} {Q : Flow → Shared → Prop} (hc : codeC (model prog w) A c (fun r s' => match r with | .ok f => Q f s' | .error _ => False) s) (ok : okCode c = true) : wpC (model prog w) A (runOwn c env) Q s := by
  unfold runOwn
  exact wpC_onRaise (wpC_run hc ok)
theorem sp_for {target iter : Expr} {body orelse : List Stmt} {pos : Pos} {Q : Flow → Shared → Prop}
    (h : wpAny (model prog w) A (eval iter env) (fun x s₁ => wpAny (model prog w) A (pyIter x) (fun it s₂ =>
      codeC (model prog w) A (.forLoop target it body orelse env) (fun r s' => match r with | .ok f => Q f s' | .error _ => False) s₂) (fun _ _ => False) s₁) (fun _ _ => False) s)
    (hs : ∀ x, foldedSetIterable iter env x = pure x := by intro _; rfl) : wpC (model prog w) A (exec (.For target iter body orelse pos) env) Q s := by
  rw [exec_For]
  refine wpC_any (wpAny_standAt (wpC_any (wpAny_mono h (fun x s₁ h₁ => ?_) fun _ _ x => x)))
  refine wpC_any (wpAny_of_eq (hs x) (wpC_any (wpAny_standAt (wpC_any (wpAny_holding (wpAny_mono h₁ (fun it s₂ h₂ => sp_runOwn h₂ rfl) fun _ _ x => x))))))
/-- one turn of a loop, its end or its next turn behind it -/
theorem sp_turn {target : Expr} {it : Value} {body orelse : List Stmt} {R : Result → Shared → Prop}
    (h : wpAny (model prog w) A (pyNext it) (fun r s₁ => match r with
      | none => wpC (model prog w) A (execs orelse env) (fun f s₃ => R (.ok f) s₃) s₁
      | some v => wpAny (model prog w) A (letOwnedTupleGo target it v) (fun _ s₁' => wpAny (model prog w) A (assign target env v) (fun _ s₂ =>
          wpC (model prog w) A (execs body env) (fun f s₃ => match f with
            | .next | .cont => codeC (model prog w) A (.forLoop target it body orelse env) R s₃
            | .brk => R (.ok .next) s₃
            | .ret v => R (.ok (.ret v)) s₃) s₂) (fun _ _ => False) s₁') (fun _ _ => False) s₁) (fun _ _ => False) s) :
    codeC (model prog w) A (.forLoop target it body orelse env) R s := by
  refine codeC_of_tree ?_
  show wpC _ A ((forTurn target it body orelse env).onRaise _) _ s
  refine wpC_onRaise ?_
  simp only [forTurn]
  refine wpC_any (wpAny_standAt (wpC_any (wpAny_onRaise (wpAny_mono h (fun r s₁ h₁ => ?_) fun _ _ x => x.elim))))
  cases r with
  | none =>
    refine wpC_pure ⟨rfl, rfl, codeC_of_tree ?_⟩
    show wpC _ A (do return Fin.done (← (execs orelse env).onRaise _)) _ s₁
    exact wpC_bind (wpC_onRaise (wpC_mono h₁ fun f s₃ h₃ => wpC_pure h₃))
  | some v =>
    refine wpC_any (wpAny_mono h₁ (fun _ s₁' h₁' => ?_) fun _ _ x => x)
    refine wpC_any (wpAny_mono h₁' (fun _ s₂ h₂ => wpC_bind (wpC_mono h₂ fun f s₃ h₃ => ?_)) fun _ _ x => x)
    cases f with
    | next => exact wpC_pure ⟨rfl, rfl, h₃⟩
    | cont => exact wpC_pure ⟨rfl, rfl, h₃⟩
    | brk => exact wpC_pure h₃
    | ret v => exact wpC_pure h₃
/-- a def's own code -/
theorem sp_func {body : List Stmt} {R : Result → Shared → Prop} (h : wpC (model prog w) (A.deeper env) (execs body env) (fun f s' => R (.ok (.ret (match f with | .ret v => v | _ => .none))) s') s) : codeC (model prog w) A (.func body env) R s := by
  refine codeC_of_tree ?_
  show wpC _ (A.deeper env) (do point; match ← (execs body env).onRaise (leaving env) with | .ret v => ret v | _ => ret .none) _ s
  refine wpC_any (wpAny_point (wpC_bind (wpC_onRaise (wpC_mono h fun f s' h' => ?_))))
  cases f <;> exact wpC_pure h'
theorem sp_callDef {a : Addr} {args : Args} {o : Obj} {fd : FuncData} {body : List Stmt} {binds : List (Str × Value)} {R : Result → Shared → Prop} (hroom : A.depth < recursionLimit)
    (ho : s.heap.get? a = some o) (hd' : o.data = .func fd) (hlim : s.heap.NoLimit) (hcd : s.heap.CodeRec fd.code fd.qualname) (hbody : fd.body = .stmts body) (hbind : BindsTo s fd args binds)
    (hcell : ∀ x ∈ fd.scope.names, x.2 ≠ .cell) (hloc : ∀ x ∈ binds, fd.scope.names.lookup x.1 = some .local)
    (h : ∀ h₀, h₀.Ns s.heap.objs.size (fun x => binds.reverse.lookup x) → (∀ b o, s.heap.get? b = some o → h₀.get? b = some o) →
      wpC (model prog w) (A.deeper (callEnv fd s.heap.objs.size a)) (execs body (callEnv fd s.heap.objs.size a)) (fun f s' => R (.ok (.ret (match f with | .ret v => v | _ => .none))) s')
        { s with heap := h₀, toks := s.toks + binds.length })
    (hco : fd.scope.isCoroutine = false) (hgen : fd.scope.isGenerator = false) (hk : fd.scope.kind = .function) : codeC (model prog w) A (.call (.ref a) args) R s := by
  refine codeC_of_tree ?_
  show wpC _ A.in1 (callAny (.ref a) args) _ s
  simp only [callAny]
  refine wpC_any (wpAny_load ho ?_)
  obtain ⟨c, oc, vs, tq, hc, hoc, hdc, hq⟩ := hcd
  simp only [hd', callFunction, hco, hgen, hbody, hc]
  refine wpC_any (m := field (.ref c) 1) (wpAny_field hoc hdc hq (wpC_any (wpAny_pure ?_)))
  refine wpC_any (hbind _ _ _ _ ?_)
  refine wpC_any (wpAny_newFunctionEnv hcell hloc (fun h₀ hns₀ hsb₀ => ?_) hk)
  refine wpC_any (wpAny_enterFrame (hlim.fresh _ hsb₀) hroom (wpC_pure ⟨rfl, rfl, sp_func ?_⟩))
  have e := h h₀ hns₀ fun b o e => hsb₀.extBut b o (Nat.ne_of_lt (Heap.lt_size e)) (Heap.get?_push_of_some _ e)
  unfold callEnv at e
  rw [hc] at e
  exact e
end
end
section
namespace G
theorem slot_set : Slot "bytearray" "__setitem__" "bytearray.__setitem__" :=
  .of (owner := "bytearray") (n := "__setitem__") (by rw [typeLookup_type, builtinLookup_eq_fast]; kernel_rfl) (by decide +kernel) (by decide +kernel) (by decide +kernel)
    (by first | exact .inl (by decide +kernel) | exact .inr (by decide +kernel)) (by rw [isSubtype_type]; kernel_rfl)
theorem entry_set : entryFor table "bytearray.__setitem__" = some Builtin.«bytearray.__setitem__» := by first | exact entryFor_of_fast (by kernel_rfl) | exact entryFor_of_tree (by kernel_rfl)
theorem args_set (a b c : Value) : argsOk "bytearray.__setitem__" ⟨[a, b, c], []⟩ := by unfold argsOk; kernel_rfl
theorem no_bytes : typeLookup (.type "bytearray") "__bytes__" = pure none := by rw [typeLookup_type, builtinLookup_eq_fast]; kernel_rfl
theorem no_idx : typeLookup (.type "bytearray") "__index__" = pure none := by rw [typeLookup_type, builtinLookup_eq_fast]; kernel_rfl
theorem buffer : typeLookup (.type "bytearray") "__buffer__" = pure (some (.builtin "bytearray.__buffer__")) := by rw [typeLookup_type, builtinLookup_eq_fast]; kernel_rfl
end G
section
variable {prog : Program} {w : World} {A : Around} {E : Value → Shared → Prop} {s : Shared}
theorem ba_set {a : Addr} {b : Array UInt8} {k v : Int} {t u : Tok} {Q : Unit → Shared → Prop} (ho : s.heap.get? a = some (baObj b)) (h0 : 0 ≤ k) (hn : k < b.size) (hz : b.size ≤ 1000) (hv0 : 0 ≤ v) (hv1 : v < 256)
    (h : ∀ h', Heap.SameBut a s.heap h' → h'.get? a = some (baObj (b.setIfInBounds k.toNat v.toNat.toUInt8)) → Q () { s with heap := h' }) : wpAny (model prog w) A (setItem (.ref a) (.int k t) (.int v u)) Q E s := by
  have hT : s.TypeIs (.ref a) "bytearray" := ⟨_, ho, rfl⟩
  unfold setItem
  try with_reducible refine wpAny_holding ?_
  refine wpAny_bind (wpAny_sequenceKey hT (by decide) ?_)
  refine wpAny_bind (wpAny_callSpecial?_slot (name := Str.ofString "__setitem__") hT G.slot_set (wpAny_call_entry G.slot_set hT G.entry_set ?_ (G.args_set _ _ _)))
  have i1 : typeLookup (.type "int") "__index__" = pure (some (.builtin "int.__index__")) := G.index_int
  have f1 : (!Builtin.Bytes.fitsIndex k) = false := by
    unfold Builtin.Bytes.fitsIndex
    simp only [Bool.not_eq_false', Bool.and_eq_true, decide_eq_true_eq]
    omega
  have f2 : (decide (v < 0) || decide (v ≥ 256)) = false := by simp only [Bool.or_eq_false_iff, decide_eq_false_iff_not]; omega
  show wpAny _ _ (Builtin.Bytes.subscript? (.int k t) >>= _) _ _ s
  refine wpAny_bind ?_
  unfold Builtin.Bytes.subscript?
  refine wpAny_bind (wpAny_specialOf (v := .int k t) (T := "int") (PySem.typeIs_int _ _ _) i1 ?_)
  refine aF Bool.false_ne_true ?_
  refine wpAny_bind (wpAny_of_eq (rfl : asIndex (.int k t) = pure k) ?_)
  refine aF (by rw [f1]; exact Bool.false_ne_true) ?_
  refine wpAny_pure ?_
  show wpAny _ _ (Builtin.Bytes.byteValue (.int v u) >>= _) _ _ s
  refine wpAny_bind ?_
  unfold Builtin.Bytes.byteValue
  refine wpAny_bind (wpAny_of_eq (rfl : asIndex (.int v u) = pure v) ?_)
  refine aF (by rw [f2]; exact Bool.false_ne_true) ?_
  refine wpAny_pure ?_
  show wpAny _ _ (Builtin.Bytes.payload (.ref a) >>= _) _ _ s
  refine wpAny_bind ?_
  unfold Builtin.Bytes.payload Builtin.Bytes.payload?
  refine wpAny_bind (wpAny_bind (wpAny_load ho (wpAny_pure ?_)))
  refine wpAny_pure ?_
  have hs : seqIndex? k b.size = some k.toNat := by
    obtain ⟨j, rfl⟩ := Int.eq_ofNat_of_zero_le h0
    have : j < b.size := by omega
    simp [seqIndex?, this]
    try omega
  rw [hs]
  refine wpAny_bind (wpAny_write ho (by simp only [Array.size_setIfInBounds, sizeLine_eq]; omega) fun h' hs' ha' => ?_)
  exact wpAny_pure ⟨.none, rfl, wpAny_pure (h h' hs' ha')⟩
theorem wpAny_slotOwnB {M : Model} {v : Value} {Q : Bool → Shared → Prop} (hT : s.TypeIs v "bytearray") (h : Q true s) : wpAny M A (Builtin.Bytes.slotIsOwn v "__buffer__") Q E s := by
  have e1 : (!"bytearray.__buffer__".endsWith ("." ++ "__buffer__")) = false := by decide +kernel
  have e2 : "bytearray.__buffer__".dropRight ("__buffer__".length + 1) = "bytearray" := by decide +kernel
  refine wpAny_bind (wpAny_specialOf hT G.buffer ?_)
  show wpAny _ _ (if (!"bytearray.__buffer__".endsWith ("." ++ "__buffer__")) = true then pure false
      else isInstance v (Value.type ("bytearray.__buffer__".dropRight ("__buffer__".length + 1)))) _ _ _
  rw [e1, e2]
  simp only [Bool.false_eq_true, if_false]
  exact wpAny_isInstance hT G.sub_self h
theorem ba_bytes_new {a : Addr} {b : Array UInt8} {Q : Value → Shared → Prop} (ho : s.heap.get? a = some (baObj b)) (hz : b.size ≤ 1000)
    (h : ∀ t k, Q (.bytes b t) { s with toks := k }) : codeAny (model prog w) A (.call (.builtin "bytes.__new__") ⟨[.type "bytes", .ref a], []⟩) (wants Q E) s := by
  have hT : s.TypeIs (.ref a) "bytearray" := ⟨_, ho, rfl⟩
  refine codeAny_of_tree ?_
  show wpAny _ A.in1 (do checkBuiltinCall "bytes.__new__" ⟨[.type "bytes", .ref a], []⟩; again (.builtin "bytes.__new__" ⟨[.type "bytes", .ref a], []⟩)) _ _ s
  refine wpAny_bind (wpAny_of_eq (F.bm_newCall _) (wpAny_pure ⟨plainId_quiet F.bm_plain _, codeAny_builtin F.bm_entry ?_⟩))
  rw [Around.under_plainId F.bm_plain _]
  unfold Builtin.«bytes.__new__»
  refine wpAny_bind (wpAny_of_eq (a := true) rfl ?_)
  refine bm_if_false rfl ?_
  refine wpAny_bind (wpAny_of_eq F.bm_sub ?_)
  refine bm_if_false rfl ?_
  refine wpAny_bind (wpAny_of_eq (F.bm_bind _) ?_)
  refine wpAny_bind (wpAny_of_eq (a := ()) rfl ?_)
  refine wpAny_bind (wpAny_of_eq (a := ()) rfl ?_)
  refine bm_if_false rfl ?_
  refine wpAny_bind (wpAny_specialOf hT G.no_bytes ?_)
  refine wpAny_bind (wpAny_bind ?_)
  show wpAny _ _ (load a >>= _) _ _ _
  refine wpAny_bind (wpAny_load ho ?_)
  refine wpAny_pure (wpAny_pure ?_)
  refine bm_if_false rfl ?_
  refine wpAny_bind (wpAny_specialOf hT G.no_idx ?_)
  refine bm_if_true rfl ?_
  first
    | show wpAny _ _ (Builtin.Bytes.buffer? "bytes.__new__" (.ref a) true >>= _) _ _ _
    | (refine wpAny_bind ?_; show wpAny _ _ (Builtin.Bytes.buffer? "bytes.__new__" (.ref a) true >>= _) _ _ _)
  refine wpAny_bind ?_
  unfold Builtin.Bytes.buffer?
  refine wpAny_bind (wpAny_specialOf hT G.buffer ?_)
  refine wpAny_bind (wpAny_slotOwnB hT ?_)
  refine aF Bool.false_ne_true ?_
  refine wpAny_bind (wpAny_specialOf hT G.buffer ?_)
  show wpAny _ _ (Builtin.Bytes.ownRelease (.ref a) >>= _) _ _ _
  refine wpAny_bind (wpAny_ownRelease hT ?_)
  refine aF Bool.false_ne_true ?_
  refine wpAny_bind ?_
  unfold Builtin.Bytes.payload Builtin.Bytes.payload?
  refine wpAny_bind (wpAny_bind (wpAny_load ho (wpAny_pure (wpAny_pure ?_))))
  refine wpAny_pure ?_
  refine wpAny_bind (wpAny_rule (wpAny_bind (wpAny_mkBytes ?_ (by rw [sizeLine_eq]; omega))))
  show wpAny _ _ (if (Value.type "bytes" == Value.type "bytes") = true then _ else _) _ _ _
  refine bm_if_true (by decide) ?_
  first
    | exact wpAny_pure (h _ _)
    | exact wpAny_bind (wpAny_pure (wpAny_pure (h _ _)))
theorem ba_bytes {a : Addr} {b : Array UInt8} {Q : Value → Shared → Prop} (ho : s.heap.get? a = some (baObj b)) (hz : b.size ≤ 1000)
    (h : ∀ t k, Q (.bytes b t) { s with toks := k }) : wpAny (model prog w) A (call (.type "bytes") [.ref a]) Q E s := by
  refine callType_codes (Q₁ := fun obj s₁ => s₁.TypeIs obj "bytes" ∧ Q obj s₁) F.bm_called (F.bm_typeCall _) F.entry_object_init (ba_bytes_new ho hz fun t k => ⟨PySem.W.typeIs_bytes _ _ _, h t k⟩) fun obj s₁ h₁ => ?_
  exact ⟨h₁.1, F.args_object_init_2 obj _, object_init_meets F.bm_called.init.lookup F.bm_called.made (by decide) prog w A.in1 _ s₁ ⟨h₁.1, rfl, h₁.2⟩⟩
end
end
section
noncomputable abbrev PP : Program := PySem.Challenge.rw_kq0060_01.row.prog
noncomputable def Keep (h h' : Heap) : Prop := ∀ b o, h.get? b = some o → h'.get? b = some o
/-- what a call of the def at f hands back, wherever it is called: nothing that stood is changed -/
noncomputable def Spec (k : Nat) (w : World) (f : Addr) (vs : List Value) (kw : List (Str × Value)) (need : List (Addr × Obj)) (R : Heap → Value → Heap → Prop) : Prop :=
  ∀ (p : Program) (loose : List Str) (mean : ExcName → Option Value) (mg mb : Str → Option Value)
    (dp un : Nat) (gd : Option (List Code)) (cn : Str) (cs : Scope) (a : Addr) (ccd : Value) (cl : List (Str × Addr)) (outer : List Env) (A₀ : Around) (base h₀ : Heap) (L : Addr) (m : Str → Option Value) (s : Shared) (Q E : Value → Shared → Prop),
    Below A₀ base outer h₀ → Fr h₀ L s.heap m → (Mine.hd.heap_39 w.params).In h₀ → News h₀ L s.heap need → Top p loose mean mg mb h₀ → cs.kind = .function → dp + k < recursionLimit → un + 10 * k < cLine →
    (∀ v h' tk', Keep s.heap h' → R s.heap v h' → Q v { s with heap := h', toks := tk' }) →
    wpAny (model PP w) (ktrTop dp un gd cn cs L a ccd cl outer) (call (.ref f) vs kw) Q E s
noncomputable abbrev RInt (x : Int) : Heap → Value → Heap → Prop := fun _ v _ => ∃ t, v = .int x t
noncomputable abbrev RBool (b : Bool) : Heap → Value → Heap → Prop := fun _ v _ => v = .bool b
noncomputable abbrev RStr (x : Str) : Heap → Value → Heap → Prop := fun _ v _ => ∃ t, v = .str x t
noncomputable abbrev RBytes (x : Array UInt8) : Heap → Value → Heap → Prop := fun _ v _ => ∃ t, v = .bytes x t
noncomputable abbrev RInts (xs : List Int) : Heap → Value → Heap → Prop := fun h v h' => ∃ d vs n, v = .ref d ∧ h.get? d = none ∧ h'.get? d = some (listOf (List.toArray vs) n) ∧ IntsAre vs xs
theorem Spec.use {k : Nat} {w : World} {f : Addr} {vs : List Value} {kw : List (Str × Value)} {need : List (Addr × Obj)} {R : Heap → Value → Heap → Prop} (S : Spec k w f vs kw need R)
    {p : Program} {loose : List Str} {mean : ExcName → Option Value} {mg mb : Str → Option Value}
    {dp un : Nat} {gd : Option (List Code)} {cn : Str} {cs : Scope} {a : Addr} {ccd : Value} {cl : List (Str × Addr)} {outer : List Env} {A₀ : Around} {base h₀ : Heap} {L : Addr} {m : Str → Option Value} {s : Shared} {Q E : Value → Shared → Prop} {news : List (Addr × Obj)}
    (B : Below A₀ base outer h₀) (F : Fr h₀ L s.heap m) (X : (Mine.hd.heap_39 w.params).In h₀) (N : News h₀ L s.heap news) (T : Top p loose mean mg mb h₀) (hk : cs.kind = .function) (h1 : dp + k < recursionLimit) (h2 : un + 10 * k < cLine) (hn : ∀ p ∈ need, p ∈ news)
    (h : ∀ v h' tk', Fr h₀ L h' m → News h₀ L h' news → Keep s.heap h' → R s.heap v h' → Q v { s with heap := h', toks := tk' }) :
    wpAny (model PP w) (ktrTop dp un gd cn cs L a ccd cl outer) (call (.ref f) vs kw) Q E s :=
  S p loose mean mg mb dp un gd cn cs a ccd cl outer A₀ base h₀ L m s Q E B F X (fun p hp => N p (hn p hp)) T hk h1 h2 fun v h' tk' K r => h v h' tk' (F.keeps K) (News.grown N K) K r
theorem back {h₀ h' g H : Heap} {L L' : Addr} {m' : Str → Option Value} {need news' : List (Addr × Obj)}
    (G : GSub H g (need.map (·.1))) (Nn : News h₀ L H need) (F' : Fr g L' h' m') (kN : ∀ p ∈ news', h'.get? p.1 = some p.2) (hs : ∀ p ∈ need, p ∈ news') : Keep H h' := fun b o e => by
  by_cases hb : b ∈ need.map (·.1)
  · obtain ⟨q, hq, rfl⟩ := List.mem_map.mp hb
    have h1 := (Nn q hq).1
    rw [e] at h1
    cases h1
    exact kN q (hs q hq)
  · exact F'.keep b o (G b o e hb)
theorem back' {h₀ h' g H : Heap} {L L' : Addr} {m' : Str → Option Value} {need news' : List (Addr × Obj)}
    (G : GSub H g (need.map (·.1))) (Nn : News h₀ L H need) (F' : Fr g L' h' m') (kN : News h₀ L h' news') (hs : ∀ p ∈ need, p ∈ news') : Keep H h' :=
  back G Nn F' (fun p hp => (kN p hp).1) hs
theorem back0 {h' g H : Heap} {L' : Addr} {m' : Str → Option Value} (G : GSub H g (([] : List (Addr × Obj)).map (·.1))) (F' : Fr g L' h' m') : Keep H h' := fun b o e => F'.keep b o (G b o e (fun hb => nomatch hb))
theorem exI {x y : Int} {t : Tok} (e : x = y) : ∃ t', Value.int x t = .int y t' := ⟨t, by rw [e]⟩
theorem exS {x y : Str} {t : Tok} (e : x = y) : ∃ t', Value.str x t = .str y t' := ⟨t, by rw [e]⟩
theorem exB {x y : Array UInt8} {t : Tok} (e : x = y) : ∃ t', Value.bytes x t = .bytes y t' := ⟨t, by rw [e]⟩
theorem news_add {h₀ h h' : Heap} {L d : Addr} {o : Obj} {m : Str → Option Value} {news : List (Addr × Obj)} (F : Fr h₀ L h m) (N : News h₀ L h' news) (hd : h'.get? d = some o) (hf : h.get? d = none) : News h₀ L h' ((d, o) :: news) := fun p hp => by
  rcases List.mem_cons.mp hp with rfl | hp
  · refine ⟨hd, fun e => ?_, ?_⟩
    · obtain ⟨oL, _, _, hL, _⟩ := F.ns
      rw [show L = d from e.symm, hf] at hL
      cases hL
    · cases q : h₀.get? d with
      | none => rfl
      | some o' => have := F.keep _ _ q; rw [hf] at this; cases this
  · exact N p hp
theorem get_ge {h : Heap} {d : Addr} (hd : h.objs.size ≤ d) : h.get? d = none := by
  cases e : h.get? d with
  | none => rfl
  | some o => exact absurd (Heap.lt_size e) (Nat.not_lt.mpr hd)
theorem news_ne {h₀ h : Heap} {L d : Addr} {news : List (Addr × Obj)} (N : News h₀ L h news) (hf : h.get? d = none) : ∀ p ∈ news, p.1 ≠ d := fun p hp e => by
  have := (N p hp).1
  rw [e, hf] at this; cases this
theorem fresh_of {H g : Heap} {d : Addr} {l : List Addr} (G : GSub H g l) (hn : g.get? d = none) (hd : ∀ b ∈ l, b ≠ d) : H.get? d = none := by
  cases e : H.get? d with
  | none => rfl
  | some o => have := G d _ e fun hm => hd d hm rfl; rw [hn] at this; cases this
theorem news_lt {h₀ h : Heap} {L d : Addr} {news : List (Addr × Obj)} (N : News h₀ L h news) (hf : h.objs.size ≤ d) : ∀ p ∈ news, p.1 < d := fun p hp => Nat.lt_of_lt_of_le (Heap.lt_size (N p hp).1) hf

section
variable {prog : Program} {w : World} {A₀ A : Around} {E : Value → Shared → Prop} {s : Shared} {base h₀ : Heap} {outer : List Env} {L : Addr} {m : Str → Option Value} {env : Env} {news : List (Addr × Obj)}
/-- entering a def whose locals are captured, the ground told -/
theorem enterC {K : Frag} {p : Program} {loose : List Str} {mean : ExcName → Option Value} {mg mb : Str → Option Value} {R : Result → Shared → Prop} {name qual : Str} {params : Arguments} {body : List Stmt} {scope : Scope} {dV kV doc pm cdv ct oc : Value} {an od : Option Addr} {osl : Array (Option Value)} {f : Addr} {args : Args} {binds : List (Str × Value)}
    (B : Below A₀ base outer h₀) (F : Fr h₀ L s.heap m) (X₀ : K.In h₀) (N : News h₀ L s.heap news) (T : Top p loose mean mg mb h₀) (hA : A.frames = some (env :: outer)) (hf : env.frame = some L) (hke : env.scope.kind = .function)
    (ho : K.lookup f = some ⟨oc, od, .func (fnOf name qual params body scope dV kV doc pm an cdv ct), osl⟩) (hcd : codeIn K cdv qual = true) (hroom : A.depth < recursionLimit)
    (hbind : BindsTo s (fnOf name qual params body scope dV kV doc pm an cdv ct) args binds) (hkind : (binds.all fun y => scope.names.lookup y.1 == some .local || scope.names.lookup y.1 == some .cell) = true)
    (hnd : ((cellsFrom 0 scope.names []).map (·.1)).Nodup)
    (h : ∀ g L' h₁ tk cells, Fr h₀ L g m → Fr g L' h₁ (bindL (envOfC qual scope L' f cdv).kindOf binds fun _ => none) → News g L' h₁ (cells ++ news) →
      CellsAre (bindC (envOfC qual scope L' f cdv).kindOf binds fun _ => none) (cellsFrom (L' + 1) scope.names []) cells → Below A base (env :: outer) g → K.In g → Top p loose mean mg mb g → (∀ p ∈ news, p.1 < L') → GSub s.heap g (news.map (·.1)) →
      wpAny (model prog w) (A.deeper (envOfC qual scope L' f cdv)) (execs body (envOfC qual scope L' f cdv))
        (fun fl s' => LeaveK h₀ L m g R (match fl with | .ret v => v | _ => .none) s')
        (fun e s' => wpAny (model prog w) (A.deeper (envOfC qual scope L' f cdv)) (leaving (envOfC qual scope L' f cdv) e) (fun _ s'' => R (.error e) s'') (fun e' s'' => R (.error e') s'') s')
        { s with heap := h₁, toks := tk })
    (hco : scope.isCoroutine = false) (hgen : scope.isGenerator = false) (hk : scope.kind = .function) : codeAny (model prog w) A (.call (.ref f) args) R s := by
  obtain ⟨FG, BG, st, lv⟩ := groundX (R := R) B F N hA hf hke
  have X := X₀.keeps F.keep
  refine codeAny_call_function hroom (X _ _ ho) rfl hco hgen rfl (codeRec_of X hcd) (hbind _ _ _ _ ?_)
  refine wpAny_newFunctionEnv_cells hk (kindsX hkind _) fun env' he s' x => ?_
  subst he
  refine ⟨(T.nolimit.keeps F.keep).keeps x.toInCall.keep, codeAny_func ?_⟩
  obtain ⟨h₁, tk, rfl, _⟩ := x.done
  have hk₁ := x.toInCall.keep
  obtain ⟨cells, NC, Y⟩ := Cl.news (h₀ := s.heap) (Nat.le_refl _) fun n c hm => ⟨x.cell n c (lookup_of_mem_nodup (cellsFrom_names scope.names 0 (s.heap.objs.size + 1) [] [] rfl ▸ hnd) hm), x.above n c hm⟩
  refine wpAny_mono (h _ s.heap.objs.size h₁ tk cells FG ⟨x.toInCall.ns, fun b o e => hk₁ b o (of_hideAll _ e), Nat.le_of_eq (hideAll_size _ _)⟩ (fun p hp => ?_) Y BG (X₀.keeps st) (T.keeps st) (fun p hp => Heap.lt_size (N p hp).1) (fun b o e n => hideAll_get _ e n)) (fun fl s' hl => lv _ _ hl) fun _ _ y => y
  rcases List.mem_append.mp hp with hp | hp
  · refine ⟨(NC p hp).1, (NC p hp).2.1, ?_⟩
    cases q : (hideAll s.heap (news.map (·.1))).get? p.1 with
    | none => rfl
    | some o => have := of_hideAll _ q; rw [(NC p hp).2.2] at this; cases this
  · exact ⟨hk₁ _ _ (N p hp).1, Nat.ne_of_lt (Heap.lt_size (N p hp).1), hideAll_none _ (List.mem_map_of_mem hp)⟩
end
/-- Spec, of clean contexts -/
noncomputable def SpecC (k : Nat) (w : World) (f : Addr) (vs : List Value) (need : List (Addr × Obj)) (R : Heap → Value → Heap → Prop) : Prop :=
  ∀ (p : Program) (loose : List Str) (mean : ExcName → Option Value) (mg mb : Str → Option Value)
    (dp un : Nat) (gd : Option (List Code)) (cn : Str) (cs : Scope) (a : Addr) (ccd : Value) (cl : List (Str × Addr)) (outer : List Env) (A₀ : Around) (base h₀ : Heap) (L : Addr) (m : Str → Option Value) (s : Shared) (Q : Value → Shared → Prop),
    Below A₀ base outer h₀ → Fr h₀ L s.heap m → (Mine.hd.heap_39 w.params).In h₀ → News h₀ L s.heap need → Top p loose mean mg mb h₀ → cs.kind = .function → dp + k < recursionLimit → un + 10 * k < cLine →
    (∀ v h' tk', Keep s.heap h' → R s.heap v h' → Q v { s with heap := h', toks := tk' }) →
    wpC (model PP w) (ktrTop dp un gd cn cs L a ccd cl outer) (call (.ref f) vs []) Q s
section
variable {prog : Program} {w : World} {A₀ A : Around} {s : Shared} {base h₀ : Heap} {outer : List Env} {L : Addr} {m : Str → Option Value} {env : Env} {news : List (Addr × Obj)}
theorem enterSp {K : Frag} {p : Program} {loose : List Str} {mean : ExcName → Option Value} {mg mb : Str → Option Value} {R : Result → Shared → Prop} {name qual : Str} {params : Arguments} {body : List Stmt} {scope : Scope} {dV kV doc pm cdv ct oc : Value} {an od : Option Addr} {osl : Array (Option Value)} {f : Addr} {args : Args} {binds : List (Str × Value)}
    (B : Below A₀ base outer h₀) (F : Fr h₀ L s.heap m) (X₀ : K.In h₀) (N : News h₀ L s.heap news) (T : Top p loose mean mg mb h₀) (hA : A.frames = some (env :: outer)) (hf : env.frame = some L) (hke : env.scope.kind = .function)
    (ho : K.lookup f = some ⟨oc, od, .func (fnOf name qual params body scope dV kV doc pm an cdv ct), osl⟩) (hcd : codeIn K cdv qual = true) (hroom : A.depth < recursionLimit)
    (hbind : BindsTo s (fnOf name qual params body scope dV kV doc pm an cdv ct) args binds) (hloc : ∀ y ∈ binds, scope.names.lookup y.1 = some .local)
    (h : ∀ g L' h₁, Fr h₀ L g m → Fr g L' h₁ (fun y => binds.reverse.lookup y) → News g L' h₁ news → Below A base (env :: outer) g → K.In g → Top p loose mean mg mb g → GSub s.heap g (news.map (·.1)) →
      wpC (model prog w) (A.deeper (envOf qual scope L' f cdv)) (execs body (envOf qual scope L' f cdv))
        (fun fl s' => LeaveK h₀ L m g R (match fl with | .ret v => v | _ => .none) s')
        { s with heap := h₁, toks := s.toks + binds.length })
    (hco : scope.isCoroutine = false) (hgen : scope.isGenerator = false) (hk : scope.kind = .function)
    (hcell : ∀ x ∈ scope.names, x.2 ≠ .cell) : codeC (model prog w) A (.call (.ref f) args) R s := by
  obtain ⟨FG, BG, st, lv⟩ := groundX (R := R) B F N hA hf hke
  refine sp_callDef (fd := fnX name qual params body scope [] dV kV doc pm an cdv ct) (body := body) (binds := binds) hroom ((X₀.keeps F.keep) _ _ ho) rfl (T.nolimit.keeps F.keep) (codeRec_of (X₀.keeps F.keep) hcd) rfl hbind hcell hloc (fun h₁ hns hk₁ => ?_) hco hgen hk
  exact wpC_mono (h _ s.heap.objs.size h₁ FG ⟨hns, fun b o e => hk₁ b o (of_hideAll _ e), Nat.le_of_eq (hideAll_size _ _)⟩
    (fun p hp => ⟨hk₁ _ _ (N p hp).1, Nat.ne_of_lt (Heap.lt_size (N p hp).1), hideAll_none _ (List.mem_map_of_mem hp)⟩) BG (X₀.keeps st) (T.keeps st) (fun b o e n => hideAll_get _ e n)) (fun fl s' hl => lv _ _ hl)
end
end
section
section
variable {prog : Program} {w : World} {A : Around} {E : Value → Shared → Prop} {s : Shared} {env : Env} {h₀ : Heap} {x : Str} {body : List Stmt} {Q : Flow → Shared → Prop}
theorem lp_range {σ : Type} {r : Addr} {a₀ b₀ st : Int} {t₀ u₀ v₀ : Tok} {n : Nat} {m₀ : Str → Option Value} (Led : σ → List (Addr × Obj)) (ps : σ → List (Str × Value)) (Facts : σ → Prop) (stored : List Str) (P : Nat → σ → Prop) (c₀ : σ)
    (hh : A.handled = none) (hr : IsRange s.heap r a₀ b₀ st t₀ u₀ v₀) (hsmall : Builtin.Range.small a₀ b₀ st = true) (hn : Builtin.Range.rangeSize a₀ b₀ st = (n : Int)) (F : Fr h₀ env.locals s.heap m₀) (N : News h₀ env.locals s.heap (Led c₀)) (hf : Facts c₀) (hk : ∀ p ∈ ps c₀, m₀ p.1 = some p.2) (hp : P 0 c₀)
    (turn : ∀ (c : σ) (i : Nat) (k : Int) t (u : Str → Option Value) h tk own, k = a₀ + (i : Int) * st → i < n → OwnOff own ((Led c₀).map (·.1)) → Facts c → P i c →
      Fr h₀ env.locals h (fun y => if y = x then some (.int k t) else kstB (fun z => if stored.contains z then u z else m₀ z) (ps c) y) → News h₀ env.locals h (Led c ++ own) →
      wpAny (model prog w) A (execs body env) (InvPostN h₀ env.locals (KstS Led ps Facts x stored m₀ (fun _ => P (i + 1)) []) own ((Led c₀).map (·.1)) { s with heap := h, toks := tk } Q) E { s with heap := h, toks := tk })
    (done : ∀ (c : σ) (u : Str → Option Value) h tk, Facts c → P n c → Fr h₀ env.locals h (fun y => if y = x then u y else kstB (fun z => if stored.contains z then u z else m₀ z) (ps c) y) → News h₀ env.locals h (Led c) → Q .next { s with heap := h, toks := tk }) :
    wpAny (model prog w) A (pyIter (.ref r)) (fun it s₂ => LoopAtV prog w A h₀ env x body Q E it s₂) E s := by
  refine wpAny_pyIter_range hr hsmall ?_
  have W : Walks prog w A s.heap.objs.size [s.heap.objs.size] [s.heap.objs.size] n (fun i v => i < n ∧ ∃ t, v = .int (a₀ + i * st) t)
      (fun i h => IsRangeIter h s.heap.objs.size (a₀ + (i : Nat) * st) ((n : Int) - (i : Nat)) st) := (Walks.range hh _ a₀ st n).bound
  refine loop_invN (fun i m nx => KstS Led ps Facts x stored m₀ (fun _ => P i) [] m nx) W ?_ ?_ ?_ ?_ (by show IsRangeIter _ _ _ _ _; rw [hn]; simpa using Heap.get?_push_size _ rfl) (F.push _) (fun p hp => ⟨Heap.get?_push_of_some _ (N p hp).1, (N p hp).2⟩) ⟨c₀, rfl, hf, hk, fun _ _ _ _ => rfl, hp⟩ ?_ ?_
  · intro hm
    exact absurd F.ns.lt ((List.mem_singleton.mp hm) ▸ Nat.lt_irrefl _)
  · intro b hb
    rw [List.mem_singleton.mp hb]
    exact next_is_new F
  · intro p hp hI
    exact absurd (Heap.lt_size (N p hp).1) ((List.mem_singleton.mp hI) ▸ Nat.lt_irrefl _)
  · intro p hp hI
    exact absurd (Heap.lt_size (N p hp).1) ((List.mem_singleton.mp hI) ▸ Nat.lt_irrefl _)
  · rintro i v m₁ nx h tk own hi ⟨_, t, rfl⟩ _ hoff ⟨c, rfl, hf', h1, h2, hp'⟩ F₁ N₁
    exact turn c i _ t m₁ h tk own rfl hi hoff hf' hp' (kst_fr h1 h2 F₁) N₁
  · rintro m₁ nx h tk ⟨c, rfl, hf', h1, h2, hp'⟩ F₁ N₁
    exact done c m₁ h tk hf' hp' (kst_frOut h1 h2 F₁) N₁
end
theorem small_up {a b k : Int} (h : 0 < k) (ha : 0 ≤ a) (ha' : a ≤ 100000) (hb : 0 ≤ b) (hb' : b ≤ 100000) (hk : k ≤ 100000) : Builtin.Range.small a b k = true := by
  unfold Builtin.Range.small Builtin.Range.rangeSize
  have q : 0 ≤ (b - a - 1) / k + 1 ∨ ¬ b > a := by
    by_cases e : b > a
    · exact .inl (by have := Int.ediv_nonneg (show 0 ≤ b - a - 1 by omega) (Int.le_of_lt h); omega)
    · exact .inr e
  have q2 : b > a → (b - a - 1) / k ≤ b - a - 1 := fun e => Int.ediv_le_self _ (by omega)
  simp only [Builtin.Range.rangeFitsLong, Bool.and_eq_true, Bool.or_eq_true, decide_eq_true_eq, beq_iff_eq, gt_iff_lt, h, if_true]
  split <;> omega
theorem size_mul {k : Int} {n : Nat} (h : 0 < k) : Builtin.Range.rangeSize 0 (n * k) k = (n : Int) := by
  unfold Builtin.Range.rangeSize
  rw [if_pos h]
  cases n with
  | zero => simp
  | succ n =>
    have h1 : ((n + 1 : Nat) : Int) * k > 0 := Int.mul_pos (by omega) h
    rw [if_pos h1]
    have e : ((n + 1 : Nat) : Int) * k - 0 - 1 = (k - 1) + (n : Int) * k := by push_cast; rw [Int.add_mul]; omega
    rw [e, Int.add_mul_ediv_right _ _ (by omega), Int.ediv_eq_zero_of_lt (by omega) (by omega)]
    omega
theorem offB {stored : List Str} {u m₀ : Str → Option Value} {z : Str} (h : stored.contains z = false) : kstB (fun z => if stored.contains z = true then u z else m₀ z) [] z = m₀ z := by show (if stored.contains z = true then u z else m₀ z) = m₀ z; rw [h]; rfl
noncomputable def Held (P : Prop) : Prop := P
theorem Held.mk {P : Prop} (h : Held P) : P := h
section
variable {prog : Program} {w : World} {A : Around} {E : Value → Shared → Prop} {s : Shared} {h₀ : Heap} {L D : Addr} {m : Str → Option Value} {news news' : List (Addr × Obj)}
theorem ba_setU {b : Array UInt8} {k v : Int} {t u : Tok} {Q : Unit → Shared → Prop} (F : Fr h₀ L s.heap m) (N : News h₀ L s.heap news) (U : Upd D (baObj b) (baObj (b.setIfInBounds k.toNat v.toNat.toUInt8)) news news') (hz : b.size ≤ 1000) (h0 : 0 ≤ k) (h1 : k < b.size) (hv0 : 0 ≤ v) (hv1 : v < 256)
    (h : ∀ h', Fr h₀ L h' m → News h₀ L h' news' → Q () { s with heap := h' }) : wpAny (model prog w) A (setItem (.ref D) (.int k t) (.int v u)) Q E s := by
  obtain ⟨pre, post, rfl, rfl, a, b⟩ := U.split
  have z := N (D, baObj _) (List.mem_append.mpr (.inr (.head _)))
  exact ba_set z.1 h0 h1 hz hv0 hv1 fun h' hs ho => h _ (F.change hs z.2.1 z.2.2) (news_set N a b hs ho)
theorem by_item {b : Array UInt8} {k : Int} {t ui : Tok} {value slice : Expr} {Q : Value → Shared → Prop} (hz : b.size ≤ 1000) (h0 : 0 ≤ k) (h1 : k < b.size) (h : ∀ t', Q (.int ((b[k.toNat]?.getD 0).toNat : Nat) t') { s with toks := s.toks + 1 })
    (hs : subscripted slice false (.bytes b t) (.int k ui) = operate [.bytes b t, .int k ui] (getItem (.bytes b t) (.int k ui)) := by with_unfolding_all rfl)
    (ht : ∀ r, letTemporaryGo value (.bytes b t) r = pure () := by intro _; with_unfolding_all rfl) : wpAny (model prog w) A (subscriptTail value slice (.bytes b t) (.int k ui)) Q E s := by
  obtain ⟨l⟩ := b
  exact bytes_item_K (x := l) (Nat.le_trans hz (by decide)) h0 h1 (by show (((l.getD k.toNat 0).toNat : Nat) : Int) = _; rw [List.getD_eq_getElem?_getD]; simp) (h _) hs ht
end
section
variable {M : Model} {A : Around} {E : Value → Shared → Prop} {s : Shared} {env : Env}
theorem cut {st : Stmt} {rest : List Stmt} {Q : Flow → Shared → Prop} (h : ∀ r, r = rest → wpAny M A (execs (st :: r) env) Q E s) : wpAny M A (execs (st :: rest) env) Q E s := h rest rfl
end
theorem news_tl {h₀ h : Heap} {L : Addr} {q : Addr × Obj} {l : List (Addr × Obj)} (N : News h₀ L h (q :: l)) : News h₀ L h l := fun p hp => N p (.tail _ hp)
end
section
noncomputable abbrev lst (ys : List Value) : Obj := LCg.lst ys
section
variable {prog : Program} {w : World} {A : Around} {E : Value → Shared → Prop} {R : Result → Shared → Prop} {s : Shared}
theorem turn_in (x1 : Str) (p1 t1 : Pos) (t0 : Expr) (i0 i1 : Expr) (scope : Scope) (pos : Pos) (it acc : Value) (env : Env) :
    compTurn (.ListComp (.Name x1 p1) [⟨t0, i0, [], 0⟩, ⟨.Name x1 t1, i1, [], 0⟩] scope pos) 1 it acc env = (standAt i1.pos >>= fun _ => pyNext it >>= fun r => match r with
      | none => pure (.done .next)
      | some v => letOwnedTupleGo (.Name x1 t1) it v >>= fun _ => assign (.Name x1 t1) env v >>= fun _ =>
        (eval (.Name x1 p1) env >>= fun x => call (.builtin "list.append") [acc, x] >>= fun _ => pure ()) >>= fun _ =>
          again (.compLoop (.ListComp (.Name x1 p1) [⟨t0, i0, [], 0⟩, ⟨.Name x1 t1, i1, [], 0⟩] scope pos) 1 it acc env)) := by rfl
theorem turn_out (x0 x1 : Str) (p1 p0 t1 : Pos) (i0 i1 : Expr) (scope : Scope) (pos : Pos) (it acc : Value) (env : Env) :
    compTurn (.ListComp (.Name x1 p1) [⟨.Name x0 p0, i0, [], 0⟩, ⟨.Name x1 t1, i1, [], 0⟩] scope pos) 0 it acc env = (standAt i0.pos >>= fun _ => pyNext it >>= fun r => match r with
      | none => pure (.done .next)
      | some v => letOwnedTupleGo (.Name x0 p0) it v >>= fun _ => assign (.Name x0 p0) env v >>= fun _ =>
        eval i1 env >>= fun x => standAt i1.pos >>= fun _ => foldedSetIterable i1 env x >>= fun x => holding [x] (pyIter x) >>= fun it' =>
          runOwn (.compStart (.ListComp (.Name x1 p1) [⟨.Name x0 p0, i0, [], 0⟩, ⟨.Name x1 t1, i1, [], 0⟩] scope pos) 1 it' acc env) env >>= fun _ =>
          again (.compLoop (.ListComp (.Name x1 p1) [⟨.Name x0 p0, i0, [], 0⟩, ⟨.Name x1 t1, i1, [], 0⟩] scope pos) 0 it acc env)) := by rfl
theorem nl_inner {x1 : Str} {p1 t1 : Pos} {t0 i0 i1 : Expr} {scope : Scope} {pos : Pos} {l D : Addr} {vs ys : List Value} {mC : Str → Option Value} {env : Env} (hh : A.handled = none)
    (hC : s.heap.Ns env.locals mC) (hD : s.heap.get? D = some (lst ys)) (hl : s.heap.IsList l vs.toArray) (hlD : l ≠ D) (hlC : l ≠ env.locals) (hDC : D ≠ env.locals) (hsz : ys.length + vs.length ≤ sizeLine)
    (hx : env.kindOf x1 = some .local) (hk : env.scope.kind = .function) (hd : (x1 == ("__debug__" : Str)) = false)
    (hR : ∀ h' tk mC', (∀ b o, b ≠ env.locals → b ≠ D → s.heap.get? b = some o → h'.get? b = some o) → h'.get? D = some (lst (ys ++ vs)) → h'.Ns env.locals mC' → R (.ok .next) { s with heap := h', toks := tk }) :
    wpAny (model prog w) A (pyIter (.ref l)) (fun it s₁ => codeAny (model prog w) A (.compStart (.ListComp (.Name x1 p1) [⟨t0, i0, [], 0⟩, ⟨.Name x1 t1, i1, [], 0⟩] scope pos) 1 it (.ref D) env) R s₁) E s := by
  refine wpAny_pyIter_list hl ?_
  have up : ∀ b o, s.heap.get? b = some o → (s.heap.push { cls := .type "list_iterator", data := .fields #[.ref l, .int 0 0] }).get? b = some o := fun b o e => Heap.get?_push_of_some _ e
  have hIl : l ≠ s.heap.objs.size := by obtain ⟨_, e, _⟩ := hl; exact Nat.ne_of_lt (Heap.lt_size e)
  have hID : D ≠ s.heap.objs.size := Nat.ne_of_lt (Heap.lt_size hD)
  have hIC : env.locals ≠ s.heap.objs.size := by obtain ⟨_, _, _, e, _⟩ := hC; exact Nat.ne_of_lt (Heap.lt_size e)
  have hI0 : s.heap.get? s.heap.objs.size = none := by
    cases e : s.heap.get? s.heap.objs.size with
    | none => rfl
    | some o => exact absurd (Heap.lt_size e) (Nat.lt_irrefl _)
  have hIt : (s.heap.push { cls := .type "list_iterator", data := .fields #[.ref l, .int 0 0] }).IsListIter s.heap.objs.size l 0 := ⟨_, Heap.get?_push_size _ rfl, rfl, rfl⟩
  have loop : ∀ s₃ : Shared, s₃ = { s with heap := s.heap.push { cls := .type "list_iterator", data := .fields #[.ref l, .int 0 0] } } →
      codeAny (model prog w) A (.compLoop (.ListComp (.Name x1 p1) [⟨t0, i0, [], 0⟩, ⟨.Name x1 t1, i1, [], 0⟩] scope pos) 1 (.ref s.heap.objs.size) (.ref D) env) R s₃ := by
    rintro s₃ rfl
    refine codeAny_loop rfl (fun k s' => ∃ h' tk i m', s' = { s with heap := h', toks := tk } ∧ i ≤ vs.length ∧ k = vs.length + 1 - i ∧ h'.IsListIter s.heap.objs.size l i ∧ h'.IsList l vs.toArray ∧ h'.Ns env.locals m' ∧
        h'.get? D = some (lst (ys ++ vs.take i)) ∧ ∀ b o, b ≠ env.locals → b ≠ D → s.heap.get? b = some o → h'.get? b = some o) ?_ (vs.length + 1)
      ⟨_, _, 0, mC, rfl, Nat.zero_le _, rfl, hIt, hl.push _, hC.at' fun o e => up _ o e, by rw [List.take_zero, List.append_nil]; exact up _ _ hD, fun b o _ _ e => up b o e⟩
    rintro k s' ⟨h', tk, i, m', rfl, hi, rfl, hit, hl', hn, hD', hkeep⟩
    show wpAny _ A ((compTurn (.ListComp (.Name x1 p1) [⟨t0, i0, [], 0⟩, ⟨.Name x1 t1, i1, [], 0⟩] scope pos) 1 (.ref s.heap.objs.size) (.ref D) env).onRaise (fun x => do noteFrame x env; theTreesLotGoes x)) _ _ _
    refine wpAny_noted ?_
    rw [turn_in]
    refine wpAny_bind (wpAny_standAt (wpAny_bind ?_))
    by_cases hlt : i < vs.length
    · refine wpAny_pyNext_list_item hit hl' (x := vs[i]) (by simp [hlt]) fun h₁ hit₁ hs₁ => ?_
      refine wpAny_bind (wpAny_of_eq (show letOwnedTupleGo (.Name x1 t1) (.ref s.heap.objs.size) vs[i] = pure () from rfl) ?_)
      refine wpAny_bind (wpAny_assign_Name (wpAny_storeName_local hx (hn.sameBut hs₁ hIC) (fun h₂ hn₂ hs₂ => ?_) (by simp [hk])))
      refine wpAny_bind (wpAny_bind (wpAny_Name (wpAny_loadName_local hk hx hn₂ (if_pos rfl) ?_) hd))
      have hD₂ : h₂.get? D = some (lst (ys ++ vs.take i)) := hs₂.extBut _ _ hDC (hs₁.extBut _ _ hID hD')
      refine wpAny_bind (append_at (hsz := by rw [List.size_toArray, List.length_append, List.length_take]; exact Nat.le_trans (Nat.add_le_add_left (Nat.min_le_right ..) _) hsz) hD₂ fun h₃ hs₃ hD₃ => wpAny_pure (wpAny_pure ⟨rfl, vs.length + 1 - (i + 1), by omega, h₃, _, i + 1, _, rfl, hlt, rfl, ?_, ?_, hn₂.sameBut hs₃ (Ne.symm hDC), ?_, ?_⟩))
      · exact (hit₁.extBut hs₂.extBut (Ne.symm hIC)).extBut hs₃.extBut (Ne.symm hID)
      · exact ((hl'.extBut hs₁.extBut hIl).extBut hs₂.extBut hlC).extBut hs₃.extBut hlD
      · have e : vs.take (i + 1) = vs.take i ++ [vs[i]] := by rw [List.take_add_one, List.getElem?_eq_getElem hlt]; rfl
        rw [hD₃, e, ← List.append_assoc]
        exact congrArg some (LCg.lst_snoc _ _)
      · intro b o h1 h2 e
        have h3 : b ≠ s.heap.objs.size := Nat.ne_of_lt (Heap.lt_size e)
        exact hs₃.extBut b o h2 (hs₂.extBut b o h1 (hs₁.extBut b o h3 (hkeep b o h1 h2 e)))
    · obtain rfl : i = vs.length := Nat.le_antisymm hi (Nat.not_lt.mp hlt)
      refine wpAny_pyNext_list_end hh hit hl' (by simp) fun h₁ he => wpAny_pure (hR h₁ _ _ (fun b o h1 h2 e => ?_) ?_ (hn.extBut he hIC))
      · exact he b o (Nat.ne_of_lt (Heap.lt_size e)) (hkeep b o h1 h2 e)
      · rw [List.take_length] at hD'
        exact he _ _ hID hD'
  have again := loop _ rfl
  refine codeAny_of_tree ?_
  show wpAny _ _ ((compStart (.ListComp (.Name x1 p1) [⟨t0, i0, [], 0⟩, ⟨.Name x1 t1, i1, [], 0⟩] scope pos) 1 (.ref s.heap.objs.size) (.ref D) env).onRaise (fun x => do noteFrame x env; standAt theWindowsPlace)) _ _ _
  refine wpAny_notedAt ?_
  unfold compStart
  show wpAny _ _ (ask >>= _) _ _ _
  refine wpAny_bind (wpAny_askSetting (wpAny_ite ?_))
  have h2 := wpAny_pyIter_listiter (prog := prog) (w := w) (A := A) (E := notedBy (model prog w) A env fun x s' => R (.error x) s') (s := { s with heap := s.heap.push { cls := .type "list_iterator", data := .fields #[.ref l, .int 0 0] } })
    (Q := fun it' s' => codeAny (model prog w) A (.compLoop (.ListComp (.Name x1 p1) [⟨t0, i0, [], 0⟩, ⟨.Name x1 t1, i1, [], 0⟩] scope pos) 1 it' (.ref D) env) R s') hIt again
  split
  · first
      | exact wpAny_bind (wpAny_pure (wpAny_pure (And.intro rfl again)))
      | exact wpAny_pure (And.intro rfl again)
  · refine wpAny_bind (wpAny_rule ?_)
    show wpAny _ _ (standAt i1.pos >>= _) _ _ _
    exact wpAny_bind (wpAny_standAt (wpAny_bind (wpAny_mono h2 (fun it' s' h' => wpAny_pure (And.intro rfl h')) fun _ _ x => x)))
end
noncomputable def flat (g : Nat → List Int) (i : Nat) : List Int := (List.range i).flatMap g
theorem flat_succ {g : Nat → List Int} {i : Nat} : flat g (i + 1) = flat g i ++ g i := by simp [flat, List.range_succ]
theorem flat_le {g : Nat → List Int} {i : Nat} : ∀ {n : Nat}, i ≤ n → (flat g i).length ≤ (flat g n).length
  | 0, h => by rw [Nat.le_zero.mp h]; exact Nat.le_refl _
  | n + 1, h => by
    rcases Nat.lt_or_ge i (n + 1) with e | e
    · refine Nat.le_trans (flat_le (n := n) (Nat.le_of_lt_succ e)) ?_
      rw [flat_succ, List.length_append]; exact Nat.le_add_right _ _
    · rw [Nat.le_antisymm h e]; exact Nat.le_refl _
noncomputable def NEnd (h₀ : Heap) (L : Addr) (m : Str → Option Value) (I : Addr) (oI : Obj) (C : Addr) (oC : Obj) (D : Addr) (oD : Obj) (news : List (Addr × Obj)) (xs : List Int) (s₁ : Shared) (x : Value) (s₂ : Shared) : Prop :=
  ∃ h' tk' l vs nn nw, x = .ref l ∧ s₂ = { s₁ with heap := h', toks := tk' } ∧ Fr h₀ L h' m ∧ News h₀ L h' nw ∧ (∀ p ∈ (I, oI) :: (C, oC) :: (D, oD) :: news, p ∈ nw) ∧ (l, PySem.W.listOf (List.toArray vs) nn) ∈ nw ∧ l ≠ I ∧ l ≠ C ∧ l ≠ D ∧ IntsAre vs xs
section
variable {prog : Program} {w : World} {A : Around} {E : Value → Shared → Prop} {s : Shared} {h₀ : Heap} {L : Addr} {m : Str → Option Value} {env : Env}
noncomputable def NTurn (prog : Program) (w : World) (A : Around) (h₀ : Heap) (L : Addr) (m : Str → Option Value) (env : Env) (i1 : Expr) (x0 : Str) (scope : Scope) (cl : List (Str × Addr)) (s : Shared) (P : Nat → Value → Prop) (news : List (Addr × Obj)) (g : Nat → List Int) (n : Nat) : Prop :=
  ∀ i v I oI C oC D ys m₂ h tk (E' : Value → Shared → Prop), i < n → P i v → LCg.NsObj oC m₂ → m₂ x0 = some v → Fr h₀ L h m → News h₀ L h ((I, oI) :: (C, oC) :: (D, lst ys) :: news) → LCg.Off3 I C D news → ((@Ne Nat I C) ∧ (@Ne Nat I D) ∧ (@Ne Nat C D)) →
    wpAny (model prog w) A (eval i1 (compEnvC scope cl C env)) (NEnd h₀ L m I oI C oC D (lst ys) news (g i) { s with heap := h, toks := tk }) E' { s with heap := h, toks := tk }
noncomputable def NSrc (prog : Program) (w : World) (A : Around) (h₀ : Heap) (L : Addr) (m : Str → Option Value) (env : Env) (i1 : Expr) (x0 : Str) (scope : Scope) (cl : List (Str × Addr)) (s : Shared) (Q : Value → Shared → Prop) (it : Value) (s₂ : Shared) : Prop :=
  ∃ I fp n P St news g, it = .ref I ∧ Walks prog w A I fp [I] n P St ∧ A.handled = none ∧ (∀ b ∈ fp, b < s₂.heap.objs.size) ∧ St 0 s₂.heap ∧ Fr h₀ L s₂.heap m ∧ News h₀ L s₂.heap news ∧ L ≠ I ∧ h₀.get? I = none ∧ (∀ p ∈ news, p.1 ≠ I) ∧
    (∀ i h, St i h → ∃ o, h.get? I = some o) ∧ (∀ i h h' o, St i h → h.get? I = some o → h'.get? I = some o → News h₀ L h' news → St i h') ∧ (flat g n).length ≤ sizeLine ∧ (∃ h tk, s₂ = { s with heap := h, toks := tk }) ∧
    NTurn prog w A h₀ L m env i1 x0 scope cl s P news g n ∧
    ∀ D h tk ys, Fr h₀ L h m → News h₀ L h ((D, lst ys) :: news) → LCg.Off1 D news → IntsAre ys (flat g n) → Q (.ref D) { s with heap := h, toks := tk }
theorem nl_eval {x0 x1 : Str} {p0 p1 t1 : Pos} {i0 i1 : Expr} {scope : Scope} {cl : List (Str × Addr)} {pos : Pos} {Q : Value → Shared → Prop} (F₀ : Fr h₀ L s.heap m)
    (hclos : closureFor scope env = pure cl) (hcell : ∀ y ∈ scope.names, y.2 ≠ .cell) (hkind : scope.kind = .function)
    (hnames : ∀ y ∈ scope.names, y.2 = .local → scope.names.lookup y.1 = some .local) (hx0 : scope.names.lookup x0 = some .local) (hx1 : scope.names.lookup x1 = some .local) (hd : (x1 == ("__debug__" : Str)) = false)
    (h : wpAny (model prog w) A (eval i0 env) (fun xv s₁ => wpAny (model prog w) A (pyIter xv) (NSrc prog w A h₀ L m env i1 x0 scope cl s Q) E s₁) E s)
    (hs : ∀ x, foldedSetIterable i0 env x = pure x := by intro _; rfl) (hs1 : ∀ e x, foldedSetIterable i1 e x = pure x := by intro _ _; rfl) :
    wpAny (model prog w) A (eval (.ListComp (.Name x1 p1) [⟨.Name x0 p0, i0, [], 0⟩, ⟨.Name x1 t1, i1, [], 0⟩] scope pos) env) Q E s := by
  rw [eval_ListComp]
  refine wpAny_comprehension_free (use := none) rfl hs hclos hkind hnames (wpAny_mono h (fun xv s₁ h₁ => wpAny_mono h₁ (fun it s₂ h₂ => ?_) fun _ _ e => e) fun _ _ e => e)
  obtain ⟨I, fp, n, P, St, news, g, rfl, W, hh, hfp, hst, F, N, hIL, hI₀, off, hIo, hSt, hsz, ⟨hp₂, tk₂, rfl⟩, turn, fin⟩ := h₂
  refine wpAny_newObj_type (wpAny_newFunctionEnv hcell (by intro y hy; simp at hy) (fun h₁ hns₁ hsb₁ => ?_) hkind)
  dsimp only at hns₁ hsb₁ hfp hst F N ⊢
  generalize hH2 : hp₂.push { cls := .type "list", dict := none, data := .seq ([] : List Value).toArray } = H2 at hns₁ hsb₁ ⊢
  have hC : H2.objs.size = hp₂.objs.size + 1 := by rw [← hH2, Heap.size_push]
  have hDC : hp₂.objs.size ≠ H2.objs.size := by rw [hC]; exact Nat.ne_of_lt (Nat.lt_succ_self _)
  have below : ∀ b, b < hp₂.objs.size → b ≠ H2.objs.size ∧ b ≠ hp₂.objs.size := fun b hb => ⟨by rw [hC]; exact Nat.ne_of_lt (Nat.lt_succ_of_lt hb), Nat.ne_of_lt hb⟩
  have hCf : H2.objs.size ∉ fp := fun hm => by have := hfp _ hm; rw [hC] at this; exact Nat.lt_irrefl _ (Nat.lt_of_succ_lt this)
  have hDf : hp₂.objs.size ∉ fp := fun hm => Nat.lt_irrefl _ (hfp _ hm)
  have hIlt : I < hp₂.objs.size := hfp I (W.sub I (List.mem_singleton.mpr rfl))
  have old : ∀ b o, hp₂.get? b = some o → h₁.get? b = some o := fun b o e => hsb₁.extBut b o (below b (Heap.lt_size e)).1 (Heap.get?_push_of_some _ (hH2 ▸ Heap.get?_push_of_some _ e))
  have hacc : h₁.get? hp₂.objs.size = some (lst []) := hsb₁.extBut _ _ hDC (Heap.get?_push_of_some _ (hH2 ▸ Heap.get?_push_size _ rfl))
  have fresh₀ : ∀ a, hp₂.objs.size ≤ a → h₀.get? a = none := fun a ha => by
    cases e : h₀.get? a with
    | none => rfl
    | some o' => exact absurd (Heap.lt_size (F.keep a o' e)) (Nat.not_lt.mpr ha)
  have hD₀ := fresh₀ _ (Nat.le_refl hp₂.objs.size)
  have hC₀ : h₀.get? H2.objs.size = none := fresh₀ _ (by rw [hC]; exact Nat.le_succ _)
  have hLlt : L < hp₂.objs.size := F.ns.lt
  have hDL : hp₂.objs.size ≠ L := Ne.symm (below L hLlt).2
  have hCL : H2.objs.size ≠ L := Ne.symm (below L hLlt).1
  have hCI : I ≠ H2.objs.size := (below I hIlt).1
  have hDI : I ≠ hp₂.objs.size := (below I hIlt).2
  have off3 : ∀ p ∈ news, p.1 ≠ I ∧ p.1 ≠ H2.objs.size ∧ p.1 ≠ hp₂.objs.size := fun p hp => ⟨off p hp, (below _ (Heap.lt_size (N p hp).1)).1, (below _ (Heap.lt_size (N p hp).1)).2⟩
  have loop : ∀ s₃ : Shared, s₃ = { s with heap := h₁, toks := tk₂ + ([] : List (Str × Value)).length } →
      codeAny (model prog w) A (.compLoop (.ListComp (.Name x1 p1) [⟨.Name x0 p0, i0, [], 0⟩, ⟨.Name x1 t1, i1, [], 0⟩] scope pos) 0 (.ref I) (.ref hp₂.objs.size) (compEnvC scope cl H2.objs.size env))
        (compPost (model prog w) A E none Q (.ref hp₂.objs.size) H2.objs.size) s₃ := by
    rintro s₃ rfl
    refine codeAny_loop rfl (fun k s' => ∃ h' tk i ys m', s' = { s with heap := h', toks := tk } ∧ i ≤ n ∧ k = n + 1 - i ∧ IntsAre ys (flat g i) ∧ St i h' ∧ Fr h₀ L h' m ∧ h'.Ns H2.objs.size m' ∧
        News h₀ L h' ((hp₂.objs.size, lst ys) :: news)) ?_ (n + 1)
      ⟨h₁, _, 0, [], _, rfl, Nat.zero_le _, rfl, .nil, W.frame _ _ _ hst fun b _ o e => old b o e, F.keeps old, hns₁, fun p hp => ?_⟩
    · rintro k s' ⟨h', tk, i, ys, m', rfl, hi, rfl, hys, hst', F', hn', N'⟩
      show wpAny _ A ((compTurn (.ListComp (.Name x1 p1) [⟨.Name x0 p0, i0, [], 0⟩, ⟨.Name x1 t1, i1, [], 0⟩] scope pos) 0 (.ref I) (.ref hp₂.objs.size) (compEnvC scope cl H2.objs.size env)).onRaise (fun x => do noteFrame x _; theTreesLotGoes x)) _ _ _
      refine wpAny_noted ?_
      rw [turn_out]
      refine wpAny_bind (wpAny_standAt (wpAny_bind ?_))
      by_cases hlt : i < n
      · refine W.item i _ _ _ hlt hst' fun v h₂ tk' hPv hst₂ hk₂ => ?_
        refine wpAny_bind (wpAny_of_eq (show letOwnedTupleGo (.Name x0 p0) (.ref I) v = pure () from rfl) ?_)
        refine wpAny_bind (wpAny_assign_Name (wpAny_storeName_local (lookup_relabel_local hx0) (hn'.at' fun o e => hk₂ _ o (by simpa using Ne.symm hCI) e) (fun h₃ hn₃ hs₃ => ?_) (by simp [compEnvC, relabel, hkind])))
        have hst₃ : St (i + 1) h₃ := W.frame _ _ _ hst₂ fun b hb o e => hs₃.extBut b o (fun q => hCf (by have q' : b = H2.objs.size := q; rw [← q']; exact hb)) e
        obtain ⟨oI, heI⟩ := hIo _ _ hst₃
        obtain ⟨oC, heC, hoC⟩ := LCg.ns_obj hn₃
        have F₃ : Fr h₀ L h₃ m := (LCg.fr_but F' hk₂ hIL hI₀).change hs₃ hCL hC₀
        have N₂ : News h₀ L h₂ ((hp₂.objs.size, lst ys) :: news) := LCg.news_but N' hk₂ fun p hp => by
          rcases List.mem_cons.mp hp with rfl | hp
          · exact Ne.symm hDI
          · exact (off3 p hp).1
        have N₃ : News h₀ L h₃ ((I, oI) :: (H2.objs.size, oC) :: (hp₂.objs.size, lst ys) :: news) := fun p hp => by
          rcases List.mem_cons.mp hp with rfl | hp
          · exact ⟨heI, Ne.symm hIL, hI₀⟩
          · rcases List.mem_cons.mp hp with rfl | hp
            · exact ⟨heC, hCL, hC₀⟩
            · have z := N₂ p hp
              refine ⟨hs₃.extBut _ _ ?_ z.1, z.2⟩
              rcases List.mem_cons.mp hp with rfl | hp
              · exact hDC
              · exact (off3 p hp).2.1
        refine wpAny_bind (wpAny_mono (turn i v I oI H2.objs.size oC hp₂.objs.size ys _ h₃ _ _ hlt hPv hoC (if_pos rfl) F₃ N₃ (LCg.Off3.of off3) ⟨hCI, hDI, Ne.symm hDC⟩) (fun x s₄ h₄ => ?_) fun _ _ e => e)
        obtain ⟨h₄, tk₄, l, vs, nn, nw, rfl, rfl, F₄, N₄, sub, hl, hlI, hlC, hlD, hvs⟩ := h₄
        have zI := (N₄ _ (sub (I, oI) List.mem_cons_self)).1
        have zC := (N₄ _ (sub (H2.objs.size, oC) (List.mem_cons_of_mem _ List.mem_cons_self))).1
        have zD := (N₄ _ (sub (hp₂.objs.size, lst ys) (List.mem_cons_of_mem _ (List.mem_cons_of_mem _ List.mem_cons_self)))).1
        have N₄' : News h₀ L h₄ news := fun p hp => N₄ p (sub p (List.mem_cons_of_mem _ (List.mem_cons_of_mem _ (List.mem_cons_of_mem _ hp))))
        have hst₄ : St (i + 1) h₄ := hSt _ _ _ _ hst₃ heI zI N₄'
        refine wpAny_bind (wpAny_standAt (wpAny_bind (wpAny_of_eq (hs1 _ _) (wpAny_bind (wpAny_holding ?_)))))
        have b1 : ys.length + vs.length ≤ sizeLine := by
          have e1 := hys.length
          have e2 := hvs.length
          have e3 := flat_le (g := g) (show i + 1 ≤ n from hlt)
          rw [flat_succ, List.length_append] at e3
          rw [e1, e2]; exact Nat.le_trans e3 hsz
        refine wpAny_mono (nl_inner (t0 := .Name x0 p0) (i0 := i0) (i1 := i1) (p1 := p1) (t1 := t1) (pos := pos) (scope := scope) (x1 := x1) (env := compEnvC scope cl H2.objs.size env) hh (hoC.ns zC) zD (PySem.IsL.isList (N₄ _ hl).1) hlD hlC hDC b1 (lookup_relabel_local hx1) hkind hd
          (R := fun r s' => match r with | .ok f => wpAny (model prog w) A (again (.compLoop (.ListComp (.Name x1 p1) [⟨.Name x0 p0, i0, [], 0⟩, ⟨.Name x1 t1, i1, [], 0⟩] scope pos) 0 (.ref I) (.ref hp₂.objs.size) (compEnvC scope cl H2.objs.size env))) _ _ s' | .error e => cameBackBy (model prog w) A (compEnvC scope cl H2.objs.size env) _ e s') (fun h₅ tk₅ mC' hk₅ hD₅ hn₅ => ?_)) (fun it' s₅ h₅ => wpAny_bind (wpAny_runOwn h₅)) fun _ _ e => e
        have hk₆ : ∀ b o, (@Ne Nat b H2.objs.size) → (@Ne Nat b hp₂.objs.size) → h₄.get? b = some o → h₅.get? b = some o := hk₅
        refine wpAny_pure ⟨rfl, n + 1 - (i + 1), by omega, h₅, tk₅, i + 1, ys ++ vs, _, rfl, hlt, rfl, by rw [flat_succ]; exact hys.append hvs, W.frame _ _ _ hst₄ fun b hb o e => hk₆ b o (fun q => hCf (q ▸ hb)) (fun q => hDf (q ▸ hb)) e, ?_, hn₅, fun p hp => ?_⟩
        · exact ⟨F₄.ns.at' fun o e => hk₆ _ o (Ne.symm hCL) (Ne.symm hDL) e, fun b o e => hk₆ b o (fun q => by rw [q, hC₀] at e; cases e) (fun q => by rw [q, hD₀] at e; cases e) (F₄.keep b o e), F₄.above⟩
        · rcases List.mem_cons.mp hp with rfl | hp
          · exact ⟨hD₅, hDL, hD₀⟩
          · exact ⟨hk₆ _ _ (off3 p hp).2.1 (off3 p hp).2.2 (N₄' p hp).1, (N₄' p hp).2⟩
      · obtain rfl : i = n := Nat.le_antisymm hi (Nat.not_lt.mp hlt)
        refine W.done _ _ _ hst' fun h₂ tk' hk₂ => wpAny_pure ?_
        have N₂ : News h₀ L h₂ ((hp₂.objs.size, lst ys) :: news) := LCg.news_but N' hk₂ fun p hp => by
          rcases List.mem_cons.mp hp with rfl | hp
          · exact Ne.symm hDI
          · exact (off3 p hp).1
        refine ⟨_, hn'.at' fun o e => hk₂ _ o (by simpa using Ne.symm hCI) e, fun h'' hs'' => fin _ h'' _ ys ((LCg.fr_but F' hk₂ hIL hI₀).change hs'' hCL hC₀) (fun p hp => ?_) (LCg.Off3.one (LCg.Off3.of off3)) hys⟩
        refine ⟨hs''.extBut _ _ ?_ (N₂ p hp).1, (N₂ p hp).2⟩
        rcases List.mem_cons.mp hp with rfl | hp
        · exact hDC
        · exact (off3 p hp).2.1
    · rcases List.mem_cons.mp hp with rfl | hp
      · exact ⟨hacc, hDL, hD₀⟩
      · exact ⟨old _ _ (N p hp).1, (N p hp).2⟩
  exact codeAny_compStart_list (loop _ rfl) (W.self 0 _ _ _ (W.frame _ _ _ hst fun b _ o e => old b o e) (loop _ rfl))
theorem nsrc_list {x0 : Str} {i1 : Expr} {scope : Scope} {cl : List (Str × Addr)} {Q : Value → Shared → Prop} {ax : Addr} {its : Array Value} {nn : Nat} {news : List (Addr × Obj)} {hs : Heap} {tks : Nat} (g : Nat → List Int)
    (hh : A.handled = none) (F : Fr h₀ L hs m) (N : News h₀ L hs news) (hm : (ax, PySem.W.listOf its nn) ∈ news) (hsz : (flat g its.size).length ≤ sizeLine)
    (turn : NTurn prog w A h₀ L m env i1 x0 scope cl s (fun i v => its[i]? = some v) news g its.size)
    (fin : ∀ D h tk ys, Fr h₀ L h m → News h₀ L h ((D, lst ys) :: news) → LCg.Off1 D news → IntsAre ys (flat g its.size) → Q (.ref D) { s with heap := h, toks := tk }) :
    wpAny (model prog w) A (pyIter (.ref ax)) (NSrc prog w A h₀ L m env i1 x0 scope cl s Q) E { s with heap := hs, toks := tks } := by
  have hl : hs.IsList ax its := PySem.IsL.isList (N _ hm).1
  have hlt : ax < hs.objs.size := Heap.lt_size (N _ hm).1
  refine wpAny_pyIter_list hl ?_
  have up : ∀ b o, hs.get? b = some o → (hs.push { cls := .type "list_iterator", data := .fields #[.ref ax, .int 0 0] }).get? b = some o := fun b o e => Heap.get?_push_of_some _ e
  refine ⟨hs.objs.size, _, _, _, _, news, g, rfl, Walks.list hh hs.objs.size ax (Nat.ne_of_lt hlt) its, hh, fun b hb => ?_, ⟨⟨_, Heap.get?_push_size _ rfl, rfl, rfl⟩, hl.push _⟩, F.keeps up, News.grown N up, Nat.ne_of_lt F.ns.lt, next_is_new F, fun p hp => Nat.ne_of_lt (Heap.lt_size (N p hp).1),
    fun i h st => by obtain ⟨o, e, _⟩ := st.1; exact ⟨o, e⟩, fun i h h' o st e e' N' => ⟨by obtain ⟨o', q, r⟩ := st.1; rw [e] at q; cases q; exact ⟨o, e', r⟩, PySem.IsL.isList (N' _ hm).1⟩, hsz, ⟨_, _, rfl⟩, turn, fin⟩
  show b < (hs.push _).objs.size
  rw [Heap.size_push]
  rcases List.mem_cons.mp hb with rfl | hb
  · exact Nat.lt_succ_self _
  · rw [List.mem_singleton.mp hb]; exact Nat.lt_succ_of_lt hlt
theorem nsrc_range {x0 : Str} {i1 : Expr} {scope : Scope} {cl : List (Str × Addr)} {Q : Value → Shared → Prop} {r : Addr} {a₀ b₀ st : Int} {t₀ u₀ v₀ : Tok} {n : Nat} {news : List (Addr × Obj)} {hs : Heap} {tks : Nat} (g : Nat → List Int)
    (hh : A.handled = none) (F : Fr h₀ L hs m) (N : News h₀ L hs news) (hr : IsRange hs r a₀ b₀ st t₀ u₀ v₀) (hsmall : Builtin.Range.small a₀ b₀ st = true) (hn : Builtin.Range.rangeSize a₀ b₀ st = (n : Int)) (hsz : (flat g n).length ≤ sizeLine)
    (turn : NTurn prog w A h₀ L m env i1 x0 scope cl s (fun i v => i < n ∧ ∃ t, v = .int (a₀ + i * st) t) news g n)
    (fin : ∀ D h tk ys, Fr h₀ L h m → News h₀ L h ((D, lst ys) :: news) → LCg.Off1 D news → IntsAre ys (flat g n) → Q (.ref D) { s with heap := h, toks := tk }) :
    wpAny (model prog w) A (pyIter (.ref r)) (NSrc prog w A h₀ L m env i1 x0 scope cl s Q) E { s with heap := hs, toks := tks } := by
  refine wpAny_pyIter_range hr hsmall ?_
  refine ⟨hs.objs.size, [hs.objs.size], n, (fun i v => i < n ∧ ∃ t, v = .int (a₀ + i * st) t), (fun i h => IsRangeIter h hs.objs.size (a₀ + (i : Nat) * st) ((n : Int) - (i : Nat)) st), news, g, rfl, (Walks.range hh _ a₀ st n).bound, hh, fun b hb => ?_, (by show IsRangeIter _ _ _ _ _; rw [hn]; simpa using Heap.get?_push_size _ rfl), F.push _, (fun p hp => ⟨Heap.get?_push_of_some _ (N p hp).1, (N p hp).2⟩), Nat.ne_of_lt F.ns.lt, next_is_new F, fun p hp => Nat.ne_of_lt (Heap.lt_size (N p hp).1),
    fun i h st => ⟨_, st⟩, fun i h h' o st e e' _ => ?_, hsz, ⟨_, _, rfl⟩, turn, fin⟩
  · rw [List.mem_singleton.mp hb]
    show hs.objs.size < (hs.push _).objs.size
    rw [Heap.size_push]; exact Nat.lt_succ_self _
  · have st' : h.get? hs.objs.size = some _ := st
    show h'.get? hs.objs.size = some _
    rw [e', ← e]; exact st'
end
end
section
section
variable {prog : Program} {w : World} {A : Around} {E : Value → Shared → Prop} {s : Shared} {h₀ : Heap} {L : Addr} {m : Str → Option Value} {env : Env}
noncomputable def COne (h₀ : Heap) (L : Addr) (m : Str → Option Value) (I : Addr) (oI : Obj) (C : Addr) (oC : Obj) (D : Addr) (oD : Obj) (news : List (Addr × Obj)) (Y : Value → Prop) (s₁ : Shared) (y : Value) (s₂ : Shared) : Prop :=
  ∃ h' tk', s₂ = { s₁ with heap := h', toks := tk' } ∧ Fr h₀ L h' m ∧ News h₀ L h' ((I, oI) :: (C, oC) :: (D, oD) :: news) ∧ Y y
noncomputable def CTurn (prog : Program) (w : World) (A : Around) (h₀ : Heap) (L : Addr) (m : Str → Option Value) (env : Env) (elt : Expr) (x : Str) (scope : Scope) (cl : List (Str × Addr)) (s : Shared) (P : Nat → Value → Prop) (news : List (Addr × Obj)) (Y : Nat → Value → Prop) (n : Nat) : Prop :=
  ∀ i v I oI C oC D ys m₂ h tk (E' : Value → Shared → Prop), i < n → P i v → LCg.NsObj oC m₂ → m₂ x = some v → Fr h₀ L h m → News h₀ L h ((I, oI) :: (C, oC) :: (D, lst ys) :: news) → LCg.Off3 I C D news → ((@Ne Nat I C) ∧ (@Ne Nat I D) ∧ (@Ne Nat C D)) →
    wpAny (model prog w) A (eval elt (compEnvC scope cl C env)) (COne h₀ L m I oI C oC D (lst ys) news (Y i) { s with heap := h, toks := tk }) E' { s with heap := h, toks := tk }
noncomputable def Vals (Y : Nat → Value → Prop) (ys : List Value) : Prop := ∀ j v, ys[j]? = some v → Y j v
theorem rest_of {elt : Expr} {x : Str} {scope : Scope} {cl : List (Str × Addr)} {P : Nat → Value → Prop} {news : List (Addr × Obj)} {Y : Nat → Value → Prop} {n : Nat} {Fin : List Value → List (Addr × Obj) → Prop} (hq : Heap) (tq : Nat)
    (turn : CTurn prog w A h₀ L m env elt x scope cl s P news Y n) (fin : ∀ ys, ys.length = n → Vals Y ys → Fin ys news) :
    ∀ k i ys, i + k = n → ys.length = i → Vals Y ys → LCg.CompRest prog w A h₀ L m env elt x scope cl { s with heap := hq, toks := tq } (fun nw => nw = news) P Fin k i ys news := fun k => by
  induction k with
  | zero => intro i ys e1 e2 V; exact fin ys (by omega) V
  | succ k ih =>
    intro i ys e1 e2 V v I oI oC' oC D m₂ h tk E' hP hC hx F N off ne
    refine wpAny_mono (turn i v I oI oC' oC D ys m₂ h tk E' (by omega) hP hC hx F N off ne) (fun y s₂ h₂ => ?_) fun _ _ e => e
    obtain ⟨h', tk', rfl, F', N', hy⟩ := h₂
    refine ⟨h', tk', news, rfl, F', N', off, rfl, ih (i + 1) (ys ++ [y]) (by omega) (by rw [List.length_append, e2]; rfl) fun j u hj => ?_⟩
    rcases Nat.lt_trichotomy j ys.length with q | q | q
    · exact V j u (by rwa [List.getElem?_append_left q] at hj)
    · subst q; rw [List.getElem?_append_right (Nat.le_refl _), Nat.sub_self] at hj; cases hj; rw [e2]; exact hy
    · rw [List.getElem?_eq_none (by rw [List.length_append, List.length_singleton]; omega)] at hj; cases hj
noncomputable def CSrc (prog : Program) (w : World) (A : Around) (h₀ : Heap) (L : Addr) (m : Str → Option Value) (env : Env) (elt : Expr) (x : Str) (scope : Scope) (cl : List (Str × Addr)) (s : Shared) (Q : Value → Shared → Prop) (it : Value) (s₂ : Shared) : Prop :=
  ∃ I fp n P St news Y, it = .ref I ∧ Walks prog w A I fp [I] n P St ∧ (∀ b ∈ fp, b < s₂.heap.objs.size) ∧ St 0 s₂.heap ∧ Fr h₀ L s₂.heap m ∧ News h₀ L s₂.heap news ∧ L ≠ I ∧ h₀.get? I = none ∧ (∀ p ∈ news, p.1 ≠ I) ∧
    (∀ i h, St i h → ∃ o, h.get? I = some o) ∧ (∀ i h h' o, St i h → h.get? I = some o → h'.get? I = some o → News h₀ L h' news → St i h') ∧ n ≤ sizeLine ∧ (∃ h tk, s₂ = { s with heap := h, toks := tk }) ∧
    CTurn prog w A h₀ L m env elt x scope cl s P news Y n ∧
    ∀ D h tk ys, Fr h₀ L h m → News h₀ L h ((D, lst ys) :: news) → LCg.Off1 D news → ys.length = n → Vals Y ys → Q (.ref D) { s with heap := h, toks := tk }
theorem cl_eval {elt : Expr} {x : Str} {px : Pos} {iter : Expr} {scope : Scope} {cl : List (Str × Addr)} {pos : Pos} {Q : Value → Shared → Prop} (F₀ : Fr h₀ L s.heap m)
    (hclos : closureFor scope env = pure cl) (hcell : ∀ y ∈ scope.names, y.2 ≠ .cell) (hkind : scope.kind = .function)
    (hnames : ∀ y ∈ scope.names, y.2 = .local → scope.names.lookup y.1 = some .local) (hx : scope.names.lookup x = some .local)
    (h : wpAny (model prog w) A (eval iter env) (fun xv s₁ => wpAny (model prog w) A (pyIter xv) (CSrc prog w A h₀ L m env elt x scope cl s Q) E s₁) E s)
    (hs : ∀ x, foldedSetIterable iter env x = pure x := by intro _; rfl) :
    wpAny (model prog w) A (eval (.ListComp elt [⟨.Name x px, iter, [], 0⟩] scope pos) env) Q E s := by
  rw [eval_ListComp]
  refine wpAny_comprehension_free (use := none) rfl hs hclos hkind hnames (wpAny_mono h (fun xv s₁ h₁ => wpAny_mono h₁ (fun it s₂ h₂ => ?_) fun _ _ e => e) fun _ _ e => e)
  obtain ⟨I, fp, n, P, St, news, Y, rfl, W, hfp, hst, F, N, hIL, hI₀, off, hIo, hSt, hsz, ⟨hp₂, tk₂, rfl⟩, turn, fin⟩ := h₂
  refine LCg.block_U (S := fun nw => nw = news) (Fin := fun ys nw => nw = news ∧ ys.length = n ∧ Vals Y ys) W hsz hIo (fun i h h' o nw st e e' k N' S => by subst S; exact hSt i h h' o st e e' N') hcell hkind hx hst hfp F N hIL hI₀ off rfl
    (rest_of _ _ turn (fun ys e V => ⟨rfl, e, V⟩) n 0 [] (Nat.zero_add _) rfl fun j v hj => by simp at hj) ?_
  intro D C h tk m' ys news' F' N' o1 hn hC₀ hD₀ hCL hDL hCD offC ⟨e1, e2, V⟩
  subst e1
  refine ⟨m', hn, fun h'' hs'' => fin D h'' tk ys (F'.change hs'' hCL hC₀) (fun p hp => ?_) o1 e2 V⟩
  refine ⟨hs''.extBut _ _ ?_ (N' p hp).1, (N' p hp).2⟩
  rcases List.mem_cons.mp hp with rfl | hp
  · exact Ne.symm hCD
  · exact offC p hp
theorem csrc_list {elt : Expr} {x : Str} {scope : Scope} {cl : List (Str × Addr)} {Q : Value → Shared → Prop} {ax : Addr} {its : Array Value} {nn : Nat} {news : List (Addr × Obj)} {hs : Heap} {tks : Nat} (Y : Nat → Value → Prop)
    (hh : A.handled = none) (F : Fr h₀ L hs m) (N : News h₀ L hs news) (hm : (ax, PySem.W.listOf its nn) ∈ news) (hsz : its.size ≤ sizeLine)
    (turn : CTurn prog w A h₀ L m env elt x scope cl s (fun i v => its[i]? = some v) news Y its.size)
    (fin : ∀ D h tk ys, Fr h₀ L h m → News h₀ L h ((D, lst ys) :: news) → LCg.Off1 D news → ys.length = its.size → Vals Y ys → Q (.ref D) { s with heap := h, toks := tk }) :
    wpAny (model prog w) A (pyIter (.ref ax)) (CSrc prog w A h₀ L m env elt x scope cl s Q) E { s with heap := hs, toks := tks } := by
  have hl : hs.IsList ax its := PySem.IsL.isList (N _ hm).1
  have hlt : ax < hs.objs.size := Heap.lt_size (N _ hm).1
  refine wpAny_pyIter_list hl ?_
  have up : ∀ b o, hs.get? b = some o → (hs.push { cls := .type "list_iterator", data := .fields #[.ref ax, .int 0 0] }).get? b = some o := fun b o e => Heap.get?_push_of_some _ e
  refine ⟨hs.objs.size, _, _, _, _, news, Y, rfl, Walks.list hh hs.objs.size ax (Nat.ne_of_lt hlt) its, fun b hb => ?_, ⟨⟨_, Heap.get?_push_size _ rfl, rfl, rfl⟩, hl.push _⟩, F.keeps up, News.grown N up, Nat.ne_of_lt F.ns.lt, next_is_new F, fun p hp => Nat.ne_of_lt (Heap.lt_size (N p hp).1),
    fun i h st => by obtain ⟨o, e, _⟩ := st.1; exact ⟨o, e⟩, fun i h h' o st e e' N' => ⟨by obtain ⟨o', q, r⟩ := st.1; rw [e] at q; cases q; exact ⟨o, e', r⟩, PySem.IsL.isList (N' _ hm).1⟩, hsz, ⟨_, _, rfl⟩, turn, fin⟩
  show b < (hs.push _).objs.size
  rw [Heap.size_push]
  rcases List.mem_cons.mp hb with rfl | hb
  · exact Nat.lt_succ_self _
  · rw [List.mem_singleton.mp hb]; exact Nat.lt_succ_of_lt hlt
theorem csrc_range {elt : Expr} {x : Str} {scope : Scope} {cl : List (Str × Addr)} {Q : Value → Shared → Prop} {r : Addr} {a₀ b₀ st : Int} {t₀ u₀ v₀ : Tok} {n : Nat} {news : List (Addr × Obj)} {hs : Heap} {tks : Nat} (Y : Nat → Value → Prop)
    (hh : A.handled = none) (F : Fr h₀ L hs m) (N : News h₀ L hs news) (hr : IsRange hs r a₀ b₀ st t₀ u₀ v₀) (hsmall : Builtin.Range.small a₀ b₀ st = true) (hn : Builtin.Range.rangeSize a₀ b₀ st = (n : Int)) (hsz : n ≤ sizeLine)
    (turn : CTurn prog w A h₀ L m env elt x scope cl s (fun i v => i < n ∧ ∃ t, v = .int (a₀ + i * st) t) news Y n)
    (fin : ∀ D h tk ys, Fr h₀ L h m → News h₀ L h ((D, lst ys) :: news) → LCg.Off1 D news → ys.length = n → Vals Y ys → Q (.ref D) { s with heap := h, toks := tk }) :
    wpAny (model prog w) A (pyIter (.ref r)) (CSrc prog w A h₀ L m env elt x scope cl s Q) E { s with heap := hs, toks := tks } := by
  refine wpAny_pyIter_range hr hsmall ?_
  refine ⟨hs.objs.size, [hs.objs.size], n, (fun i v => i < n ∧ ∃ t, v = .int (a₀ + i * st) t), (fun i h => IsRangeIter h hs.objs.size (a₀ + (i : Nat) * st) ((n : Int) - (i : Nat)) st), news, Y, rfl, (Walks.range hh _ a₀ st n).bound, fun b hb => ?_, (by show IsRangeIter _ _ _ _ _; rw [hn]; simpa using Heap.get?_push_size _ rfl), F.push _, (fun p hp => ⟨Heap.get?_push_of_some _ (N p hp).1, (N p hp).2⟩), Nat.ne_of_lt F.ns.lt, next_is_new F, fun p hp => Nat.ne_of_lt (Heap.lt_size (N p hp).1),
    fun i h st => ⟨_, st⟩, fun i h h' o st e e' _ => ?_, hsz, ⟨_, _, rfl⟩, turn, fin⟩
  · rw [List.mem_singleton.mp hb]
    show hs.objs.size < (hs.push _).objs.size
    rw [Heap.size_push]; exact Nat.lt_succ_self _
  · have st' : h.get? hs.objs.size = some _ := st
    show h'.get? hs.objs.size = some _
    rw [e', ← e]; exact st'
end
theorem vals_ints {g : Nat → Int} {ys : List Value} (V : Vals (fun i (v : Value) => ∃ t, v = Value.int (g i) t) ys) : IntsAre ys ((List.range ys.length).map g) := by
  have : ∀ (ys : List Value) (o : Nat), (∀ j v, ys[j]? = some v → ∃ t, v = Value.int (g (o + j)) t) → IntsAre ys ((List.range' o ys.length).map g) := fun ys => by
    induction ys with
    | nil => intro _ _; exact .nil
    | cons y r ih =>
      intro o h
      obtain ⟨t, rfl⟩ := h 0 y rfl
      exact .cons _ _ (ih (o + 1) fun j v hj => by have := h (j + 1) v hj; rwa [Nat.add_assoc, Nat.add_comm 1 j])
  rw [List.range_eq_range']
  exact this ys 0 fun j v hj => by rw [Nat.zero_add]; exact V j v hj
theorem vals_strs {g : Nat → Str} {ys : List Value} (V : Vals (fun i (v : Value) => ∃ t, v = Value.str (g i) t) ys) : StrsAre ys ((List.range ys.length).map g) := by
  have : ∀ (ys : List Value) (o : Nat), (∀ j v, ys[j]? = some v → ∃ t, v = Value.str (g (o + j)) t) → StrsAre ys ((List.range' o ys.length).map g) := fun ys => by
    induction ys with
    | nil => intro _ _; exact .nil
    | cons y r ih =>
      intro o h
      obtain ⟨t, rfl⟩ := h 0 y rfl
      exact .cons _ _ (ih (o + 1) fun j v hj => by have := h (j + 1) v hj; rwa [Nat.add_assoc, Nat.add_comm 1 j])
  rw [List.range_eq_range']
  exact this ys 0 fun j v hj => by rw [Nat.zero_add]; exact V j v hj
end
section
noncomputable def bL (i : Int) : Int := if i < 26 then 65 + i else if i < 52 then 71 + i else if i < 62 then i - 4 else if i < 63 then 43 else 47
theorem bL_in {i : Int} (h0 : 0 ≤ i) (h1 : i < 64) : 0 ≤ bL i ∧ bL i < 256 := by
  unfold bL
  repeat' split
  all_goals omega
theorem in_snoc {xs : List Int} {a : Int} (h : ∀ x ∈ xs, 0 ≤ x ∧ x < 256) (ha : 0 ≤ a ∧ a < 256) : ∀ x ∈ xs ++ [a], 0 ≤ x ∧ x < 256 := fun x hx => by
  rcases List.mem_append.mp hx with hx | hx
  · exact h x hx
  · rw [List.mem_singleton.mp hx]; exact ha
theorem fdivN {a : Int} {b : Int} (h : 0 ≤ b) : a.fdiv b = a / b := Int.fdiv_eq_ediv_of_nonneg a h
noncomputable def b64v (c : Int) : Int := if 65 ≤ c ∧ c ≤ 90 then c - 65 else if 97 ≤ c ∧ c ≤ 122 then c - 71 else if 48 ≤ c ∧ c ≤ 57 then c + 4 else if c = 43 then 62 else if c = 47 then 63 else 64
theorem b64v_in (c : Int) : 0 ≤ b64v c ∧ b64v c ≤ 64 := by
  unfold b64v
  repeat' split
  all_goals omega
theorem and_pow : ∀ (n : Nat) (a y : Int), 0 ≤ y → y < 2 ^ n → Builtin.bitAnd (a * 2 ^ n) y = 0
  | 0, a, y, h0, h1 => by
    have e : y = 0 := by simp only [Int.pow_zero] at h1; omega
    subst e
    have := bitAnd_range (a * 2 ^ 0) (y := 0) (by decide)
    omega
  | n + 1, a, y, h0, h1 => by
    have ih := and_pow n a (y / 2) (by omega) (by rw [Int.pow_succ] at h1; omega)
    have e1 : a * 2 ^ (n + 1) / 2 = a * 2 ^ n := by rw [Int.pow_succ, ← Int.mul_assoc]; exact Int.mul_ediv_cancel _ (by decide)
    have e2 : a * 2 ^ (n + 1) % 2 = 0 := by rw [Int.pow_succ, ← Int.mul_assoc]; exact Int.mul_emod_left _ _
    rw [kbt_halves, e1, ih, e2]; simp
theorem or_pow (n : Nat) (a y : Int) (h0 : 0 ≤ y) (h1 : y < 2 ^ n) : Builtin.bitOr (a * 2 ^ n) y = a * 2 ^ n + y := by
  have e1 := bitXor_and (a * 2 ^ n) y
  have e2 : Builtin.bitXor (a * 2 ^ n) y = Builtin.bitOr (a * 2 ^ n) y - Builtin.bitAnd (a * 2 ^ n) y := rfl
  have e3 := and_pow n a y h0 h1
  omega
theorem or_lt (a : Int) {k : Int} (h0 : 0 ≤ k) (h1 : k < 256) : Builtin.bitOr (a * 2 ^ Int.toNat 8) k = a * 256 + k := or_pow 8 a k h0 (by show k < 256; exact h1)
theorem or2 (lc : Int) {v : Int} (h0 : 0 ≤ v) (h : v < 64) : Builtin.bitOr (lc * 2 ^ Int.toNat 2) (v.fdiv (2 ^ Int.toNat 4)) = lc * 4 + v / 16 := by
  have e := or_pow 2 lc (v / 16) (by omega) (by show v / 16 < 4; omega)
  rw [show v.fdiv (2 ^ Int.toNat 4) = v / 16 from fdivN (by decide)]; exact e
theorem or4 (lc : Int) {v : Int} (h0 : 0 ≤ v) (h : v < 64) : Builtin.bitOr (lc * 2 ^ Int.toNat 4) (v.fdiv (2 ^ Int.toNat 2)) = lc * 16 + v / 4 := by
  have e := or_pow 4 lc (v / 4) (by omega) (by show v / 4 < 16; omega)
  rw [show v.fdiv (2 ^ Int.toNat 2) = v / 4 from fdivN (by decide)]; exact e
theorem or6 (lc : Int) {v : Int} (h0 : 0 ≤ v) (h : v < 64) : Builtin.bitOr (lc * 2 ^ Int.toNat 6) v = lc * 64 + v := or_pow 6 lc v h0 (by show v < 64; exact h)
theorem and_up (m : Int) : ∀ (n : Nat) (x : Int), Builtin.bitAnd x (m * 2 ^ n) = Builtin.bitAnd (x / 2 ^ n) m * 2 ^ n
  | 0, x => by rw [Int.pow_zero, Int.mul_one, Int.ediv_one, Int.mul_one]
  | n + 1, x => by
    have e1 : m * 2 ^ (n + 1) / 2 = m * 2 ^ n := by rw [Int.pow_succ, ← Int.mul_assoc]; exact Int.mul_ediv_cancel _ (by decide)
    have e2 : m * 2 ^ (n + 1) % 2 = 0 := by rw [Int.pow_succ, ← Int.mul_assoc]; exact Int.mul_emod_left _ _
    have e3 : x / 2 / 2 ^ n = x / 2 ^ (n + 1) := by rw [Int.ediv_ediv_of_nonneg (by decide), Int.pow_succ, Int.mul_comm]
    rw [kbt_halves, e1, e2, and_up m n (x / 2), e3, if_neg fun h => absurd h.2 (by decide), Int.add_zero, Int.pow_succ, Int.mul_comm (2 ^ n) 2, Int.mul_left_comm]
theorem and_hi (x : Int) : Builtin.bitAnd x 61440 = x / 4096 % 16 * 4096 := (and_up 15 12 x).trans (by rw [bitAnd_m4]; rfl)
end
section
section
variable {prog : Program} {w : World} {A : Around} {E : Value → Shared → Prop} {s : Shared}
theorem nextT_item {it t : Addr} {i : Nat} {items : Array Value} {x : Value} {Q : Value → Shared → Prop} (hit : s.heap.IsTupleIter it t i) (ht : s.heap.IsTuple t items) (hx : items[i]? = some x)
    (hQ : ∀ h', h'.IsTupleIter it t (i + 1) → Heap.SameBut it s.heap h' → Q x { s with heap := h' }) : wpAny (model prog w) A (Builtin.SmallTypes.nextOf (.ref it)) Q E s := by
  obtain ⟨o, ho, hc, hd⟩ := id hit
  obtain ⟨ol, hol, _, nl, hdl⟩ := ht
  unfold Builtin.SmallTypes.nextOf
  refine wpAny_bind (wpAny_callSpecial?_slot (name := Str.ofString "__next__") hit.typeIs F.slot_tuple_iterator_next (wpAny_call_entry F.slot_tuple_iterator_next hit.typeIs F.entry_tuple_iterator_next ?_ (F.args_tuple_iterator_next_1 _)))
  show wpAny _ _ (field (.ref it) 0 >>= _) _ _ s
  refine wpAny_bind (wpAny_field ho hd (x := .ref t) rfl ?_)
  show wpAny _ _ (if (Value.ref t == Value.none) = true then _ else _) _ _ s
  rw [if_neg (show ¬ ((Value.ref t == Value.none) = true) from Bool.false_ne_true)]
  show wpAny _ _ (field (.ref it) 1 >>= _) _ _ s
  refine wpAny_bind (wpAny_field ho hd (x := .int i 0) rfl ?_)
  show wpAny _ _ (seqItems? (.ref t) >>= _) _ _ s
  refine wpAny_bind (wpAny_seqItems hol hdl ?_)
  simp only [Int.toNat_natCast, hx]
  refine wpAny_bind (wpAny_setField ho hd (by simp) (wpAny_pure ⟨x, rfl, wpAny_pure (hQ _ ?_ (Heap.SameBut.update ..))⟩))
  exact ⟨_, Heap.get?_update_self _ ho (Obj.isFreed_of_fields (Obj.data_mapFields hd _)), (Obj.cls_mapFields ..).trans hc, by rw [Obj.data_mapFields hd]; simp [rawInt]⟩
theorem nextT_end {it t : Addr} {i : Nat} {items : Array Value} {Q : Value → Shared → Prop} (hh : A.handled = none) (hit : s.heap.IsTupleIter it t i) (ht : s.heap.IsTuple t items) (hx : items[i]? = none)
    (hE : ∀ h' e, Heap.ExtBut it s.heap h' → (∃ o, h'.get? e = some o ∧ o.cls = .type "StopIteration") → E (.ref e) { s with heap := h' }) : wpAny (model prog w) A (Builtin.SmallTypes.nextOf (.ref it)) Q E s := by
  obtain ⟨o, ho, hc, hd⟩ := id hit
  obtain ⟨ol, hol, _, nl, hdl⟩ := ht
  unfold Builtin.SmallTypes.nextOf
  refine wpAny_bind (wpAny_callSpecial?_slot (name := Str.ofString "__next__") hit.typeIs F.slot_tuple_iterator_next (wpAny_call_entry F.slot_tuple_iterator_next hit.typeIs F.entry_tuple_iterator_next ?_ (F.args_tuple_iterator_next_1 _)))
  show wpAny _ _ (field (.ref it) 0 >>= _) _ _ s
  refine wpAny_bind (wpAny_field ho hd (x := .ref t) rfl ?_)
  show wpAny _ _ (if (Value.ref t == Value.none) = true then _ else _) _ _ s
  rw [if_neg (show ¬ ((Value.ref t == Value.none) = true) from Bool.false_ne_true)]
  show wpAny _ _ (field (.ref it) 1 >>= _) _ _ s
  refine wpAny_bind (wpAny_field ho hd (x := .int i 0) rfl ?_)
  show wpAny _ _ (seqItems? (.ref t) >>= _) _ _ s
  refine wpAny_bind (wpAny_seqItems hol hdl ?_)
  simp only [Int.toNat_natCast, hx]
  refine wpAny_bind (wpAny_rule (wpAny_bind (wpAny_setField ho hd (by simp) ?_)))
  show wpAny _ _ (newExc (.type "StopIteration") [] >>= _) _ _ _
  refine wpAny_bind ?_
  simp only [newExc, newTuple]
  refine wpAny_bind (wpAny_newObj_type ?_ (by size_fits))
  refine wpAny_bind (m := firstArgMember _ _) (wpAny_of_eq (a := Value.none) (by first | rfl | (simp only [firstArgMember]; rfl)) ?_)
  refine wpAny_newObj_type ?_ (by size_fits)
  simp only [raiseNew]
  refine wpAny_bind (wpAny_handled ?_)
  first | rw [show A.in1.handled = none from hh] | rw [hh]
  refine wpAny_bind (wpAny_pure (wpAny_throw ?_))
  exact hE _ _ (((Heap.SameBut.update ..).extBut.push _).push _) ⟨_, Heap.get?_push_size _ rfl, rfl⟩
theorem drawsT (hh : A.handled = none) (it l : Addr) (hne : l ≠ it) (items : Array Value) :
    Draws prog w A it [it, l] items.size (fun i v => items[i]? = some v) (fun i h => h.IsTupleIter it l i ∧ h.IsTuple l items) where
  live := fun _ _ st => let ⟨o, ho, _⟩ := st.1; ⟨o, ho⟩
  frame := fun _ _ _ st hk => ⟨st.1.at fun o e => hk it (by simp) o e, st.2.at fun o e => hk l (by simp) o e⟩
  item := fun i s Q E hi st hQ => by
    refine nextT_item st.1 st.2 (x := items[i]) (by simp [hi]) fun h' hit' hs' => ?_
    exact hQ _ h' s.toks (by simp [hi]) ⟨hit', st.2.extBut hs'.extBut hne⟩ hs'
  done := fun s Q E st hE => nextT_end hh st.1 st.2 (by simp) hE
theorem newT (l : Addr) (items : Array Value) (n : Nat) (dct : Option Addr) (sl : Array (Option Value)) :
    Meets (Builtin.«enumerate.__new__» ⟨[.type "enumerate", .ref l], []⟩) (fun _ R s => s.heap.get? l = some { cls := .type "tuple", dict := dct, data := .seq items n, slots := sl } ∧
      R (.ok (.ret (.ref (s.heap.push { cls := .type "tuple_iterator", data := .fields #[.ref l, .int 0 0] }).objs.size)))
        { s with heap := (s.heap.push { cls := .type "tuple_iterator", data := .fields #[.ref l, .int 0 0] }).push { cls := .type "enumerate", data := .fields #[.none, .bool false, .ref s.heap.objs.size, rawInt 0, .none, .none] } }) :=
  .of_wp fun prog w A R s h => by
    obtain ⟨hp, g, d, tk, os⟩ := s; obtain ⟨hl, h⟩ := h
    have hsub := sub_enumerate
    have hL : Heap.IsTuple (Shared.heap ⟨hp, g, d, tk, os⟩) l items := ⟨_, hl, rfl, n, rfl⟩
    wp_walk using AutoSeq1.wpAny_loadPart' hl
    refine wpAny_stack_any fun st => wpAny_pure ?_
    split
    · rename_i c _ _ _ _ _
      cases (c == Value.type "enumerate")
      · wp_walk using AutoSeq1.wpAny_loadPart' hl, wpAny_pyIter_tuple hL
        exact ⟨_, rfl, h⟩
      · wp_walk using AutoSeq1.wpAny_loadPart' hl, wpAny_pyIter_tuple hL
        exact ⟨_, rfl, h⟩
    · wp_walk using AutoSeq1.wpAny_loadPart' hl, wpAny_pyIter_tuple hL
      exact ⟨_, rfl, h⟩
theorem call_enumT {l : Addr} {items : Array Value} {Q : Value → Shared → Prop} (hL : s.heap.IsTuple l items)
    (h : ∀ h', IsEnum h' (s.heap.objs.size + 1) s.heap.objs.size 0 .none → h'.IsTupleIter s.heap.objs.size l 0 → (∀ b o, s.heap.get? b = some o → h'.get? b = some o) → Q (.ref (s.heap.objs.size + 1)) { s with heap := h' }) :
    wpAny (model prog w) A (call (.type "enumerate") [.ref l]) Q E s := by
  obtain ⟨⟨c, dct, dt, sl⟩, hl, hc, n, hd⟩ := hL
  replace hc : c = .type "tuple" := hc
  replace hd : dt = .seq items n := hd
  subst hc hd
  refine callType_new F.called_enumerate (by decide) (F.typeCall_enumerate_1 _) (F.newCall_enumerate_1 _) (fun obj => F.args_object_init_2 obj _) F.entry_enumerate_new (newT l items n dct sl) ⟨hl, ?_⟩
  have hz : (s.heap.push { cls := .type "tuple_iterator", data := .fields #[.ref l, .int 0 0] }).objs.size = s.heap.objs.size + 1 := Heap.size_push ..
  show _ ∧ _
  rw [hz]
  have he : IsEnum ((s.heap.push { cls := .type "tuple_iterator", data := .fields #[.ref l, .int 0 0] }).push
      { cls := .type "enumerate", data := .fields #[.none, .bool false, .ref s.heap.objs.size, rawInt 0, .none, .none] }) (s.heap.objs.size + 1) s.heap.objs.size 0 .none := by
    have := Heap.get?_push_size (s.heap.push { cls := .type "tuple_iterator", data := .fields #[.ref l, .int 0 0] })
      (o := { cls := .type "enumerate", data := .fields #[.none, .bool false, .ref s.heap.objs.size, rawInt 0, .none, .none] }) rfl
    rw [hz] at this; exact this
  exact ⟨⟨_, he, rfl⟩, h _ he ⟨_, Heap.get?_push_of_some _ (Heap.get?_push_size _ rfl), rfl, rfl⟩ fun b o x => Heap.get?_push_of_some _ (Heap.get?_push_of_some _ x)⟩
end
section
variable {prog : Program} {w : World} {A : Around} {E : Value → Shared → Prop} {s : Shared} {env : Env} {h₀ : Heap} {x : Str} {target : Expr} {body orelse : List Stmt} {Q : Flow → Shared → Prop}
theorem lp_core {σ : Type} {I : Addr} {fp wr : List Addr} {n : Nat} {Pv Md : Nat → Value → Heap → Prop} {St : Nat → Heap → Prop} {m₀ : Str → Option Value} (W : KTurns prog w A target I fp wr n Pv Md St)
    (Led : σ → List (Addr × Obj)) (ps : σ → List (Str × Value)) (Facts : σ → Prop) (stored : List Str) (P : Nat → σ → Prop) (c₀ : σ)
    (hLf : env.locals ∉ fp) (hwr : ∀ b ∈ wr, h₀.get? b = none) (hnw : ∀ p ∈ Led c₀, p.1 ∉ fp) (hst : St 0 s.heap) (F : Fr h₀ env.locals s.heap m₀) (N : News h₀ env.locals s.heap (Led c₀)) (hf : Facts c₀) (hk : ∀ p ∈ ps c₀, m₀ p.1 = some p.2) (hp : P 0 c₀)
    (hE : PassesOwn (model prog w) A env E)
    (turn : ∀ (c : σ) (i : Nat) (v : Value) (u : Str → Option Value) h tk own, i < n → Pv i v h → OwnOff own ((Led c₀).map (·.1)) → Facts c → P i c →
      Fr h₀ env.locals h (fun y => if y = x then u y else kstB (fun z => if stored.contains z then u z else m₀ z) (ps c) y) → News h₀ env.locals h (Led c ++ own) →
      wpAny (model prog w) A (assign target env v) (fun _ s₂ => wpAny (model prog w) A (execs body env) (InvPostN h₀ env.locals (KstS Led ps Facts x stored m₀ (fun _ => P (i + 1)) []) own ((Led c₀).map (·.1)) { s with heap := h, toks := tk } Q) E s₂) E { s with heap := h, toks := tk })
    (done : ∀ (c : σ) (u : Str → Option Value) h tk, Facts c → P n c → Fr h₀ env.locals h (fun y => if y = x then u y else kstB (fun z => if stored.contains z then u z else m₀ z) (ps c) y) → News h₀ env.locals h (Led c) →
      wpAny (model prog w) A (execs orelse env) Q E { s with heap := h, toks := tk }) :
    codeAny (model prog w) A (.forLoop target (.ref I) body orelse env) (fun r s' => match r with | .ok f => Q f s' | .error e => cameBackBy (model prog w) A env E e s') s := by
  have hLw : env.locals ∉ wr := fun h => hLf (W.sub _ h)
  have old : ∀ b o, h₀.get? b = some o → b ∉ wr := fun b o e hb => by rw [hwr b hb] at e; cases e
  refine codeAny_forLoop_any
    (fun k s' => ∃ h' tk m' c i, s' = { s with heap := h', toks := tk } ∧ St i h' ∧ Fr h₀ env.locals h' m' ∧ News h₀ env.locals h' (Led c) ∧ (Led c).map (·.1) = (Led c₀).map (·.1) ∧ Facts c ∧ (∀ p ∈ ps c, m' p.1 = some p.2) ∧
      (∀ z, z ≠ x → (∀ p ∈ ps c, z ≠ p.1) → stored.contains z = false → m' z = m₀ z) ∧ P i c ∧ i ≤ n ∧ k = n + 1 - i) ?_ (n + 1)
    ⟨s.heap, s.toks, m₀, c₀, 0, rfl, hst, F, N, rfl, hf, hk, fun _ _ _ _ => rfl, hp, Nat.zero_le _, rfl⟩
  rintro k s' ⟨h', tk, m', c, i, rfl, hst', F', N', ha, hf', h1, h2, hp', hi, rfl⟩
  have offL : ∀ p ∈ Led c, p.1 ∉ fp := fun p hp => by
    have : p.1 ∈ (Led c₀).map (·.1) := ha ▸ List.mem_map_of_mem hp
    obtain ⟨q, hq, e⟩ := List.mem_map.mp this
    exact e ▸ hnw q hq
  have next : ∀ h₁ : Heap, (∀ b o, b ∉ wr → h'.get? b = some o → h₁.get? b = some o) → Fr h₀ env.locals h₁ m' ∧ News h₀ env.locals h₁ (Led c) := fun h₁ hk₁ =>
    ⟨⟨F'.ns.at' fun o e => hk₁ _ o hLw e, fun b o e => hk₁ b o (old b o e) (F'.keep b o e), F'.above⟩, fun p hp => ⟨hk₁ _ _ (fun hb => offL p hp (W.sub _ hb)) (N' p hp).1, (N' p hp).2⟩⟩
  by_cases hlt : i < n
  · refine W.item i _ _ _ hlt hst' fun v h₁ tk₁ hMd hk₁ => ?_
    refine W.go i v _ _ _ hMd fun h₂ hP hst₂ hk₂ => ?_
    obtain ⟨F₂, N₂⟩ := next h₂ fun b o hb e => hk₂ b o hb (hk₁ b o hb e)
    have No : News h₀ env.locals h₂ (PyProof.Rows.ownOf h₀ fp h₂) := news_ownOf hLf
    have T := turn c i v m' h₂ tk₁ (PyProof.Rows.ownOf h₀ fp h₂) hlt hP (fun p hp b hb e => by
        obtain ⟨q, hq, e'⟩ := List.mem_map.mp hb
        exact hnw q hq (e' ▸ e ▸ ownOf_sub p hp)) hf' hp' (kst_frOut h1 h2 F₂) (fun p hp => by
        rcases List.mem_append.mp hp with hp | hp
        · exact N₂ p hp
        · exact No p hp)
    have fin : ∀ s₃, InvEndN h₀ env.locals (KstS Led ps Facts x stored m₀ (fun _ => P (i + 1)) []) (PyProof.Rows.ownOf h₀ fp h₂) ((Led c₀).map (·.1)) { s with heap := h₂, toks := tk₁ } s₃ → ∃ m, m < n + 1 - i ∧ ∃ h' tk m' c i, s₃ = { s with heap := h', toks := tk } ∧ St i h' ∧ Fr h₀ env.locals h' m' ∧ News h₀ env.locals h' (Led c) ∧ (Led c).map (·.1) = (Led c₀).map (·.1) ∧ Facts c ∧ (∀ p ∈ ps c, m' p.1 = some p.2) ∧
      (∀ z, z ≠ x → (∀ p ∈ ps c, z ≠ p.1) → stored.contains z = false → m' z = m₀ z) ∧ P i c ∧ i ≤ n ∧ m = n + 1 - i := by
      rintro s₃ ⟨h₃, tk₃, m₃, news₃, nx, rfl, F₃, N₃, hn, ho, ha₃, c₃, rfl, hf₃, g1, g2, hp₃⟩
      refine ⟨n + 1 - (i + 1), by omega, h₃, tk₃, m₃, c₃, i + 1, rfl, W.frame _ _ _ hst₂ fun b hb o e => ?_, F₃, fun p hp => N₃ p (hn p hp), ha₃, hf₃, g1, g2, hp₃, hlt, rfl⟩
      cases hz : h₀.get? b with
      | some o₀ =>
        have : o₀ = o := by have q := F₂.keep b o₀ hz; rw [e] at q; exact (Option.some.inj q).symm
        exact this ▸ F₃.keep b o₀ hz
      | none => exact (N₃ _ (ho _ (mem_ownOf hb hz e))).1
    refine wpAny_mono T (fun _ s₂ h₂' => wpAny_mono h₂' (fun f s₃ h₃ => ?_) hE) hE
    cases f with
    | ret v => exact h₃
    | brk => exact h₃
    | cont => exact fin _ h₃
    | next => exact fin _ h₃
  · have hin : i = n := by omega
    subst hin
    refine W.done _ _ _ hst' fun h₁ tk₁ hk₁ => ?_
    obtain ⟨F₁, N₁⟩ := next h₁ hk₁
    exact wpAny_passesOwn hE (done c m' h₁ tk₁ hf' hp' (kst_frOut h1 h2 F₁) N₁)

/-- for (a, b) in a tuple of pairs that the top laid; else -/
theorem lp_tup {σ : Type} {ax : Addr} {items : Array Value} {m₀ : Str → Option Value}
    (Led : σ → List (Addr × Obj)) (ps : σ → List (Str × Value)) (Facts : σ → Prop) (x : Str) (stored : List Str) (P : Nat → σ → Prop) (c₀ : σ)
    (hh : A.handled = none) (hE : PassesOwn (model prog w) A env E) (ht : h₀.IsTuple ax items) (F : Fr h₀ env.locals s.heap m₀) (N : News h₀ env.locals s.heap (Led c₀)) (hf : Facts c₀) (hk : ∀ p ∈ ps c₀, m₀ p.1 = some p.2) (hp : P 0 c₀)
    (turn : ∀ (c : σ) (i : Nat) (v : Value) (u : Str → Option Value) h tk own, i < items.size → items[i]? = some v → OwnOff own ((Led c₀).map (·.1)) → Facts c → P i c →
      Fr h₀ env.locals h (fun y => if y = x then u y else kstB (fun z => if stored.contains z then u z else m₀ z) (ps c) y) → News h₀ env.locals h (Led c ++ own) →
      wpAny (model prog w) A (assign target env v) (fun _ s₂ => wpAny (model prog w) A (execs body env) (InvPostN h₀ env.locals (KstS Led ps Facts x stored m₀ (fun _ => P (i + 1)) []) own ((Led c₀).map (·.1)) { s with heap := h, toks := tk } Q) E s₂) E { s with heap := h, toks := tk })
    (done : ∀ (c : σ) (u : Str → Option Value) h tk, Facts c → P items.size c → Fr h₀ env.locals h (fun y => if y = x then u y else kstB (fun z => if stored.contains z then u z else m₀ z) (ps c) y) → News h₀ env.locals h (Led c) →
      wpAny (model prog w) A (execs orelse env) Q E { s with heap := h, toks := tk }) :
    wpAny (model prog w) A (pyIter (.ref ax)) (fun it s₂ => codeAny (model prog w) A (.forLoop target it body orelse env) (fun r s' => match r with | .ok f => Q f s' | .error e => cameBackBy (model prog w) A env E e s') s₂) E s := by
  have hl : s.heap.IsTuple ax items := ht.at fun o e => F.keep ax o e
  obtain ⟨ol, hol, _⟩ := id ht
  have hlt : ax < s.heap.objs.size := Heap.lt_size (F.keep _ _ hol)
  refine wpAny_pyIter_tuple hl ?_
  refine lp_core (s := { s with heap := s.heap.push { cls := .type "tuple_iterator", data := .fields #[.ref ax, .int 0 0] } }) (KTurns.ofWalks (Walks.tuple hh s.heap.objs.size ax (Nat.ne_of_lt hlt) items) fun i v s Q E st q => letGo_tupleiter st.1 q) Led ps Facts stored P c₀ ?_ ?_ ?_
    ⟨⟨_, Heap.get?_push_size _ rfl, rfl, rfl⟩, hl.push _⟩ (F.push _) (fun p hp => ⟨Heap.get?_push_of_some _ (N p hp).1, (N p hp).2⟩) hf hk hp hE turn done
  · intro hm
    rcases List.mem_cons.mp hm with e | hm
    · exact absurd F.ns.lt (e ▸ Nat.lt_irrefl _)
    · have e : env.locals = ax := List.mem_singleton.mp hm
      exact absurd (Heap.lt_size hol) (Nat.not_lt.mpr (e ▸ F.above))
  · intro b hb
    rw [List.mem_singleton.mp hb]
    exact next_is_new F
  · intro p hp hm
    rcases List.mem_cons.mp hm with e | hm
    · exact absurd (Heap.lt_size (N p hp).1) (e ▸ Nat.lt_irrefl _)
    · have e := (N p hp).2.2
      rw [List.mem_singleton.mp hm, hol] at e
      cases e
/-- for i, v in enumerate of a tuple that the top laid -/
theorem lp_enum {σ : Type} {ax : Addr} {items : Array Value} {elts : List Expr} {ek : Nat} {tp : Pos} {m₀ : Str → Option Value}
    (Led : σ → List (Addr × Obj)) (ps : σ → List (Str × Value)) (Facts : σ → Prop) (x : Str) (stored : List Str) (P : Nat → σ → Prop) (c₀ : σ)
    (hh : A.handled = none) (hE : PassesOwn (model prog w) A env E) (ht : h₀.IsTuple ax items) (F : Fr h₀ env.locals s.heap m₀) (N : News h₀ env.locals s.heap (Led c₀)) (hf : Facts c₀) (hk : ∀ p ∈ ps c₀, m₀ p.1 = some p.2) (hp : P 0 c₀)
    (turn : ∀ (c : σ) (i : Nat) (T : Addr) (t : Tok) (v : Value) (u : Str → Option Value) h tk own, i < items.size → items[i]? = some v → h.IsTuple T #[.int i t, v] → OwnOff own ((Led c₀).map (·.1)) → Facts c → P i c →
      Fr h₀ env.locals h (fun y => if y = x then u y else kstB (fun z => if stored.contains z then u z else m₀ z) (ps c) y) → News h₀ env.locals h (Led c ++ own) →
      wpAny (model prog w) A (assign (.Tuple elts ek tp) env (.ref T)) (fun _ s₂ => wpAny (model prog w) A (execs body env) (InvPostN h₀ env.locals (KstS Led ps Facts x stored m₀ (fun _ => P (i + 1)) []) own ((Led c₀).map (·.1)) { s with heap := h, toks := tk } Q) E s₂) E { s with heap := h, toks := tk })
    (done : ∀ (c : σ) (u : Str → Option Value) h tk, Facts c → P items.size c → Fr h₀ env.locals h (fun y => if y = x then u y else kstB (fun z => if stored.contains z then u z else m₀ z) (ps c) y) → News h₀ env.locals h (Led c) →
      wpAny (model prog w) A (execs orelse env) Q E { s with heap := h, toks := tk }) :
    wpAny (model prog w) A (call (.type "enumerate") [.ref ax]) (fun xv s₁ => wpAny (model prog w) A (pyIter xv) (fun it s₂ => codeAny (model prog w) A (.forLoop (.Tuple elts ek tp) it body orelse env) (fun r s' => match r with | .ok f => Q f s' | .error e => cameBackBy (model prog w) A env E e s') s₂) E s₁) E s := by
  have hl : s.heap.IsTuple ax items := ht.at fun o e => F.keep ax o e
  obtain ⟨ol, hol, _⟩ := id ht
  have hlt : ax < s.heap.objs.size := Heap.lt_size (F.keep _ _ hol)
  refine call_enumT hl fun h' hEn hI hkp => ?_
  refine wpAny_pyIter_enum hEn ?_
  have lt1 : s.heap.objs.size < s.heap.objs.size + 1 := Nat.lt_succ_self _
  refine lp_core (s := { s with heap := h' }) (KTurns.ofWalksU (WalksT.enumerateD (drawsT (A := A.in1) hh s.heap.objs.size ax (Nat.ne_of_lt hlt) items) (s.heap.objs.size + 1) (Nat.succ_ne_self _) ?_ (List.mem_cons_self ..)).toU) Led ps Facts stored P c₀ ?_ ?_ ?_
    ⟨⟨_, hEn⟩, hI, hl.at fun o e => hkp _ o e⟩ (F.keeps hkp) (News.grown N hkp) hf hk hp hE ?_ done
  · intro hm
    rcases List.mem_cons.mp hm with e | hm
    · exact absurd e (Nat.succ_ne_self _)
    · exact absurd (Nat.lt_trans hlt lt1) ((List.mem_singleton.mp hm) ▸ Nat.lt_irrefl _)
  · intro hm
    rcases List.mem_cons.mp hm with e | hm
    · exact absurd (Nat.lt_trans F.ns.lt lt1) (e ▸ Nat.lt_irrefl _)
    rcases List.mem_cons.mp hm with e | hm
    · exact absurd F.ns.lt (e ▸ Nat.lt_irrefl _)
    · have e : env.locals = ax := List.mem_singleton.mp hm
      exact absurd (Heap.lt_size hol) (Nat.not_lt.mpr (e ▸ F.above))
  · intro b hb
    rcases List.mem_cons.mp hb with e | hb
    · subst e; exact ktu_new F (Nat.le_of_lt lt1)
    · exact ktu_new F ((List.mem_singleton.mp hb) ▸ Nat.le_refl _)
  · intro p hp hm
    rcases List.mem_cons.mp hm with e | hm
    · exact absurd (Nat.lt_trans (Heap.lt_size (N p hp).1) lt1) (e ▸ Nat.lt_irrefl _)
    rcases List.mem_cons.mp hm with e | hm
    · exact absurd (Heap.lt_size (N p hp).1) (e ▸ Nat.lt_irrefl _)
    · have e := (N p hp).2.2
      rw [List.mem_singleton.mp hm, hol] at e
      cases e
  · rintro c i v u h tk own hi ⟨T, vals, rfl, ⟨t, y, hy, rfl⟩, hT⟩ hoff hfc hpc F' N'
    exact turn c i T t y u h tk own hi hy hT hoff hfc hpc F' N'
end
end
section
noncomputable def asciiOut (s : Str) : Array UInt8 := s.cps.foldl (fun acc y => acc ++ #[y.toUInt8]) #[]
theorem range_list {β : Type} (n : Nat) (b : β) (f : Nat → β → Sem (ForInStep β)) : forIn [:n] b f = forIn (List.range' 0 n 1) b f := by
  rw [Std.Legacy.Range.forIn_eq_forIn_range']
  have hsz : ([:n] : Std.Legacy.Range).size = n := by simp [Std.Legacy.Range.size]
  show forIn (List.range' 0 ([:n] : Std.Legacy.Range).size 1) b f = _
  rw [hsz]
theorem two_turns {β : Type} {n : Nat} {b : β} {f : Nat → β → Sem (ForInStep β)} (r : β) (h0 : n = 0 → b = r) (h1 : 0 < n → f 0 b = pure (.yield r)) (h2 : ∀ x, 0 < n → f x r = pure (.done r)) : forIn (List.range' 0 n 1) b f = pure r := by
  cases n with
  | zero => rw [h0 rfl]; rfl
  | succ n =>
    rw [List.range'_succ, List.forIn_cons, h1 (Nat.succ_pos _)]
    show forIn (List.range' (0 + 1) n 1) r f = pure r
    cases n with
    | zero => rfl
    | succ n => rw [List.range'_succ, List.forIn_cons, h2 _ (Nat.succ_pos _)]; rfl
theorem ite_not {α : Type} {c : Prop} [Decidable c] {x y : α} (h : ¬ c) : (if c then x else y) = y := if_neg h
theorem ite_yes {α : Type} {c : Prop} [Decidable c] {x y : α} (h : c) : (if c then x else y) = x := if_pos h
open Builtin._codecs in
theorem enc_narrow {id : String} {self : Value} {s : Str} (h : ∀ c ∈ s.cps.toList, c < 128) (hs : (asciiOut s).size ≤ sizeLine) : encodeNarrow id asciiCodec none self s = pure (asciiOut s) := by
  have hx : s.cps.extract 0 s.cps.size = s.cps := Array.extract_size
  have hfi : Array.findIdx? asciiCodec.bad s.cps = none := by
    rw [Array.findIdx?_eq_none_iff]
    intro c hc
    have := h c (Array.mem_toList_iff.mpr hc)
    show decide (c ≥ 128) = false
    exact decide_eq_false (by omega)
  unfold encodeNarrow
  dsimp only
  rw [range_list, two_turns (s.cps.size, asciiOut s, {})]
  · rfl
  · intro hn
    have e : s.cps = #[] := Array.eq_empty_of_size_eq_zero hn
    unfold asciiOut
    rw [e]; rfl
  · intro hn
    have hn : 0 < s.cps.size := hn
    have h0 : s.cps[0]? = some s.cps[0] := Array.getElem?_eq_getElem hn
    have hb : asciiCodec.bad s.cps[0] = false := by
      have := h s.cps[0] (Array.mem_toList_iff.mpr (Array.getElem_mem _))
      show decide (s.cps[0] ≥ 128) = false
      exact decide_eq_false (by omega)
    dsimp only
    refine (ite_not (by simp)).trans ?_
    simp only [h0, hb, hx, hfi, Bool.not_false, if_true, Option.getD_none, Nat.zero_add]
    rfl
  · intro x _
    dsimp only
    refine (ite_not (Nat.not_lt.mpr hs)).trans ?_
    have hno : s.cps[s.cps.size]? = none := Array.getElem?_eq_none (Nat.le_refl _)
    simp only [hno]
noncomputable def asciiText (b : Array UInt8) : Str := ⟨(b.toList.map (·.toNat)).toArray⟩
open Builtin._codecs in
theorem dec_run {id : String} {b : Array UInt8} (h : ∀ c ∈ b.toList, c.toNat < 128) (hs : b.size ≤ sizeLine) : runDecoder id asciiDecoder none true b 0 [] = pure ((asciiText b).cps, b.size) := by
  have key : ∀ (f : Nat → Nat × Array Nat × Faults → Sem (ForInStep (Nat × Array Nat × Faults))),
      (∀ x j (hj : j < b.size), f x (j, ((b.toList.take j).map (·.toNat)).toArray, {}) = pure (.yield (j + 1, ((b.toList.take (j + 1)).map (·.toNat)).toArray, {}))) →
      ∀ k i j, j + k = b.size → forIn (List.range' i k 1) (j, ((b.toList.take j).map (·.toNat)).toArray, ({} : Faults)) f = pure (b.size, ((b.toList.take b.size).map (·.toNat)).toArray, {}) := by
    intro f hf k
    induction k with
    | zero => intro i j e; rw [show j = b.size by omega]; rfl
    | succ k ih => intro i j e; rw [List.range'_succ, List.forIn_cons, hf i j (by omega)]; exact ih (i + 1) (j + 1) (by omega)
  unfold runDecoder
  dsimp only
  rw [range_list]
  refine (congrArg (fun t : Sem (Nat × Array Nat × Faults) => t >>= fun s => pure (s.2.1, s.1)) (key _ ?hf b.size 0 0 (Nat.zero_add _))).trans ?_
  case hf =>
    intro x j hj
    have hjl : j < b.toList.length := by rw [Array.length_toList]; exact hj
    have hsz : (((b.toList.take j).map (·.toNat)).toArray).size ≤ sizeLine := by
      rw [List.size_toArray, List.length_map, List.length_take, Array.length_toList]; omega
    have hg : b.getD j 0 = b.toList[j] := by rw [Array.getD_eq_getD_getElem?, Array.getElem?_eq_getElem hj]; rfl
    have hc : (b.getD j 0).toNat < 128 := by rw [hg]; exact h _ (List.getElem_mem hjl)
    have hfind : asciiDecoder.find true b j = .char (b.getD j 0).toNat (j + 1) := if_pos hc
    dsimp only
    refine (ite_not (Nat.not_lt.mpr hsz)).trans ((ite_not (Nat.not_le.mpr hj)).trans ?_)
    rw [hfind]
    show pure (ForInStep.yield (j + 1, ((b.toList.take j).map (·.toNat)).toArray ++ [(b.getD j 0).toNat].toArray, _)) = _
    rw [hg, List.append_toArray, List.take_succ_eq_append_getElem hjl, List.map_append]
    rfl
  · show (pure ((((b.toList.take b.size).map (·.toNat)).toArray), b.size) : Sem (Array Nat × Nat)) = _
    rw [List.take_of_length_le (by rw [Array.length_toList]; exact Nat.le_refl _)]
    rfl
section
open Builtin
theorem road_enc {id : String} {self : Value} {s : Str} : _codecs.encodeRoad id self s (Str.ofString "ascii") none = (do mkBytes (← _codecs.encodeNarrow id _codecs.asciiCodec none self s)) := by kernel_rfl
theorem road_dec {id : String} {b : Array UInt8} : _codecs.decodeRoad id b (Str.ofString "ascii") none [] = (_codecs.runDecoder id _codecs.asciiDecoder none true b 0 [] >>= fun r => mkStr ⟨r.1⟩) := by kernel_rfl
theorem enc_tree (x : Str) (t u : Tok) : «str.encode» ⟨[.str x t, .str (Str.ofString "ascii") u], []⟩ = (do ret (← _codecs.encodeRoad "str.encode" (.str x t) x (Str.ofString "ascii") none)) := by kernel_rfl
theorem dec_tree (c : UInt8) (cs : List UInt8) (t u : Tok) : «bytes.decode» ⟨[.bytes (c :: cs).toArray t], [(Str.ofString "encoding", .str (Str.ofString "ascii") u)]⟩ = (mkStr (Str.ofString "utf-8") >>= fun _ => mkStr (Str.ofString "ascii") >>= fun e => mkStr (Str.ofString "bytes.decode") >>= fun d =>
    call (.builtin "_codecs.decode.text") [.bytes (c :: cs).toArray t, e, .none, d] >>= fun v => ret v) := by kernel_rfl
theorem args_dec (a b : Value) : argsOk "bytes.decode" ⟨[a], [(Str.ofString "encoding", b)]⟩ := by unfold argsOk; kernel_rfl
theorem typeCall_str2 (a b : Value) : checkTypeCall "str" ⟨[a, b], []⟩ = pure () := by kernel_rfl
theorem newCall_str2 (a b : Value) : checkBuiltinCall "str.__new__" ⟨[.type "str", a, b], []⟩ = pure () := by kernel_rfl
theorem args_init3 (a b c : Value) : argsOk "object.__init__" ⟨[a, b, c], []⟩ := by unfold argsOk; kernel_rfl
end
section
open Builtin
variable {prog : Program} {w : World} {A : Around} {E : Value → Shared → Prop} {s : Shared}
theorem call_encode {x : Str} {t u : Tok} {Q : Value → Shared → Prop} (h : ∀ c ∈ x.cps.toList, c < 128) (hs : (asciiOut x).size ≤ 16777216) (hq : ∀ t' k, Q (.bytes (asciiOut x) t') { s with toks := k }) :
    wpAny (model prog w) A (call (.builtin "str.encode") [.str x t, .str (Str.ofString "ascii") u]) Q E s := by
  have hs' : (asciiOut x).size ≤ sizeLine := by rw [sizeLine_eq]; exact hs
  refine wpAny_call_entry F.slot_str_encode (PySem.typeIs_str _ _ _) F.entry_str_encode ?_ (F.args_str_encode_2 _ _)
  rw [enc_tree, road_enc, enc_narrow h hs']
  exact wpAny_bind (wpAny_bind (wpAny_pure (wpAny_mkBytes (wpAny_pure ⟨_, rfl, hq _ _⟩) hs')))
theorem method_encode {M : Model} {x : Str} {t : Tok} {pl : Sem Bool} {Q : Value × List Value → Shared → Prop} (h : Q (.builtin "str.encode", [.str x t]) s) : wpAny M A (getMethod (.str x t) "encode" pl) Q E s := by
  with_reducible exact GM.of (.str x t) (PySem.typeIs_str _ _ _) F.slot_str_encode F.type_str_encode GM.noRef h
theorem meets_decA {b : Array UInt8} {t t1 t2 : Tok} {d : Str} (h : ∀ c ∈ b.toList, c.toNat < 128) (hs : b.size ≤ sizeLine) :
    Meets («_codecs.decode.text» ⟨[.bytes b t, .str (Str.ofString "ascii") t1, .none, .str d t2], []⟩) (fun _ R s => R (.ok (.ret (.str (asciiText b) s.toks))) { s with toks := s.toks + 1 }) := by
  refine .of_wp fun prog w A R s hS => ?_
  show wpAny _ _ (Bytes.bytesLike _ (.bytes b t) >>= fun r => _) _ _ s
  refine wpAny_bind (wpAny_of_eq KBd.like_eq ?_)
  refine wpAny_bind (wpAny_of_eq KBd.held_eq ?_)
  show wpAny _ _ (_codecs.decodeRoad _ b (Str.ofString "ascii") none [] >>= fun v => _) _ _ s
  rw [road_dec, dec_run h hs]
  refine wpAny_bind (wpAny_bind (wpAny_pure ?_))
  exact wpAny_mkStr (wpAny_pure ⟨_, rfl, hS⟩) (by show ((b.toList.map (·.toNat)).toArray).size ≤ sizeLine; rw [List.size_toArray, List.length_map, Array.length_toList]; exact hs)
theorem call_decode {c : UInt8} {cs : List UInt8} {t u : Tok} {Q : Value → Shared → Prop} (h : ∀ a ∈ c :: cs, a.toNat < 128) (hs : (c :: cs).length ≤ sizeLine) (hq : ∀ t' k, Q (.str (asciiText (c :: cs).toArray) t') { s with toks := k }) :
    wpAny (model prog w) A (call (.builtin "bytes.decode") [.bytes (c :: cs).toArray t] [(Str.ofString "encoding", .str (Str.ofString "ascii") u)]) Q E s := by
  refine wpAny_call_entry_kw FB.slot_bytes_decode (PySem.W.typeIs_bytes _ _ _) FB.entry_bytes_decode ?_ (args_dec _ _)
  rw [dec_tree]
  refine wpAny_bind (wpAny_mkStr ?_ (by decide))
  refine wpAny_bind (wpAny_mkStr ?_ (by decide))
  refine wpAny_bind (wpAny_mkStr ?_ (by decide))
  refine wpAny_bind (call_function_meets KBd.kind_text KBd.plain_text KBd.entry_text (KBd.args_text _ _ _ _) (meets_decA h (by rw [List.size_toArray]; exact hs)) ?_)
  exact wpAny_pure ⟨_, rfl, hq _ _⟩
theorem call_str2 {c : UInt8} {cs : List UInt8} {t u : Tok} {Q : Value → Shared → Prop} (h : ∀ a ∈ c :: cs, a.toNat < 128) (hs : (c :: cs).length ≤ sizeLine) (hq : ∀ t' k, Q (.str (asciiText (c :: cs).toArray) t') { s with toks := k }) :
    wpAny (model prog w) A (call (.type "str") [.bytes (c :: cs).toArray t, .str (Str.ofString "ascii") u]) Q E s := by
  refine callType_new F.called_str (by decide) (typeCall_str2 _ _) (newCall_str2 _ _) (fun obj => args_init3 obj _ _) F.entry_str_new
    (S := fun _ R s => ∀ t' k, R (.ok (.ret (.str (asciiText (c :: cs).toArray) t'))) { s with toks := k }) (.of_wp fun prog w A R s hS => ?_) (fun t' k => ⟨PySem.typeIs_str _ _ _, hq t' k⟩)
  refine wpAny_bind (wpAny_pure ?_)
  refine wpAny_bind (wpAny_of_eq isSubtype_str_str ?_)
  dsimp only
  refine bm_if_false rfl ?_
  refine bm_if_false rfl ?_
  refine wpAny_bind (wpAny_of_eq (a := [some (.bytes (c :: cs).toArray t), some (.str (Str.ofString "ascii") u), none]) (by kernel_rfl) ?_)
  dsimp only
  refine wpAny_bind (wpAny_of_eq (a := some (Str.ofString "ascii")) (by kernel_rfl) ?_)
  refine wpAny_bind (wpAny_of_eq (a := none) (by kernel_rfl) ?_)
  refine bm_if_false rfl ?_
  refine wpAny_bind (wpAny_bind (wpAny_bind (wpAny_mkStr ?_ (by decide))))
  refine wpAny_pure (wpAny_bind (wpAny_pure ?_))
  refine wpAny_bind (wpAny_isInstance (T := "bytes") (b := true) (PySem.W.typeIs_bytes _ _ _) F.bm_sub ?_)
  refine bm_if_true rfl ?_
  refine wpAny_bind (wpAny_rule ?_)
  refine call_decode h hs fun t' k => ?_
  refine bm_if_true (by decide) ?_
  exact wpAny_pure ⟨_, rfl, hS _ _⟩
end
end
section
/-- a turn's end in a clean context -/
noncomputable def CEnd (h₀ : Heap) (L : Addr) (x : Str) (stored : List Str) (m₀ : Str → Option Value) (all : List (Addr × Obj)) (s : Shared) (f : Flow) (s' : Shared) : Prop :=
  f = .next ∧ ∃ h' tk m', s' = { s with heap := h', toks := tk } ∧ Fr h₀ L h' m' ∧ News h₀ L h' all ∧ ∀ z, z ≠ x → stored.contains z = false → m' z = m₀ z
section
variable {prog : Program} {w : World} {A : Around} {s : Shared} {env : Env} {h₀ : Heap}
theorem lpC_list {x : Str} {px : Pos} {body : List Stmt} {ax : Addr} {items : Array Value} {nn : Nat} {m₀ : Str → Option Value} {news : List (Addr × Obj)} {Q : Flow → Shared → Prop} (stored : List Str)
    (hh : A.handled = none) (hx : env.kindOf x = some .local) (hp : (env.scope.kind == .class || (env.scope.kind == .module && env.locals != env.globals)) = false)
    (F : Fr h₀ env.locals s.heap m₀) (N : News h₀ env.locals s.heap news) (hm : (ax, PySem.W.listOf items nn) ∈ news)
    (turn : ∀ (i : Nat) v (u : Str → Option Value) h tk own, items[i]? = some v → OwnOff own (news.map (·.1)) → Fr h₀ env.locals h (fun y => if y = x then some v else if stored.contains y then u y else m₀ y) → News h₀ env.locals h (news ++ own) →
      wpC (model prog w) A (execs body env) (CEnd h₀ env.locals x stored m₀ (news ++ own) { s with heap := h, toks := tk }) { s with heap := h, toks := tk })
    (done : ∀ (u : Str → Option Value) h tk, Fr h₀ env.locals h (fun y => if y = x then u y else if stored.contains y then u y else m₀ y) → News h₀ env.locals h news → Q .next { s with heap := h, toks := tk }) :
    wpAny (model prog w) A (pyIter (.ref ax)) (fun it s₂ => codeC (model prog w) A (.forLoop (.Name x px) it body [] env) (fun r s' => match r with | .ok f => Q f s' | .error _ => False) s₂) (fun _ _ => False) s := by
  have hl : s.heap.IsList ax items := PySem.IsL.isList (N _ hm).1
  have hlt : ax < s.heap.objs.size := Heap.lt_size (N _ hm).1
  have hne : ax ≠ s.heap.objs.size := Nat.ne_of_lt hlt
  have hnI : ∀ p ∈ news, p.1 ≠ s.heap.objs.size := fun p hp => Nat.ne_of_lt (Heap.lt_size (N p hp).1)
  have hLI : env.locals ≠ s.heap.objs.size := Nat.ne_of_lt F.ns.lt
  have h0I : h₀.get? s.heap.objs.size = none := next_is_new F
  refine wpAny_pyIter_list hl ?_
  have W := Walks.list (prog := prog) (w := w) hh s.heap.objs.size ax hne items
  have em : ∀ {m' u : Str → Option Value} {o : Option Value}, (∀ z, z ≠ x → stored.contains z = false → m' z = m₀ z) → (fun y => if y = x then o else if stored.contains y then m' y else m₀ y) = fun y => if y = x then o else m' y := fun hm' => by
    funext y
    by_cases h1 : y = x
    · rw [if_pos h1, if_pos h1]
    · rw [if_neg h1, if_neg h1]
      cases h2 : stored.contains y with
      | true => rfl
      | false => exact (hm' y h1 h2).symm
  have loop : ∀ k i h tk m', i + k = items.size → (h.IsListIter s.heap.objs.size ax i ∧ h.IsList ax items) → Fr h₀ env.locals h m' → News h₀ env.locals h news → (∀ z, z ≠ x → stored.contains z = false → m' z = m₀ z) →
      codeC (model prog w) A (.forLoop (.Name x px) (.ref s.heap.objs.size) body [] env) (fun r s' => match r with | .ok f => Q f s' | .error _ => False) { s with heap := h, toks := tk } := fun k => by
    induction k with
    | zero =>
      intro i h tk m' e st F' N' hm'
      have e : i = items.size := e
      subst e
      refine sp_turn (W.done _ _ _ st fun h₁ tk₁ hk₁ => ?_)
      show wpC _ _ (pure Flow.next) _ _
      refine wpC_pure ?_
      have hk : ∀ b o, b ≠ s.heap.objs.size → h.get? b = some o → h₁.get? b = some o := fun b o hb => hk₁ b o (fun hm => hb (List.mem_singleton.mp hm))
      refine done m' h₁ tk₁ ?_ (fun p hp => ⟨hk _ _ (hnI p hp) (N' p hp).1, (N' p hp).2⟩)
      have F₁ : Fr h₀ env.locals h₁ m' := ⟨F'.ns.at' fun o e => hk _ o hLI e, fun b o e => hk b o (fun hb => by rw [hb, h0I] at e; cases e) (F'.keep b o e), F'.above⟩
      have : (fun y => if y = x then m' y else if stored.contains y then m' y else m₀ y) = m' := by
        funext y
        by_cases h1 : y = x
        · rw [if_pos h1]
        · rw [if_neg h1]
          cases h2 : stored.contains y with
          | true => rfl
          | false => exact (hm' y h1 h2).symm
      rw [this]; exact F₁
    | succ k ih =>
      intro i h tk m' e st F' N' hm'
      refine sp_turn (W.item i _ _ _ (by omega) st fun v h₁ tk₁ hP st₁ hk₁ => ?_)
      have hk : ∀ b o, b ≠ s.heap.objs.size → h.get? b = some o → h₁.get? b = some o := fun b o hb => hk₁ b o (fun hm => hb (List.mem_singleton.mp hm))
      have F₁ : Fr h₀ env.locals h₁ m' := ⟨F'.ns.at' fun o e => hk _ o hLI e, fun b o e => hk b o (fun hb => by rw [hb, h0I] at e; cases e) (F'.keep b o e), F'.above⟩
      have N₁ : News h₀ env.locals h₁ news := fun p hp => ⟨hk _ _ (hnI p hp) (N' p hp).1, (N' p hp).2⟩
      refine wpAny_of_eq (a := ()) rfl ?_
      refine wpAny_assign_Name (wpAny_storeName_local hx F₁.ns (fun h₂ hn₂ hs₂ => ?_) hp)
      have F₂ := F₁.set hn₂ hs₂
      have N₂ : News h₀ env.locals h₂ news := N₁.set hs₂
      obtain ⟨oi, hoi, hoi'⟩ := st₁.1
      have hoi₂ : h₂.get? s.heap.objs.size = some oi := (hs₂.2 _ (Ne.symm hLI)).trans hoi
      have No : News h₀ env.locals h₂ [(s.heap.objs.size, oi)] := fun p hp => by
        rw [List.mem_singleton.mp hp]; exact ⟨hoi₂, Ne.symm hLI, h0I⟩
      have F₂' : Fr h₀ env.locals h₂ (fun y => if y = x then some v else if stored.contains y then m' y else m₀ y) := by rw [em (u := m') hm']; exact F₂
      refine wpC_mono (turn i v m' h₂ _ [(s.heap.objs.size, oi)] hP (fun p hp b hb e => ?_) F₂' (fun p hp => ?_)) (fun f s₃ h₃ => ?_)
      · rw [List.mem_singleton.mp hp] at e
        obtain ⟨q, hq, e'⟩ := List.mem_map.mp hb
        exact hnI q hq (e'.trans e.symm)
      · rcases List.mem_append.mp hp with hp | hp
        · exact N₂ p hp
        · exact No p hp
      obtain ⟨rfl, h', tk', m₃, rfl, F₃, N₃, hm₃⟩ := h₃
      have hoi₃ := (N₃ (s.heap.objs.size, oi) (List.mem_append_right _ (.head _))).1
      exact ih (i + 1) h' tk' m₃ (by omega) ⟨⟨oi, hoi₃, hoi'⟩, PySem.IsL.isList (N₃ _ (List.mem_append_left _ hm)).1⟩ F₃ (fun p hp => N₃ p (List.mem_append_left _ hp)) hm₃
  exact loop items.size 0 _ _ m₀ (Nat.zero_add _) ⟨⟨_, Heap.get?_push_size _ rfl, rfl, rfl⟩, hl.push _⟩ (F.push _) (fun p hp => ⟨Heap.get?_push_of_some _ (N p hp).1, (N p hp).2⟩) fun _ _ _ => rfl
end
end
section
section
variable {prog : Program} {w : World} {A : Around} {E : Value → Shared → Prop} {s : Shared}
theorem bytes_len_is : typeLookup (.type "bytes") "__len__" = pure (some (.builtin "bytes.__len__")) := by rw [typeLookup_type, builtinLookup_eq_fast]; kernel_rfl
noncomputable abbrev ByteAt (b : Array UInt8) (i : Nat) (v : Value) : Prop := ∃ c u, b[i]? = some c ∧ v = .int (c.toNat : Int) u
theorem extend_bytes {R : Result → Shared → Prop} (hh : A.handled = none) (b : Array UInt8) (t : Tok) (S : Addr) (res : Value) (c₀ : Nat) (hS : s.heap.get? S = some { cls := .type "list", data := .seq #[] c₀ })
    (hR : ∀ h' tk acc' c', (∀ b o, b ≠ S → s.heap.get? b = some o → h'.get? b = some o) → h'.get? S = some { cls := .type "list", dict := none, data := .seq acc' c', slots := #[] } →
      ItemsOf (ByteAt b) acc' b.size → R (.ok (.ret res)) { s with heap := h', toks := tk }) (hn : b.size ≤ sizeLine) :
    wpAny (model prog w) A.in1 (Builtin.List.listExtendWith (.ref S) (.bytes b t) res)
      (fun fin s' => match fin with | .done f => R (.ok f) s' | .again c' => c'.quiet = true ∧ codeAny (model prog w) A c' R s') (fun e s' => R (.error e) s') s := by
  have hSI : S ≠ s.heap.objs.size := Nat.ne_of_lt (Heap.lt_size hS)
  have hSf : S ∉ [s.heap.objs.size] := fun hm => hSI (List.mem_singleton.mp hm)
  unfold Builtin.List.listExtendWith
  refine wpAny_bind (wpAny_typeOf (T := "bytes") (v := .bytes b t) rfl ?_)
  have h1 : Builtin.List.listSameRef (.ref S) (.bytes b t) = false := rfl
  have h2 : (Value.type "bytes" == Value.type "list") = false := by decide
  have h3 : (Value.type "bytes" == Value.type "tuple") = false := by decide
  simp only [h1, h2, h3, Bool.or_false, Bool.false_eq_true, if_false]
  refine wpAny_bind (KBw.pyIter_bytes ?_)
  refine wpAny_bind (wpAny_holding ?_)
  unfold Builtin.List.listLengthHint
  refine wpAny_bind (wpAny_specialOf (T := "bytes") (v := .bytes b t) rfl bytes_len_is ?_)
  wp_delta
  refine wpAny_bind (wpAny_isInstance (T := "bytes") (v := .bytes b t) (b := true) rfl F.bm_sub ?_)
  show wpAny _ _ (typeOf (Value.bytes b t) >>= _) _ _ _
  refine wpAny_bind (wpAny_typeOf (T := "bytes") (v := .bytes b t) rfl ?_)
  refine wpAny_pure ?_
  rw [if_neg (by decide)]
  have W := (KBw.walks (prog := prog) (w := w) (A := A.in1) hh s.heap.objs.size b t).toS
  refine wpAny_pure ⟨plainId_quiet F.plain_extend_loop _, codeAny_extend_loopS W hn _ hSf _ b.size 0 _ _ _ rfl (Nat.zero_le _) ⟨_, Heap.get?_push_size _ rfl, rfl, rfl⟩ (Heap.get?_push_of_some _ hS) (ItemsOf.nil _) fun s' acc' c' hm hS' hacc => ?_⟩
  rw [Moved.eq_with hm]
  refine hR s'.heap s'.toks acc' c' (fun b ob hb e => hm.heap b ob (fun hmem => ?_) (Heap.get?_push_of_some _ e)) hS' hacc
  rcases List.mem_cons.mp hmem with e' | hmem
  · exact hb e'
  · exact absurd (Heap.lt_size e) (by rw [List.mem_singleton.mp hmem]; exact Nat.lt_irrefl _)
theorem init_bytes {R : Result → Shared → Prop} (hh : A.handled = none) (b : Array UInt8) (t : Tok) (S : Addr) (hS : s.heap.get? S = some { cls := .type "list", data := .seq #[] })
    (hR : ∀ h' tk acc' c', (∀ b o, b ≠ S → s.heap.get? b = some o → h'.get? b = some o) → h'.get? S = some { cls := .type "list", dict := none, data := .seq acc' c', slots := #[] } →
      ItemsOf (ByteAt b) acc' b.size → R (.ok (.ret .none)) { s with heap := h', toks := tk }) (hn : b.size ≤ sizeLine) :
    wpAny (model prog w) A.in1 (Builtin.«list.__init__» ⟨[.ref S, .bytes b t], []⟩)
      (fun fin s' => match fin with | .done f => R (.ok f) s' | .again c' => c'.quiet = true ∧ codeAny (model prog w) A c' R s') (fun e s' => R (.error e) s') s := by
  show wpAny _ _ (do let old ← Builtin.List.listItems (.ref S); Builtin.List.listUpdate (.ref S) (fun _ => #[]); letGo old.toList.reverse; Builtin.List.listExtendWith (.ref S) (.bytes b t) .none) _ _ s
  refine wpAny_bind ?_
  unfold Builtin.List.listItems
  refine wpAny_bind (wpAny_seqItems hS rfl (wpAny_pure ?_))
  show wpAny _ _ (updateSeq S (fun _ => #[]) >>= fun _ => letGo (#[] : Array Value).toList.reverse >>= fun _ => Builtin.List.listExtendWith (.ref S) (.bytes b t) .none) _ _ s
  refine wpAny_bind (wpAny_updateSeq hS rfl ?_)
  have hS₂ := Heap.get?_update_self (Obj.mapSeq (fun _ => (#[] : Array Value))) hS rfl
  have oth : ∀ b o, b ≠ S → s.heap.get? b = some o → (s.heap.update S (Obj.mapSeq (fun _ => (#[] : Array Value)))).get? b = some o :=
    fun b o hb e => (Heap.get?_update_other _ _ (Ne.symm hb)).trans e
  refine wpAny_bind (wpAny_letGo ?_)
  exact extend_bytes (hn := hn) hh b t S .none _ hS₂ fun h' tk acc' c' hk hS' hacc => hR h' tk acc' c' (fun b o hb e => hk b o hb (oth b o hb e)) hS' hacc
theorem items_ints {b : Array UInt8} {acc : Array Value} (h : ItemsOf (ByteAt b) acc b.size) : IntsAre acc.toList (KBw.bInts b) := by
  obtain ⟨hs, hi⟩ := h
  have : ∀ (l : List Value) (r : List UInt8), l.length = r.length → (∀ (j : Nat) (v : Value), l[j]? = some v → ∃ (c : UInt8) (u : Tok), r[j]? = some c ∧ v = Value.int (c.toNat : Int) u) → IntsAre l (r.map fun c : UInt8 => (c.toNat : Int)) := fun l => by
    induction l with
    | nil => intro r e _; cases r with | nil => exact .nil | cons _ _ => cases e
    | cons v l ih =>
      intro r e hv
      cases r with
      | nil => cases e
      | cons c r =>
        obtain ⟨c', u, h1, h2⟩ := hv 0 v rfl
        cases h1
        rw [h2]
        exact .cons _ _ (ih r (Nat.succ.inj e) fun j v hj => hv (j + 1) v hj)
  refine this acc.toList b.toList (by rw [Array.length_toList, Array.length_toList]; exact hs) fun j v hj => ?_
  obtain ⟨c, u, h1, h2⟩ := hi j v (by rwa [Array.getElem?_toList] at hj)
  exact ⟨c, u, by rw [Array.getElem?_toList]; exact h1, h2⟩
theorem call_list_bytes {Q : Value → Shared → Prop} (hh : A.handled = none) (b : Array UInt8) (t : Tok)
    (hQ : ∀ h' tk (vs : List Value) c', (∀ b o, s.heap.get? b = some o → h'.get? b = some o) → h'.get? s.heap.objs.size = some (PySem.W.listOf vs.toArray c') → IntsAre vs (KBw.bInts b) → Q (.ref s.heap.objs.size) { s with heap := h', toks := tk }) (hn : b.size ≤ sizeLine) :
    wpAny (model prog w) A (call (.type "list") [.bytes b t]) Q E s := by
  refine callType_codes (Q₁ := fun obj s₁ => obj = .ref s.heap.objs.size ∧ s₁ = { s with heap := s.heap.push { cls := .type "list", data := .seq #[] } }) F.called_list (F.typeCall_list_1 _) F.entry_list_init
    (code_list_new _ ⟨rfl, rfl⟩) fun obj s₁ h₁ => ?_
  obtain ⟨rfl, rfl⟩ := h₁
  have hS : (s.heap.push { cls := .type "list", data := .seq #[] }).get? s.heap.objs.size = some { cls := .type "list", data := .seq #[] } := Heap.get?_push_size _ rfl
  refine ⟨⟨_, hS, rfl⟩, F.args_list_init_2 _ _, init_bytes (A := A.in1) (hn := hn) hh b t _ hS fun h' tk acc' c' hk hS' hacc => ?_⟩
  exact ⟨rfl, hQ h' tk acc'.toList c' (fun b o e => hk b o (Nat.ne_of_lt (Heap.lt_size e)) (Heap.get?_push_of_some _ e)) hS' (items_ints hacc)⟩
theorem list_bytesK {h₀ : Heap} {L : Addr} {m : Str → Option Value} {news : List (Addr × Obj)} {b : Array UInt8} {t : Tok} {Q : Value → Shared → Prop} (F : Fr h₀ L s.heap m) (N : News h₀ L s.heap news) (hh : A.handled = none) (hn : b.size ≤ 1000)
    (h : ∀ h' tk d (vs : List Value) c', Fr h₀ L h' m → News h₀ L h' ((d, PySem.W.listOf vs.toArray c') :: news) → IntsAre vs (KBw.bInts b) → (∀ p ∈ news, p.1 < d) → Q (.ref d) { s with heap := h', toks := tk }) :
    wpAny (model prog w) A (call (.type "list") [.bytes b t]) Q E s :=
  call_list_bytes hh b t (fun h' tk vs c' hk hd hi => h h' tk _ vs c' (F.keeps hk) (news_add F (News.grown N hk) hd (get_ge (Nat.le_refl _))) hi fun p hp => Heap.lt_size (N p hp).1) (Nat.le_trans hn (by decide))
end
end
section
section
open Builtin
theorem sliced_step {b : Array UInt8} {lo : Option Int} : (Bytes.sliced b (sliceBounds lo none (some 2) b.size).1 (sliceBounds lo none (some 2) b.size).2.1 (sliceBounds lo none (some 2) b.size).2.2).size ≤ b.size + 1 := by
  have e2 : (sliceBounds lo none (some 2) b.size).2.2 = 2 := rfl
  have e1 : (sliceBounds lo none (some 2) b.size).2.1 = b.size := rfl
  have e0 : 0 ≤ (sliceBounds lo none (some 2) b.size).1 := by
    cases lo with
    | none => exact Int.le_refl _
    | some i =>
      exact Int.le_max_left 0 (min (if i < 0 then i + b.size else i) b.size)
  rw [e2, e1]
  generalize (sliceBounds lo none (some 2) b.size).1 = st at *
  unfold Bytes.sliced sliceRange
  rw [List.size_toArray]
  refine Nat.le_trans (List.length_filterMap_le _ _) ?_
  rw [List.length_map, List.length_range, if_pos (by decide)]
  split <;> omega
theorem meets_sliceS (b : Array UInt8) (t : Tok) (a : Addr) {l : Value} {lo : Option Int} {st : Tok} (hl : IsPart l lo) (hz : b.size ≤ 1000) :
    Meets («bytes.__getitem__» ⟨[.bytes b t, .ref a], []⟩) (fun _ R s => s.heap.IsSliceOf a l .none (.int 2 st) ∧ ∀ c t' k, c.size ≤ 1001 → R (.ok (.ret (.bytes c t'))) { s with toks := k }) := by
  refine .of_wp fun prog w A R s hS => ?_
  obtain ⟨⟨o, ho, hc, hd⟩, h⟩ := hS
  have hT : s.TypeIs (.ref a) "slice" := ⟨o, ho, hc⟩
  show wpAny _ _ (Bytes.payload (.bytes b t) >>= fun r => _) _ _ s
  refine wpAny_bind (wpAny_of_eq (a := b) rfl ?_)
  show wpAny _ _ (Bytes.subscript? (.ref a) >>= fun r => _) _ _ s
  refine wpAny_bind ?_
  unfold Bytes.subscript?
  refine wpAny_bind (wpAny_specialOf hT slice_no_index (wpAny_pure ?_))
  refine wpAny_bind (wpAny_typeOf hT ?_)
  show wpAny _ _ (Bytes.sliceParts (.ref a) >>= fun r => _) _ _ s
  refine wpAny_bind ?_
  unfold Bytes.sliceParts
  refine wpAny_bind (wpAny_field (x := .int 2 st) ho hd rfl ?_)
  have kI := @KBy.ite_no
  refine wpAny_bind (wpAny_ite (kI (show ¬ ((Value.int _ _ == Value.none) = true) from Bool.false_ne_true) ?_))
  refine wpAny_bind (wpAny_specialOf (T := "int") (typeIs_int _ _ _) F.slot_int_index.lookup ?_)
  refine wpAny_ite (kI (show ¬ (Option.isNone (some _) = true) from Bool.false_ne_true) ?_)
  refine wpAny_bind (wpAny_of_eq rfl (wpAny_pure ?_))
  refine wpAny_ite (kI (show ¬ ((rawInt 2 == rawInt 0) = true) from by decide) ?_)
  refine wpAny_bind (wpAny_field (x := l) ho hd rfl ?_)
  have go : wpAny (model prog w) A.in1 (sliceIndices (rawPart lo) (rawPart none) (rawPart (some 2)) b.size) (fun r s' => r = sliceBounds lo none (some 2) b.size ∧ s' = s) (fun _ _ => False) s :=
    wpAny_of_eq (sliceIndices_raw lo none (some 2) b.size (by decide)) ⟨rfl, rfl⟩
  have fin : ∀ s', s' = s → wpAny (model prog w) A.in1 (sliceIndices (rawPart lo) (rawPart none) (rawPart (some 2)) b.size) (fun r s' => r = sliceBounds lo none (some 2) b.size ∧ s' = s) (fun _ _ => False) s' := fun s' e => e ▸ go
  have hsl : (Bytes.sliced b (sliceBounds lo none (some 2) b.size).1 (sliceBounds lo none (some 2) b.size).2.1 (sliceBounds lo none (some 2) b.size).2.2).size ≤ 1001 := Nat.le_trans sliced_step (by omega)
  cases hl
  · refine wpAny_bind (wpAny_of_eq (a := Value.none) rfl ?_)
    refine wpAny_bind (wpAny_field (x := .none) ho hd rfl ?_)
    refine wpAny_bind (wpAny_of_eq (a := Value.none) rfl ?_)
    refine wpAny_pure ?_
    refine wpAny_bind (wpAny_mono go (fun r s' hr => ?_) fun _ _ e => e.elim)
    obtain ⟨hr1, hr2⟩ := hr
    subst hr1 hr2
    refine wpAny_ite (kI (show ¬ (_ = true) from Bool.false_ne_true) ?_)
    exact wpAny_bind (wpAny_mkBytes (wpAny_pure ⟨_, rfl, h _ _ _ hsl⟩) (Nat.le_trans hsl (by rw [sizeLine_eq]; decide)))
  · refine wpAny_bind (wpAny_ite (kI (show ¬ ((Value.int _ _ == Value.none) = true) from Bool.false_ne_true) ?_))
    refine wpAny_bind (wpAny_specialOf (T := "int") (typeIs_int _ _ _) F.slot_int_index.lookup ?_)
    refine wpAny_ite (kI (show ¬ (Option.isNone (some _) = true) from Bool.false_ne_true) ?_)
    refine wpAny_bind (wpAny_of_eq rfl (wpAny_pure ?_))
    refine wpAny_bind (wpAny_field (x := .none) ho hd rfl ?_)
    refine wpAny_bind (wpAny_of_eq (a := Value.none) rfl ?_)
    refine wpAny_pure ?_
    refine wpAny_bind (wpAny_mono go (fun r s' hr => ?_) fun _ _ e => e.elim)
    obtain ⟨hr1, hr2⟩ := hr
    subst hr1 hr2
    refine wpAny_ite (kI ?_ ?_)
    · intro hw
      simp [sliceBounds] at hw
    exact wpAny_bind (wpAny_mkBytes (wpAny_pure ⟨_, rfl, h _ _ _ hsl⟩) (Nat.le_trans hsl (by rw [sizeLine_eq]; decide)))
end
section
variable {prog : Program} {w : World} {A : Around} {E : Value → Shared → Prop} {s : Shared} {value slice : PySem.Expr} {b : Array UInt8} {t st : Tok} {h₀ : Heap} {L : Addr} {m : PySem.Str → Option Value} {news : List (Addr × Obj)} {l : Value} {lo : Option Int} {Q : Value → Shared → Prop}
theorem slice_S (hF : Fr h₀ L s.heap m) (hN : News h₀ L s.heap news) (hl : IsPart l lo) (hz : b.size ≤ 1000)
    (h : ∀ c h' t' k, Fr h₀ L h' m → News h₀ L h' news → c.size ≤ 1001 → Q (.bytes c t') { s with heap := h', toks := k })
    (hs : subscripted slice false (.bytes b t) (.ref s.heap.objs.size) = operate [.ref s.heap.objs.size, .bytes b t] (getItem (.bytes b t) (.ref s.heap.objs.size)) := by with_unfolding_all rfl)
    (ht : ∀ r, letTemporaryGo value (.bytes b t) r = pure () := by intro _; with_unfolding_all rfl) :
    wpAny (model prog w) A (subscriptTail value slice (.bytes b t) (.ref s.heap.objs.size)) Q E { s with heap := s.heap.push { cls := .type "slice", data := .fields #[l, .none, .int 2 st] } } :=
  tail_of_ItemOn ⟨"bytes", _, FB.slot_bytes_getitem.lookup, typeIs_bytes _ _ _, getItem_meets (typeIs_bytes _ _ _) (by decide) FB.slot_bytes_getitem FB.entry_bytes_getitem (FB.args_bytes_getitem_2 _ _) (meets_sliceS b t _ hl hz)
    ⟨Heap.IsSliceOf.new _ _ _ _, fun c t' k hc => h c _ _ _ (hF.push _) (News.pushKeep hN _) hc⟩⟩ hs ht
end
noncomputable abbrev zipB1 (h : Heap) (b1 : Array UInt8) (t1 : Tok) : Heap := h.push { cls := .type "bytes_iterator", data := .fields #[.bytes b1 t1, .int 0 0] }
noncomputable abbrev zipB2 (h : Heap) (b1 b2 : Array UInt8) (t1 t2 : Tok) : Heap := (zipB1 h b1 t1).push { cls := .type "bytes_iterator", data := .fields #[.bytes b2 t2, .int 0 0] }
noncomputable abbrev zipB3 (h : Heap) (b1 b2 : Array UInt8) (t1 t2 : Tok) : Heap := (zipB2 h b1 b2 t1 t2).push { cls := .type "tuple", data := .seq #[.ref h.objs.size, .ref (zipB1 h b1 t1).objs.size] }
noncomputable abbrev zipB4 (h : Heap) (b1 b2 : Array UInt8) (t1 t2 : Tok) : Heap := (zipB3 h b1 b2 t1 t2).push { cls := .type "tuple", data := .seq #[.none, .none] }
noncomputable abbrev zipB5 (h : Heap) (b1 b2 : Array UInt8) (t1 t2 : Tok) : Heap := (zipB4 h b1 b2 t1 t2).push { cls := .type "zip", data := .fields #[.none, .bool false, .bool false, .ref (zipB2 h b1 b2 t1 t2).objs.size, .ref (zipB3 h b1 b2 t1 t2).objs.size] }
section
open KBw
variable {prog : Program} {w : World} {A : Around} {E : Value → Shared → Prop} {s : Shared} {b : Array UInt8} {t : Tok}
theorem nextB_item {it : Addr} {i : Nat} {c : UInt8} {Q : Value → Shared → Prop} (hit : IsBytesIter s.heap it b t i) (hx : b[i]? = some c)
    (hQ : ∀ h', IsBytesIter h' it b t (i + 1) → Heap.SameBut it s.heap h' → Q (.int (c.toNat : Int) s.toks) { s with heap := h', toks := s.toks + 1 }) : wpAny (model prog w) A (Builtin.SmallTypes.nextOf (.ref it)) Q E s := by
  obtain ⟨o, ho, hc, hd⟩ := id hit
  unfold Builtin.SmallTypes.nextOf
  refine wpAny_bind (wpAny_callSpecial?_slot (name := PySem.Str.ofString "__next__") (iter_typeIs hit) slot_next (wpAny_call_entry slot_next (iter_typeIs hit) entry_next ?_ (args_next _)))
  show wpAny _ _ (field (.ref it) 0 >>= _) _ _ s
  refine wpAny_bind (wpAny_field ho hd (x := .bytes b t) rfl ?_)
  show wpAny _ _ (if (Value.bytes b t == Value.none) = true then _ else _) _ _ s
  rw [if_neg (show ¬ ((Value.bytes b t == Value.none) = true) from Bool.false_ne_true)]
  show wpAny _ _ (field (.ref it) 1 >>= _) _ _ s
  refine wpAny_bind (wpAny_field ho hd (x := .int i 0) rfl ?_)
  refine wpAny_bind (wpAny_of_eq (a := b) rfl ?_)
  simp only [Int.toNat_natCast, hx]
  refine wpAny_bind (wpAny_setField ho hd (by simp) (wpAny_bind (wpAny_mkInt (wpAny_pure ⟨_, rfl, wpAny_pure (hQ _ ?_ (Heap.SameBut.update ..))⟩))))
  exact ⟨_, Heap.get?_update_self _ ho (Obj.isFreed_of_fields (Obj.data_mapFields hd _)), (Obj.cls_mapFields ..).trans hc, by
    rw [Obj.data_mapFields hd]; simp [rawInt]⟩
theorem nextB_end {it : Addr} {i : Nat} {Q : Value → Shared → Prop} (hh : A.handled = none) (hit : IsBytesIter s.heap it b t i) (hx : b[i]? = none)
    (hE : ∀ h' e, Heap.ExtBut it s.heap h' → (∃ o, h'.get? e = some o ∧ o.cls = .type "StopIteration") → E (.ref e) { s with heap := h' }) : wpAny (model prog w) A (Builtin.SmallTypes.nextOf (.ref it)) Q E s := by
  obtain ⟨o, ho, hc, hd⟩ := id hit
  unfold Builtin.SmallTypes.nextOf
  refine wpAny_bind (wpAny_callSpecial?_slot (name := PySem.Str.ofString "__next__") (iter_typeIs hit) slot_next (wpAny_call_entry slot_next (iter_typeIs hit) entry_next ?_ (args_next _)))
  show wpAny _ _ (field (.ref it) 0 >>= _) _ _ s
  refine wpAny_bind (wpAny_field ho hd (x := .bytes b t) rfl ?_)
  show wpAny _ _ (if (Value.bytes b t == Value.none) = true then _ else _) _ _ s
  rw [if_neg (show ¬ ((Value.bytes b t == Value.none) = true) from Bool.false_ne_true)]
  show wpAny _ _ (field (.ref it) 1 >>= _) _ _ s
  refine wpAny_bind (wpAny_field ho hd (x := .int i 0) rfl ?_)
  refine wpAny_bind (wpAny_of_eq (a := b) rfl ?_)
  simp only [Int.toNat_natCast, hx]
  refine wpAny_bind (wpAny_rule (wpAny_bind (wpAny_setField ho hd (by simp) ?_)))
  show wpAny _ _ (newExc (.type "StopIteration") [] >>= _) _ _ _
  refine wpAny_bind ?_
  simp only [newExc, newTuple]
  refine wpAny_bind (wpAny_newObj_type ?_ (by size_fits))
  refine wpAny_bind (m := firstArgMember _ _) (wpAny_of_eq (a := Value.none) (by first | rfl | (simp only [firstArgMember]; rfl)) ?_)
  refine wpAny_newObj_type ?_ (by size_fits)
  simp only [raiseNew]
  refine wpAny_bind (wpAny_handled ?_)
  first | rw [show A.in1.handled = none from hh] | rw [hh]
  refine wpAny_bind (wpAny_pure (wpAny_throw ?_))
  exact hE _ _ (((Heap.SameBut.update ..).extBut.push _).push _) ⟨_, Heap.get?_push_size _ rfl, rfl⟩
theorem meets_zipB (b1 b2 : Array UInt8) (t1 t2 : Tok) :
    Meets (Builtin.«zip.__new__» ⟨[.type "zip", .bytes b1 t1, .bytes b2 t2], []⟩) (fun _ R s =>
      R (.ok (.ret (.ref (zipB4 s.heap b1 b2 t1 t2).objs.size)))
        { s with heap := zipB5 s.heap b1 b2 t1 t2 }) :=
  .of_wp fun prog w A R s h => by
    obtain ⟨hp, g, d, tk, os⟩ := s
    have hsub := sub_zip
    wp_walk using pyIter_bytes
    exact ⟨_, rfl, h⟩
end
end
section
open KBw
structure ZipAp (z TI TO i1 i2 : Addr) : Prop where
  TIz : TI ≠ z
  TOz : TO ≠ z
  i1z : i1 ≠ z
  i2z : i2 ≠ z
  TITO : TI ≠ TO
  TIi1 : TI ≠ i1
  TIi2 : TI ≠ i2
  TOi1 : TO ≠ i1
  TOi2 : TO ≠ i2
  i12 : i1 ≠ i2
theorem bit_at {h h' : Heap} {a : Addr} {b : Array UInt8} {t : Tok} {i : Nat} (y : IsBytesIter h a b t i) (k : ∀ o, h.get? a = some o → h'.get? a = some o) : IsBytesIter h' a b t i :=
  let ⟨o, ho, r⟩ := y; ⟨o, k o ho, r⟩
section
variable {prog : Program} {w : World} {A : Around} {E : Value → Shared → Prop} {s : Shared} {b1 b2 : Array UInt8} {t1 t2 : Tok}
theorem zipB_item {z TI TO i1 i2 : Addr} {k : Nat} {x y : UInt8} {a b : Value} {Q : Value → Shared → Prop} (D : ZipAp z TI TO i1 i2)
    (hz : IsZip s.heap z TI TO .none) (hTI : IsPair s.heap TI (.ref i1) (.ref i2)) (hTO : IsPair s.heap TO a b)
    (h1 : IsBytesIter s.heap i1 b1 t1 k) (h2 : IsBytesIter s.heap i2 b2 t2 k) (hx : b1[k]? = some x) (hy : b2[k]? = some y)
    (hQ : ∀ h' u1 u2, IsZip h' z TI TO (rawInt s.heap.objs.size) → IsPair h' TO (.int x.toNat u1) (.int y.toNat u2) → IsBytesIter h' i1 b1 t1 (k + 1) → IsBytesIter h' i2 b2 t2 (k + 1) → IsPair h' s.heap.objs.size (.int x.toNat u1) (.int y.toNat u2) → h'.objs.size = s.heap.objs.size + 1 →
      (∀ c o, c ≠ z → c ≠ TO → c ≠ i1 → c ≠ i2 → s.heap.get? c = some o → h'.get? c = some o) → Q (.ref s.heap.objs.size) { s with heap := h', toks := s.toks + 1 + 1 }) :
    wpAny (model prog w) A (Builtin.«zip.__next__» ⟨[.ref z], []⟩) (fun fin s' => ∃ v, fin = .done (.ret v) ∧ Q v s') E s := by
  show wpAny _ _ (field (.ref z) 2 >>= _) _ _ _
  refine wpAny_bind (wpAny_field hz rfl (x := .bool false) rfl ?_)
  show wpAny _ _ (field (.ref z) 3 >>= _) _ _ _
  refine wpAny_bind (wpAny_field hz rfl (x := .ref TI) rfl ?_)
  refine wpAny_bind (wpAny_seqItems hTI rfl ?_)
  show wpAny _ _ (Builtin.SmallTypes.ownedTupleIsFree (.ref z) >>= _) _ _ _
  refine wpAny_bind ?_
  unfold Builtin.SmallTypes.ownedTupleIsFree
  refine wpAny_bind (wpAny_field hz rfl (x := .none) rfl (wpAny_pure ?_))
  simp only [if_true]
  refine wpAny_bind (wpAny_rule ?_)
  refine wpAny_bind (wpAny_field hz rfl (x := .ref TO) rfl ?_)
  refine wpAny_bind (wpAny_setField_rec hz (by simp) fun h₁ hz₁ hs₁ => ?_)
  replace hz₁ : IsZip h₁ z TI TO .ellipsis := hz₁
  refine wpAny_bind ?_
  simp only [List.zipIdx_cons, List.zipIdx_nil, List.forIn_cons, List.forIn_nil]
  refine wpAny_bind (wpAny_bind (wpAny_onRaise ?_))
  show wpAny _ _ (Builtin.SmallTypes.nextOf (.ref i1) >>= _) _ _ _
  refine wpAny_bind (nextB_item (bit_at h1 fun o e => hs₁.extBut _ o D.i1z e) hx fun h₂ h1₂ hs₂ => wpAny_pure ?_)
  have hTO₂ : IsPair h₂ TO a b := hs₂.extBut _ _ D.TOi1 (hs₁.extBut _ _ D.TOz hTO)
  refine wpAny_bind (wpAny_seqItems hTO₂ rfl ?_)
  refine wpAny_bind (wpAny_updateSeq_pair hTO₂ fun h₃ hTO₃ hs₃ => ?_)
  refine wpAny_bind (wpAny_letGo (wpAny_pure ?_))
  refine wpAny_bind (wpAny_bind (wpAny_onRaise ?_))
  show wpAny _ _ (Builtin.SmallTypes.nextOf (.ref i2) >>= _) _ _ _
  refine wpAny_bind (nextB_item (bit_at h2 fun o e => hs₃.extBut _ _ D.TOi2.symm (hs₂.extBut _ _ D.i12.symm (hs₁.extBut _ _ D.i2z e))) hy fun h₄ h2₄ hs₄ => wpAny_pure ?_)
  have hTO₄ : IsPair h₄ TO (.int x.toNat s.toks) b := hs₄.extBut _ _ D.TOi2 hTO₃
  refine wpAny_bind (wpAny_seqItems hTO₄ rfl ?_)
  refine wpAny_bind (wpAny_updateSeq_pair hTO₄ fun h₅ hTO₅ hs₅ => ?_)
  replace hTO₅ : IsPair h₅ TO (.int x.toNat s.toks) (.int y.toNat (s.toks + 1)) := hTO₅
  refine wpAny_bind (wpAny_letGo (wpAny_pure (wpAny_pure ?_)))
  refine wpAny_bind (wpAny_seqItems hTO₅ rfl ?_)
  refine wpAny_bind (wpAny_newTuple ?_)
  have hsz : h₅.objs.size = s.heap.objs.size := by rw [hs₅.1, hs₄.1, hs₃.1, hs₂.1, hs₁.1]
  have hz₅ : IsZip h₅ z TI TO .ellipsis := hs₅.extBut _ _ D.TOz.symm (hs₄.extBut _ _ D.i2z.symm (hs₃.extBut _ _ D.TOz.symm (hs₂.extBut _ _ D.i1z.symm hz₁)))
  have hk₅ : ∀ c o, c ≠ z → c ≠ TO → c ≠ i1 → c ≠ i2 → s.heap.get? c = some o → h₅.get? c = some o := fun c o c1 c2 c3 c4 e =>
    hs₅.extBut _ _ c2 (hs₄.extBut _ _ c4 (hs₃.extBut _ _ c2 (hs₂.extBut _ _ c3 (hs₁.extBut _ _ c1 e))))
  have h1₅ : IsBytesIter h₅ i1 b1 t1 (k + 1) := bit_at h1₂ fun o e => hs₅.extBut _ _ D.TOi1.symm (hs₄.extBut _ _ D.i12 (hs₃.extBut _ _ D.TOi1.symm e))
  have h2₅ : IsBytesIter h₅ i2 b2 t2 (k + 1) := bit_at h2₄ fun o e => hs₅.extBut _ _ D.TOi2.symm e
  have hzlt : z < h₅.objs.size := Heap.lt_size hz₅
  show wpAny _ _ (Builtin.SmallTypes.ownedTupleHandOut (.ref z) (.ref h₅.objs.size) >>= _) _ _ _
  refine wpAny_bind ?_
  unfold Builtin.SmallTypes.ownedTupleHandOut
  have hz₆ : IsZip (h₅.push { cls := .type "tuple", data := .seq #[.int x.toNat s.toks, .int y.toNat (s.toks + 1)] }) z TI TO .ellipsis := Heap.get?_push_of_some _ hz₅
  refine wpAny_bind (wpAny_setField_rec hz₆ (by simp) fun h₇ hz₇ hs₇ => ?_)
  replace hz₇ : IsZip h₇ z TI TO (rawInt h₅.objs.size) := hz₇
  refine wpAny_setField_rec hz₇ (by simp) fun h₈ hz₈ hs₈ => ?_
  replace hz₈ : IsZip h₈ z TI TO (rawInt h₅.objs.size) := hz₈
  have up : ∀ c o, c ≠ z → h₅.get? c = some o → h₈.get? c = some o := fun c o c1 e => hs₈.extBut _ _ c1 (hs₇.extBut _ _ c1 (Heap.get?_push_of_some _ e))
  have hT₈ : IsPair h₈ h₅.objs.size (.int x.toNat s.toks) (.int y.toNat (s.toks + 1)) := hs₈.extBut _ _ (Nat.ne_of_gt hzlt) (hs₇.extBut _ _ (Nat.ne_of_gt hzlt) (Heap.get?_push_size _ rfl))
  have hz8 : h₈.objs.size = h₅.objs.size + 1 := by rw [hs₈.1, hs₇.1, Heap.size_push]
  rw [hsz] at hz₈ hT₈ hz8
  refine wpAny_pure ⟨_, rfl, ?_⟩
  show Q (.ref h₅.objs.size) _
  rw [hsz]
  exact hQ h₈ _ _ hz₈ (up _ _ D.TOz hTO₅) (bit_at h1₅ fun o e => up _ o D.i1z e) (bit_at h2₅ fun o e => up _ o D.i2z e) hT₈ hz8 fun c o c1 c2 c3 c4 e => up c o c1 (hk₅ c o c1 c2 c3 c4 e)
theorem zipB_end {z TI TO i1 i2 : Addr} {k : Nat} {a b : Value} {Q : Fin → Shared → Prop} (hh : A.handled = none) (D : ZipAp z TI TO i1 i2)
    (hz : IsZip s.heap z TI TO .none) (hTI : IsPair s.heap TI (.ref i1) (.ref i2)) (hTO : IsPair s.heap TO a b)
    (h1 : IsBytesIter s.heap i1 b1 t1 k) (h2 : IsBytesIter s.heap i2 b2 t2 k) (hend : b1[k]? = none ∨ b2[k]? = none)
    (hE : ∀ h' tk e, (∀ c o, c ≠ z → c ≠ TO → c ≠ i1 → c ≠ i2 → s.heap.get? c = some o → h'.get? c = some o) → (∃ o, h'.get? e = some o ∧ o.cls = .type "StopIteration") → E (.ref e) { s with heap := h', toks := tk }) :
    wpAny (model prog w) A (Builtin.«zip.__next__» ⟨[.ref z], []⟩) Q E s := by
  show wpAny _ _ (field (.ref z) 2 >>= _) _ _ _
  refine wpAny_bind (wpAny_field hz rfl (x := .bool false) rfl ?_)
  show wpAny _ _ (field (.ref z) 3 >>= _) _ _ _
  refine wpAny_bind (wpAny_field hz rfl (x := .ref TI) rfl ?_)
  refine wpAny_bind (wpAny_seqItems hTI rfl ?_)
  show wpAny _ _ (Builtin.SmallTypes.ownedTupleIsFree (.ref z) >>= _) _ _ _
  refine wpAny_bind ?_
  unfold Builtin.SmallTypes.ownedTupleIsFree
  refine wpAny_bind (wpAny_field hz rfl (x := .none) rfl (wpAny_pure ?_))
  simp only [if_true]
  refine wpAny_bind (wpAny_rule ?_)
  refine wpAny_bind (wpAny_field hz rfl (x := .ref TO) rfl ?_)
  refine wpAny_bind (wpAny_setField_rec hz (by simp) fun h₁ hz₁ hs₁ => ?_)
  replace hz₁ : IsZip h₁ z TI TO .ellipsis := hz₁
  refine wpAny_bind ?_
  simp only [List.zipIdx_cons, List.zipIdx_nil, List.forIn_cons, List.forIn_nil]
  refine wpAny_bind (wpAny_bind (wpAny_onRaise ?_))
  show wpAny _ _ (Builtin.SmallTypes.nextOf (.ref i1) >>= _) _ _ _
  cases hx : b1[k]? with
  | none =>
    refine wpAny_bind (nextB_end hh (bit_at h1 fun o e => hs₁.extBut _ o D.i1z e) hx fun h₂ e hs₂ he => ?_)
    obtain ⟨oe, hoe, hce⟩ := he
    have hz₂ : IsZip h₂ z TI TO .ellipsis := hs₂ _ _ D.i1z.symm hz₁
    have hez : e ≠ z := fun x => by subst x; rw [hz₂] at hoe; cases hoe; simp at hce
    refine wpAny_setField_rec hz₂ (by simp) fun h₃ _ hs₃ => hE h₃ _ e (fun c o c1 _ c3 _ x => hs₃.extBut _ _ c1 (hs₂ _ _ c3 (hs₁.extBut _ _ c1 x))) ⟨oe, hs₃.extBut _ _ hez hoe, hce⟩
  | some x =>
    have hy : b2[k]? = none := by rcases hend with h | h; rw [hx] at h; cases h; exact h
    refine wpAny_bind (nextB_item (bit_at h1 fun o e => hs₁.extBut _ o D.i1z e) hx fun h₂ h1₂ hs₂ => wpAny_pure ?_)
    have hTO₂ : IsPair h₂ TO a b := hs₂.extBut _ _ D.TOi1 (hs₁.extBut _ _ D.TOz hTO)
    refine wpAny_bind (wpAny_seqItems hTO₂ rfl ?_)
    refine wpAny_bind (wpAny_updateSeq_pair hTO₂ fun h₃ hTO₃ hs₃ => ?_)
    refine wpAny_bind (wpAny_letGo (wpAny_pure ?_))
    refine wpAny_bind (wpAny_bind (wpAny_onRaise ?_))
    show wpAny _ _ (Builtin.SmallTypes.nextOf (.ref i2) >>= _) _ _ _
    refine wpAny_bind (nextB_end hh (bit_at h2 fun o e => hs₃.extBut _ _ D.TOi2.symm (hs₂.extBut _ _ D.i12.symm (hs₁.extBut _ _ D.i2z e))) hy fun h₄ e hs₄ he => ?_)
    obtain ⟨oe, hoe, hce⟩ := he
    have hz₄ : IsZip h₄ z TI TO .ellipsis := hs₄ _ _ D.i2z.symm (hs₃.extBut _ _ D.TOz.symm (hs₂.extBut _ _ D.i1z.symm hz₁))
    have hez : e ≠ z := fun x => by subst x; rw [hz₄] at hoe; cases hoe; simp at hce
    refine wpAny_setField_rec hz₄ (by simp) fun h₅ _ hs₅ => hE h₅ _ e (fun c o c1 c2 c3 c4 x => hs₅.extBut _ _ c1 (hs₄ _ _ c4 (hs₃.extBut _ _ c2 (hs₂.extBut _ _ c3 (hs₁.extBut _ _ c1 x))))) ⟨oe, hs₅.extBut _ _ hez hoe, hce⟩
theorem call_zipB {Q : Value → Shared → Prop}
    (h : ∀ h', IsZip h' (s.heap.objs.size + 4) (s.heap.objs.size + 2) (s.heap.objs.size + 3) .none → IsPair h' (s.heap.objs.size + 2) (.ref s.heap.objs.size) (.ref (s.heap.objs.size + 1)) →
      IsPair h' (s.heap.objs.size + 3) .none .none → IsBytesIter h' s.heap.objs.size b1 t1 0 → IsBytesIter h' (s.heap.objs.size + 1) b2 t2 0 → h'.objs.size = s.heap.objs.size + 5 →
      (∀ c o, s.heap.get? c = some o → h'.get? c = some o) → Q (.ref (s.heap.objs.size + 4)) { s with heap := h' }) :
    wpAny (model prog w) A (call (.type "zip") [.bytes b1 t1, .bytes b2 t2]) Q E s := by
  refine callType_new F.called_zip (by decide) (F.typeCall_zip_2 _ _) (F.newCall_zip_2 _ _) (fun obj => F.args_object_init_3 obj _ _) F.entry_zip_new
    (meets_zipB b1 b2 t1 t2) ?_
  have z1 : (zipB1 s.heap b1 t1).objs.size = s.heap.objs.size + 1 := Heap.size_push ..
  have z2 : (zipB2 s.heap b1 b2 t1 t2).objs.size = s.heap.objs.size + 2 := by rw [Heap.size_push, z1]
  have z3 : (zipB3 s.heap b1 b2 t1 t2).objs.size = s.heap.objs.size + 3 := by rw [Heap.size_push, z2]
  have z4 : (zipB4 s.heap b1 b2 t1 t2).objs.size = s.heap.objs.size + 4 := by rw [Heap.size_push, z3]
  have z5 : (zipB5 s.heap b1 b2 t1 t2).objs.size = s.heap.objs.size + 5 := by rw [Heap.size_push, z4]
  have g5 : (zipB5 s.heap b1 b2 t1 t2).get? (zipB4 s.heap b1 b2 t1 t2).objs.size = some _ := Heap.get?_push_size _ rfl
  have g4 : (zipB5 s.heap b1 b2 t1 t2).get? (zipB3 s.heap b1 b2 t1 t2).objs.size = some _ := Heap.get?_push_of_some _ (Heap.get?_push_size _ rfl)
  have g3 : (zipB5 s.heap b1 b2 t1 t2).get? (zipB2 s.heap b1 b2 t1 t2).objs.size = some _ := Heap.get?_push_of_some _ (Heap.get?_push_of_some _ (Heap.get?_push_size _ rfl))
  have g2 : (zipB5 s.heap b1 b2 t1 t2).get? (zipB1 s.heap b1 t1).objs.size = some _ := Heap.get?_push_of_some _ (Heap.get?_push_of_some _ (Heap.get?_push_of_some _ (Heap.get?_push_size _ rfl)))
  have g1 : (zipB5 s.heap b1 b2 t1 t2).get? s.heap.objs.size = some _ := Heap.get?_push_of_some _ (Heap.get?_push_of_some _ (Heap.get?_push_of_some _ (Heap.get?_push_of_some _ (Heap.get?_push_size _ rfl))))
  show _ ∧ _
  rw [z2, z3, z4] at g5
  rw [z1, z2] at g3
  rw [z3] at g4
  rw [z1] at g2
  rw [z4]
  exact ⟨⟨_, g5, rfl⟩, h _ g5 g3 g4 ⟨_, g1, rfl, rfl⟩ ⟨_, g2, rfl, rfl⟩ z5 fun c o x =>
    Heap.get?_push_of_some _ (Heap.get?_push_of_some _ (Heap.get?_push_of_some _ (Heap.get?_push_of_some _ (Heap.get?_push_of_some _ x))))⟩
theorem walks_zipB (hh : A.handled = none) (z TI TO i1 i2 : Addr) (D : ZipAp z TI TO i1 i2) :
    WalksT prog w A z [z, TI, TO, i1, i2] [z, TO, i1, i2] (min b1.size b2.size)
      (fun i vals => ∃ x y u1 u2, b1[i]? = some x ∧ b2[i]? = some y ∧ vals = #[.int (x.toNat : Int) u1, .int (y.toNat : Int) u2])
      (fun i h => IsZip h z TI TO .none ∧ IsPair h TI (.ref i1) (.ref i2) ∧ (∃ a b, IsPair h TO a b) ∧ IsBytesIter h i1 b1 t1 i ∧ IsBytesIter h i2 b2 t2 i)
      (fun i T h => IsZip h z TI TO (rawInt T) ∧ IsPair h TI (.ref i1) (.ref i2) ∧ (∃ a b, IsPair h TO a b) ∧ IsBytesIter h i1 b1 t1 (i + 1) ∧ IsBytesIter h i2 b2 t2 (i + 1) ∧
        T ≠ z ∧ T ≠ TO ∧ T ≠ i1 ∧ T ≠ i2) where
  sub := fun c hc => by simp at hc ⊢; rcases hc with rfl | rfl | rfl | rfl <;> simp
  frame := fun i h h' hst hk => by
    obtain ⟨hz, hTI, ⟨a, b, hTO⟩, h1, h2⟩ := hst
    exact ⟨hk z (by simp) _ hz, hk TI (by simp) _ hTI, ⟨a, b, hk TO (by simp) _ hTO⟩, bit_at h1 fun o e => hk i1 (by simp) o e, bit_at h2 fun o e => hk i2 (by simp) o e⟩
  item := fun i s Q E hi hst hQ => by
    obtain ⟨hz, hTI, ⟨a, b, hTO⟩, h1, h2⟩ := hst
    have hix : i < b1.size := Nat.lt_of_lt_of_le hi (Nat.min_le_left ..)
    have hiy : i < b2.size := Nat.lt_of_lt_of_le hi (Nat.min_le_right ..)
    have hT : s.TypeIs (.ref z) "zip" := ⟨_, hz, rfl⟩
    unfold pyNext
    refine wpAny_bind (wpAny_attempt (wpAny_callSpecial?_slot (name := Str.ofString "__next__") hT F.slot_zip_next
      (wpAny_call_entry F.slot_zip_next hT F.entry_zip_next
        (zipB_item D hz hTI hTO h1 h2 (Array.getElem?_eq_getElem hix) (Array.getElem?_eq_getElem hiy) fun h' u1 u2 a1 a2 a3 a4 a5 a6 hk => wpAny_pure ?_) (F.args_zip_next_1 _))))
    have lt : ∀ {c o}, s.heap.get? c = some o → s.heap.objs.size ≠ c := fun e => Nat.ne_of_gt (Heap.lt_size e)
    exact hQ s.heap.objs.size #[.int (b1[i].toNat : Int) u1, .int (b2[i].toNat : Int) u2] h' _ ⟨_, _, _, _, Array.getElem?_eq_getElem hix, Array.getElem?_eq_getElem hiy, rfl⟩ (Nat.le_refl _) ⟨_, a5, rfl, _, rfl⟩
      ⟨a1, hk _ _ D.TIz D.TITO D.TIi1 D.TIi2 hTI, ⟨_, _, a2⟩, a3, a4,
        lt hz, lt hTO, (by obtain ⟨_, e, _⟩ := h1; exact lt e), (by obtain ⟨_, e, _⟩ := h2; exact lt e)⟩
      fun c o hc e => hk c o (fun x => hc (by simp [x])) (fun x => hc (by simp [x])) (fun x => hc (by simp [x])) (fun x => hc (by simp [x])) e
  go := fun elts k pos i T s Q E hm hQ => by
    obtain ⟨hz, hTI, ⟨a, b, hTO⟩, h1, h2, _⟩ := hm
    refine wpAny_letOwnedTupleGo_zip hz fun h' hz' hs' => hQ h' ⟨hz', hs'.extBut _ _ D.TIz hTI, ⟨a, b, hs'.extBut _ _ D.TOz hTO⟩, bit_at h1 fun o e => hs'.extBut _ o D.i1z e, bit_at h2 fun o e => hs'.extBut _ o D.i2z e⟩ fun c o hc e => hs'.extBut _ _ (fun x => hc (by simp [x])) e
  apart := fun i T h hm hT => by
    obtain ⟨_, _, _, _, _, t1, t2, t3, t4⟩ := hm
    simp at hT
    rcases hT with rfl | rfl | rfl | rfl
    · exact t1 rfl
    · exact t2 rfl
    · exact t3 rfl
    · exact t4 rfl
  done := fun s Q E hst hQ => by
    obtain ⟨hz, hTI, ⟨a, b, hTO⟩, h1, h2⟩ := hst
    have hend : b1[min b1.size b2.size]? = none ∨ b2[min b1.size b2.size]? = none := by
      rcases Nat.le_total b1.size b2.size with h | h
      · exact .inl (by rw [Nat.min_eq_left h]; exact Array.getElem?_eq_none (Nat.le_refl _))
      · exact .inr (by rw [Nat.min_eq_right h]; exact Array.getElem?_eq_none (Nat.le_refl _))
    have hT : s.TypeIs (.ref z) "zip" := ⟨_, hz, rfl⟩
    unfold pyNext
    refine wpAny_bind (wpAny_attempt (wpAny_callSpecial?_slot (name := Str.ofString "__next__") hT F.slot_zip_next
      (wpAny_call_entry F.slot_zip_next hT F.entry_zip_next (zipB_end hh D hz hTI hTO h1 h2 hend fun h' tk e hk he => ?_) (F.args_zip_next_1 _))))
    obtain ⟨o, ho, hc⟩ := he
    refine wpAny_bind (wpAny_isInstance (T := "StopIteration") (b := true) ⟨o, ho, hc⟩ isSubtype_stop ?_)
    exact wpAny_pure (hQ h' _ fun c o hc e => hk c o (fun x => hc (by simp [x])) (fun x => hc (by simp [x])) (fun x => hc (by simp [x])) (fun x => hc (by simp [x])) e)
  self := fun i s Q E hst hQ => wpAny_pyIter_zip hst.1 hQ
end
end
section
section
variable {prog : Program} {w : World} {A : Around} {R : Result → Shared → Prop} {s : Shared}
theorem gloop {elt target iter : Expr} {ifs : List Expr} {scope : Scope} {pos : Pos} {it acc : Value} {env : Env} (I : Nat → Shared → Prop)
    (turn : ∀ n s, I n s → wpAny (model prog w) A (pyNext it) (fun r s₁ => match r with
      | none => R (.ok .next) s₁
      | some v => wpAny (model prog w) A (letOwnedTupleGo target it v) (fun _ s₁ => wpAny (model prog w) A (assign target env v) (fun _ s₂ =>
          wpAny (model prog w) A (forIn ifs true fun c r => if r = true then do let ok ← isTrue c env (eval c env); pure (ForInStep.yield ok) else pure (ForInStep.yield r)) (fun ok s₃ =>
            if ok = true then wpAny (model prog w) A (eval elt env) (fun x s₄ =>
              wpAny (model prog w) A (call (.builtin "list.append") [acc, x]) (fun _ s₅ => ∃ m, m < n ∧ I m s₅) (notedBy (model prog w) A env fun e s' => R (.error e) s') s₄) (notedBy (model prog w) A env fun e s' => R (.error e) s') s₃
            else ∃ m, m < n ∧ I m s₃) (notedBy (model prog w) A env fun e s' => R (.error e) s') s₂) (notedBy (model prog w) A env fun e s' => R (.error e) s') s₁) (notedBy (model prog w) A env fun e s' => R (.error e) s') s₁) (notedBy (model prog w) A env fun e s' => R (.error e) s') s)
    (n : Nat) (h : I n s) :
    codeAny (model prog w) A (.compLoop (.ListComp elt [⟨target, iter, ifs, 0⟩] scope pos) 0 it acc env) R s := by
  refine codeAny_loop rfl I (fun n s hI => ?_) n h
  show wpAny _ A ((compTurn (.ListComp elt [⟨target, iter, ifs, 0⟩] scope pos) 0 it acc env).onRaise (fun x => do noteFrame x env; theTreesLotGoes x)) _ _ s
  refine wpAny_noted ?_
  rw [compTurn_list]
  refine wpAny_bind (wpAny_standAt (wpAny_bind (wpAny_mono (turn n s hI) (fun r s₁ h₁ => ?_) fun _ _ h' => h')))
  cases r with
  | none => exact wpAny_pure h₁
  | some v =>
    refine wpAny_bind (wpAny_mono h₁ (fun _ s₁' h₁' => ?_) fun _ _ h' => h')
    refine wpAny_bind (wpAny_mono h₁' (fun _ s₂ h₂ => wpAny_bind (wpAny_mono h₂ (fun ok s₃ h₃ => ?_) fun _ _ h' => h')) fun _ _ h' => h')
    cases ok with
    | false => exact wpAny_pure ⟨rfl, h₃⟩
    | true =>
      exact wpAny_bind (wpAny_bind (wpAny_mono h₃ (fun x s₄ h₄ => wpAny_bind (wpAny_mono h₄ (fun _ s₅ h₅ => wpAny_pure (wpAny_pure ⟨rfl, h₅⟩)) fun _ _ h' => h')) fun _ _ h' => h'))
end
/-- after the tests of one turn of a comprehension -/
noncomputable def GElt (prog : Program) (w : World) (A : Around) (h₀ : Heap) (L : Addr) (m : Str → Option Value) (cenv : Env) (elt : Expr) (all : List (Addr × Obj)) (Gy : List Value → Prop) (ys : List Value) (s : Shared) (E : Value → Shared → Prop) (ok : Bool) (s₃ : Shared) : Prop :=
  ∃ h' tk', s₃ = { s with heap := h', toks := tk' } ∧ Fr h₀ L h' m ∧ News h₀ L h' all ∧
    if ok = true then wpAny (model prog w) A (eval elt cenv) (fun x s₄ => ∃ h'' tk'', s₄ = { s with heap := h'', toks := tk'' } ∧ Fr h₀ L h'' m ∧ News h₀ L h'' all ∧ Gy (ys ++ [x])) E s₃ else Gy ys
section
variable {prog : Program} {w : World} {A : Around} {E : Value → Shared → Prop} {h₀ : Heap} {L : Addr} {m : Str → Option Value} {env : Env}
theorem gc_core {elt target iter : Expr} {ifs : List Expr} {scope : Scope} {cl : List (Str × Addr)} {pos : Pos} {s₂ : Shared} {I : Addr} {fp wr : List Addr} {n : Nat} {Pv Md : Nat → Value → Heap → Prop} {St : Nat → Heap → Prop} {news : List (Addr × Obj)} {RR : Value → Addr → Result → Shared → Prop}
    (W : KTurns prog w A target I fp wr n Pv Md St) (self : ∀ (Q : Value → Shared → Prop) E s, St 0 s.heap → Q (.ref I) s → wpAny (model prog w) A (pyIter (.ref I)) Q E s)
    (B : Nat → (Str → Option Value) → Prop) (G : Nat → List Value → Prop) (hG : ∀ i ys, G i ys → ys.length ≤ i) (hG0 : G 0 []) (hsz : n ≤ sizeLine)
    (hcell : ∀ y ∈ scope.names, y.2 ≠ .cell) (hkind : scope.kind = .function) (hst : St 0 s₂.heap) (hfp : ∀ b ∈ fp, b < s₂.heap.objs.size)
    (F : Fr h₀ L s₂.heap m) (N : News h₀ L s₂.heap news) (hLf : L ∉ fp) (hwr : ∀ b ∈ wr, h₀.get? b = none) (off : ∀ p ∈ news, p.1 ∉ fp)
    (asg : ∀ i v C m₂ s (Q : Unit → Shared → Prop) E, Pv i v s.heap → s.heap.Ns C m₂ → (∀ h' tk m₃, h'.Ns C m₃ → (∀ b o, b ≠ C → s.heap.get? b = some o → h'.get? b = some o) → B i m₃ → Q () { s with heap := h', toks := tk }) → wpAny (model prog w) A (assign target (compEnvC scope cl C env) v) Q E s)
    (turn : ∀ i m₂ C oC D ys own h tk (E' : Value → Shared → Prop), i < n → G i ys → B i m₂ → LCg.NsObj oC m₂ → OwnOff own (C :: D :: news.map (·.1)) → (@Ne Nat C D) → Fr h₀ L h m → News h₀ L h (((C, oC) :: (D, lst ys) :: news) ++ own) →
      wpAny (model prog w) A (forIn ifs true fun c r => if r = true then do let ok ← isTrue c (compEnvC scope cl C env) (eval c (compEnvC scope cl C env)); pure (ForInStep.yield ok) else pure (ForInStep.yield r))
        (GElt prog w A h₀ L m (compEnvC scope cl C env) elt (((C, oC) :: (D, lst ys) :: news) ++ own) (G (i + 1)) ys { s₂ with heap := h, toks := tk } E') E' { s₂ with heap := h, toks := tk })
    (hRR : ∀ D C h tk m' ys, Fr h₀ L h m → News h₀ L h ((D, lst ys) :: news) → h.Ns C m' → h₀.get? C = none → h₀.get? D = none → C ≠ L → D ≠ L → C ≠ D → (∀ p ∈ news, p.1 ≠ C ∧ p.1 ≠ D) → G n ys → RR (.ref D) C (.ok .next) { s₂ with heap := h, toks := tk }) :
    wpAny (model prog w) A (newList []) (fun acc s₃ => wpAny (model prog w) A (newFunctionEnv scope env.globals cl [] env.qual none .none (some env)) (fun cenv s₄ =>
      codeAny (model prog w) A (.compStart (.ListComp elt [⟨target, iter, ifs, 0⟩] scope pos) 0 (.ref I) acc { cenv with scope := relabel scope env }) (RR acc cenv.locals) s₄) E s₃) E s₂ := by
  refine wpAny_newObj_type (wpAny_newFunctionEnv hcell (by intro y hy; simp at hy) (fun h₁ hns₁ hsb₁ => ?_) hkind)
  dsimp only at hns₁ hsb₁ ⊢
  generalize hH2 : s₂.heap.push { cls := .type "list", dict := none, data := .seq ([] : List Value).toArray } = H2 at hns₁ hsb₁ ⊢
  have hC : H2.objs.size = s₂.heap.objs.size + 1 := by rw [← hH2, Heap.size_push]
  have hDC : s₂.heap.objs.size ≠ H2.objs.size := by rw [hC]; exact Nat.ne_of_lt (Nat.lt_succ_self _)
  have below : ∀ b, b < s₂.heap.objs.size → b ≠ H2.objs.size ∧ b ≠ s₂.heap.objs.size := fun b hb => ⟨by rw [hC]; exact Nat.ne_of_lt (Nat.lt_succ_of_lt hb), Nat.ne_of_lt hb⟩
  have hDf : s₂.heap.objs.size ∉ fp := fun hm => Nat.lt_irrefl _ (hfp _ hm)
  have hCf : H2.objs.size ∉ fp := fun hm => by have := hfp _ hm; rw [hC] at this; exact Nat.lt_irrefl _ (Nat.lt_of_succ_lt this)
  have old : ∀ b o, s₂.heap.get? b = some o → h₁.get? b = some o := fun b o e => hsb₁.extBut b o (below b (Heap.lt_size e)).1 (Heap.get?_push_of_some _ (hH2 ▸ Heap.get?_push_of_some _ e))
  have hacc : h₁.get? s₂.heap.objs.size = some (lst []) := hsb₁.extBut _ _ hDC (Heap.get?_push_of_some _ (hH2 ▸ Heap.get?_push_size _ rfl))
  have hst₁ : St 0 h₁ := W.frame _ _ _ hst fun b _ o e => old b o e
  have fresh₀ : ∀ a, s₂.heap.objs.size ≤ a → h₀.get? a = none := fun a ha => by
    cases e : h₀.get? a with
    | none => rfl
    | some o' => exact absurd (Heap.lt_size (F.keep a o' e)) (Nat.not_lt.mpr ha)
  have hD₀ : h₀.get? s₂.heap.objs.size = none := fresh₀ _ (Nat.le_refl _)
  have hC₀ : h₀.get? H2.objs.size = none := fresh₀ _ (by rw [hC]; exact Nat.le_succ _)
  have hLlt : L < s₂.heap.objs.size := F.ns.lt
  have hDL : s₂.heap.objs.size ≠ L := Ne.symm (below L hLlt).2
  have hCL : H2.objs.size ≠ L := Ne.symm (below L hLlt).1
  have hLw : L ∉ wr := fun h => hLf (W.sub _ h)
  have offn : ∀ p ∈ news, p.1 ≠ H2.objs.size ∧ p.1 ≠ s₂.heap.objs.size := fun p hp => below _ (Heap.lt_size (N p hp).1)
  have hCw : H2.objs.size ∉ wr := fun h => hCf (W.sub _ h)
  have hDw : s₂.heap.objs.size ∉ wr := fun h => hDf (W.sub _ h)
  have next : ∀ {h' h₁ : Heap} {ys : List Value}, Fr h₀ L h' m → News h₀ L h' ((s₂.heap.objs.size, lst ys) :: news) → (∀ b o, b ∉ wr → h'.get? b = some o → h₁.get? b = some o) → Fr h₀ L h₁ m ∧ News h₀ L h₁ ((s₂.heap.objs.size, lst ys) :: news) := fun F' N' hk₁ =>
    ⟨⟨F'.ns.at' fun o e => hk₁ _ o hLw e, fun b o e => hk₁ b o (fun hb => by rw [hwr b hb] at e; cases e) (F'.keep b o e), F'.above⟩, fun p hp => ⟨hk₁ _ _ (by
      rcases List.mem_cons.mp hp with rfl | hp
      · exact hDw
      · exact fun hb => off p hp (W.sub _ hb)) (N' p hp).1, (N' p hp).2⟩⟩
  have loop : ∀ s₃ : Shared, s₃ = { s₂ with heap := h₁, toks := s₂.toks + ([] : List (Str × Value)).length } →
      codeAny (model prog w) A (.compLoop (.ListComp elt [⟨target, iter, ifs, 0⟩] scope pos) 0 (.ref I) (.ref s₂.heap.objs.size) (compEnvC scope cl H2.objs.size env))
        (RR (.ref s₂.heap.objs.size) H2.objs.size) s₃ := by
    rintro s₃ rfl
    refine gloop
      (fun k s' => ∃ h' tk i ys m', s' = { s₂ with heap := h', toks := tk } ∧ i ≤ n ∧ k = n + 1 - i ∧ G i ys ∧ St i h' ∧ Fr h₀ L h' m ∧ h'.Ns H2.objs.size m' ∧ News h₀ L h' ((s₂.heap.objs.size, lst ys) :: news)) ?_ (n + 1)
      ⟨h₁, _, 0, [], _, rfl, Nat.zero_le _, rfl, hG0, hst₁, F.keeps old, hns₁, fun p hp => ?_⟩
    · rintro k s' ⟨h', tk, i, ys, m', rfl, hi, rfl, hGi, hst', F', hn', N'⟩
      by_cases hlt : i < n
      · refine W.item i _ _ _ hlt hst' fun v h₂ tk₂ hMd hk₂ => ?_
        refine W.go i v _ _ _ hMd fun h₃ hP hst₃ hk₃ => ?_
        obtain ⟨F₃, N₃⟩ := next F' N' (h₁ := h₃) fun b o hb e => hk₃ b o hb (hk₂ b o hb e)
        refine asg i v H2.objs.size m' _ _ _ hP (hn'.at' fun o e => hk₃ _ o hCw (hk₂ _ o hCw e)) fun h₄ tk₄ m₃ hn₄ hk₄ hB => ?_
        obtain ⟨oC, heC, hoC⟩ := LCg.ns_obj hn₄
        have hst₄ : St (i + 1) h₄ := W.frame _ _ _ hst₃ fun b hb o e => hk₄ b o (fun q => hCf (q ▸ hb)) e
        have F₄ : Fr h₀ L h₄ m := ⟨F₃.ns.at' fun o e => hk₄ _ o (Ne.symm hCL) e, fun b o e => hk₄ b o (fun q => by rw [q, hC₀] at e; cases e) (F₃.keep b o e), F₃.above⟩
        have No : News h₀ L h₄ (PyProof.Rows.ownOf h₀ fp h₄) := news_ownOf hLf
        have N₄ : News h₀ L h₄ (((H2.objs.size, oC) :: (s₂.heap.objs.size, lst ys) :: news) ++ PyProof.Rows.ownOf h₀ fp h₄) := fun p hp => by
          rcases List.mem_append.mp hp with hp | hp
          · rcases List.mem_cons.mp hp with rfl | hp
            · exact ⟨heC, hCL, hC₀⟩
            · refine ⟨hk₄ _ _ ?_ (N₃ p hp).1, (N₃ p hp).2⟩
              rcases List.mem_cons.mp hp with rfl | hp
              · exact hDC
              · exact (offn p hp).1
          · exact No p hp
        have hoff : OwnOff (PyProof.Rows.ownOf h₀ fp h₄) (H2.objs.size :: s₂.heap.objs.size :: news.map (·.1)) := fun p hp b hb e => by
          have hpf := ownOf_sub p hp
          rcases List.mem_cons.mp hb with rfl | hb
          · exact hCf (e ▸ hpf)
          rcases List.mem_cons.mp hb with rfl | hb
          · exact hDf (e ▸ hpf)
          · obtain ⟨q, hq, e'⟩ := List.mem_map.mp hb
            exact off q hq (e' ▸ e ▸ hpf)
        have own : ∀ {h₅ : Heap}, Fr h₀ L h₅ m → News h₀ L h₅ (((H2.objs.size, oC) :: (s₂.heap.objs.size, lst ys) :: news) ++ PyProof.Rows.ownOf h₀ fp h₄) → St (i + 1) h₅ ∧ h₅.Ns H2.objs.size m₃ ∧ News h₀ L h₅ ((s₂.heap.objs.size, lst ys) :: news) := fun F₅ N₅ =>
          ⟨W.frame _ _ _ hst₄ fun b hb o e => by
            cases hz : h₀.get? b with
            | some o₀ =>
              have : o₀ = o := by have q := F₄.keep b o₀ hz; rw [e] at q; exact (Option.some.inj q).symm
              exact this ▸ F₅.keep b o₀ hz
            | none => exact (N₅ _ (List.mem_append_right _ (mem_ownOf hb hz e))).1,
           hoC.ns (N₅ _ (List.mem_append_left _ List.mem_cons_self)).1, fun p hp => N₅ p (List.mem_append_left _ (List.mem_cons_of_mem _ hp))⟩
        refine wpAny_mono (turn i m₃ H2.objs.size oC s₂.heap.objs.size ys _ h₄ tk₄ _ hlt hGi hB hoC hoff (Ne.symm hDC) F₄ N₄) (fun ok s₅ h₅ => ?_) fun _ _ e => e
        obtain ⟨h₅, tk₅, rfl, F₅, N₅, h₅⟩ := h₅
        cases ok with
        | false =>
          obtain ⟨q1, q2, q3⟩ := own F₅ N₅
          exact ⟨n + 1 - (i + 1), by omega, _, _, i + 1, ys, _, rfl, hlt, rfl, h₅, q1, F₅, q2, q3⟩
        | true =>
          rw [if_pos rfl]
          rw [if_pos rfl] at h₅
          refine wpAny_mono h₅ (fun x s₆ h₆ => ?_) fun _ _ e => e
          obtain ⟨h₆, tk₆, rfl, F₆, N₆, hG'⟩ := h₆
          obtain ⟨q1, q2, q3⟩ := own F₆ N₆
          have zD := (q3 _ List.mem_cons_self).1
          refine append_at (hsz := by show ys.toArray.size ≤ sizeLine; rw [List.size_toArray]; exact Nat.le_trans (hG i ys hGi) (Nat.le_trans hi hsz)) zD fun h₇ hs₇ hD₇ => ?_
          refine ⟨n + 1 - (i + 1), by omega, h₇, tk₆, i + 1, ys ++ [x], _, rfl, hlt, rfl, hG', W.frame _ _ _ q1 fun b hb o e => hs₇.extBut b o (fun q => hDf (q ▸ hb)) e, F₆.change hs₇ hDL hD₀, q2.sameBut hs₇ (Ne.symm hDC), fun p hp => ?_⟩
          rcases List.mem_cons.mp hp with rfl | hp
          · exact ⟨hD₇.trans (congrArg some (LCg.lst_snoc ys x)), hDL, hD₀⟩
          · exact ⟨hs₇.extBut _ _ (offn p hp).2 (q3 p (List.mem_cons_of_mem _ hp)).1, (q3 p (List.mem_cons_of_mem _ hp)).2⟩
      · obtain rfl : i = n := Nat.le_antisymm hi (Nat.not_lt.mp hlt)
        refine W.done _ _ _ hst' fun h₂ tk₂ hk₂ => ?_
        obtain ⟨F₂, N₂⟩ := next F' N' (h₁ := h₂) hk₂
        exact hRR _ _ h₂ tk₂ _ ys F₂ N₂ (hn'.at' fun o e => hk₂ _ o hCw e) hC₀ hD₀ hCL hDL (Ne.symm hDC) offn hGi
    · rcases List.mem_cons.mp hp with rfl | hp
      · exact ⟨hacc, hDL, hD₀⟩
      · exact ⟨old _ _ (N p hp).1, (N p hp).2⟩
  exact codeAny_compStart_list (loop _ rfl) (self _ _ _ hst₁ (loop _ rfl))
end
end
section
theorem zipAp_of (n : Nat) : ZipAp (n + 4) (n + 2) (n + 3) n (n + 1) := by constructor <;> (show ¬ (_ : Nat) = _; omega)
theorem zip_far {a n : Nat} (h : a < n) : ¬ a ∈ [n + 4, n + 2, n + 3, n, n + 1] := fun hb => by
  have hb' : a = n + 4 ∨ a = n + 2 ∨ a = n + 3 ∨ a = n ∨ a = n + 1 := by simpa using hb
  omega
theorem zip_lt {b n : Nat} (hb : b ∈ [n + 4, n + 2, n + 3, n, n + 1]) : b < n + 5 := by
  have hb' : b = n + 4 ∨ b = n + 2 ∨ b = n + 3 ∨ b = n ∨ b = n + 1 := by simpa using hb
  omega
section
variable {prog : Program} {w : World} {A : Around} {E : Value → Shared → Prop} {s : Shared} {h₀ : Heap} {m : Str → Option Value} {env : Env}
theorem asn_comp {elt : Expr} {target iter : Expr} {ifs : List Expr} {y : Str} {py : Pos} {scope : Scope} {cl : List (Str × Addr)} {pos spos : Pos} {Q : Flow → Shared → Prop}
    (hsw : swapsWith (.ListComp elt [⟨target, iter, ifs, 0⟩] scope pos) (some (.Name y py)) spos.line env = pure true)
    (hclos : closureFor scope env = pure cl) (hkind : scope.kind = .function)
    (hnames : ∀ z ∈ scope.names, z.2 = .local → scope.names.lookup z.1 = some .local)
    (h : wpAny (model prog w) A (eval iter env) (fun xv s₁ => wpAny (model prog w) A (pyIter xv) (fun it s₂ => wpAny (model prog w) A (newList []) (fun acc s₃ => wpAny (model prog w) A (newFunctionEnv scope env.globals cl [] env.qual none .none (some env)) (fun cenv s₄ =>
      codeAny (model prog w) A (.compStart (.ListComp elt [⟨target, iter, ifs, 0⟩] scope pos) 0 it acc { cenv with scope := relabel scope env }) (compPost (model prog w) A E (some (assign (.Name y py) env)) (fun _ s' => Q .next s') acc cenv.locals) s₄) E s₃) E s₂) E s₁) E s)
    (hs : ∀ x, foldedSetIterable iter env x = pure x := by intro _; rfl) :
    wpAny (model prog w) A (exec (.Assign [.Name y py] (.ListComp elt [⟨target, iter, ifs, 0⟩] scope pos) spos) env) Q E s := by
  rw [exec_Assign_Name_used _ _ _ _ hsw]
  refine wpAny_bind (wpAny_standAt (wpAny_bind ?_))
  show wpAny _ A (do let _ ← comprehension (.ListComp elt [⟨target, iter, ifs, 0⟩] scope pos) scope env _ (newList []) false (eval iter env) (some (assign (.Name y py) env))) _ _ s
  exact wpAny_bind (wpAny_mono (wpAny_comprehension_free (use := some (assign (.Name y py) env)) (Q := fun _ s' => Q .next s') rfl hs hclos hkind hnames h) (fun _ _ h => wpAny_pure (wpAny_pure h)) fun _ _ e => e)
noncomputable def In16 (v : Value) : Prop := ∃ n t, v = .int n t ∧ 0 ≤ n ∧ n < 65536
theorem ev_comp {elt target iter : Expr} {ifs : List Expr} {scope : Scope} {cl : List (Str × Addr)} {pos : Pos} {Q : Value → Shared → Prop}
    (hclos : closureFor scope env = pure cl) (hkind : scope.kind = .function)
    (hnames : ∀ z ∈ scope.names, z.2 = .local → scope.names.lookup z.1 = some .local)
    (h : wpAny (model prog w) A (eval iter env) (fun xv s₁ => wpAny (model prog w) A (pyIter xv) (fun it s₂ => wpAny (model prog w) A (newList []) (fun acc s₃ => wpAny (model prog w) A (newFunctionEnv scope env.globals cl [] env.qual none .none (some env)) (fun cenv s₄ =>
      codeAny (model prog w) A (.compStart (.ListComp elt [⟨target, iter, ifs, 0⟩] scope pos) 0 it acc { cenv with scope := relabel scope env }) (compPost (model prog w) A E none Q acc cenv.locals) s₄) E s₃) E s₂) E s₁) E s)
    (hs : ∀ x, foldedSetIterable iter env x = pure x := by intro _; rfl) :
    wpAny (model prog w) A (eval (.ListComp elt [⟨target, iter, ifs, 0⟩] scope pos) env) Q E s := by
  rw [eval_ListComp]
  exact wpAny_comprehension_free (use := none) rfl hs hclos hkind hnames h
theorem in16_of : ∀ {ys : List Value} {xs : List Int}, IntsAre ys xs → (∀ x ∈ xs, 0 ≤ x ∧ x < 65536) → ∀ v ∈ ys, In16 v := fun h => by
  induction h with
  | nil => intro _ v hv; cases hv
  | cons n t _ ih =>
    intro hx v hv
    rcases List.mem_cons.mp hv with rfl | hv
    · exact ⟨n, t, rfl, hx n List.mem_cons_self⟩
    · exact ih (fun x hx' => hx x (List.mem_cons_of_mem _ hx')) v hv
theorem pair_asg {x y : Str} {p1 p2 tp : Pos} {k : Nat} {cenv : Env} {T : Addr} {a b : Value} {m₂ : Str → Option Value} {Q : Unit → Shared → Prop} (hh : A.handled = none) (hT : s.heap.IsTuple T #[a, b]) (hn : s.heap.Ns cenv.locals m₂)
    (hx : cenv.kindOf x = some .local) (hy : cenv.kindOf y = some .local) (hk : (cenv.scope.kind == .class || (cenv.scope.kind == .module && cenv.locals != cenv.globals)) = false)
    (h : ∀ h' tk, h'.Ns cenv.locals (fun z => if z = y then some b else if z = x then some a else m₂ z) → (∀ c o, c ≠ cenv.locals → s.heap.get? c = some o → h'.get? c = some o) → Q () { s with heap := h', toks := tk }) :
    wpAny (model prog w) A (assign (.Tuple [.Name x p1, .Name y p2] k tp) cenv (.ref T)) Q E s := by
  refine wpAny_assign_Tuple hh hT rfl rfl fun h₁ he₁ => ?_
  have hlt : ∀ c o, s.heap.get? c = some o → h₁.get? c = some o := fun c o e => he₁ c o (Nat.ne_of_lt (Heap.lt_size e)) e
  show wpAny _ _ (assignInOrder [assign (.Name x p1) cenv, assign (.Name y p2) cenv] [a, b]) _ _ _
  refine assignInOrder_cons (wpAny_assign_Name (wpAny_storeName_local hx (hn.at' fun o e => hlt _ o e) (fun h₂ hn₂ hs₂ => ?_) hk))
  refine assignInOrder_cons (wpAny_assign_Name (wpAny_storeName_local hy hn₂ (fun h₃ hn₃ hs₃ => ?_) hk))
  exact assignInOrder_nil (h h₃ _ hn₃ fun c o hc e => hs₃.extBut c o hc (hs₂.extBut c o hc (hlt c o e)))
theorem ints16 : ∀ {ys : List Value}, (∀ v ∈ ys, In16 v) → ∃ xs, IntsAre ys xs ∧ ∀ x ∈ xs, 0 ≤ x ∧ x < 65536
  | [], _ => ⟨[], .nil, fun x hx => nomatch hx⟩
  | y :: r, h => by
    obtain ⟨n, t, rfl, h0, h1⟩ := h y List.mem_cons_self
    obtain ⟨xs, a, b⟩ := ints16 (ys := r) fun v hv => h v (List.mem_cons_of_mem _ hv)
    exact ⟨n :: xs, .cons _ _ a, fun x hx => by
      rcases List.mem_cons.mp hx with rfl | hx
      · exact ⟨h0, h1⟩
      · exact b x hx⟩
/-- z = [elt for x, y in zip(b1, b2)] -/
theorem gsrc_zip {elt iter : Expr} {x y z : Str} {p1 p2 tp pz pos : Pos} {k : Nat} {scope : Scope} {cl : List (Str × Addr)} {b1 b2 : Array UInt8} {t1 t2 : Tok} {news : List (Addr × Obj)} {hs : Heap} {tks : Nat} {Q : Shared → Prop}
    (hh : A.handled = none) (F : Fr h₀ env.locals hs m) (N : News h₀ env.locals hs news) (hsz : b1.size ≤ 1001)
    (hcell : ∀ y ∈ scope.names, y.2 ≠ .cell) (hkind : scope.kind = .function) (hx : scope.names.lookup x = some .local) (hy : scope.names.lookup y = some .local) (hne : x ≠ y)
    (hz : env.kindOf z = some .local) (hzp : (env.scope.kind == .class || (env.scope.kind == .module && env.locals != env.globals)) = false)
    (turn : ∀ (a b : Int) u1 u2 m₂ C oC D ys own h tk (E' : Value → Shared → Prop), 0 ≤ a → a < 256 → 0 ≤ b → b < 256 → m₂ x = some (.int a u1) → m₂ y = some (.int b u2) → LCg.NsObj oC m₂ → OwnOff own (C :: D :: news.map (·.1)) → (@Ne Nat C D) → Fr h₀ env.locals h m → News h₀ env.locals h (((C, oC) :: (D, lst ys) :: news) ++ own) →
      wpAny (model prog w) A (eval elt (compEnvC scope cl C env)) (fun v s₄ => ∃ h' tk', s₄ = { s with heap := h', toks := tk' } ∧ Fr h₀ env.locals h' m ∧ News h₀ env.locals h' (((C, oC) :: (D, lst ys) :: news) ++ own) ∧ In16 v) E' { s with heap := h, toks := tk })
    (fin : ∀ D h tk ys, ys.length ≤ 1001 → (∀ v ∈ ys, In16 v) → Fr h₀ env.locals h (fun q => if q = z then some (.ref D) else m q) → News h₀ env.locals h ((D, lst ys) :: news) → Q { s with heap := h, toks := tk }) :
    wpAny (model prog w) A (call (.type "zip") [.bytes b1 t1, .bytes b2 t2]) (fun xv s₁ => wpAny (model prog w) A (pyIter xv) (fun it s₂ => wpAny (model prog w) A (newList []) (fun acc s₃ => wpAny (model prog w) A (newFunctionEnv scope env.globals cl [] env.qual none .none (some env)) (fun cenv s₄ =>
      codeAny (model prog w) A (.compStart (.ListComp elt [⟨.Tuple [.Name x p1, .Name y p2] k tp, iter, [], 0⟩] scope pos) 0 it acc { cenv with scope := relabel scope env }) (compPost (model prog w) A E (some (assign (.Name z pz) env)) (fun _ s' => Q s') acc cenv.locals) s₄) E s₃) E s₂) E s₁) E { s with heap := hs, toks := tks } := by
  have hLs : env.locals < hs.objs.size := F.ns.lt
  refine call_zipB fun h' hz' hTI hTO hi1 hi2 hsz' hk => ?_
  have D := zipAp_of hs.objs.size
  refine wpAny_pyIter_zip hz' ?_
  have W := walks_zipB (prog := prog) (w := w) (b1 := b1) (b2 := b2) (t1 := t1) (t2 := t2) hh _ _ _ _ _ D
  refine gc_core (L := env.locals) (RR := fun acc C => compPost (model prog w) A E (some (assign (.Name z pz) env)) (fun _ s' => Q s') acc C) (s₂ := { s with heap := h', toks := tks }) (KTurns.ofWalksU W.toU) (fun Q E s st hq => W.self 0 s Q E st hq)
    (fun _ m₂ => ∃ (a b : Int) (u1 u2 : Tok), 0 ≤ a ∧ a < 256 ∧ 0 ≤ b ∧ b < 256 ∧ m₂ x = some (.int a u1) ∧ m₂ y = some (.int b u2)) (fun i ys => ys.length ≤ i ∧ ∀ v ∈ ys, In16 v) (fun _ _ h => h.1) ⟨Nat.le_refl _, fun v hv => nomatch hv⟩ ?_ hcell hkind ⟨hz', hTI, ⟨_, _, hTO⟩, hi1, hi2⟩ ?_ (F.keeps hk) (News.grown N hk) ?_ ?_ ?_ ?_ ?_ ?_
  · exact Nat.le_trans (Nat.min_le_left ..) (Nat.le_trans hsz (by rw [sizeLine_eq]; decide))
  · intro b hb
    show b < h'.objs.size
    rw [hsz']
    exact zip_lt hb
  · exact zip_far hLs
  · intro b hb
    have hb' : b = hs.objs.size + 4 ∨ b = hs.objs.size + 3 ∨ b = hs.objs.size ∨ b = hs.objs.size + 1 := by simpa using hb
    rcases hb' with rfl | rfl | rfl | rfl
    · exact ktu_new F (Nat.le_add_right _ _)
    · exact ktu_new F (Nat.le_add_right _ _)
    · exact ktu_new F (Nat.le_refl _)
    · exact ktu_new F (Nat.le_add_right _ _)
  · intro p hp
    exact zip_far (Heap.lt_size (N p hp).1)
  · rintro i v C m₂ s Q E ⟨T, vals, rfl, ⟨c1, c2, u1, u2, e1, e2, rfl⟩, hT⟩ hn hq
    refine pair_asg (cenv := compEnvC scope cl C env) hh hT hn (lookup_relabel_local hx) (lookup_relabel_local hy) (by simp [compEnvC, relabel, hkind]) fun h₃ tk₃ hn₃ hk₃ => ?_
    refine hq h₃ tk₃ _ hn₃ hk₃ ⟨(c1.toNat : Int), (c2.toNat : Int), u1, u2, Int.natCast_nonneg _, ?_, Int.natCast_nonneg _, ?_, ?_, if_pos rfl⟩
    · have := c1.toNat_lt; omega
    · have := c2.toNat_lt; omega
    · rw [if_neg hne, if_pos rfl]
  · rintro i m₂ C oC D ys own h tk E' hi hG ⟨a, b, u1, u2, a0, a1, b0, b1, hx', hy'⟩ hC hoff hCD F' N'
    refine wpAny_tests_nil ⟨h, tk, rfl, F', N', ?_⟩
    rw [if_pos rfl]
    refine wpAny_mono (turn a b u1 u2 m₂ C oC D ys own h tk E' a0 a1 b0 b1 hx' hy' hC hoff hCD F' N') (fun v s₄ h₄ => ?_) fun _ _ e => e
    obtain ⟨h₄, tk₄, rfl, F₄, N₄, hv⟩ := h₄
    refine ⟨h₄, tk₄, rfl, F₄, N₄, ?_, fun u hu => ?_⟩
    · rw [List.length_append, List.length_singleton]; exact Nat.succ_le_succ hG.1
    · rcases List.mem_append.mp hu with hu | hu
      · exact hG.2 u hu
      · rw [List.mem_singleton.mp hu]; exact hv
  · intro D C h tk m' ys F' N' hn hC₀ hD₀ hCL hDL hCD offn hG
    show wpAny _ _ (assign (.Name z pz) env (.ref D)) _ _ _
    refine wpAny_assign_Name (wpAny_storeName_local hz F'.ns (fun h₃ hn₃ hs₃ => ?_) hzp)
    refine ⟨m', hn.at' fun o e => hs₃.extBut _ o hCL e, fun h₄ hs₄ => fin D h₄ _ ys (Nat.le_trans hG.1 (Nat.le_trans (Nat.min_le_left ..) hsz)) hG.2 ?_ fun p hp => ?_⟩
    · have hL₀ : ∀ b o, h₀.get? b = some o → b ≠ env.locals := fun b o e q => absurd (Heap.lt_size e) (Nat.not_lt.mpr (q ▸ F'.above))
      exact ⟨hn₃.at' fun o e => hs₄.extBut _ o (Ne.symm hCL) e, fun b o e => hs₄.extBut b o (fun q => by rw [q, hC₀] at e; cases e) (hs₃.extBut b o (hL₀ b o e) (F'.keep b o e)), F'.above⟩
    · refine ⟨hs₄.extBut _ _ ?_ (hs₃.extBut _ _ (N' p hp).2.1 (N' p hp).1), (N' p hp).2⟩
      rcases List.mem_cons.mp hp with rfl | hp
      · exact Ne.symm hCD
      · exact (offn p hp).1
/-- [elt for x in l if c] where no item passes -/
theorem gsrc_none {elt iter c : Expr} {x : Str} {px pos : Pos} {scope : Scope} {cl : List (Str × Addr)} {l : Addr} {vs : List Value} {nn : Nat} {news : List (Addr × Obj)} {hs : Heap} {tks : Nat} {L : Addr} {Q : Value → Shared → Prop}
    (hh : A.handled = none) (F : Fr h₀ L hs m) (N : News h₀ L hs news) (hm : (l, PySem.W.listOf vs.toArray nn) ∈ news) (hsz : vs.length ≤ sizeLine) (hin : ∀ v ∈ vs, In16 v)
    (hcell : ∀ y ∈ scope.names, y.2 ≠ .cell) (hkind : scope.kind = .function) (hx : scope.names.lookup x = some .local)
    (turn : ∀ (n : Int) t m₂ C oC D own h tk (E' : Value → Shared → Prop), 0 ≤ n → n < 65536 → m₂ x = some (.int n t) → LCg.NsObj oC m₂ → OwnOff own [C, D] → (@Ne Nat C D) → Fr h₀ L h m → News h₀ L h ((C, oC) :: (D, lst []) :: own) →
      wpAny (model prog w) A (isTrue c (compEnvC scope cl C env) (eval c (compEnvC scope cl C env))) (fun ok s₄ => ok = false ∧ ∃ h' tk', s₄ = { s with heap := h', toks := tk' } ∧ Fr h₀ L h' m ∧ News h₀ L h' ((C, oC) :: (D, lst []) :: own)) E' { s with heap := h, toks := tk })
    (fin : ∀ D h tk, Fr h₀ L h m → News h₀ L h [(D, lst [])] → Q (.ref D) { s with heap := h, toks := tk }) :
    wpAny (model prog w) A (pyIter (.ref l)) (fun it s₂ => wpAny (model prog w) A (newList []) (fun acc s₃ => wpAny (model prog w) A (newFunctionEnv scope env.globals cl [] env.qual none .none (some env)) (fun cenv s₄ =>
      codeAny (model prog w) A (.compStart (.ListComp elt [⟨.Name x px, iter, [c], 0⟩] scope pos) 0 it acc { cenv with scope := relabel scope env }) (compPost (model prog w) A E none Q acc cenv.locals) s₄) E s₃) E s₂) E { s with heap := hs, toks := tks } := by
  have hl : hs.IsList l vs.toArray := PySem.IsL.isList (N _ hm).1
  have hlt : l < hs.objs.size := Heap.lt_size (N _ hm).1
  refine wpAny_pyIter_list hl ?_
  have W := Walks.list (prog := prog) (w := w) hh hs.objs.size l (Nat.ne_of_lt hlt) vs.toArray
  refine gc_core (L := L) (news := []) (RR := fun acc C => compPost (model prog w) A E none Q acc C) (s₂ := { s with heap := hs.push { cls := .type "list_iterator", data := .fields #[.ref l, .int 0 0] }, toks := tks }) (KTurns.ofWalks W fun i v s Q E st q => letGo_listiter st.1 q) (fun Q E s st hq => W.self 0 s Q E st hq)
    (fun _ m₂ => ∃ (n : Int) (t : Tok), 0 ≤ n ∧ n < 65536 ∧ m₂ x = some (.int n t)) (fun _ ys => ys = []) (fun _ _ h => by rw [h]; exact Nat.zero_le _) rfl (by rw [List.size_toArray]; exact hsz) hcell hkind ⟨⟨_, Heap.get?_push_size _ rfl, rfl, rfl⟩, hl.push _⟩ ?_ (F.push _) (fun p hp => nomatch hp) ?_ ?_ (fun p hp => nomatch hp) ?_ ?_ ?_
  · intro b hb
    show b < (hs.push _).objs.size
    rw [Heap.size_push]
    rcases List.mem_cons.mp hb with rfl | hb
    · exact Nat.lt_succ_self _
    · rw [List.mem_singleton.mp hb]; exact Nat.lt_succ_of_lt hlt
  · intro hb
    rcases List.mem_cons.mp hb with e | hb
    · exact absurd F.ns.lt (e ▸ Nat.lt_irrefl _)
    · exact (N _ hm).2.1 (List.mem_singleton.mp hb).symm
  · intro b hb
    rw [List.mem_singleton.mp hb]
    exact next_is_new F
  · rintro i v C m₂ s Q E hP hn hq
    refine wpAny_assign_Name (wpAny_storeName_local (env := compEnvC scope cl C env) (lookup_relabel_local hx) hn (fun h₃ hn₃ hs₃ => ?_) (by simp [compEnvC, relabel, hkind]))
    have hv : v ∈ vs := by
      have : vs.toArray[i]? = some v := hP
      rw [List.getElem?_toArray] at this
      exact List.mem_of_getElem? this
    obtain ⟨n, t, rfl, h0, h1⟩ := hin v hv
    exact hq h₃ _ _ hn₃ (fun b o hb e => hs₃.extBut b o hb e) ⟨n, t, h0, h1, if_pos rfl⟩
  · rintro i m₂ C oC D ys own h tk E' hi rfl ⟨n, t, h0, h1, hx'⟩ hC hoff hCD F' N'
    refine wpAny_tests_one (wpAny_mono (turn n t m₂ C oC D own h tk E' h0 h1 hx' hC hoff hCD F' N') (fun ok s₄ h₄ => ?_) fun _ _ e => e)
    obtain ⟨rfl, h₄, tk₄, rfl, F₄, N₄⟩ := h₄
    exact ⟨h₄, tk₄, rfl, F₄, N₄, rfl⟩
  · intro D C h tk m' ys F' N' hn hC₀ hD₀ hCL hDL hCD offn hG
    subst hG
    refine ⟨m', hn, fun h'' hs'' => fin D h'' tk (F'.change hs'' hCL hC₀) (fun p hp => ?_)⟩
    refine ⟨hs''.extBut _ _ ?_ (N' p hp).1, (N' p hp).2⟩
    rw [List.mem_singleton.mp hp]
    exact Ne.symm hCD
end
end
section
theorem fill_once : Mine.hd.heap_39 = Mine.hd.heap_39 ∧ PySem.Challenge.rw_kq0060_01 = PySem.Challenge.rw_kq0060_01 := by k_fill; exact ⟨rfl, rfl⟩
local macro_rules | `(tactic| walk_at $s:str) => do `(tactic| k_extra $(Lean.Syntax.mkStrLit ("m " ++ s.getString)))
theorem w_F1_0 : True := by
  k_with_none
  k_with "tb_start" => (first | (refine' code_defG ?qqk1 ?qqk2 ?qqk3 ?qqk4 ?qqk5 ?qqkA ?qqkF ?qqkK ?qqk6 ?qqk7 ?qqk8 ?qqk9 ?qqkB ?_ ?qqc2 ?qqc3 ?qqc4 ?qqc5; (case qqkA => exact rfl); (case qqkF => exact rfl); (case qqkK => first | exact rfl | assumption); (case qqk1 => k_asm); (case qqk2 => k_asm); (case qqk3 => k_asm); (case qqk4 => k_asm); (case qqk5 => k_asm); (case qqk6 => k_is); (case qqk7 => k_is); (case qqk8 => ktr_room); (case qqk9 => first | exact BindsTo.of_eq rfl | exact binds_K (by k_in) rfl (by k_is) rfl rfl rfl); (case qqc5 => decide); (case qqkB => exact locs rfl); (case qqc2 => exact rfl); (case qqc3 => exact rfl); (case qqc4 => exact rfl); k_whole; intro gz' Lz' hz' FGz' Fz' Nz' Bz' Xz' Tz' kGz'; (try dsimp only); (try k_lift Bz'); (try k_fold)) | (refine' enterC ?qqk1 ?qqk2 ?qqk3 ?qqk4 ?qqk5 ?qqkA ?qqkF ?qqkK ?qqk6 ?qqk7 ?qqk8 ?qqk9 ?qqkB ?qqkD ?_ ?qqc2 ?qqc3 ?qqc4; (case qqkA => exact rfl); (case qqkF => exact rfl); (case qqkK => first | exact rfl | assumption); (case qqk1 => k_asm); (case qqk2 => k_asm); (case qqk3 => k_asm); (case qqk4 => k_asm); (case qqk5 => k_asm); (case qqk6 => k_is); (case qqk7 => k_is); (case qqk8 => ktr_room); (case qqk9 => first | exact BindsTo.of_eq rfl | exact binds_K (by k_in) rfl (by k_is) rfl rfl rfl); (case qqkB => exact rfl); (case qqkD => decide +kernel); (case qqc2 => exact rfl); (case qqc3 => exact rfl); (case qqc4 => exact rfl); k_whole; intro gz' Lz' hz' tkz' cellsz' FGz' Fz' Nz' Yz' Bz' Xz' Tz' l1z kGz'; (try k_lt l1z); k_cells Yz'; (try simp only [List.cons_append, List.nil_append] at Nz'); (try dsimp only); (try k_lift Bz'); (try k_fold)))
  k_with "m call ref" => (k_here; k_dflt (refine wpAny_call ?_; k_extra "tb_start"))
  k_with "m call type:type" => (k_here; (with_reducible show wpAny _ _ (call (Value.type "type") [Value.bytes _ _]) _ _ _); refine call_type_of (PySem.W.typeIs_bytes _ _ _) (by decide +kernel) ?_)
  k_with "m call type:type" => (k_here; (with_reducible show wpAny _ _ (call (Value.type "type") [Value.bool _]) _ _ _); refine call_type_of (Tx := "bool") rfl (by decide +kernel) ?_)
  k_with "m pyIter ref" => ((with_reducible show wpAny _ _ (pyIter (Value.ref _)) (fun it s₂ => LoopAtV _ _ _ _ _ _ _ _ _ it s₂) _ _); k_here; refine Held.mk ?_)
  k_with "m subscriptTail" => (k_here; (with_reducible show wpAny _ _ (subscriptTail _ _ (Value.bytes _ _) (Value.int _ _)) _ _ _); k_dflt (refine' by_item ?qqz ?qqa ?qqb ?_; (case qqz => assumption); (case qqa => first | assumption | omega); (case qqb => first | assumption | omega); k_whole); intro t9z)
  k_with "m setItem ref int" => (k_here; (with_reducible show wpAny _ _ (setItem (Value.ref _) (Value.int _ _) (Value.int _ _)) _ _ _); k_dflt (refine' ba_setU ?qqk1 ?qqk2 ?qqk3 ?qqk4 ?qqk5 ?qqk6 ?qqk7 ?qqk8 ?_; (case qqk1 => k_asm); (case qqk2 => k_asm); (case qqk3 => first | (refine' Upd.head ?_; assumption) | k_upd); (case qqk4 => first | assumption | omega); (case qqk5 => first | assumption | omega); (case qqk6 => first | assumption | omega); (case qqk7 => omega); (case qqk8 => exact_mod_cast UInt8.toNat_lt _); k_whole); intro hz' Fz' Nz'; (try k_sweep))
  k_with "m call type:bytes" => (k_here; (with_reducible show wpAny _ _ (call (Value.type "bytes") [Value.ref _]) _ _ _); (rename News _ _ _ _ => nEz); refine' ba_bytes (And.left (nEz (_, baObj _) ?qqm)) ?qqz ?_; (case qqm => exact .head _); (case qqz => omega); intro t9z k9z; (try dsimp only))
  k_with "bits" => (repeat' (first | (k_unfold; (try dsimp only)) | (goal_lacks InvEndN Held; k_end; wrow_close) | walk1 | (dsimp only; walk1) | (leave1; walk_say "STEP leave1"; try dsimp only) | fail "no step"))
  k_with "m InvEndN" => (refine Held.mk ?_)
  k_with "m eval ListComp" => (k_here; refine Held.mk ?_)
  trivial
section
theorem b64v_spec (w : World) (c : Int) (t : Tok) : Spec 10 w 173 [.int c t] [] [] (RInt (b64v c)) := by
  unfold Spec; intros; rename_i hret
  refine wpAny_call ?_
  k_dflt k_extra "tb_start"
  k_extra "bits"
  all_goals (refine hret _ _ _ (back0 (by assumption) (by assumption)) (exI ?_); unfold b64v; (repeat' split) <;> omega)
theorem ifmt_spec (w : World) (x : Int) (t : Tok) (h0 : 0 ≤ x) (h1 : x < 65536) : Spec 10 w 35 [.int x t] [] [] (RInt (x / 4096 * 4096)) := by
  unfold Spec; intros; rename_i hret
  refine wpAny_call ?_
  k_dflt k_extra "tb_start"
  k_extra "bits"
  all_goals (refine hret _ _ _ (back0 (by assumption) (by assumption)) (exI ?_); rw [and_hi]; omega)
theorem imode_spec (w : World) (x : Int) (t : Tok) : Spec 10 w 28 [.int x t] [] [] (RInt (x % 4096)) := by
  unfold Spec; intros; rename_i hret
  refine wpAny_call ?_
  k_dflt k_extra "tb_start"
  k_extra "bits"
  all_goals (refine hret _ _ _ (back0 (by assumption) (by assumption)) (exI ?_); exact kbt_mask x 12)
theorem w_F1_1 : True := by
  k_with "m call ref" => (k_here; k_dflt ( (refine' Spec.use (ifmt_spec _ _ _ ?qqp1 ?qqp2) ?qqk1 ?qqk2 ?qqk3 ?qqk4 ?qqk5 ?qqk6 ?qqk7 ?qqk8 ?qqk9 ?_); (case qqk1 => k_asm); (case qqk2 => k_asm); (case qqk3 => k_asm); (case qqk4 => k_asm); (case qqk5 => k_asm); (case qqk6 => first | exact rfl | assumption); (case qqk7 => ktr_room); (case qqk8 => ktr_units); (case qqk9 => (intro p9z h9z; nomatch h9z)); (case qqp1 => l_fact); (case qqp2 => l_fact); intro v9z h9z tk9z F9z N9z K9z hR9z; obtain ⟨t9z, e2z⟩ := hR9z; subst e2z; (try clear K9z); (try dsimp only); (try k_fold)))
  trivial
theorem isK {x k m : Int} (_h : 0 ≤ x) (hm : m = k * 4096) : Value.bool (x / 4096 * 4096 == m) = Value.bool (x / 4096 == k) := by
  congr 1; rw [Bool.eq_iff_iff]; simp only [beq_iff_eq]; omega
theorem isdir_spec (w : World) (x : Int) (t : Tok) (h0 : 0 ≤ x) (h1 : x < 65536) : Spec 20 w 42 [.int x t] [] [] (RBool (x / 4096 == 4)) := by
  unfold Spec; intros; rename_i hret
  refine wpAny_call ?_
  k_dflt k_extra "tb_start"
  k_extra "bits"
  exact hret _ _ _ (back0 (by assumption) (by assumption)) (isK h0 rfl)
theorem ischr_spec (w : World) (x : Int) (t : Tok) (h0 : 0 ≤ x) (h1 : x < 65536) : Spec 20 w 49 [.int x t] [] [] (RBool (x / 4096 == 2)) := by
  unfold Spec; intros; rename_i hret
  refine wpAny_call ?_
  k_dflt k_extra "tb_start"
  k_extra "bits"
  exact hret _ _ _ (back0 (by assumption) (by assumption)) (isK h0 rfl)
theorem isblk_spec (w : World) (x : Int) (t : Tok) (h0 : 0 ≤ x) (h1 : x < 65536) : Spec 20 w 56 [.int x t] [] [] (RBool (x / 4096 == 6)) := by
  unfold Spec; intros; rename_i hret
  refine wpAny_call ?_
  k_dflt k_extra "tb_start"
  k_extra "bits"
  exact hret _ _ _ (back0 (by assumption) (by assumption)) (isK h0 rfl)
theorem isreg_spec (w : World) (x : Int) (t : Tok) (h0 : 0 ≤ x) (h1 : x < 65536) : Spec 20 w 63 [.int x t] [] [] (RBool (x / 4096 == 8)) := by
  unfold Spec; intros; rename_i hret
  refine wpAny_call ?_
  k_dflt k_extra "tb_start"
  k_extra "bits"
  exact hret _ _ _ (back0 (by assumption) (by assumption)) (isK h0 rfl)
theorem isfifo_spec (w : World) (x : Int) (t : Tok) (h0 : 0 ≤ x) (h1 : x < 65536) : Spec 20 w 70 [.int x t] [] [] (RBool (x / 4096 == 1)) := by
  unfold Spec; intros; rename_i hret
  refine wpAny_call ?_
  k_dflt k_extra "tb_start"
  k_extra "bits"
  exact hret _ _ _ (back0 (by assumption) (by assumption)) (isK h0 rfl)
theorem islnk_spec (w : World) (x : Int) (t : Tok) (h0 : 0 ≤ x) (h1 : x < 65536) : Spec 20 w 77 [.int x t] [] [] (RBool (x / 4096 == 10)) := by
  unfold Spec; intros; rename_i hret
  refine wpAny_call ?_
  k_dflt k_extra "tb_start"
  k_extra "bits"
  exact hret _ _ _ (back0 (by assumption) (by assumption)) (isK h0 rfl)
theorem issock_spec (w : World) (x : Int) (t : Tok) (h0 : 0 ≤ x) (h1 : x < 65536) : Spec 20 w 84 [.int x t] [] [] (RBool (x / 4096 == 12)) := by
  unfold Spec; intros; rename_i hret
  refine wpAny_call ?_
  k_dflt k_extra "tb_start"
  k_extra "bits"
  exact hret _ _ _ (back0 (by assumption) (by assumption)) (isK h0 rfl)
end
theorem w_F6_0 : True := by
  k_with_none
  k_with "tb_start" => (first | (refine' code_defG ?qqk1 ?qqk2 ?qqk3 ?qqk4 ?qqk5 ?qqkA ?qqkF ?qqkK ?qqk6 ?qqk7 ?qqk8 ?qqk9 ?qqkB ?_ ?qqc2 ?qqc3 ?qqc4 ?qqc5; (case qqkA => exact rfl); (case qqkF => exact rfl); (case qqkK => first | exact rfl | assumption); (case qqk1 => k_asm); (case qqk2 => k_asm); (case qqk3 => k_asm); (case qqk4 => k_asm); (case qqk5 => k_asm); (case qqk6 => k_is); (case qqk7 => k_is); (case qqk8 => ktr_room); (case qqk9 => first | exact BindsTo.of_eq rfl | exact binds_K (by k_in) rfl (by k_is) rfl rfl rfl); (case qqc5 => decide); (case qqkB => exact locs rfl); (case qqc2 => exact rfl); (case qqc3 => exact rfl); (case qqc4 => exact rfl); k_whole; intro gz' Lz' hz' FGz' Fz' Nz' Bz' Xz' Tz' kGz'; (try dsimp only); (try k_lift Bz'); (try k_fold)) | (refine' enterC ?qqk1 ?qqk2 ?qqk3 ?qqk4 ?qqk5 ?qqkA ?qqkF ?qqkK ?qqk6 ?qqk7 ?qqk8 ?qqk9 ?qqkB ?qqkD ?_ ?qqc2 ?qqc3 ?qqc4; (case qqkA => exact rfl); (case qqkF => exact rfl); (case qqkK => first | exact rfl | assumption); (case qqk1 => k_asm); (case qqk2 => k_asm); (case qqk3 => k_asm); (case qqk4 => k_asm); (case qqk5 => k_asm); (case qqk6 => k_is); (case qqk7 => k_is); (case qqk8 => ktr_room); (case qqk9 => first | exact BindsTo.of_eq rfl | exact binds_K (by k_in) rfl (by k_is) rfl rfl rfl); (case qqkB => exact rfl); (case qqkD => decide +kernel); (case qqc2 => exact rfl); (case qqc3 => exact rfl); (case qqc4 => exact rfl); k_whole; intro gz' Lz' hz' tkz' cellsz' FGz' Fz' Nz' Yz' Bz' Xz' Tz' l1z kGz'; (try k_lt l1z); k_cells Yz'; (try simp only [List.cons_append, List.nil_append] at Nz'); (try dsimp only); (try k_lift Bz'); (try k_fold)))
  k_with "m call ref" => (k_here; k_dflt (refine wpAny_call ?_; k_extra "tb_start"))
  k_with "m call type:type" => (k_here; (with_reducible show wpAny _ _ (call (Value.type "type") [Value.bytes _ _]) _ _ _); refine call_type_of (PySem.W.typeIs_bytes _ _ _) (by decide +kernel) ?_)
  k_with "m call type:type" => (k_here; (with_reducible show wpAny _ _ (call (Value.type "type") [Value.bool _]) _ _ _); refine call_type_of (Tx := "bool") rfl (by decide +kernel) ?_)
  k_with "m pyIter ref" => ((with_reducible show wpAny _ _ (pyIter (Value.ref _)) (fun it s₂ => LoopAtV _ _ _ _ _ _ _ _ _ it s₂) _ _); k_here; refine Held.mk ?_)
  k_with "m subscriptTail" => (k_here; (with_reducible show wpAny _ _ (subscriptTail _ _ (Value.bytes _ _) (Value.int _ _)) _ _ _); k_dflt (refine' by_item ?qqz ?qqa ?qqb ?_; (case qqz => assumption); (case qqa => first | assumption | omega); (case qqb => first | assumption | omega); k_whole); intro t9z)
  k_with "m setItem ref int" => (k_here; (with_reducible show wpAny _ _ (setItem (Value.ref _) (Value.int _ _) (Value.int _ _)) _ _ _); k_dflt (refine' ba_setU ?qqk1 ?qqk2 ?qqk3 ?qqk4 ?qqk5 ?qqk6 ?qqk7 ?qqk8 ?_; (case qqk1 => k_asm); (case qqk2 => k_asm); (case qqk3 => first | (refine' Upd.head ?_; assumption) | k_upd); (case qqk4 => first | assumption | omega); (case qqk5 => first | assumption | omega); (case qqk6 => first | assumption | omega); (case qqk7 => omega); (case qqk8 => exact_mod_cast UInt8.toNat_lt _); k_whole); intro hz' Fz' Nz'; (try k_sweep))
  k_with "m call type:bytes" => (k_here; (with_reducible show wpAny _ _ (call (Value.type "bytes") [Value.ref _]) _ _ _); (rename News _ _ _ _ => nEz); refine' ba_bytes (And.left (nEz (_, baObj _) ?qqm)) ?qqz ?_; (case qqm => exact .head _); (case qqz => omega); intro t9z k9z; (try dsimp only))
  k_with "bits" => (repeat' (first | (k_unfold; (try dsimp only)) | (goal_lacks InvEndN Held; k_end; wrow_close) | walk1 | (dsimp only; walk1) | (leave1; walk_say "STEP leave1"; try dsimp only) | fail "no step"))
  k_with "m InvEndN" => (refine Held.mk ?_)
  k_with "m eval ListComp" => (k_here; refine Held.mk ?_)
  trivial
section
theorem b64_item {prog : Program} {w : World} {A : Around} {E : Value → Shared → Prop} {s : Shared} {x : List UInt8} {i : Int} {t ui : Tok} {value slice : Expr} {Q : Value → Shared → Prop}
    (hx : (x.length = 64 ∧ ∀ n, n < 64 → (((x.getD n 0).toNat : Nat) : Int) = bL n)) (h0 : 0 ≤ i ∧ i < 64) (h : Q (.int (bL i) s.toks) { s with toks := s.toks + 1 })
    (hs : subscripted slice false (.bytes x.toArray t) (.int i ui) = operate [.bytes x.toArray t, .int i ui] (getItem (.bytes x.toArray t) (.int i ui)) := by with_unfolding_all rfl)
    (ht : ∀ r, letTemporaryGo value (.bytes x.toArray t) r = pure () := by intro _; with_unfolding_all rfl) : wpAny (model prog w) A (subscriptTail value slice (.bytes x.toArray t) (.int i ui)) Q E s :=
  bytes_item_K (k := bL i) (by rw [hx.1]; decide) h0.1 (by rw [hx.1]; omega) (by have := hx.2 i.toNat (by omega); rw [this]; congr 1; omega) h hs ht
/-- the encoder's turn -/
noncomputable def encStep (c : List Int × Int × Int) (b : Int) : List Int × Int × Int :=
  if c.2.1 = 0 then (c.1 ++ [bL ((c.2.2 * 256 + b) % 65536 / 4 % 64)], 2, (c.2.2 * 256 + b) % 65536)
  else if c.2.1 = 2 then (c.1 ++ [bL ((c.2.2 * 256 + b) % 65536 / 16 % 64)], 4, (c.2.2 * 256 + b) % 65536)
  else ((c.1 ++ [bL ((c.2.2 * 256 + b) % 65536 / 64 % 64)]) ++ [bL ((c.2.2 * 256 + b) % 65536 % 64)], 0, (c.2.2 * 256 + b) % 65536)
noncomputable def encFin (c : List Int × Int × Int) : List Int :=
  if c.2.1 = 2 then ((c.1 ++ [bL (c.2.2 % 4 * 16)]) ++ [61]) ++ [61] else if c.2.1 = 4 then (c.1 ++ [bL (c.2.2 % 16 * 4)]) ++ [61] else c.1
noncomputable def enc (xs : List Int) : List Int := encFin (xs.foldl encStep ([], 0, 0))
structure S2 where
  vs : List Value
  n : Nat
  xs : List Int
  lb : Int
  t1 : Tok
  lc : Int
  t2 : Tok
noncomputable abbrev ledB (o : Addr) (c : S2) : List (Addr × Obj) := [(o, PySem.W.listOf c.vs.toArray c.n)]
noncomputable abbrev psB (c : S2) : List (Str × Value) := [(Str.ofString "leftbits", .int c.lb c.t1), (Str.ofString "leftchar", .int c.lc c.t2)]
noncomputable abbrev faB (c : S2) : Prop := IntsAre c.vs c.xs
noncomputable def invB (pre : List Int) (c : S2) : Prop := ((c.xs, c.lb, c.lc) : List Int × Int × Int) = pre.foldl encStep ([], 0, 0) ∧ (c.lb = 0 ∨ c.lb = 2 ∨ c.lb = 4) ∧ 0 ≤ c.lc ∧ c.lc < 65536 ∧ c.xs.length ≤ 2 * pre.length ∧ ∀ x ∈ c.xs, 0 ≤ x ∧ x < 256
theorem endB {h₀ h' : Heap} {L o : Addr} {m₀ m' : Str → Option Value} {own news' : List (Addr × Obj)} {adr : List Addr} {pre : List Int} {s₁ : Shared} {tk : Nat} {x : Str} {vs' : List Value} {n' : Nat} {xs' : List Int} {lb' lc' : Int} {t1' t2' : Tok}
    (F : Fr h₀ L h' m') (N : News h₀ L h' news') (hn : (o, PySem.W.listOf vs'.toArray n') ∈ news') (ho : ∀ p ∈ own, p ∈ news') (ha : [o] = adr) (hf : IntsAre vs' xs')
    (h1 : m' (Str.ofString "leftbits") = some (.int lb' t1')) (h2 : m' (Str.ofString "leftchar") = some (.int lc' t2')) (hr : ∀ z, z ≠ x → z ≠ Str.ofString "leftbits" → z ≠ Str.ofString "leftchar" → m' z = m₀ z)
    (hp : invB pre ⟨vs', n', xs', lb', t1', lc', t2'⟩) : InvEndN h₀ L (KstS (ledB o) psB faB x [] m₀ invB pre) own adr s₁ { s₁ with heap := h', toks := tk } := by
  refine kst_end ⟨vs', n', xs', lb', t1', lc', t2'⟩ F N (fun p hp => ?_) ho ha hf (fun p hp => ?_) (fun z z1 z2 _ => hr z z1 (z2 _ (.head _)) (z2 _ (.tail _ (.head _)))) hp
  · rw [List.mem_singleton.mp hp]; exact hn
  · simp only [psB, List.mem_cons, List.not_mem_nil, or_false] at hp
    rcases hp with rfl | rfl
    · exact h1
    · exact h2
theorem w_F6_1 : True := by
  k_with "m subscriptTail" => (k_here; (with_reducible show wpAny _ _ (subscriptTail _ _ (Value.bytes _ 389) (Value.int _ _)) _ _ _); k_dflt (refine' b64_item ?qqf ?qqa ?_; (case qqf => decide +kernel); (case qqa => first | (rw [bitAnd_m6]; omega) | (simp only [bitAnd_m2, bitAnd_m4, show ((2 : Int) ^ Int.toNat 4) = 16 from rfl, show ((2 : Int) ^ Int.toNat 2) = 4 from rfl]; omega)); k_whole))
  k_with "m binaryOp LShift int int" => (k_here; (with_reducible show wpAny _ _ (binaryOp Operator.LShift (Value.int (Builtin.bitAnd _ _) _) (Value.int _ _)) _ _ _); k_dflt (refine' lshift_int_small ?qqa ?qqb ?qqc ?_; (case qqa => decide); (case qqb => decide); (case qqc => first | (rw [bitAnd_m2]; omega) | (rw [bitAnd_m4]; omega)); k_whole))
  trivial
theorem b2a_spec (w : World) (b : Array UInt8) (t : Tok) (hb : b.size ≤ 1000) : Spec 30 w 189 [.bytes b t] [(Str.ofString "newline", .bool false)] [] (RBytes (byteArr (enc (KBw.bInts b)))) := by
  unfold Spec; intros; rename_i hret
  refine wpAny_call ?_
  k_dflt k_extra "tb_start"
  k_steps
  refine' KStb.kst_bytes (ledB _) psB faB [] invB ⟨[], 0, [], 0, _, 0, _⟩ rfl rfl rfl (by assumption) (by assumption) .nil ?hk ?hp ?turn ?done
  case hk => intro p hp; simp only [psB, List.mem_cons, List.not_mem_nil, or_false] at hp; rcases hp with rfl | rfl <;> rfl
  case hp => exact ⟨rfl, .inl rfl, Int.le_refl 0, by show (0 : Int) < 65536; decide, Nat.le_refl 0, fun x hx => nomatch hx⟩
  case turn =>
    rintro ⟨vs, n, xs, lb, t1, lc, t2⟩ pre post k tk u h tk1 own hpre hlen hk0 hk1 hoff hfacts hinv kFr kNews
    obtain ⟨hfold, hlb, hlc0, hlc1, hxl, hxr⟩ := hinv
    dsimp only [ledB, psB, faB] at *
    simp only [List.cons_append, List.nil_append] at kNews
    have hvl : vs.length ≤ 3000 := by have e1 := hfacts.length; have e2 := KBw.ints_length b; omega
    clear hpre hlen hret
    rcases hlb with rfl | rfl | rfl
    all_goals k_steps
    · (rename News _ _ _ _ => nE); (try simp only [List.push_toArray] at nE)
      refine endB (by assumption) nE (.head _) (fun p hp => .tail _ hp) rfl (hfacts.append (.cons _ _ .nil)) rfl rfl (fun z z1 z2 z3 => ?_) ⟨?_, ?_, ?_, ?_, ?_, ?_⟩
      · simp only [z1, z2, z3, if_false, kstB]; rfl
      · rw [List.foldl_append, ← hfold]; simp only [List.foldl_cons, List.foldl_nil, encStep, or_lt lc hk0 hk1, bitAnd_m16, bitAnd_m6, if_true, show ((2 : Int) ^ (0 + 8 - 6 : Int).toNat) = 4 from rfl, fdivN (show (0 : Int) ≤ 4 by decide)]; rfl
      · exact .inr (.inl rfl)
      · show 0 ≤ Builtin.bitAnd _ 65535; rw [bitAnd_m16]; omega
      · show Builtin.bitAnd _ 65535 < 65536; rw [bitAnd_m16]; omega
      · simp only [List.length_append, List.length_cons, List.length_nil]; omega
      · refine in_snoc hxr (bL_in ?_ ?_) <;> rw [bitAnd_m6] <;> omega
    · (rename News _ _ _ _ => nE); (try simp only [List.push_toArray] at nE)
      refine endB (by assumption) nE (.head _) (fun p hp => .tail _ hp) rfl (hfacts.append (.cons _ _ .nil)) rfl rfl (fun z z1 z2 z3 => ?_) ⟨?_, ?_, ?_, ?_, ?_, ?_⟩
      · simp only [z1, z2, z3, if_false, kstB]; rfl
      · rw [List.foldl_append, ← hfold]; simp only [List.foldl_cons, List.foldl_nil, encStep, or_lt lc hk0 hk1, bitAnd_m16, bitAnd_m6, if_true, show ((2 : Int) = 0) = False from by decide, if_false, show ((2 : Int) ^ (2 + 8 - 6 : Int).toNat) = 16 from rfl, fdivN (show (0 : Int) ≤ 16 by decide)]; rfl
      · exact .inr (.inr rfl)
      · show 0 ≤ Builtin.bitAnd _ 65535; rw [bitAnd_m16]; omega
      · show Builtin.bitAnd _ 65535 < 65536; rw [bitAnd_m16]; omega
      · simp only [List.length_append, List.length_cons, List.length_nil]; omega
      · refine in_snoc hxr (bL_in ?_ ?_) <;> rw [bitAnd_m6] <;> omega
    · (rename News _ _ _ _ => nE); (try simp only [List.push_toArray] at nE)
      refine endB (by assumption) nE (.head _) (fun p hp => .tail _ hp) rfl ((hfacts.append (.cons _ _ .nil)).append (.cons _ _ .nil)) rfl rfl (fun z z1 z2 z3 => ?_) ⟨?_, ?_, ?_, ?_, ?_, ?_⟩
      · simp only [z1, z2, z3, if_false, kstB]; rfl
      · rw [List.foldl_append, ← hfold]; simp only [List.foldl_cons, List.foldl_nil, encStep, or_lt lc hk0 hk1, bitAnd_m16, bitAnd_m6, if_true, show ((4 : Int) = 0) = False from by decide, show ((4 : Int) = 2) = False from by decide, if_false, show ((2 : Int) ^ (4 + 8 - 6 : Int).toNat) = 64 from rfl, show ((2 : Int) ^ (4 + 8 - 6 - 6 : Int).toNat) = 1 from rfl, fdivN (show (0 : Int) ≤ 64 by decide), fdivN (show (0 : Int) ≤ 1 by decide), Int.ediv_one]; rfl
      · exact .inl rfl
      · show 0 ≤ Builtin.bitAnd _ 65535; rw [bitAnd_m16]; omega
      · show Builtin.bitAnd _ 65535 < 65536; rw [bitAnd_m16]; omega
      · simp only [List.length_append, List.length_cons, List.length_nil]; omega
      · refine in_snoc (in_snoc hxr (bL_in ?_ ?_)) (bL_in ?_ ?_) <;> rw [bitAnd_m6] <;> omega
  case done =>
    rintro ⟨vs, n, xs, lb, t1, lc, t2⟩ u h tk1 hlen hfacts hinv kFr kNews
    obtain ⟨hfold, hlb, hlc0, hlc1, hxl, hxr⟩ := hinv
    dsimp only [ledB, psB, faB] at *
    have hvl : vs.length ≤ 3000 := by have e1 := hfacts.length; have e2 := KBw.ints_length b; omega
    clear hlen
    rcases hlb with rfl | rfl | rfl
    all_goals k_steps
    · exact hret _ _ _ (back0 (by assumption) (by assumption)) (exB (by unfold enc; rw [← hfold]; rfl))
    · (rename News _ _ _ _ => nE); simp only [List.push_toArray] at nE
      refine bytes_K (by assumption) nE (by is_list) (((hfacts.append (.cons _ _ .nil)).append (.cons _ _ .nil)).append (.cons _ _ .nil)) (in_snoc (in_snoc (in_snoc hxr (bL_in ?_ ?_)) (by decide)) (by decide)) ?_ rfl ?_
      · simp only [bitAnd_m2, show ((2 : Int) ^ Int.toNat 4) = 16 from rfl]; omega
      · simp only [bitAnd_m2, show ((2 : Int) ^ Int.toNat 4) = 16 from rfl]; omega
      · simp only [sizeLine_eq, List.length_append, List.length_cons, List.length_nil]; omega
      intro h' t' k' F' N' hB'
      k_steps
      exact hret _ _ _ (back0 (by assumption) (by assumption)) (exB (by unfold enc; rw [← hfold]; simp only [encFin, bitAnd_m2, show ((2 : Int) ^ Int.toNat 4) = 16 from rfl, if_true]; rfl))
    · (rename News _ _ _ _ => nE); simp only [List.push_toArray] at nE
      refine bytes_K (by assumption) nE (by is_list) ((hfacts.append (.cons _ _ .nil)).append (.cons _ _ .nil)) (in_snoc (in_snoc hxr (bL_in ?_ ?_)) (by decide)) ?_ rfl ?_
      · simp only [bitAnd_m4, show ((2 : Int) ^ Int.toNat 2) = 4 from rfl]; omega
      · simp only [bitAnd_m4, show ((2 : Int) ^ Int.toNat 2) = 4 from rfl]; omega
      · simp only [sizeLine_eq, List.length_append, List.length_cons, List.length_nil]; omega
      intro h' t' k' F' N' hB'
      k_steps
      exact hret _ _ _ (back0 (by assumption) (by assumption)) (exB (by unfold enc; rw [← hfold]; simp only [encFin, bitAnd_m4, show ((2 : Int) ^ Int.toNat 2) = 4 from rfl, show ((4 : Int) = 2) = False from by decide, if_false, if_true]; rfl))
end
theorem w_F9_0 : True := by
  k_with_none
  k_with "tb_start" => (first | (refine' code_defG ?qqk1 ?qqk2 ?qqk3 ?qqk4 ?qqk5 ?qqkA ?qqkF ?qqkK ?qqk6 ?qqk7 ?qqk8 ?qqk9 ?qqkB ?_ ?qqc2 ?qqc3 ?qqc4 ?qqc5; (case qqkA => exact rfl); (case qqkF => exact rfl); (case qqkK => first | exact rfl | assumption); (case qqk1 => k_asm); (case qqk2 => k_asm); (case qqk3 => k_asm); (case qqk4 => k_asm); (case qqk5 => k_asm); (case qqk6 => k_is); (case qqk7 => k_is); (case qqk8 => ktr_room); (case qqk9 => first | exact BindsTo.of_eq rfl | exact binds_K (by k_in) rfl (by k_is) rfl rfl rfl); (case qqc5 => decide); (case qqkB => exact locs rfl); (case qqc2 => exact rfl); (case qqc3 => exact rfl); (case qqc4 => exact rfl); k_whole; intro gz' Lz' hz' FGz' Fz' Nz' Bz' Xz' Tz' kGz'; (try dsimp only); (try k_lift Bz'); (try k_fold)) | (refine' enterC ?qqk1 ?qqk2 ?qqk3 ?qqk4 ?qqk5 ?qqkA ?qqkF ?qqkK ?qqk6 ?qqk7 ?qqk8 ?qqk9 ?qqkB ?qqkD ?_ ?qqc2 ?qqc3 ?qqc4; (case qqkA => exact rfl); (case qqkF => exact rfl); (case qqkK => first | exact rfl | assumption); (case qqk1 => k_asm); (case qqk2 => k_asm); (case qqk3 => k_asm); (case qqk4 => k_asm); (case qqk5 => k_asm); (case qqk6 => k_is); (case qqk7 => k_is); (case qqk8 => ktr_room); (case qqk9 => first | exact BindsTo.of_eq rfl | exact binds_K (by k_in) rfl (by k_is) rfl rfl rfl); (case qqkB => exact rfl); (case qqkD => decide +kernel); (case qqc2 => exact rfl); (case qqc3 => exact rfl); (case qqc4 => exact rfl); k_whole; intro gz' Lz' hz' tkz' cellsz' FGz' Fz' Nz' Yz' Bz' Xz' Tz' l1z kGz'; (try k_lt l1z); k_cells Yz'; (try simp only [List.cons_append, List.nil_append] at Nz'); (try dsimp only); (try k_lift Bz'); (try k_fold)))
  k_with "m call ref" => (k_here; k_dflt (refine wpAny_call ?_; k_extra "tb_start"))
  k_with "m call type:type" => (k_here; (with_reducible show wpAny _ _ (call (Value.type "type") [Value.bytes _ _]) _ _ _); refine call_type_of (PySem.W.typeIs_bytes _ _ _) (by decide +kernel) ?_)
  k_with "m call type:type" => (k_here; (with_reducible show wpAny _ _ (call (Value.type "type") [Value.bool _]) _ _ _); refine call_type_of (Tx := "bool") rfl (by decide +kernel) ?_)
  k_with "m pyIter ref" => ((with_reducible show wpAny _ _ (pyIter (Value.ref _)) (fun it s₂ => LoopAtV _ _ _ _ _ _ _ _ _ it s₂) _ _); k_here; refine Held.mk ?_)
  k_with "m subscriptTail" => (k_here; (with_reducible show wpAny _ _ (subscriptTail _ _ (Value.bytes _ _) (Value.int _ _)) _ _ _); k_dflt (refine' by_item ?qqz ?qqa ?qqb ?_; (case qqz => assumption); (case qqa => first | assumption | omega); (case qqb => first | assumption | omega); k_whole); intro t9z)
  k_with "m setItem ref int" => (k_here; (with_reducible show wpAny _ _ (setItem (Value.ref _) (Value.int _ _) (Value.int _ _)) _ _ _); k_dflt (refine' ba_setU ?qqk1 ?qqk2 ?qqk3 ?qqk4 ?qqk5 ?qqk6 ?qqk7 ?qqk8 ?_; (case qqk1 => k_asm); (case qqk2 => k_asm); (case qqk3 => first | (refine' Upd.head ?_; assumption) | k_upd); (case qqk4 => first | assumption | omega); (case qqk5 => first | assumption | omega); (case qqk6 => first | assumption | omega); (case qqk7 => omega); (case qqk8 => exact_mod_cast UInt8.toNat_lt _); k_whole); intro hz' Fz' Nz'; (try k_sweep))
  k_with "m call type:bytes" => (k_here; (with_reducible show wpAny _ _ (call (Value.type "bytes") [Value.ref _]) _ _ _); (rename News _ _ _ _ => nEz); refine' ba_bytes (And.left (nEz (_, baObj _) ?qqm)) ?qqz ?_; (case qqm => exact .head _); (case qqz => omega); intro t9z k9z; (try dsimp only))
  k_with "bits" => (repeat' (first | (k_unfold; (try dsimp only)) | (goal_lacks InvEndN Held; k_end; wrow_close) | walk1 | (dsimp only; walk1) | (leave1; walk_say "STEP leave1"; try dsimp only) | fail "no step"))
  k_with "m InvEndN" => (refine Held.mk ?_)
  k_with "m eval ListComp" => (k_here; refine Held.mk ?_)
  trivial
section
noncomputable abbrev D5 := List Int × Int × Int × Int × Int
noncomputable def decStep (c : D5) (k : Int) : D5 :=
  if k = 61 then (c.1, c.2.1, c.2.2.1, c.2.2.2.1 + 1, c.2.2.2.2 + 1)
  else if 64 ≤ b64v k then (c.1, c.2.1, c.2.2.1, c.2.2.2.1, c.2.2.2.2 + 1)
  else if c.2.1 = 0 then (c.1, 1, b64v k, 0, c.2.2.2.2 + 1)
  else if c.2.1 = 1 then (c.1 ++ [c.2.2.1 * 4 + b64v k / 16], 2, b64v k % 16, 0, c.2.2.2.2 + 1)
  else if c.2.1 = 2 then (c.1 ++ [c.2.2.1 * 16 + b64v k / 4], 3, b64v k % 4, 0, c.2.2.2.2 + 1)
  else (c.1 ++ [c.2.2.1 * 64 + b64v k], 0, 0, 0, c.2.2.2.2 + 1)
noncomputable def dec (ks : List Int) : D5 := ks.foldl decStep ([], 0, 0, 0, 0)
structure S4 where
  vs : List Value
  n : Nat
  xs : List Int
  q : Int
  t1 : Tok
  lc : Int
  t2 : Tok
  p : Int
  t3 : Tok
  i : Int
  t4 : Tok
noncomputable abbrev ledD (o : Addr) (c : S4) : List (Addr × Obj) := [(o, PySem.W.listOf c.vs.toArray c.n)]
noncomputable abbrev psD (c : S4) : List (Str × Value) := [(Str.ofString "quad_pos", .int c.q c.t1), (Str.ofString "leftchar", .int c.lc c.t2), (Str.ofString "pads", .int c.p c.t3), (Str.ofString "i", .int c.i c.t4)]
noncomputable abbrev faD (c : S4) : Prop := IntsAre c.vs c.xs
noncomputable def invD (pre : List Int) (c : S4) : Prop := ((c.xs, c.q, c.lc, c.p, c.i) : D5) = dec pre ∧ (c.q = 0 ∨ c.q = 1 ∨ c.q = 2 ∨ c.q = 3) ∧ (0 ≤ c.lc ∧ c.lc < 64 ∧ (c.q = 2 → c.lc < 16) ∧ (c.q = 3 → c.lc < 4)) ∧ (0 ≤ c.p ∧ c.p ≤ pre.length) ∧ (0 ≤ c.i ∧ c.i ≤ pre.length) ∧ c.xs.length ≤ pre.length ∧ ∀ x ∈ c.xs, 0 ≤ x ∧ x < 256
theorem endD {h₀ h' : Heap} {L o : Addr} {m₀ m' : Str → Option Value} {own news' : List (Addr × Obj)} {adr : List Addr} {pre : List Int} {s₁ : Shared} {tk : Nat} {x : Str} {vs' : List Value} {n' : Nat} {xs' : List Int} {q' lc' p' i' : Int} {t1' t2' t3' t4' : Tok}
    (F : Fr h₀ L h' m') (N : News h₀ L h' news') (hn : (o, PySem.W.listOf vs'.toArray n') ∈ news') (ho : ∀ p ∈ own, p ∈ news') (ha : [o] = adr) (hf : IntsAre vs' xs')
    (h1 : m' (Str.ofString "quad_pos") = some (.int q' t1')) (h2 : m' (Str.ofString "leftchar") = some (.int lc' t2')) (h3 : m' (Str.ofString "pads") = some (.int p' t3')) (h4 : m' (Str.ofString "i") = some (.int i' t4'))
    (hr : ∀ z, z ≠ x → z ≠ Str.ofString "quad_pos" → z ≠ Str.ofString "leftchar" → z ≠ Str.ofString "pads" → z ≠ Str.ofString "i" → m' z = m₀ z)
    (hp : invD pre ⟨vs', n', xs', q', t1', lc', t2', p', t3', i', t4'⟩) : InvEndN h₀ L (KstS (ledD o) psD faD x [] m₀ invD pre) own adr s₁ { s₁ with heap := h', toks := tk } := by
  refine kst_end ⟨vs', n', xs', q', t1', lc', t2', p', t3', i', t4'⟩ F N (fun p hp => ?_) ho ha hf (fun p hp => ?_) (fun z z1 z2 _ => hr z z1 (z2 _ (.head _)) (z2 _ (.tail _ (.head _))) (z2 _ (.tail _ (.tail _ (.head _)))) (z2 _ (.tail _ (.tail _ (.tail _ (.head _)))))) hp
  · rw [List.mem_singleton.mp hp]; exact hn
  · simp only [psD, List.mem_cons, List.not_mem_nil, or_false] at hp
    rcases hp with rfl | rfl | rfl | rfl <;> assumption
theorem dec_snoc (pre : List Int) (k : Int) : dec (pre ++ [k]) = decStep (dec pre) k := by unfold dec; rw [List.foldl_append]; rfl
theorem inv_next {pre : List Int} {k : Int} {c c' : S4} (h : invD pre c) (hs : decStep (c.xs, c.q, c.lc, c.p, c.i) k = (c'.xs, c'.q, c'.lc, c'.p, c'.i)) (hq : c'.q = 0 ∨ c'.q = 1 ∨ c'.q = 2 ∨ c'.q = 3)
    (hl : 0 ≤ c'.lc ∧ c'.lc < 64 ∧ (c'.q = 2 → c'.lc < 16) ∧ (c'.q = 3 → c'.lc < 4)) (hp : 0 ≤ c'.p ∧ c'.p ≤ c.p + 1) (hi : c'.i = c.i + 1) (hx : c'.xs.length ≤ c.xs.length + 1) (hr : ∀ x ∈ c'.xs, 0 ≤ x ∧ x < 256) : invD (pre ++ [k]) c' := by
  obtain ⟨e, _, _, h4, h5, h6, _⟩ := h
  refine ⟨by rw [dec_snoc, ← e]; exact hs.symm, hq, hl, ?_, ?_, ?_, hr⟩ <;> rw [List.length_append, List.length_singleton] <;> omega
section
variable {pre : List Int} {k : Int} {vs vs' : List Value} {n n' : Nat} {xs : List Int} {q lc p i : Int} {t1 t2 t3 t4 u1 u2 u3 u4 : Tok}
theorem i_pad (h : invD pre ⟨vs, n, xs, q, t1, lc, t2, p, t3, i, t4⟩) (h1 : k = 61) : invD (pre ++ [k]) ⟨vs', n', xs, q, u1, lc, u2, p + 1, u3, i + 1, u4⟩ :=
  inv_next h (if_pos h1) h.2.1 h.2.2.1 ⟨Int.le_trans h.2.2.2.1.1 (Int.le_add_one (Int.le_refl _)), Int.le_refl _⟩ rfl (Nat.le_succ _) h.2.2.2.2.2.2
theorem i_skip (h : invD pre ⟨vs, n, xs, q, t1, lc, t2, p, t3, i, t4⟩) (h1 : ¬ k = 61) (h2 : 64 ≤ b64v k) : invD (pre ++ [k]) ⟨vs', n', xs, q, u1, lc, u2, p, u3, i + 1, u4⟩ :=
  inv_next h ((if_neg h1).trans (if_pos h2)) h.2.1 h.2.2.1 ⟨h.2.2.2.1.1, Int.le_add_one (Int.le_refl _)⟩ rfl (Nat.le_succ _) h.2.2.2.2.2.2
theorem up0 (h : 0 ≤ p) : (0 : Int) ≤ 0 ∧ 0 ≤ p + 1 := ⟨Int.le_refl _, Int.le_add_one h⟩
theorem i_q0 (h : invD pre ⟨vs, n, xs, q, t1, lc, t2, p, t3, i, t4⟩) (h1 : ¬ k = 61) (h2 : ¬ 64 ≤ b64v k) (hq : q = 0) : invD (pre ++ [k]) ⟨vs', n', xs, 1, u1, b64v k, u2, 0, u3, i + 1, u4⟩ :=
  inv_next h ((if_neg h1).trans ((if_neg h2).trans (if_pos hq))) (.inr (.inl rfl)) ⟨(b64v_in k).1, Int.not_le.mp h2, fun e => absurd (show (1 : Int) = 2 from e) (by decide), fun e => absurd (show (1 : Int) = 3 from e) (by decide)⟩ (up0 h.2.2.2.1.1) rfl (Nat.le_succ _) h.2.2.2.2.2.2
theorem len1 {x : Int} : (xs ++ [x]).length ≤ xs.length + 1 := by rw [List.length_append]; exact Nat.le_refl _
theorem i_q1 (h : invD pre ⟨vs, n, xs, q, t1, lc, t2, p, t3, i, t4⟩) (h1 : ¬ k = 61) (h2 : ¬ 64 ≤ b64v k) (hq : q = 1) :
    invD (pre ++ [k]) ⟨vs', n', xs ++ [Builtin.bitOr (lc * 2 ^ Int.toNat 2) ((b64v k).fdiv (2 ^ Int.toNat 4))], 2, u1, Builtin.bitAnd (b64v k) 15, u2, 0, u3, i + 1, u4⟩ := by
  subst hq
  obtain ⟨v0, _⟩ := b64v_in k
  have v1 := Int.not_le.mp h2
  have l := h.2.2.1
  dsimp only at l
  rw [or2 lc v0 v1, bitAnd_m4]
  refine inv_next h ((if_neg h1).trans ((if_neg h2).trans rfl)) (.inr (.inr (.inl rfl))) ?_ (up0 h.2.2.2.1.1) rfl len1 (in_snoc h.2.2.2.2.2.2 ?_)
  · exact ⟨by dsimp only; omega, by dsimp only; omega, fun _ => by dsimp only; omega, fun e => absurd (show (2 : Int) = 3 from e) (by decide)⟩
  · omega
theorem i_q2 (h : invD pre ⟨vs, n, xs, q, t1, lc, t2, p, t3, i, t4⟩) (h1 : ¬ k = 61) (h2 : ¬ 64 ≤ b64v k) (hq : q = 2) :
    invD (pre ++ [k]) ⟨vs', n', xs ++ [Builtin.bitOr (lc * 2 ^ Int.toNat 4) ((b64v k).fdiv (2 ^ Int.toNat 2))], 3, u1, Builtin.bitAnd (b64v k) 3, u2, 0, u3, i + 1, u4⟩ := by
  subst hq
  obtain ⟨v0, _⟩ := b64v_in k
  have v1 := Int.not_le.mp h2
  have l0 := h.2.2.1.1
  have l := h.2.2.1.2.2.1 rfl
  dsimp only at l0 l
  rw [or4 lc v0 v1, bitAnd_m2]
  refine inv_next h ((if_neg h1).trans ((if_neg h2).trans rfl)) (.inr (.inr (.inr rfl))) ?_ (up0 h.2.2.2.1.1) rfl len1 (in_snoc h.2.2.2.2.2.2 ?_)
  · exact ⟨by dsimp only; omega, by dsimp only; omega, fun e => absurd (show (3 : Int) = 2 from e) (by decide), fun _ => by dsimp only; omega⟩
  · omega
theorem i_q3 (h : invD pre ⟨vs, n, xs, q, t1, lc, t2, p, t3, i, t4⟩) (h1 : ¬ k = 61) (h2 : ¬ 64 ≤ b64v k) (q0 : ¬ q = 0) (q1 : ¬ q = 1) (q2 : ¬ q = 2) :
    invD (pre ++ [k]) ⟨vs', n', xs ++ [Builtin.bitOr (lc * 2 ^ Int.toNat 6) (b64v k)], 0, u1, 0, u2, 0, u3, i + 1, u4⟩ := by
  obtain rfl : q = 3 := by have := h.2.1; dsimp only at this; omega
  obtain ⟨v0, _⟩ := b64v_in k
  have v1 := Int.not_le.mp h2
  have l0 := h.2.2.1.1
  have l := h.2.2.1.2.2.2 rfl
  dsimp only at l0 l
  rw [or6 lc v0 v1]
  refine inv_next h ((if_neg h1).trans ((if_neg h2).trans rfl)) (.inl rfl) ?_ (up0 h.2.2.2.1.1) rfl len1 (in_snoc h.2.2.2.2.2.2 ?_)
  · exact ⟨Int.le_refl _, by dsimp only; decide, fun e => absurd (show (0 : Int) = 2 from e) (by decide), fun e => absurd (show (0 : Int) = 3 from e) (by decide)⟩
  · omega
end
theorem w_F9_1 : True := by
  k_with "m call ref" => (k_here; k_dflt ( (refine' Spec.use (b64v_spec _ _ _) ?qqk1 ?qqk2 ?qqk3 ?qqk4 ?qqk5 ?qqk6 ?qqk7 ?qqk8 ?qqk9 ?_); (case qqk1 => k_asm); (case qqk2 => k_asm); (case qqk3 => k_asm); (case qqk4 => k_asm); (case qqk5 => k_asm); (case qqk6 => first | exact rfl | assumption); (case qqk7 => ktr_room); (case qqk8 => ktr_units); (case qqk9 => (intro p9z h9z; nomatch h9z)); intro v9z h9z tk9z F9z N9z K9z hR9z; obtain ⟨t9z, e2z⟩ := hR9z; subst e2z; (try clear K9z); (try dsimp only); (try k_fold)))
  trivial
theorem a2b_spec (w : World) (b : Array UInt8) (t : Tok) (hb : b.size ≤ 1000) (hq1 : (dec (KBw.bInts b)).2.1 ≠ 1) (hq2 : (dec (KBw.bInts b)).2.1 = 0 ∨ 4 ≤ (dec (KBw.bInts b)).2.1 + (dec (KBw.bInts b)).2.2.2.1) : Spec 30 w 181 [.bytes b t] [(Str.ofString "strict_mode", .bool false)] [] (RBytes (byteArr (dec (KBw.bInts b)).1)) := by
  unfold Spec; intros; rename_i hret
  refine wpAny_call ?_
  k_dflt k_extra "tb_start"
  k_steps
  refine' KStb.kst_bytes (ledD _) psD faD [] invD ⟨[], 0, [], 0, _, 0, _, 0, _, 0, _⟩ rfl rfl rfl (by assumption) (by assumption) .nil ?hk ?hp ?turn ?done
  case hk => intro p hp; simp only [psD, List.mem_cons, List.not_mem_nil, or_false] at hp; rcases hp with rfl | rfl | rfl | rfl <;> rfl
  case hp => exact ⟨rfl, .inl rfl, ⟨Int.le_refl 0, by show (0 : Int) < 64; decide, fun _ => by show (0 : Int) < 16; decide, fun _ => by show (0 : Int) < 4; decide⟩, ⟨Int.le_refl 0, Int.le_refl 0⟩, ⟨Int.le_refl 0, Int.le_refl 0⟩, Nat.le_refl 0, fun x hx => nomatch hx⟩
  case turn =>
    rintro ⟨vs, n, xs, q, t1, lc, t2, p, t3, i, t4⟩ pre post k tk u h tk1 own hpre hlen hk0 hk1 hoff hfacts hinv kFr kNews
    obtain ⟨_, hq, ⟨hlc0, hlc1, hlc2, hlc3⟩, ⟨hp0, hp1⟩, ⟨hi0, hi1⟩, hxl, hxr⟩ := id hinv
    dsimp only [ledD, psD, faD] at *
    simp only [List.cons_append, List.nil_append] at kNews
    have hvl : vs.length ≤ 3000 := by have e1 := hfacts.length; have e2 := KBw.ints_length b; omega
    have hv := b64v_in k
    clear hpre hlen hret hq1 hq2
    k_steps
    all_goals ((rename News _ _ _ _ => nE); (try simp only [List.push_toArray] at nE))
    all_goals first
      | exact endD (by assumption) nE (.head _) (fun p hp => .tail _ hp) rfl (hfacts.append (.cons _ _ .nil)) rfl rfl rfl rfl (fun z z1 z2 z3 z4 z5 => by simp only [z1, z2, z3, z4, z5, if_false, kstB]; rfl) (by with_reducible first | exact i_q1 hinv (by assumption) (by assumption) (by assumption) | exact i_q2 hinv (by assumption) (by assumption) (by assumption) | exact i_q3 hinv (by assumption) (by assumption) (by assumption) (by assumption) (by assumption))
      | exact endD (by assumption) nE (.head _) (fun p hp => .tail _ hp) rfl hfacts rfl rfl rfl rfl (fun z z1 z2 z3 z4 z5 => by simp only [z1, z2, z3, z4, z5, if_false, kstB]; rfl) (by with_reducible first | exact i_pad hinv (by assumption) | exact i_skip hinv (by assumption) (by assumption) | exact i_q0 hinv (by assumption) (by assumption) (by assumption))
      | trace_state
  case done =>
    rintro ⟨vs, n, xs, q, t1, lc, t2, p, t3, i, t4⟩ u h tk1 hlen hfacts hinv kFr kNews
    obtain ⟨hfold, hq, ⟨hlc0, hlc1, hlc2, hlc3⟩, ⟨hp0, hp1⟩, ⟨hi0, hi1⟩, hxl, hxr⟩ := hinv
    rw [← hfold] at hq1 hq2
    dsimp only [ledD, psD, faD] at *
    have hvl : vs.length ≤ 3000 := by have e1 := hfacts.length; have e2 := KBw.ints_length b; omega
    clear hlen
    rcases hq with rfl | rfl | rfl | rfl
    · k_steps
      exact hret _ _ _ (back0 (by assumption) (by assumption)) (exB (by rw [← hfold]))
    · exact absurd rfl hq1
    all_goals k_steps
    all_goals exact hret _ _ _ (back0 (by assumption) (by assumption)) (exB (by rw [← hfold]))
end
theorem w_F10_0 : True := by
  k_with_none
  k_with "tb_start" => (first | (refine' code_defG ?qqk1 ?qqk2 ?qqk3 ?qqk4 ?qqk5 ?qqkA ?qqkF ?qqkK ?qqk6 ?qqk7 ?qqk8 ?qqk9 ?qqkB ?_ ?qqc2 ?qqc3 ?qqc4 ?qqc5; (case qqkA => exact rfl); (case qqkF => exact rfl); (case qqkK => first | exact rfl | assumption); (case qqk1 => k_asm); (case qqk2 => k_asm); (case qqk3 => k_asm); (case qqk4 => k_asm); (case qqk5 => k_asm); (case qqk6 => k_is); (case qqk7 => k_is); (case qqk8 => ktr_room); (case qqk9 => first | exact BindsTo.of_eq rfl | exact binds_K (by k_in) rfl (by k_is) rfl rfl rfl); (case qqc5 => decide); (case qqkB => exact locs rfl); (case qqc2 => exact rfl); (case qqc3 => exact rfl); (case qqc4 => exact rfl); k_whole; intro gz' Lz' hz' FGz' Fz' Nz' Bz' Xz' Tz' kGz'; (try dsimp only); (try k_lift Bz'); (try k_fold)) | (refine' enterC ?qqk1 ?qqk2 ?qqk3 ?qqk4 ?qqk5 ?qqkA ?qqkF ?qqkK ?qqk6 ?qqk7 ?qqk8 ?qqk9 ?qqkB ?qqkD ?_ ?qqc2 ?qqc3 ?qqc4; (case qqkA => exact rfl); (case qqkF => exact rfl); (case qqkK => first | exact rfl | assumption); (case qqk1 => k_asm); (case qqk2 => k_asm); (case qqk3 => k_asm); (case qqk4 => k_asm); (case qqk5 => k_asm); (case qqk6 => k_is); (case qqk7 => k_is); (case qqk8 => ktr_room); (case qqk9 => first | exact BindsTo.of_eq rfl | exact binds_K (by k_in) rfl (by k_is) rfl rfl rfl); (case qqkB => exact rfl); (case qqkD => decide +kernel); (case qqc2 => exact rfl); (case qqc3 => exact rfl); (case qqc4 => exact rfl); k_whole; intro gz' Lz' hz' tkz' cellsz' FGz' Fz' Nz' Yz' Bz' Xz' Tz' l1z kGz'; (try k_lt l1z); k_cells Yz'; (try simp only [List.cons_append, List.nil_append] at Nz'); (try dsimp only); (try k_lift Bz'); (try k_fold)))
  k_with "m call ref" => (k_here; k_dflt (refine wpAny_call ?_; k_extra "tb_start"))
  k_with "m call type:type" => (k_here; (with_reducible show wpAny _ _ (call (Value.type "type") [Value.bytes _ _]) _ _ _); refine call_type_of (PySem.W.typeIs_bytes _ _ _) (by decide +kernel) ?_)
  k_with "m call type:type" => (k_here; (with_reducible show wpAny _ _ (call (Value.type "type") [Value.bool _]) _ _ _); refine call_type_of (Tx := "bool") rfl (by decide +kernel) ?_)
  k_with "m pyIter ref" => ((with_reducible show wpAny _ _ (pyIter (Value.ref _)) (fun it s₂ => LoopAtV _ _ _ _ _ _ _ _ _ it s₂) _ _); k_here; refine Held.mk ?_)
  k_with "m subscriptTail" => (k_here; (with_reducible show wpAny _ _ (subscriptTail _ _ (Value.bytes _ _) (Value.int _ _)) _ _ _); k_dflt (refine' by_item ?qqz ?qqa ?qqb ?_; (case qqz => assumption); (case qqa => first | assumption | omega); (case qqb => first | assumption | omega); k_whole); intro t9z)
  k_with "m setItem ref int" => (k_here; (with_reducible show wpAny _ _ (setItem (Value.ref _) (Value.int _ _) (Value.int _ _)) _ _ _); k_dflt (refine' ba_setU ?qqk1 ?qqk2 ?qqk3 ?qqk4 ?qqk5 ?qqk6 ?qqk7 ?qqk8 ?_; (case qqk1 => k_asm); (case qqk2 => k_asm); (case qqk3 => first | (refine' Upd.head ?_; assumption) | k_upd); (case qqk4 => first | assumption | omega); (case qqk5 => first | assumption | omega); (case qqk6 => first | assumption | omega); (case qqk7 => omega); (case qqk8 => exact_mod_cast UInt8.toNat_lt _); k_whole); intro hz' Fz' Nz'; (try k_sweep))
  k_with "m call type:bytes" => (k_here; (with_reducible show wpAny _ _ (call (Value.type "bytes") [Value.ref _]) _ _ _); (rename News _ _ _ _ => nEz); refine' ba_bytes (And.left (nEz (_, baObj _) ?qqm)) ?qqz ?_; (case qqm => exact .head _); (case qqz => omega); intro t9z k9z; (try dsimp only))
  k_with "bits" => (repeat' (first | (k_unfold; (try dsimp only)) | (goal_lacks InvEndN Held; k_end; wrow_close) | walk1 | (dsimp only; walk1) | (leave1; walk_say "STEP leave1"; try dsimp only) | fail "no step"))
  k_with "m InvEndN" => (refine Held.mk ?_)
  k_with "m eval ListComp" => (k_here; refine Held.mk ?_)
  trivial
section
noncomputable abbrev ledS (o : Addr) (c : Array UInt8) : List (Addr × Obj) := [(o, baObj c)]
noncomputable abbrev psS (_ : Array UInt8) : List (Str × Value) := []
noncomputable abbrev noF (_ : Array UInt8) : Prop := True
noncomputable def swO (b : Array UInt8) (w : Nat) (i : Nat) (c : Array UInt8) : Prop := c.size = b.size ∧ ∀ i', i' < i → ∀ j, j < w → c[w * i' + (w - 1 - j)]? = b[w * i' + j]?
noncomputable def swI (b : Array UInt8) (w : Nat) (i j : Nat) (c : Array UInt8) : Prop := swO b w i c ∧ ∀ j', j' < j → c[w * i + (w - 1 - j')]? = b[w * i + j']?
theorem swI_zero {b c : Array UInt8} {w i : Nat} (h : swO b w i c) : swI b w i 0 c := ⟨h, fun _ h => absurd h (Nat.not_lt_zero _)⟩
theorem swI_done {b c : Array UInt8} {w i : Nat} (h : swI b w i w c) : swO b w (i + 1) c := ⟨h.1.1, fun i' hi j hj => by
  rcases Nat.lt_or_ge i' i with e | e
  · exact h.1.2 i' e j hj
  · have : i' = i := by omega
    subst this; exact h.2 j hj⟩
theorem at_lt {w n i j sz : Nat} (hs : sz = n * w) (hi : i < n) (hj : j < w) : w * i + j < sz := by
  have h : w * (i + 1) ≤ w * n := Nat.mul_le_mul_left w hi
  rw [Nat.mul_succ] at h
  rw [hs, Nat.mul_comm n w]
  omega
theorem swI_step {b c : Array UInt8} {w n i j : Nat} {x y : Int} (hn : b.size = n * w) (hi : i < n) (hj : j < w) (h : swI b w i j c) (hx : x = ((w * i + (w - 1 - j) : Nat) : Int)) (hy : y = ((w * i + j : Nat) : Int)) :
    swI b w i (j + 1) (c.setIfInBounds x.toNat (((b[y.toNat]?.getD 0).toNat : Nat) : Int).toNat.toUInt8) := by
  have e1 := at_lt hn hi hj
  have e2 := at_lt hn hi (show w - 1 - j < w by omega)
  subst hx hy
  simp only [Int.toNat_natCast]
  have ev : (b[w * i + j]?.getD 0).toNat.toUInt8 = b[w * i + j]?.getD 0 := by simp
  rw [ev]
  refine ⟨⟨by rw [Array.size_setIfInBounds]; exact h.1.1, fun i' hi' j' hj' => ?_⟩, fun j' hj' => ?_⟩
  · have h3 : w * (i' + 1) ≤ w * i := Nat.mul_le_mul_left w hi'
    rw [Nat.mul_succ] at h3
    rw [Array.getElem?_setIfInBounds_ne (by omega)]
    exact h.1.2 i' hi' j' hj'
  · rcases Nat.lt_or_ge j' j with e | e
    · rw [Array.getElem?_setIfInBounds_ne (by omega)]
      exact h.2 j' e
    · have : j' = j := by omega
      subst this
      rw [Array.getElem?_setIfInBounds_self_of_lt (by rw [h.1.1]; exact e2), Array.getElem?_eq_getElem e1]
      simp
theorem byteswap_spec (w : World) (b : Array UInt8) (k n : Nat) (t t' : Tok) (hk : 0 < k) (hk1 : k ≤ 1000) (hb : b.size ≤ 1000) (hn : b.size = n * k) : SpecC 30 w 212 [.bytes b t, .int k t'] [] (fun _ v _ => ∃ c u, v = .bytes c u ∧ swO b k n c) := by
  unfold SpecC; intros; rename_i hret
  refine wpC_call ?_
  k_dflt (refine' enterSp ?k1 ?k2 ?k3 ?k4 ?k5 ?kA ?kF ?kK ?k6 ?k7 ?k8 ?k9 ?kB ?_ ?c2 ?c3 ?c4 ?c5; (case kA => exact rfl); (case kF => exact rfl); (case kK => first | exact rfl | assumption); (case k1 => k_asm); (case k2 => k_asm); (case k3 => k_asm); (case k4 => k_asm); (case k5 => k_asm); (case k6 => k_is); (case k7 => k_is); (case k8 => ktr_room); (case k9 => exact BindsTo.of_eq (binds := [(Str.ofString "data", _), (Str.ofString "width", _)]) rfl); (case c5 => decide); (case kB => exact locs rfl); (case c2 => exact rfl); (case c3 => exact rfl); (case c4 => exact rfl); k_whole; intro g' L' h' FG' F' N' B' X' T' kG'; (try dsimp only))
  refine sp_execs (sp_assignName (sp_call ?_))
  k_extra "bits"
  refine sp_callType ?_
  k_extra "bits"
  refine wpC_bytearray (by omega) (by omega) ?_
  intro h1 K1 hb1
  have F1 := Fr.keeps (by assumption) K1
  have N1 := news_add (by assumption) (News.grown (by assumption) K1) hb1 (get_ge (Nat.le_refl _))
  k_extra "bits"
  refine wpC_of ?_
  k_extra "bits"
  (rename IsRange _ _ _ _ _ _ _ _ => rgX)
  refine' lp_range (n := n) (ledS _) psS noF [Str.ofString "j"] (swO b k) _ rfl rgX (small_up (by omega) (by omega) (by omega) (by omega) (by omega) (by omega)) (by rw [hn]; push_cast; exact size_mul (by omega)) (by assumption) (by assumption) True.intro ?hk ?hp ?turn ?done
  case hk => intro p hp; nomatch hp
  case hp => exact ⟨by simp, fun i' h => absurd h (by omega)⟩
  case turn =>
    rintro c i kk t u h tk1 own hkk hin hoff hfacts hinv kFr kNews
    dsimp only [ledS, psS] at *
    simp only [List.cons_append, List.nil_append] at kNews
    clear hret
    k_extra "bits"
    (rename IsRange _ _ _ _ _ _ _ _ => rgY)
    refine' lp_range (n := k) (fun c => ledS _ c ++ own) psS noF [] (swI b k i) c rfl rgY (small_up (by omega) (by omega) (by omega) (by omega) (by omega) (by omega)) (by have := size_mul (k := 1) (n := k) (by omega); rwa [Int.mul_one] at this) (by assumption) (by assumption) True.intro ?hk2 ?hp2 ?turn2 ?done2
    case hk2 => intro p hp; nomatch hp
    case hp2 => exact swI_zero hinv
    case turn2 =>
      rintro c j jj t u h tk1 own2 hjj hjn hoff2 hfacts hinv kFr kNews
      dsimp only [ledS, psS] at *
      simp only [List.cons_append, List.nil_append] at kNews
      have e1 := at_lt hn hin hjn
      have e2 := at_lt hn hin (show k - 1 - j < k by omega)
      have e3 : kk = ((k * i : Nat) : Int) := by rw [hkk, Int.mul_comm]; push_cast; omega
      have e4 : kk + jj = ((k * i + j : Nat) : Int) := by push_cast at e3 ⊢; omega
      have e5 : kk + k - 1 - jj = ((k * i + (k - 1 - j) : Nat) : Int) := by omega
      have hsz := hinv.1.1
      have hown : ∀ p ∈ own ++ own2, p.1 ≠ h'.objs.size := fun p hp => by
        rcases List.mem_append.mp hp with hp | hp
        · exact hoff p hp _ (.head _)
        · exact hoff2 p hp _ (.head _)
      k_extra "bits"
      refine kst_end (c := c.setIfInBounds _ _) (by assumption) (by assumption) ?_ ?_ rfl True.intro (fun p hp => nomatch hp) (fun z z1 z2 z3 => ?_) (swI_step hn hin hjn hinv e5 e4)
      · intro p hp; rcases List.mem_append.mp hp with hp | hp
        · rw [List.mem_singleton.mp hp]; exact .head _
        · exact .tail _ (List.mem_append_left _ hp)
      · intro p hp; exact .tail _ (List.mem_append_right _ hp)
      · exact (if_neg z1).trans (offB rfl)
    case done2 =>
      rintro c u h tk1 hfacts hinv kFr kNews
      dsimp only [ledS, psS] at *
      k_extra "bits"
      refine kst_end (c := c) (by assumption) (by assumption) ?_ ?_ rfl True.intro (fun p hp => nomatch hp) (fun z z1 z2 z3 => ?_) (swI_done hinv)
      · intro p hp; rw [List.mem_singleton.mp hp]; exact .head _
      · intro p hp; exact .tail _ hp
      · have z4 : z ≠ Str.ofString "j" := by rintro rfl; exact absurd z3 (by decide)
        exact (if_neg z4).trans ((offB rfl).trans ((if_neg z1).trans (offB z3)))
  case done =>
    rintro c u h tk1 hfacts hinv kFr kNews
    dsimp only [ledS, psS] at *
    have hsz := hinv.1
    k_extra "bits"
    exact hret _ _ _ (back0 (by assumption) (by assumption)) ⟨_, _, rfl, hinv⟩
end
theorem w_F11_0 : True := by
  k_with_none
  k_with "tb_start" => (first | (refine' code_defG ?qqk1 ?qqk2 ?qqk3 ?qqk4 ?qqk5 ?qqkA ?qqkF ?qqkK ?qqk6 ?qqk7 ?qqk8 ?qqk9 ?qqkB ?_ ?qqc2 ?qqc3 ?qqc4 ?qqc5; (case qqkA => exact rfl); (case qqkF => exact rfl); (case qqkK => first | exact rfl | assumption); (case qqk1 => k_asm); (case qqk2 => k_asm); (case qqk3 => k_asm); (case qqk4 => k_asm); (case qqk5 => k_asm); (case qqk6 => k_is); (case qqk7 => k_is); (case qqk8 => ktr_room); (case qqk9 => first | exact BindsTo.of_eq rfl | exact binds_K (by k_in) rfl (by k_is) rfl rfl rfl); (case qqc5 => decide); (case qqkB => exact locs rfl); (case qqc2 => exact rfl); (case qqc3 => exact rfl); (case qqc4 => exact rfl); k_whole; intro gz' Lz' hz' FGz' Fz' Nz' Bz' Xz' Tz' kGz'; (try dsimp only); (try k_lift Bz'); (try k_fold)) | (refine' enterC ?qqk1 ?qqk2 ?qqk3 ?qqk4 ?qqk5 ?qqkA ?qqkF ?qqkK ?qqk6 ?qqk7 ?qqk8 ?qqk9 ?qqkB ?qqkD ?_ ?qqc2 ?qqc3 ?qqc4; (case qqkA => exact rfl); (case qqkF => exact rfl); (case qqkK => first | exact rfl | assumption); (case qqk1 => k_asm); (case qqk2 => k_asm); (case qqk3 => k_asm); (case qqk4 => k_asm); (case qqk5 => k_asm); (case qqk6 => k_is); (case qqk7 => k_is); (case qqk8 => ktr_room); (case qqk9 => first | exact BindsTo.of_eq rfl | exact binds_K (by k_in) rfl (by k_is) rfl rfl rfl); (case qqkB => exact rfl); (case qqkD => decide +kernel); (case qqc2 => exact rfl); (case qqc3 => exact rfl); (case qqc4 => exact rfl); k_whole; intro gz' Lz' hz' tkz' cellsz' FGz' Fz' Nz' Yz' Bz' Xz' Tz' l1z kGz'; (try k_lt l1z); k_cells Yz'; (try simp only [List.cons_append, List.nil_append] at Nz'); (try dsimp only); (try k_lift Bz'); (try k_fold)))
  k_with "m call ref" => (k_here; k_dflt (refine wpAny_call ?_; k_extra "tb_start"))
  k_with "m call type:type" => (k_here; (with_reducible show wpAny _ _ (call (Value.type "type") [Value.bytes _ _]) _ _ _); refine call_type_of (PySem.W.typeIs_bytes _ _ _) (by decide +kernel) ?_)
  k_with "m call type:type" => (k_here; (with_reducible show wpAny _ _ (call (Value.type "type") [Value.bool _]) _ _ _); refine call_type_of (Tx := "bool") rfl (by decide +kernel) ?_)
  k_with "m pyIter ref" => ((with_reducible show wpAny _ _ (pyIter (Value.ref _)) (fun it s₂ => LoopAtV _ _ _ _ _ _ _ _ _ it s₂) _ _); k_here; refine Held.mk ?_)
  k_with "m subscriptTail" => (k_here; (with_reducible show wpAny _ _ (subscriptTail _ _ (Value.bytes _ _) (Value.int _ _)) _ _ _); k_dflt (refine' by_item ?qqz ?qqa ?qqb ?_; (case qqz => assumption); (case qqa => first | assumption | omega); (case qqb => first | assumption | omega); k_whole); intro t9z)
  k_with "m setItem ref int" => (k_here; (with_reducible show wpAny _ _ (setItem (Value.ref _) (Value.int _ _) (Value.int _ _)) _ _ _); k_dflt (refine' ba_setU ?qqk1 ?qqk2 ?qqk3 ?qqk4 ?qqk5 ?qqk6 ?qqk7 ?qqk8 ?_; (case qqk1 => k_asm); (case qqk2 => k_asm); (case qqk3 => first | (refine' Upd.head ?_; assumption) | k_upd); (case qqk4 => first | assumption | omega); (case qqk5 => first | assumption | omega); (case qqk6 => first | assumption | omega); (case qqk7 => omega); (case qqk8 => exact_mod_cast UInt8.toNat_lt _); k_whole); intro hz' Fz' Nz'; (try k_sweep))
  k_with "m call type:bytes" => (k_here; (with_reducible show wpAny _ _ (call (Value.type "bytes") [Value.ref _]) _ _ _); (rename News _ _ _ _ => nEz); refine' ba_bytes (And.left (nEz (_, baObj _) ?qqm)) ?qqz ?_; (case qqm => exact .head _); (case qqz => omega); intro t9z k9z; (try dsimp only))
  k_with "bits" => (repeat' (first | (k_unfold; (try dsimp only)) | (goal_lacks InvEndN Held; k_end; wrow_close) | walk1 | (dsimp only; walk1) | (leave1; walk_say "STEP leave1"; try dsimp only) | fail "no step"))
  k_with "m InvEndN" => (refine Held.mk ?_)
  k_with "m eval ListComp" => (k_here; refine Held.mk ?_)
  trivial
section
noncomputable def octs (ms : List Int) : List Int := ms.flatMap fun x => [x / 256, x % 256]
noncomputable def octAt (ms : List Int) (i : Nat) : List Int := (ms[i]?.toList).flatMap fun x => [x / 256, x % 256]
theorem octs_flat (ms : List Int) : flat (octAt ms) ms.length = octs ms := by
  have : ∀ i, i ≤ ms.length → flat (octAt ms) i = octs (ms.take i) := fun i => by
    induction i with
    | zero => intro _; rfl
    | succ i ih =>
      intro h
      rw [flat_succ, ih (Nat.le_of_succ_le h), List.take_add_one]
      unfold octs octAt
      rw [List.flatMap_append]
  rw [this _ (Nat.le_refl _), List.take_length]
theorem octs_length (ms : List Int) : (octs ms).length = 2 * ms.length := by
  unfold octs
  induction ms with
  | nil => rfl
  | cons x r ih => rw [List.flatMap_cons, List.length_append, ih]; simp; omega
theorem ints_at {vs : List Value} {ms : List Int} (h : IntsAre vs ms) {i : Nat} {v : Value} (e : vs.toArray[i]? = some v) : ∃ x t, v = .int x t ∧ ms[i]? = some x := by
  rw [List.getElem?_toArray] at e
  induction h generalizing i with
  | nil => simp at e
  | cons y t _ ih => cases i with
    | zero => exact ⟨_, _, (Option.some.inj e).symm, rfl⟩
    | succ i => exact ih e
theorem octets_spec (w : World) (ax : Addr) (vs : List Value) (ms : List Int) (nn : Nat) (hi : IntsAre vs ms) (hb : ms.length ≤ 20) : Spec 20 w 229 [.ref ax] [] [(ax, PySem.W.listOf vs.toArray nn)] (RInts (octs ms)) := by
  unfold Spec; intros; rename_i hret
  refine wpAny_call ?_
  k_dflt k_extra "tb_start"
  k_extra "bits"
  refine nl_eval (F₀ := by k_asm) (by with_unfolding_all rfl) (by decide) (by rfl) (by decide) (by rfl) (by rfl) (by decide) ?_
  k_extra "bits"
  refine nsrc_list (its := vs.toArray) (nn := nn) (octAt ms) rfl (by assumption) (by assumption) (.head _) ?_ ?_ ?_
  · rw [List.size_toArray, hi.length, octs_flat, octs_length]; exact Nat.le_trans (Nat.mul_le_mul_left 2 hb) (by decide)
  · intro i v I oI C oC D ys m₂ h tk E' hin hP hC hx F N off ne
    obtain ⟨x, t, rfl, hx'⟩ := ints_at hi hP
    clear hP
    simp only [LCg.Off3, and_true] at off
    k_extra "bits"
    (rename News _ _ _ _ => nE); (try simp only [List.push_toArray] at nE)
    refine ⟨_, _, _, _, _, _, rfl, rfl, by assumption, nE, ?_, .head _, ?_, ?_, ?_, ?_⟩
    · exact fun p hp => .tail _ hp
    · first | k_ne | (exact Ne.symm (by assumption)) | omega
    · first | k_ne | (exact Ne.symm (by assumption)) | omega
    · first | k_ne | (exact Ne.symm (by assumption)) | omega
    · have e : octAt ms i = [x.fdiv 256, x.fmod 256] := by rw [Int.fdiv_eq_ediv_of_nonneg x (by decide), Int.fmod_eq_emod_of_nonneg x (by decide)]; simp [octAt, hx']
      rw [e]; exact .cons _ _ (.cons _ _ .nil)
  · intro D h tk ys F N off hys
    k_extra "bits"
    refine hret _ _ _ (back (by assumption) (by assumption) (by assumption) (fun p hp => (N p hp).1) fun p hp => .tail _ hp) ⟨_, _, _, rfl, fresh_of (by assumption) (N _ (.head _)).2.2 ?_, (N _ (.head _)).1, ?_⟩
    · intro b hb; rw [List.mem_singleton.mp hb]; exact off.1
    · rw [← octs_flat]; rwa [List.size_toArray, hi.length] at hys
end
theorem w_F12_0 : True := by
  k_with_none
  k_with "tb_start" => (first | (refine' code_defG ?qqk1 ?qqk2 ?qqk3 ?qqk4 ?qqk5 ?qqkA ?qqkF ?qqkK ?qqk6 ?qqk7 ?qqk8 ?qqk9 ?qqkB ?_ ?qqc2 ?qqc3 ?qqc4 ?qqc5; (case qqkA => exact rfl); (case qqkF => exact rfl); (case qqkK => first | exact rfl | assumption); (case qqk1 => k_asm); (case qqk2 => k_asm); (case qqk3 => k_asm); (case qqk4 => k_asm); (case qqk5 => k_asm); (case qqk6 => k_is); (case qqk7 => k_is); (case qqk8 => ktr_room); (case qqk9 => first | exact BindsTo.of_eq rfl | exact binds_K (by k_in) rfl (by k_is) rfl rfl rfl); (case qqc5 => decide); (case qqkB => exact locs rfl); (case qqc2 => exact rfl); (case qqc3 => exact rfl); (case qqc4 => exact rfl); k_whole; intro gz' Lz' hz' FGz' Fz' Nz' Bz' Xz' Tz' kGz'; (try dsimp only); (try k_lift Bz'); (try k_fold)) | (refine' enterC ?qqk1 ?qqk2 ?qqk3 ?qqk4 ?qqk5 ?qqkA ?qqkF ?qqkK ?qqk6 ?qqk7 ?qqk8 ?qqk9 ?qqkB ?qqkD ?_ ?qqc2 ?qqc3 ?qqc4; (case qqkA => exact rfl); (case qqkF => exact rfl); (case qqkK => first | exact rfl | assumption); (case qqk1 => k_asm); (case qqk2 => k_asm); (case qqk3 => k_asm); (case qqk4 => k_asm); (case qqk5 => k_asm); (case qqk6 => k_is); (case qqk7 => k_is); (case qqk8 => ktr_room); (case qqk9 => first | exact BindsTo.of_eq rfl | exact binds_K (by k_in) rfl (by k_is) rfl rfl rfl); (case qqkB => exact rfl); (case qqkD => decide +kernel); (case qqc2 => exact rfl); (case qqc3 => exact rfl); (case qqc4 => exact rfl); k_whole; intro gz' Lz' hz' tkz' cellsz' FGz' Fz' Nz' Yz' Bz' Xz' Tz' l1z kGz'; (try k_lt l1z); k_cells Yz'; (try simp only [List.cons_append, List.nil_append] at Nz'); (try dsimp only); (try k_lift Bz'); (try k_fold)))
  k_with "m call ref" => (k_here; k_dflt (refine wpAny_call ?_; k_extra "tb_start"))
  k_with "m call type:type" => (k_here; (with_reducible show wpAny _ _ (call (Value.type "type") [Value.bytes _ _]) _ _ _); refine call_type_of (PySem.W.typeIs_bytes _ _ _) (by decide +kernel) ?_)
  k_with "m call type:type" => (k_here; (with_reducible show wpAny _ _ (call (Value.type "type") [Value.bool _]) _ _ _); refine call_type_of (Tx := "bool") rfl (by decide +kernel) ?_)
  k_with "m pyIter ref" => ((with_reducible show wpAny _ _ (pyIter (Value.ref _)) (fun it s₂ => LoopAtV _ _ _ _ _ _ _ _ _ it s₂) _ _); k_here; refine Held.mk ?_)
  k_with "m subscriptTail" => (k_here; (with_reducible show wpAny _ _ (subscriptTail _ _ (Value.bytes _ _) (Value.int _ _)) _ _ _); k_dflt (refine' by_item ?qqz ?qqa ?qqb ?_; (case qqz => assumption); (case qqa => first | assumption | omega); (case qqb => first | assumption | omega); k_whole); intro t9z)
  k_with "m setItem ref int" => (k_here; (with_reducible show wpAny _ _ (setItem (Value.ref _) (Value.int _ _) (Value.int _ _)) _ _ _); k_dflt (refine' ba_setU ?qqk1 ?qqk2 ?qqk3 ?qqk4 ?qqk5 ?qqk6 ?qqk7 ?qqk8 ?_; (case qqk1 => k_asm); (case qqk2 => k_asm); (case qqk3 => first | (refine' Upd.head ?_; assumption) | k_upd); (case qqk4 => first | assumption | omega); (case qqk5 => first | assumption | omega); (case qqk6 => first | assumption | omega); (case qqk7 => omega); (case qqk8 => exact_mod_cast UInt8.toNat_lt _); k_whole); intro hz' Fz' Nz'; (try k_sweep))
  k_with "m call type:bytes" => (k_here; (with_reducible show wpAny _ _ (call (Value.type "bytes") [Value.ref _]) _ _ _); (rename News _ _ _ _ => nEz); refine' ba_bytes (And.left (nEz (_, baObj _) ?qqm)) ?qqz ?_; (case qqm => exact .head _); (case qqz => omega); intro t9z k9z; (try dsimp only))
  k_with "bits" => (repeat' (first | (k_unfold; (try dsimp only)) | (goal_lacks InvEndN Held; k_end; wrow_close) | walk1 | (dsimp only; walk1) | (leave1; walk_say "STEP leave1"; try dsimp only) | fail "no step"))
  k_with "m InvEndN" => (refine Held.mk ?_)
  k_with "m eval ListComp" => (k_here; refine Held.mk ?_)
  trivial
section
noncomputable def turnAt (xs : List Int) (w : Nat) (i : Nat) : List Int := ((xs.drop (i * w)).take w).reverse
theorem flat_len {g : Nat → List Int} {k : Nat} (h : ∀ i, (g i).length ≤ k) : ∀ {n : Nat}, (flat g n).length ≤ n * k
  | 0 => by simp [flat]
  | n + 1 => by rw [flat_succ, List.length_append, Nat.add_mul]; have := flat_len h (n := n); have := h n; omega
theorem turned_spec (w : World) (ax : Addr) (vs : List Value) (ms : List Int) (nn : Nat) (k n : Nat) (t : Tok) (hi : IntsAre vs ms) (hb : ms.length ≤ 1000) (hk : 0 < k) (hk1 : k ≤ 1000) (hn : ms.length = n * k) :
    Spec 20 w 234 [.ref ax, .int k t] [] [(ax, PySem.W.listOf vs.toArray nn)] (RInts (flat (turnAt ms k) n)) := by
  unfold Spec; intros; rename_i hret
  refine wpAny_call ?_
  k_dflt k_extra "tb_start"
  have hvl := hi.length
  k_extra "bits"
  refine nl_eval (F₀ := by k_asm) (by with_unfolding_all rfl) (by decide) (by rfl) (by decide) (by rfl) (by rfl) (by decide) ?_
  k_extra "bits"
  (rename IsRange _ _ _ _ _ _ _ _ => rgX)
  refine nsrc_range (n := n) (turnAt ms k) rfl (by assumption) (by assumption) rgX (small_up (by omega) (by omega) (by omega) (by omega) (by omega) (by omega)) ?_ ?_ ?_ ?_
  · rw [show ((ms.length : Nat) : Int) = (n : Int) * k by rw [hn]; push_cast; rfl]; exact size_mul (by omega)
  · exact Nat.le_trans (flat_len fun i => by unfold turnAt; rw [List.length_reverse, List.length_take]; exact Nat.min_le_left ..) (by rw [← hn]; exact Nat.le_trans hb (by decide))
  · intro i v I oI C oC D ys m₂ h tk E' hin hP hC hx F N off ne
    obtain ⟨_, t', rfl⟩ := hP
    have hm := Nat.mul_le_mul_right k (show i + 1 ≤ n from hin)
    rw [Nat.add_mul] at hm
    obtain ⟨a, ha⟩ : ∃ a : Nat, a = i * k := ⟨_, rfl⟩
    have ha' : 0 + (i : Int) * (k : Int) = (a : Int) := by rw [ha]; push_cast; omega
    rw [ha'] at hx
    have ha1 : a + k ≤ ms.length := by omega
    have ha2 : a + k ≤ 1000 := by omega
    simp only [LCg.Off3, and_true] at off
    k_extra "bits"
    refine ⟨_, _, _, _, _, _, rfl, rfl, by assumption, by assumption, fun p hp => .tail _ (.tail _ hp), .head _, by k_ne, by k_ne, by k_ne, ?_⟩
    have e : turnAt ms k i = (List.take (min ((a : Int) + (k : Int)).toNat ms.length - (a : Int).toNat) (List.drop (a : Int).toNat ms)).reverse := by
      rw [show min ((a : Int) + (k : Int)).toNat ms.length - (a : Int).toNat = k by omega, show (a : Int).toNat = i * k by omega]; rfl
    rw [e]; assumption
  · intro D h tk ys F N off hys
    k_extra "bits"
    refine hret _ _ _ (back (by assumption) (by assumption) (by assumption) (fun p hp => (N p hp).1) fun p hp => ?_) ⟨_, _, _, rfl, fresh_of (by assumption) (N _ (.head _)).2.2 ?_, (N _ (.head _)).1, ?_⟩
    · exact .tail _ (.tail _ (.tail _ hp))
    · intro b hb; rw [List.mem_singleton.mp hb]; exact off.2.2.1
    · exact hys
end
theorem w_F13_0 : True := by
  k_with_none
  k_with "tb_start" => (first | (refine' code_defG ?qqk1 ?qqk2 ?qqk3 ?qqk4 ?qqk5 ?qqkA ?qqkF ?qqkK ?qqk6 ?qqk7 ?qqk8 ?qqk9 ?qqkB ?_ ?qqc2 ?qqc3 ?qqc4 ?qqc5; (case qqkA => exact rfl); (case qqkF => exact rfl); (case qqkK => first | exact rfl | assumption); (case qqk1 => k_asm); (case qqk2 => k_asm); (case qqk3 => k_asm); (case qqk4 => k_asm); (case qqk5 => k_asm); (case qqk6 => k_is); (case qqk7 => k_is); (case qqk8 => ktr_room); (case qqk9 => first | exact BindsTo.of_eq rfl | exact binds_K (by k_in) rfl (by k_is) rfl rfl rfl); (case qqc5 => decide); (case qqkB => exact locs rfl); (case qqc2 => exact rfl); (case qqc3 => exact rfl); (case qqc4 => exact rfl); k_whole; intro gz' Lz' hz' FGz' Fz' Nz' Bz' Xz' Tz' kGz'; (try dsimp only); (try k_lift Bz'); (try k_fold)) | (refine' enterC ?qqk1 ?qqk2 ?qqk3 ?qqk4 ?qqk5 ?qqkA ?qqkF ?qqkK ?qqk6 ?qqk7 ?qqk8 ?qqk9 ?qqkB ?qqkD ?_ ?qqc2 ?qqc3 ?qqc4; (case qqkA => exact rfl); (case qqkF => exact rfl); (case qqkK => first | exact rfl | assumption); (case qqk1 => k_asm); (case qqk2 => k_asm); (case qqk3 => k_asm); (case qqk4 => k_asm); (case qqk5 => k_asm); (case qqk6 => k_is); (case qqk7 => k_is); (case qqk8 => ktr_room); (case qqk9 => first | exact BindsTo.of_eq rfl | exact binds_K (by k_in) rfl (by k_is) rfl rfl rfl); (case qqkB => exact rfl); (case qqkD => decide +kernel); (case qqc2 => exact rfl); (case qqc3 => exact rfl); (case qqc4 => exact rfl); k_whole; intro gz' Lz' hz' tkz' cellsz' FGz' Fz' Nz' Yz' Bz' Xz' Tz' l1z kGz'; (try k_lt l1z); k_cells Yz'; (try simp only [List.cons_append, List.nil_append] at Nz'); (try dsimp only); (try k_lift Bz'); (try k_fold)))
  k_with "m call ref" => (k_here; k_dflt (refine wpAny_call ?_; k_extra "tb_start"))
  k_with "m call type:type" => (k_here; (with_reducible show wpAny _ _ (call (Value.type "type") [Value.bytes _ _]) _ _ _); refine call_type_of (PySem.W.typeIs_bytes _ _ _) (by decide +kernel) ?_)
  k_with "m call type:type" => (k_here; (with_reducible show wpAny _ _ (call (Value.type "type") [Value.bool _]) _ _ _); refine call_type_of (Tx := "bool") rfl (by decide +kernel) ?_)
  k_with "m pyIter ref" => ((with_reducible show wpAny _ _ (pyIter (Value.ref _)) (fun it s₂ => LoopAtV _ _ _ _ _ _ _ _ _ it s₂) _ _); k_here; refine Held.mk ?_)
  k_with "m subscriptTail" => (k_here; (with_reducible show wpAny _ _ (subscriptTail _ _ (Value.bytes _ _) (Value.int _ _)) _ _ _); k_dflt (refine' by_item ?qqz ?qqa ?qqb ?_; (case qqz => assumption); (case qqa => first | assumption | omega); (case qqb => first | assumption | omega); k_whole); intro t9z)
  k_with "m setItem ref int" => (k_here; (with_reducible show wpAny _ _ (setItem (Value.ref _) (Value.int _ _) (Value.int _ _)) _ _ _); k_dflt (refine' ba_setU ?qqk1 ?qqk2 ?qqk3 ?qqk4 ?qqk5 ?qqk6 ?qqk7 ?qqk8 ?_; (case qqk1 => k_asm); (case qqk2 => k_asm); (case qqk3 => first | (refine' Upd.head ?_; assumption) | k_upd); (case qqk4 => first | assumption | omega); (case qqk5 => first | assumption | omega); (case qqk6 => first | assumption | omega); (case qqk7 => omega); (case qqk8 => exact_mod_cast UInt8.toNat_lt _); k_whole); intro hz' Fz' Nz'; (try k_sweep))
  k_with "m call type:bytes" => (k_here; (with_reducible show wpAny _ _ (call (Value.type "bytes") [Value.ref _]) _ _ _); (rename News _ _ _ _ => nEz); refine' ba_bytes (And.left (nEz (_, baObj _) ?qqm)) ?qqz ?_; (case qqm => exact .head _); (case qqz => omega); intro t9z k9z; (try dsimp only))
  k_with "bits" => (repeat' (first | (k_unfold; (try dsimp only)) | (goal_lacks InvEndN Held; k_end; wrow_close) | walk1 | (dsimp only; walk1) | (leave1; walk_say "STEP leave1"; try dsimp only) | fail "no step"))
  k_with "m InvEndN" => (refine Held.mk ?_)
  k_with "m eval ListComp" => (k_here; refine Held.mk ?_)
  trivial
section
noncomputable def rowOf (ms : List Int) (i : Nat) : List Int := (ms.drop (3 * i)).take 3
theorem row3 {ms : List Int} {i : Nat} {kk : Int} (hkk : kk = 0 + (i : Int) * 3) (hin : i < (ms.length + 2) / 3) : List.take (min (kk + 3).toNat ms.length - kk.toNat) (List.drop kk.toNat ms) = rowOf ms i ∧ 1 ≤ (rowOf ms i).length ∧ (rowOf ms i).length ≤ 3 := by
  refine ⟨?_, ?_, ?_⟩
  · rw [show kk.toNat = 3 * i by omega]
    apply List.ext_getElem?
    intro j
    simp only [rowOf, List.getElem?_take, List.getElem?_drop]
    split <;> split <;> first | rfl | omega | (rw [List.getElem?_eq_none (by omega)])
  · unfold rowOf; rw [List.length_take, List.length_drop]; omega
  · unfold rowOf; rw [List.length_take]; omega
noncomputable def numAt (X : List Int) (j : Nat) : Int := X.getD j 0 * 256 ^ (2 - j)
noncomputable def letAt (S : Int) (j : Nat) : Str := Txt.item (Str.ofString "ABCDEFGHIJKLMNOPQRSTUVWXYZabcdefghijklmnopqrstuvwxyz0123456789+/") ((S.fdiv (64 ^ j)).fmod 64)
noncomputable def lettersOf (X : List Int) : List Str := (List.range (X.length + 1)).map fun j => letAt ((List.range X.length).map (numAt X)).sum (3 - j)
noncomputable def tellTo (ms : List Int) : Nat → Str
  | 0 => Str.ofString ""
  | i + 1 => (tellTo ms i ++ Txt.join (Str.ofString "") (lettersOf (rowOf ms i))) ++ Txt.mul (Str.ofString "=") (3 - (rowOf ms i).length)
theorem ones_sum {f : Nat → Str} (h : ∀ j, (f j).length = 1) (n : Nat) : (((List.range n).map f).map (·.length)).sum = n := by
  induction n with
  | zero => rfl
  | succ n ih => rw [List.range_succ, List.map_append, List.map_append, List.sum_append_nat, ih]; show n + ((f n).length + 0) = n + 1; rw [h]
theorem ones_join {f : Nat → Str} (h : ∀ j, (f j).length = 1) (n : Nat) : (Txt.join (Str.ofString "") ((List.range n).map f)).length = n := by
  rw [KT.join_ones _ fun a ha => by obtain ⟨b, _, rfl⟩ := List.mem_map.mp ha; exact h b, List.length_map, List.length_range]
structure SL where
  told : Str
  tt : Tok
  oN : Obj
  oR : Obj
noncomputable abbrev ledL (a : Addr) (o : Obj) (ax : Addr) (ol : Obj) (c : SL) : List (Addr × Obj) := [(a + 1 + 1 + 1, c.oN), (a + 1 + 1, c.oR), (a + 1, o), (ax, ol)]
noncomputable abbrev psL (c : SL) : List (Str × Value) := [(Str.ofString "told", .str c.told c.tt)]
noncomputable abbrev noL (c : SL) : Prop := (∃ v, c.oN.data = .cell v) ∧ ∃ v, c.oR.data = .cell v
noncomputable def invL (ms : List Int) (i : Nat) (c : SL) : Prop := c.told = tellTo ms i ∧ c.told.length ≤ 4 * i
theorem endL {h₀ h' : Heap} {L a ax d1 d2 d3 d4 : Addr} {o1 o2 o3 o4 o ol oN' oR' : Obj} {m₀ m' : Str → Option Value} {own : List (Addr × Obj)} {adr : List Addr} {ms : List Int} {i : Nat} {s₁ : Shared} {tk : Nat} {x : Str} {told' : Str} {tt' : Tok} {vN vR : Option Value}
    (F : Fr h₀ L h' m') (N : News h₀ L h' ((d1, o1) :: (d2, o2) :: (d3, o3) :: (d4, o4) :: (a + 1 + 1 + 1, oN') :: (a + 1 + 1, oR') :: (a + 1, o) :: (ax, ol) :: own)) (fN : oN'.data = .cell vN) (fR : oR'.data = .cell vR) (ha : [a + 1 + 1 + 1, a + 1 + 1, a + 1, ax] = adr)
    (h1 : m' (Str.ofString "told") = some (.str told' tt')) (hr : ∀ z, z ≠ x → z ≠ Str.ofString "told" → m' z = m₀ z)
    (hp : invL ms (i + 1) ⟨told', tt', oN', oR'⟩) : InvEndN h₀ L (KstS (ledL a o ax ol) psL noL x [] m₀ (fun _ => invL ms (i + 1)) []) own adr s₁ { s₁ with heap := h', toks := tk } := by
  refine kst_end (pre := []) ⟨told', tt', oN', oR'⟩ F N (fun p hp => .tail _ (.tail _ (.tail _ (.tail _ ?_)))) (fun p hp => .tail _ (.tail _ (.tail _ (.tail _ (.tail _ (.tail _ (.tail _ (.tail _ hp)))))))) ha ⟨⟨_, fN⟩, ⟨_, fR⟩⟩ (fun p hp => ?_) (fun z z1 z2 _ => hr z z1 (z2 _ (.head _))) hp
  · rcases hp with _ | ⟨_, _ | ⟨_, _ | ⟨_, _ | ⟨_, hp⟩⟩⟩⟩
    · exact .head _
    · exact .tail _ (.head _)
    · exact .tail _ (.tail _ (.head _))
    · exact .tail _ (.tail _ (.tail _ (.head _)))
    · exact nomatch hp
  · rw [List.mem_singleton.mp hp]; exact h1
theorem lb64_spec (w : World) (ax : Addr) (vs : List Value) (ms : List Int) (nn : Nat) (t : Tok) (hi : IntsAre vs ms) (hb : ms.length ≤ 40) (hr : ∀ x ∈ ms, 0 ≤ x ∧ x < 256) :
    Spec 20 w 217 [.ref ax, .str (Str.ofString "+/") t] [] [(ax, PySem.W.listOf vs.toArray nn)] (RStr (tellTo ms ((ms.length + 2) / 3))) := by
  unfold Spec; intros; rename_i hret
  refine wpAny_call ?_
  k_dflt k_extra "tb_start"
  have hvl := hi.length
  k_extra "bits"
  (rename IsRange _ _ _ _ _ _ _ _ => rgX); (rename News _ _ _ _ => nE)
  refine' lp_range (n := (ms.length + 2) / 3) (ledL _ _ ax (PySem.W.listOf vs.toArray nn)) psL noL [] (invL ms) ⟨_, _, _, _⟩ rfl rgX (small_up (by omega) (by omega) (by omega) (by omega) (by omega) (by omega)) (by unfold Builtin.Range.rangeSize; rw [if_pos (by decide)]; split <;> omega) (by assumption) (news_tl nE) ⟨⟨_, by assumption⟩, ⟨_, by assumption⟩⟩ ?hk ?hp ?turn ?done
  case hk => intro p hp; rw [List.mem_singleton.mp hp]; rfl
  case hp => exact ⟨rfl, Nat.zero_le _⟩
  case turn =>
    rintro ⟨told, tt, oN, oR⟩ i kk t u h tk1 own hkk hin hoff hfacts hinv kFr kNews
    dsimp only [ledL, psL] at *
    simp only [List.cons_append, List.nil_append] at kNews
    clear hret
    obtain ⟨⟨vN, dN⟩, ⟨vR, dR⟩⟩ := hfacts
    dsimp only at dN dR
    simp only [List.map_cons, List.map_nil] at hoff
    refine cut fun r1 hr1 => ?_
    k_extra "bits"
    obtain ⟨eX, hX1, hX3⟩ := row3 (ms := ms) hkk hin
    (rename IntsAre _ _ => hI)
    rw [eX] at hI
    have hXl := hI.length
    have hXr : ∀ x ∈ rowOf ms i, 0 ≤ x ∧ x < 256 := fun x hx => hr x (List.mem_of_mem_drop (List.mem_of_mem_take hx))
    clear eX
    generalize hXe : rowOf ms i = X at *
    subst hr1
    k_extra "bits"
    refine cl_eval (F₀ := by k_asm) (by with_unfolding_all rfl) (by decide) (by rfl) (by decide) (by rfl) ?_
    k_extra "bits"
    (rename IsRange _ _ _ _ _ _ _ _ => rgY)
    refine csrc_range (n := X.length) (fun j v => ∃ t, v = Value.int (numAt X j) t) rfl (by assumption) (by assumption) rgY (small_up (by omega) (by omega) (by omega) (by omega) (by omega) (by omega)) ?_ ?_ ?_ ?_
    · have := size_mul (k := 1) (n := X.length) (by decide); rwa [Int.mul_one] at this
    · exact Nat.le_trans hX3 (by decide)
    · intro j v I oI C oC D ys m₂ h tk E' hin hP hC hx F N off ne
      obtain ⟨_, t', rfl⟩ := hP
      rw [show 0 + (j : Int) * 1 = (j : Int) by omega] at hx
      simp only [LCg.Off3, and_true] at off
      k_extra "bits"
      refine mul_int ?_ (IntMulOk.of_left (intBits_le_iff.mpr ?_))
      · refine ⟨_, _, rfl, by assumption, by assumption, exI ?_⟩
        unfold numAt
        rw [show ((2 : Int) - (j : Int)).toNat = 2 - j by omega]; rfl
      · have hx9 := hXr (X.getD (j : Int).toNat 0) (by rw [Int.toNat_natCast, List.getD_eq_getElem?_getD, List.getElem?_eq_getElem hin]; exact List.getElem_mem hin)
        omega
    · intro D h tk ys F N off hyl V
      have hS := vals_ints V
      rw [hyl] at hS
      clear V
      simp only [LCg.Off1, and_true] at off
      generalize hGe : (List.range X.length).map (numAt X) = G at *
      k_extra "bits"
      refine cl_eval (F₀ := by k_asm) (by with_unfolding_all rfl) (by decide) (by rfl) (by decide) (by rfl) ?_
      k_extra "bits"
      (rename IsRange _ _ _ _ _ _ _ _ => rgZ)
      refine csrc_range (n := X.length + 1) (fun j v => ∃ t, v = Value.str (letAt G.sum (3 - j)) t) rfl (by assumption) (by assumption) rgZ (small_down (by omega) (by omega) (by omega) (by omega)) ?_ ?_ ?_ ?_
      · rw [rangeSize_downNat]; omega
      · exact Nat.le_trans (Nat.succ_le_succ hX3) (by decide)
      · intro j v I oI C oC D ys m₂ h tk E' hin hP hC hx F N off ne
        obtain ⟨_, t', rfl⟩ := hP
        rw [show 3 + (j : Int) * (-1) = 3 - (j : Int) by omega] at hx
        simp only [LCg.Off3, and_true] at off
        have hq0 : 0 < (64 : Int) ^ (3 - j) := Int.pow_pos (by decide)
        have hq1 : (64 : Int) ^ (3 - j) ≤ 64 ^ 3 := by
          rcases (show 3 - j = 0 ∨ 3 - j = 1 ∨ 3 - j = 2 ∨ 3 - j = 3 by omega) with h | h | h | h <;> rw [h] <;> decide
        k_extra "bits"
        rw [show ((3 : Int) - (j : Int)).toNat = 3 - j by omega]
        unfold letAt
        generalize hqe : (64 : Int) ^ (3 - j) = q at *
        refine floordiv_int (by omega) ?_ (Or.inl (PyProof.noPylong_small (by omega)))
        have hr0 : 0 ≤ (G.sum.fdiv q).fmod 64 ∧ (G.sum.fdiv q).fmod 64 < 64 := by
          rw [Int.fmod_eq_emod_of_nonneg _ (by decide)]; exact ⟨Int.emod_nonneg _ (by decide), Int.emod_lt_of_pos _ (by decide)⟩
        k_extra "bits"
        exact ⟨_, _, rfl, by assumption, by assumption, exS (by rw [hqe])⟩
      · intro D h tk ys F N off hyl V
        have hJ := vals_strs V
        rw [hyl] at hJ
        clear V
        simp only [LCg.Off1, and_true] at off
        have hJ1 : (((List.range (X.length + 1)).map fun j => letAt G.sum (3 - j)).map (·.length)).sum = X.length + 1 := ones_sum (fun _ => rfl) _
        have hJ2 : (Txt.join (Str.ofString "") ((List.range (X.length + 1)).map fun j => letAt G.sum (3 - j))).length = X.length + 1 := ones_join (fun _ => rfl) _
        have hJ3 : ((List.range (X.length + 1)).map fun j => letAt G.sum (3 - j)).length = X.length + 1 := by rw [List.length_map, List.length_range]
        generalize hWe : ((List.range (X.length + 1)).map fun j => letAt G.sum (3 - j)) = W at *
        k_extra "bits"
        refine join_listW (PySem.IsL.isList (N _ (.head _)).1) hJ (by decide) (by rw [hJ1, hJ3]; omega) ?_
        intro t9 k9
        obtain ⟨htold, htl⟩ := hinv
        dsimp only at htold htl
        generalize hUe : Txt.join (Str.ofString "") W = U at *
        k_extra "bits"
        refine endL (by assumption) (by assumption) (by assumption) (by assumption) rfl rfl (fun z z1 z2 => (if_neg z2).trans ((if_neg z1).trans ((if_neg z2).trans (offB rfl)))) ⟨?_, ?_⟩
        · show _ = (tellTo ms i ++ Txt.join (Str.ofString "") (lettersOf (rowOf ms i))) ++ Txt.mul (Str.ofString "=") (3 - (rowOf ms i).length)
          rw [hXe, ← htold]
          unfold lettersOf
          rw [hGe, hWe, hUe]
        · dsimp only
          omega
  case done =>
    rintro ⟨told, tt, oN, oR⟩ u h tk1 hfacts hinv kFr kNews
    dsimp only [ledL, psL] at *
    k_extra "bits"
    exact hret _ _ _ (back (by assumption) (by assumption) (by assumption) (fun p hp => (kNews p hp).1) fun p hp => .tail _ (.tail _ (.tail _ hp))) (exS hinv.1)
end
theorem w_F14_0 : True := by
  k_with_none
  k_with "tb_start" => (first | (refine' code_defG ?qqk1 ?qqk2 ?qqk3 ?qqk4 ?qqk5 ?qqkA ?qqkF ?qqkK ?qqk6 ?qqk7 ?qqk8 ?qqk9 ?qqkB ?_ ?qqc2 ?qqc3 ?qqc4 ?qqc5; (case qqkA => exact rfl); (case qqkF => exact rfl); (case qqkK => first | exact rfl | assumption); (case qqk1 => k_asm); (case qqk2 => k_asm); (case qqk3 => k_asm); (case qqk4 => k_asm); (case qqk5 => k_asm); (case qqk6 => k_is); (case qqk7 => k_is); (case qqk8 => ktr_room); (case qqk9 => first | exact BindsTo.of_eq rfl | exact binds_K (by k_in) rfl (by k_is) rfl rfl rfl); (case qqc5 => decide); (case qqkB => exact locs rfl); (case qqc2 => exact rfl); (case qqc3 => exact rfl); (case qqc4 => exact rfl); k_whole; intro gz' Lz' hz' FGz' Fz' Nz' Bz' Xz' Tz' kGz'; (try dsimp only); (try k_lift Bz'); (try k_fold)) | (refine' enterC ?qqk1 ?qqk2 ?qqk3 ?qqk4 ?qqk5 ?qqkA ?qqkF ?qqkK ?qqk6 ?qqk7 ?qqk8 ?qqk9 ?qqkB ?qqkD ?_ ?qqc2 ?qqc3 ?qqc4; (case qqkA => exact rfl); (case qqkF => exact rfl); (case qqkK => first | exact rfl | assumption); (case qqk1 => k_asm); (case qqk2 => k_asm); (case qqk3 => k_asm); (case qqk4 => k_asm); (case qqk5 => k_asm); (case qqk6 => k_is); (case qqk7 => k_is); (case qqk8 => ktr_room); (case qqk9 => first | exact BindsTo.of_eq rfl | exact binds_K (by k_in) rfl (by k_is) rfl rfl rfl); (case qqkB => exact rfl); (case qqkD => decide +kernel); (case qqc2 => exact rfl); (case qqc3 => exact rfl); (case qqc4 => exact rfl); k_whole; intro gz' Lz' hz' tkz' cellsz' FGz' Fz' Nz' Yz' Bz' Xz' Tz' l1z kGz'; (try k_lt l1z); k_cells Yz'; (try simp only [List.cons_append, List.nil_append] at Nz'); (try dsimp only); (try k_lift Bz'); (try k_fold)))
  k_with "m call ref" => (k_here; k_dflt (refine wpAny_call ?_; k_extra "tb_start"))
  k_with "m call type:type" => (k_here; (with_reducible show wpAny _ _ (call (Value.type "type") [Value.bytes _ _]) _ _ _); refine call_type_of (PySem.W.typeIs_bytes _ _ _) (by decide +kernel) ?_)
  k_with "m call type:type" => (k_here; (with_reducible show wpAny _ _ (call (Value.type "type") [Value.bool _]) _ _ _); refine call_type_of (Tx := "bool") rfl (by decide +kernel) ?_)
  k_with "m pyIter ref" => ((with_reducible show wpAny _ _ (pyIter (Value.ref _)) (fun it s₂ => LoopAtV _ _ _ _ _ _ _ _ _ it s₂) _ _); k_here; refine Held.mk ?_)
  k_with "m subscriptTail" => (k_here; (with_reducible show wpAny _ _ (subscriptTail _ _ (Value.bytes _ _) (Value.int _ _)) _ _ _); k_dflt (refine' by_item ?qqz ?qqa ?qqb ?_; (case qqz => assumption); (case qqa => first | assumption | omega); (case qqb => first | assumption | omega); k_whole); intro t9z)
  k_with "m setItem ref int" => (k_here; (with_reducible show wpAny _ _ (setItem (Value.ref _) (Value.int _ _) (Value.int _ _)) _ _ _); k_dflt (refine' ba_setU ?qqk1 ?qqk2 ?qqk3 ?qqk4 ?qqk5 ?qqk6 ?qqk7 ?qqk8 ?_; (case qqk1 => k_asm); (case qqk2 => k_asm); (case qqk3 => first | (refine' Upd.head ?_; assumption) | k_upd); (case qqk4 => first | assumption | omega); (case qqk5 => first | assumption | omega); (case qqk6 => first | assumption | omega); (case qqk7 => omega); (case qqk8 => exact_mod_cast UInt8.toNat_lt _); k_whole); intro hz' Fz' Nz'; (try k_sweep))
  k_with "m call type:bytes" => (k_here; (with_reducible show wpAny _ _ (call (Value.type "bytes") [Value.ref _]) _ _ _); (rename News _ _ _ _ => nEz); refine' ba_bytes (And.left (nEz (_, baObj _) ?qqm)) ?qqz ?_; (case qqm => exact .head _); (case qqz => omega); intro t9z k9z; (try dsimp only))
  k_with "bits" => (repeat' (first | (k_unfold; (try dsimp only)) | (goal_lacks InvEndN Held; k_end; wrow_close) | walk1 | (dsimp only; walk1) | (leave1; walk_say "STEP leave1"; try dsimp only) | fail "no step"))
  k_with "m InvEndN" => (refine Held.mk ?_)
  k_with "m eval ListComp" => (k_here; refine Held.mk ?_)
  trivial
section
section
variable {M : Model} {A : Around} {E : Value → Shared → Prop} {s : Shared} {env : Env}
theorem cutJ {st : Stmt} {rest : List Stmt} {Q : Flow → Shared → Prop} (J : Shared → Prop) (h1 : wpAny M A (exec st env) (fun f s' => Held (f = .next ∧ J s')) E s) (h2 : ∀ s', J s' → wpAny M A (execs rest env) Q E s') : wpAny M A (execs (st :: rest) env) Q E s := by
  refine wpAny_execs_cons (wpAny_mono h1 (fun f s' h => ?_) fun _ _ e => e)
  obtain ⟨rfl, h⟩ := h
  exact h2 s' h
end
noncomputable def JVar (g : Heap) (L : Addr) (n : Str) (v : Str) (m : Str → Option Value) (s s' : Shared) : Prop :=
  ∃ h' tk' t', s' = { s with heap := h', toks := tk' } ∧ Fr g L h' (fun y => if y = n then some (.str v t') else m y)
noncomputable def kindText (q : Int) : Str := if q = 10 then Str.ofString "l" else if q = 12 then Str.ofString "s" else if q = 8 then Str.ofString "-" else if q = 6 then Str.ofString "b" else if q = 4 then Str.ofString "d" else if q = 2 then Str.ofString "c" else if q = 1 then Str.ofString "p" else Str.ofString "?"
theorem cutV {M : Model} {A : Around} {E : Value → Shared → Prop} {s : Shared} {env : Env} {st : Stmt} {rest : List Stmt} {Q : Flow → Shared → Prop} {g : Heap} {L : Addr} {m : Str → Option Value} (n v : Str) (_F : Fr g L s.heap m)
    (h1 : wpAny M A (exec st env) (fun f s' => Held (f = .next ∧ JVar g L n v m s s')) E s)
    (h2 : ∀ h' tk' t', Fr g L h' (fun y => if y = n then some (.str v t') else m y) → wpAny M A (execs rest env) Q E { s with heap := h', toks := tk' }) : wpAny M A (execs (st :: rest) env) Q E s :=
  cutJ _ h1 fun s' ⟨h', tk', t', e, F'⟩ => by subst e; exact h2 h' tk' t' F'
theorem kt1 {q k : Int} {v : Str} (h : q = k) (e : kindText k = v) : kindText q = v := by rw [h]; exact e
theorem kt0 {q : Int} (h1 : ¬ q = 10) (h2 : ¬ q = 12) (h3 : ¬ q = 8) (h4 : ¬ q = 6) (h5 : ¬ q = 4) (h6 : ¬ q = 2) (h7 : ¬ q = 1) : kindText q = Str.ofString "?" := by
  unfold kindText; rw [if_neg h1, if_neg h2, if_neg h3, if_neg h4, if_neg h5, if_neg h6, if_neg h7]
theorem jend {g : Heap} {L : Addr} {n v v' : Str} {m : Str → Option Value} {s : Shared} {h' : Heap} {tk' : Nat} {t' : Tok} (e : v = v') (F : Fr g L h' (fun y => if y = n then some (.str v' t') else m y)) :
    Held (True ∧ JVar g L n v m s { s with heap := h', toks := tk' }) := ⟨trivial, h', tk', t', rfl, e ▸ F⟩
theorem news_nil {g h : Heap} {L : Addr} {m : Str → Option Value} (_F : Fr g L h m) : News g L h [] := fun p hp => nomatch hp
noncomputable abbrev psG (c : Str × Tok) : List (Str × Value) := [(Str.ofString "text", .str c.1 c.2)]
noncomputable def bitAt (x : Int) (k : Nat) : Int := (x.fdiv (2 ^ k)).fmod 2
noncomputable abbrev setTab : List Str := [Str.ofString "Ss", Str.ofString "Ss", Str.ofString "Tt"]
noncomputable def signAt (x : Int) (k : Nat) : Str :=
  if (k : Int).fmod 3 = 2 ∧ bitAt x (11 - k / 3) = 1 then Txt.item (setTab.getD (k / 3) Str.empty) (bitAt x (8 - k)) else Txt.item (Str.ofString "-rwx") (((k : Int).fmod 3 + 1) * bitAt x (8 - k))
theorem signAt_set {x : Int} {k j : Nat} {b q q' : Int} (hj : k / 3 = j) (hq : (2 : Int) ^ (8 - k) = q) (hq' : (2 : Int) ^ (11 - j) = q') (h1 : (k : Int).fmod 3 = 2) (h2 : (x.fdiv q').fmod 2 = 1) (hb : (x.fdiv q).fmod 2 = b) : signAt x k = Txt.item (setTab.getD j Str.empty) b := by
  subst hj hq hq' hb; unfold signAt bitAt; exact if_pos ⟨h1, h2⟩
theorem signAt_not {x : Int} {k j : Nat} {b q q' : Int} (hj : k / 3 = j) (hq : (2 : Int) ^ (8 - k) = q) (hq' : (2 : Int) ^ (11 - j) = q') (h : ¬ (k : Int).fmod 3 = 2 ∨ ¬ (x.fdiv q').fmod 2 = 1) (hb : (x.fdiv q).fmod 2 = b) : signAt x k = Txt.item (Str.ofString "-rwx") (((k : Int).fmod 3 + 1) * b) := by
  subst hj hq hq' hb; unfold signAt bitAt; exact if_neg fun ⟨a, b⟩ => h.elim (· a) (· b)
theorem setTab_len {j : Nat} (h : j < 3) : (setTab.getD j Str.empty).length = 2 := by
  rcases (show j = 0 ∨ j = 1 ∨ j = 2 by omega) with rfl | rfl | rfl <;> rfl
noncomputable def signsTo (x : Int) : Nat → Str
  | 0 => kindText (x.fdiv 4096)
  | i + 1 => signsTo x i ++ signAt x i
theorem pow2_le {n : Nat} (h : n ≤ 8) : 0 < (2 : Int) ^ n ∧ (2 : Int) ^ n ≤ 256 :=
  (show ∀ m : Fin 9, 0 < (2 : Int) ^ m.val ∧ (2 : Int) ^ m.val ≤ 256 by decide) ⟨n, Nat.lt_succ_of_le h⟩
theorem pow2_le' {n : Nat} (h : n ≤ 11) : 0 < (2 : Int) ^ n ∧ (2 : Int) ^ n ≤ 2048 :=
  (show ∀ m : Fin 12, 0 < (2 : Int) ^ m.val ∧ (2 : Int) ^ m.val ≤ 2048 by decide) ⟨n, Nat.lt_succ_of_le h⟩
theorem kindText_len (q : Int) : (kindText q).length ≤ 1 := by
  unfold kindText
  repeat' split
  all_goals decide
theorem signs_spec (w : World) (x : Int) (t : Tok) (h0 : 0 ≤ x) (h1 : x < 65536) :
    Spec 20 w 224 [.int x t] [] [] (RStr (signsTo x 9)) := by
  unfold Spec; intros; rename_i hret
  refine wpAny_call ?_
  k_dflt k_extra "tb_start"
  (rename Fr _ _ _ _ => F1)
  with_reducible refine cutV (Str.ofString "text") (kindText (x.fdiv 4096)) F1 ?j1 ?j2
  case j1 =>
    k_extra "bits"
    all_goals first
      | exact jend (kt1 (q := x.fdiv 4096) (k := 10) (by assumption) rfl) (by assumption)
      | exact jend (kt1 (q := x.fdiv 4096) (k := 12) (by assumption) rfl) (by assumption)
      | exact jend (kt1 (q := x.fdiv 4096) (k := 8) (by assumption) rfl) (by assumption)
      | exact jend (kt1 (q := x.fdiv 4096) (k := 6) (by assumption) rfl) (by assumption)
      | exact jend (kt1 (q := x.fdiv 4096) (k := 4) (by assumption) rfl) (by assumption)
      | exact jend (kt1 (q := x.fdiv 4096) (k := 2) (by assumption) rfl) (by assumption)
      | exact jend (kt1 (q := x.fdiv 4096) (k := 1) (by assumption) rfl) (by assumption)
      | exact jend (kt0 (q := x.fdiv 4096) (by assumption) (by assumption) (by assumption) (by assumption) (by assumption) (by assumption) (by assumption)) (by assumption)
      | fail "open"
  case j2 =>
    intro h' tk' t' F'
    clear F1
    have N0 := news_nil F'
    k_extra "bits"
    (rename IsRange _ _ _ _ _ _ _ _ => rgX)
    refine' lp_range (n := 9) (fun _ => []) psG (fun _ => True) [Str.ofString "bit", Str.ofString "set_bit"] (fun i c => c.1 = signsTo x i ∧ c.1.length ≤ i + 1) (_, _) rfl rgX (by decide) (by decide) (by assumption) (fun p hp => nomatch hp) True.intro ?hk ?hp ?turn ?done
    case hk => intro p hp; rw [List.mem_singleton.mp hp]; rfl
    case hp => exact ⟨rfl, kindText_len _⟩
    case turn =>
      rintro ⟨text, tt⟩ i kk t9 u h tk1 own hkk hin hoff hfacts hinv kFr kNews
      dsimp only [psG] at *
      clear hret
      have hkk' : kk = i := by omega
      subst hkk'
      clear hkk
      have hq : 0 < (2 : Int) ^ (8 - i) ∧ (2 : Int) ^ (8 - i) ≤ 256 := pow2_le (by omega)
      have hq' : 0 < (2 : Int) ^ (11 - i / 3) ∧ (2 : Int) ^ (11 - i / 3) ≤ 2048 := pow2_le' (by omega)
      have e3 : (i : Int).fdiv 3 = ((i / 3 : Nat) : Int) := by rw [Int.fdiv_eq_ediv_of_nonneg _ (by decide)]; omega
      have hj3 : i / 3 < 3 := by omega
      generalize hje : i / 3 = j at *
      with_reducible refine cut fun r1 hr1 => ?_
      iterate 14 (all_goals try first | (k_unfold; (try dsimp only)) | walk1 | (dsimp only; walk1))
      rw [show ((8 : Int) - (i : Int)).toNat = 8 - i by omega]
      generalize hqe : (2 : Int) ^ (8 - i) = q at *
      refine floordiv_int (by omega) ?_ (Or.inl (PyProof.noPylong_small (by omega)))
      iterate 13 (all_goals try first | (k_unfold; (try dsimp only)) | walk1 | (dsimp only; walk1))
      refine floordiv_int (by decide) ?_ (Or.inl (PyProof.noPylong_small (by omega)))
      dsimp only
      rw [e3]
      iterate 2 (all_goals try first | (k_unfold; (try dsimp only)) | walk1 | (dsimp only; walk1))
      dsimp only
      rw [show ((11 : Int) - (j : Int)).toNat = 11 - j by omega]
      generalize hqe' : (2 : Int) ^ (11 - j) = q' at *
      refine floordiv_int (by omega) ?_ (Or.inl (PyProof.noPylong_small (by omega)))
      have hb1 : (x.fdiv q).fmod 2 = 0 ∨ (x.fdiv q).fmod 2 = 1 := by rw [Int.fmod_eq_emod_of_nonneg _ (by decide)]; omega
      have hb2 : (x.fdiv q').fmod 2 = 0 ∨ (x.fdiv q').fmod 2 = 1 := by rw [Int.fmod_eq_emod_of_nonneg _ (by decide)]; omega
      k_extra "bits"
      dsimp only
      generalize hbe : (x.fdiv q).fmod 2 = b at *
      generalize hbe' : (x.fdiv q').fmod 2 = b' at *
      subst hr1
      have hm3 : 0 ≤ (i : Int).fmod 3 ∧ (i : Int).fmod 3 < 3 := by rw [Int.fmod_eq_emod_of_nonneg _ (by decide)]; omega
      rcases hb1 with rfl | rfl
      all_goals k_extra "bits"
      all_goals try (
        dsimp only
        rw [e3]
        (rename News _ _ _ _ => nE)
        refine KTb.item_list (ws := setTab) (PySem.IsL.isList (nE _ (.head _)).1) (.cons _ _ (.cons _ _ (.cons _ _ .nil))) (by omega) (by show (j : Int) < 3; omega) (by omega) ?_
        intro t9 _
        rw [Int.toNat_natCast]
        have hl2 := setTab_len hj3
        generalize hWe : setTab.getD j Str.empty = W at *
        k_extra "bits")
      all_goals (
        refine kst_end (c := (_, _)) (by assumption) (by assumption) (fun p hp => nomatch hp) (fun p hp => ?_) rfl True.intro (fun p hp => by rw [List.mem_singleton.mp hp]; rfl) (fun z z1 z2 z3 => ?_) ⟨?_, ?_⟩
        · first | exact hp | exact .tail _ hp | exact .tail _ (.tail _ hp)
        · have y1 : z ≠ Str.ofString "text" := z2 _ (.head _)
          have y2 : z ≠ Str.ofString "bit" := by rintro rfl; exact absurd z3 (by decide)
          have y3 : z ≠ Str.ofString "set_bit" := by rintro rfl; exact absurd z3 (by decide)
          simp only [y1, y2, y3, z1, z3, if_false, kstB]
          first | rfl | fail "open"
        · obtain ⟨htx, _⟩ := hinv
          dsimp only at htx ⊢
          show _ = signsTo x i ++ signAt x i
          rw [← htx]
          congr 1
          first
            | (subst hWe; exact (signAt_set hje hqe hqe' (by assumption) (by rw [hbe']; assumption) hbe).symm)
            | exact (signAt_not hje hqe hqe' (.inl (by assumption)) hbe).symm
            | exact (signAt_not hje hqe hqe' (.inr (by rw [hbe']; assumption)) hbe).symm
            | fail "open"
        · obtain ⟨_, hlt⟩ := hinv
          dsimp only at hlt ⊢
          rw [Str.length_append]
          show _ + 1 ≤ _
          omega)
    case done =>
      rintro ⟨text, tt⟩ u h tk1 hfacts hinv kFr kNews
      dsimp only [psG] at *
      k_extra "bits"
      exact hret _ _ _ (back0 (by assumption) (by assumption)) (exS hinv.1)
end
theorem w_F15_0 : True := by
  k_with_none
  k_with "tb_start" => (first | (refine' code_defG ?qqk1 ?qqk2 ?qqk3 ?qqk4 ?qqk5 ?qqkA ?qqkF ?qqkK ?qqk6 ?qqk7 ?qqk8 ?qqk9 ?qqkB ?_ ?qqc2 ?qqc3 ?qqc4 ?qqc5; (case qqkA => exact rfl); (case qqkF => exact rfl); (case qqkK => first | exact rfl | assumption); (case qqk1 => k_asm); (case qqk2 => k_asm); (case qqk3 => k_asm); (case qqk4 => k_asm); (case qqk5 => k_asm); (case qqk6 => k_is); (case qqk7 => k_is); (case qqk8 => ktr_room); (case qqk9 => first | exact BindsTo.of_eq rfl | exact binds_K (by k_in) rfl (by k_is) rfl rfl rfl); (case qqc5 => decide); (case qqkB => exact locs rfl); (case qqc2 => exact rfl); (case qqc3 => exact rfl); (case qqc4 => exact rfl); k_whole; intro gz' Lz' hz' FGz' Fz' Nz' Bz' Xz' Tz' kGz'; (try dsimp only); (try k_lift Bz'); (try k_fold)) | (refine' enterC ?qqk1 ?qqk2 ?qqk3 ?qqk4 ?qqk5 ?qqkA ?qqkF ?qqkK ?qqk6 ?qqk7 ?qqk8 ?qqk9 ?qqkB ?qqkD ?_ ?qqc2 ?qqc3 ?qqc4; (case qqkA => exact rfl); (case qqkF => exact rfl); (case qqkK => first | exact rfl | assumption); (case qqk1 => k_asm); (case qqk2 => k_asm); (case qqk3 => k_asm); (case qqk4 => k_asm); (case qqk5 => k_asm); (case qqk6 => k_is); (case qqk7 => k_is); (case qqk8 => ktr_room); (case qqk9 => first | exact BindsTo.of_eq rfl | exact binds_K (by k_in) rfl (by k_is) rfl rfl rfl); (case qqkB => exact rfl); (case qqkD => decide +kernel); (case qqc2 => exact rfl); (case qqc3 => exact rfl); (case qqc4 => exact rfl); k_whole; intro gz' Lz' hz' tkz' cellsz' FGz' Fz' Nz' Yz' Bz' Xz' Tz' l1z kGz'; (try k_lt l1z); k_cells Yz'; (try simp only [List.cons_append, List.nil_append] at Nz'); (try dsimp only); (try k_lift Bz'); (try k_fold)))
  k_with "m call ref" => (k_here; k_dflt (refine wpAny_call ?_; k_extra "tb_start"))
  k_with "m call type:type" => (k_here; (with_reducible show wpAny _ _ (call (Value.type "type") [Value.bytes _ _]) _ _ _); refine call_type_of (PySem.W.typeIs_bytes _ _ _) (by decide +kernel) ?_)
  k_with "m call type:type" => (k_here; (with_reducible show wpAny _ _ (call (Value.type "type") [Value.bool _]) _ _ _); refine call_type_of (Tx := "bool") rfl (by decide +kernel) ?_)
  k_with "m pyIter ref" => ((with_reducible show wpAny _ _ (pyIter (Value.ref _)) (fun it s₂ => LoopAtV _ _ _ _ _ _ _ _ _ it s₂) _ _); k_here; refine Held.mk ?_)
  k_with "m subscriptTail" => (k_here; (with_reducible show wpAny _ _ (subscriptTail _ _ (Value.bytes _ _) (Value.int _ _)) _ _ _); k_dflt (refine' by_item ?qqz ?qqa ?qqb ?_; (case qqz => assumption); (case qqa => first | assumption | omega); (case qqb => first | assumption | omega); k_whole); intro t9z)
  k_with "m setItem ref int" => (k_here; (with_reducible show wpAny _ _ (setItem (Value.ref _) (Value.int _ _) (Value.int _ _)) _ _ _); k_dflt (refine' ba_setU ?qqk1 ?qqk2 ?qqk3 ?qqk4 ?qqk5 ?qqk6 ?qqk7 ?qqk8 ?_; (case qqk1 => k_asm); (case qqk2 => k_asm); (case qqk3 => first | (refine' Upd.head ?_; assumption) | k_upd); (case qqk4 => first | assumption | omega); (case qqk5 => first | assumption | omega); (case qqk6 => first | assumption | omega); (case qqk7 => omega); (case qqk8 => exact_mod_cast UInt8.toNat_lt _); k_whole); intro hz' Fz' Nz'; (try k_sweep))
  k_with "m call type:bytes" => (k_here; (with_reducible show wpAny _ _ (call (Value.type "bytes") [Value.ref _]) _ _ _); (rename News _ _ _ _ => nEz); refine' ba_bytes (And.left (nEz (_, baObj _) ?qqm)) ?qqz ?_; (case qqm => exact .head _); (case qqz => omega); intro t9z k9z; (try dsimp only))
  k_with "bits" => (repeat' (first | (k_unfold; (try dsimp only)) | (goal_lacks InvEndN Held; k_end; wrow_close) | walk1 | (dsimp only; walk1) | (leave1; walk_say "STEP leave1"; try dsimp only) | fail "no step"))
  k_with "m InvEndN" => (refine Held.mk ?_)
  k_with "m eval ListComp" => (k_here; refine Held.mk ?_)
  trivial
section
theorem w_F15_1 : True := by
  k_with "m call ref" => (k_here; k_dflt ( (refine' Spec.use (ifmt_spec _ _ _ ?qqp1 ?qqp2) ?qqk1 ?qqk2 ?qqk3 ?qqk4 ?qqk5 ?qqk6 ?qqk7 ?qqk8 ?qqk9 ?_); (case qqk1 => k_asm); (case qqk2 => k_asm); (case qqk3 => k_asm); (case qqk4 => k_asm); (case qqk5 => k_asm); (case qqk6 => first | exact rfl | assumption); (case qqk7 => ktr_room); (case qqk8 => ktr_units); (case qqk9 => (intro p9z h9z; nomatch h9z)); (case qqp1 => l_fact); (case qqp2 => l_fact); intro v9z h9z tk9z F9z N9z K9z hR9z; obtain ⟨t9z, e2z⟩ := hR9z; subst e2z; (try clear K9z); (try dsimp only); (try k_fold)))
  k_with "m exec For Tuple Call cons nil" => (refine Held.mk ?_)
  k_with "m exec For Tuple Name cons cons" => (refine Held.mk ?_)
  k_with "m call type:enumerate" => (refine Held.mk ?_)
  k_with "m call builtin:list.append" => (k_here; (with_reducible show wpAny _ _ (call (Value.builtin _) [Value.ref _, _]) _ _ _); k_dflt (refine' append_K ?qqk1 ?qqk2 ?qqk3 ?_ ?qqz; (case qqk1 => k_asm); (case qqk2 => k_asm); (case qqk3 => first | (refine' Upd.head ?_; assumption) | k_upd); (case qqz => size_fits); k_whole); intro hz' Fz' Nz'; (try k_sweep))
  trivial
noncomputable def tblK : List (Int × Str) := [(40960, Str.ofString "l"), (49152, Str.ofString "s"), (32768, Str.ofString "-"), (24576, Str.ofString "b"), (16384, Str.ofString "d"), (8192, Str.ofString "c"), (4096, Str.ofString "p")]
noncomputable def tblX (k s : Int) (a b : String) : List (Int × Str) := [(k + s, Str.ofString a), (s, Str.ofString b), (k, Str.ofString "x")]
noncomputable def tbl : List (List (Int × Str)) := [tblK, [(256, Str.ofString "r")], [(128, Str.ofString "w")], tblX 64 2048 "s" "S", [(32, Str.ofString "r")], [(16, Str.ofString "w")], tblX 8 1024 "s" "S", [(4, Str.ofString "r")], [(2, Str.ofString "w")], tblX 1 512 "t" "T"]
noncomputable def pickC (p : Int → Bool) (d : Str) : List (Int × Str) → Str
  | [] => d
  | (b, c) :: r => if p b then c else pickC p d r
noncomputable def testAt (x : Int) (i : Nat) (b : Int) : Bool := if i = 0 then x / 4096 * 4096 == b else Builtin.bitAnd x b == b
noncomputable def charAt (x : Int) (i : Nat) : Str := pickC (testAt x i) (if i = 0 then Str.ofString "?" else Str.ofString "-") (tbl.getD i [])
noncomputable def charsTo (x : Int) (i : Nat) : List Str := (List.range i).map (charAt x)
noncomputable def TabIs (h : Heap) (T : Addr) (ps : List (Int × Str)) : Prop := ∃ items : Array Value, h.IsTuple T items ∧ items.size = ps.length ∧ ∀ (j : Nat) v, items[j]? = some v → ∃ r b c t u, v = Value.ref r ∧ ps[j]? = some (b, c) ∧ h.IsTuple r #[.int b t, .str c u]
theorem charsTo_len (x : Int) (i : Nat) : (charsTo x i).length = i := by unfold charsTo; rw [List.length_map, List.length_range]
theorem charsTo_succ (x : Int) (i : Nat) : charsTo x (i + 1) = charsTo x i ++ [charAt x i] := by unfold charsTo; rw [List.range_succ, List.map_append]; rfl
theorem pick_drop {ps : List (Int × Str)} {j : Nat} {b : Int} {c : Str} (h : ps[j]? = some (b, c)) : ps.drop j = (b, c) :: ps.drop (j + 1) := by
  have hlt : j < ps.length := by
    rcases Nat.lt_or_ge j ps.length with h' | h'
    · exact h'
    · rw [List.getElem?_eq_none h'] at h; cases h
  rw [List.drop_eq_getElem_cons hlt, Option.some.inj ((List.getElem?_eq_getElem hlt).symm.trans h)]
theorem pick_hit {p : Int → Bool} {d : Str} {ps : List (Int × Str)} {j : Nat} {b : Int} {c q : Str} (h : ps[j]? = some (b, c)) (e : pickC p d (ps.drop j) = q) (hp : p b = true) : c = q := by
  rw [pick_drop h] at e; rw [← e]; exact (if_pos hp).symm
theorem pick_miss {p : Int → Bool} {d : Str} {ps : List (Int × Str)} {j : Nat} {b : Int} {c q : Str} (h : ps[j]? = some (b, c)) (e : pickC p d (ps.drop j) = q) (hp : p b = false) : pickC p d (ps.drop (j + 1)) = q := by
  rw [pick_drop h] at e; rw [← e]; exact (if_neg (by rw [hp]; exact Bool.false_ne_true)).symm
theorem pick_end {p : Int → Bool} {d : Str} {ps : List (Int × Str)} {j : Nat} {q : Str} (h : j = ps.length) (e : pickC p d (ps.drop j) = q) : d = q := by
  rw [h, List.drop_length] at e; exact e
theorem test0 {x b : Int} {i : Nat} (h : (i : Int) = 0) : testAt x i b = (x / 4096 * 4096 == b) := if_pos (by omega)
theorem test1 {x b : Int} {i : Nat} (h : ¬ (i : Int) = 0) : testAt x i b = (Builtin.bitAnd x b == b) := if_neg (by omega)
theorem pick_len {p : Int → Bool} {d : Str} (hd : d.length = 1) : ∀ {ps : List (Int × Str)}, (ps.all fun q => q.2.length == 1) = true → (pickC p d ps).length = 1
  | [], _ => hd
  | (b, c) :: r, h => by
    obtain ⟨h1, h2⟩ := Bool.and_eq_true_iff.mp h
    show (if p b then c else pickC p d r).length = 1
    split
    · exact beq_iff_eq.mp h1
    · exact pick_len hd h2
theorem tbl_ones : (tbl.all fun ps => ps.all fun q => q.2.length == 1) = true := by decide +kernel
theorem charAt_len (x : Int) (i : Nat) : (charAt x i).length = 1 := by
  refine pick_len (by split <;> decide) ?_
  rcases Nat.lt_or_ge i tbl.length with h | h
  · rw [List.getD_eq_getElem?_getD, List.getElem?_eq_getElem h]
    exact List.all_eq_true.mp tbl_ones _ (List.getElem_mem h)
  · rw [List.getD_eq_getElem?_getD, List.getElem?_eq_none h]; rfl
theorem ones_sumL {L : List Str} (h : ∀ a ∈ L, a.length = 1) : (L.map (·.length)).sum = L.length := by
  induction L with
  | nil => rfl
  | cons a r ih => rw [List.map_cons, List.sum_cons, ih fun b hb => h b (.tail _ hb), h a (.head _), List.length_cons, Nat.add_comm]
structure SF where
  vs : List Value
  n : Nat
  xs : List Str
noncomputable abbrev ledF (o : Addr) (c : SF) : List (Addr × Obj) := [(o, PySem.W.listOf c.vs.toArray c.n)]
noncomputable abbrev faF (c : SF) : Prop := StrsAre c.vs c.xs
noncomputable abbrev psF (_ : SF) : List (Str × Value) := []
theorem sa_snoc {vs : List Value} {xs : List Str} (h : StrsAre vs xs) (c : Str) (t : Tok) : StrsAre (vs ++ [.str c t]) (xs ++ [c]) := by
  induction h with
  | nil => exact .cons _ _ .nil
  | cons a b _ ih => exact .cons _ _ ih
theorem nc1 {z a : Str} (h : z ≠ a) : [a].contains z = false := by
  rw [Bool.eq_false_iff]; intro e; rw [List.contains_iff_mem, List.mem_singleton] at e; exact h e
theorem nc3 {z a b c : Str} (h : z ≠ a) (h2 : z ≠ b) (h3 : z ≠ c) : [a, b, c].contains z = false := by
  rw [Bool.eq_false_iff]; intro e; rw [List.contains_iff_mem] at e
  rcases e with _ | ⟨_, _ | ⟨_, _ | ⟨_, e⟩⟩⟩
  · exact h rfl
  · exact h2 rfl
  · exact h3 rfl
  · exact nomatch e
theorem endF {h₀ h' : Heap} {L o : Addr} {m₀ m' : Str → Option Value} {own news' : List (Addr × Obj)} {adr : List Addr} {x : Int} {i : Nat} {s₁ : Shared} {tk : Nat} {vs : List Value} {k : Nat} {xs : List Str} {c : Str} {u : Tok}
    (F : Fr h₀ L h' m') (N : News h₀ L h' ((o, PySem.W.listOf (vs ++ [Value.str c u]).toArray k) :: news')) (ho : ∀ p ∈ own, p ∈ news') (ha : [o] = adr) (hs : StrsAre vs xs) (hx : xs = charsTo x i) (hc : c = charAt x i)
    (hr : ∀ z, z ≠ Str.ofString "index" → z ≠ Str.ofString "table" → z ≠ Str.ofString "bit" → z ≠ Str.ofString "char" → m' z = m₀ z) :
    InvEndN h₀ L (KstS (ledF o) psF faF (Str.ofString "index") [Str.ofString "table", Str.ofString "bit", Str.ofString "char"] m₀ (fun _ c => c.xs = charsTo x (i + 1)) []) own adr s₁ { s₁ with heap := h', toks := tk } := by
  refine kst_end (pre := []) ⟨_, k, xs ++ [c]⟩ F N ?_ (fun p hp => .tail _ (ho p hp)) ha (sa_snoc hs c u) (fun p hp => nomatch hp) (fun z z1 _ z3 => hr z z1 ?_ ?_ ?_) (by show xs ++ [c] = _; rw [charsTo_succ, hx, hc])
  · intro p hp; rw [List.mem_singleton.mp hp]; exact .head _
  all_goals (rintro rfl; exact absurd z3 (by decide))
/-- the items of a tuple of the written part -/
noncomputable def tupIn (K : Frag) (T : Addr) : Option (List Value) := match K.lookup T with
  | some ⟨.type s, _, .seq items _, _⟩ => if s = "tuple" then some items.toList else none
  | _ => none
theorem tupIn_is {K : Frag} {h : Heap} (X : K.In h) {T : Addr} {l : List Value} (e : tupIn K T = some l) : h.IsTuple T l.toArray := by
  unfold tupIn at e
  split at e
  · rename_i s d items n sl hl
    split at e
    · rename_i hs
      cases e
      exact ⟨_, X _ _ hl, by rw [hs], n, rfl⟩
    · cases e
  · cases e
noncomputable def pairOk (K : Frag) : Value → Int × Str → Bool
  | .ref r, p => match tupIn K r with
    | some [.int b _, .str c _] => decide (b = p.1) && decide (c = p.2)
    | _ => false
  | _, _ => false
noncomputable def allOk {α : Type} (f : Value → α → Bool) : List Value → List α → Bool
  | [], [] => true
  | v :: r, p :: q => f v p && allOk f r q
  | _, _ => false
theorem allOk_at {α : Type} {f : Value → α → Bool} : ∀ {l : List Value} {ps : List α}, allOk f l ps = true → l.length = ps.length ∧ ∀ (j : Nat) (v : Value), l[j]? = some v → ∃ p, ps[j]? = some p ∧ f v p = true
  | [], [], _ => ⟨rfl, fun _ _ h => by simp at h⟩
  | [], _ :: _, h => by simp [allOk] at h
  | _ :: _, [], h => by simp [allOk] at h
  | v :: r, p :: q, h => by
    obtain ⟨h1, h2⟩ := Bool.and_eq_true_iff.mp h
    obtain ⟨h3, h4⟩ := allOk_at h2
    refine ⟨congrArg (· + 1) h3, fun j u hj => ?_⟩
    cases j with
    | zero => cases hj; exact ⟨p, rfl, h1⟩
    | succ j => exact h4 j u hj
noncomputable def tabOk (K : Frag) : Value → List (Int × Str) → Bool
  | .ref T, ps => match tupIn K T with
    | some l => allOk (pairOk K) l ps
    | none => false
  | _, _ => false
theorem tabs_ok (P : Params) : (match tupIn (Mine.hd.heap_39 P) 117 with | some l => allOk (tabOk (Mine.hd.heap_39 P)) l tbl | none => false) = true := by kernel_rfl
theorem pairOk_is {K : Frag} {h : Heap} (X : K.In h) {v : Value} {b : Int} {c : Str} (e : pairOk K v (b, c) = true) : ∃ r t u, v = Value.ref r ∧ h.IsTuple r #[.int b t, .str c u] := by
  unfold pairOk at e
  split at e
  · split at e
    · rename_i hl
      simp only [Bool.and_eq_true, decide_eq_true_eq] at e
      obtain ⟨e1, e2⟩ := e
      rw [e1, e2] at hl
      exact ⟨_, _, _, rfl, tupIn_is X hl⟩
    · cases e
  · cases e
theorem tabOk_is {K : Frag} {h : Heap} (X : K.In h) {v : Value} {ps : List (Int × Str)} (e : tabOk K v ps = true) : ∃ T, v = Value.ref T ∧ TabIs h T ps := by
  unfold tabOk at e
  split at e
  · split at e
    · rename_i l hl
      obtain ⟨h1, h2⟩ := allOk_at e
      refine ⟨_, rfl, l.toArray, tupIn_is X hl, by rw [List.size_toArray]; exact h1, fun j v hj => ?_⟩
      obtain ⟨⟨b, c⟩, g1, g2⟩ := h2 j v (by rwa [List.getElem?_toArray] at hj)
      obtain ⟨r, t, u, g3, g4⟩ := pairOk_is X g2
      exact ⟨r, b, c, t, u, g3, g1, g4⟩
    · cases e
  · cases e
theorem tab_all {w : World} {h : Heap} (X : (Mine.hd.heap_39 w.params).In h) : ∃ items : Array Value, h.IsTuple 117 items ∧ items.size = 10 ∧ ∀ (i : Nat) v, items[i]? = some v → ∃ T, v = Value.ref T ∧ TabIs h T (tbl.getD i []) := by
  have e := tabs_ok w.params
  split at e
  · rename_i l hl
    obtain ⟨h1, h2⟩ := allOk_at e
    refine ⟨l.toArray, tupIn_is X hl, by rw [List.size_toArray, h1]; rfl, fun i v hi => ?_⟩
    obtain ⟨ps, g1, g2⟩ := h2 i v (by rwa [List.getElem?_toArray] at hi)
    obtain ⟨T, g3, g4⟩ := tabOk_is X g2
    exact ⟨T, g3, by rw [List.getD_eq_getElem?_getD, g1]; exact g4⟩
  · cases e
theorem filemode_spec (w : World) (x : Int) (t : Tok) (h0 : 0 ≤ x) (h1 : x < 65536) : Spec 30 w 124 [.int x t] [] [] (RStr (Txt.join (Str.ofString "") (charsTo x 10))) := by
  unfold Spec; intros; rename_i hret
  refine wpAny_call ?_
  k_dflt k_extra "tb_start"
  k_extra "bits"
  refine wpAny_For ?_ (by intro _; rfl)
  k_extra "bits"
  (rename Frag.In _ _ => X9)
  obtain ⟨items, hItems, hSize, hAll⟩ := tab_all X9
  refine' lp_enum (ledF _) psF faF (Str.ofString "index") [Str.ofString "table", Str.ofString "bit", Str.ofString "char"] (fun i c => c.xs = charsTo x i) ⟨[], 0, []⟩ rfl ?hE hItems (by assumption) (by assumption) .nil (fun p hp => nomatch hp) rfl ?turn ?done
  case hE => passes_own
  case turn =>
    rintro ⟨vs, n, xs⟩ i T t9 v u h tk1 own hin hv hT hoff hfacts hinv kFr kNews
    dsimp only [ledF, psF, faF] at *
    simp only [List.cons_append, List.nil_append] at kNews
    clear hret
    have hvl : vs.length ≤ 10 := by have e1 := hfacts.length; rw [hinv, charsTo_len] at e1; omega
    obtain ⟨Tb, rfl, hTab⟩ := hAll i v hv
    k_extra "bits"
    refine wpAny_For ?_ (by intro _; rfl)
    k_extra "bits"
    obtain ⟨its, hIts, hSz, hPairs⟩ := hTab
    (rename News _ _ _ _ => nE)
    refine' lp_tup (σ := Unit) (fun _ => _) (fun _ => []) (fun _ => True) (Str.ofString "bit") [Str.ofString "char"] (fun j _ => pickC (testAt x i) (if i = 0 then Str.ofString "?" else Str.ofString "-") ((tbl.getD i []).drop j) = charAt x i) () rfl ?hE2 hIts (by assumption) nE True.intro (fun p hp => nomatch hp) rfl ?turn2 ?done2
    case hE2 => passes_own
    case turn2 =>
      rintro ⟨⟩ j v u h tk1 own2 hj hv2 hoff2 _ hinv2 kFr kNews
      dsimp only at *
      simp only [List.cons_append, List.nil_append] at kNews
      obtain ⟨r, b, c, t1, u1, rfl, hps, hT0⟩ := hPairs j v hv2
      have hown : ∀ p ∈ own ++ own2, p.1 ≠ _ := fun p hp => (List.mem_append.mp hp).elim (fun hp => hoff p hp _ (.head _)) (fun hp => hoff2 p hp _ (.head _))
      have hT2 := hT0.at fun o e => kFr.keep r o e
      k_extra "bits"
      all_goals ((rename News _ _ _ _ => nF); (try simp only [List.push_toArray] at nF))
      all_goals first
        | (refine endF (by assumption) nF (fun p hp => List.mem_append_left _ hp) rfl hfacts hinv ?_ (fun z z1 z2 z3 z4 => ?_)
           · first
               | exact pick_hit hps hinv2 (by rw [test0 (by assumption)]; exact beq_iff_eq.mpr (by assumption))
               | exact pick_hit hps hinv2 (by rw [test1 (by assumption)]; exact beq_iff_eq.mpr (by assumption))
           · simp only [z1, z2, z3, z4, nc1 z4, nc3 z2 z3 z4, Bool.false_eq_true, if_false, kstB])
        | (refine kst_end (c := ()) (by assumption) nF ?_ ?_ rfl ?_ ?_ (fun z z1 z2 z3 => ?_) ?_
           · intro p hp
             rcases List.mem_cons.mp hp with rfl | hp
             · exact .head _
             · exact .tail _ (List.mem_append_left _ hp)
           · intro p hp; exact .tail _ (List.mem_append_right _ hp)
           · exact True.intro
           · intro p hp; nomatch hp
           · have y3 : z ≠ Str.ofString "char" := by rintro rfl; exact absurd z3 (by decide)
             simp only [y3, z1, z3, Bool.false_eq_true, if_false, kstB]
           · first
               | exact pick_miss hps hinv2 (by rw [test0 (by assumption)]; exact beq_eq_false_iff_ne.mpr (by assumption))
               | exact pick_miss hps hinv2 (by rw [test1 (by assumption)]; exact beq_eq_false_iff_ne.mpr (by assumption)))
    case done2 =>
      rintro ⟨⟩ u h tk1 _ hinv2 kFr kNews
      k_extra "bits"
      all_goals ((rename News _ _ _ _ => nF); (try simp only [List.push_toArray] at nF))
      all_goals (
        refine endF (by assumption) nF (fun p hp => hp) rfl hfacts hinv ?_ (fun z z1 z2 z3 z4 => ?_)
        · have q := pick_end hSz hinv2
          first | (rw [if_pos (by omega)] at q; exact q) | (rw [if_neg (by omega)] at q; exact q)
        · simp only [z1, z2, z3, z4, nc1 z4, nc3 z2 z3 z4, Bool.false_eq_true, if_false, kstB])
  case done =>
    rintro ⟨vs, n, xs⟩ u h tk1 hfacts hinv kFr kNews
    dsimp only [ledF, psF, faF] at *
    k_extra "bits"
    have hvl := hfacts.length
    have hxl : xs.length = 10 := by rw [hinv, hSize, charsTo_len]
    have hones : ∀ a ∈ xs, a.length = 1 := fun a ha => by rw [hinv] at ha; obtain ⟨j, _, rfl⟩ := List.mem_map.mp ha; exact charAt_len x j
    refine join_listW (PySem.IsL.isList (kNews _ (.head _)).1) hfacts (by decide) (by rw [ones_sumL hones]; omega) ?_
    intro t9 k9
    k_extra "bits"
    exact hret _ _ _ (back0 (by assumption) (by assumption)) (exS (by rw [hinv, hSize]))
end
section
theorem str_ext {x y : Str} (h : x.cps = y.cps) : x = y := by cases x; cases y; exact congrArg Str.mk h
theorem cps_app (x y : Str) : (x ++ y).cps = x.cps ++ y.cps := rfl
theorem s_assoc (x y z : Str) : (x ++ y) ++ z = x ++ (y ++ z) := str_ext (by simp only [cps_app, Array.append_assoc])
theorem s_nil (x : Str) : x ++ Str.empty = x := str_ext (by rw [cps_app]; exact Array.append_empty)
theorem s_nil' : (Str.ofString "") = Str.empty := by decide +kernel
theorem join_cons (x : Str) (r : List Str) : Txt.join (Str.ofString "") (x :: r) = x ++ Txt.join (Str.ofString "") r := by
  show Builtin.Str.glued _ _ = _ ++ Builtin.Str.glued _ _
  rw [StrLaws.glued_eq_join, StrLaws.glued_eq_join, s_nil']
  cases r with
  | nil => exact (s_nil x).symm
  | cons y r => show (x ++ Str.empty) ++ _ = _; rw [s_nil]
theorem join_nil : Txt.join (Str.ofString "") [] = Str.empty := by
  show Builtin.Str.glued _ _ = _
  rw [StrLaws.glued_eq_join]; rfl
theorem kind16 : ∀ n : Fin 16, pickC (fun b => ((n.val : Nat) : Int) * 4096 == b) (Str.ofString "?") tblK = kindText ((n.val : Nat) : Int) := by decide +kernel
theorem char0 {x : Int} (h0 : 0 ≤ x) (h1 : x < 65536) : charAt x 0 = kindText (x.fdiv 4096) := by
  rw [Int.fdiv_eq_ediv_of_nonneg _ (by decide)]
  have := kind16 ⟨(x / 4096).toNat, by omega⟩
  rw [show (((x / 4096).toNat : Nat) : Int) = x / 4096 by omega] at this
  exact this
theorem and_bit (n k : Nat) : n &&& 2 ^ k = if n / 2 ^ k % 2 = 1 then 2 ^ k else 0 := by
  apply Nat.eq_of_testBit_eq
  intro i
  rw [Nat.testBit_and, Nat.testBit_two_pow]
  by_cases hi : k = i
  · subst hi
    rw [Nat.testBit_eq_decide_div_mod_eq]
    by_cases h : n / 2 ^ k % 2 = 1
    · rw [if_pos h, decide_eq_true h, Nat.testBit_two_pow]; rfl
    · rw [if_neg h, decide_eq_false h, Nat.zero_testBit]; rfl
  · rw [decide_eq_false hi, Bool.and_false]
    split
    · rw [Nat.testBit_two_pow, decide_eq_false hi]
    · rw [Nat.zero_testBit]
theorem band_nat (n m : Nat) : Builtin.bitAnd (n : Int) (m : Int) = ((n &&& m : Nat) : Int) := by
  unfold Builtin.bitAnd
  rw [decide_eq_true (Int.natCast_nonneg n), decide_eq_true (Int.natCast_nonneg m)]
  rfl
theorem one_bit {n k : Nat} (hk : 0 < 2 ^ k) : (Builtin.bitAnd (n : Int) ((2 ^ k : Nat) : Int) == ((2 ^ k : Nat) : Int)) = decide (n / 2 ^ k % 2 = 1) := by
  rw [band_nat, and_bit]
  generalize 2 ^ k = q at *
  by_cases h : n / q % 2 = 1
  · rw [if_pos h, decide_eq_true h]; exact beq_self_eq_true _
  · rw [if_neg h, decide_eq_false h]; exact beq_eq_false_iff_ne.mpr (by omega)
theorem two_bits {n i j : Nat} (hi : 0 < 2 ^ i) (hj : 0 < 2 ^ j) (ho : 2 ^ i ||| 2 ^ j = 2 ^ i + 2 ^ j) : (Builtin.bitAnd (n : Int) ((2 ^ i + 2 ^ j : Nat) : Int) == ((2 ^ i + 2 ^ j : Nat) : Int)) = (decide (n / 2 ^ i % 2 = 1) && decide (n / 2 ^ j % 2 = 1)) := by
  rw [band_nat, ← ho, Nat.and_or_distrib_left, and_bit, and_bit, ho]
  generalize hp : 2 ^ i = p at *
  generalize hq : 2 ^ j = q at *
  by_cases h : n / p % 2 = 1 <;> by_cases h' : n / q % 2 = 1
  · rw [if_pos h, if_pos h', decide_eq_true h, decide_eq_true h', ho]; exact beq_self_eq_true _
  · rw [if_pos h, if_neg h', decide_eq_true h, decide_eq_false h', Nat.or_zero]; exact beq_eq_false_iff_ne.mpr (by omega)
  · rw [if_neg h, if_pos h', decide_eq_false h, decide_eq_true h', Nat.zero_or]; exact beq_eq_false_iff_ne.mpr (by omega)
  · rw [if_neg h, if_neg h', decide_eq_false h, decide_eq_false h', Nat.or_zero]; exact beq_eq_false_iff_ne.mpr (by omega)
theorem bit_nat {n k : Nat} : bitAt (n : Int) k = ((n / 2 ^ k % 2 : Nat) : Int) := by
  unfold bitAt
  rw [Int.fdiv_eq_ediv_of_nonneg _ (Int.pow_nonneg (by decide)), Int.fmod_eq_emod_of_nonneg _ (by decide)]
  simp
noncomputable def flagOf (b : Bool) (c : String) : Str := if b then Str.ofString c else Str.ofString "-"
theorem char_one {n i k : Nat} {c : String} (ht : tbl.getD i [] = [(((2 ^ k : Nat) : Int), Str.ofString c)]) (hi : ¬ i = 0) : charAt (n : Int) i = flagOf (decide (n / 2 ^ k % 2 = 1)) c := by
  unfold charAt
  rw [ht, if_neg hi]
  show (if testAt (n : Int) i ((2 ^ k : Nat) : Int) then Str.ofString c else Str.ofString "-") = _
  unfold testAt flagOf
  rw [if_neg hi, one_bit (Nat.pow_pos (by decide))]
theorem char_two {n i k s : Nat} {a b : String} (ht : tbl.getD i [] = [(((2 ^ k + 2 ^ s : Nat) : Int), Str.ofString a), (((2 ^ s : Nat) : Int), Str.ofString b), (((2 ^ k : Nat) : Int), Str.ofString "x")]) (hi : ¬ i = 0) (ho : 2 ^ k ||| 2 ^ s = 2 ^ k + 2 ^ s) :
    charAt (n : Int) i = if n / 2 ^ s % 2 = 1 then (if n / 2 ^ k % 2 = 1 then Str.ofString a else Str.ofString b) else flagOf (decide (n / 2 ^ k % 2 = 1)) "x" := by
  unfold charAt
  rw [ht, if_neg hi]
  show (if testAt (n : Int) i ((2 ^ k + 2 ^ s : Nat) : Int) then Str.ofString a else if testAt (n : Int) i ((2 ^ s : Nat) : Int) then Str.ofString b else if testAt (n : Int) i ((2 ^ k : Nat) : Int) then Str.ofString "x" else Str.ofString "-") = _
  unfold testAt flagOf
  rw [if_neg hi, if_neg hi, if_neg hi, one_bit (Nat.pow_pos (by decide)), one_bit (Nat.pow_pos (by decide)), two_bits (Nat.pow_pos (by decide)) (Nat.pow_pos (by decide)) ho]
  by_cases h : n / 2 ^ k % 2 = 1 <;> by_cases h' : n / 2 ^ s % 2 = 1 <;> simp [h, h']
theorem sign_one {n k r : Nat} {c : String} (hr : ((k : Nat) : Int).fmod 3 + 1 = r) (hne : ¬ ((k : Nat) : Int).fmod 3 = 2) (h1 : Txt.item (Str.ofString "-rwx") ((r : Int) * 1) = Str.ofString c) : signAt (n : Int) k = flagOf (decide (n / 2 ^ (8 - k) % 2 = 1)) c := by
  unfold signAt flagOf
  rw [if_neg fun h => hne h.1, hr, bit_nat]
  rcases Nat.mod_two_eq_zero_or_one (n / 2 ^ (8 - k)) with e | e
  · have z : Txt.item (Str.ofString "-rwx") 0 = Str.ofString "-" := by decide +kernel
    rw [e]; show Txt.item _ ((r : Int) * 0) = _; rw [Int.mul_zero]; exact z
  · rw [e]; exact h1
theorem sign_two {n k : Nat} {a b : String} (hr : ((k : Nat) : Int).fmod 3 = 2) (ha : Txt.item (setTab.getD (k / 3) Str.empty) 1 = Str.ofString a) (hb : Txt.item (setTab.getD (k / 3) Str.empty) 0 = Str.ofString b) :
    signAt (n : Int) k = if n / 2 ^ (11 - k / 3) % 2 = 1 then (if n / 2 ^ (8 - k) % 2 = 1 then Str.ofString a else Str.ofString b) else flagOf (decide (n / 2 ^ (8 - k) % 2 = 1)) "x" := by
  unfold signAt flagOf
  rw [hr, bit_nat, bit_nat]
  rcases Nat.mod_two_eq_zero_or_one (n / 2 ^ (11 - k / 3)) with e | e <;> rcases Nat.mod_two_eq_zero_or_one (n / 2 ^ (8 - k)) with e' | e' <;> rw [e, e']
  · show Txt.item (Str.ofString "-rwx") ((2 + 1) * 0) = Str.ofString "-"; decide +kernel
  · show Txt.item (Str.ofString "-rwx") ((2 + 1) * 1) = Str.ofString "x"; decide +kernel
  · exact hb
  · exact ha
theorem signs_law {x : Int} (h0 : 0 ≤ x) (h1 : x < 65536) : Txt.join (Str.ofString "") (charsTo x 10) = signsTo x 9 := by
  have e : charsTo x 10 = [charAt x 0, charAt x 1, charAt x 2, charAt x 3, charAt x 4, charAt x 5, charAt x 6, charAt x 7, charAt x 8, charAt x 9] := rfl
  have e' : signsTo x 9 = ((((((((kindText (x.fdiv 4096) ++ signAt x 0) ++ signAt x 1) ++ signAt x 2) ++ signAt x 3) ++ signAt x 4) ++ signAt x 5) ++ signAt x 6) ++ signAt x 7) ++ signAt x 8 := rfl
  rw [e, e', char0 h0 h1]
  obtain ⟨n, rfl⟩ := Int.eq_ofNat_of_zero_le h0
  rw [char_one (i := 1) (k := 8) (c := "r") rfl (by decide), char_one (i := 2) (k := 7) (c := "w") rfl (by decide), char_two (i := 3) (k := 6) (s := 11) (a := "s") (b := "S") rfl (by decide) (by decide),
    char_one (i := 4) (k := 5) (c := "r") rfl (by decide), char_one (i := 5) (k := 4) (c := "w") rfl (by decide), char_two (i := 6) (k := 3) (s := 10) (a := "s") (b := "S") rfl (by decide) (by decide),
    char_one (i := 7) (k := 2) (c := "r") rfl (by decide), char_one (i := 8) (k := 1) (c := "w") rfl (by decide), char_two (i := 9) (k := 0) (s := 9) (a := "t") (b := "T") rfl (by decide) (by decide)]
  rw [sign_one (k := 0) (r := 1) (c := "r") rfl (by decide) (by decide +kernel), sign_one (k := 1) (r := 2) (c := "w") rfl (by decide) (by decide +kernel), sign_two (k := 2) (a := "s") (b := "S") rfl (by decide +kernel) (by decide +kernel),
    sign_one (k := 3) (r := 1) (c := "r") rfl (by decide) (by decide +kernel), sign_one (k := 4) (r := 2) (c := "w") rfl (by decide) (by decide +kernel), sign_two (k := 5) (a := "s") (b := "S") rfl (by decide +kernel) (by decide +kernel),
    sign_one (k := 6) (r := 1) (c := "r") rfl (by decide) (by decide +kernel), sign_one (k := 7) (r := 2) (c := "w") rfl (by decide) (by decide +kernel), sign_two (k := 8) (a := "t") (b := "T") rfl (by decide +kernel) (by decide +kernel)]
  simp only [join_cons, join_nil, s_nil, s_assoc]
end
theorem w_F16_0 : True := by
  k_with_none
  k_with "tb_start" => (first | (refine' code_defG ?qqk1 ?qqk2 ?qqk3 ?qqk4 ?qqk5 ?qqkA ?qqkF ?qqkK ?qqk6 ?qqk7 ?qqk8 ?qqk9 ?qqkB ?_ ?qqc2 ?qqc3 ?qqc4 ?qqc5; (case qqkA => exact rfl); (case qqkF => exact rfl); (case qqkK => first | exact rfl | assumption); (case qqk1 => k_asm); (case qqk2 => k_asm); (case qqk3 => k_asm); (case qqk4 => k_asm); (case qqk5 => k_asm); (case qqk6 => k_is); (case qqk7 => k_is); (case qqk8 => ktr_room); (case qqk9 => first | exact BindsTo.of_eq rfl | exact binds_K (by k_in) rfl (by k_is) rfl rfl rfl); (case qqc5 => decide); (case qqkB => exact locs rfl); (case qqc2 => exact rfl); (case qqc3 => exact rfl); (case qqc4 => exact rfl); k_whole; intro gz' Lz' hz' FGz' Fz' Nz' Bz' Xz' Tz' kGz'; (try dsimp only); (try k_lift Bz'); (try k_fold)) | (refine' enterC ?qqk1 ?qqk2 ?qqk3 ?qqk4 ?qqk5 ?qqkA ?qqkF ?qqkK ?qqk6 ?qqk7 ?qqk8 ?qqk9 ?qqkB ?qqkD ?_ ?qqc2 ?qqc3 ?qqc4; (case qqkA => exact rfl); (case qqkF => exact rfl); (case qqkK => first | exact rfl | assumption); (case qqk1 => k_asm); (case qqk2 => k_asm); (case qqk3 => k_asm); (case qqk4 => k_asm); (case qqk5 => k_asm); (case qqk6 => k_is); (case qqk7 => k_is); (case qqk8 => ktr_room); (case qqk9 => first | exact BindsTo.of_eq rfl | exact binds_K (by k_in) rfl (by k_is) rfl rfl rfl); (case qqkB => exact rfl); (case qqkD => decide +kernel); (case qqc2 => exact rfl); (case qqc3 => exact rfl); (case qqc4 => exact rfl); k_whole; intro gz' Lz' hz' tkz' cellsz' FGz' Fz' Nz' Yz' Bz' Xz' Tz' l1z kGz'; (try k_lt l1z); k_cells Yz'; (try simp only [List.cons_append, List.nil_append] at Nz'); (try dsimp only); (try k_lift Bz'); (try k_fold)))
  k_with "m call ref" => (k_here; k_dflt (refine wpAny_call ?_; k_extra "tb_start"))
  k_with "m call type:type" => (k_here; (with_reducible show wpAny _ _ (call (Value.type "type") [Value.bytes _ _]) _ _ _); refine call_type_of (PySem.W.typeIs_bytes _ _ _) (by decide +kernel) ?_)
  k_with "m call type:type" => (k_here; (with_reducible show wpAny _ _ (call (Value.type "type") [Value.bool _]) _ _ _); refine call_type_of (Tx := "bool") rfl (by decide +kernel) ?_)
  k_with "m pyIter ref" => ((with_reducible show wpAny _ _ (pyIter (Value.ref _)) (fun it s₂ => LoopAtV _ _ _ _ _ _ _ _ _ it s₂) _ _); k_here; refine Held.mk ?_)
  k_with "m subscriptTail" => (k_here; (with_reducible show wpAny _ _ (subscriptTail _ _ (Value.bytes _ _) (Value.int _ _)) _ _ _); k_dflt (refine' by_item ?qqz ?qqa ?qqb ?_; (case qqz => assumption); (case qqa => first | assumption | omega); (case qqb => first | assumption | omega); k_whole); intro t9z)
  k_with "m setItem ref int" => (k_here; (with_reducible show wpAny _ _ (setItem (Value.ref _) (Value.int _ _) (Value.int _ _)) _ _ _); k_dflt (refine' ba_setU ?qqk1 ?qqk2 ?qqk3 ?qqk4 ?qqk5 ?qqk6 ?qqk7 ?qqk8 ?_; (case qqk1 => k_asm); (case qqk2 => k_asm); (case qqk3 => first | (refine' Upd.head ?_; assumption) | k_upd); (case qqk4 => first | assumption | omega); (case qqk5 => first | assumption | omega); (case qqk6 => first | assumption | omega); (case qqk7 => omega); (case qqk8 => exact_mod_cast UInt8.toNat_lt _); k_whole); intro hz' Fz' Nz'; (try k_sweep))
  k_with "m call type:bytes" => (k_here; (with_reducible show wpAny _ _ (call (Value.type "bytes") [Value.ref _]) _ _ _); (rename News _ _ _ _ => nEz); refine' ba_bytes (And.left (nEz (_, baObj _) ?qqm)) ?qqz ?_; (case qqm => exact .head _); (case qqz => omega); intro t9z k9z; (try dsimp only))
  k_with "bits" => (repeat' (first | (k_unfold; (try dsimp only)) | (goal_lacks InvEndN Held; k_end; wrow_close) | walk1 | (dsimp only; walk1) | (leave1; walk_say "STEP leave1"; try dsimp only) | fail "no step"))
  k_with "m InvEndN" => (refine Held.mk ?_)
  k_with "m eval ListComp" => (k_here; refine Held.mk ?_)
  trivial
section
theorem w_F16_1 : True := by
  k_with "m call ref" => (k_here; k_dflt ( (first | refine' Spec.use (islnk_spec _ _ _ ?qqp1 ?qqp2) ?qqk1 ?qqk2 ?qqk3 ?qqk4 ?qqk5 ?qqk6 ?qqk7 ?qqk8 ?qqk9 ?_ | refine' Spec.use (issock_spec _ _ _ ?qqp1 ?qqp2) ?qqk1 ?qqk2 ?qqk3 ?qqk4 ?qqk5 ?qqk6 ?qqk7 ?qqk8 ?qqk9 ?_ | refine' Spec.use (isreg_spec _ _ _ ?qqp1 ?qqp2) ?qqk1 ?qqk2 ?qqk3 ?qqk4 ?qqk5 ?qqk6 ?qqk7 ?qqk8 ?qqk9 ?_ | refine' Spec.use (isblk_spec _ _ _ ?qqp1 ?qqp2) ?qqk1 ?qqk2 ?qqk3 ?qqk4 ?qqk5 ?qqk6 ?qqk7 ?qqk8 ?qqk9 ?_ | refine' Spec.use (isdir_spec _ _ _ ?qqp1 ?qqp2) ?qqk1 ?qqk2 ?qqk3 ?qqk4 ?qqk5 ?qqk6 ?qqk7 ?qqk8 ?qqk9 ?_ | refine' Spec.use (ischr_spec _ _ _ ?qqp1 ?qqp2) ?qqk1 ?qqk2 ?qqk3 ?qqk4 ?qqk5 ?qqk6 ?qqk7 ?qqk8 ?qqk9 ?_ | refine' Spec.use (isfifo_spec _ _ _ ?qqp1 ?qqp2) ?qqk1 ?qqk2 ?qqk3 ?qqk4 ?qqk5 ?qqk6 ?qqk7 ?qqk8 ?qqk9 ?_ | refine' Spec.use (ifmt_spec _ _ _ ?qqp1 ?qqp2) ?qqk1 ?qqk2 ?qqk3 ?qqk4 ?qqk5 ?qqk6 ?qqk7 ?qqk8 ?qqk9 ?_ | (refine' Spec.use (imode_spec _ _ _) ?qqk1 ?qqk2 ?qqk3 ?qqk4 ?qqk5 ?qqk6 ?qqk7 ?qqk8 ?qqk9 ?_) | refine' Spec.use (filemode_spec _ _ _ ?qqp1 ?qqp2) ?qqk1 ?qqk2 ?qqk3 ?qqk4 ?qqk5 ?qqk6 ?qqk7 ?qqk8 ?qqk9 ?_ | refine' Spec.use (signs_spec _ _ _ ?qqp1 ?qqp2) ?qqk1 ?qqk2 ?qqk3 ?qqk4 ?qqk5 ?qqk6 ?qqk7 ?qqk8 ?qqk9 ?_); (case qqk1 => k_asm); (case qqk2 => k_asm); (case qqk3 => k_asm); (case qqk4 => k_asm); (case qqk5 => k_asm); (case qqk6 => first | exact rfl | assumption); (case qqk7 => ktr_room); (case qqk8 => ktr_units); (case qqk9 => (intro p9z h9z; nomatch h9z)); (try case qqp1 => assumption); (try case qqp2 => assumption); intro v9z h9z tk9z F9z N9z K9z hR9z; (first | (obtain ⟨t9z, e2z⟩ := hR9z; subst e2z) | subst hR9z); (try clear K9z); (try dsimp only); (try k_fold)))
  trivial
noncomputable abbrev kinds : List Int := [10, 12, 8, 6, 4, 2, 1]
noncomputable abbrev kindB (x : Int) (k : Int) : Value := .bool (x / 4096 == k)
theorem vals_list {g : Nat → Value} {ys : List Value} (V : Vals (fun i v => v = g i) ys) : ys = (List.range ys.length).map g := by
  apply List.ext_getElem?
  intro j
  rw [List.getElem?_map]
  rcases Nat.lt_or_ge j ys.length with h | h
  · rw [List.getElem?_range h, List.getElem?_eq_getElem h]
    exact congrArg some (V j _ (List.getElem?_eq_getElem h))
  · rw [List.getElem?_eq_none h, List.getElem?_eq_none (by rw [List.length_range]; exact h)]; rfl
theorem right_spec (w : World) (x : Int) (t : Tok) (h0 : 0 ≤ x) (h1 : x < 65536) : Spec 50 w 239 [.int x t] [] [] (RBool true) := by
  unfold Spec; intros; rename_i hret
  refine wpAny_call ?_
  k_dflt k_extra "tb_start"
  k_extra "bits"
  refine cl_eval (F₀ := by k_asm) (by with_unfolding_all rfl) (by decide) (by rfl) (by decide) (by rfl) ?_
  k_extra "bits"
  (rename News _ _ _ _ => nE)
  have hfd : x.fdiv 4096 = x / 4096 := Int.fdiv_eq_ediv_of_nonneg x (by decide)
  have hfm : x.fmod 4096 = x % 4096 := Int.fmod_eq_emod_of_nonneg x (by decide)
  refine csrc_list (fun i v => v = kindB x (kinds.getD i 0)) rfl (by assumption) (by assumption) (.head _) (by show 7 ≤ sizeLine; decide) ?_ ?_
  · intro i v I oI C oC D ys m₂ h tk E' hin hP hC hx F N off ne
    obtain ⟨y, ty, rfl, hy⟩ := ints_at (ms := kinds) (.cons _ _ (.cons _ _ (.cons _ _ (.cons _ _ (.cons _ _ (.cons _ _ (.cons _ _ .nil))))))) hP
    clear hP
    simp only [LCg.Off3, and_true] at off
    k_extra "bits"
    refine ⟨_, _, rfl, by assumption, by assumption, ?_⟩
    show Value.bool (x.fdiv 4096 == y) = Value.bool (x / 4096 == kinds.getD i 0)
    rw [hfd, List.getD_eq_getElem?_getD, hy]; rfl
  · intro D h tk ys F N off hyl V
    have e : ys = [kindB x 10, kindB x 12, kindB x 8, kindB x 6, kindB x 4, kindB x 2, kindB x 1] := by rw [vals_list V, hyl]; rfl
    subst e
    clear V hyl
    simp only [LCg.Off1, and_true] at off
    k_extra "bits"
    all_goals first
      | (refine hret _ _ _ (back0 (by assumption) (by assumption)) ?_; show Value.bool _ = _; rw [signs_law h0 h1, beq_self_eq_true]; done)
      | exact absurd hfm.symm (by assumption)
      | exact absurd (show x / 4096 * 4096 = x.fdiv 4096 * 4096 by rw [hfd]) (by assumption)
end
theorem w_F17_0 : True := by
  k_with_none
  k_with "tb_start" => (first | (refine' code_defG ?qqk1 ?qqk2 ?qqk3 ?qqk4 ?qqk5 ?qqkA ?qqkF ?qqkK ?qqk6 ?qqk7 ?qqk8 ?qqk9 ?qqkB ?_ ?qqc2 ?qqc3 ?qqc4 ?qqc5; (case qqkA => exact rfl); (case qqkF => exact rfl); (case qqkK => first | exact rfl | assumption); (case qqk1 => k_asm); (case qqk2 => k_asm); (case qqk3 => k_asm); (case qqk4 => k_asm); (case qqk5 => k_asm); (case qqk6 => k_is); (case qqk7 => k_is); (case qqk8 => ktr_room); (case qqk9 => first | exact BindsTo.of_eq rfl | exact binds_K (by k_in) rfl (by k_is) rfl rfl rfl); (case qqc5 => decide); (case qqkB => exact locs rfl); (case qqc2 => exact rfl); (case qqc3 => exact rfl); (case qqc4 => exact rfl); k_whole; intro gz' Lz' hz' FGz' Fz' Nz' Bz' Xz' Tz' kGz'; (try dsimp only); (try k_lift Bz'); (try k_fold)) | (refine' enterC ?qqk1 ?qqk2 ?qqk3 ?qqk4 ?qqk5 ?qqkA ?qqkF ?qqkK ?qqk6 ?qqk7 ?qqk8 ?qqk9 ?qqkB ?qqkD ?_ ?qqc2 ?qqc3 ?qqc4; (case qqkA => exact rfl); (case qqkF => exact rfl); (case qqkK => first | exact rfl | assumption); (case qqk1 => k_asm); (case qqk2 => k_asm); (case qqk3 => k_asm); (case qqk4 => k_asm); (case qqk5 => k_asm); (case qqk6 => k_is); (case qqk7 => k_is); (case qqk8 => ktr_room); (case qqk9 => first | exact BindsTo.of_eq rfl | exact binds_K (by k_in) rfl (by k_is) rfl rfl rfl); (case qqkB => exact rfl); (case qqkD => decide +kernel); (case qqc2 => exact rfl); (case qqc3 => exact rfl); (case qqc4 => exact rfl); k_whole; intro gz' Lz' hz' tkz' cellsz' FGz' Fz' Nz' Yz' Bz' Xz' Tz' l1z kGz'; (try k_lt l1z); k_cells Yz'; (try simp only [List.cons_append, List.nil_append] at Nz'); (try dsimp only); (try k_lift Bz'); (try k_fold)))
  k_with "m call ref" => (k_here; k_dflt (refine wpAny_call ?_; k_extra "tb_start"))
  k_with "m call type:type" => (k_here; (with_reducible show wpAny _ _ (call (Value.type "type") [Value.bytes _ _]) _ _ _); refine call_type_of (PySem.W.typeIs_bytes _ _ _) (by decide +kernel) ?_)
  k_with "m call type:type" => (k_here; (with_reducible show wpAny _ _ (call (Value.type "type") [Value.bool _]) _ _ _); refine call_type_of (Tx := "bool") rfl (by decide +kernel) ?_)
  k_with "m pyIter ref" => ((with_reducible show wpAny _ _ (pyIter (Value.ref _)) (fun it s₂ => LoopAtV _ _ _ _ _ _ _ _ _ it s₂) _ _); k_here; refine Held.mk ?_)
  k_with "m subscriptTail" => (k_here; (with_reducible show wpAny _ _ (subscriptTail _ _ (Value.bytes _ _) (Value.int _ _)) _ _ _); k_dflt (refine' by_item ?qqz ?qqa ?qqb ?_; (case qqz => assumption); (case qqa => first | assumption | omega); (case qqb => first | assumption | omega); k_whole); intro t9z)
  k_with "m setItem ref int" => (k_here; (with_reducible show wpAny _ _ (setItem (Value.ref _) (Value.int _ _) (Value.int _ _)) _ _ _); k_dflt (refine' ba_setU ?qqk1 ?qqk2 ?qqk3 ?qqk4 ?qqk5 ?qqk6 ?qqk7 ?qqk8 ?_; (case qqk1 => k_asm); (case qqk2 => k_asm); (case qqk3 => first | (refine' Upd.head ?_; assumption) | k_upd); (case qqk4 => first | assumption | omega); (case qqk5 => first | assumption | omega); (case qqk6 => first | assumption | omega); (case qqk7 => omega); (case qqk8 => exact_mod_cast UInt8.toNat_lt _); k_whole); intro hz' Fz' Nz'; (try k_sweep))
  k_with "m call type:bytes" => (k_here; (with_reducible show wpAny _ _ (call (Value.type "bytes") [Value.ref _]) _ _ _); (rename News _ _ _ _ => nEz); refine' ba_bytes (And.left (nEz (_, baObj _) ?qqm)) ?qqz ?_; (case qqm => exact .head _); (case qqz => omega); intro t9z k9z; (try dsimp only))
  k_with "bits" => (repeat' (first | (k_unfold; (try dsimp only)) | (goal_lacks InvEndN Held; k_end; wrow_close) | walk1 | (dsimp only; walk1) | (leave1; walk_say "STEP leave1"; try dsimp only) | fail "no step"))
  k_with "m InvEndN" => (refine Held.mk ?_)
  k_with "m eval ListComp" => (k_here; refine Held.mk ?_)
  trivial
section
theorem w_F17_1 : True := by
  k_with "m call ref" => (k_here; k_dflt ( (first | refine' Spec.use (b2a_spec _ _ _ ?qqp1) ?qqk1 ?qqk2 ?qqk3 ?qqk4 ?qqk5 ?qqk6 ?qqk7 ?qqk8 ?qqk9 ?_ | refine' Spec.use (a2b_spec _ _ _ ?qqp1 ?qqp2 ?qqp3) ?qqk1 ?qqk2 ?qqk3 ?qqk4 ?qqk5 ?qqk6 ?qqk7 ?qqk8 ?qqk9 ?_); (case qqk1 => k_asm); (case qqk2 => k_asm); (case qqk3 => k_asm); (case qqk4 => k_asm); (case qqk5 => k_asm); (case qqk6 => first | exact rfl | assumption); (case qqk7 => ktr_room); (case qqk8 => ktr_units); (case qqk9 => (intro p9z h9z; nomatch h9z)); (try case qqp1 => assumption); (try case qqp2 => assumption); (try case qqp3 => assumption); intro v9z h9z tk9z F9z N9z K9z hR9z; (first | (obtain ⟨t9z, e2z⟩ := hR9z; subst e2z) | subst hR9z); (try clear K9z); (try dsimp only); (try k_fold)))
  k_with "m getMethod str" => (k_here; with_reducible refine method_encode ?_)
  k_with "m call builtin:str.encode" => (k_here; refine call_encode (by assumption) (by assumption) ?_; intro t9z k9z)
  trivial
theorem b64enc_spec (w : World) (b : Array UInt8) (t : Tok) (hb : b.size ≤ 1000) : Spec 40 w 197 [.bytes b t] [] [] (RBytes (byteArr (enc (KBw.bInts b)))) := by
  unfold Spec; intros; rename_i hret
  refine wpAny_call ?_
  k_dflt k_extra "tb_start"
  k_extra "bits"
  exact hret _ _ _ (back0 (by assumption) (by assumption)) ⟨_, rfl⟩
theorem b64dec_spec (w : World) (x : Str) (t : Tok) (ha : ∀ c ∈ x.cps.toList, c < 128) (hs : (asciiOut x).size ≤ 16777216) (hb : (asciiOut x).size ≤ 1000)
    (hq1 : (dec (KBw.bInts (asciiOut x))).2.1 ≠ 1) (hq2 : (dec (KBw.bInts (asciiOut x))).2.1 = 0 ∨ 4 ≤ (dec (KBw.bInts (asciiOut x))).2.1 + (dec (KBw.bInts (asciiOut x))).2.2.2.1) :
    Spec 50 w 205 [.str x t] [] [] (RBytes (byteArr (dec (KBw.bInts (asciiOut x))).1)) := by
  unfold Spec; intros; rename_i hret
  refine wpAny_call ?_
  k_dflt k_extra "tb_start"
  k_extra "bits"
  exact hret _ _ _ (back0 (by assumption) (by assumption)) ⟨_, rfl⟩
end
section
theorem ints_byteArr {D : List Int} (h : ∀ x ∈ D, 0 ≤ x ∧ x < 256) : KBw.bInts (byteArr D) = D := by
  unfold KBw.bInts byteArr
  rw [List.map_map]
  have : ∀ x ∈ D, ((fun c : UInt8 => (c.toNat : Int)) ∘ fun n : Int => n.toNat.toUInt8) x = x := fun x hx => by
    have := h x hx
    show (((x.toNat.toUInt8).toNat : Nat) : Int) = x
    rw [Nat.toUInt8, UInt8.toNat_ofNat', Nat.mod_eq_of_lt (by omega)]
    omega
  rw [List.map_congr_left this, List.map_id']
theorem byteArr_ints (b : Array UInt8) : byteArr (KBw.bInts b) = b := by
  unfold KBw.bInts byteArr
  rw [List.map_map]
  have : ∀ x ∈ b.toList, ((fun n : Int => n.toNat.toUInt8) ∘ fun c : UInt8 => (c.toNat : Int)) x = x := fun x _ => by
    show ((x.toNat : Int).toNat).toUInt8 = x
    rw [Int.toNat_natCast]; simp
  rw [List.map_congr_left this, List.map_id']
theorem asciiOut_text (b : Array UInt8) : asciiOut (asciiText b) = b := by
  unfold asciiOut asciiText
  have : ∀ (l : List UInt8) (a : Array UInt8), (l.map (·.toNat)).foldl (fun acc y => acc ++ #[y.toUInt8]) a = a ++ l.toArray := fun l => by
    induction l with
    | nil => intro a; simp
    | cons x r ih => intro a; rw [List.map_cons, List.foldl_cons, ih]; simp
  show Array.foldl _ _ (List.toArray _) = _
  rw [List.foldl_toArray, this]
  simp
theorem call_str2' {prog : Program} {w : World} {A : Around} {E : Value → Shared → Prop} {s : Shared} {b : Array UInt8} {x : Str} {t u : Tok} {Q : Value → Shared → Prop} (h0 : 0 < b.size) (h1 : ∀ a ∈ b.toList, a.toNat < 128) (h2 : b.size ≤ 16777216) (h3 : asciiText b = x)
    (hq : ∀ t' k, Q (.str x t') { s with toks := k }) : wpAny (model prog w) A (call (.type "str") [.bytes b t, .str (Str.ofString "ascii") u]) Q E s := by
  obtain ⟨l⟩ := b
  subst h3
  cases l with
  | nil => exact absurd h0 (by decide)
  | cons c cs => exact call_str2 h1 (by rw [sizeLine_eq]; exact h2) hq
theorem flat_get {g : Nat → List Int} {w : Nat} : ∀ {n : Nat}, (∀ i, i < n → (g i).length = w) → (flat g n).length = w * n ∧ ∀ i r, i < n → r < w → (flat g n)[w * i + r]? = (g i)[r]?
  | 0, _ => ⟨rfl, fun i r h _ => absurd h (Nat.not_lt_zero _)⟩
  | n + 1, h => by
    obtain ⟨a, b⟩ := flat_get (g := g) (w := w) (n := n) fun i hi => h i (Nat.lt_succ_of_lt hi)
    refine ⟨by rw [flat_succ, List.length_append, a, h n (Nat.lt_succ_self _), Nat.mul_succ], fun i r hi hr => ?_⟩
    rw [flat_succ]
    rcases Nat.lt_or_ge i n with e | e
    · rw [List.getElem?_append_left (by
        rw [a]
        have h2 : w * (i + 1) ≤ w * n := Nat.mul_le_mul_left w e
        rw [Nat.mul_succ] at h2
        omega)]
      exact b i r e hr
    · obtain rfl : i = n := by omega
      rw [List.getElem?_append_right (by rw [a]; omega), a, Nat.add_sub_cancel_left]
theorem turn_get {xs : List Int} {w n i r : Nat} (hb : xs.length = n * w) (hi : i < n) (hr : r < w) : (turnAt xs w i).length = w ∧ (turnAt xs w i)[r]? = xs[w * i + (w - 1 - r)]? := by
  have h2 : w * (i + 1) ≤ w * n := Nat.mul_le_mul_left w hi
  rw [Nat.mul_succ] at h2
  rw [Nat.mul_comm] at hb
  have e1 : i * w = w * i := Nat.mul_comm _ _
  have hl : ((xs.drop (i * w)).take w).length = w := by rw [List.length_take, List.length_drop, e1]; omega
  unfold turnAt
  refine ⟨by rw [List.length_reverse, hl], ?_⟩
  rw [List.getElem?_reverse (by rw [hl]; exact hr), hl, List.getElem?_take, if_pos (by omega), List.getElem?_drop, e1]
theorem split_at {w p n : Nat} (hw : 0 < w) (hp : p < n * w) : p / w < n ∧ p % w < w ∧ p = w * (p / w) + p % w :=
  ⟨Nat.div_lt_of_lt_mul (by rw [Nat.mul_comm]; exact hp), Nat.mod_lt _ hw, (Nat.div_add_mod p w).symm⟩
theorem sw_flat {b c : Array UInt8} {w n : Nat} (h : swO b w n c) (hb : b.size = n * w) (hw : 0 < w) : KBw.bInts c = flat (turnAt (KBw.bInts b) w) n := by
  have hlb : (KBw.bInts b).length = n * w := by rw [KBw.ints_length]; exact hb
  have hg : ∀ i, i < n → (turnAt (KBw.bInts b) w i).length = w := fun i hi => (turn_get hlb hi hw).1
  obtain ⟨f1, f2⟩ := flat_get hg
  apply List.ext_getElem?
  intro p
  rcases Nat.lt_or_ge p (n * w) with hp | hp
  · obtain ⟨d1, d2, d3⟩ := split_at hw hp
    generalize p / w = i at *
    generalize p % w = r at *
    subst d3
    rw [f2 i r d1 d2, (turn_get hlb d1 d2).2]
    have e := h.2 i d1 (w - 1 - r) (by omega)
    rw [show w - 1 - (w - 1 - r) = r by omega] at e
    simp only [KBw.bInts, List.getElem?_map, Array.getElem?_toList]
    rw [e]
  · rw [List.getElem?_eq_none (by rw [KBw.ints_length, h.1, hb]; exact hp), List.getElem?_eq_none (by rw [f1, Nat.mul_comm]; exact hp)]
theorem sw_back {b c c' : Array UInt8} {w n : Nat} (h : swO b w n c) (h' : swO c w n c') (hb : b.size = n * w) (hw : 0 < w) : c' = b := by
  apply Array.ext_getElem?
  intro p
  rcases Nat.lt_or_ge p (n * w) with hp | hp
  · obtain ⟨d1, d2, d3⟩ := split_at hw hp
    generalize p / w = i at *
    generalize p % w = r at *
    subst d3
    have e := h.2 i d1 r d2
    have e' := h'.2 i d1 (w - 1 - r) (by omega)
    rw [show w - 1 - (w - 1 - r) = r by omega] at e'
    rw [e', e]
  · rw [Array.getElem?_eq_none (by rw [h'.1, h.1, hb]; exact hp), Array.getElem?_eq_none (by rw [hb]; exact hp)]
noncomputable def encR : List Int → List Int
  | a :: b :: c :: r => bL (a / 4) :: bL (a % 4 * 16 + b / 16) :: bL (b % 16 * 4 + c / 64) :: bL (c % 64) :: encR r
  | [a, b] => [bL (a / 4), bL (a % 4 * 16 + b / 16), bL (b % 16 * 4), 61]
  | [a] => [bL (a / 4), bL (a % 4 * 16), 61, 61]
  | [] => []
theorem step0 {out : List Int} {lc a : Int} : encStep (out, 0, lc) a = (out ++ [bL ((lc * 256 + a) % 65536 / 4 % 64)], 2, (lc * 256 + a) % 65536) := if_pos rfl
theorem step2 {out : List Int} {lc a : Int} : encStep (out, 2, lc) a = (out ++ [bL ((lc * 256 + a) % 65536 / 16 % 64)], 4, (lc * 256 + a) % 65536) := by unfold encStep; rw [if_neg (show ¬ (2 : Int) = 0 by decide), if_pos rfl]
theorem step4 {out : List Int} {lc a : Int} : encStep (out, 4, lc) a = ((out ++ [bL ((lc * 256 + a) % 65536 / 64 % 64)]) ++ [bL ((lc * 256 + a) % 65536 % 64)], 0, (lc * 256 + a) % 65536) := by unfold encStep; rw [if_neg (show ¬ (4 : Int) = 0 by decide), if_neg (show ¬ (4 : Int) = 2 by decide)]
noncomputable abbrev By (a : Int) : Prop := 0 ≤ a ∧ a < 256
noncomputable abbrev Sx (a : Int) : Prop := 0 ≤ a ∧ a < 64
theorem lcs (lc a : Int) : 0 ≤ (lc * 256 + a) % 65536 := by omega
theorem mods {lc a : Int} (ha : By a) : (lc * 256 + a) % 65536 % 256 = a := by omega
theorem f1 {l a : Int} (h : l % 256 = a) : l / 4 % 64 = a / 4 := by omega
theorem f2 {l a b : Int} (h : l % 256 = a) (hb : By b) : (l * 256 + b) % 65536 / 16 % 64 = a % 4 * 16 + b / 16 := by omega
theorem f3 {l b c : Int} (h : l % 256 = b) (hc : By c) : (l * 256 + c) % 65536 / 64 % 64 = b % 16 * 4 + c / 64 := by omega
theorem f4 {l c : Int} (h : l % 256 = c) : l % 64 = c % 64 := by omega
theorem f5 {l a : Int} (h : l % 256 = a) : l % 4 * 16 = a % 4 * 16 := by omega
theorem f6 {l a : Int} (h : l % 256 = a) : l % 16 * 4 = a % 16 * 4 := by omega
theorem r1 {a : Int} (h : By a) : Sx (a / 4) := by unfold Sx; omega
theorem r2 {a b : Int} (h : By b) : Sx (a % 4 * 16 + b / 16) := by unfold Sx; omega
theorem r3 {b c : Int} (h : By c) : Sx (b % 16 * 4 + c / 64) := by unfold Sx; omega
theorem r4 (c : Int) : Sx (c % 64) := by unfold Sx; omega
theorem r5 (a : Int) : Sx (a % 4 * 16) := by unfold Sx; omega
theorem r6 (b : Int) : Sx (b % 16 * 4) := by unfold Sx; omega
theorem j1 {a b : Int} (h : By b) : a / 4 * 4 + (a % 4 * 16 + b / 16) / 16 = a := by omega
theorem j2 {a b c : Int} (h : By b) (h' : By c) : (a % 4 * 16 + b / 16) % 16 * 16 + (b % 16 * 4 + c / 64) / 4 = b := by omega
theorem j3 {b c : Int} (h : By c) : (b % 16 * 4 + c / 64) % 4 * 64 + c % 64 = c := by omega
theorem j4 (a : Int) : a / 4 * 4 + a % 4 * 16 / 16 = a := by omega
theorem j5 {a b : Int} (h : By b) : (a % 4 * 16 + b / 16) % 16 * 16 + b % 16 * 4 / 4 = b := by omega
theorem by0 {a : Int} {D : List Int} (h : ∀ x ∈ a :: D, 0 ≤ x ∧ x < 256) : By a ∧ ∀ x ∈ D, 0 ≤ x ∧ x < 256 := ⟨h a List.mem_cons_self, fun x hx => h x (List.mem_cons_of_mem _ hx)⟩
theorem enc_R : ∀ (D out : List Int) (lc : Int), (∀ x ∈ D, 0 ≤ x ∧ x < 256) → encFin (D.foldl encStep (out, 0, lc)) = out ++ encR D
  | [], out, lc, _ => (List.append_nil out).symm
  | [a], out, lc, hr => by
    have ha := mods (lc := lc) (by0 hr).1
    show encFin (encStep (out, 0, lc) a) = _
    rw [step0, f1 ha]
    show ((out ++ [_]) ++ [bL ((lc * 256 + a) % 65536 % 4 * 16)] ++ [61]) ++ [61] = _
    rw [f5 ha, List.append_assoc, List.append_assoc, List.append_assoc]; rfl
  | [a, b], out, lc, hr => by
    have ha := mods (lc := lc) (by0 hr).1
    have hb := (by0 (by0 hr).2).1
    show encFin (encStep (encStep (out, 0, lc) a) b) = _
    rw [step0, f1 ha, step2, f2 ha hb]
    have hb' := mods (lc := (lc * 256 + a) % 65536) hb
    show ((out ++ [_]) ++ [_] ++ [bL (((lc * 256 + a) % 65536 * 256 + b) % 65536 % 16 * 4)]) ++ [61] = _
    rw [f6 hb', List.append_assoc, List.append_assoc, List.append_assoc]; rfl
  | a :: b :: c :: r, out, lc, hr => by
    have ha := mods (lc := lc) (by0 hr).1
    have hb := (by0 (by0 hr).2).1
    have hc := (by0 (by0 (by0 hr).2).2).1
    have hb' := mods (lc := (lc * 256 + a) % 65536) hb
    have hc' := mods (lc := ((lc * 256 + a) % 65536 * 256 + b) % 65536) hc
    show encFin (r.foldl encStep (encStep (encStep (encStep (out, 0, lc) a) b) c)) = _
    rw [step0, f1 ha, step2, f2 ha hb, step4, f3 hb' hc, f4 hc', enc_R r _ _ (by0 (by0 (by0 hr).2).2).2, List.append_assoc, List.append_assoc, List.append_assoc, List.append_assoc]; rfl
theorem enc_eq {D : List Int} (hr : ∀ x ∈ D, 0 ≤ x ∧ x < 256) : enc D = encR D := enc_R D [] 0 hr
theorem bL64 : ∀ n : Fin 64, (0 ≤ bL ((n.val : Nat) : Int) ∧ bL ((n.val : Nat) : Int) < 128) ∧ b64v (bL ((n.val : Nat) : Int)) = ((n.val : Nat) : Int) ∧ bL ((n.val : Nat) : Int) ≠ 61 := by decide +kernel
theorem bL_all {i : Int} (h : Sx i) : (0 ≤ bL i ∧ bL i < 128) ∧ b64v (bL i) = i ∧ bL i ≠ 61 := by
  obtain ⟨n, rfl⟩ := Int.eq_ofNat_of_zero_le h.1
  exact bL64 ⟨n, Int.ofNat_lt.mp h.2⟩
theorem all_cons {P : Int → Prop} {a : Int} {l : List Int} (h : P a) (h' : ∀ x ∈ l, P x) : ∀ x ∈ a :: l, P x := fun x hx => (List.mem_cons.mp hx).elim (fun e => e ▸ h) (h' x)
noncomputable abbrev Lo (x : Int) : Prop := 0 ≤ x ∧ x < 128
theorem encR_low : ∀ {D : List Int}, (∀ x ∈ D, 0 ≤ x ∧ x < 256) → ∀ x ∈ encR D, Lo x
  | [], _ => fun x hx => nomatch hx
  | [_], hr => all_cons (bL_all (r1 (by0 hr).1)).1 (all_cons (bL_all (r5 _)).1 (all_cons (P := Lo) (a := 61) (by decide) (all_cons (P := Lo) (a := 61) (by decide) fun x hx => nomatch hx)))
  | [_, _], hr => all_cons (bL_all (r1 (by0 hr).1)).1 (all_cons (bL_all (r2 (by0 (by0 hr).2).1)).1 (all_cons (bL_all (r6 _)).1 (all_cons (P := Lo) (a := 61) (by decide) fun x hx => nomatch hx)))
  | _ :: _ :: _ :: _, hr => all_cons (bL_all (r1 (by0 hr).1)).1 (all_cons (bL_all (r2 (by0 (by0 hr).2).1)).1 (all_cons (bL_all (r3 (by0 (by0 (by0 hr).2).2).1)).1 (all_cons (bL_all (r4 _)).1 (encR_low (by0 (by0 (by0 hr).2).2).2))))
theorem encR_len : ∀ {D : List Int}, (encR D).length ≤ 2 * D.length + 3 ∧ (0 < D.length → 0 < (encR D).length)
  | [] => ⟨by decide, fun h => absurd h (by decide)⟩
  | [a] => ⟨Nat.le_of_ble_eq_true rfl, fun _ => Nat.succ_pos _⟩
  | [a, b] => ⟨Nat.le_of_ble_eq_true rfl, fun _ => Nat.succ_pos _⟩
  | a :: b :: c :: r => by
    have := (encR_len (D := r)).1
    refine ⟨?_, fun _ => Nat.succ_pos _⟩
    show (encR r).length + 1 + 1 + 1 + 1 ≤ 2 * (r.length + 1 + 1 + 1) + 3
    omega
theorem byteArr_size (D : List Int) : (byteArr D).size = D.length := by unfold byteArr; rw [List.size_toArray, List.length_map]
theorem enc_size {D : List Int} (hr : ∀ x ∈ D, 0 ≤ x ∧ x < 256) : (byteArr (enc D)).size ≤ 2 * D.length + 3 ∧ (0 < D.length → 0 < (byteArr (enc D)).size) := by
  rw [byteArr_size, enc_eq hr]; exact encR_len
theorem enc_ascii {D : List Int} (hr : ∀ x ∈ D, 0 ≤ x ∧ x < 256) : ∀ a ∈ (byteArr (enc D)).toList, a.toNat < 128 := by
  rw [enc_eq hr]
  intro a ha
  have : a ∈ (encR D).map fun n : Int => n.toNat.toUInt8 := ha
  obtain ⟨x, hx, rfl⟩ := List.mem_map.mp this
  have := encR_low hr x hx
  rw [Nat.toUInt8, UInt8.toNat_ofNat', Nat.mod_eq_of_lt (by omega)]
  omega
theorem not64 {i : Int} (h : Sx i) : ¬ (64 : Int) ≤ i := Int.not_le.mpr h.2
theorem dec0 {out : List Int} {lc p n i : Int} (h : Sx i) : decStep (out, 0, lc, p, n) (bL i) = (out, 1, i, 0, n + 1) := by
  unfold decStep
  rw [if_neg (bL_all h).2.2, (bL_all h).2.1, if_neg (not64 h), if_pos rfl]
theorem dec1 {out : List Int} {lc p n i : Int} (h : Sx i) : decStep (out, 1, lc, p, n) (bL i) = (out ++ [lc * 4 + i / 16], 2, i % 16, 0, n + 1) := by
  unfold decStep
  rw [if_neg (bL_all h).2.2, (bL_all h).2.1, if_neg (not64 h), if_neg (show ¬ (1 : Int) = 0 by decide), if_pos rfl]
theorem dec2 {out : List Int} {lc p n i : Int} (h : Sx i) : decStep (out, 2, lc, p, n) (bL i) = (out ++ [lc * 16 + i / 4], 3, i % 4, 0, n + 1) := by
  unfold decStep
  rw [if_neg (bL_all h).2.2, (bL_all h).2.1, if_neg (not64 h), if_neg (show ¬ (2 : Int) = 0 by decide), if_neg (show ¬ (2 : Int) = 1 by decide), if_pos rfl]
theorem dec3 {out : List Int} {lc p n i : Int} (h : Sx i) : decStep (out, 3, lc, p, n) (bL i) = (out ++ [lc * 64 + i], 0, 0, 0, n + 1) := by
  unfold decStep
  rw [if_neg (bL_all h).2.2, (bL_all h).2.1, if_neg (not64 h), if_neg (show ¬ (3 : Int) = 0 by decide), if_neg (show ¬ (3 : Int) = 1 by decide), if_neg (show ¬ (3 : Int) = 2 by decide)]
theorem decP {c : D5} : decStep c 61 = (c.1, c.2.1, c.2.2.1, c.2.2.2.1 + 1, c.2.2.2.2 + 1) := if_pos rfl
noncomputable def DecEnd (D : List Int) (c : D5) : Prop := c.1 = D ∧ c.2.1 ≠ 1 ∧ (c.2.1 = 0 ∨ 4 ≤ c.2.1 + c.2.2.2.1)
theorem dec_R : ∀ (D out : List Int) (lc p n : Int), (∀ x ∈ D, 0 ≤ x ∧ x < 256) → DecEnd (out ++ D) ((encR D).foldl decStep (out, 0, lc, p, n))
  | [], out, lc, p, n, _ => ⟨(List.append_nil _).symm, show (0 : Int) ≠ 1 by decide, .inl rfl⟩
  | [a], out, lc, p, n, hr => by
    show DecEnd _ (decStep (decStep (decStep (decStep (out, 0, lc, p, n) (bL _)) (bL _)) 61) 61)
    rw [dec0 (r1 (by0 hr).1), dec1 (r5 _), decP, decP, j4]
    exact ⟨rfl, show (2 : Int) ≠ 1 by decide, .inr (show (4 : Int) ≤ 2 + (0 + 1 + 1) by decide)⟩
  | [a, b], out, lc, p, n, hr => by
    have hb := (by0 (by0 hr).2).1
    show DecEnd _ (decStep (decStep (decStep (decStep (out, 0, lc, p, n) (bL _)) (bL _)) (bL _)) 61)
    rw [dec0 (r1 (by0 hr).1), dec1 (r2 hb), dec2 (r6 _), decP, j1 hb, j5 hb]
    exact ⟨List.append_assoc _ _ _, show (3 : Int) ≠ 1 by decide, .inr (show (4 : Int) ≤ 3 + (0 + 1) by decide)⟩
  | a :: b :: c :: r, out, lc, p, n, hr => by
    have hb := (by0 (by0 hr).2).1
    have hc := (by0 (by0 (by0 hr).2).2).1
    show DecEnd _ ((encR r).foldl decStep (decStep (decStep (decStep (decStep (out, 0, lc, p, n) (bL _)) (bL _)) (bL _)) (bL _)))
    rw [dec0 (r1 (by0 hr).1), dec1 (r2 hb), dec2 (r3 hc), dec3 (r4 _), j1 hb, j2 hb hc, j3 hc]
    have ih := dec_R r (out ++ [a] ++ [b] ++ [c]) 0 0 (n + 1 + 1 + 1 + 1) (by0 (by0 (by0 hr).2).2).2
    rw [List.append_assoc, List.append_assoc, List.append_assoc] at ih
    exact ih
theorem dec_enc {D : List Int} (hr : ∀ x ∈ D, 0 ≤ x ∧ x < 256) : (dec (KBw.bInts (byteArr (enc D)))).1 = D ∧ (dec (KBw.bInts (byteArr (enc D)))).2.1 ≠ 1 ∧
    ((dec (KBw.bInts (byteArr (enc D)))).2.1 = 0 ∨ 4 ≤ (dec (KBw.bInts (byteArr (enc D)))).2.1 + (dec (KBw.bInts (byteArr (enc D)))).2.2.2.1) := by
  rw [enc_eq hr, ints_byteArr fun x hx => ⟨(encR_low hr x hx).1, Int.lt_trans (encR_low hr x hx).2 (by decide)⟩]
  exact dec_R D [] 0 0 0 hr
noncomputable def T8 (l : List Int) : Str := asciiText (byteArr l)
theorem T_app (a b : List Int) : T8 (a ++ b) = T8 a ++ T8 b := str_ext (by rw [cps_app]; unfold T8 asciiText byteArr; simp)
theorem T_nil : T8 [] = Str.empty := rfl
theorem letters64 : ∀ n : Fin 64, Txt.item (Str.ofString "ABCDEFGHIJKLMNOPQRSTUVWXYZabcdefghijklmnopqrstuvwxyz0123456789+/") ((n.val : Nat) : Int) = T8 [bL ((n.val : Nat) : Int)] := by decide +kernel
theorem letAt_eq {S q : Int} {j : Nat} (h : (S.fdiv (64 ^ j)).fmod 64 = q) (h0 : 0 ≤ q) (h1 : q < 64) : letAt S j = T8 [bL q] := by
  unfold letAt
  rw [h]
  have := letters64 ⟨q.toNat, by omega⟩
  rwa [show ((q.toNat : Nat) : Int) = q by omega] at this
theorem fd {S m : Int} (hm : 0 ≤ m) : (S.fdiv m).fmod 64 = S / m % 64 := by rw [Int.fdiv_eq_ediv_of_nonneg _ hm, Int.fmod_eq_emod_of_nonneg _ (by decide)]
theorem let3 {S q : Int} (h : S / 262144 % 64 = q) (h0 : 0 ≤ q) (h1 : q < 64) : letAt S 3 = T8 [bL q] := letAt_eq ((fd (m := 64 ^ 3) (by decide)).trans h) h0 h1
theorem let2 {S q : Int} (h : S / 4096 % 64 = q) (h0 : 0 ≤ q) (h1 : q < 64) : letAt S 2 = T8 [bL q] := letAt_eq ((fd (m := 64 ^ 2) (by decide)).trans h) h0 h1
theorem let1 {S q : Int} (h : S / 64 % 64 = q) (h0 : 0 ≤ q) (h1 : q < 64) : letAt S 1 = T8 [bL q] := letAt_eq ((fd (m := 64 ^ 1) (by decide)).trans h) h0 h1
theorem let0 {S q : Int} (h : S % 64 = q) (h0 : 0 ≤ q) (h1 : q < 64) : letAt S 0 = T8 [bL q] := letAt_eq ((fd (m := 64 ^ 0) (by decide)).trans (by rw [show (64 : Int) ^ 0 = 1 from rfl, Int.ediv_one]; exact h)) h0 h1
theorem g1 {a b c S : Int} (hb : By b) (hc : By c) (ha : By a) (e : S = a * 65536 + b * 256 + c) : S / 262144 % 64 = a / 4 := by omega
theorem g2 {a b c S : Int} (hb : By b) (hc : By c) (e : S = a * 65536 + b * 256 + c) : S / 4096 % 64 = a % 4 * 16 + b / 16 := by omega
theorem g3 {a b c S : Int} (hc : By c) (e : S = a * 65536 + b * 256 + c) : S / 64 % 64 = b % 16 * 4 + c / 64 := by omega
theorem g4 {a b c S : Int} (e : S = a * 65536 + b * 256 + c) : S % 64 = c % 64 := by omega
theorem by00 : By 0 := by decide
theorem z16 (a : Int) : a + 0 / 16 = a := Int.add_zero a
theorem z64 (a : Int) : a + 0 / 64 = a := Int.add_zero a
theorem e1 (a : Int) : a * 65536 + 0 = a * 65536 + 0 * 256 + 0 := by rw [Int.zero_mul, Int.add_zero, Int.add_zero]
theorem e2 (a b : Int) : a * 65536 + (b * 256 + 0) = a * 65536 + b * 256 + 0 := by rw [Int.add_zero, Int.add_zero]
theorem e3 (a b c : Int) : a * 65536 + (b * 256 + (c * 1 + 0)) = a * 65536 + b * 256 + c := by rw [Int.add_zero, Int.mul_one, Int.add_assoc]
theorem mul1 : Txt.mul (Str.ofString "=") (3 - ((1 : Nat) : Int)) = T8 [61, 61] := by decide +kernel
theorem mul2 : Txt.mul (Str.ofString "=") (3 - ((2 : Nat) : Int)) = T8 [61] := by decide +kernel
theorem mul3 : Txt.mul (Str.ofString "=") (3 - ((3 : Nat) : Int)) = T8 [] := by decide +kernel
theorem jn : Txt.join (Str.ofString "") [] = T8 [] := join_nil
theorem cat1 (x : Int) (r : List Str) (l : List Int) (h : Txt.join (Str.ofString "") r = T8 l) : Txt.join (Str.ofString "") (T8 [x] :: r) = T8 (x :: l) := by
  rw [join_cons, h, ← T_app]; rfl
theorem row_T : ∀ {X : List Int}, 1 ≤ X.length → X.length ≤ 3 → (∀ x ∈ X, 0 ≤ x ∧ x < 256) → Txt.join (Str.ofString "") (lettersOf X) ++ Txt.mul (Str.ofString "=") (3 - (X.length : Nat)) = T8 (encR X)
  | [], h, _, _ => absurd h (by decide)
  | [a], _, _, hr => by
    have ha := (by0 hr).1
    have q1 := let3 (g1 by00 by00 ha (e1 a)) (r1 ha).1 (r1 ha).2
    have q2 := let2 ((g2 by00 by00 (e1 a)).trans (z16 _)) (r5 a).1 (r5 a).2
    show Txt.join (Str.ofString "") [letAt (a * 65536 + 0) 3, letAt (a * 65536 + 0) 2] ++ Txt.mul (Str.ofString "=") (3 - ((1 : Nat) : Int)) = _
    rw [q1, q2, mul1, cat1 _ _ _ (cat1 _ _ _ jn), ← T_app]; rfl
  | [a, b], _, _, hr => by
    have ha := (by0 hr).1
    have hb := (by0 (by0 hr).2).1
    have q1 := let3 (g1 hb by00 ha (e2 a b)) (r1 ha).1 (r1 ha).2
    have q2 := let2 (g2 hb by00 (e2 a b)) (r2 hb).1 (r2 hb).2
    have q3 := let1 ((g3 by00 (e2 a b)).trans (z64 _)) (r6 b).1 (r6 b).2
    show Txt.join (Str.ofString "") [letAt (a * 65536 + (b * 256 + 0)) 3, letAt (a * 65536 + (b * 256 + 0)) 2, letAt (a * 65536 + (b * 256 + 0)) 1] ++ Txt.mul (Str.ofString "=") (3 - ((2 : Nat) : Int)) = _
    rw [q1, q2, q3, mul2, cat1 _ _ _ (cat1 _ _ _ (cat1 _ _ _ jn)), ← T_app]; rfl
  | [a, b, c], _, _, hr => by
    have ha := (by0 hr).1
    have hb := (by0 (by0 hr).2).1
    have hc := (by0 (by0 (by0 hr).2).2).1
    have q1 := let3 (g1 hb hc ha (e3 a b c)) (r1 ha).1 (r1 ha).2
    have q2 := let2 (g2 hb hc (e3 a b c)) (r2 hb).1 (r2 hb).2
    have q3 := let1 (g3 hc (e3 a b c)) (r3 hc).1 (r3 hc).2
    have q4 := let0 (g4 (e3 a b c)) (r4 c).1 (r4 c).2
    show Txt.join (Str.ofString "") [letAt (a * 65536 + (b * 256 + (c * 1 + 0))) 3, letAt (a * 65536 + (b * 256 + (c * 1 + 0))) 2, letAt (a * 65536 + (b * 256 + (c * 1 + 0))) 1, letAt (a * 65536 + (b * 256 + (c * 1 + 0))) 0] ++ Txt.mul (Str.ofString "=") (3 - ((3 : Nat) : Int)) = _
    rw [q1, q2, q3, q4, mul3, cat1 _ _ _ (cat1 _ _ _ (cat1 _ _ _ (cat1 _ _ _ jn))), ← T_app]; rfl
  | _ :: _ :: _ :: _ :: _, _, h, _ => absurd h (by simp only [List.length_cons]; omega)
theorem encR_app : ∀ {n : Nat} {X Y : List Int}, X.length = 3 * n → encR (X ++ Y) = encR X ++ encR Y
  | 0, X, Y, h => by rw [List.length_eq_zero_iff.mp h]; rfl
  | n + 1, [], _, h => absurd h (by simp only [List.length_nil]; omega)
  | n + 1, [_], _, h => absurd h (by simp only [List.length_cons, List.length_nil]; omega)
  | n + 1, [_, _], _, h => absurd h (by simp only [List.length_cons, List.length_nil]; omega)
  | n + 1, a :: b :: c :: X, Y, h => by
    have ih := encR_app (n := n) (X := X) (Y := Y) (by simp only [List.length_cons] at h; omega)
    simp only [List.cons_append, encR, ih]
theorem tell_T {D : List Int} (hr : ∀ x ∈ D, 0 ≤ x ∧ x < 256) : ∀ n : Nat, 3 * n ≤ D.length + 2 → tellTo D n = T8 (encR (D.take (3 * n)))
  | 0, _ => by show Str.ofString "" = T8 (encR []); rw [s_nil']; rfl
  | n + 1, h => by
    have ih := tell_T hr n (by omega)
    have hl : (D.take (3 * n)).length = 3 * n := by rw [List.length_take]; omega
    have e : D.take (3 * (n + 1)) = D.take (3 * n) ++ rowOf D n := by rw [Nat.mul_succ, List.take_add]; rfl
    have hrl : (rowOf D n).length = min 3 (D.length - 3 * n) := by unfold rowOf; rw [List.length_take, List.length_drop]
    rw [e, encR_app hl, T_app, ← ih, ← row_T (X := rowOf D n) (by omega) (by omega) fun x hx => hr x (List.mem_of_mem_drop (List.mem_of_mem_take hx)), ← s_assoc]
    rfl
theorem enc_tell {D : List Int} (hr : ∀ x ∈ D, 0 ≤ x ∧ x < 256) : asciiText (byteArr (enc D)) = tellTo D ((D.length + 2) / 3) := by
  rw [tell_T hr _ (by omega), List.take_of_length_le (by omega), enc_eq hr]; rfl
theorem text_low {b : Array UInt8} (h : ∀ a ∈ b.toList, a.toNat < 128) : ∀ c ∈ (asciiText b).cps.toList, c < 128 := fun c hc => by
  obtain ⟨a, ha, rfl⟩ := List.mem_map.mp hc
  exact h a ha
end
theorem w_F18_0 : True := by
  k_with_none
  k_with "tb_start" => (first | (refine' code_defG ?qqk1 ?qqk2 ?qqk3 ?qqk4 ?qqk5 ?qqkA ?qqkF ?qqkK ?qqk6 ?qqk7 ?qqk8 ?qqk9 ?qqkB ?_ ?qqc2 ?qqc3 ?qqc4 ?qqc5; (case qqkA => exact rfl); (case qqkF => exact rfl); (case qqkK => first | exact rfl | assumption); (case qqk1 => k_asm); (case qqk2 => k_asm); (case qqk3 => k_asm); (case qqk4 => k_asm); (case qqk5 => k_asm); (case qqk6 => k_is); (case qqk7 => k_is); (case qqk8 => ktr_room); (case qqk9 => first | exact BindsTo.of_eq rfl | exact binds_K (by k_in) rfl (by k_is) rfl rfl rfl); (case qqc5 => decide); (case qqkB => exact locs rfl); (case qqc2 => exact rfl); (case qqc3 => exact rfl); (case qqc4 => exact rfl); k_whole; intro gz' Lz' hz' FGz' Fz' Nz' Bz' Xz' Tz' kGz'; (try dsimp only); (try k_lift Bz'); (try k_fold)) | (refine' enterC ?qqk1 ?qqk2 ?qqk3 ?qqk4 ?qqk5 ?qqkA ?qqkF ?qqkK ?qqk6 ?qqk7 ?qqk8 ?qqk9 ?qqkB ?qqkD ?_ ?qqc2 ?qqc3 ?qqc4; (case qqkA => exact rfl); (case qqkF => exact rfl); (case qqkK => first | exact rfl | assumption); (case qqk1 => k_asm); (case qqk2 => k_asm); (case qqk3 => k_asm); (case qqk4 => k_asm); (case qqk5 => k_asm); (case qqk6 => k_is); (case qqk7 => k_is); (case qqk8 => ktr_room); (case qqk9 => first | exact BindsTo.of_eq rfl | exact binds_K (by k_in) rfl (by k_is) rfl rfl rfl); (case qqkB => exact rfl); (case qqkD => decide +kernel); (case qqc2 => exact rfl); (case qqc3 => exact rfl); (case qqc4 => exact rfl); k_whole; intro gz' Lz' hz' tkz' cellsz' FGz' Fz' Nz' Yz' Bz' Xz' Tz' l1z kGz'; (try k_lt l1z); k_cells Yz'; (try simp only [List.cons_append, List.nil_append] at Nz'); (try dsimp only); (try k_lift Bz'); (try k_fold)))
  k_with "m call ref" => (k_here; k_dflt (refine wpAny_call ?_; k_extra "tb_start"))
  k_with "m call type:type" => (k_here; (with_reducible show wpAny _ _ (call (Value.type "type") [Value.bytes _ _]) _ _ _); refine call_type_of (PySem.W.typeIs_bytes _ _ _) (by decide +kernel) ?_)
  k_with "m call type:type" => (k_here; (with_reducible show wpAny _ _ (call (Value.type "type") [Value.bool _]) _ _ _); refine call_type_of (Tx := "bool") rfl (by decide +kernel) ?_)
  k_with "m pyIter ref" => ((with_reducible show wpAny _ _ (pyIter (Value.ref _)) (fun it s₂ => LoopAtV _ _ _ _ _ _ _ _ _ it s₂) _ _); k_here; refine Held.mk ?_)
  k_with "m subscriptTail" => (k_here; (with_reducible show wpAny _ _ (subscriptTail _ _ (Value.bytes _ _) (Value.int _ _)) _ _ _); k_dflt (refine' by_item ?qqz ?qqa ?qqb ?_; (case qqz => assumption); (case qqa => first | assumption | omega); (case qqb => first | assumption | omega); k_whole); intro t9z)
  k_with "m setItem ref int" => (k_here; (with_reducible show wpAny _ _ (setItem (Value.ref _) (Value.int _ _) (Value.int _ _)) _ _ _); k_dflt (refine' ba_setU ?qqk1 ?qqk2 ?qqk3 ?qqk4 ?qqk5 ?qqk6 ?qqk7 ?qqk8 ?_; (case qqk1 => k_asm); (case qqk2 => k_asm); (case qqk3 => first | (refine' Upd.head ?_; assumption) | k_upd); (case qqk4 => first | assumption | omega); (case qqk5 => first | assumption | omega); (case qqk6 => first | assumption | omega); (case qqk7 => omega); (case qqk8 => exact_mod_cast UInt8.toNat_lt _); k_whole); intro hz' Fz' Nz'; (try k_sweep))
  k_with "m call type:bytes" => (k_here; (with_reducible show wpAny _ _ (call (Value.type "bytes") [Value.ref _]) _ _ _); (rename News _ _ _ _ => nEz); refine' ba_bytes (And.left (nEz (_, baObj _) ?qqm)) ?qqz ?_; (case qqm => exact .head _); (case qqz => omega); intro t9z k9z; (try dsimp only))
  k_with "bits" => (repeat' (first | (k_unfold; (try dsimp only)) | (goal_lacks InvEndN Held; k_end; wrow_close) | walk1 | (dsimp only; walk1) | (leave1; walk_say "STEP leave1"; try dsimp only) | fail "no step"))
  k_with "m InvEndN" => (refine Held.mk ?_)
  k_with "m eval ListComp" => (k_here; refine Held.mk ?_)
  trivial
section
theorem w_F18_1 : True := by
  k_with "m call ref" => (k_here; k_dflt ( (first | refine' Spec.use (octets_spec _ _ _ _ _ ?qqp1 ?qqp2) ?qqk1 ?qqk2 ?qqk3 ?qqk4 ?qqk5 ?qqk6 ?qqk7 ?qqk8 ?qqk9 ?_ | refine' Spec.use (turned_spec _ _ _ _ _ _ _ _ ?qqp1 ?qqp2 ?qqp3 ?qqp4 ?qqp5) ?qqk1 ?qqk2 ?qqk3 ?qqk4 ?qqk5 ?qqk6 ?qqk7 ?qqk8 ?qqk9 ?_); (case qqk1 => k_asm); (case qqk2 => k_asm); (case qqk3 => k_asm); (case qqk4 => k_asm); (case qqk5 => k_asm); (case qqk6 => first | exact rfl | assumption); (case qqk7 => ktr_room); (case qqk8 => ktr_units); (case qqk9 => (intro p9z h9z; rw [List.mem_singleton.mp h9z]; k_mem)); (try case qqp1 => assumption); (try case qqp2 => assumption); (try case qqp3 => assumption); (try case qqp4 => assumption); (try case qqp5 => assumption); intro v9z h9z tk9z F9z N9z K9z hR9z; obtain ⟨d9z, vs9z, n9z, e9z, hf9z, hd9z, hI9z⟩ := hR9z; subst e9z; (have N8z := news_add (by assumption) N9z hd9z hf9z); (try clear N9z); (try clear K9z); (try clear hf9z); (try clear hd9z); (try dsimp only); (try k_fold)))
  k_with "m subscriptTail List cons Slice ref ref" => (k_here; k_dflt (refine kba_turn (value' := PySem.Expr.Name (PySem.Str.ofString "_") ⟨0, 0, 0, 0⟩) (fun _ => rfl) ?_))
  k_with "m call ref" => (k_here; k_dflt ( (first | refine' Spec.use (b64enc_spec _ _ _ ?qqp1) ?qqk1 ?qqk2 ?qqk3 ?qqk4 ?qqk5 ?qqk6 ?qqk7 ?qqk8 ?qqk9 ?_ | refine' Spec.use (b64dec_spec _ _ _ ?qqp1 ?qqp2 ?qqp3 ?qqp4 ?qqp5) ?qqk1 ?qqk2 ?qqk3 ?qqk4 ?qqk5 ?qqk6 ?qqk7 ?qqk8 ?qqk9 ?_ | refine' Spec.use (lb64_spec _ _ _ _ _ _ ?qqp1 ?qqp2 ?qqp3) ?qqk1 ?qqk2 ?qqk3 ?qqk4 ?qqk5 ?qqk6 ?qqk7 ?qqk8 ?qqk9 ?_); (case qqk1 => k_asm); (case qqk2 => k_asm); (case qqk3 => k_asm); (case qqk4 => k_asm); (case qqk5 => k_asm); (case qqk6 => first | exact rfl | assumption); (case qqk7 => ktr_room); (case qqk8 => ktr_units); (case qqk9 => (intro p9z h9z; first | (rw [List.mem_singleton.mp h9z]; k_mem) | nomatch h9z)); (try case qqp1 => assumption); (try case qqp2 => assumption); (try case qqp3 => assumption); (try case qqp4 => assumption); (try case qqp5 => assumption); intro v9z h9z tk9z F9z N9z K9z hR9z; obtain ⟨t9z, e2z⟩ := hR9z; subst e2z; (try clear K9z); (try dsimp only); (try k_fold)))
  k_with "m call type:list" => (k_here; (with_reducible show wpAny _ _ (call (Value.type "list") [Value.bytes _ _]) _ _ _); k_dflt (refine' list_bytesK ?qqk1 ?qqk2 ?qqk3 ?qqk4 ?_; (case qqk1 => k_asm); (case qqk2 => k_asm); (case qqk3 => exact rfl); (case qqk4 => assumption)); intro hz' tk9z d9z vs9z c9z Fz' Nz' hL9z l1z; (try k_lt l1z))
  k_with "m call type:str" => (k_here; (with_reducible show wpAny _ _ (call (Value.type "str") [Value.bytes _ _, Value.str _ _]) _ _ _); refine call_str2' (by assumption) (by assumption) (by assumption) (by assumption) ?_; intro t9z k9z)
  trivial
theorem SpecC.use {k : Nat} {w : World} {f : Addr} {vs : List Value} {need : List (Addr × Obj)} {R : Heap → Value → Heap → Prop} (S : SpecC k w f vs need R)
    {p : Program} {loose : List Str} {mean : ExcName → Option Value} {mg mb : Str → Option Value}
    {dp un : Nat} {gd : Option (List Code)} {cn : Str} {cs : Scope} {a : Addr} {ccd : Value} {cl : List (Str × Addr)} {outer : List Env} {A₀ : Around} {base h₀ : Heap} {L : Addr} {m : Str → Option Value} {s : Shared} {Q : Value → Shared → Prop} {news : List (Addr × Obj)}
    (B : Below A₀ base outer h₀) (F : Fr h₀ L s.heap m) (X : (Mine.hd.heap_39 w.params).In h₀) (N : News h₀ L s.heap news) (T : Top p loose mean mg mb h₀) (hk : cs.kind = .function) (h1 : dp + k < recursionLimit) (h2 : un + 10 * k < cLine) (hn : ∀ p ∈ need, p ∈ news)
    (h : ∀ v h' tk', Fr h₀ L h' m → News h₀ L h' news → Keep s.heap h' → R s.heap v h' → Q v { s with heap := h', toks := tk' }) :
    wpC (model PP w) (ktrTop dp un gd cn cs L a ccd cl outer) (call (.ref f) vs []) Q s :=
  S p loose mean mg mb dp un gd cn cs a ccd cl outer A₀ base h₀ L m s Q B F X (fun p hp => N p (hn p hp)) T hk h1 h2 fun v h' tk' K r => h v h' tk' (F.keeps K) (News.grown N K) K r
theorem base8_in {L : List Int} (h : ∀ x ∈ L, 0 ≤ x ∧ x < 65536) : ∀ x ∈ L ++ [33261, 16804, 41471, 4480, 24996, 8632, 50000, 3554], 0 ≤ x ∧ x < 65536 := fun x hx => by
  rcases List.mem_append.mp hx with hx | hx
  · exact h x hx
  · simp only [List.mem_cons, List.not_mem_nil, or_false] at hx; omega
noncomputable def evenM (M : List Int) : List Int := M ++ List.take (((M.length : Nat) : Int).fmod 2).toNat [4045]
theorem evenM_len (M : List Int) : ∃ k, (evenM M).length = 2 * k ∧ (evenM M).length ≤ M.length + 1 ∧ M.length ≤ (evenM M).length := by
  unfold evenM
  rw [List.length_append, List.length_take, Int.fmod_eq_emod_of_nonneg _ (by decide)]
  refine ⟨(M.length + 1) / 2, ?_, ?_, ?_⟩ <;> (show _; simp only [List.length_cons, List.length_nil]; omega)
theorem evenM_in {M : List Int} (h : ∀ x ∈ M, 0 ≤ x ∧ x < 65536) : ∀ x ∈ evenM M, 0 ≤ x ∧ x < 65536 := fun x hx => by
  rcases List.mem_append.mp hx with hx | hx
  · exact h x hx
  · have := List.mem_of_mem_take hx
    rw [List.mem_singleton.mp this]; omega
theorem octs_in {M : List Int} (h : ∀ x ∈ M, 0 ≤ x ∧ x < 65536) : ∀ x ∈ octs M, 0 ≤ x ∧ x < 256 := fun x hx => by
  obtain ⟨y, hy, hx⟩ := List.mem_flatMap.mp hx
  have := h y hy
  simp only [List.mem_cons, List.not_mem_nil, or_false] at hx
  omega
theorem width_of {M : List Int} {k : Nat} {t1 t2 t3 : Tok} (h0 : 0 < k) (hk : k ≤ 10) (hM : M.length = 2 * k) {i : Nat} {v : Value} (e : (#[Value.int 2 t1, Value.int 4 t2, Value.int (2 * (M.length : Int)) t3] : Array Value)[i]? = some v) :
    ∃ (kw n : Nat) (t : Tok), v = .int (kw : Int) t ∧ 0 < kw ∧ kw ≤ 1000 ∧ (octs M).length = n * kw := by
  rw [octs_length, hM]
  match i, e with
  | 0, e => exact ⟨2, 2 * k, t1, (Option.some.inj e).symm, by omega, by omega, by omega⟩
  | 1, e => exact ⟨4, k, t2, (Option.some.inj e).symm, by omega, by omega, by omega⟩
  | 2, e => exact ⟨4 * k, 1, t3, (Option.some.inj e).symm.trans (by rw [show (2 * (M.length : Int)) = ((4 * k : Nat) : Int) by omega]; rfl), by omega, by omega, by omega⟩
  | i + 3, e => simp at e
theorem fmod_in (L : List Int) : ∀ x ∈ L.map (·.fmod 65536), 0 ≤ x ∧ x < 65536 := fun x hx => by
  obtain ⟨y, _, rfl⟩ := List.mem_map.mp hx
  rw [Int.fmod_eq_emod_of_nonneg _ (by decide)]; exact ⟨Int.emod_nonneg _ (by decide), Int.emod_lt_of_pos _ (by decide)⟩
noncomputable abbrev base8 : List Int := [33261, 16804, 41471, 4480, 24996, 8632, 50000, 3554]
noncomputable def modes0 (ns : List Int) : List Int := (ns.take 7).map (·.fmod 65536) ++ base8
theorem range_getD {α : Type} (L : List Int) (f : Int → α) {n : Nat} (h : n = L.length) : (List.range n).map (fun i => f (L.getD i 0)) = L.map f := by
  subst h
  apply List.ext_getElem?
  intro j
  rw [List.getElem?_map, List.getElem?_map]
  rcases Nat.lt_or_ge j L.length with h | h
  · rw [List.getElem?_range h, List.getElem?_eq_getElem h]
    show some (f (L.getD j 0)) = some (f L[j])
    rw [List.getD_eq_getElem?_getD, List.getElem?_eq_getElem h]; rfl
  · rw [List.getElem?_eq_none h, List.getElem?_eq_none (by rw [List.length_range]; exact h)]; rfl
theorem sp_fullW {prog : Program} {w : World} {A : Around} {R : Result → Shared → Prop} {s : Shared} {name : Str} {params : Arguments} {body : List Stmt} {scope : Scope} {dV kV pm cd doc : Value} {a : Addr} {o : Obj} {args : Args} {binds : List (Str × Value)}
    (hroom : A.depth < recursionLimit) (ho : s.heap.get? a = some o) (hdata : o.data = .func { docDef name params body scope pm cd doc with defaults := dV, kwdefaults := kV }) (hlim : s.heap.NoLimit) (hcd : s.heap.CodeRec cd name)
    (hbind : BindsTo s { docDef name params body scope pm cd doc with defaults := dV, kwdefaults := kV } args binds) (hloc : ∀ x ∈ binds, scope.names.lookup x.1 = some .local)
    (h : ∀ h₁, Fr s.heap s.heap.objs.size h₁ (fun x => binds.reverse.lookup x) →
      wpC (model prog w) (A.deeper (envOf name scope s.heap.objs.size a cd)) (execs body (envOf name scope s.heap.objs.size a cd)) (fun f s' => R (.ok (.ret (match f with | .ret v => v | _ => .none))) s') { s with heap := h₁, toks := s.toks + binds.length })
    (hco : scope.isCoroutine = false := by rfl) (hgen : scope.isGenerator = false := by rfl) (hk : scope.kind = .function := by rfl) (hcell : ∀ x ∈ scope.names, x.2 ≠ .cell := by decide) : codeC (model prog w) A (.call (.ref a) args) R s :=
  sp_callDef (fd := { docDef name params body scope pm cd doc with defaults := dV, kwdefaults := kV }) hroom ho hdata hlim hcd rfl hbind hcell hloc (fun h₁ hns hkeep => h h₁ ⟨hns, hkeep, Nat.le_refl _⟩) hco hgen hk
theorem w_F18_2 : True := by
  k_with "m call ref" => (k_here; k_dflt ( (refine' Spec.use (right_spec _ _ _ ?qqp1 ?qqp2) ?qqk1 ?qqk2 ?qqk3 ?qqk4 ?qqk5 ?qqk6 ?qqk7 ?qqk8 ?qqk9 ?_); (case qqk1 => k_asm); (case qqk2 => k_asm); (case qqk3 => k_asm); (case qqk4 => k_asm); (case qqk5 => k_asm); (case qqk6 => first | exact rfl | assumption); (case qqk7 => ktr_room); (case qqk8 => ktr_units); (case qqk9 => (intro p9z h9z; nomatch h9z)); (case qqp1 => assumption); (case qqp2 => assumption); intro v9z h9z tk9z F9z N9z K9z hR9z; subst hR9z; (try clear K9z); (try dsimp only); (try k_fold)))
  k_with "m subscriptTail" => (k_here; (with_reducible show wpAny _ _ (subscriptTail _ (Expr.Slice _ none (some _) _) (Value.bytes _ _) (Value.ref _)) _ _ _); (with_reducible rename Fr _ _ _ _ => Fz'); (with_reducible rename News _ _ _ _ => Nz'); (refine slice_S (s := ⟨_, _, _, _, _⟩) Fz' Nz' (by constructor) (by assumption) ?_); intro _ _ _ _ _ _ _)
  trivial
theorem law_walk : PySem.Challenge.rw_kq0060_01.Holds := by
  refine Mine.hd ?_
  k_fill
  intro w s₀ s₁ mg mb G Y fa o pm cd doc dV kV ho hd hcd hD hmg hg args vals as hpre hlay hrd hwl hlo
  have KX := kIn_of Y
  have X := (Ground.X G).1
  have V := (Ground.X G).2
  refine Ground.open G ?_
  intro T B D TE TW
  try (refine guard_noD D (by decide +kernel) ?_; clear D)
  obtain ⟨_, _, M⟩ := bmod_of_top T
  have TA := at_of_top T
  try (obtain ⟨_, _, he, B0⟩ := based_of_top T rfl hmg ho hd; have he' : cd = _ := he; subst he'; clear he)
  clear hmg
  wrow_args hpre hlay hrd hwl hlo
  all_goals (
    refine wpC_call ?_
    have K0 := below_caller (Top.heap T)
    have he := Dflts.none hD rfl; subst he
    refine sp_fullW (by decide) ho hd (Top.nolimit T) hcd (BindsTo.of_eq rfl) (locs rfl) fun h₁ F => ?_
    w_binds F
    have N0 := (News.nil : News _ _ _ []).at F
    clear hd TA
    k_drop
    try clear B
    try clear TE
    try clear TW
    try clear X
    try clear V
    try clear M
    try clear D
    skip)
  dsimp only
  try k_fold
  refine sp_execs (wpC_of ?_)
  k_extra "bits"
  refine cl_eval (F₀ := by k_asm) (by with_unfolding_all rfl) (by decide) (by rfl) (by decide) (by rfl) ?_
  k_extra "bits"
  (with_reducible rename IntsAre _ _ => hT7)
  (with_reducible rename List Int => ns)
  have hT7l : (List.take 7 ns).length ≤ 7 := by rw [List.length_take]; exact Nat.min_le_left ..
  generalize hTe : List.take 7 ns = T7 at *
  (with_reducible rename News _ _ _ _ => nE)
  refine csrc_list (fun i v => ∃ t, v = Value.int ((T7.getD i 0).fmod 65536) t) rfl (by assumption) nE (.head _) (by rw [List.size_toArray, hT7.length]; exact Nat.le_trans hT7l (by decide)) ?_ ?_
  · intro i v I oI C oC D ys m₂ h tk E' hin hP hC hx F N off ne
    obtain ⟨y, ty, rfl, hy⟩ := ints_at hT7 hP
    clear hP
    simp only [LCg.Off3, and_true] at off
    k_extra "bits"
    refine ⟨_, _, rfl, by assumption, by assumption, exI ?_⟩
    rw [List.getD_eq_getElem?_getD, hy]; rfl
  · intro D h tk ys F N off hyl V
    have hI := vals_ints V
    rw [range_getD T7 (·.fmod 65536) (by rw [hyl, List.size_toArray, hT7.length])] at hI
    clear V hyl
    simp only [LCg.Off1, and_true] at off
    k_extra "bits"
    dsimp only
    (with_reducible rename IntsAre _ _ => hM)
    have hMl : (List.map (fun x : Int => x.fmod 65536) T7 ++ [33261, 16804, 41471, 4480, 24996, 8632, 50000, 3554]).length = T7.length + 8 := by rw [List.length_append, List.length_map]; rfl
    have hMr := base8_in (fmod_in T7)
    generalize List.map (fun x : Int => x.fmod 65536) T7 ++ [33261, 16804, 41471, 4480, 24996, 8632, 50000, 3554] = M0 at *
    (with_reducible rename News _ _ _ _ => nE)
    replace nE : News _ _ _ [_] := fun p hp => nE p (by rw [List.mem_singleton.mp hp]; exact .head _)
    refine sp_execs (wpC_of ?_)
    k_extra "bits"
    dsimp only
    (with_reducible rename IntsAre _ _ => hE)
    change IntsAre _ (evenM M0) at hE
    obtain ⟨k, hEl, hEu, hEd⟩ := evenM_len M0
    have hEr := evenM_in hMr
    generalize evenM M0 = M at *
    have hE20 : M.length ≤ 20 := by omega
    (with_reducible rename News _ _ _ _ => nF)
    replace nF : News _ _ _ [_] := fun p hp => nF p (by rw [List.mem_singleton.mp hp]; exact .head _)
    refine sp_execs (wpC_of ?_)
    k_extra "bits"
    try dsimp only
    (with_reducible rename IntsAre _ _ => hO)
    (with_reducible rename News _ _ _ _ => nG)
    refine bytes_K (by assumption) nG (by is_list) hO (octs_in hEr) ?_ rfl ?_
    · rw [hO.length, octs_length, sizeLine_eq]; omega
    intro h' t' k' F' N' hB'
    k_extra "bits"
    dsimp only
    refine sp_execs (sp_for ?_ (by intro _; rfl))
    k_extra "bits"
    try dsimp only
    (with_reducible rename News _ _ _ _ => nH)
    have hOl : (octs M).length ≤ 1000 := by rw [octs_length]; omega
    have hBs : ((octs M).map fun n => n.toNat.toUInt8).toArray.size = (octs M).length := by rw [List.size_toArray, List.length_map]
    generalize hBe : ((octs M).map fun n => n.toNat.toUInt8).toArray = B at *
    refine lpC_list [Str.ofString "told", Str.ofString "due"] rfl rfl rfl (by assumption) nH (.head _) ?turn ?done
    case turn =>
      intro i v u h tk own hiv hoff kFr kNews
      obtain ⟨kw, n, tw, rfl, hk0, hk1, hnk⟩ := width_of (by omega) (by omega) hEl hiv
      clear hiv
      simp only [List.cons_append, List.nil_append] at kNews
      refine sp_execs (sp_assignTupleSw (sp_tuple2 (sp_call ?_)))
      k_extra "bits"
      (with_reducible rename Frag.In _ _ => X9)
      refine sp_callWith X9 (by kernel_rfl) ?_
      k_extra "bits"
      try dsimp only
      k_dflt (refine' SpecC.use (byteswap_spec w B kw n _ _ hk0 hk1 ?q1 ?q2) ?k1 ?k2 ?k3 ?k4 ?k5 ?k6 ?k7 ?k8 ?k9 ?_; (case q1 => omega); (case q2 => omega); (case k1 => k_asm); (case k2 => k_asm); (case k3 => k_asm); (case k4 => k_asm); (case k5 => k_asm); (case k6 => first | exact rfl | assumption); (case k7 => ktr_room); (case k8 => ktr_units); (case k9 => (intro p9 h9; nomatch h9)))
      intro v9 h9 tk9 F9 N9 K9 hR9
      obtain ⟨c, cu, rfl, hsw⟩ := hR9
      clear K9
      try dsimp only
      try k_fold
      k_extra "bits"
      try dsimp only
      have hBn : B.size = n * kw := hBs.trans hnk
      have hBi : KBw.bInts B = octs M := by rw [← hBe]; exact ints_byteArr (octs_in hEr)
      have hcD := sw_flat hsw hBn hk0
      rw [hBi] at hcD
      have hDl : (KBw.bInts c).length = (octs M).length := by rw [KBw.ints_length, hsw.1, hBs]
      have hDr : ∀ x ∈ KBw.bInts c, 0 ≤ x ∧ x < 256 := fun x hx => KBw.ints_in hx
      have hOl2 := octs_length M
      (with_reducible rename IntsAre _ _ => hD)
      rw [← hcD] at hD
      clear hcD
      have hc1 : c.size ≤ 1000 := by rw [← KBw.ints_length]; omega
      have hD40 : (KBw.bInts c).length ≤ 40 := by omega
      obtain ⟨hz1, hz2⟩ := enc_size hDr
      have hz0 := hz2 (by omega)
      have hz3 : (byteArr (enc (KBw.bInts c))).size ≤ 16777216 := by omega
      have hz4 := enc_ascii hDr
      have hz5 := enc_tell hDr
      clear hz2
      refine sp_execs (wpC_of ?_)
      k_extra "bits"
      · (with_reducible rename ((_ != _) = true) => hne)
        simp at hne
      try dsimp only
      obtain ⟨hd1, hd2, hd3⟩ := dec_enc hDr
      have ha1 := text_low hz4
      have ha2 : (asciiOut (asciiText (byteArr (enc (KBw.bInts c))))).size ≤ 16777216 := by rw [asciiOut_text]; exact hz3
      have ha3 : (asciiOut (asciiText (byteArr (enc (KBw.bInts c))))).size ≤ 1000 := by rw [asciiOut_text]; omega
      rw [← asciiOut_text (byteArr (enc (KBw.bInts c)))] at hd1 hd2 hd3
      rw [hz5] at ha1 ha2 ha3 hd1 hd2 hd3
      have hdec := (congrArg byteArr hd1).trans (byteArr_ints c)
      refine sp_execs (sp_if (sp_cmp (sp_call ?_)))
      k_extra "bits"
      (with_reducible rename Frag.In _ _ => X9)
      refine sp_callWith X9 (by kernel_rfl) ?_
      k_extra "bits"
      try dsimp only
      rw [hdec]
      k_dflt (refine' SpecC.use (byteswap_spec w c kw n _ _ hk0 hk1 ?q1 ?q2) ?k1 ?k2 ?k3 ?k4 ?k5 ?k6 ?k7 ?k8 ?k9 ?_; (case q1 => assumption); (case q2 => exact hsw.1.trans hBn); (case k1 => k_asm); (case k2 => k_asm); (case k3 => k_asm); (case k4 => k_asm); (case k5 => k_asm); (case k6 => first | exact rfl | assumption); (case k7 => ktr_room); (case k8 => ktr_units); (case k9 => (intro p9 h9; nomatch h9)))
      intro v9 h9 tk9 F9 N9 K9 hR9
      obtain ⟨c2, cu2, rfl, hsw2⟩ := hR9
      clear K9
      obtain rfl := sw_back hsw hsw2 hBn hk0
      try dsimp only
      try k_fold
      k_extra "bits"
      · (with_reducible rename ((_ != _) = true) => hne)
        simp at hne
      try dsimp only
      (with_reducible rename News _ _ _ _ => nZ)
      show wpC _ _ (pure Flow.next) _ _
      refine wpC_pure ?_
      show wpC _ _ (pure Flow.next) _ _
      refine wpC_pure ⟨rfl, _, _, _, rfl, by assumption, fun p hp => nZ p (.tail _ (.tail _ (.tail _ (.tail _ hp)))), fun z z1 z2 => ?_⟩
      have y1 : z ≠ Str.ofString "told" := by rintro rfl; exact absurd z2 (by decide)
      have y2 : z ≠ Str.ofString "due" := by rintro rfl; exact absurd z2 (by decide)
      simp only [y1, y2, z1, z2, Bool.false_eq_true, if_false]
    case done =>
      intro u h tk kFr kNews
      try dsimp only
      refine sp_execs (wpC_of ?_)
      refine asn_comp (by with_unfolding_all rfl) (by with_unfolding_all rfl) (by rfl) (by decide) ?_
      have hB1 : B.size ≤ 1000 := by rw [hBs]; exact hOl
      k_extra "bits"
      try dsimp only
      (with_reducible rename News _ _ _ _ => nK)
      k_dflt (refine' gsrc_zip ?k1 ?k2 nK ?k4 ?k5 ?k6 ?k7 ?k8 ?k9 ?k10 ?k11 ?turn ?fin; (case k1 => rfl); (case k2 => assumption); (case k4 => assumption); (case k5 => decide); (case k6 => rfl); (case k7 => rfl); (case k8 => rfl); (case k9 => decide); (case k10 => rfl); (case k11 => rfl))
      case turn =>
        intro a b u1 u2 m₂ C oC D ys own h tk E' a0 a1 b0 b1 hx hy hC hoff hCD F N
        simp only [List.cons_append, List.nil_append] at N
        k_extra "bits"
        · exact F
        · exact N
        · exact ⟨_, _, rfl, by omega, by omega⟩
      case fin =>
        intro D h tk ys hyl hY F N
        obtain ⟨xs, hI, hIr⟩ := ints16 hY
        clear hY
        try dsimp only
        refine sp_execs (wpC_of ?_)
        k_extra "bits"
        refine ev_comp (by with_unfolding_all rfl) (by rfl) (by decide) ?_
        have hxl : xs.length ≤ 1001 := by rw [← hI.length]; exact hyl
        k_extra "bits"
        try dsimp only
        (with_reducible rename IntsAre _ _ => hL)
        (with_reducible rename News _ _ _ _ => nL)
        k_dflt (refine' gsrc_none ?k1 ?k2 nL ?k4 ?k5 ?k6 ?k7 ?k8 ?k9 ?turn ?fin; (case k1 => rfl); (case k2 => assumption); (case k4 => exact .head _); (case k5 => (rw [hL.length, List.length_append, sizeLine_eq]; omega)); (case k6 => (exact in16_of hL fun x hx => (List.mem_append.mp hx).elim (hEr x) (hIr x))); (case k7 => decide); (case k8 => rfl); (case k9 => rfl))
        case turn =>
          intro n t m₂ C oC D own h tk E' n0 n1 hx hC hoff hCD F N
          k_extra "bits"
          · assumption
          · assumption
        case fin =>
          intro D h tk F N
          k_extra "bits"
          refine GoodW.toG ?_
          kc_close
end
end
end Mine
end
theorem PySem.Challenge.cw_kq0060_01_holds : PySem.Challenge.rw_kq0060_01.Holds := by
  exact Mine.law_walk
