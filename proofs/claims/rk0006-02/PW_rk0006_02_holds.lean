import PyProof.Rows.All
import Wide.All
import OpenK.AllK
import Wide.FinOn
import PySem.Challenge.RW_rk0006_02
open PySem PySem.W PyProof.Rows
set_option Elab.async false
set_option maxRecDepth 100000
set_option maxHeartbeats 8000000
set_option compiler.extract_closed false
namespace Mine
/-- the program's own statements, its `__name__` rows left out -/
def stAt (i : Nat) : Stmt := match PySem.Challenge.pw_rk0006_02.main.body[i]? with
  | some x => x
  | none => .Pass default
def view : Program := { PySem.Challenge.pw_rk0006_02 with main := { PySem.Challenge.pw_rk0006_02.main with body := [stAt 0, stAt 2, stAt 3, stAt 5, stAt 7, stAt 8, stAt 10, stAt 12, stAt 13, stAt 14, stAt 15, stAt 16, stAt 17, stAt 18] } }
/-- the top's run over a heap held as a tree, its step a parameter -/
noncomputable def topRunG (st : SharedT → Thread → Option (SharedT × Thread)) (ok : Thread → Bool) : Nat → SharedT → Thread → Option SharedT
  | 0, _, _ => none
  | n + 1, s, t => match through t with
    | true => some s
    | false => match ok t with
      | false => none
      | true => match st s t with
        | some r => topRunG st ok n r.1 r.2
        | none => none
theorem topRun_of {tb : String → Option Builtin} {p : Program} {w : World} {n₀ : Nat} {ann : Option Value} : ∀ {n : Nat} {s s' : SharedT} {t : Thread}, topRunG (stepT (denote tb) p w) (stepOk n₀ ann) n s t = some s' → topRun tb p w n₀ ann n s.abs t = some s'.abs
  | 0, _, _, _, h => by cases h
  | n + 1, s, s', t, h => by
    unfold topRunG at h
    unfold topRun
    cases he : through t with
    | true => rw [he] at h; cases h; rfl
    | false =>
      rw [he] at h
      cases hk : stepOk n₀ ann t with
      | false => rw [hk] at h; cases h
      | true =>
        rw [hk] at h
        cases hs : stepT (denote tb) p w s t with
        | none => rw [hs] at h; cases h
        | some r => obtain ⟨s₂, t₂⟩ := r; rw [hs] at h; rw [stepT_spec hs]; exact topRun_of h
noncomputable def treeOf : Nat → List Obj → BT → BT
  | _, [], t => t
  | n, o :: l, t => treeOf (n + 1) l (t.ins n o)
noncomputable def T0 (P : Params) : BT := treeOf 0 (boot_heap P).objs.toList .nil
theorem stepT_q : @stepT = Fast.tw10156331382660048174 := Fast.te10156331382660048174
theorem denote_q : denote treeTable = Fast.tw11892475500146522536 Fast.tw14364793385576792824 := by rw [Fast.te11892475500146522536, Fast.te14364793385576792824]
theorem stepOk_q : @stepOk = Fast.tw6613529449190102663 := Fast.te6613529449190102663
noncomputable def bann (w : World) : Option Value := (boot_heap w.params).nsMap mainGlobals "__annotations__"
theorem boot_size (w : World) : (boot_heap w.params).objs.size = 11 := by kernel_rfl
theorem boot_tree (w : World) : absHeap (T0 w.params) 11 (boot_heap w.params).life = boot_heap w.params := by kernel_rfl
theorem boot_ns (w : World) : ((boot_heap w.params).isNs mainGlobals && (Array.mk [] : Array GenState).size == 0) = true := by kernel_rfl
theorem left_tree {p q : Program} {loose : List Str} {Xt : Shared → Bool} {α : Type} {Yf : Shared → α} {Ya : World → α} {N : Nat} (e : opening p = plainProg p.main.scope.names) (hN : Nat.ble 600 N = true) (f : ∀ s, fenceModules? p s = some s)
    (run : ∀ (w : World) (os : OsState), (topRunG (Fast.tw10156331382660048174 (Fast.tw11892475500146522536 Fast.tw14364793385576792824) p w) (Fast.tw6613529449190102663 11 (bann w)) N ⟨T0 w.params, 11, (boot_heap w.params).life, Array.mk [], boot_drawn, boot_toks, os⟩ (topStub p)).map (fun s => ((staticsOk (importedModules p.main.body) (boot_heap w.params) s.abs.heap && namesBound p s.abs.heap && gensDone s.abs && laidKept (boot_heap w.params) s.abs.heap), Fast.tw4187177175401517315 q loose (importedModules p.main.body) Xt true s.abs, Yf s.abs)) = some (true, openGood q loose, Ya w)) : LeftO p q loose Xt Yf Ya N := fun w => by
  obtain ⟨⟨h, gs, d, k, os⟩, e1, e2⟩ := Option.map_eq_some_iff.mp (boot_open e hN f w)
  obtain ⟨rfl, rfl, rfl, rfl⟩ : h = boot_heap w.params ∧ gs = Array.mk [] ∧ d = boot_drawn ∧ k = boot_toks := by simpa using e2
  obtain ⟨s, r, l⟩ := Option.map_eq_some_iff.mp (run w os)
  obtain ⟨l1, l2, l3⟩ : _ ∧ _ ∧ _ := by simpa only [Prod.mk.injEq] using l
  rw [← stepT_q, ← denote_q, ← stepOk_q] at r
  have r1 := topRun_of r
  have r2 : topRun treeTable p w (boot_heap w.params).objs.size ((boot_heap w.params).nsMap mainGlobals "__annotations__") N ⟨boot_heap w.params, Array.mk [], boot_drawn, boot_toks, os⟩ (topStub p) = some s.abs := by
    rw [boot_size w]
    refine Eq.trans ?_ r1
    unfold SharedT.abs
    rw [boot_tree w]
    rfl
  unfold openEnds
  rw [e1]
  show (topFrom treeTable p w N _).map _ = _
  unfold topFrom
  dsimp only
  rw [boot_ns w, r2]
  show ((match staticsOk (importedModules p.main.body) (boot_heap w.params) s.abs.heap && namesBound p s.abs.heap && gensDone s.abs && laidKept (boot_heap w.params) s.abs.heap with | true => some s.abs | false => none) : Option Shared).map _ = _
  rw [l1]
  exact congrArg some (Prod.ext ((congrFun (congrFun (congrFun (congrFun (congrFun (congrFun Fast.te4187177175401517315 _) _) _) _) _) _).trans l2) l3)
local macro_rules | `(tactic| o_head $H:term) => `(tactic| (refine holds_open (q := Mine.view) (loose := [PySem.Str.ofString "FileExpander", PySem.Str.ofString "MacroExpansion", PySem.Str.ofString "Token", PySem.Str.ofString "SourceLocation", PySem.Str.ofString "CToken"]) (Xt := fun s => xlAt Mine.view [] s && recOk (RowW.records (OpenRow.toRowW (OpenLaw.row PySem.Challenge.rw_rk0006_02))) s) (XP := XL Mine.view []) (Yf := Hook.obs $H) (Ya := Hook.val $H) (YP := Hook.says $H) (N := 4786) ?hl (Hook.of $H) (Hook.keeps $H) (fun s e => xl_of s (Bool.and_eq_true_iff.mp e).1) XL.keeps (by rfl) (by rfl) (by rfl) (fun s e => recFacts_of (Bool.and_eq_true_iff.mp e).2) (by rfl) (by first | assumption | decide +kernel) (by decide +kernel) ⟨rfl, rfl, rfl, rfl, rfl, by decide +kernel⟩ ?hw ?hc; (case hl => exact Mine.left_tree (by kernel_rfl) (by decide) (by intro s; kernel_rfl) (by intro w os; kernel_rfl))))
theorem said0 : (PySem.Challenge.rw_rk0006_02).wellSaid = true := (congrFun Fast.te9446332074065402090 _).trans (by kernel_rfl)
local macro_rules | `(tactic| o_law) => `(tactic| (refine holds_law Mine.said0 fun said => ?_))
local macro_rules | `(tactic| k_qdec) => `(tactic| kernel_rfl)
open_top hd for PySem.Challenge.rw_rk0006_02
/-- sets the walk going (its tables are laid at the first entry); says nothing -/
theorem warm : True := by
  first
  | (have := hd (by
      k_go0
      fail)
     trivial)
  | trivial
section
open PySem PySem.W PyProof.Rows PySem.Calls
set_option linter.unusedVariables false
/-! own base: entering a def with what the call keeps told (ExtB) -/
/-- all that stands in h off the ledger stands in h' -/
def ExtB (as : List Addr) (h h' : Heap) : Prop := ∀ b o, h.get? b = some o → b ∉ as → h'.get? b = some o

theorem nmem_nil {l : Addr} : l ∉ ([] : List Addr) := by simp
theorem nmem_cons {l a : Addr} {as : List Addr} (h : @Ne Nat l a) (r : l ∉ as) : l ∉ a :: as := fun z => by
  rcases List.mem_cons.mp z with e | e
  · exact h e
  · exact r e
theorem ExtB.refl {as : List Addr} {h : Heap} : ExtB as h h := fun _ _ e _ => e
theorem ExtB.trans {as bs : List Addr} {h h' h'' : Heap} (x : ExtB as h h') (y : ExtB bs h' h'') (hs : ∀ b ∈ bs, b ∈ as ∨ h.get? b = none) : ExtB as h h'' := fun b o e q => y b o (x b o e q) fun z => by
  rcases hs b z with h1 | h1
  · exact q h1
  · rw [h1] at e; cases e
theorem ExtB.mono {as bs : List Addr} {h h' : Heap} (x : ExtB as h h') (hs : ∀ b ∈ as, b ∈ bs) : ExtB bs h h' := fun b o e q => x b o e fun z => q (hs b z)

theorem News.sub {h₀ h : Heap} {L : Addr} {news small : List (Addr × Obj)} (N : News h₀ L h news) (hs : ∀ p ∈ small, p ∈ news) : News h₀ L h small := fun p hp => N p (hs p hp)
theorem News.ext {h₀ h h' : Heap} {L : Addr} {news : List (Addr × Obj)} {as : List Addr} (N : News h₀ L h news) (x : ExtB as h h') (hs : ∀ p ∈ news, p.1 ∉ as) : News h₀ L h' news := fun p hp => ⟨x _ _ (N p hp).1 (hs p hp), (N p hp).2⟩
theorem News.join {h₀ h : Heap} {L : Addr} {a b : List (Addr × Obj)} (N : News h₀ L h a) (N' : News h₀ L h b) : News h₀ L h (a ++ b) := fun p hp => (List.mem_append.mp hp).elim (N p) (N' p)
theorem News.after {h₀ h h' : Heap} {L : Addr} {others small' : List (Addr × Obj)} {as : List Addr} (N : News h₀ L h others) (x : ExtB as h h') (hs : ∀ p ∈ others, p.1 ∉ as) (N' : News h₀ L h' small') : News h₀ L h' (small' ++ others) := News.join N' (News.ext N x hs)

theorem hide_none {as : List Addr} {h : Heap} (b : Addr) (e : (hideAll h as).get? b = none) : b ∈ as ∨ h.get? b = none := by
  by_cases q : b ∈ as
  · exact .inl q
  · cases z : h.get? b with
    | none => exact .inr rfl
    | some o => rw [hideAll_get _ z q] at e; cases e
section
variable {prog : Program} {w : World} {A A₀ : Around} {s : Shared} {K : Frag} {L : Addr} {h₀ base : Heap} {m mg mb : Str → Option Value} {news : List (Addr × Obj)} {p : Program} {loose : List Str} {mean : ExcName → Option Value}
  {env : Env} {outer : List Env} {R : Result → Shared → Prop} {name qual : Str} {params : Arguments} {body : List Stmt} {scope : Scope} {cl : List (Str × Addr)} {dV kV doc pm cdv ct oc : Value} {an od : Option Addr} {osl : Array (Option Value)} {f : Addr} {args : Args} {binds : List (Str × Value)}

theorem callX_plainE {fo : Obj} (B : Below A₀ base outer h₀) (F : Fr h₀ L s.heap m) (N : News h₀ L s.heap news) (hlim : h₀.NoLimit) (hA : A.frames = some (env :: outer)) (hf : env.frame = some L) (hke : env.scope.kind = .function)
    (ho : s.heap.get? f = some fo) (hd : fo.data = .func (fnX name qual params body scope cl dV kV doc pm an cdv ct)) (hcd : s.heap.CodeRec cdv qual) (hroom : A.depth < recursionLimit)
    (hbind : BindsTo s (fnX name qual params body scope cl dV kV doc pm an cdv ct) args binds) (hloc : ∀ y ∈ binds, scope.names.lookup y.1 = some .local)
    (h : ∀ g L' h₁, Fr h₀ L g m → Fr g L' h₁ (fun y => binds.reverse.lookup y) → News g L' h₁ news → Below A base (env :: outer) g → h₀.StaysIn g → (∀ p ∈ news, p.1 < L') → s.heap.StaysIn h₁ → ExtB (news.map (·.1)) s.heap g → (∀ b, g.get? b = none → b ∈ news.map (·.1) ∨ s.heap.get? b = none) →
      wpAny (model prog w) (A.deeper (envX qual scope L' f cdv cl)) (execs body (envX qual scope L' f cdv cl))
        (fun fl s' => LeaveK h₀ L m g (fun r s'' => ExtB (news.map (·.1)) s.heap s''.heap → R r s'') (match fl with | .ret v => v | _ => .none) s')
        (fun e s' => wpAny (model prog w) (A.deeper (envX qual scope L' f cdv cl)) (leaving (envX qual scope L' f cdv cl) e) (fun _ s'' => R (.error e) s'') (fun e' s'' => R (.error e') s'') s')
        { s with heap := h₁, toks := s.toks + binds.length })
    (hcell : ∀ x ∈ scope.names, x.2 ≠ .cell) (hco : scope.isCoroutine = false := by rfl) (hgen : scope.isGenerator = false := by rfl) (hk : scope.kind = .function := by rfl) : codeAny (model prog w) A (.call (.ref f) args) R s := by
  obtain ⟨FG, BG, st, _⟩ := groundX (R := R) B F N hA hf hke
  obtain ⟨_, _, _, lv⟩ := groundX (R := fun r s'' => ExtB (news.map (·.1)) s.heap s''.heap → R r s'') B F N hA hf hke
  refine codeAny_call_def (fd := fnX name qual params body scope cl dV kV doc pm an cdv ct) (body := body) (binds := binds) hroom ho hd (hlim.keeps F.keep) hcd rfl hbind hcell hloc (fun h₁ hns hk₁ => ?_) hco hgen hk
  refine wpAny_mono (h _ s.heap.objs.size h₁ FG ⟨hns, fun b o e => hk₁ b o (of_hideAll _ e), Nat.le_of_eq (hideAll_size _ _)⟩
    (fun p hp => ⟨hk₁ _ _ (N p hp).1, Nat.ne_of_lt (Heap.lt_size (N p hp).1), hideAll_none _ (List.mem_map_of_mem hp)⟩) BG st (fun p hp => Heap.lt_size (N p hp).1) hk₁ (fun b o e q => hideAll_get _ e q) (fun b e => hide_none b e)) (fun fl s' hl => ?_) fun _ _ y => y
  have hl' := hl
  obtain ⟨_, _, _, F', _, _⟩ := hl'
  exact lv _ _ hl fun b o e q => F'.keep b o (hideAll_get _ e q)

theorem code_defE (B : Below A₀ base outer h₀) (F : Fr h₀ L s.heap m) (X₀ : K.In h₀) (N : News h₀ L s.heap news) (T : Top p loose mean mg mb h₀) (hA : A.frames = some (env :: outer)) (hf : env.frame = some L) (hke : env.scope.kind = .function)
    (ho : K.lookup f = some ⟨oc, od, .func (fnOf name qual params body scope dV kV doc pm an cdv ct), osl⟩) (hcd : codeIn K cdv qual = true) (hroom : A.depth < recursionLimit)
    (hbind : BindsTo s (fnOf name qual params body scope dV kV doc pm an cdv ct) args binds) (hloc : ∀ y ∈ binds, scope.names.lookup y.1 = some .local)
    (h : ∀ g L' h₁, Fr h₀ L g m → Fr g L' h₁ (fun y => binds.reverse.lookup y) → News g L' h₁ news → Below A base (env :: outer) g → K.In g → Top p loose mean mg mb g → (∀ p ∈ news, p.1 < L') → s.heap.StaysIn h₁ → ExtB (news.map (·.1)) s.heap g → (∀ b, g.get? b = none → b ∈ news.map (·.1) ∨ s.heap.get? b = none) →
      wpAny (model prog w) (A.deeper (envOf qual scope L' f cdv)) (execs body (envOf qual scope L' f cdv))
        (fun fl s' => LeaveK h₀ L m g (fun r s'' => ExtB (news.map (·.1)) s.heap s''.heap → R r s'') (match fl with | .ret v => v | _ => .none) s')
        (fun e s' => wpAny (model prog w) (A.deeper (envOf qual scope L' f cdv)) (leaving (envOf qual scope L' f cdv) e) (fun _ s'' => R (.error e) s'') (fun e' s'' => R (.error e') s'') s')
        { s with heap := h₁, toks := s.toks + binds.length })
    (hco : scope.isCoroutine = false) (hgen : scope.isGenerator = false) (hk : scope.kind = .function)
    (hcell : ∀ x ∈ scope.names, x.2 ≠ .cell) : codeAny (model prog w) A (.call (.ref f) args) R s :=
  callX_plainE (cl := []) B F N T.nolimit hA hf hke ((X₀.keeps F.keep) _ _ ho) rfl (codeRec_of (X₀.keeps F.keep) hcd) hroom hbind hloc (fun g L' h₁ FG F' N' B' st l hk₁ hx hn => h g L' h₁ FG F' N' B' (X₀.keeps st) (T.keeps st) l hk₁ hx hn) hcell hco hgen hk
end
/-- a call's surroundings, its room written out -/
abbrev Lv (d u : Nat) (gd : Option (List Code)) (env : Env) (outer : List Env) : Around := { handled := none, depth := d, frames := some (env :: outer), guards := gd, units := u }
/-- surroundings that leave that room -/
def Fits (A : Around) (d u : Nat) (env : Env) (outer : List Env) (L : Addr) : Prop :=
  A.handled = none ∧ A.depth ≤ d ∧ A.units ≤ u ∧ A.frames = some (env :: outer) ∧ env.frame = some L ∧ env.scope.kind = .function
theorem codeAny_fits {M : Model} {A : Around} {d u : Nat} {env : Env} {outer : List Env} {L : Addr} {c : Code} {R : Result → Shared → Prop} {s : Shared} (hA : Fits A d u env outer L)
    (h : env.frame = some L → env.scope.kind = .function → codeAny M (Lv d u A.guards env outer) c R s) : codeAny M A c R s := fun Γ q hc hΓ =>
  h hA.2.2.2.2.1 hA.2.2.2.2.2 Γ q hc ⟨hΓ.1.trans hA.1, Nat.le_trans hΓ.2.1 hA.2.1, fun l hl => hΓ.2.2.1 l (hA.2.2.2.1.trans hl), hΓ.2.2.2.1, Nat.le_trans hΓ.2.2.2.2 hA.2.2.1⟩
theorem wpAny_fits {α : Type} {M : Model} {A : Around} {d u : Nat} {env : Env} {outer : List Env} {L : Addr} {t : Sem α} {Q : α → Shared → Prop} {E : Value → Shared → Prop} {s : Shared} (hA : Fits A d u env outer L)
    (h : env.frame = some L → env.scope.kind = .function → wpAny M (Lv d u A.guards env outer) t Q E s) : wpAny M A t Q E s := fun Γ q hΓ =>
  h hA.2.2.2.2.1 hA.2.2.2.2.2 Γ q ⟨hΓ.1.trans hA.1, Nat.le_trans hΓ.2.1 hA.2.1, fun l hl => hΓ.2.2.1 l (hA.2.2.2.1.trans hl), hΓ.2.2.2.1, Nat.le_trans hΓ.2.2.2.2 hA.2.2.1⟩

end

section
open PySem PySem.W PyProof.Rows PySem.Calls PyProof.V PySem.Spec
set_option linter.unusedVariables false
/-! own base: list iterators on the ledger (iter(list), next(it, d)), exact objects -/
abbrev itObj (l : Addr) (i : Nat) : Obj := { cls := .type "list_iterator", data := .fields #[.ref l, .int i 0] }
abbrev itEnd (i : Nat) : Obj := { cls := .type "list_iterator", data := .fields #[.none, .int i 0] }

section
variable {prog : Program} {w : World} {A : Around} {E : Value → Shared → Prop} {s : Shared} {h₀ : Heap} {L it l : Addr} {m : Str → Option Value} {news : List (Addr × Obj)} {g : Obj → List (Addr × Obj)} {i n : Nat} {items : Array Value} {x dflt : Value}

theorem li_pyNext_item {Q : Option Value → Shared → Prop} (ho : s.heap.get? it = some (itObj l i)) (hl : s.heap.get? l = some (W.listOf items n)) (hx : items[i]? = some x)
    (hQ : ∀ h', h'.get? it = some (itObj l (i + 1)) → Heap.SameBut it s.heap h' → Q (some x) { s with heap := h' }) : wpAny (model prog w) A (pyNext (.ref it)) Q E s := by
  have hT : s.TypeIs (.ref it) "list_iterator" := ⟨_, ho, rfl⟩
  unfold pyNext
  refine wpAny_bind (wpAny_attempt (wpAny_callSpecial?_slot (name := Str.ofString "__next__") hT slot_listiter_next
    (wpAny_call_entry slot_listiter_next hT entry_listiter_next ?_ (args_listiter_next _))))
  show wpAny _ _ (field (.ref it) 0 >>= _) _ _ s
  refine wpAny_bind (wpAny_field ho rfl (x := .ref l) rfl ?_)
  show wpAny _ _ (if (Value.ref l == Value.none) = true then _ else _) _ _ s
  rw [if_neg (show ¬ ((Value.ref l == Value.none) = true) from Bool.false_ne_true)]
  show wpAny _ _ (field (.ref it) 1 >>= _) _ _ s
  refine wpAny_bind (wpAny_field ho rfl (x := .int i 0) rfl ?_)
  show wpAny _ _ (seqItems? (.ref l) >>= _) _ _ s
  refine wpAny_bind (wpAny_seqItems hl rfl ?_)
  simp only [Int.toNat_natCast, hx]
  refine wpAny_bind (wpAny_setField_rec (s := s) ho (by decide : 1 < 2) (fun h' hg hs => wpAny_pure ⟨x, rfl, wpAny_pure (hQ h' ?_ hs)⟩))
  rw [hg]; rfl

theorem li_pyNext_end {Q : Option Value → Shared → Prop} (hh : A.handled = none) (ho : s.heap.get? it = some (itObj l i)) (hl : s.heap.get? l = some (W.listOf items n)) (hx : items[i]? = none)
    (hQ : ∀ h', h'.get? it = some (itEnd i) → Heap.ExtBut it s.heap h' → Q none { s with heap := h' }) : wpAny (model prog w) A (pyNext (.ref it)) Q E s := by
  have hT : s.TypeIs (.ref it) "list_iterator" := ⟨_, ho, rfl⟩
  unfold pyNext
  refine wpAny_bind (wpAny_attempt (wpAny_callSpecial?_slot (name := Str.ofString "__next__") hT slot_listiter_next
    (wpAny_call_entry slot_listiter_next hT entry_listiter_next ?_ (args_listiter_next _))))
  show wpAny _ _ (field (.ref it) 0 >>= _) _ _ s
  refine wpAny_bind (wpAny_field ho rfl (x := .ref l) rfl ?_)
  show wpAny _ _ (if (Value.ref l == Value.none) = true then _ else _) _ _ s
  rw [if_neg (show ¬ ((Value.ref l == Value.none) = true) from Bool.false_ne_true)]
  show wpAny _ _ (field (.ref it) 1 >>= _) _ _ s
  refine wpAny_bind (wpAny_field ho rfl (x := .int i 0) rfl ?_)
  show wpAny _ _ (seqItems? (.ref l) >>= _) _ _ s
  refine wpAny_bind (wpAny_seqItems hl rfl ?_)
  simp only [Int.toNat_natCast, hx]
  refine wpAny_bind (wpAny_rule (wpAny_bind (wpAny_setField_rec (s := s) ho (by decide : 0 < 2) (fun h1 hg hs => ?_))))
  show wpAny _ _ (newExc (.type "StopIteration") [] >>= _) _ _ _
  refine wpAny_bind ?_
  simp only [newExc, newTuple]
  refine wpAny_bind (wpAny_newObj_type ?_ (by size_fits))
  refine wpAny_bind (m := firstArgMember _ _) (wpAny_of_eq (a := Value.none) (by first | rfl | (simp only [firstArgMember]; rfl)) ?_)
  refine wpAny_newObj_type ?_ (by size_fits)
  simp only [raiseNew]
  refine wpAny_bind (wpAny_handled ?_)
  rw [show A.in1.handled = none from hh]
  refine wpAny_bind (wpAny_pure (wpAny_throw ?_))
  refine wpAny_bind (wpAny_isInstance (T := "StopIteration") (b := true) ⟨_, Heap.get?_push_size _ rfl, rfl⟩ isSubtype_stop ?_)
  refine wpAny_pure (hQ _ ?_ ((hs.extBut.push _).push _))
  exact Heap.get?_push_of_some _ (Heap.get?_push_of_some _ (by rw [hg]; rfl))

theorem li_pyNext_done {Q : Option Value → Shared → Prop} (hh : A.handled = none) (ho : s.heap.get? it = some (itEnd i))
    (hQ : ∀ h', s.heap.StaysIn h' → Q none { s with heap := h' }) : wpAny (model prog w) A (pyNext (.ref it)) Q E s := by
  have hT : s.TypeIs (.ref it) "list_iterator" := ⟨_, ho, rfl⟩
  unfold pyNext
  refine wpAny_bind (wpAny_attempt (wpAny_callSpecial?_slot (name := Str.ofString "__next__") hT slot_listiter_next
    (wpAny_call_entry slot_listiter_next hT entry_listiter_next ?_ (args_listiter_next _))))
  show wpAny _ _ (field (.ref it) 0 >>= _) _ _ s
  refine wpAny_bind (wpAny_field ho rfl (x := .none) rfl ?_)
  show wpAny _ _ (if (Value.none == Value.none) = true then _ else _) _ _ s
  rw [if_pos (show ((Value.none == Value.none) = true) from rfl)]
  refine wpAny_bind (wpAny_rule ?_)
  refine wpAny_bind ?_
  show wpAny _ _ (newExc (.type "StopIteration") [] >>= _) _ _ _
  refine wpAny_bind ?_
  simp only [newExc, newTuple]
  refine wpAny_bind (wpAny_newObj_type ?_ (by size_fits))
  refine wpAny_bind (m := firstArgMember _ _) (wpAny_of_eq (a := Value.none) (by first | rfl | (simp only [firstArgMember]; rfl)) ?_)
  refine wpAny_newObj_type ?_ (by size_fits)
  simp only [raiseNew]
  refine wpAny_bind (wpAny_handled ?_)
  rw [show A.in1.handled = none from hh]
  refine wpAny_bind (wpAny_pure (wpAny_throw ?_))
  refine wpAny_bind (wpAny_isInstance (T := "StopIteration") (b := true) ⟨_, Heap.get?_push_size _ rfl, rfl⟩ isSubtype_stop ?_)
  refine wpAny_pure (hQ _ fun b o e => ?_)
  exact Heap.get?_push_of_some _ (Heap.get?_push_of_some _ e)

theorem Fr.extB {as : List Addr} {h h' : Heap} (F : Fr h₀ L h m) (x : ExtB as h h') (hL : L ∉ as) (hb : ∀ b ∈ as, h₀.get? b = none) : Fr h₀ L h' m := by
  obtain ⟨oL, a1, a2, hLo, a3⟩ := F.ns
  refine ⟨⟨oL, a1, a2, x _ _ hLo hL, a3⟩, fun b o e => x b o (F.keep b o e) fun z => ?_, F.above⟩
  rw [hb b z] at e; cases e
theorem upd_ext {d : Addr} {o o' : Obj} {h h' : Heap} (F : Fr h₀ L h m) (N : News h₀ L h news) (U : UpdF d o news g) (x : ∀ b o, b ≠ d → h.get? b = some o → h'.get? b = some o) (hd : h'.get? d = some o') : Fr h₀ L h' m ∧ News h₀ L h' (g o') := by
  obtain ⟨pre, post, rfl, hg, a, b⟩ := U.split
  have D := N (d, o) (by simp)
  refine ⟨Fr.extB F (as := [d]) (fun b o e q => x b o (fun z => q (by simp [z])) e) (fun q => D.2.1 ((List.mem_singleton.mp q).symm)) (fun b q => by rw [List.mem_singleton.mp q]; exact D.2.2), ?_⟩
  rw [hg]
  intro p hp
  rcases List.mem_append.mp hp with q | q
  · have P := N p (List.mem_append_left _ q); exact ⟨x _ _ (a p q) P.1, P.2⟩
  · rcases List.mem_cons.mp q with rfl | q
    · exact ⟨hd, D.2⟩
    · have P := N p (List.mem_append_right _ (.tail _ q)); exact ⟨x _ _ (b p q) P.1, P.2⟩
theorem upd_mem {d : Addr} {o : Obj} (U : UpdF d o news g) : (d, o) ∈ news := by
  obtain ⟨pre, post, rfl, hg, a, b⟩ := U.split
  simp

theorem li_next {Q : Value → Shared → Prop} {o : Obj} (N : News h₀ L s.heap news) (U : (it, o) ∈ news) (hc : o.cls = .type "list_iterator")
    (h : wpAny (model prog w) A.in1 (pyNext (.ref it)) (fun r s' => Q (r.getD dflt) s') E s) : wpAny (model prog w) A (call (.builtin "next") [.ref it, dflt]) Q E s := by
  have hT : s.TypeIs (.ref it) "list_iterator" := ⟨_, (N _ U).1, hc⟩
  refine call_function_entry (by decide +kernel) (by decide +kernel) kdk_entry_next (kdk_args_next2 _ _) ?_
  unfold Builtin.«next»
  refine wpAny_bind (m := someArgs "next" 1 2 _) (wpAny_of_eq (a := [Value.ref it, dflt]) (by first | rfl | kernel_rfl!) ?_)
  dsimp only
  refine wpAny_bind (wpAny_specialOf (name := Str.ofString "__next__") hT slot_listiter_next.lookup ?_)
  refine wpAny_ite_split (fun hab => absurd hab (by decide)) (fun _ => ?_)
  refine wpAny_bind (wpAny_mono h (fun r s' hq => wpAny_pure ⟨_, rfl, hq⟩) fun _ _ z => z)
theorem li_next_item {Q : Value → Shared → Prop} (F : Fr h₀ L s.heap m) (N : News h₀ L s.heap news) (U : UpdF it (itObj l i) news g) (hl : s.heap.get? l = some (W.listOf items n)) (hx : items[i]? = some x)
    (h : ∀ h', Fr h₀ L h' m → News h₀ L h' (g (itObj l (i + 1))) → Q x { s with heap := h' }) : wpAny (model prog w) A (call (.builtin "next") [.ref it, dflt]) Q E s :=
  li_next N (upd_mem U) rfl (li_pyNext_item (N _ (upd_mem U)).1 hl hx fun h' ho hs =>
    have z := upd_ext F N U (fun b o hb e => (hs.2 b hb).trans e) ho
    h h' z.1 z.2)
theorem li_next_end {Q : Value → Shared → Prop} (hh : A.handled = none) (F : Fr h₀ L s.heap m) (N : News h₀ L s.heap news) (U : UpdF it (itObj l i) news g) (hl : s.heap.get? l = some (W.listOf items n)) (hx : items[i]? = none)
    (h : ∀ h', Fr h₀ L h' m → News h₀ L h' (g (itEnd i)) → Q dflt { s with heap := h' }) : wpAny (model prog w) A (call (.builtin "next") [.ref it, dflt]) Q E s :=
  li_next N (upd_mem U) rfl (li_pyNext_end hh (N _ (upd_mem U)).1 hl hx fun h' ho hs =>
    have z := upd_ext F N U (fun b o hb e => hs b o hb e) ho
    h h' z.1 z.2)
theorem li_next_done {Q : Value → Shared → Prop} (hh : A.handled = none) (F : Fr h₀ L s.heap m) (N : News h₀ L s.heap news) (U : (it, itEnd i) ∈ news)
    (h : ∀ h', Fr h₀ L h' m → News h₀ L h' news → Q dflt { s with heap := h' }) : wpAny (model prog w) A (call (.builtin "next") [.ref it, dflt]) Q E s :=
  li_next N U rfl (li_pyNext_done hh (N _ U).1 fun h' hs =>
    h h' (Fr.extB F (as := []) (fun b o e _ => hs b o e) (by simp) (by simp)) (fun p hp => ⟨hs _ _ (N p hp).1, (N p hp).2⟩))
theorem li_iter {Q : Value → Shared → Prop} (F : Fr h₀ L s.heap m) (N : News h₀ L s.heap news) (hl : s.heap.get? l = some (W.listOf items n))
    (h : ∀ (I : Addr) h', Fr h₀ L h' m → News h₀ L h' ((I, itObj l 0) :: news) → (∀ p ∈ news, p.1 < I) → Q (.ref I) { s with heap := h' }) :
    wpAny (model prog w) A (call (.builtin "iter") [.ref l]) Q E s := by
  refine call_function_entry (by decide +kernel) (by decide +kernel) kdk_entry_iter (kdk_args_iter _) ?_
  unfold Builtin.«iter»
  refine wpAny_bind (m := someArgs "iter" 1 2 _) (wpAny_of_eq (a := [Value.ref l]) (by first | rfl | kernel_rfl!) ?_)
  show wpAny _ _ (pyIter (.ref l) >>= _) _ _ _
  refine wpAny_bind (wpAny_pyIter_list (items := items) ⟨_, hl, rfl, n, rfl⟩ ?_)
  exact wpAny_pure ⟨_, rfl, h _ _ (F.push _) (News.push F N _ rfl) (fun q hq => Heap.lt_size (N q hq).1)⟩
theorem inst_base {x C : Addr} {ox : Obj} {od : Option Obj} {h : Heap} (F : Fr h₀ L h m) (I : InstAt h₀ x ox C od) : InstAt h x ox C od := by
  refine ⟨F.keep _ _ I.at_, I.cls, I.no, ?_⟩
  have c := I.dict
  split at c
  · exact F.keep _ _ c
  · trivial
  · exact c.elim
end
/-- a list iterator that still yields rem -/
def ItSt (h : Heap) (l : Addr) (oI : Obj) (rem : List Value) : Prop :=
  ∃ i items n, h.get? l = some (W.listOf items n) ∧ ((oI = itObj l i ∧ rem = items.toList.drop i) ∨ (oI = itEnd i ∧ rem = []))
theorem ItSt.keep {h h' : Heap} {l : Addr} {oI : Obj} {rem : List Value} (c : ItSt h l oI rem) (x : h.get? l = h'.get? l) : ItSt h' l oI rem := by
  obtain ⟨i, items, n, hl, c⟩ := c
  exact ⟨i, items, n, x ▸ hl, c⟩
theorem drop_cons {xs : List Value} {i : Nat} {v : Value} {r : List Value} (e : v :: r = xs.drop i) : xs[i]? = some v ∧ xs.drop (i + 1) = r := by
  have h1 := List.getElem?_drop (xs := xs) (i := i) (j := 0)
  have h2 := congrArg (List.drop 1) e.symm
  rw [← e] at h1
  rw [List.drop_drop] at h2
  exact ⟨by simpa using h1.symm, by simpa [Nat.add_comm] using h2⟩
section
variable {prog : Program} {w : World} {A : Around} {E : Value → Shared → Prop} {s : Shared} {h₀ : Heap} {L it l : Addr} {m : Str → Option Value} {news : List (Addr × Obj)} {g : Obj → List (Addr × Obj)} {x dflt v : Value} {oI : Obj} {r : List Value}
theorem li_next_cons {Q : Value → Shared → Prop} (F : Fr h₀ L s.heap m) (N : News h₀ L s.heap news) (U : UpdF it oI news g) (st : ItSt h₀ l oI (v :: r))
    (h : ∀ oI' h', Fr h₀ L h' m → News h₀ L h' (g oI') → ItSt h₀ l oI' r → Q v { s with heap := h' }) : wpAny (model prog w) A (call (.builtin "next") [.ref it, dflt]) Q E s := by
  obtain ⟨i, items, n, hl, ⟨rfl, e⟩ | ⟨_, e⟩⟩ := st
  · obtain ⟨hv, hd⟩ := drop_cons e
    exact li_next_item F N U (F.keep _ _ hl) (by simpa using hv) fun h' F' N' => h _ h' F' N' ⟨i + 1, items, n, hl, .inl ⟨rfl, hd.symm⟩⟩
  · cases e
theorem li_next_nil {Q : Value → Shared → Prop} (hh : A.handled = none) (F : Fr h₀ L s.heap m) (N : News h₀ L s.heap news) (U : UpdF it oI news g) (st : ItSt h₀ l oI [])
    (h : ∀ oI' h', Fr h₀ L h' m → News h₀ L h' (g oI') → ItSt h₀ l oI' [] → Q dflt { s with heap := h' }) : wpAny (model prog w) A (call (.builtin "next") [.ref it, dflt]) Q E s := by
  obtain ⟨i, items, n, hl, ⟨rfl, e⟩ | ⟨rfl, e⟩⟩ := st
  · have hv : items[i]? = none := by
      have := List.drop_eq_nil_iff.mp e.symm
      simpa using this
    exact li_next_end hh F N U (F.keep _ _ hl) hv fun h' F' N' => h _ h' F' N' ⟨i, items, n, hl, .inr ⟨rfl, rfl⟩⟩
  · refine li_next_done hh F N (upd_mem U) fun h' F' N' => h _ h' F' ?_ ⟨i, items, n, hl, .inr ⟨rfl, rfl⟩⟩
    obtain ⟨pre, post, e1, hg, _, _⟩ := U.split
    rw [hg]; rw [e1] at N'; exact N'
end
/-- marks the ledger's opaque end -/
def TailMark (_l : List (Addr × Obj)) : Prop := True
inductive EndIs (X : List (Addr × Obj)) : List (Addr × Obj) → (List (Addr × Obj) → List (Addr × Obj)) → Prop
  | here : EndIs X X (fun Y => Y)
  | cons {p : Addr × Obj} {r : List (Addr × Obj)} {g : List (Addr × Obj) → List (Addr × Obj)} : EndIs X r g → EndIs X (p :: r) (fun Y => p :: g Y)
theorem EndIs.mem {X r : List (Addr × Obj)} {g : List (Addr × Obj) → List (Addr × Obj)} (e : EndIs X r g) : ∀ Y, ∀ p ∈ g (Y ++ X), p ∈ Y ∨ p ∈ r := by
  induction e with
  | here => intro Y p hp; exact List.mem_append.mp hp
  | cons _ ih =>
    intro Y p hp
    rcases List.mem_cons.mp hp with h | h
    · exact .inr (h ▸ .head _)
    · exact (ih Y p h).imp id fun z => .tail _ z
/-- all of new stands off all of old -/
def OffNew (old new : List (Addr × Obj)) : Prop := ∀ q ∈ old, ∀ p ∈ new, p.1 ≠ q.1
theorem OffNew.of {old new : List (Addr × Obj)} {a : Addr} {o : Obj} (h : OffNew old new) (hm : (a, o) ∈ old) : ∀ p ∈ new, p.1 ≠ a := fun p hp => h _ hm p hp
theorem off_app {X Y : List (Addr × Obj)} {a : Addr} (h : ∀ p ∈ X, p.1 ≠ a) (h' : ∀ p ∈ Y, p.1 ≠ a) : ∀ p ∈ X ++ Y, p.1 ≠ a := fun p hp => (List.mem_append.mp hp).elim (h p) (h' p)
/-- the text -/
abbrev prog : Program := PySem.Challenge.rw_rk0006_02.row.prog
/-- the text's own statements, named by their place -/
def defAt (l : List Stmt) (i : Nat) : List Stmt × Scope := match l[i]? with
  | some (.FunctionDef _ _ b _ _ _ sc _ _ _) => (b, sc)
  | _ => ([], default)
def topAt (i : Nat) : List Stmt × Scope := defAt PySem.Challenge.pw_rk0006_02.main.body i
def methAt (c i : Nat) : List Stmt × Scope := match PySem.Challenge.pw_rk0006_02.main.body[c]? with
  | some (.ClassDef _ _ _ b _ _ _ _ _ _ _) => defAt b i
  | _ => ([], default)
theorem allLt_all {d : Addr} {l : List (Addr × Obj)} (h : AllLt d l) : ∀ p ∈ l, @LT.lt Nat _ p.1 d := by
  induction l with
  | nil => intro p hp; cases hp
  | cons q r ih =>
    intro p hp
    unfold AllLt at h
    rcases List.mem_cons.mp hp with e | e
    · rw [e]; exact h.1
    · exact ih h.2 p e
def forBody (l : List Stmt) (i : Nat) : List Stmt := match l[i]? with
  | some (.For _ _ b _ _) => b
  | _ => []
def forIter (l : List Stmt) (i : Nat) : Expr := match l[i]? with
  | some (.For _ e _ _ _) => e
  | _ => default
def rowIter : Expr := forIter (topAt 14).1 1
def lawBody : List Stmt := (topAt 18).1
def lawScope : Scope := (topAt 18).2
def lawAt (i : Nat) : List Stmt := (lawBody.drop i).take 1
def s3Body : List Stmt := forBody lawBody 3
def s3Iter : Expr := forIter lawBody 3
def s8Body : List Stmt := forBody lawBody 8
def s8Iter : Expr := forIter lawBody 8
def s10Body : List Stmt := forBody lawBody 10
def s10Iter : Expr := forIter lawBody 10
def rowBody : List Stmt := forBody (topAt 14).1 1
def rowScope : Scope := (topAt 14).2
def ntTail : List Stmt := (methAt 2 3).1.drop 4
def ntScope : Scope := (methAt 2 3).2
def pkTail : List Stmt := (methAt 2 2).1.drop 4
def pkScope : Scope := (methAt 2 2).2
/-- a token that stands below lo: its mark -/
abbrev tokDict (h1 h2 : Int) (t1 t2 t3 : Tok) (sp : Str) (f : Bool) : Obj := dictOf [⟨h1, .str (Str.ofString "space") t1, .str sp t3⟩, ⟨h2, .str (Str.ofString "first") t2, .bool f⟩] 2
def TokF (h : Heap) (lo : Nat) (t : Addr) (f : Bool) : Prop := ∃ d sl h1 h2 t1 t2 t3 sp, @LT.lt Nat _ t lo ∧ @LT.lt Nat _ d lo ∧ InstAt h t ⟨.ref 248, some d, .plain, sl⟩ 248 (some (tokDict h1 h2 t1 t2 t3 sp f))
theorem TokF.ext {h h' : Heap} {lo : Nat} {t : Addr} {f : Bool} {as : List Addr} (T : TokF h lo t f) (x : ExtB as h h') (hl : ∀ a ∈ as, @LE.le Nat _ lo a) : TokF h' lo t f := by
  obtain ⟨d, sl, h1, h2, t1, t2, t3, sp, l1, l2, I⟩ := T
  have ne : ∀ b : Addr, @LT.lt Nat _ b lo → b ∉ as := fun b hb z => Nat.lt_irrefl _ (Nat.lt_of_lt_of_le hb (hl b z))
  exact ⟨d, sl, h1, h2, t1, t2, t3, sp, l1, l2, ⟨x _ _ I.at_ (ne _ l1), I.cls, I.no, x _ _ I.dict (ne _ l2)⟩⟩
theorem TokF.mono {h : Heap} {lo lo' : Nat} {t : Addr} {f : Bool} (T : TokF h lo t f) (hl : lo ≤ lo') : TokF h lo' t f := by
  obtain ⟨d, sl, h1, h2, t1, t2, t3, sp, l1, l2, I⟩ := T
  exact ⟨d, sl, h1, h2, t1, t2, t3, sp, Nat.lt_of_lt_of_le l1 hl, Nat.lt_of_lt_of_le l2 hl, I⟩
theorem TokF.lt {h : Heap} {lo : Nat} {t : Addr} {f : Bool} (T : TokF h lo t f) : @LT.lt Nat _ t lo := by
  obtain ⟨d, sl, h1, h2, t1, t2, t3, sp, l1, l2, I⟩ := T
  exact l1

end

section
open PySem PySem.W PyProof.Rows PySem.Calls PyProof.V PySem.Spec
set_option linter.unusedVariables false
/-! own base: a for over range(0, n) in Fr / News form -/
section
variable {prog : Program} {w : World} {A : Around} {E : Value → Shared → Prop} {s : Shared} {h₀ : Heap} {env : Env} {m : Str → Option Value} {news : List (Addr × Obj)}

/-- where a turn ends: the iterator as it was, the word one further -/
def TurnEnd (h₀ : Heap) (L : Addr) (s : Shared) (I : Addr) (oI : Obj) (J : (Str → Option Value) → List (Addr × Obj) → Prop) (f : Flow) (s₂ : Shared) : Prop :=
  f = .next ∧ ∃ h' tk m₂ news₂, s₂ = { s with heap := h', toks := tk } ∧ Fr h₀ L h' m₂ ∧ News h₀ L h' ((I, oI) :: news₂) ∧ (∀ p ∈ news₂, p.1 ≠ I) ∧ J m₂ news₂

theorem forRange_FN {Q : Flow → Shared → Prop} {x : Str} {px : Pos} {body : List Stmt} {r : Addr} {n : Int} {t u v : Tok} (J : Nat → (Str → Option Value) → List (Addr × Obj) → Prop)
    (hh : A.handled = none) (hx : env.kindOf x = some .local)
    (hp : (env.scope.kind == .class || (env.scope.kind == .module && env.locals != env.globals)) = false)
    (hr : IsRange s.heap r 0 n 1 t u v) (hn0 : 0 ≤ n) (hn1 : n < 2 ^ 62) (F : Fr h₀ env.locals s.heap m) (N : News h₀ env.locals s.heap news) (h0 : J 0 m news)
    (turn : ∀ (i : Nat) tk m₁ news₁ h tk' I oI, (i : Int) < n → J i m₁ news₁ → (∀ p ∈ news₁, p.1 ≠ I) → Fr h₀ env.locals h (fun y => if y = x then some (.int i tk) else m₁ y) → News h₀ env.locals h ((I, oI) :: news₁) →
      wpAny (model prog w) A (execs body env) (TurnEnd h₀ env.locals s I oI (J (i + 1))) E { s with heap := h, toks := tk' })
    (done : ∀ m₁ news₁ h tk, J n.toNat m₁ news₁ → Fr h₀ env.locals h m₁ → News h₀ env.locals h news₁ → Q .next { s with heap := h, toks := tk })
    (hE : PassesOwn (model prog w) A env E := by passes_own) :
    wpAny (model prog w) A (pyIter (.ref r)) (fun it s₂ =>
      codeAny (model prog w) A (.forLoop (.Name x px) it body [] env) (fun r s' => match r with | .ok f => Q f s' | .error e => cameBackBy (model prog w) A env E e s') s₂) E s := by
  refine wpAny_pyIter_range hr (small_one (by decide) (by decide) (by omega) hn1) ?_
  have hsz : Builtin.Range.rangeSize 0 n 1 = n := by rw [rangeSize_one]; split <;> omega
  have hI0 : h₀.get? s.heap.objs.size = none := by
    cases hq : h₀.get? s.heap.objs.size with
    | none => rfl
    | some o' => exact absurd (Heap.lt_size (F.keep _ _ hq)) (Nat.lt_irrefl _)
  have hIL : s.heap.objs.size ≠ env.locals := by
    obtain ⟨oL, _, _, hL, _⟩ := F.ns
    exact Nat.ne_of_gt (Heap.lt_size hL)
  refine codeAny_forLoop (fun k s' => ∃ (h' : Heap) (tk' : Nat) (m' : Str → Option Value) (news' : List (Addr × Obj)) (i : Nat), s' = { s with heap := h', toks := tk' } ∧ IsRangeIter h' s.heap.objs.size i (n - i) 1 ∧ Fr h₀ env.locals h' m' ∧ News h₀ env.locals h' news' ∧ (∀ p ∈ news', p.1 ≠ s.heap.objs.size) ∧ J i m' news' ∧ (i : Int) ≤ n ∧ k = n.toNat + 1 - i) ?_ (n.toNat + 1)
    ⟨_, _, m, news, 0, rfl, ?_, F.push _, ?_, fun p hp => Nat.ne_of_lt (Heap.lt_size (N p hp).1), h0, by simpa using hn0, rfl⟩
  · rintro k s' ⟨h', tk', m', news', i, rfl, hit, F', N', hoff, hJ, hi, rfl⟩
    by_cases hlt : (i : Int) < n
    · refine wpAny_passesOwn hE (wpAny_pyNext_range_item hit (by omega) fun h₁ hit₁ hs₁ => ?_)
      have F₁ : Fr h₀ env.locals h₁ m' := Fr.extB F' (as := [s.heap.objs.size]) (fun b o e q => (hs₁.2 b (fun z => q (by simp [z]))).trans e) (by simpa using fun z => hIL z.symm) (by simpa using hI0)
      have N₁ : News h₀ env.locals h₁ news' := fun p hp => ⟨(hs₁.2 _ (hoff p hp)).trans (N' p hp).1, (N' p hp).2⟩
      refine wpAny_passesOwn hE (wpAny_assign_Name (wpAny_storeName_local hx F₁.ns (fun h₂ hn₂ hs₂ => ?_) hp))
      have F₂ := F₁.set hn₂ hs₂
      have N₂ := News.set N₁ hs₂
      have hI₂ : h₂.get? s.heap.objs.size = some _ := (hs₂.2 _ hIL).trans hit₁
      refine wpAny_passesOwn hE (wpAny_mono (turn i _ m' news' h₂ _ s.heap.objs.size { cls := .type "range_iterator", dict := none, data := .fields #[rawInt ((i : Int) + 1), rawInt (n - (i : Int) - 1), rawInt 1], slots := #[] } hlt hJ hoff F₂ ?_) (fun f s₃ h₃ => ?_) fun _ _ e => e)
      · intro p hp
        rcases List.mem_cons.mp hp with rfl | hp
        · exact ⟨hI₂, hIL, hI0⟩
        · exact N₂ p hp
      · obtain ⟨rfl, h₄, tk₄, m₄, news₄, rfl, F₄, N₄, ho₄, hJ₄⟩ := h₃
        refine ⟨n.toNat + 1 - (i + 1), by omega, h₄, tk₄, m₄, news₄, i + 1, rfl, ?_, F₄, fun p hp => N₄ p (.tail _ hp), ho₄, hJ₄, by omega, rfl⟩
        have e1 : ((i + 1 : Nat) : Int) = (i : Int) + 1 := by push_cast; rfl
        have e2 : n - ((i : Int) + 1) = n - (i : Int) - 1 := by omega
        rw [e1, e2]
        exact (N₄ _ (.head _)).1
    · have hin : n.toNat = i := by omega
      refine wpAny_passesOwn hE (wpAny_pyNext_range_end hh hit (by omega) fun h₁ he₁ => wpAny_execs_nil ?_)
      refine done m' news' h₁ _ (hin ▸ hJ) (Fr.extB F' (as := [s.heap.objs.size]) (fun b o e q => he₁ b o (fun z => q (by simp [z])) e) (by simpa using fun z => hIL z.symm) (by simpa using hI0)) fun p hp => ⟨he₁ _ _ (hoff p hp) (N' p hp).1, (N' p hp).2⟩
  · rw [hsz]
    simpa using Heap.get?_push_size _ rfl
  · exact fun p hp => ⟨Heap.get?_push_of_some _ (N p hp).1, (N p hp).2⟩
end

end

section
open PySem PySem.W PyProof.Rows PySem.Calls PyProof.V PySem.Spec
set_option linter.unusedVariables false
/-! own base: list += list, the element of the comprehension -/
def s5Body : List Stmt := forBody lawBody 5
def s5Iter : Expr := forIter lawBody 5
def augVal (l : List Stmt) (i : Nat) : Expr := match l[i]? with
  | some (.AugAssign _ _ v _) => v
  | _ => default
def compElt : Expr → Expr
  | .ListComp e _ _ _ => e
  | _ => default
def compScope : Expr → Scope
  | .ListComp _ _ sc _ => sc
  | _ => default
def s5Comp : Expr := augVal s5Body 0
def s5Elt : Expr := compElt s5Comp
def s5Scope : Scope := compScope s5Comp
theorem off1_of {d : Addr} {l : List (Addr × Obj)} (h : ∀ q ∈ l, q.1 ≠ d) : LCg.Off1 d l := by
  induction l with
  | nil => trivial
  | cons p r ih => exact ⟨h p (.head _), ih fun q hq => h q (.tail _ hq)⟩
theorem off1_mem {d : Addr} {l : List (Addr × Obj)} (h : LCg.Off1 d l) : ∀ q ∈ l, q.1 ≠ d := by
  induction l with
  | nil => intro q hq; cases hq
  | cons p r ih =>
    intro q hq
    rcases List.mem_cons.mp hq with e | e
    · rw [e]; exact h.1
    · exact ih h.2 q e
section
variable {prog : Program} {w : World} {A : Around} {E : Value → Shared → Prop} {s : Shared} {h₀ : Heap} {L D b : Addr} {m : Str → Option Value} {news : List (Addr × Obj)} {g : Obj → List (Addr × Obj)} {n n2 : Nat} {its its2 : Array Value}
theorem li_inplace {Q : Value → Shared → Prop} {a b : Value} (ha : s.TypeIs a "list") (hb : s.TypeIs b "list") (hc : wpAny (model prog w) A (call (.builtin "list.__iadd__") [a, b]) Q E s) : wpAny (model prog w) A (inplaceOp .Add a b) Q E s := by
  unfold inplaceOp
  refine wpAny_holding ?_
  have hl : typeLookup (.type "list") (dunderI "add") = pure (some (.builtin "list.__iadd__")) := PySem.F.slot_list_iadd.lookup
  have hq : isSeqSlot (some (.builtin "list.__iadd__")) = true := by decide +kernel
  have hfi : fillsInplaceSlot (.type "list") "add" (Operator.Add == .Add) = pure false := by
    unfold fillsInplaceSlot
    show (typeLookup (.type "list") (dunderI "add") >>= fun fi => pure (fi.isSome && !isSeqSlot fi)) = pure false
    rw [hl, pure_bind, hq]; rfl
  refine wpAny_bind (wpAny_typeOf ha (wpAny_bind (wpAny_of_eq hfi ?_)))
  show wpAny _ A (if false = true then _ else _) Q E s
  rw [if_neg Bool.false_ne_true]
  refine wpAny_bind (wpAny_binaryOp1_none (nm := "add") ha hb noFill_list_add ?_)
  refine wpAny_bind (wpAny_of_eq (PySem.seqSlot_of hl hq) ?_)
  exact wpAny_bind (wpAny_rule hc)
theorem li_iadd {Q : Value → Shared → Prop} (F : Fr h₀ L s.heap m) (N : News h₀ L s.heap news) (U : UpdF D (W.listOf its n) news g) (hb : (b, W.listOf its2 n2) ∈ news) (hz : its.size + its2.size ≤ 1000)
    (h : ∀ h' n', Fr h₀ L h' m → News h₀ L h' (g (W.listOf (its ++ its2) n')) → Q (.ref D) { s with heap := h' }) : wpAny (model prog w) A (inplaceOp .Add (.ref D) (.ref b)) Q E s := by
  have zD := N _ (upd_mem U)
  have zb := N _ hb
  refine li_inplace ⟨_, zD.1, rfl⟩ ⟨_, zb.1, rfl⟩ (call_meets PySem.F.slot_list_iadd ⟨_, zD.1, rfl⟩ PySem.F.entry_list_iadd (PySem.F.args_list_iadd_2 _ _) (PySem.AutoSeq1.list___iadd___list_list_0 D its n b its2 n2 ?_ ?_ ?_) ⟨zD.1, zb.1, ?_⟩)
  · have e : Builtin.List.listTooLong (its.size + its2.size) = false := decide_eq_false (by unfold sizeLine; omega)
    rw [e, Bool.and_false]
    exact Bool.false_ne_true
  · exact Nat.le_trans (show its.size ≤ 1000 by omega) (by unfold sizeLine; decide)
  · exact Nat.le_trans hz (by unfold sizeLine; decide)
  · have hs : Heap.SameBut D s.heap (s.heap.update D (Obj.mapSeq fun x => x ++ its2)) := Heap.SameBut.update ..
    have z := upd_ext (o' := W.listOf (its ++ its2) (if (its ++ its2).size == its.size then n else n + 1)) F N U (fun c o hc e => hs.extBut c o hc e) (Heap.get?_update_self _ zD.1 rfl)
    exact h _ _ z.1 z.2
end

end

section
open PySem PySem.W PyProof.Rows PySem.Calls PyProof.V PySem.Spec
set_option linter.unusedVariables false
/-! own base: a for over a list of the ledger in Fr / News form -/
section
variable {prog : Program} {w : World} {A : Around} {E : Value → Shared → Prop} {s : Shared} {h₀ : Heap} {env : Env} {m : Str → Option Value} {news : List (Addr × Obj)}
theorem forList_FN {Q : Flow → Shared → Prop} {x : Str} {px : Pos} {body : List Stmt} {r : Addr} {items : Array Value} {n : Nat} (J : Nat → (Str → Option Value) → List (Addr × Obj) → Prop)
    (hh : A.handled = none) (hx : env.kindOf x = some .local)
    (hp : (env.scope.kind == .class || (env.scope.kind == .module && env.locals != env.globals)) = false)
    (F : Fr h₀ env.locals s.heap m) (N : News h₀ env.locals s.heap news) (h0 : J 0 m news) (hX : ∀ i m news, J i m news → (r, W.listOf items n) ∈ news)
    (turn : ∀ (i : Nat) v m₁ news₁ h tk' I oI, items[i]? = some v → J i m₁ news₁ → (∀ p ∈ news₁, p.1 ≠ I) → Fr h₀ env.locals h (fun y => if y = x then some v else m₁ y) → News h₀ env.locals h ((I, oI) :: news₁) →
      wpAny (model prog w) A (execs body env) (TurnEnd h₀ env.locals s I oI (J (i + 1))) E { s with heap := h, toks := tk' })
    (done : ∀ m₁ news₁ h tk, J items.size m₁ news₁ → Fr h₀ env.locals h m₁ → News h₀ env.locals h news₁ → Q .next { s with heap := h, toks := tk })
    (hE : PassesOwn (model prog w) A env E := by passes_own) :
    wpAny (model prog w) A (pyIter (.ref r)) (fun it s₂ =>
      codeAny (model prog w) A (.forLoop (.Name x px) it body [] env) (fun r s' => match r with | .ok f => Q f s' | .error e => cameBackBy (model prog w) A env E e s') s₂) E s := by
  have hl := (N _ (hX _ _ _ h0)).1
  refine wpAny_pyIter_list ⟨_, hl, rfl, n, rfl⟩ ?_
  have hI0 : h₀.get? s.heap.objs.size = none := by
    cases hq : h₀.get? s.heap.objs.size with
    | none => rfl
    | some o' => exact absurd (Heap.lt_size (F.keep _ _ hq)) (Nat.lt_irrefl _)
  have hIL : s.heap.objs.size ≠ env.locals := by
    obtain ⟨oL, _, _, hL, _⟩ := F.ns
    exact Nat.ne_of_gt (Heap.lt_size hL)
  refine codeAny_forLoop (fun k s' => ∃ (h' : Heap) (tk' : Nat) (m' : Str → Option Value) (news' : List (Addr × Obj)) (i : Nat), s' = { s with heap := h', toks := tk' } ∧ h'.get? s.heap.objs.size = some (itObj r i) ∧ Fr h₀ env.locals h' m' ∧ News h₀ env.locals h' news' ∧ (∀ p ∈ news', p.1 ≠ s.heap.objs.size) ∧ J i m' news' ∧ i ≤ items.size ∧ k = items.size + 1 - i) ?_ (items.size + 1)
    ⟨_, _, m, news, 0, rfl, Heap.get?_push_size _ rfl, F.push _, ?_, fun p hp => Nat.ne_of_lt (Heap.lt_size (N p hp).1), h0, Nat.zero_le _, rfl⟩
  · rintro k s' ⟨h', tk', m', news', i, rfl, hit, F', N', hoff, hJ, hi, rfl⟩
    have hl' := (N' _ (hX _ _ _ hJ)).1
    cases hv : items[i]? with
    | some v =>
      have hlt : i < items.size := by
        rcases Nat.lt_or_ge i items.size with h | h
        · exact h
        · rw [Array.getElem?_eq_none h] at hv; cases hv
      refine wpAny_passesOwn hE (li_pyNext_item hit hl' hv fun h₁ hit₁ hs₁ => ?_)
      have F₁ : Fr h₀ env.locals h₁ m' := Fr.extB F' (as := [s.heap.objs.size]) (fun b o e q => (hs₁.2 b (fun z => q (by simp [z]))).trans e) (by simpa using fun z => hIL z.symm) (by simpa using hI0)
      have N₁ : News h₀ env.locals h₁ news' := fun p hp => ⟨(hs₁.2 _ (hoff p hp)).trans (N' p hp).1, (N' p hp).2⟩
      refine wpAny_passesOwn hE (wpAny_assign_Name (wpAny_storeName_local hx F₁.ns (fun h₂ hn₂ hs₂ => ?_) hp))
      have F₂ := F₁.set hn₂ hs₂
      have N₂ := News.set N₁ hs₂
      have hI₂ : h₂.get? s.heap.objs.size = some _ := (hs₂.2 _ hIL).trans hit₁
      refine wpAny_passesOwn hE (wpAny_mono (turn i v m' news' h₂ _ s.heap.objs.size (itObj r (i + 1)) hv hJ hoff F₂ ?_) (fun f s₃ h₃ => ?_) fun _ _ e => e)
      · intro p hp
        rcases List.mem_cons.mp hp with rfl | hp
        · exact ⟨hI₂, hIL, hI0⟩
        · exact N₂ p hp
      · obtain ⟨rfl, h₄, tk₄, m₄, news₄, rfl, F₄, N₄, ho₄, hJ₄⟩ := h₃
        exact ⟨items.size + 1 - (i + 1), by omega, h₄, tk₄, m₄, news₄, i + 1, rfl, (N₄ _ (.head _)).1, F₄, fun p hp => N₄ p (.tail _ hp), ho₄, hJ₄, by omega, rfl⟩
    | none =>
      have hin : items.size = i := by
        have := Array.getElem?_eq_none_iff.mp hv
        omega
      refine wpAny_passesOwn hE (li_pyNext_end hh hit hl' hv fun h₁ _ he₁ => wpAny_execs_nil ?_)
      exact done m' news' h₁ _ (hin ▸ hJ) (Fr.extB F' (as := [s.heap.objs.size]) (fun b o e q => he₁ b o (fun z => q (by simp [z])) e) (by simpa using fun z => hIL z.symm) (by simpa using hI0)) fun p hp => ⟨he₁ _ _ (hoff p hp) (N' p hp).1, (N' p hp).2⟩
  · exact fun p hp => ⟨Heap.get?_push_of_some _ (N p hp).1, (N p hp).2⟩
end

end

section
open PySem PySem.W PyProof.Rows PySem.Calls PyProof.V PySem.Spec
set_option linter.unusedVariables false
/-! own base: a for over range(0, n), the iterator above all that stood -/
section
variable {prog : Program} {w : World} {A : Around} {E : Value → Shared → Prop} {s : Shared} {h₀ : Heap} {env : Env} {m : Str → Option Value} {news : List (Addr × Obj)}

theorem forRange_FI {Q : Flow → Shared → Prop} {x : Str} {px : Pos} {body : List Stmt} {r : Addr} {n : Int} {t u v : Tok} (J : Nat → (Str → Option Value) → List (Addr × Obj) → Prop)
    (hh : A.handled = none) (hx : env.kindOf x = some .local)
    (hp : (env.scope.kind == .class || (env.scope.kind == .module && env.locals != env.globals)) = false)
    (hr : IsRange s.heap r 0 n 1 t u v) (hn0 : 0 ≤ n) (hn1 : n < 2 ^ 62) (F : Fr h₀ env.locals s.heap m) (N : News h₀ env.locals s.heap news) (h0 : J 0 m news)
    (turn : ∀ (i : Nat) tk m₁ news₁ h tk' I oI, (i : Int) < n → J i m₁ news₁ → (∀ p ∈ news, @LT.lt Nat _ p.1 I) → (∀ p ∈ news₁, p.1 ≠ I) → Fr h₀ env.locals h (fun y => if y = x then some (.int i tk) else m₁ y) → News h₀ env.locals h ((I, oI) :: news₁) →
      wpAny (model prog w) A (execs body env) (TurnEnd h₀ env.locals s I oI (J (i + 1))) E { s with heap := h, toks := tk' })
    (done : ∀ m₁ news₁ h tk, J n.toNat m₁ news₁ → Fr h₀ env.locals h m₁ → News h₀ env.locals h news₁ → Q .next { s with heap := h, toks := tk })
    (hE : PassesOwn (model prog w) A env E := by passes_own) :
    wpAny (model prog w) A (pyIter (.ref r)) (fun it s₂ =>
      codeAny (model prog w) A (.forLoop (.Name x px) it body [] env) (fun r s' => match r with | .ok f => Q f s' | .error e => cameBackBy (model prog w) A env E e s') s₂) E s := by
  refine wpAny_pyIter_range hr (small_one (by decide) (by decide) (by omega) hn1) ?_
  have hsz : Builtin.Range.rangeSize 0 n 1 = n := by rw [rangeSize_one]; split <;> omega
  have hI0 : h₀.get? s.heap.objs.size = none := by
    cases hq : h₀.get? s.heap.objs.size with
    | none => rfl
    | some o' => exact absurd (Heap.lt_size (F.keep _ _ hq)) (Nat.lt_irrefl _)
  have hIL : s.heap.objs.size ≠ env.locals := by
    obtain ⟨oL, _, _, hL, _⟩ := F.ns
    exact Nat.ne_of_gt (Heap.lt_size hL)
  refine codeAny_forLoop (fun k s' => ∃ (h' : Heap) (tk' : Nat) (m' : Str → Option Value) (news' : List (Addr × Obj)) (i : Nat), s' = { s with heap := h', toks := tk' } ∧ IsRangeIter h' s.heap.objs.size i (n - i) 1 ∧ Fr h₀ env.locals h' m' ∧ News h₀ env.locals h' news' ∧ (∀ p ∈ news', p.1 ≠ s.heap.objs.size) ∧ J i m' news' ∧ (i : Int) ≤ n ∧ k = n.toNat + 1 - i) ?_ (n.toNat + 1)
    ⟨_, _, m, news, 0, rfl, ?_, F.push _, ?_, fun p hp => Nat.ne_of_lt (Heap.lt_size (N p hp).1), h0, by simpa using hn0, rfl⟩
  · rintro k s' ⟨h', tk', m', news', i, rfl, hit, F', N', hoff, hJ, hi, rfl⟩
    by_cases hlt : (i : Int) < n
    · refine wpAny_passesOwn hE (wpAny_pyNext_range_item hit (by omega) fun h₁ hit₁ hs₁ => ?_)
      have F₁ : Fr h₀ env.locals h₁ m' := Fr.extB F' (as := [s.heap.objs.size]) (fun b o e q => (hs₁.2 b (fun z => q (by simp [z]))).trans e) (by simpa using fun z => hIL z.symm) (by simpa using hI0)
      have N₁ : News h₀ env.locals h₁ news' := fun p hp => ⟨(hs₁.2 _ (hoff p hp)).trans (N' p hp).1, (N' p hp).2⟩
      refine wpAny_passesOwn hE (wpAny_assign_Name (wpAny_storeName_local hx F₁.ns (fun h₂ hn₂ hs₂ => ?_) hp))
      have F₂ := F₁.set hn₂ hs₂
      have N₂ := News.set N₁ hs₂
      have hI₂ : h₂.get? s.heap.objs.size = some _ := (hs₂.2 _ hIL).trans hit₁
      refine wpAny_passesOwn hE (wpAny_mono (turn i _ m' news' h₂ _ s.heap.objs.size { cls := .type "range_iterator", dict := none, data := .fields #[rawInt ((i : Int) + 1), rawInt (n - (i : Int) - 1), rawInt 1], slots := #[] } hlt hJ (fun p hp => Heap.lt_size (N p hp).1) hoff F₂ ?_) (fun f s₃ h₃ => ?_) fun _ _ e => e)
      · intro p hp
        rcases List.mem_cons.mp hp with rfl | hp
        · exact ⟨hI₂, hIL, hI0⟩
        · exact N₂ p hp
      · obtain ⟨rfl, h₄, tk₄, m₄, news₄, rfl, F₄, N₄, ho₄, hJ₄⟩ := h₃
        refine ⟨n.toNat + 1 - (i + 1), by omega, h₄, tk₄, m₄, news₄, i + 1, rfl, ?_, F₄, fun p hp => N₄ p (.tail _ hp), ho₄, hJ₄, by omega, rfl⟩
        have e1 : ((i + 1 : Nat) : Int) = (i : Int) + 1 := by push_cast; rfl
        have e2 : n - ((i : Int) + 1) = n - (i : Int) - 1 := by omega
        rw [e1, e2]
        exact (N₄ _ (.head _)).1
    · have hin : n.toNat = i := by omega
      refine wpAny_passesOwn hE (wpAny_pyNext_range_end hh hit (by omega) fun h₁ he₁ => wpAny_execs_nil ?_)
      refine done m' news' h₁ _ (hin ▸ hJ) (Fr.extB F' (as := [s.heap.objs.size]) (fun b o e q => he₁ b o (fun z => q (by simp [z])) e) (by simpa using fun z => hIL z.symm) (by simpa using hI0)) fun p hp => ⟨he₁ _ _ (hoff p hp) (N' p hp).1, (N' p hp).2⟩
  · rw [hsz]
    simpa using Heap.get?_push_size _ rfl
  · exact fun p hp => ⟨Heap.get?_push_of_some _ (N p hp).1, (N p hp).2⟩
end

end

section
open PySem PySem.W PyProof.Rows PySem.Calls PyProof.V PySem.Spec
set_option linter.unusedVariables false
/-! own base: a for over reversed(list) in Fr / News form, that may break -/
section
variable {prog : Program} {w : World} {A : Around} {E : Value → Shared → Prop} {s : Shared} {h₀ : Heap} {env : Env} {m : Str → Option Value} {news : List (Addr × Obj)}
theorem forRev_FN {Q : Flow → Shared → Prop} {x : Str} {px : Pos} {body : List Stmt} {I r : Addr} {vs : List Value} {n : Nat} (J : Nat → (Str → Option Value) → List (Addr × Obj) → Prop)
    (hh : A.handled = none) (hx : env.kindOf x = some .local)
    (hp : (env.scope.kind == .class || (env.scope.kind == .module && env.locals != env.globals)) = false)
    (F : Fr h₀ env.locals s.heap m) (N : News h₀ env.locals s.heap ((I, revObj r ((vs.length : Int) - 1)) :: news)) (hoff : ∀ p ∈ news, p.1 ≠ I) (h0 : J vs.length m news) (hX : ∀ i m news, J i m news → (r, W.listOf vs.toArray n) ∈ news)
    (turn : ∀ (i : Nat) v m₁ news₁ h tk' oI, vs[i]? = some v → J (i + 1) m₁ news₁ → (∀ p ∈ news₁, p.1 ≠ I) → Fr h₀ env.locals h (fun y => if y = x then some v else m₁ y) → News h₀ env.locals h ((I, oI) :: news₁) →
      wpAny (model prog w) A (execs body env) (fun f s₂ => (f = .next ∧ ∃ h' tk m₂ news₂, s₂ = { s with heap := h', toks := tk } ∧ Fr h₀ env.locals h' m₂ ∧ News h₀ env.locals h' ((I, oI) :: news₂) ∧ (∀ p ∈ news₂, p.1 ≠ I) ∧ J i m₂ news₂) ∨ (f = .brk ∧ Q .next s₂)) E { s with heap := h, toks := tk' })
    (done : ∀ m₁ news₁ h tk, J 0 m₁ news₁ → Fr h₀ env.locals h m₁ → News h₀ env.locals h news₁ → Q .next { s with heap := h, toks := tk })
    (hE : PassesOwn (model prog w) A env E := by passes_own) :
    wpAny (model prog w) A (pyIter (.ref I)) (fun it s₂ =>
      codeAny (model prog w) A (.forLoop (.Name x px) it body [] env) (fun r s' => match r with | .ok f => Q f s' | .error e => cameBackBy (model prog w) A env E e s') s₂) E s := by
  have hI := (N _ (.head _)).1
  have hIL : I ≠ env.locals := (N _ (.head _)).2.1
  have hI0 : h₀.get? I = none := (N _ (.head _)).2.2
  refine wpAny_pyIter_revIter (l := r) (i := (vs.length : Int) - 1) ⟨_, hI, rfl, rfl⟩ ?_
  refine codeAny_forLoop (fun k s' => ∃ (h' : Heap) (tk' : Nat) (m' : Str → Option Value) (news' : List (Addr × Obj)) (i : Nat), s' = { s with heap := h', toks := tk' } ∧ h'.IsRevIter I r ((i : Int) - 1) ∧ Fr h₀ env.locals h' m' ∧ News h₀ env.locals h' news' ∧ (∀ p ∈ news', p.1 ≠ I) ∧ J i m' news' ∧ i ≤ vs.length ∧ k = i + 1) ?_ (vs.length + 1)
    ⟨_, _, m, news, vs.length, rfl, ⟨_, hI, rfl, rfl⟩, F, fun p hp => N p (.tail _ hp), hoff, h0, Nat.le_refl _, rfl⟩
  rintro k s' ⟨h', tk', m', news', i, rfl, hit, F', N', hoff, hJ, hle, rfl⟩
  have hl' : h'.IsList r vs.toArray := ⟨_, (N' _ (hX _ _ _ hJ)).1, rfl, n, rfl⟩
  cases i with
  | zero =>
    refine wpAny_passesOwn hE (wpAny_pyNext_rev_end hh (l := r) (by simpa using hit) fun h₁ he₁ => wpAny_execs_nil ?_)
    exact done m' news' h₁ _ hJ (Fr.extB F' (as := [I]) (fun b o e q => he₁ b o (fun z => q (by simp [z])) e) (by simpa using fun z => hIL z.symm) (by simpa using hI0)) fun p hp => ⟨he₁ _ _ (hoff p hp) (N' p hp).1, (N' p hp).2⟩
  | succ i =>
    have hit2 : h'.IsRevIter I r (i : Int) := by
      have e : (((i + 1 : Nat) : Int) - 1) = (i : Int) := by omega
      rwa [e] at hit
    cases hv : vs[i]? with
    | none =>
      exact absurd (List.getElem?_eq_none_iff.mp hv) (by omega)
    | some v =>
      refine wpAny_passesOwn hE (wpAny_pyNext_rev_item hit2 hl' (by simpa using hv) fun h₁ hit₁ hs₁ => ?_)
      have F₁ : Fr h₀ env.locals h₁ m' := Fr.extB F' (as := [I]) (fun b o e q => (hs₁.2 b (fun z => q (by simp [z]))).trans e) (by simpa using fun z => hIL z.symm) (by simpa using hI0)
      have N₁ : News h₀ env.locals h₁ news' := fun p hp => ⟨(hs₁.2 _ (hoff p hp)).trans (N' p hp).1, (N' p hp).2⟩
      refine wpAny_passesOwn hE (wpAny_assign_Name (wpAny_storeName_local hx F₁.ns (fun h₂ hn₂ hs₂ => ?_) hp))
      have F₂ := F₁.set hn₂ hs₂
      have N₂ := News.set N₁ hs₂
      obtain ⟨oI, hoI, hoc, hod⟩ := hit₁
      have hI₂ : h₂.get? I = some oI := (hs₂.2 _ hIL).trans hoI
      refine wpAny_passesOwn hE (wpAny_mono (turn i v m' news' h₂ _ oI hv hJ hoff F₂ ?_) (fun f s₃ h₃ => ?_) fun _ _ e => e)
      · intro p hp
        rcases List.mem_cons.mp hp with rfl | hp
        · exact ⟨hI₂, hIL, hI0⟩
        · exact N₂ p hp
      · rcases h₃ with ⟨rfl, h₄, tk₄, m₄, news₄, rfl, F₄, N₄, ho₄, hJ₄⟩ | ⟨rfl, hq⟩
        · exact ⟨i + 1, by omega, h₄, tk₄, m₄, news₄, i, rfl, ⟨_, (N₄ _ (.head _)).1, hoc, hod⟩, F₄, fun p hp => N₄ p (.tail _ hp), ho₄, hJ₄, by omega, rfl⟩
        · exact hq
end

end

open PySem.Calls
local macro_rules | `(tactic| walk_at "kstd") => `(tactic| (all_goals (try (first | ((with_reducible show Below _ _ _ _); k_asm) | ((with_reducible show Fr _ _ _ _); k_asm) | ((with_reducible show (hd.heap_1 _).In _); k_asm) | ((with_reducible show Top _ _ _ _ _ _); k_asm) | ((with_reducible show Fits _ _ _ _ _ _); exact ⟨rfl, Nat.le_of_ble_eq_true rfl, Nat.le_of_ble_eq_true rfl, rfl, rfl, rfl⟩)))))
local macro_rules | `(tactic| walk_at "kends") => `(tactic| (first | exact (EndIs.cons (EndIs.cons (EndIs.cons (EndIs.cons (EndIs.cons (EndIs.cons (EndIs.cons (EndIs.cons (EndIs.cons (EndIs.cons (EndIs.cons (EndIs.cons (EndIs.cons (EndIs.cons EndIs.here)))))))))))))) | exact (EndIs.cons (EndIs.cons (EndIs.cons (EndIs.cons (EndIs.cons (EndIs.cons (EndIs.cons (EndIs.cons (EndIs.cons (EndIs.cons (EndIs.cons (EndIs.cons (EndIs.cons EndIs.here))))))))))))) | exact (EndIs.cons (EndIs.cons (EndIs.cons (EndIs.cons (EndIs.cons (EndIs.cons (EndIs.cons (EndIs.cons (EndIs.cons (EndIs.cons (EndIs.cons (EndIs.cons EndIs.here)))))))))))) | exact (EndIs.cons (EndIs.cons (EndIs.cons (EndIs.cons (EndIs.cons (EndIs.cons (EndIs.cons (EndIs.cons (EndIs.cons (EndIs.cons (EndIs.cons EndIs.here))))))))))) | exact (EndIs.cons (EndIs.cons (EndIs.cons (EndIs.cons (EndIs.cons (EndIs.cons (EndIs.cons (EndIs.cons (EndIs.cons (EndIs.cons EndIs.here)))))))))) | exact (EndIs.cons (EndIs.cons (EndIs.cons (EndIs.cons (EndIs.cons (EndIs.cons (EndIs.cons (EndIs.cons (EndIs.cons EndIs.here))))))))) | exact (EndIs.cons (EndIs.cons (EndIs.cons (EndIs.cons (EndIs.cons (EndIs.cons (EndIs.cons (EndIs.cons EndIs.here)))))))) | exact (EndIs.cons (EndIs.cons (EndIs.cons (EndIs.cons (EndIs.cons (EndIs.cons (EndIs.cons EndIs.here))))))) | exact (EndIs.cons (EndIs.cons (EndIs.cons (EndIs.cons (EndIs.cons (EndIs.cons EndIs.here)))))) | exact (EndIs.cons (EndIs.cons (EndIs.cons (EndIs.cons (EndIs.cons EndIs.here))))) | exact (EndIs.cons (EndIs.cons (EndIs.cons (EndIs.cons EndIs.here)))) | exact (EndIs.cons (EndIs.cons (EndIs.cons EndIs.here))) | exact (EndIs.cons (EndIs.cons EndIs.here)) | exact (EndIs.cons EndIs.here) | exact EndIs.here))
local macro_rules | `(tactic| walk_at "koff") => `(tactic| (repeat (first | exact List.forall_mem_nil _ | assumption | refine List.forall_mem_cons.mpr ⟨(by ((try dsimp only); repeat (first | exact nmem_nil | refine nmem_cons (by walk_at "kne") ?_))), ?_⟩)))
local macro_rules | `(tactic| walk_at "kne") => `(tactic| (first | assumption | (refine Nat.ne_of_lt ?_; walk_at "kch"; done) | (refine Nat.ne_of_gt ?_; walk_at "kch"; done) | omega))
local macro_rules | `(tactic| walk_at "kch") => `(tactic| (repeat (first | assumption | exact Nat.le_refl _ | refine Nat.lt_of_lt_of_le (by assumption) ?_ | refine Nat.lt_of_le_of_lt (by assumption) ?_ | refine Nat.le_trans (Nat.le_of_lt (by assumption)) ?_ | refine Nat.le_trans (by assumption) ?_)))
local macro_rules | `(tactic| k_ne) => `(tactic| (refine neN ?_; (try dsimp only); walk_at "kne"))
local macro_rules | `(tactic| walk_at "call builtin:next") => `(tactic| (k_here; (with_reducible show wpAny _ _ (call (Value.builtin "next") [Value.ref _, _]) _ _ _); k_dflt (first
  | (refine' li_next_cons ?F ?N ?U ?x ?_; (case F => k_asm); (case N => k_asm); (case U => k_updF); (case x => k_asm); k_whole; intro oI' h' F' N' hI'; (try dsimp only at N'))
  | (refine' li_next_nil ?h ?F ?N ?U ?x ?_; (case h => exact rfl); (case F => k_asm); (case N => k_asm); (case U => k_updF); (case x => k_asm); k_whole; intro oI' h' F' N' hI'; (try dsimp only at N'))
  | (refine' li_next_done ?h ?F ?N ?U ?_; (case h => exact rfl); (case F => k_asm); (case N => k_asm); (case U => k_mem); k_whole; intro h' F' N')
  | (refine' li_next_item ?F ?N ?U ?l ?x ?_; (case F => k_asm); (case N => k_asm); (case U => k_updF); (case l => (first | exact News.get (by k_asm) (by k_mem) | exact Fr.keep (by k_asm) _ _ (by k_asm))); (case x => k_asm); k_whole; intro h' F' N'; (try dsimp only at N'))
  | (refine' li_next_end ?h ?F ?N ?U ?l ?x ?_; (case h => exact rfl); (case F => k_asm); (case N => k_asm); (case U => k_updF); (case l => (first | exact News.get (by k_asm) (by k_mem) | exact Fr.keep (by k_asm) _ _ (by k_asm))); (case x => k_asm); k_whole; intro h' F' N'; (try dsimp only at N')))))
local macro_rules | `(tactic| walk_at "call builtin:iter") => `(tactic| (k_here; (with_reducible show wpAny _ _ (call (Value.builtin "iter") [Value.ref _]) _ _ _); k_dflt (refine' li_iter ?F ?N ?l ?_; (case F => k_asm); (case N => k_asm); (case l => (first | exact News.get (by k_asm) (by k_mem) | exact Fr.keep (by k_asm) _ _ (by k_asm))); k_whole; intro I' h' F' N' l1; (try k_lt l1))))
local macro_rules | `(tactic| k_inst) => `(tactic| exact inst_base (by k_asm) (by k_asm))
local macro_rules | `(tactic| walk_at "eval Name") => `(tactic| (k_here; k_dflt (refine' ld ?k1 ?k2 ?_; (case k1 => k_asm); (case k2 => assumption); k_whole)))
local macro_rules | `(tactic| k_lt $h:ident) => `(tactic| (have hA9 := allLt_of $h; replace $h := allLt_of $h; simp only [AllLt, and_true] at $h:ident))
local macro_rules | `(tactic| k_all) => `(tactic| first | exact List.forall_mem_nil _ | (refine' List.forall_mem_cons.mpr ⟨?a, ?b⟩; (case a => k_ne); (case b => k_all)) | assumption | exact OffNew.of (by assumption) (by k_mem) | (refine off_app ?_ ?_ <;> k_all) | (intro p hp; refine neN ?_; (repeat ((with_reducible rename AllLt _ _ => hq1); (have hq2 := allLt_all hq1 p (by (repeat (first | exact hp | refine List.mem_cons_of_mem _ ?_)))); clear hq1)); omega))


section
set_option linter.unusedVariables false
set_option linter.unusedSimpArgs false
variable {w : World} {p : Program} {loose : List Str} {mean : ExcName → Option Value} {mg mb : Str → Option Value}



section
variable {gd : Option (List Code)} {A A₀ : Around} {env : Env} {outer : List Env} {base h₀ : Heap} {L : Addr} {m : Str → Option Value} {s : Shared} {R : Result → Shared → Prop}
  {T r : Addr} {o : Obj} {its : List Value} {ns : List Int} {rn n : Nat} {k sides : Int} {t3 t4 : Tok} {news : List (Addr × Obj)} {g : Obj → List (Addr × Obj)}
abbrev TapeIs (prog : Program) (w : World) (o : Obj) (r : Addr) (k : Int) (t3 : Tok) : Prop := o.IsDictOf (strKind prog w) [(Str.ofString "row", .ref r), (Str.ofString "at", .int k t3)]
theorem number_spec
  (B : Below A₀ base outer h₀) (F : Fr h₀ L s.heap m) (X : (hd.heap_1 w.params).In h₀) (TT : Top p loose mean mg mb h₀) (hA : Fits A 500 5000 env outer L)
  (N : News h₀ L s.heap [(T, o), (r, W.listOf its.toArray rn)]) (ho : o.IsDictOf (strKind prog w) [(Str.ofString "row", .ref r), (Str.ofString "at", .int k t3)])
  (hTr : @Ne Nat T r) (hi : IntsAre its ns) (hlen : ns.length ≤ 40) (hk : 0 ≤ k) (hk2 : k < 1000) (hs : 0 < sides) (hs2 : sides < 100)
  (ret : ∀ j t t' o' h' tk', 0 ≤ j → j < sides → ExtB [T, r] s.heap h' → Fr h₀ L h' m → News h₀ L h' [(T, o'), (r, W.listOf its.toArray rn)] → o'.IsDictOf (strKind prog w) [(Str.ofString "row", .ref r), (Str.ofString "at", .int (k + 1) t')] → R (.ok (.ret (.int j t))) {s with heap := h', toks := tk'}) :
  codeAny (model prog w) A (.call (.ref 266) ⟨[.ref T, .int sides t4], []⟩) R s := by
  refine codeAny_fits hA fun hf hke => ?_
  k_dflt (refine' code_defE ?k1 ?k2 ?k3 ?k4 ?k5 ?kA ?kF ?kK ?k6 ?k7 ?k8 ?k9 ?kB ?_ ?c2 ?c3 ?c4 ?c5; (case kA => exact rfl); (case kF => first | assumption | exact rfl); (case kK => first | assumption | exact rfl); (case k1 => k_asm); (case k2 => k_asm); (case k3 => k_asm); (case k4 => k_asm); (case k5 => k_asm); (case k6 => k_is); (case k7 => k_is); (case k8 => ktr_room); (case k9 => exact BindsTo.of_eq rfl); (case c5 => decide); (case kB => exact locs rfl); (case c2 => exact rfl); (case c3 => exact rfl); (case c4 => exact rfl); k_whole; intro g' L' h' FG' F' N' B' X' T' l1 hk1 hg1 hn1; (try dsimp only); (try k_fold))
  k_steps
  all_goals (try k_data)
  all_goals (refine ret _ _ _ _ _ _ (Int.fmod_nonneg_of_pos _ hs) (Int.fmod_lt_of_pos _ hs) (by k_asm) (by k_asm) (by k_asm) (by k_asm))
theorem number_at
  (B : Below A₀ base outer h₀) (F : Fr h₀ L s.heap m) (X : (hd.heap_1 w.params).In h₀) (TT : Top p loose mean mg mb h₀) (hA : Fits A 500 5000 env outer L)
  (N : News h₀ L s.heap news) (U : UpdF T o news g) (hr : (r, W.listOf its.toArray rn) ∈ news) (ho : TapeIs prog w o r k t3)
  (hi : IntsAre its ns) (hlen : ns.length ≤ 40) (hk : 0 ≤ k) (hk2 : k < 1000) (hs : 0 < sides) (hs2 : sides < 100)
  (ret : ∀ j t t' o' h' tk', 0 ≤ j → j < sides → ExtB [T] s.heap h' → Fr h₀ L h' m → News h₀ L h' (g o') → TapeIs prog w o' r (k + 1) t' → R (.ok (.ret (.int j t))) {s with heap := h', toks := tk'}) :
  codeAny (model prog w) A (.call (.ref 266) ⟨[.ref T, .int sides t4], []⟩) R s := by
  have hT := N _ (upd_mem U)
  have hR := N _ hr
  have hne : T ≠ r := fun e => by
    obtain ⟨es, ep, _, hd, _⟩ := ho
    have := hT.1.symm.trans (e ▸ hR.1)
    injection this with this
    simp only at this
    rw [this] at hd; cases hd
  refine number_spec B F X TT hA (News.sub N (by
    refine List.forall_mem_cons.mpr ⟨upd_mem U, List.forall_mem_cons.mpr ⟨hr, List.forall_mem_nil _⟩⟩)) ho hne hi hlen hk hk2 hs hs2 ?_
  intro j t t' o' h' tk' h0 h1 x F' N' ho'
  have y : ∀ b ob, b ≠ T → s.heap.get? b = some ob → h'.get? b = some ob := fun b ob hb e => by
    by_cases q : b = r
    · subst q
      have := hR.1
      rw [this] at e
      cases e
      exact (N' _ (.tail _ (.head _))).1
    · exact x b ob e (by simp [hb, q])
  have z := upd_ext F N U y (N' _ (.head _)).1
  exact ret j t t' o' h' tk' h0 h1 (fun b ob e q => y b ob (fun e' => q (by simp [e'])) e) z.1 z.2 ho'
end

end

section
set_option linter.unusedVariables false
set_option linter.unusedSimpArgs false
variable {w : World} {p : Program} {loose : List Str} {mean : ExcName → Option Value} {mg mb : Str → Option Value}



abbrev meDict (h1 h2 h3 : Int) (t1 t2 t3 : Tok) (it b hs : Addr) : Obj :=
  dictOf [⟨h1, .str (Str.ofString "tokens") t1, .ref it⟩, ⟨h2, .str (Str.ofString "token_buffer") t2, .ref b⟩, ⟨h3, .str (Str.ofString "hideset") t3, .ref hs⟩] 3

section
variable {gd : Option (List Code)} {A A₀ : Around} {env : Env} {outer : List Env} {base h₀ : Heap} {L : Addr} {m : Str → Option Value} {s : Shared} {R : Result → Shared → Prop}
  {M dM b it l hs : Addr} {h1 h2 h3 : Int} {t1 t2 t3 : Tok} {i n nb : Nat} {items bs : Array Value} {oI : Obj} {v : Value} {r : List Value}

theorem mpeek_buf
  (B : Below A₀ base outer h₀) (F : Fr h₀ L s.heap m) (X : (hd.heap_1 w.params).In h₀) (TT : Top p loose mean mg mb h₀) (hA : Fits A 600 6000 env outer L)
  (N : News h₀ L s.heap [(M, instObj 110 dM), (dM, meDict h1 h2 h3 t1 t2 t3 it b hs), (b, W.listOf #[v] nb), (it, oI)])
  (c2 : @LT.lt Nat _ it dM) (c3 : @LT.lt Nat _ dM M) (c4 : @LT.lt Nat _ M b)
  (ret : ∀ h' tk', ExtB [M, dM, b, it] s.heap h' → Fr h₀ L h' m → News h₀ L h' [(M, instObj 110 dM), (dM, meDict h1 h2 h3 t1 t2 t3 it b hs), (b, W.listOf #[v] nb), (it, oI)] → R (.ok (.ret v)) {s with heap := h', toks := tk'}) :
  codeAny (model prog w) A (.call (.ref 92) ⟨[.ref M], []⟩) R s := by
  refine codeAny_fits hA fun hf hke => ?_
  k_dflt (refine' code_defE ?k1 ?k2 ?k3 ?k4 ?k5 ?kA ?kF ?kK ?k6 ?k7 ?k8 ?k9 ?kB ?_ ?c2 ?c3 ?c4 ?c5; (case kA => exact rfl); (case kF => first | assumption | exact rfl); (case kK => first | assumption | exact rfl); (case k1 => k_asm); (case k2 => k_asm); (case k3 => k_asm); (case k4 => k_asm); (case k5 => k_asm); (case k6 => k_is); (case k7 => k_is); (case k8 => ktr_room); (case k9 => exact BindsTo.of_eq rfl); (case c5 => decide); (case kB => exact locs rfl); (case c2 => exact rfl); (case c3 => exact rfl); (case c4 => exact rfl); k_whole; intro g' L' h' FG' F' N' B' X' T' l1 hk1 hg1 hn1; (try dsimp only); (try k_fold))
  k_steps
  all_goals (try k_data)
  all_goals (exact ret _ _ (by k_asm) (by k_asm) (by k_asm))

theorem mpeek_item
  (B : Below A₀ base outer h₀) (F : Fr h₀ L s.heap m) (X : (hd.heap_1 w.params).In h₀) (TT : Top p loose mean mg mb h₀) (hA : Fits A 600 6000 env outer L)
  (N : News h₀ L s.heap [(M, instObj 110 dM), (dM, meDict h1 h2 h3 t1 t2 t3 it b hs), (b, W.listOf #[] nb), (it, itObj l i)])
  (hl : s.heap.get? l = some (W.listOf items n)) (hv : items[i]? = some v)
  (e1 : @Ne Nat M l) (e2 : @Ne Nat dM l) (e3 : @Ne Nat b l) (e4 : @Ne Nat it l) (c2 : @LT.lt Nat _ it dM) (c3 : @LT.lt Nat _ dM M) (c4 : @LT.lt Nat _ M b)
  (ret : ∀ h' tk', ExtB [M, dM, b, it] s.heap h' → Fr h₀ L h' m → News h₀ L h' [(M, instObj 110 dM), (dM, meDict h1 h2 h3 t1 t2 t3 it b hs), (b, W.listOf #[v] (nb+1)), (it, itObj l (i+1))] → R (.ok (.ret v)) {s with heap := h', toks := tk'}) :
  codeAny (model prog w) A (.call (.ref 92) ⟨[.ref M], []⟩) R s := by
  refine codeAny_fits hA fun hf hke => ?_
  k_dflt (refine' code_defE ?k1 ?k2 ?k3 ?k4 ?k5 ?kA ?kF ?kK ?k6 ?k7 ?k8 ?k9 ?kB ?_ ?c2 ?c3 ?c4 ?c5; (case kA => exact rfl); (case kF => first | assumption | exact rfl); (case kK => first | assumption | exact rfl); (case k1 => k_asm); (case k2 => k_asm); (case k3 => k_asm); (case k4 => k_asm); (case k5 => k_asm); (case k6 => k_is); (case k7 => k_is); (case k8 => ktr_room); (case k9 => exact BindsTo.of_eq rfl); (case c5 => decide); (case kB => exact locs rfl); (case c2 => exact rfl); (case c3 => exact rfl); (case c4 => exact rfl); k_whole; intro g' L' h' FG' F' N' B' X' T' l1 hk1 hg1 hn1; (try dsimp only); (try k_fold))
  have hl9 := hg1 _ _ hl (by (try simp only [List.map_cons, List.map_nil]); repeat (first | exact nmem_nil | refine nmem_cons (by walk_at "kne") ?_))
  k_steps
  all_goals (try k_data)
  all_goals (exact ret _ _ (by k_asm) (by k_asm) (by k_asm))

theorem mpeek_end
  (B : Below A₀ base outer h₀) (F : Fr h₀ L s.heap m) (X : (hd.heap_1 w.params).In h₀) (TT : Top p loose mean mg mb h₀) (hA : Fits A 600 6000 env outer L)
  (N : News h₀ L s.heap [(M, instObj 110 dM), (dM, meDict h1 h2 h3 t1 t2 t3 it b hs), (b, W.listOf #[] nb), (it, itObj l i)])
  (hl : s.heap.get? l = some (W.listOf items n)) (hv : items[i]? = none)
  (e1 : @Ne Nat M l) (e2 : @Ne Nat dM l) (e3 : @Ne Nat b l) (e4 : @Ne Nat it l) (c2 : @LT.lt Nat _ it dM) (c3 : @LT.lt Nat _ dM M) (c4 : @LT.lt Nat _ M b)
  (ret : ∀ h' tk', ExtB [M, dM, b, it] s.heap h' → Fr h₀ L h' m → News h₀ L h' [(M, instObj 110 dM), (dM, meDict h1 h2 h3 t1 t2 t3 it b hs), (b, W.listOf #[.none] (nb+1)), (it, itEnd i)] → R (.ok (.ret .none)) {s with heap := h', toks := tk'}) :
  codeAny (model prog w) A (.call (.ref 92) ⟨[.ref M], []⟩) R s := by
  refine codeAny_fits hA fun hf hke => ?_
  k_dflt (refine' code_defE ?k1 ?k2 ?k3 ?k4 ?k5 ?kA ?kF ?kK ?k6 ?k7 ?k8 ?k9 ?kB ?_ ?c2 ?c3 ?c4 ?c5; (case kA => exact rfl); (case kF => first | assumption | exact rfl); (case kK => first | assumption | exact rfl); (case k1 => k_asm); (case k2 => k_asm); (case k3 => k_asm); (case k4 => k_asm); (case k5 => k_asm); (case k6 => k_is); (case k7 => k_is); (case k8 => ktr_room); (case k9 => exact BindsTo.of_eq rfl); (case c5 => decide); (case kB => exact locs rfl); (case c2 => exact rfl); (case c3 => exact rfl); (case c4 => exact rfl); k_whole; intro g' L' h' FG' F' N' B' X' T' l1 hk1 hg1 hn1; (try dsimp only); (try k_fold))
  have hl9 := hg1 _ _ hl (by (try simp only [List.map_cons, List.map_nil]); repeat (first | exact nmem_nil | refine nmem_cons (by walk_at "kne") ?_))
  k_steps
  all_goals (try k_data)
  all_goals (exact ret _ _ (by k_asm) (by k_asm) (by k_asm))

theorem mnext_buf
  (B : Below A₀ base outer h₀) (F : Fr h₀ L s.heap m) (X : (hd.heap_1 w.params).In h₀) (TT : Top p loose mean mg mb h₀) (hA : Fits A 600 6000 env outer L)
  (N : News h₀ L s.heap [(M, instObj 110 dM), (dM, meDict h1 h2 h3 t1 t2 t3 it b hs), (b, W.listOf #[v] nb), (it, oI)])
  (c2 : @LT.lt Nat _ it dM) (c3 : @LT.lt Nat _ dM M) (c4 : @LT.lt Nat _ M b)
  (ret : ∀ h' tk', ExtB [M, dM, b, it] s.heap h' → Fr h₀ L h' m → News h₀ L h' [(M, instObj 110 dM), (dM, meDict h1 h2 h3 t1 t2 t3 it b hs), (b, W.listOf #[] (nb+1)), (it, oI)] → R (.ok (.ret v)) {s with heap := h', toks := tk'}) :
  codeAny (model prog w) A (.call (.ref 100) ⟨[.ref M], []⟩) R s := by
  refine codeAny_fits hA fun hf hke => ?_
  k_dflt (refine' code_defE ?k1 ?k2 ?k3 ?k4 ?k5 ?kA ?kF ?kK ?k6 ?k7 ?k8 ?k9 ?kB ?_ ?c2 ?c3 ?c4 ?c5; (case kA => exact rfl); (case kF => first | assumption | exact rfl); (case kK => first | assumption | exact rfl); (case k1 => k_asm); (case k2 => k_asm); (case k3 => k_asm); (case k4 => k_asm); (case k5 => k_asm); (case k6 => k_is); (case k7 => k_is); (case k8 => ktr_room); (case k9 => exact BindsTo.of_eq rfl); (case c5 => decide); (case kB => exact locs rfl); (case c2 => exact rfl); (case c3 => exact rfl); (case c4 => exact rfl); k_whole; intro g' L' h' FG' F' N' B' X' T' l1 hk1 hg1 hn1; (try dsimp only); (try k_fold))
  k_steps
  all_goals (try k_data)
  all_goals (exact ret _ _ (by k_asm) (by k_asm) (by k_asm))

/-- what an expansion still holds: its row from a place on, with what it has looked at -/
def MacSt (h : Heap) (l : Addr) (bs : Array Value) (oI : Obj) (rem : List Value) : Prop :=
  ∃ i items n, h.get? l = some (W.listOf items n) ∧ ((bs = #[] ∧ oI = itObj l i ∧ rem = items.toList.drop i) ∨ (∃ v, bs = #[v] ∧ oI = itObj l i ∧ rem = v :: items.toList.drop i) ∨ (bs = #[.none] ∧ oI = itEnd i ∧ rem = []))
theorem MacSt.keep {h h' : Heap} {rem : List Value} (c : MacSt h l bs oI rem) (x : h.get? l = h'.get? l) : MacSt h' l bs oI rem := by
  obtain ⟨i, items, n, hl, c⟩ := c
  exact ⟨i, items, n, x ▸ hl, c⟩
theorem mpeek_cons_r {rest : List (Addr × Obj)}
  (B : Below A₀ base outer h₀) (F : Fr h₀ L s.heap m) (X : (hd.heap_1 w.params).In h₀) (TT : Top p loose mean mg mb h₀) (hA : Fits A 600 6000 env outer L)
  (N : News h₀ L s.heap ((M, instObj 110 dM) :: (dM, meDict h1 h2 h3 t1 t2 t3 it b hs) :: (b, W.listOf bs nb) :: (it, oI) :: rest))
  (hr : ∀ p ∈ rest, p.1 ∉ [M, dM, b, it]) (st : MacSt h₀ l bs oI (v :: r))
  (c2 : @LT.lt Nat _ it dM) (c3 : @LT.lt Nat _ dM M) (c4 : @LT.lt Nat _ M b)
  (ret : ∀ nb' oI' h' tk', Fr h₀ L h' m → News h₀ L h' ((M, instObj 110 dM) :: (dM, meDict h1 h2 h3 t1 t2 t3 it b hs) :: (b, W.listOf #[v] nb') :: (it, oI') :: rest) →
    MacSt h₀ l #[v] oI' (v :: r) → MacSt h₀ l #[] oI' r → R (.ok (.ret v)) {s with heap := h', toks := tk'}) :
  codeAny (model prog w) A (.call (.ref 92) ⟨[.ref M], []⟩) R s := by
  obtain ⟨i, items, n, hl, c⟩ := st
  have hl' := F.keep _ _ hl
  have N1 : News h₀ L s.heap [(M, instObj 110 dM), (dM, meDict h1 h2 h3 t1 t2 t3 it b hs), (b, W.listOf bs nb), (it, oI)] := News.sub N fun p hp => by
    simp only [List.mem_cons, List.not_mem_nil, or_false] at hp ⊢
    rcases hp with h | h | h | h <;> simp [h]
  have N2 : News h₀ L s.heap rest := News.sub N fun p hp => by simp [hp]
  have ne : ∀ q ∈ [(M, instObj 110 dM), (dM, meDict h1 h2 h3 t1 t2 t3 it b hs), (b, W.listOf bs nb), (it, oI)], q.1 ≠ l := fun q hq e => by
    have := (N1 q hq).2.2
    rw [e, hl] at this; cases this
  rcases c with ⟨rfl, rfl, e⟩ | ⟨v', rfl, rfl, e⟩ | ⟨_, _, e⟩
  · obtain ⟨hv, hd⟩ := drop_cons e
    refine mpeek_item B F X TT hA N1 (l := l) (n := n) hl' (by simpa using hv) (ne (M, _) (.head _)) (ne (dM, _) (.tail _ (.head _))) (ne (b, _) (.tail _ (.tail _ (.head _)))) (ne (it, _) (.tail _ (.tail _ (.tail _ (.head _))))) c2 c3 c4 fun h' tk' x F' N' => ret _ _ h' tk' F' (News.after N2 x hr N') ?_ ?_
    · exact ⟨i + 1, items, n, hl, .inr (.inl ⟨v, rfl, rfl, by rw [hd]⟩)⟩
    · exact ⟨i + 1, items, n, hl, .inl ⟨rfl, rfl, hd.symm⟩⟩
  · injection e with e1 e2
    subst e1
    refine mpeek_buf B F X TT hA N1 c2 c3 c4 fun h' tk' x F' N' => ret _ _ h' tk' F' (News.after N2 x hr N') ?_ ?_
    · exact ⟨i, items, n, hl, .inr (.inl ⟨v, rfl, rfl, by rw [e2]⟩)⟩
    · exact ⟨i, items, n, hl, .inl ⟨rfl, rfl, e2⟩⟩
  · cases e

theorem mpeek_nil_r {rest : List (Addr × Obj)}
  (B : Below A₀ base outer h₀) (F : Fr h₀ L s.heap m) (X : (hd.heap_1 w.params).In h₀) (TT : Top p loose mean mg mb h₀) (hA : Fits A 600 6000 env outer L)
  (N : News h₀ L s.heap ((M, instObj 110 dM) :: (dM, meDict h1 h2 h3 t1 t2 t3 it b hs) :: (b, W.listOf bs nb) :: (it, oI) :: rest))
  (hr : ∀ p ∈ rest, p.1 ∉ [M, dM, b, it]) (st : MacSt h₀ l bs oI [])
  (c2 : @LT.lt Nat _ it dM) (c3 : @LT.lt Nat _ dM M) (c4 : @LT.lt Nat _ M b)
  (ret : ∀ nb' oI' h' tk', Fr h₀ L h' m → News h₀ L h' ((M, instObj 110 dM) :: (dM, meDict h1 h2 h3 t1 t2 t3 it b hs) :: (b, W.listOf #[.none] nb') :: (it, oI') :: rest) →
    MacSt h₀ l #[.none] oI' [] → R (.ok (.ret .none)) {s with heap := h', toks := tk'}) :
  codeAny (model prog w) A (.call (.ref 92) ⟨[.ref M], []⟩) R s := by
  obtain ⟨i, items, n, hl, c⟩ := st
  have hl' := F.keep _ _ hl
  have N1 : News h₀ L s.heap [(M, instObj 110 dM), (dM, meDict h1 h2 h3 t1 t2 t3 it b hs), (b, W.listOf bs nb), (it, oI)] := News.sub N fun p hp => by
    simp only [List.mem_cons, List.not_mem_nil, or_false] at hp ⊢
    rcases hp with h | h | h | h <;> simp [h]
  have N2 : News h₀ L s.heap rest := News.sub N fun p hp => by simp [hp]
  have ne : ∀ q ∈ [(M, instObj 110 dM), (dM, meDict h1 h2 h3 t1 t2 t3 it b hs), (b, W.listOf bs nb), (it, oI)], q.1 ≠ l := fun q hq e => by
    have := (N1 q hq).2.2
    rw [e, hl] at this; cases this
  rcases c with ⟨rfl, rfl, e⟩ | ⟨v', rfl, rfl, e⟩ | ⟨rfl, rfl, e⟩
  · have hv : items[i]? = none := by
      have := List.drop_eq_nil_iff.mp e.symm
      simpa using this
    exact mpeek_end B F X TT hA N1 (l := l) (n := n) hl' hv (ne (M, _) (.head _)) (ne (dM, _) (.tail _ (.head _))) (ne (b, _) (.tail _ (.tail _ (.head _)))) (ne (it, _) (.tail _ (.tail _ (.tail _ (.head _))))) c2 c3 c4 fun h' tk' x F' N' => ret _ _ h' tk' F' (News.after N2 x hr N') ⟨i, items, n, hl, .inr (.inr ⟨rfl, rfl, rfl⟩)⟩
  · cases e
  · exact mpeek_buf B F X TT hA N1 c2 c3 c4 fun h' tk' x F' N' => ret _ _ h' tk' F' (News.after N2 x hr N') ⟨i, items, n, hl, .inr (.inr ⟨rfl, rfl, rfl⟩)⟩

theorem mnext_buf_r {rest : List (Addr × Obj)}
  (B : Below A₀ base outer h₀) (F : Fr h₀ L s.heap m) (X : (hd.heap_1 w.params).In h₀) (TT : Top p loose mean mg mb h₀) (hA : Fits A 600 6000 env outer L)
  (N : News h₀ L s.heap ((M, instObj 110 dM) :: (dM, meDict h1 h2 h3 t1 t2 t3 it b hs) :: (b, W.listOf #[v] nb) :: (it, oI) :: rest))
  (hr : ∀ p ∈ rest, p.1 ∉ [M, dM, b, it])
  (c2 : @LT.lt Nat _ it dM) (c3 : @LT.lt Nat _ dM M) (c4 : @LT.lt Nat _ M b)
  (ret : ∀ nb' h' tk', Fr h₀ L h' m → News h₀ L h' ((M, instObj 110 dM) :: (dM, meDict h1 h2 h3 t1 t2 t3 it b hs) :: (b, W.listOf #[] nb') :: (it, oI) :: rest) → R (.ok (.ret v)) {s with heap := h', toks := tk'}) :
  codeAny (model prog w) A (.call (.ref 100) ⟨[.ref M], []⟩) R s := by
  have N1 : News h₀ L s.heap [(M, instObj 110 dM), (dM, meDict h1 h2 h3 t1 t2 t3 it b hs), (b, W.listOf #[v] nb), (it, oI)] := News.sub N fun p hp => by
    simp only [List.mem_cons, List.not_mem_nil, or_false] at hp ⊢
    rcases hp with h | h | h | h <;> simp [h]
  have N2 : News h₀ L s.heap rest := News.sub N fun p hp => by simp [hp]
  exact mnext_buf B F X TT hA N1 c2 c3 c4 fun h' tk' x F' N' => ret _ h' tk' F' (News.after N2 x hr N')
end

end

section
set_option linter.unusedVariables false
set_option linter.unusedSimpArgs false
variable {w : World} {p : Program} {loose : List Str} {mean : ExcName → Option Value} {mg mb : Str → Option Value}



structure FeK where
  (h1 h2 h3 h4 h5 h6 h7 h8 : Int)
  (t1 t2 t3 t4 t5 t6 t7 t8 : Tok)
  (v1 v2 v3 : Value)

abbrev feDict (k : FeK) (BUF it ML : Addr) (on : Bool) (dp : Int) (tp : Tok) : Obj :=
  dictOf [⟨k.h1, .str (Str.ofString "source_file") k.t1, k.v1⟩, ⟨k.h2, .str (Str.ofString "dependencies") k.t2, k.v2⟩, ⟨k.h3, .str (Str.ofString "if_stack") k.t3, k.v3⟩, ⟨k.h4, .str (Str.ofString "token_buffer") k.t4, .ref BUF⟩,
    ⟨k.h5, .str (Str.ofString "tokens") k.t5, .ref it⟩, ⟨k.h6, .str (Str.ofString "macro_expansions") k.t6, .ref ML⟩, ⟨k.h7, .str (Str.ofString "in_directive") k.t7, .bool on⟩, ⟨k.h8, .str (Str.ofString "paren_level") k.t8, .int dp tp⟩] 8

section
variable {gd : Option (List Code)} {A₀ : Around} {outer : List Env} {base h₀ : Heap} {L : Addr} {m : Str → Option Value} {s : Shared} {Q : Flow → Shared → Prop} {E : Value → Shared → Prop}
  {D S BUF it ML : Addr} {k : FeK} {on : Bool} {dp : Int} {tp : Tok} {nb nm lo : Nat} {t : Addr} {f : Bool} {bs : Array Value} {rest : List (Addr × Obj)} {oM oI : Obj}

theorem nt_tail_ref
  (B : Below A₀ base outer h₀) (F : Fr h₀ L s.heap m) (X : (hd.heap_1 w.params).In h₀) (TT : Top p loose mean mg mb h₀) (hself : m (Str.ofString "self") = some (.ref S)) (htok : m (Str.ofString "token") = some (.ref t))
  (N : News h₀ L s.heap ((S, instObj 67 D) :: (D, feDict k BUF it ML on dp tp) :: (BUF, W.listOf #[] nb) :: rest))
  (c3 : @LT.lt Nat _ D S) (c4 : @LT.lt Nat _ S BUF) (hr : ∀ p ∈ rest, p.1 ≠ BUF) (ht : TokF h₀ lo t f) 
  (retT : on = true → dp = 0 → f = true → ∀ nb' m' h' tk', Fr h₀ L h' m' → News h₀ L h' ((S, instObj 67 D) :: (D, feDict k BUF it ML on dp tp) :: (BUF, W.listOf #[.ref t] nb') :: rest) → Q (.ret .none) {s with heap := h', toks := tk'})
  (retF : ¬ (on = true ∧ dp = 0 ∧ f = true) → ∀ nb' m' h' tk', Fr h₀ L h' m' → News h₀ L h' ((S, instObj 67 D) :: (D, feDict k BUF it ML on dp tp) :: (BUF, W.listOf #[] nb') :: rest) → Q (.ret (.ref t)) {s with heap := h', toks := tk'}) :
  wpAny (model prog w) (Lv 551 5503 gd (envOf (Str.ofString "FileExpander.next_token") ntScope L 57 (.ref 56)) outer) (execs ntTail (envOf (Str.ofString "FileExpander.next_token") ntScope L 57 (.ref 56))) Q E s := by
  obtain ⟨d, sl, h1, h2, t1, t2, t3, sp, l1, l2, ht⟩ := ht
  show wpAny _ _ (execs (_ :: _ :: []) _) _ _ _
  k_steps
  all_goals (try k_data)
  all_goals (try dsimp only)
  all_goals (first | exact retT (by assumption) (by assumption) (by assumption) _ _ _ _ (by k_asm) (by k_asm) | exact retF (by simp_all) _ _ _ _ (by k_asm) (by k_asm))

theorem nt_tail_none
  (B : Below A₀ base outer h₀) (F : Fr h₀ L s.heap m) (X : (hd.heap_1 w.params).In h₀) (TT : Top p loose mean mg mb h₀) (hself : m (Str.ofString "self") = some (.ref S)) (htok : m (Str.ofString "token") = some .none)
  (N : News h₀ L s.heap ((S, instObj 67 D) :: (D, feDict k BUF it ML on dp tp) :: (BUF, W.listOf bs nb) :: rest))
  (c3 : @LT.lt Nat _ D S) (c4 : @LT.lt Nat _ S BUF) (hr : ∀ p ∈ rest, p.1 ≠ BUF)
  (ret : ∀ m' h' tk', Fr h₀ L h' m' → News h₀ L h' ((S, instObj 67 D) :: (D, feDict k BUF it ML on dp tp) :: (BUF, W.listOf bs nb) :: rest) → Q (.ret .none) {s with heap := h', toks := tk'}) :
  wpAny (model prog w) (Lv 551 5503 gd (envOf (Str.ofString "FileExpander.next_token") ntScope L 57 (.ref 56)) outer) (execs ntTail (envOf (Str.ofString "FileExpander.next_token") ntScope L 57 (.ref 56))) Q E s := by
  show wpAny _ _ (execs (_ :: _ :: []) _) _ _ _
  k_steps
  all_goals (try k_data)
  all_goals (try dsimp only)
  all_goals (exact ret _ _ _ (by k_asm) (by k_asm))

theorem pk_tail_ref
  (B : Below A₀ base outer h₀) (F : Fr h₀ L s.heap m) (X : (hd.heap_1 w.params).In h₀) (TT : Top p loose mean mg mb h₀) (hself : m (Str.ofString "self") = some (.ref S)) (htok : m (Str.ofString "token") = some (.ref t))
  (N : News h₀ L s.heap ((S, instObj 67 D) :: (D, feDict k BUF it ML on dp tp) :: (BUF, W.listOf bs nb) :: rest))
  (c3 : @LT.lt Nat _ D S) (c4 : @LT.lt Nat _ S BUF) (hr : ∀ p ∈ rest, p.1 ≠ BUF) (ht : TokF h₀ lo t f) 
  (retT : on = true → dp = 0 → f = true → ∀ nb' m' h' tk', Fr h₀ L h' m' → News h₀ L h' ((S, instObj 67 D) :: (D, feDict k BUF it ML on dp tp) :: (BUF, W.listOf bs nb') :: rest) → Q (.ret .none) {s with heap := h', toks := tk'})
  (retF : ¬ (on = true ∧ dp = 0 ∧ f = true) → ∀ nb' m' h' tk', Fr h₀ L h' m' → News h₀ L h' ((S, instObj 67 D) :: (D, feDict k BUF it ML on dp tp) :: (BUF, W.listOf bs nb') :: rest) → Q (.ret (.ref t)) {s with heap := h', toks := tk'}) :
  wpAny (model prog w) (Lv 551 5503 gd (envOf (Str.ofString "FileExpander.peek") pkScope L 49 (.ref 48)) outer) (execs pkTail (envOf (Str.ofString "FileExpander.peek") pkScope L 49 (.ref 48))) Q E s := by
  obtain ⟨d, sl, h1, h2, t1, t2, t3, sp, l1, l2, ht⟩ := ht
  show wpAny _ _ (execs (_ :: _ :: []) _) _ _ _
  k_steps
  all_goals (try k_data)
  all_goals (try dsimp only)
  all_goals (first | exact retT (by assumption) (by assumption) (by assumption) _ _ _ _ (by k_asm) (by k_asm) | exact retF (by simp_all) _ _ _ _ (by k_asm) (by k_asm))

theorem pk_tail_none
  (B : Below A₀ base outer h₀) (F : Fr h₀ L s.heap m) (X : (hd.heap_1 w.params).In h₀) (TT : Top p loose mean mg mb h₀) (hself : m (Str.ofString "self") = some (.ref S)) (htok : m (Str.ofString "token") = some .none)
  (N : News h₀ L s.heap ((S, instObj 67 D) :: (D, feDict k BUF it ML on dp tp) :: (BUF, W.listOf bs nb) :: rest))
  (c3 : @LT.lt Nat _ D S) (c4 : @LT.lt Nat _ S BUF) (hr : ∀ p ∈ rest, p.1 ≠ BUF)
  (ret : ∀ m' h' tk', Fr h₀ L h' m' → News h₀ L h' ((S, instObj 67 D) :: (D, feDict k BUF it ML on dp tp) :: (BUF, W.listOf bs nb) :: rest) → Q (.ret .none) {s with heap := h', toks := tk'}) :
  wpAny (model prog w) (Lv 551 5503 gd (envOf (Str.ofString "FileExpander.peek") pkScope L 49 (.ref 48)) outer) (execs pkTail (envOf (Str.ofString "FileExpander.peek") pkScope L 49 (.ref 48))) Q E s := by
  show wpAny _ _ (execs (_ :: _ :: []) _) _ _ _
  k_steps
  all_goals (try k_data)
  all_goals (try dsimp only)
  all_goals (exact ret _ _ _ (by k_asm) (by k_asm))

end

end

section
set_option linter.unusedVariables false
set_option linter.unusedSimpArgs false
variable {w : World} {p : Program} {loose : List Str} {mean : ExcName → Option Value} {mg mb : Str → Option Value}


section
variable {prog : Program} {w : World} {A : Around} {E : Value → Shared → Prop} {s : Shared} {h₀ : Heap} {L a : Addr} {m : Str → Option Value} {news : List (Addr × Obj)} {g : Obj → List (Addr × Obj)} {n : Nat} {ps : List Value} {v : Value}
theorem item_last {Q : Value → Shared → Prop} {value slice : PySem.Expr} {u : Tok} (hl : s.heap.get? a = some (W.listOf (ps ++ [v]).toArray n)) (hz : ps.length ≤ 1000) (h : Q v s)
    (hs : subscripted slice false (.ref a) (.int (-1) u) = operate [.ref a, .int (-1) u] (getItem (.ref a) (.int (-1) u)) := by with_unfolding_all rfl) :
    wpAny (model prog w) A (subscriptTail value slice (.ref a) (.int (-1) u)) Q E s := by
  have hl' : s.heap.IsList a (ps ++ [v]).toArray := ⟨_, hl, rfl, n, rfl⟩
  refine tail_any hl'.typeIs slot_list_getitem.lookup (wpAny_getItem_list_neg hl' (by decide) (by rw [List.size_toArray, List.length_append]; simp; omega) (by decide) ?_ h) hs
  rw [List.size_toArray, List.length_append]
  have : ((-1 : Int) + ((ps.length + [v].length : Nat) : Int)).toNat = ps.length := by simp; omega
  rw [this]
  simp
theorem li_true {Q : Bool → Shared → Prop} (hl : s.heap.get? a = some (W.listOf (ps ++ [v]).toArray n)) (hz : ps.length ≤ 1000) (h : ∀ tk, Q true { s with toks := tk }) : wpAny (model prog w) A (truthy (.ref a)) Q E s :=
  wpAny_truthy_list (items := (ps ++ [v]).toArray) ⟨_, hl, rfl, n, rfl⟩ (by rw [List.size_toArray, List.length_append]; simp; omega) (by
    have e : (!(ps ++ [v]).toArray.isEmpty) = true := by simp
    rw [e]; exact h _)
theorem li_truth {Q : Bool → Shared → Prop} {its : Array Value} {b : Bool} (hl : s.heap.get? a = some (W.listOf its n)) (hz : its.size ≤ 1000) (hb : (!its.isEmpty) = b) (h : ∀ tk, Q b { s with toks := tk }) : wpAny (model prog w) A (truthy (.ref a)) Q E s :=
  wpAny_truthy_list (items := its) ⟨_, hl, rfl, n, rfl⟩ (by omega) (by rw [hb]; exact h _)
theorem kl_last_snoc (ps : List Value) (v : Value) : kl_last (ps ++ [v]) = some (ps, v) := by
  induction ps with
  | nil => rfl
  | cons x r ih => show (match kl_last (r ++ [v]) with | some (p, y) => some (x :: p, y) | none => some ([], x)) = _; rw [ih]
theorem upd_of {d : Addr} {o o' : Obj} {l : List (Addr × Obj)} {g : Obj → List (Addr × Obj)} (U : UpdF d o l g) : Upd d o o' l (g o') := by
  induction U with
  | head h => exact .head h
  | tail h _ ih => exact .tail h ih
theorem li_pop {Q : Value → Shared → Prop} (F : Fr h₀ L s.heap m) (N : News h₀ L s.heap news) (U : UpdF a (W.listOf (ps ++ [v]).toArray n) news g) (hz : ps.length ≤ 1000)
    (h : ∀ h', Fr h₀ L h' m → News h₀ L h' (g (W.listOf ps.toArray (n + 1))) → Q v { s with heap := h' }) : wpAny (model prog w) A (call (.builtin "list.pop") [.ref a]) Q E s :=
  kl_pop F N (kl_last_snoc ps v) (upd_of U) (by simp [sizeLine_eq]; omega) h
end
local macro_rules | `(tactic| walk_at "subscriptTail") => `(tactic| (k_here; (with_reducible show wpAny _ _ (subscriptTail _ _ (Value.ref _) (Value.int (-1) _)) _ _ _); k_dflt (with_unfolding_all refine' item_last ?k1 ?k2 ?_ ?k6; (case k1 => exact News.get (by k_asm) (by k_mem)); (case k2 => omega); (case k6 => with_unfolding_all rfl); k_whole; (try dsimp only))))
local macro_rules | `(tactic| walk_at "call builtin:list.pop") => `(tactic| (k_here; (with_reducible show wpAny _ _ (call (Value.builtin "list.pop") [Value.ref _]) _ _ _); k_dflt (refine' li_pop ?F ?N ?U ?z ?_; (case F => k_asm); (case N => k_asm); (case U => k_updF); (case z => omega); k_whole; intro h' F' N'; (try dsimp only at N'))))
local macro_rules | `(tactic| walk_at "getAttr ref") => `(tactic| (k_here; (with_reducible show wpAny _ _ (getAttr (Value.ref _) (Str.ofString "peek") _) _ _ _); k_dflt (refine' get_prop ?k1 ?k2 ?k3 ?k4 ?k5 ?k6 ?k7 ?k8 ?k9 ?_; (case k1 => k_asm); (case k2 => k_asm); (case k3 => k_inst); (case k4 => k_is); (case k5 => k_is); (case k6 => k_is); (case k7 => k_is); (case k8 => k_is); (case k9 => k_is); k_whole; (first | (refine' mpeek_cons_r ?_ ?_ ?_ ?_ ?_ ?N ?r ?s ?c2 ?c3 ?c4 ?_; walk_at "kstd"; (case N => k_asm); (case s => k_asm); (case r => walk_at "koff"); (case c2 => omega); (case c3 => omega); (case c4 => omega); k_whole; intro nb' oI' h' tk' F' N' s1' s2'; (try dsimp only); (try (refine handed_on rfl ?_; try dsimp only))) | (refine' mpeek_nil_r ?_ ?_ ?_ ?_ ?_ ?N ?r ?s ?c2 ?c3 ?c4 ?_; walk_at "kstd"; (case N => k_asm); (case s => k_asm); (case r => walk_at "koff"); (case c2 => omega); (case c3 => omega); (case c4 => omega); k_whole; intro nb' oI' h' tk' F' N' s1'; (try dsimp only); (try (refine handed_on rfl ?_; try dsimp only)))))))
local macro_rules | `(tactic| walk_at "call ref") => `(tactic| (k_here; (try dsimp only [List.cons_append, List.nil_append]); (with_reducible show wpAny _ _ (call (Value.ref 100) [Value.ref _]) _ _ _); k_dflt (refine wpAny_call ?_; refine' mnext_buf_r ?_ ?_ ?_ ?_ ?_ ?N ?r ?c2 ?c3 ?c4 ?_; walk_at "kstd"; (case N => k_asm); (case r => walk_at "koff"); (case c2 => omega); (case c3 => omega); (case c4 => omega); k_whole; intro nb' h' tk' F' N'; (try dsimp only))))

def ntBody : List Stmt := (methAt 2 3).1
def pkBody : List Stmt := (methAt 2 2).1
abbrev ntEnv (L : Addr) : Env := envOf (Str.ofString "FileExpander.next_token") ntScope L 57 (.ref 56)
abbrev pkEnv (L : Addr) : Env := envOf (Str.ofString "FileExpander.peek") pkScope L 49 (.ref 48)
abbrev ntA (gd : Option (List Code)) (L : Addr) (outer : List Env) : Around := Lv 551 5503 gd (ntEnv L) outer
abbrev pkA (gd : Option (List Code)) (L : Addr) (outer : List Env) : Around := Lv 551 5503 gd (pkEnv L) outer
def wTest (l : List Stmt) (i : Nat) : Expr := match l[i]? with
  | some (.While t _ _ _) => t
  | _ => default
def wBody (l : List Stmt) (i : Nat) : List Stmt := match l[i]? with
  | some (.While _ b _ _) => b
  | _ => []
def ntTest : Expr := wTest ntBody 2
def ntTurn : List Stmt := wBody ntBody 2
section
variable {gd : Option (List Code)} {A₀ : Around} {outer : List Env} {base h₀ : Heap} {L : Addr} {m : Str → Option Value} {s : Shared} {E : Value → Shared → Prop}
  {D S BUF it ML M dM b im l hs : Addr} {e1 e2 e3 : Int} {t1 t2 t3 : Tok} {k : FeK} {on : Bool} {dp : Int} {tp : Tok} {nb nm nbm : Nat} {t : Addr} {bs : Array Value} {Y : List (Addr × Obj)} {oI oB oD : Obj} {v : Value} {r ps : List Value} {tv : Value}
section
local macro_rules | `(tactic| walk_at "truthy ref") => `(tactic| (k_here; (with_reducible show wpAny _ _ (truthy (Value.ref _)) _ _ _); k_dflt (first | (refine' li_truth (b := true) ?k1 ?k2 ?k3 ?_; (case k1 => exact News.get (by k_asm) (by k_mem)); (case k2 => exact Nat.le_of_ble_eq_true rfl); (case k3 => exact rfl); k_whole; (intro tk')) | (refine' li_truth (b := false) ?k1 ?k2 ?k3 ?_; (case k1 => exact News.get (by k_asm) (by k_mem)); (case k2 => exact Nat.le_of_ble_eq_true rfl); (case k3 => exact rfl); k_whole; (intro tk')))))
theorem nt_a_nil {Q : Flow → Shared → Prop}
  (B : Below A₀ base outer h₀) (F : Fr h₀ L s.heap m) (X : (hd.heap_1 w.params).In h₀) (TT : Top p loose mean mg mb h₀) (h1 : m (Str.ofString "self") = some (.ref S)) (N : News h₀ L s.heap ((S, instObj 67 D) :: (D, feDict k BUF it ML on dp tp) :: (BUF, W.listOf #[] nb) :: Y))
  (ret : ∀ m' h' tk', m' (Str.ofString "self") = some (.ref S) → m' (Str.ofString "token") = some .none → Fr h₀ L h' m' → News h₀ L h' ((S, instObj 67 D) :: (D, feDict k BUF it ML on dp tp) :: (BUF, W.listOf #[] nb) :: Y) → Q .next {s with heap := h', toks := tk'}) :
  wpAny (model prog w) (ntA gd L outer) (execs (ntBody.take 2) (ntEnv L)) Q E s := by
  show wpAny _ _ (execs (_ :: _ :: []) _) _ _ _
  k_steps
  all_goals (try k_data)
  refine' ret ?m ?h ?tk ?a ?b ?F ?N
  (case F => k_asm)
  (case N => k_asm)
  (case a => exact h1)
  (case b => exact rfl)
theorem nt_a_buf {Q : Flow → Shared → Prop}
  (B : Below A₀ base outer h₀) (F : Fr h₀ L s.heap m) (X : (hd.heap_1 w.params).In h₀) (TT : Top p loose mean mg mb h₀) (h1 : m (Str.ofString "self") = some (.ref S)) (c3 : @LT.lt Nat _ D S) (c4 : @LT.lt Nat _ S BUF) (hY : ∀ p ∈ Y, p.1 ≠ BUF) (N : News h₀ L s.heap ((S, instObj 67 D) :: (D, feDict k BUF it ML on dp tp) :: (BUF, W.listOf #[.ref t] nb) :: Y))
  (ret : ∀ nb' m' h' tk', m' (Str.ofString "self") = some (.ref S) → m' (Str.ofString "token") = some (.ref t) → Fr h₀ L h' m' → News h₀ L h' ((S, instObj 67 D) :: (D, feDict k BUF it ML on dp tp) :: (BUF, W.listOf #[] nb') :: Y) → Q .next {s with heap := h', toks := tk'}) :
  wpAny (model prog w) (ntA gd L outer) (execs (ntBody.take 2) (ntEnv L)) Q E s := by
  show wpAny _ _ (execs (_ :: _ :: []) _) _ _ _
  k_steps
  all_goals (try k_data)
  refine' ret ?nb ?m ?h ?tk ?a ?b ?F ?N
  (case F => k_asm)
  (case N => k_asm)
  (case a => exact h1)
  (case b => exact rfl)
end
theorem nt_t_tok {Q : Bool → Shared → Prop} {news : List (Addr × Obj)}
  (B : Below A₀ base outer h₀) (F : Fr h₀ L s.heap m) (X : (hd.heap_1 w.params).In h₀) (TT : Top p loose mean mg mb h₀) (h1 : m (Str.ofString "token") = some (.ref t)) (N : News h₀ L s.heap news)
  (ret : ∀ h' tk', Fr h₀ L h' m → News h₀ L h' news → Q false {s with heap := h', toks := tk'}) :
  wpAny (model prog w) (ntA gd L outer) (isTrue ntTest (ntEnv L) (eval ntTest (ntEnv L))) Q E s := by
  show wpAny _ _ (isTrue (.BoolOp _ _ _) _ (eval (.BoolOp _ _ _) _)) _ _ _
  k_steps
  all_goals (try k_data)
  all_goals (exact ret _ _ (by k_asm) (by k_asm))
theorem nt_t_nil {Q : Bool → Shared → Prop}
  (B : Below A₀ base outer h₀) (F : Fr h₀ L s.heap m) (X : (hd.heap_1 w.params).In h₀) (TT : Top p loose mean mg mb h₀) (h1 : m (Str.ofString "token") = some .none) (h2 : m (Str.ofString "self") = some (.ref S)) (N : News h₀ L s.heap ((S, instObj 67 D) :: (D, feDict k BUF it ML on dp tp) :: (ML, W.listOf #[] nm) :: Y))
  (ret : ∀ h' tk', Fr h₀ L h' m → News h₀ L h' ((S, instObj 67 D) :: (D, feDict k BUF it ML on dp tp) :: (ML, W.listOf #[] nm) :: Y) → Q false {s with heap := h', toks := tk'}) :
  wpAny (model prog w) (ntA gd L outer) (isTrue ntTest (ntEnv L) (eval ntTest (ntEnv L))) Q E s := by
  show wpAny _ _ (isTrue (.BoolOp _ _ _) _ (eval (.BoolOp _ _ _) _)) _ _ _
  k_steps
  all_goals (try k_data)
  all_goals (exact ret _ _ (by k_asm) (by k_asm))
section
local macro_rules | `(tactic| walk_at "truthy ref") => `(tactic| (k_here; (with_reducible show wpAny _ _ (truthy (Value.ref _)) _ _ _); k_dflt (refine' li_true ?k1 ?k2 ?_; (case k1 => exact News.get (by k_asm) (by k_mem)); (case k2 => omega); k_whole; (intro tk'))))
theorem nt_t_some {Q : Bool → Shared → Prop}
  (B : Below A₀ base outer h₀) (F : Fr h₀ L s.heap m) (X : (hd.heap_1 w.params).In h₀) (TT : Top p loose mean mg mb h₀) (h1 : m (Str.ofString "token") = some .none) (h2 : m (Str.ofString "self") = some (.ref S)) (hz : ps.length ≤ 100) (N : News h₀ L s.heap ((S, instObj 67 D) :: (D, feDict k BUF it ML on dp tp) :: (ML, W.listOf (ps ++ [v]).toArray nm) :: Y))
  (ret : ∀ h' tk', Fr h₀ L h' m → News h₀ L h' ((S, instObj 67 D) :: (D, feDict k BUF it ML on dp tp) :: (ML, W.listOf (ps ++ [v]).toArray nm) :: Y) → Q true {s with heap := h', toks := tk'}) :
  wpAny (model prog w) (ntA gd L outer) (isTrue ntTest (ntEnv L) (eval ntTest (ntEnv L))) Q E s := by
  show wpAny _ _ (isTrue (.BoolOp _ _ _) _ (eval (.BoolOp _ _ _) _)) _ _ _
  k_steps
  all_goals (try k_data)
  all_goals (exact ret _ _ (by k_asm) (by k_asm))
end
theorem nt_pop {Q : Flow → Shared → Prop}
  (B : Below A₀ base outer h₀) (F : Fr h₀ L s.heap m) (X : (hd.heap_1 w.params).In h₀) (TT : Top p loose mean mg mb h₀) (h1 : m (Str.ofString "token") = some .none) (h2 : m (Str.ofString "self") = some (.ref S)) (hz : ps.length ≤ 100)
  (d1 : @LT.lt Nat _ D S) (d2 : @LT.lt Nat _ S BUF) (d3 : @LT.lt Nat _ BUF ML) (c1 : @LT.lt Nat _ ML im) (c2 : @LT.lt Nat _ im dM) (c3 : @LT.lt Nat _ dM M) (c4 : @LT.lt Nat _ M b) (hYm : ∀ p ∈ Y, p.1 ∉ [M, dM, b, im]) (hYl : ∀ p ∈ Y, p.1 ≠ ML) (st : MacSt h₀ l bs oI [])
  (N : News h₀ L s.heap ((M, instObj 110 dM) :: (dM, meDict e1 e2 e3 t1 t2 t3 im b hs) :: (b, W.listOf bs nbm) :: (im, oI) :: (S, instObj 67 D) :: (D, feDict k BUF it ML on dp tp) :: (ML, W.listOf (ps ++ [Value.ref M]).toArray nm) :: Y))
  (ret : ∀ h' tk', Fr h₀ L h' m → News h₀ L h' ((S, instObj 67 D) :: (D, feDict k BUF it ML on dp tp) :: (ML, W.listOf ps.toArray (nm + 1)) :: Y) → Q .next {s with heap := h', toks := tk'}) :
  wpAny (model prog w) (ntA gd L outer) (execs ntTurn (ntEnv L)) Q E s := by
  show wpAny _ _ (execs (_ :: []) _) _ _ _
  k_steps
  all_goals (try k_data)
  refine' ret ?h ?tk ?F ?N
  (case F => k_asm)
  (case N => refine News.sub (by k_asm) ?_; (repeat (first | exact List.forall_mem_nil _ | refine List.forall_mem_cons.mpr ⟨by k_mem, ?_⟩ | (intro p hp; repeat (first | exact hp | refine List.mem_cons_of_mem _ ?_)))))
theorem nt_tok {Q : Flow → Shared → Prop}
  (B : Below A₀ base outer h₀) (F : Fr h₀ L s.heap m) (X : (hd.heap_1 w.params).In h₀) (TT : Top p loose mean mg mb h₀) (h1 : m (Str.ofString "token") = some .none) (h2 : m (Str.ofString "self") = some (.ref S)) (hz : ps.length ≤ 100)
  (d1 : @LT.lt Nat _ D S) (d2 : @LT.lt Nat _ S BUF) (d3 : @LT.lt Nat _ BUF ML) (c1 : @LT.lt Nat _ ML im) (c2 : @LT.lt Nat _ im dM) (c3 : @LT.lt Nat _ dM M) (c4 : @LT.lt Nat _ M b) (hYm : ∀ p ∈ Y, p.1 ∉ [M, dM, b, im]) (hYl : ∀ p ∈ Y, p.1 ≠ ML) (st : MacSt h₀ l bs oI (.ref t :: r))
  (N : News h₀ L s.heap ((M, instObj 110 dM) :: (dM, meDict e1 e2 e3 t1 t2 t3 im b hs) :: (b, W.listOf bs nbm) :: (im, oI) :: (S, instObj 67 D) :: (D, feDict k BUF it ML on dp tp) :: (ML, W.listOf (ps ++ [Value.ref M]).toArray nm) :: Y))
  (ret : ∀ nb' oI' m' h' tk', m' (Str.ofString "token") = some (.ref t) → m' (Str.ofString "self") = some (.ref S) → MacSt h₀ l #[] oI' r → Fr h₀ L h' m' → News h₀ L h' ((M, instObj 110 dM) :: (dM, meDict e1 e2 e3 t1 t2 t3 im b hs) :: (b, W.listOf #[] nb') :: (im, oI') :: (S, instObj 67 D) :: (D, feDict k BUF it ML on dp tp) :: (ML, W.listOf (ps ++ [Value.ref M]).toArray nm) :: Y) → Q .brk {s with heap := h', toks := tk'}) :
  wpAny (model prog w) (ntA gd L outer) (execs ntTurn (ntEnv L)) Q E s := by
  show wpAny _ _ (execs (_ :: []) _) _ _ _
  k_steps
  all_goals (try k_data)
  refine' ret ?nb ?oI ?m ?h ?tk ?a ?b ?c ?F ?N
  (case F => k_asm)
  (case N => k_asm)
  (case a => exact rfl)
  (case b => exact h2)
  (case c => assumption)
theorem nt_c_tok {Q : Flow → Shared → Prop} {news : List (Addr × Obj)}
  (B : Below A₀ base outer h₀) (F : Fr h₀ L s.heap m) (X : (hd.heap_1 w.params).In h₀) (TT : Top p loose mean mg mb h₀) (h1 : m (Str.ofString "token") = some (.ref t)) (N : News h₀ L s.heap news)
  (ret : ∀ h' tk', Fr h₀ L h' m → News h₀ L h' news → Q .next {s with heap := h', toks := tk'}) :
  wpAny (model prog w) (ntA gd L outer) (execs ((ntBody.drop 3).take 1) (ntEnv L)) Q E s := by
  show wpAny _ _ (execs (_ :: []) _) _ _ _
  k_steps
  all_goals (try k_data)
  all_goals (exact ret _ _ (by k_asm) (by k_asm))
theorem nt_c_cons {Q : Flow → Shared → Prop}
  (B : Below A₀ base outer h₀) (F : Fr h₀ L s.heap m) (X : (hd.heap_1 w.params).In h₀) (TT : Top p loose mean mg mb h₀) (h1 : m (Str.ofString "token") = some .none) (h2 : m (Str.ofString "self") = some (.ref S)) (c2 : @LT.lt Nat _ it D) (c3 : @LT.lt Nat _ D S) (hY : ∀ p ∈ Y, p.1 ≠ it) (st : ItSt h₀ l oI (.ref t :: r)) (N : News h₀ L s.heap ((S, instObj 67 D) :: (D, feDict k BUF it ML on dp tp) :: (it, oI) :: Y))
  (ret : ∀ oI' m' h' tk', m' (Str.ofString "token") = some (.ref t) → m' (Str.ofString "self") = some (.ref S) → ItSt h₀ l oI' r → Fr h₀ L h' m' → News h₀ L h' ((S, instObj 67 D) :: (D, feDict k BUF it ML on dp tp) :: (it, oI') :: Y) → Q .next {s with heap := h', toks := tk'}) :
  wpAny (model prog w) (ntA gd L outer) (execs ((ntBody.drop 3).take 1) (ntEnv L)) Q E s := by
  show wpAny _ _ (execs (_ :: []) _) _ _ _
  k_steps
  all_goals (try k_data)
  refine' ret ?oI ?m ?h ?tk ?a ?b ?c ?F ?N
  (case F => k_asm)
  (case N => k_asm)
  (case a => exact rfl)
  (case b => exact h2)
  (case c => assumption)
theorem nt_c_nil {Q : Flow → Shared → Prop}
  (B : Below A₀ base outer h₀) (F : Fr h₀ L s.heap m) (X : (hd.heap_1 w.params).In h₀) (TT : Top p loose mean mg mb h₀) (h1 : m (Str.ofString "token") = some .none) (h2 : m (Str.ofString "self") = some (.ref S)) (c2 : @LT.lt Nat _ it D) (c3 : @LT.lt Nat _ D S) (hY : ∀ p ∈ Y, p.1 ≠ it) (st : ItSt h₀ l oI []) (N : News h₀ L s.heap ((S, instObj 67 D) :: (D, feDict k BUF it ML on dp tp) :: (it, oI) :: Y))
  (ret : ∀ oI' m' h' tk', m' (Str.ofString "token") = some .none → m' (Str.ofString "self") = some (.ref S) → ItSt h₀ l oI' [] → Fr h₀ L h' m' → News h₀ L h' ((S, instObj 67 D) :: (D, feDict k BUF it ML on dp tp) :: (it, oI') :: Y) → Q .next {s with heap := h', toks := tk'}) :
  wpAny (model prog w) (ntA gd L outer) (execs ((ntBody.drop 3).take 1) (ntEnv L)) Q E s := by
  show wpAny _ _ (execs (_ :: []) _) _ _ _
  k_steps
  all_goals (try k_data)
  refine' ret ?oI ?m ?h ?tk ?a ?b ?c ?F ?N
  (case F => k_asm)
  (case N => k_asm)
  (case a => exact rfl)
  (case b => exact h2)
  (case c => assumption)
end




def ifBody (l : List Stmt) (i : Nat) : List Stmt := match l[i]? with
  | some (.If _ b _ _) => b
  | _ => []
def pkFor : List Stmt := ifBody pkBody 2
def pkIter : Expr := forIter pkFor 0
def pkTurn : List Stmt := forBody pkFor 0
section
variable {gd : Option (List Code)} {A₀ : Around} {outer : List Env} {base h₀ : Heap} {L : Addr} {m : Str → Option Value} {s : Shared} {E : Value → Shared → Prop}
  {D S BUF it ML M dM b im l hs : Addr} {e1 e2 e3 : Int} {t1 t2 t3 : Tok} {k : FeK} {on : Bool} {dp : Int} {tp : Tok} {nb nm nbm : Nat} {t : Addr} {bs : Array Value} {Y : List (Addr × Obj)} {oI oB oD : Obj} {v : Value} {r ps : List Value} {tv : Value}
section
local macro_rules | `(tactic| walk_at "truthy ref") => `(tactic| (k_here; (with_reducible show wpAny _ _ (truthy (Value.ref _)) _ _ _); k_dflt (first | (refine' li_truth (b := true) ?k1 ?k2 ?k3 ?_; (case k1 => exact News.get (by k_asm) (by k_mem)); (case k2 => exact Nat.le_of_ble_eq_true rfl); (case k3 => exact rfl); k_whole; (intro tk')) | (refine' li_truth (b := false) ?k1 ?k2 ?k3 ?_; (case k1 => exact News.get (by k_asm) (by k_mem)); (case k2 => exact Nat.le_of_ble_eq_true rfl); (case k3 => exact rfl); k_whole; (intro tk')))))
theorem pk_a_nil {Q : Flow → Shared → Prop}
  (B : Below A₀ base outer h₀) (F : Fr h₀ L s.heap m) (X : (hd.heap_1 w.params).In h₀) (TT : Top p loose mean mg mb h₀) (h1 : m (Str.ofString "self") = some (.ref S)) (N : News h₀ L s.heap ((S, instObj 67 D) :: (D, feDict k BUF it ML on dp tp) :: (BUF, W.listOf #[] nb) :: Y))
  (ret : ∀ m' h' tk', m' (Str.ofString "self") = some (.ref S) → m' (Str.ofString "token") = some .none → Fr h₀ L h' m' → News h₀ L h' ((S, instObj 67 D) :: (D, feDict k BUF it ML on dp tp) :: (BUF, W.listOf #[] nb) :: Y) → Q .next {s with heap := h', toks := tk'}) :
  wpAny (model prog w) (pkA gd L outer) (execs (pkBody.take 2) (pkEnv L)) Q E s := by
  show wpAny _ _ (execs (_ :: _ :: []) _) _ _ _
  k_steps
  all_goals (try k_data)
  refine' ret ?m ?h ?tk ?a ?b ?F ?N
  (case F => k_asm)
  (case N => k_asm)
  (case a => exact h1)
  (case b => exact rfl)
theorem pk_a_buf {Q : Flow → Shared → Prop}
  (B : Below A₀ base outer h₀) (F : Fr h₀ L s.heap m) (X : (hd.heap_1 w.params).In h₀) (TT : Top p loose mean mg mb h₀) (h1 : m (Str.ofString "self") = some (.ref S)) (N : News h₀ L s.heap ((S, instObj 67 D) :: (D, feDict k BUF it ML on dp tp) :: (BUF, W.listOf #[.ref t] nb) :: Y))
  (ret : ∀ m' h' tk', m' (Str.ofString "self") = some (.ref S) → m' (Str.ofString "token") = some (.ref t) → Fr h₀ L h' m' → News h₀ L h' ((S, instObj 67 D) :: (D, feDict k BUF it ML on dp tp) :: (BUF, W.listOf #[.ref t] nb) :: Y) → Q .next {s with heap := h', toks := tk'}) :
  wpAny (model prog w) (pkA gd L outer) (execs (pkBody.take 2) (pkEnv L)) Q E s := by
  show wpAny _ _ (execs (_ :: _ :: []) _) _ _ _
  k_steps
  all_goals (try k_data)
  refine' ret ?m ?h ?tk ?a ?b ?F ?N
  (case F => k_asm)
  (case N => k_asm)
  (case a => exact h1)
  (case b => exact rfl)
end
theorem pk_b_tok {Q : Flow → Shared → Prop} {news : List (Addr × Obj)}
  (B : Below A₀ base outer h₀) (F : Fr h₀ L s.heap m) (X : (hd.heap_1 w.params).In h₀) (TT : Top p loose mean mg mb h₀) (h1 : m (Str.ofString "token") = some (.ref t)) (N : News h₀ L s.heap news)
  (ret : ∀ h' tk', Fr h₀ L h' m → News h₀ L h' news → Q .next {s with heap := h', toks := tk'}) :
  wpAny (model prog w) (pkA gd L outer) (execs ((pkBody.drop 2).take 2) (pkEnv L)) Q E s := by
  show wpAny _ _ (execs (_ :: _ :: []) _) _ _ _
  k_steps
  all_goals (try k_data)
  all_goals (exact ret _ _ (by k_asm) (by k_asm))
theorem pk_iter {Q : Value → Shared → Prop}
  (B : Below A₀ base outer h₀) (F : Fr h₀ L s.heap m) (X : (hd.heap_1 w.params).In h₀) (TT : Top p loose mean mg mb h₀) (h2 : m (Str.ofString "self") = some (.ref S)) (N : News h₀ L s.heap ((S, instObj 67 D) :: (D, feDict k BUF it ML on dp tp) :: (ML, W.listOf ps.toArray nm) :: Y))
  (ret : ∀ I h' tk', (∀ p ∈ (S, instObj 67 D) :: (D, feDict k BUF it ML on dp tp) :: (ML, W.listOf ps.toArray nm) :: Y, p.1 ≠ I) → Fr h₀ L h' m → News h₀ L h' ((I, revObj ML ((ps.length : Int) - 1)) :: (S, instObj 67 D) :: (D, feDict k BUF it ML on dp tp) :: (ML, W.listOf ps.toArray nm) :: Y) → Q (.ref I) {s with heap := h', toks := tk'}) :
  wpAny (model prog w) (pkA gd L outer) (eval pkIter (pkEnv L)) Q E s := by
  show wpAny _ _ (eval (.Call _ _ _ _) _) _ _ _
  k_steps
  all_goals (try k_data)
  refine' ret ?I ?h ?tk ?a ?F ?N
  (case F => k_asm)
  (case N => k_asm)
  (case a => exact fun p hp => Nat.ne_of_lt (allLt_all (by k_asm) p hp))
theorem pk_turn_nil {Q : Flow → Shared → Prop}
  (B : Below A₀ base outer h₀) (F : Fr h₀ L s.heap m) (X : (hd.heap_1 w.params).In h₀) (TT : Top p loose mean mg mb h₀) (h1 : m (Str.ofString "macro_expansion") = some (.ref M)) (c2 : @LT.lt Nat _ im dM) (c3 : @LT.lt Nat _ dM M) (c4 : @LT.lt Nat _ M b) (hYm : ∀ p ∈ Y, p.1 ∉ [M, dM, b, im]) (st : MacSt h₀ l bs oI [])
  (N : News h₀ L s.heap ((M, instObj 110 dM) :: (dM, meDict e1 e2 e3 t1 t2 t3 im b hs) :: (b, W.listOf bs nbm) :: (im, oI) :: Y))
  (ret : ∀ nb' oI' h' tk', MacSt h₀ l #[.none] oI' [] → Fr h₀ L h' m → News h₀ L h' ((M, instObj 110 dM) :: (dM, meDict e1 e2 e3 t1 t2 t3 im b hs) :: (b, W.listOf #[.none] nb') :: (im, oI') :: Y) → Q .next {s with heap := h', toks := tk'}) :
  wpAny (model prog w) (pkA gd L outer) (execs pkTurn (pkEnv L)) Q E s := by
  show wpAny _ _ (execs (_ :: []) _) _ _ _
  k_steps
  all_goals (try k_data)
  refine' ret ?nb ?oI ?h ?tk ?st ?F ?N
  (case st => assumption)
  (case F => k_asm)
  (case N => k_asm)
theorem pk_turn_cons {Q : Flow → Shared → Prop}
  (B : Below A₀ base outer h₀) (F : Fr h₀ L s.heap m) (X : (hd.heap_1 w.params).In h₀) (TT : Top p loose mean mg mb h₀) (h1 : m (Str.ofString "macro_expansion") = some (.ref M)) (h2 : m (Str.ofString "self") = some (.ref S)) (c2 : @LT.lt Nat _ im dM) (c3 : @LT.lt Nat _ dM M) (c4 : @LT.lt Nat _ M b) (hYm : ∀ p ∈ Y, p.1 ∉ [M, dM, b, im]) (st : MacSt h₀ l bs oI (.ref t :: r))
  (N : News h₀ L s.heap ((M, instObj 110 dM) :: (dM, meDict e1 e2 e3 t1 t2 t3 im b hs) :: (b, W.listOf bs nbm) :: (im, oI) :: Y))
  (ret : ∀ bs' nb' oI' m' h' tk', m' (Str.ofString "token") = some (.ref t) → m' (Str.ofString "self") = some (.ref S) → MacSt h₀ l bs' oI' (.ref t :: r) → Fr h₀ L h' m' → News h₀ L h' ((M, instObj 110 dM) :: (dM, meDict e1 e2 e3 t1 t2 t3 im b hs) :: (b, W.listOf bs' nb') :: (im, oI') :: Y) → Q .brk {s with heap := h', toks := tk'}) :
  wpAny (model prog w) (pkA gd L outer) (execs pkTurn (pkEnv L)) Q E s := by
  show wpAny _ _ (execs (_ :: []) _) _ _ _
  k_steps
  all_goals (try k_data)
  refine' ret ?bs ?nb ?oI ?m ?h ?tk ?a ?b ?st ?F ?N
  (case F => k_asm)
  (case N => k_asm)
  (case st => assumption)
  (case a => exact rfl)
  (case b => exact h2)
theorem pk_c_cons {Q : Flow → Shared → Prop}
  (B : Below A₀ base outer h₀) (F : Fr h₀ L s.heap m) (X : (hd.heap_1 w.params).In h₀) (TT : Top p loose mean mg mb h₀) (h1 : m (Str.ofString "token") = some .none) (h2 : m (Str.ofString "self") = some (.ref S)) (c2 : @LT.lt Nat _ it D) (c3 : @LT.lt Nat _ D S) (c4 : @LT.lt Nat _ S BUF) (hY : ∀ p ∈ Y, p.1 ≠ it) (hYB : ∀ p ∈ Y, p.1 ≠ BUF) (st : ItSt h₀ l oI (.ref t :: r))
  (N : News h₀ L s.heap ((S, instObj 67 D) :: (D, feDict k BUF it ML on dp tp) :: (BUF, W.listOf #[] nb) :: (it, oI) :: Y))
  (ret : ∀ nb' oI' m' h' tk', m' (Str.ofString "token") = some (.ref t) → m' (Str.ofString "self") = some (.ref S) → ItSt h₀ l oI' r → Fr h₀ L h' m' → News h₀ L h' ((S, instObj 67 D) :: (D, feDict k BUF it ML on dp tp) :: (BUF, W.listOf #[.ref t] nb') :: (it, oI') :: Y) → Q .next {s with heap := h', toks := tk'}) :
  wpAny (model prog w) (pkA gd L outer) (execs ((pkBody.drop 3).take 1) (pkEnv L)) Q E s := by
  show wpAny _ _ (execs (_ :: []) _) _ _ _
  k_steps
  all_goals (try k_data)
  refine' ret ?nb ?oI ?m ?h ?tk ?a ?b ?c ?F ?N
  (case F => k_asm)
  (case N => k_asm)
  (case a => exact rfl)
  (case b => exact h2)
  (case c => assumption)
theorem pk_c_nil {Q : Flow → Shared → Prop}
  (B : Below A₀ base outer h₀) (F : Fr h₀ L s.heap m) (X : (hd.heap_1 w.params).In h₀) (TT : Top p loose mean mg mb h₀) (h1 : m (Str.ofString "token") = some .none) (h2 : m (Str.ofString "self") = some (.ref S)) (c2 : @LT.lt Nat _ it D) (c3 : @LT.lt Nat _ D S) (hY : ∀ p ∈ Y, p.1 ≠ it) (st : ItSt h₀ l oI []) (N : News h₀ L s.heap ((S, instObj 67 D) :: (D, feDict k BUF it ML on dp tp) :: (it, oI) :: Y))
  (ret : ∀ oI' m' h' tk', m' (Str.ofString "token") = some .none → m' (Str.ofString "self") = some (.ref S) → ItSt h₀ l oI' [] → Fr h₀ L h' m' → News h₀ L h' ((S, instObj 67 D) :: (D, feDict k BUF it ML on dp tp) :: (it, oI') :: Y) → Q .next {s with heap := h', toks := tk'}) :
  wpAny (model prog w) (pkA gd L outer) (execs ((pkBody.drop 3).take 1) (pkEnv L)) Q E s := by
  show wpAny _ _ (execs (_ :: []) _) _ _ _
  k_steps
  all_goals (try k_data)
  refine' ret ?oI ?m ?h ?tk ?a ?b ?c ?F ?N
  (case F => k_asm)
  (case N => k_asm)
  (case a => exact rfl)
  (case b => exact h2)
  (case c => assumption)
theorem pk_c_tok {Q : Flow → Shared → Prop} {news : List (Addr × Obj)}
  (B : Below A₀ base outer h₀) (F : Fr h₀ L s.heap m) (X : (hd.heap_1 w.params).In h₀) (TT : Top p loose mean mg mb h₀) (h1 : m (Str.ofString "token") = some (.ref t)) (N : News h₀ L s.heap news)
  (ret : ∀ h' tk', Fr h₀ L h' m → News h₀ L h' news → Q .next {s with heap := h', toks := tk'}) :
  wpAny (model prog w) (pkA gd L outer) (execs ((pkBody.drop 3).take 1) (pkEnv L)) Q E s := by
  show wpAny _ _ (execs (_ :: []) _) _ _ _
  k_steps
  all_goals (try k_data)
  all_goals (exact ret _ _ (by k_asm) (by k_asm))
end

end

section
set_option linter.unusedVariables false
set_option linter.unusedSimpArgs false
variable {w : World} {p : Program} {loose : List Str} {mean : ExcName → Option Value} {mg mb : Str → Option Value}

/-- what stands at an address, by the heap or by a list of objects -/
abbrev InH (h : Heap) : Addr → Obj → Prop := fun l o => h.get? l = some o
def ItP (P : Addr → Obj → Prop) (l : Addr) (oI : Obj) (rem : List Value) : Prop :=
  ∃ i items n, P l (W.listOf items n) ∧ ((oI = itObj l i ∧ rem = items.toList.drop i) ∨ (oI = itEnd i ∧ rem = []))
def MacP (P : Addr → Obj → Prop) (l : Addr) (bs : Array Value) (oI : Obj) (rem : List Value) : Prop :=
  ∃ i items n, P l (W.listOf items n) ∧ ((bs = #[] ∧ oI = itObj l i ∧ rem = items.toList.drop i) ∨ (∃ v, bs = #[v] ∧ oI = itObj l i ∧ rem = v :: items.toList.drop i) ∨ (bs = #[.none] ∧ oI = itEnd i ∧ rem = []))
section
variable {P : Addr → Obj → Prop} {h : Heap} {l : Addr} {oI oI' : Obj} {bs bs' : Array Value} {rem rem' : List Value}
theorem ItP.toH (c : ItP P l oI rem) (hP : ∀ l o, P l o → h.get? l = some o) : ItSt h l oI rem := by
  obtain ⟨i, items, n, hl, c⟩ := c
  exact ⟨i, items, n, hP _ _ hl, c⟩
theorem MacP.toH (c : MacP P l bs oI rem) (hP : ∀ l o, P l o → h.get? l = some o) : MacSt h l bs oI rem := by
  obtain ⟨i, items, n, hl, c⟩ := c
  exact ⟨i, items, n, hP _ _ hl, c⟩
theorem listOf_inj {a b : Array Value} {n k : Nat} (e : some (W.listOf a n) = some (W.listOf b k)) : a = b ∧ n = k := by
  simp only [Option.some.injEq, Obj.mk.injEq, Data.seq.injEq] at e
  exact ⟨e.2.2.1.1, e.2.2.1.2⟩
theorem ItP.back (c : ItP P l oI rem) (hP : ∀ l o, P l o → h.get? l = some o) (d : ItSt h l oI' rem') : ItP P l oI' rem' := by
  obtain ⟨i, items, n, hl, c⟩ := c
  obtain ⟨i', items', n', hl', d⟩ := d
  obtain ⟨rfl, rfl⟩ := listOf_inj ((hP _ _ hl).symm.trans hl')
  exact ⟨i', items, n, hl, d⟩
theorem MacP.back (c : MacP P l bs oI rem) (hP : ∀ l o, P l o → h.get? l = some o) (d : MacSt h l bs' oI' rem') : MacP P l bs' oI' rem' := by
  obtain ⟨i, items, n, hl, c⟩ := c
  obtain ⟨i', items', n', hl', d⟩ := d
  obtain ⟨rfl, rfl⟩ := listOf_inj ((hP _ _ hl).symm.trans hl')
  exact ⟨i', items, n, hl, d⟩
theorem ItP.mono {P' : Addr → Obj → Prop} (c : ItP P l oI rem) (hP : ∀ o, P l o → P' l o) : ItP P' l oI rem := by
  obtain ⟨i, items, n, hl, c⟩ := c
  exact ⟨i, items, n, hP _ hl, c⟩
theorem MacP.mono {P' : Addr → Obj → Prop} (c : MacP P l bs oI rem) (hP : ∀ o, P l o → P' l o) : MacP P' l bs oI rem := by
  obtain ⟨i, items, n, hl, c⟩ := c
  exact ⟨i, items, n, hP _ hl, c⟩
end
/-- one expansion with all that hangs on it -/
structure Mac where
  (M dM b im l hs : Addr) (e1 e2 e3 : Int) (t1 t2 t3 : Tok) (nb : Nat) (oI : Obj) (bs : Array Value) (r : List Value)
def Mac.led (x : Mac) : List (Addr × Obj) := [(x.M, instObj 110 x.dM), (x.dM, meDict x.e1 x.e2 x.e3 x.t1 x.t2 x.t3 x.im x.b x.hs), (x.b, W.listOf x.bs x.nb), (x.im, x.oI)]
/-- the expansions, the top first -/
def Stk (P : Addr → Obj → Prop) (lo bot : Nat) : Nat → List Mac → Prop
  | _, [] => True
  | u, x :: xs => @LT.lt Nat _ bot x.im ∧ @LT.lt Nat _ x.im x.dM ∧ @LT.lt Nat _ x.dM x.M ∧ @LT.lt Nat _ x.M x.b ∧ @LT.lt Nat _ x.b u ∧ @LT.lt Nat _ x.l lo ∧ MacP P x.l x.bs x.oI x.r ∧ Stk P lo bot x.im xs
def stkLed (st : List Mac) : List (Addr × Obj) := st.flatMap Mac.led
def mls (st : List Mac) : List Value := (st.map fun x => Value.ref x.M).reverse
def stkRem (st : List Mac) : List Value := st.flatMap fun x => x.r
theorem mls_cons (x : Mac) (xs : List Mac) : mls (x :: xs) = mls xs ++ [.ref x.M] := by simp [mls]
theorem stkLed_cons (x : Mac) (xs : List Mac) : stkLed (x :: xs) = x.led ++ stkLed xs := rfl
theorem stkRem_cons (x : Mac) (xs : List Mac) : stkRem (x :: xs) = x.r ++ stkRem xs := rfl
theorem Stk.mono {P P' : Addr → Obj → Prop} {lo bot : Nat} {st : List Mac} : ∀ {u : Nat}, Stk P lo bot u st → (∀ l o, @LT.lt Nat _ l lo → P l o → P' l o) → Stk P' lo bot u st := by
  induction st with
  | nil => intro u _ _; trivial
  | cons x xs ih =>
    intro u c h
    obtain ⟨a1, a2, a3, a4, a5, a6, a7, a8⟩ := c
    exact ⟨a1, a2, a3, a4, a5, a6, a7.mono fun o z => h _ _ a6 z, ih a8 h⟩
theorem Stk.up {P : Addr → Obj → Prop} {lo bot u u' : Nat} {st : List Mac} (c : Stk P lo bot u st) (h : u ≤ u') : Stk P lo bot u' st := by
  cases st with
  | nil => trivial
  | cons x xs => exact ⟨c.1, c.2.1, c.2.2.1, c.2.2.2.1, Nat.lt_of_lt_of_le c.2.2.2.2.1 h, c.2.2.2.2.2⟩
theorem Stk.range {P : Addr → Obj → Prop} {lo bot : Nat} {st : List Mac} : ∀ {u : Nat}, Stk P lo bot u st → ∀ p ∈ stkLed st, @LT.lt Nat _ bot p.1 ∧ @LT.lt Nat _ p.1 u := by
  induction st with
  | nil => intro u _ p hp; cases hp
  | cons x xs ih =>
    intro u c p hp
    obtain ⟨a1, a2, a3, a4, a5, a6, a7, a8⟩ := c
    rw [stkLed_cons] at hp
    rcases List.mem_append.mp hp with h | h
    · simp only [Mac.led, List.mem_cons, List.not_mem_nil, or_false] at h
      rcases h with h | h | h | h <;> rw [h] <;> dsimp only <;> omega
    · have := ih a8 p h
      omega
/-- a reader (its expander's own dict apart): its lists, its base, its expansions; rem: all that it still gives -/
inductive RdSt (P : Addr → Obj → Prop) (lo hi : Nat) (S D BUF it ML : Addr) (RL : List (Addr × Obj)) (rem : List Value) : Prop
  | mk (bufs : Array Value) (rb : List Value) (nb nm : Nat) (lb : Addr) (oI : Obj) (st : List Mac) (h : RL = (BUF, W.listOf bufs nb) :: (ML, W.listOf (mls st).toArray nm) :: (it, oI) :: stkLed st ∧ rem = bufs.toList ++ (stkRem st ++ rb) ∧
    (@LE.le Nat _ lo it ∧ @LT.lt Nat _ it D ∧ @LT.lt Nat _ D S ∧ @LT.lt Nat _ S BUF ∧ @LT.lt Nat _ BUF ML ∧ @LT.lt Nat _ ML hi) ∧ (bufs = #[] ∨ ∃ t, bufs = #[.ref t]) ∧ @LT.lt Nat _ lb lo ∧ ItP P lb oI rb ∧ Stk P lo ML hi st ∧ st.length ≤ 50)
section
variable {P P' : Addr → Obj → Prop} {lo hi : Nat} {S D BUF it ML : Addr} {RL : List (Addr × Obj)} {rem : List Value}
theorem RdSt.mono (c : RdSt P lo hi S D BUF it ML RL rem) (hP : ∀ l o, P l o → P' l o) : RdSt P' lo hi S D BUF it ML RL rem := by
  obtain ⟨bufs, rb, nb, nm, lb, oI, st, e1, e2, a, b, c, d, e, f⟩ := c
  exact ⟨bufs, rb, nb, nm, lb, oI, st, e1, e2, a, b, c, d.mono fun o => hP _ o, e.mono fun l o _ => hP l o, f⟩
theorem RdSt.range (c : RdSt P lo hi S D BUF it ML RL rem) :
    (∀ p ∈ RL, @LE.le Nat _ lo p.1 ∧ @LT.lt Nat _ p.1 hi) ∧ @LE.le Nat _ lo S ∧ @LT.lt Nat _ S hi ∧ @LE.le Nat _ lo D ∧ @LT.lt Nat _ D hi ∧ @LT.lt Nat _ D S := by
  obtain ⟨bufs, rb, nb, nm, lb, oI, st, rfl, e2, a, b, c, d, e, f⟩ := c
  refine ⟨List.forall_mem_cons.mpr ⟨by dsimp only; omega, List.forall_mem_cons.mpr ⟨by dsimp only; omega, List.forall_mem_cons.mpr ⟨by dsimp only; omega, fun p hp => ?_⟩⟩⟩, by omega, by omega, by omega, by omega, by omega⟩
  have := e.range p hp
  omega
theorem RdSt.off (c : RdSt P lo hi S D BUF it ML RL rem) : (∀ p ∈ RL, p.1 ≠ D) ∧ (∀ p ∈ RL, p.1 ≠ S) := by
  obtain ⟨bufs, rb, nb, nm, lb, oI, st, rfl, e2, a, b, c, d, e, f⟩ := c
  constructor <;> refine List.forall_mem_cons.mpr ⟨neN (by dsimp only; omega), List.forall_mem_cons.mpr ⟨neN (by dsimp only; omega), List.forall_mem_cons.mpr ⟨neN (by dsimp only; omega), fun p hp => ?_⟩⟩⟩
  · have := e.range p hp
    exact neN (by omega)
  · have := e.range p hp
    exact neN (by omega)
end
theorem off4 {P : Addr → Obj → Prop} {lo bot u : Nat} {x : Mac} {xs : List Mac} (c : Stk P lo bot u (x :: xs)) {Y : List (Addr × Obj)} (hY : ∀ p ∈ Y, @LE.le Nat _ p.1 bot) : ∀ p ∈ stkLed xs ++ Y, p.1 ∉ [x.M, x.dM, x.b, x.im] := by
  obtain ⟨a1, a2, a3, a4, a5, a6, a7, a8⟩ := c
  intro p hp hm
  have : @LT.lt Nat _ p.1 x.im := by
    rcases List.mem_append.mp hp with h | h
    · exact (a8.range p h).2
    · exact Nat.lt_of_le_of_lt (hY p h) a1
  simp only [List.mem_cons, List.not_mem_nil, or_false] at hm
  rcases hm with h | h | h | h <;> (rw [h] at this; omega)
theorem execs_split {M : Model} {A : Around} {env : Env} {E : Value → Shared → Prop} {s : Shared} {st : Stmt} {rest : List Stmt} {Q : Flow → Shared → Prop}
    (h : wpAny M A (execs [st] env) (fun f s' => match f with | .next => wpAny M A (execs rest env) Q E s' | f => Q f s') E s) : wpAny M A (execs (st :: rest) env) Q E s := fun Γ p hΓ => by
  have h' := h Γ p hΓ
  rw [execs_cons, Sem.wp_bind'] at h' ⊢
  refine Sem.wp_mono M Γ _ (fun f p' s' h2 => ?_) (fun _ _ _ e => e) _ _ h'
  cases f <;> first | exact h2 Γ p' hΓ | exact h2
theorem execs_split2 {M : Model} {A : Around} {env : Env} {E : Value → Shared → Prop} {s : Shared} {st st2 : Stmt} {rest : List Stmt} {Q : Flow → Shared → Prop}
    (h : wpAny M A (execs [st, st2] env) (fun f s' => match f with | .next => wpAny M A (execs rest env) Q E s' | f => Q f s') E s) : wpAny M A (execs (st :: st2 :: rest) env) Q E s := fun Γ p hΓ => by
  have h' := h Γ p hΓ
  rw [execs_cons, Sem.wp_bind'] at h' ⊢
  refine Sem.wp_mono M Γ _ (fun f p' s' h2 => ?_) (fun _ _ _ e => e) _ _ h'
  cases f
  case next =>
    dsimp only at h2 ⊢
    rw [execs_cons, Sem.wp_bind'] at h2 ⊢
    refine Sem.wp_mono M Γ _ (fun f p' s' h3 => ?_) (fun _ _ _ e => e) _ _ h2
    cases f <;> first | exact h3 Γ p' hΓ | exact h3
  all_goals exact h2
section
variable {gd : Option (List Code)} {A₀ : Around} {outer : List Env} {base h₀ : Heap} {L : Addr} {m : Str → Option Value} {s : Shared}
  {D S BUF it ML lb : Addr} {k : FeK} {on : Bool} {dp : Int} {tp : Tok} {nb nm lo hi : Nat} {t : Addr} {bufs : Array Value} {Y : List (Addr × Obj)} {oI : Obj} {P : Addr → Obj → Prop} {rb rr : List Value} {st : List Mac} {pos : Pos}
theorem nt_while {Q : Flow → Shared → Prop}
  (B : Below A₀ base outer h₀) (F : Fr h₀ L s.heap m) (X : (hd.heap_1 w.params).In h₀) (TT : Top p loose mean mg mb h₀) (hP : ∀ l o, P l o → h₀.get? l = some o) (h1 : m (Str.ofString "token") = some .none) (h2 : m (Str.ofString "self") = some (.ref S)) (d1 : @LT.lt Nat _ D S) (d2 : @LT.lt Nat _ S BUF) (d3 : @LT.lt Nat _ BUF ML)
  (hY : ∀ p ∈ Y, @LT.lt Nat _ p.1 ML) (hst : Stk P lo ML hi st) (hlen : st.length ≤ 50) (hh : ∀ v, (stkRem st).head? = some v → ∃ t, v = .ref t)
  (N : News h₀ L s.heap ((S, instObj 67 D) :: (D, feDict k BUF it ML on dp tp) :: (ML, W.listOf (mls st).toArray nm) :: (stkLed st ++ Y)))
  (ret : ∀ m' h' tk' st' nm', m' (Str.ofString "self") = some (.ref S) → Stk P lo ML hi st' → st'.length ≤ 50 → ((m' (Str.ofString "token") = some .none ∧ stkRem st = [] ∧ stkRem st' = []) ∨ ∃ t, m' (Str.ofString "token") = some (.ref t) ∧ stkRem st = .ref t :: stkRem st') → Fr h₀ L h' m' →
    News h₀ L h' ((S, instObj 67 D) :: (D, feDict k BUF it ML on dp tp) :: (ML, W.listOf (mls st').toArray nm') :: (stkLed st' ++ Y)) → Q .next {s with heap := h', toks := tk'}) :
  wpAny (model prog w) (ntA gd L outer) (exec (.While ntTest ntTurn [] pos) (ntEnv L)) Q (fun _ _ => False) s := by
  refine wpAny_While (codeAny_whileLoop (fun n s' => ∃ h' tk' st' nm', s' = { s with heap := h', toks := tk' } ∧ Fr h₀ L h' m ∧ News h₀ L h' ((S, instObj 67 D) :: (D, feDict k BUF it ML on dp tp) :: (ML, W.listOf (mls st').toArray nm') :: (stkLed st' ++ Y)) ∧ Stk P lo ML hi st' ∧ stkRem st = stkRem st' ∧ st'.length ≤ 50 ∧ n = st'.length) ?_ st.length ⟨_, _, st, nm, rfl, F, N, hst, rfl, hlen, rfl⟩)
  rintro n s' ⟨h', tk', st', nm', rfl, F', N', hst', he, hl', rfl⟩
  rcases st' with _ | ⟨x, xs⟩
  · refine nt_t_nil B F' X TT h1 h2 N' fun h3 tk3 F3 N3 => ?_
    simp only [Bool.false_eq_true, if_false]
    exact wpAny_execs_nil (ret m h3 tk3 [] nm' h2 trivial (Nat.zero_le _) (.inl ⟨h1, he, rfl⟩) F3 N3)
  · rw [mls_cons] at N'
    refine nt_t_some B F' X TT h1 h2 (by simp [mls] at hl' ⊢; omega) N' fun h3 tk3 F3 N3 => ?_
    simp only [if_true]
    have hst2 := hst'
    obtain ⟨a1, a2, a3, a4, a5, a6, a7, a8⟩ := hst'
    have hYm := off4 hst2 (Y := Y) (fun p hp => Nat.le_of_lt (hY p hp))
    have hYl : ∀ p ∈ stkLed xs ++ Y, p.1 ≠ ML := fun p hp => by
      rcases List.mem_append.mp hp with h | h
      · have := a8.range p h; exact neN (by omega)
      · have := hY p h; exact neN (by omega)
    have hmz : (mls xs).length ≤ 100 := by simp [mls] at hl' ⊢; omega
    have N4 : News h₀ L h3 ((x.M, instObj 110 x.dM) :: (x.dM, meDict x.e1 x.e2 x.e3 x.t1 x.t2 x.t3 x.im x.b x.hs) :: (x.b, W.listOf x.bs x.nb) :: (x.im, x.oI) :: (S, instObj 67 D) :: (D, feDict k BUF it ML on dp tp) :: (ML, W.listOf (mls xs ++ [Value.ref x.M]).toArray nm') :: (stkLed xs ++ Y)) := News.sub N3 fun p hp => by
      simp only [stkLed_cons, Mac.led, List.mem_cons, List.mem_append, List.not_mem_nil, or_false] at hp ⊢
      rcases hp with h | h | h | h | h | h | h | h | h <;> simp only [h, true_or, or_true]
    rw [stkRem_cons] at he
    rcases hr : x.r with _ | ⟨v, r⟩
    · rw [hr] at he a7
      refine nt_pop B F3 X TT h1 h2 hmz d1 d2 d3 a1 a2 a3 a4 hYm hYl (a7.toH hP) N4 ?_
      intro h5 tk5 F5 N5
      exact ⟨xs.length, by simp, h5, tk5, xs, nm' + 1, rfl, F5, N5, a8.up (by omega), he, by simp at hl'; omega, rfl⟩
    · rw [hr] at he a7
      obtain ⟨t, rfl⟩ := hh v (by rw [he]; rfl)
      refine nt_tok B F3 X TT h1 h2 hmz d1 d2 d3 a1 a2 a3 a4 hYm hYl (a7.toH hP) N4 ?_
      intro nb' oI' m' h5 tk5 ht' hs' ms' F5 N5
      refine ret m' h5 tk5 ({ x with nb := nb', oI := oI', bs := #[], r := r } :: xs) nm' hs' ⟨a1, a2, a3, a4, a5, a6, a7.back hP ms', a8⟩ (by simpa using hl') (.inr ⟨t, ht', he⟩) F5 (News.sub N5 fun p hp => ?_)
      rw [mls_cons] at hp
      simp only [stkLed_cons, Mac.led, List.mem_cons, List.mem_append, List.not_mem_nil, or_false] at hp ⊢
      rcases hp with h | h | h | ((h | h | h | h) | h) | h <;> simp only [h, true_or, or_true]
end

end

section
set_option linter.unusedVariables false
set_option linter.unusedSimpArgs false
variable {w : World} {p : Program} {loose : List Str} {mean : ExcName → Option Value} {mg mb : Str → Option Value}


section
variable {gd : Option (List Code)} {A₀ : Around} {outer : List Env} {base h₀ : Heap} {L : Addr} {m : Str → Option Value} {s : Shared}
  {D S BUF it ML lb : Addr} {k : FeK} {on : Bool} {dp : Int} {tp : Tok} {nb nm lo hi : Nat} {t : Addr} {bufs : Array Value} {oI : Obj} {P : Addr → Obj → Prop} {rb : List Value} {st : List Mac}
theorem nt_mid {Q : Flow → Shared → Prop}
  (B : Below A₀ base outer h₀) (F : Fr h₀ L s.heap m) (X : (hd.heap_1 w.params).In h₀) (TT : Top p loose mean mg mb h₀) (hP : ∀ l o, P l o → h₀.get? l = some o) (h2 : m (Str.ofString "self") = some (.ref S)) (ord : @LE.le Nat _ lo it ∧ @LT.lt Nat _ it D ∧ @LT.lt Nat _ D S ∧ @LT.lt Nat _ S BUF ∧ @LT.lt Nat _ BUF ML ∧ @LT.lt Nat _ ML hi)
  (hb : bufs = #[] ∨ ∃ t, bufs = #[.ref t]) (stb : ItP P lb oI rb) (hst : Stk P lo ML hi st) (hlen : st.length ≤ 50) (hh : ∀ v, (bufs.toList ++ (stkRem st ++ rb)).head? = some v → ∃ t, v = .ref t)
  (N : News h₀ L s.heap ((S, instObj 67 D) :: (D, feDict k BUF it ML on dp tp) :: (BUF, W.listOf bufs nb) :: (ML, W.listOf (mls st).toArray nm) :: (it, oI) :: stkLed st))
  (ret : ∀ m' h' tk' nb' nm' oI' rb' st', m' (Str.ofString "self") = some (.ref S) → ItP P lb oI' rb' → Stk P lo ML hi st' → st'.length ≤ 50 →
    ((m' (Str.ofString "token") = some .none ∧ bufs.toList ++ (stkRem st ++ rb) = [] ∧ stkRem st' ++ rb' = []) ∨ ∃ t, m' (Str.ofString "token") = some (.ref t) ∧ bufs.toList ++ (stkRem st ++ rb) = .ref t :: (stkRem st' ++ rb')) → Fr h₀ L h' m' →
    News h₀ L h' ((S, instObj 67 D) :: (D, feDict k BUF it ML on dp tp) :: (BUF, W.listOf #[] nb') :: (ML, W.listOf (mls st').toArray nm') :: (it, oI') :: stkLed st') → wpAny (model prog w) (ntA gd L outer) (execs ntTail (ntEnv L)) Q (fun _ _ => False) {s with heap := h', toks := tk'}) :
  wpAny (model prog w) (ntA gd L outer) (execs ntBody (ntEnv L)) Q (fun _ _ => False) s := by
  obtain ⟨o1, o2, o3, o4, o5, o6⟩ := ord
  have fin : ∀ (m1 : Str → Option Value) (h1 : Heap) (tk1 : Nat) (st1 : List Mac) (nm1 nb1 : Nat), m1 (Str.ofString "self") = some (.ref S) → Stk P lo ML hi st1 → st1.length ≤ 50 → ((m1 (Str.ofString "token") = some .none ∧ stkRem st1 = [] ∧ bufs.toList ++ (stkRem st ++ rb) = rb) ∨ ∃ t, m1 (Str.ofString "token") = some (.ref t) ∧ bufs.toList ++ (stkRem st ++ rb) = .ref t :: (stkRem st1 ++ rb)) → Fr h₀ L h1 m1 →
      News h₀ L h1 ((S, instObj 67 D) :: (D, feDict k BUF it ML on dp tp) :: (BUF, W.listOf #[] nb1) :: (ML, W.listOf (mls st1).toArray nm1) :: (it, oI) :: stkLed st1) → wpAny (model prog w) (ntA gd L outer) (execs (ntBody.drop 3) (ntEnv L)) Q (fun _ _ => False) { s with heap := h1, toks := tk1 } := by
    intro m1 h1 tk1 st1 nm1 nb1 hs1 hst1 hl1 hc F1 N1
    show wpAny (model prog w) (ntA gd L outer) (execs (_ :: ntTail) _) _ _ _
    have hY : ∀ p ∈ (BUF, W.listOf #[] nb1) :: (ML, W.listOf (mls st1).toArray nm1) :: stkLed st1, p.1 ≠ it := List.forall_mem_cons.mpr ⟨neN (by dsimp only; omega), List.forall_mem_cons.mpr ⟨neN (by dsimp only; omega), fun p hp => by have := hst1.range p hp; exact neN (by omega)⟩⟩
    have N2 : News h₀ L h1 ((S, instObj 67 D) :: (D, feDict k BUF it ML on dp tp) :: (it, oI) :: (BUF, W.listOf #[] nb1) :: (ML, W.listOf (mls st1).toArray nm1) :: stkLed st1) := News.sub N1 fun p hp => by
      first
      | (revert hp; revert p; (repeat (first | exact List.forall_mem_nil _ | refine List.forall_mem_cons.mpr ⟨by k_mem, ?_⟩ | (intro p hp; repeat (first | exact hp | refine List.mem_cons_of_mem _ ?_)))); done)
      | (simp only [List.mem_cons] at hp ⊢
         rcases hp with h | h | h | h | h | h <;> simp only [h, true_or, or_true])
    have back : ∀ {h2 : Heap} {oI' : Obj}, News h₀ L h2 ((S, instObj 67 D) :: (D, feDict k BUF it ML on dp tp) :: (it, oI') :: (BUF, W.listOf #[] nb1) :: (ML, W.listOf (mls st1).toArray nm1) :: stkLed st1) → News h₀ L h2 ((S, instObj 67 D) :: (D, feDict k BUF it ML on dp tp) :: (BUF, W.listOf #[] nb1) :: (ML, W.listOf (mls st1).toArray nm1) :: (it, oI') :: stkLed st1) := fun N => News.sub N fun p hp => by
      first
      | (revert hp; revert p; (repeat (first | exact List.forall_mem_nil _ | refine List.forall_mem_cons.mpr ⟨by k_mem, ?_⟩ | (intro p hp; repeat (first | exact hp | refine List.mem_cons_of_mem _ ?_)))); done)
      | (simp only [List.mem_cons] at hp ⊢
         rcases hp with h | h | h | h | h | h <;> simp only [h, true_or, or_true])
    rcases hc with ⟨ht, he1, he⟩ | ⟨t, ht, he⟩
    · rcases rb with _ | ⟨v, rb'⟩
      · refine execs_split (nt_c_nil B F1 X TT ht hs1 o2 o3 hY (stb.toH hP) N2 ?_)
        intro oI' m' h' tk' ht' hs' st' F' N'
        exact ret m' h' tk' nb1 nm1 oI' [] st1 hs' (stb.back hP st') hst1 hl1 (.inl ⟨ht', he, by rw [he1]; rfl⟩) F' (back N')
      · obtain ⟨t, rfl⟩ := hh v (by rw [he]; rfl)
        refine execs_split (nt_c_cons B F1 X TT ht hs1 o2 o3 hY (stb.toH hP) N2 ?_)
        intro oI' m' h' tk' ht' hs' st' F' N'
        exact ret m' h' tk' nb1 nm1 oI' rb' st1 hs' (stb.back hP st') hst1 hl1 (.inr ⟨t, ht', by rw [he, he1]; rfl⟩) F' (back N')
    · refine execs_split (nt_c_tok B F1 X TT ht N1 ?_)
      intro h' tk' F' N'
      exact ret m1 h' tk' nb1 nm1 oI rb st1 hs1 stb hst1 hl1 (.inr ⟨t, ht, he⟩) F' N'
  show wpAny (model prog w) (ntA gd L outer) (execs (_ :: _ :: ntBody.drop 2) _) _ _ _
  rcases hb with rfl | ⟨t, rfl⟩
  · refine execs_split2 (nt_a_nil B F X TT h2 N ?_)
    intro m1 h1 tk1 hs1 ht1 F1 N1
    dsimp only
    show wpAny (model prog w) (ntA gd L outer) (execs (.While ntTest ntTurn [] _ :: ntBody.drop 3) _) _ _ _
    refine wpAny_execs_cons (nt_while (tp := tp) (dp := dp) (on := on) (k := k) (it := it) (Y := [(BUF, W.listOf #[] nb), (it, oI)]) (nm := nm) B F1 X TT hP ht1 hs1 o3 o4 o5 ?_ hst hlen (fun v hv => hh v ?_) (News.sub N1 ?_) ?_)
    · exact List.forall_mem_cons.mpr ⟨by dsimp only; omega, List.forall_mem_cons.mpr ⟨by dsimp only; omega, List.forall_mem_nil _⟩⟩
    · show (stkRem st ++ rb).head? = some v
      cases hq : stkRem st with
      | nil => rw [hq] at hv; cases hv
      | cons a b => rw [hq] at hv; exact hv
    · intro p hp
      simp only [List.mem_cons, List.mem_append, List.not_mem_nil, or_false] at hp ⊢
      rcases hp with h | h | h | h | h | h <;> simp only [h, true_or, or_true]
    intro m' h' tk' st' nm' hs' hst' hl' hc F' N'
    dsimp only
    refine fin m' h' tk' st' nm' nb hs' hst' hl' ?_ F' (News.sub N' ?_)
    · rcases hc with ⟨a, b, c⟩ | ⟨t, a, b⟩
      · exact .inl ⟨a, c, by rw [b]; rfl⟩
      · exact .inr ⟨t, a, by rw [b]; rfl⟩
    · intro p hp
      simp only [List.mem_cons, List.mem_append, List.not_mem_nil, or_false] at hp ⊢
      rcases hp with h | h | h | h | h | h <;> simp only [h, true_or, or_true]
  · refine execs_split2 (nt_a_buf B F X TT h2 o3 o4 ?_ N ?_)
    · exact List.forall_mem_cons.mpr ⟨neN (by dsimp only; omega), List.forall_mem_cons.mpr ⟨neN (by dsimp only; omega), fun p hp => by have := hst.range p hp; exact neN (by omega)⟩⟩
    intro nb' m1 h1 tk1 hs1 ht1 F1 N1
    dsimp only
    show wpAny (model prog w) (ntA gd L outer) (execs (.While ntTest ntTurn [] _ :: ntBody.drop 3) _) _ _ _
    refine wpAny_execs_cons (wpAny_While (codeAny_whileLoop (fun n s' => s' = { s with heap := h1, toks := tk1 }) ?_ 0 rfl))
    rintro n s' rfl
    refine nt_t_tok B F1 X TT ht1 N1 fun h3 tk3 F3 N3 => ?_
    simp only [Bool.false_eq_true, if_false]
    refine wpAny_execs_nil ?_
    dsimp only
    exact fin m1 h3 tk3 st nm nb' hs1 hst hlen (.inr ⟨t, ht1, rfl⟩) F3 N3
end
section
variable {gd : Option (List Code)} {A A₀ : Around} {env : Env} {outer : List Env} {base h₀ : Heap} {L : Addr} {m : Str → Option Value} {s : Shared} {R : Result → Shared → Prop}
  {S D BUF it ML : Addr} {k : FeK} {on : Bool} {dp : Int} {tp : Tok} {lo hi : Nat} {t : Addr} {f : Bool} {RL : List (Addr × Obj)} {r : List Value} {P : Addr → Obj → Prop}
theorem low_ext {h h' : Heap} {as : List Addr} (x : ExtB as h h') (ha : ∀ a ∈ as, @LE.le Nat _ lo a) (hP : ∀ l o, P l o → h.get? l = some o) : ∀ l o, (P l o ∧ @LT.lt Nat _ l lo) → h'.get? l = some o := fun l o c =>
  x l o (hP l o c.1) fun z => Nat.lt_irrefl _ (Nat.lt_of_lt_of_le c.2 (ha l z))
theorem rd_low {rem0 : List Value} (c : RdSt P lo hi S D BUF it ML RL rem0) : ∀ a ∈ ((S, instObj 67 D) :: (D, feDict k BUF it ML on dp tp) :: RL).map (·.1), @LE.le Nat _ lo a := by
  have r := c.range
  intro a ha
  simp only [List.map_cons, List.mem_cons] at ha
  rcases ha with h | h | h
  · rw [h]; exact r.2.1
  · rw [h]; exact r.2.2.2.1
  · obtain ⟨p, hp, rfl⟩ := List.mem_map.mp h
    exact (r.1 p hp).1
theorem fnext_cons_st
  (B : Below A₀ base outer h₀) (F : Fr h₀ L s.heap m) (X : (hd.heap_1 w.params).In h₀) (TT : Top p loose mean mg mb h₀) (hA : Fits A 550 5500 env outer L)
  (N : News h₀ L s.heap ((S, instObj 67 D) :: (D, feDict k BUF it ML on dp tp) :: RL)) (hP : ∀ l o, P l o → s.heap.get? l = some o)
  {rem0 : List Value} (st0 : RdSt P lo hi S D BUF it ML RL rem0) (he : rem0 = (.ref t :: r)) (ht : TokF s.heap lo t f)
  (retT : on = true → dp = 0 → f = true → ∀ RL' h' tk', ExtB (S :: D :: RL.map (·.1)) s.heap h' → Fr h₀ L h' m → News h₀ L h' ((S, instObj 67 D) :: (D, feDict k BUF it ML on dp tp) :: RL') → RdSt P lo hi S D BUF it ML RL' (.ref t :: r) → R (.ok (.ret (.none))) {s with heap := h', toks := tk'})
  (retF : ¬ (on = true ∧ dp = 0 ∧ f = true) → ∀ RL' h' tk', ExtB (S :: D :: RL.map (·.1)) s.heap h' → Fr h₀ L h' m → News h₀ L h' ((S, instObj 67 D) :: (D, feDict k BUF it ML on dp tp) :: RL') → RdSt P lo hi S D BUF it ML RL' r → R (.ok (.ret (.ref t))) {s with heap := h', toks := tk'}) :
  codeAny (model prog w) A (.call (.ref 57) ⟨[.ref S], []⟩) R s := by
  have hlow := rd_low (k := k) (on := on) (dp := dp) (tp := tp) st0
  obtain ⟨bufs, rb, nb, nm, lb, oI, st, rfl, e2, ord, hb, hlb, stb, hst, hlen⟩ := st0
  refine codeAny_fits hA fun hf hke => ?_
  k_dflt (refine' code_defE ?k1 ?k2 ?k3 ?k4 ?k5 ?kA ?kF ?kK ?k6 ?k7 ?k8 ?k9 ?kB ?_ ?c2 ?c3 ?c4 ?c5; (case kA => exact rfl); (case kF => first | assumption | exact rfl); (case kK => first | assumption | exact rfl); (case k1 => k_asm); (case k2 => k_asm); (case k3 => k_asm); (case k4 => k_asm); (case k5 => k_asm); (case k6 => k_is); (case k7 => k_is); (case k8 => ktr_room); (case k9 => exact BindsTo.of_eq rfl); (case c5 => decide); (case kB => exact locs rfl); (case c2 => exact rfl); (case c3 => exact rfl); (case c4 => exact rfl); k_whole; intro g' L' h' FG' F' N' B' X' T' l1 hk1 hg1 hn1; (try dsimp only); (try k_fold))
  have hP' := low_ext hg1 hlow hP
  have ht' := ht.ext hg1 hlow
  refine wpAny_mono (nt_mid (h₀ := g') (Q := qk) (P := fun l o => P l o ∧ @LT.lt Nat _ l lo) (lo := lo) (hi := hi) (bufs := bufs) (nb := nb) (nm := nm) (rb := rb) (lb := lb) (oI := oI) (st := st) (S := S) (D := D) (BUF := BUF) (ML := ML) (it := it) (k := k) (on := on) (dp := dp) (tp := tp) (by k_asm) (by k_asm) (by k_asm) (by k_asm) hP' rfl ord hb (stb.mono fun o z => ⟨z, hlb⟩) (hst.mono fun l o q z => ⟨z, q⟩) hlen ?_ (by k_asm) ?_) (fun _ _ q => q) (fun _ _ e => e.elim)
  · intro v hv
    rw [← e2, he] at hv
    exact ⟨t, (Option.some.inj hv).symm⟩
  intro m1 h1 tk1 nb1 nm1 oI1 rb1 st1 hs1 stb1 hst1 hl1 hc F1 N1
  rcases hc with ⟨_, e, _⟩ | ⟨t', ht1, e⟩
  · rw [← e2, he] at e; cases e
  · rw [← e2, he] at e
    obtain ⟨e3, e4⟩ := List.cons.inj e
    cases e3
    have hoff : ∀ p ∈ (ML, W.listOf (mls st1).toArray nm1) :: (it, oI1) :: stkLed st1, p.1 ≠ BUF := List.forall_mem_cons.mpr ⟨neN (by dsimp only; omega), List.forall_mem_cons.mpr ⟨neN (by dsimp only; omega), fun p hp => by have := hst1.range p hp; exact neN (by omega)⟩⟩
    refine nt_tail_ref B' F1 X' T' hs1 ht1 N1 ord.2.2.1 ord.2.2.2.1 hoff ht' ?_ ?_
    · intro hon hdp hf nb' m2 h2 tk2 F2 N2
      refine leaveK_ F2 N2 fun kF kN hx => ?_
      exact retT hon hdp hf _ _ _ hx kF kN ⟨#[.ref t], rb1, nb', nm1, lb, oI1, st1, rfl, by rw [e4]; rfl, ord, .inr ⟨t, rfl⟩, hlb, stb1.mono fun o z => z.1, hst1.mono fun l o _ z => z.1, hl1⟩
    · intro hno nb' m2 h2 tk2 F2 N2
      refine leaveK_ F2 N2 fun kF kN hx => ?_
      exact retF hno _ _ _ hx kF kN ⟨#[], rb1, nb', nm1, lb, oI1, st1, rfl, by rw [e4]; rfl, ord, .inl rfl, hlb, stb1.mono fun o z => z.1, hst1.mono fun l o _ z => z.1, hl1⟩
theorem fnext_nil_st
  (B : Below A₀ base outer h₀) (F : Fr h₀ L s.heap m) (X : (hd.heap_1 w.params).In h₀) (TT : Top p loose mean mg mb h₀) (hA : Fits A 550 5500 env outer L)
  (N : News h₀ L s.heap ((S, instObj 67 D) :: (D, feDict k BUF it ML on dp tp) :: RL)) (hP : ∀ l o, P l o → s.heap.get? l = some o)
  {rem0 : List Value} (st0 : RdSt P lo hi S D BUF it ML RL rem0) (he : rem0 = [])
  (ret : ∀ RL' h' tk', ExtB (S :: D :: RL.map (·.1)) s.heap h' → Fr h₀ L h' m → News h₀ L h' ((S, instObj 67 D) :: (D, feDict k BUF it ML on dp tp) :: RL') → RdSt P lo hi S D BUF it ML RL' [] → R (.ok (.ret (.none))) {s with heap := h', toks := tk'}) :
  codeAny (model prog w) A (.call (.ref 57) ⟨[.ref S], []⟩) R s := by
  have hlow := rd_low (k := k) (on := on) (dp := dp) (tp := tp) st0
  obtain ⟨bufs, rb, nb, nm, lb, oI, st, rfl, e2, ord, hb, hlb, stb, hst, hlen⟩ := st0
  refine codeAny_fits hA fun hf hke => ?_
  k_dflt (refine' code_defE ?k1 ?k2 ?k3 ?k4 ?k5 ?kA ?kF ?kK ?k6 ?k7 ?k8 ?k9 ?kB ?_ ?c2 ?c3 ?c4 ?c5; (case kA => exact rfl); (case kF => first | assumption | exact rfl); (case kK => first | assumption | exact rfl); (case k1 => k_asm); (case k2 => k_asm); (case k3 => k_asm); (case k4 => k_asm); (case k5 => k_asm); (case k6 => k_is); (case k7 => k_is); (case k8 => ktr_room); (case k9 => exact BindsTo.of_eq rfl); (case c5 => decide); (case kB => exact locs rfl); (case c2 => exact rfl); (case c3 => exact rfl); (case c4 => exact rfl); k_whole; intro g' L' h' FG' F' N' B' X' T' l1 hk1 hg1 hn1; (try dsimp only); (try k_fold))
  have hP' := low_ext hg1 hlow hP
  refine wpAny_mono (nt_mid (h₀ := g') (Q := qk) (P := fun l o => P l o ∧ @LT.lt Nat _ l lo) (lo := lo) (hi := hi) (bufs := bufs) (nb := nb) (nm := nm) (rb := rb) (lb := lb) (oI := oI) (st := st) (S := S) (D := D) (BUF := BUF) (ML := ML) (it := it) (k := k) (on := on) (dp := dp) (tp := tp) (by k_asm) (by k_asm) (by k_asm) (by k_asm) hP' rfl ord hb (stb.mono fun o z => ⟨z, hlb⟩) (hst.mono fun l o q z => ⟨z, q⟩) hlen ?_ (by k_asm) ?_) (fun _ _ q => q) (fun _ _ e => e.elim)
  · intro v hv
    rw [← e2, he] at hv
    cases hv
  intro m1 h1 tk1 nb1 nm1 oI1 rb1 st1 hs1 stb1 hst1 hl1 hc F1 N1
  rcases hc with ⟨ht1, _, e4⟩ | ⟨t', ht1, e⟩
  · have hoff : ∀ p ∈ (ML, W.listOf (mls st1).toArray nm1) :: (it, oI1) :: stkLed st1, p.1 ≠ BUF := List.forall_mem_cons.mpr ⟨neN (by dsimp only; omega), List.forall_mem_cons.mpr ⟨neN (by dsimp only; omega), fun p hp => by have := hst1.range p hp; exact neN (by omega)⟩⟩
    refine nt_tail_none B' F1 X' T' hs1 ht1 N1 ord.2.2.1 ord.2.2.2.1 hoff ?_
    intro m2 h2 tk2 F2 N2
    refine leaveK_ F2 N2 fun kF kN hx => ?_
    exact ret _ _ _ hx kF kN ⟨#[], rb1, nb1, nm1, lb, oI1, st1, rfl, by rw [e4]; rfl, ord, .inl rfl, hlb, stb1.mono fun o z => z.1, hst1.mono fun l o _ z => z.1, hl1⟩
  · rw [← e2, he] at e; cases e
end

end

section
set_option linter.unusedVariables false
set_option linter.unusedSimpArgs false
variable {w : World} {p : Program} {loose : List Str} {mean : ExcName → Option Value} {mg mb : Str → Option Value}


def ifTest (l : List Stmt) (i : Nat) : Expr := match l[i]? with
  | some (.If t _ _ _) => t
  | _ => default
def pkTest : Expr := ifTest pkBody 2
theorem stkLed_app (a b : List Mac) : stkLed (a ++ b) = stkLed a ++ stkLed b := by simp [stkLed]
theorem mls_app (a b : List Mac) : mls (a ++ b) = mls b ++ mls a := by simp [mls]
theorem Stk.split {P : Addr → Obj → Prop} {lo bot : Nat} {top : List Mac} {x : Mac} {low : List Mac} : ∀ {u : Nat}, Stk P lo bot u (top ++ x :: low) → (∃ u', u' ≤ u ∧ Stk P lo bot u' (x :: low) ∧ ∀ p ∈ stkLed top, u' ≤ p.1) := by
  induction top with
  | nil => intro u c; exact ⟨u, Nat.le_refl _, c, fun _ h => nomatch h⟩
  | cons y ys ih =>
    intro u c
    obtain ⟨a1, a2, a3, a4, a5, a6, a7, a8⟩ := c
    obtain ⟨u', h1, h2, h3⟩ := ih a8
    refine ⟨u', by omega, h2, fun p hp => ?_⟩
    rw [stkLed_cons] at hp
    rcases List.mem_append.mp hp with h | h
    · simp only [Mac.led, List.mem_cons, List.not_mem_nil, or_false] at h
      rcases h with h | h | h | h <;> rw [h] <;> dsimp only <;> omega
    · exact h3 p h
theorem Stk.set {P : Addr → Obj → Prop} {lo bot : Nat} {top : List Mac} {x : Mac} {low : List Mac} {nb : Nat} {oI : Obj} {bs : Array Value} {r : List Value} (h : MacP P x.l bs oI r) : ∀ {u : Nat}, Stk P lo bot u (top ++ x :: low) → Stk P lo bot u (top ++ { x with nb := nb, oI := oI, bs := bs, r := r } :: low) := by
  induction top with
  | nil => intro u c; obtain ⟨a1, a2, a3, a4, a5, a6, a7, a8⟩ := c; exact ⟨a1, a2, a3, a4, a5, a6, h, a8⟩
  | cons y ys ih => intro u c; obtain ⟨a1, a2, a3, a4, a5, a6, a7, a8⟩ := c; exact ⟨a1, a2, a3, a4, a5, a6, a7, ih a8⟩
section
variable {gd : Option (List Code)} {A₀ : Around} {outer : List Env} {base h₀ : Heap} {L : Addr} {m : Str → Option Value} {s : Shared} {E : Value → Shared → Prop}
  {D S BUF it ML lb : Addr} {k : FeK} {on : Bool} {dp : Int} {tp : Tok} {nb nm lo hi : Nat} {t : Addr} {bufs : Array Value} {Y : List (Addr × Obj)} {oI : Obj} {P : Addr → Obj → Prop} {rb rr : List Value} {st : List Mac}
theorem pk_test {Q : Bool → Shared → Prop} {news : List (Addr × Obj)}
  (B : Below A₀ base outer h₀) (F : Fr h₀ L s.heap m) (X : (hd.heap_1 w.params).In h₀) (TT : Top p loose mean mg mb h₀) (h1 : m (Str.ofString "token") = some .none) (N : News h₀ L s.heap news)
  (ret : ∀ h' tk', Fr h₀ L h' m → News h₀ L h' news → Q true {s with heap := h', toks := tk'}) :
  wpAny (model prog w) (pkA gd L outer) (isTrue pkTest (pkEnv L) (eval pkTest (pkEnv L))) Q E s := by
  show wpAny _ _ (isTrue (.Compare _ _ _ _) _ (eval (.Compare _ _ _ _) _)) _ _ _
  k_steps
  all_goals (try k_data)
  all_goals (exact ret _ _ (by k_asm) (by k_asm))
theorem pk_loop {Q : Flow → Shared → Prop} {pos px : Pos}
  (B : Below A₀ base outer h₀) (F : Fr h₀ L s.heap m) (X : (hd.heap_1 w.params).In h₀) (TT : Top p loose mean mg mb h₀) (hP : ∀ l o, P l o → h₀.get? l = some o) (h1 : m (Str.ofString "token") = some .none) (h2 : m (Str.ofString "self") = some (.ref S)) (d1 : @LT.lt Nat _ D S) (d2 : @LT.lt Nat _ S ML)
  (hY : ∀ p ∈ Y, @LT.lt Nat _ p.1 ML) (hst : Stk P lo ML hi st) (hlen : st.length ≤ 50) (hh : ∀ v, (stkRem st).head? = some v → ∃ t, v = .ref t)
  (N : News h₀ L s.heap ((S, instObj 67 D) :: (D, feDict k BUF it ML on dp tp) :: (ML, W.listOf (mls st).toArray nm) :: (stkLed st ++ Y)))
  (ret : ∀ m' h' tk' st', m' (Str.ofString "self") = some (.ref S) → Stk P lo ML hi st' → st'.length ≤ 50 → mls st' = mls st → stkRem st = stkRem st' → ((m' (Str.ofString "token") = some .none ∧ stkRem st = []) ∨ ∃ t rr, m' (Str.ofString "token") = some (.ref t) ∧ stkRem st = .ref t :: rr) → Fr h₀ L h' m' →
    News h₀ L h' ((S, instObj 67 D) :: (D, feDict k BUF it ML on dp tp) :: (ML, W.listOf (mls st').toArray nm) :: (stkLed st' ++ Y)) → Q .next {s with heap := h', toks := tk'}) :
  wpAny (model prog w) (pkA gd L outer) (exec (.For (.Name (Str.ofString "macro_expansion") px) pkIter pkTurn [] pos) (pkEnv L)) Q (fun _ _ => False) s := by
  refine wpAny_For (pk_iter B F X TT h2 N fun I h' tk' hI F' N' => ?_)
  refine forRev_FN (n := nm) (r := ML) (vs := mls st) (fun i m news => ∃ top low, low.length = i ∧ m (Str.ofString "self") = some (.ref S) ∧ m (Str.ofString "token") = some .none ∧ Stk P lo ML hi (top ++ low) ∧ (∀ x ∈ top, x.r = []) ∧ stkRem st = stkRem low ∧ stkRem (top ++ low) = stkRem low ∧ mls (top ++ low) = mls st ∧
    news = (S, instObj 67 D) :: (D, feDict k BUF it ML on dp tp) :: (ML, W.listOf (mls st).toArray nm) :: (stkLed (top ++ low) ++ Y)) rfl rfl rfl F' N' hI ⟨[], st, by simp [mls], h2, h1, hst, (fun _ h => nomatch h), rfl, rfl, rfl, rfl⟩ ?_ ?_ ?_
  · rintro i m1 news1 ⟨top, low, _, _, _, _, _, _, _, _, rfl⟩
    exact .tail _ (.tail _ (.head _))
  · rintro i v m1 news1 h1' tk1 oI1 hv ⟨top, low, hl, hs1, ht1, hst1, htop, he1, he2, hm1, rfl⟩ hoff F1 N1
    rcases low with _ | ⟨x, low⟩
    · cases hl
    have hi : low.length = i := by simpa using hl
    have hlen2 : (top ++ x :: low).length = st.length := by
      have := congrArg List.length hm1
      simp [mls] at this ⊢
      omega
    have hvx : v = .ref x.M := by
      have e : (mls st)[i]? = some (.ref x.M) := by
        rw [← hm1, mls_app, mls_cons]
        rw [List.append_assoc, List.getElem?_append_right (by simp [mls, hi])]
        simp [mls, hi]
      exact Option.some.inj (hv.symm.trans e)
    subst hvx
    obtain ⟨u', hu1, hst2, hu2⟩ := hst1.split
    have hst3 := hst2
    obtain ⟨a1, a2, a3, a4, a5, a6, a7, a8⟩ := hst2
    have hIx : ∀ p ∈ x.led, p.1 ≠ I := fun p hp => hoff p (.tail _ (.tail _ (.tail _ (List.mem_append_left _ (by rw [stkLed_app, stkLed_cons]; exact List.mem_append_right _ (List.mem_append_left _ hp))))))
    have hYm : ∀ p ∈ (I, oI1) :: (S, instObj 67 D) :: (D, feDict k BUF it ML on dp tp) :: (ML, W.listOf (mls st).toArray nm) :: (stkLed top ++ (stkLed low ++ Y)), p.1 ∉ [x.M, x.dM, x.b, x.im] := by
      have low4 : ∀ a : Addr, @LT.lt Nat _ a x.im → a ∉ [x.M, x.dM, x.b, x.im] := fun a h hm => by
        simp only [List.mem_cons, List.not_mem_nil, or_false] at hm
        rcases hm with e | e | e | e <;> (rw [e] at h; omega)
      refine List.forall_mem_cons.mpr ⟨fun hm => ?_, List.forall_mem_cons.mpr ⟨low4 _ (by dsimp only; omega), List.forall_mem_cons.mpr ⟨low4 _ (by dsimp only; omega), List.forall_mem_cons.mpr ⟨low4 _ (by dsimp only; omega), fun p hp => ?_⟩⟩⟩⟩
      · simp only [List.mem_cons, List.not_mem_nil, or_false] at hm
        rcases hm with e | e | e | e
        · exact hIx _ (.head _) e.symm
        · exact hIx _ (.tail _ (.head _)) e.symm
        · exact hIx _ (.tail _ (.tail _ (.head _))) e.symm
        · exact hIx _ (.tail _ (.tail _ (.tail _ (.head _)))) e.symm
      · rcases List.mem_append.mp hp with h | h
        · have := hu2 p h
          intro hm
          simp only [List.mem_cons, List.not_mem_nil, or_false] at hm
          rcases hm with e | e | e | e <;> (rw [e] at this; omega)
        · exact off4 hst3 (Y := Y) (fun p hp => Nat.le_of_lt (hY p hp)) p h
    have N2 : News h₀ (pkEnv L).locals h1' ((x.M, instObj 110 x.dM) :: (x.dM, meDict x.e1 x.e2 x.e3 x.t1 x.t2 x.t3 x.im x.b x.hs) :: (x.b, W.listOf x.bs x.nb) :: (x.im, x.oI) :: (I, oI1) :: (S, instObj 67 D) :: (D, feDict k BUF it ML on dp tp) :: (ML, W.listOf (mls st).toArray nm) :: (stkLed top ++ (stkLed low ++ Y))) := News.sub N1 fun p hp => by
      simp only [stkLed_app, stkLed_cons, Mac.led, List.mem_cons, List.mem_append, List.not_mem_nil, or_false] at hp ⊢
      rcases hp with h | h | h | h | h | h | h | h | h | h | h <;> simp only [h, true_or, or_true]
    have back : ∀ {h2 : Heap} {nb' : Nat} {oI' : Obj} {bs' : Array Value} {r' : List Value}, News h₀ (pkEnv L).locals h2 ((x.M, instObj 110 x.dM) :: (x.dM, meDict x.e1 x.e2 x.e3 x.t1 x.t2 x.t3 x.im x.b x.hs) :: (x.b, W.listOf bs' nb') :: (x.im, oI') :: (I, oI1) :: (S, instObj 67 D) :: (D, feDict k BUF it ML on dp tp) :: (ML, W.listOf (mls st).toArray nm) :: (stkLed top ++ (stkLed low ++ Y))) →
        News h₀ (pkEnv L).locals h2 ((I, oI1) :: (S, instObj 67 D) :: (D, feDict k BUF it ML on dp tp) :: (ML, W.listOf (mls st).toArray nm) :: (stkLed (top ++ { x with nb := nb', oI := oI', bs := bs', r := r' } :: low) ++ Y)) := fun N => News.sub N fun p hp => by
      simp only [stkLed_app, stkLed_cons, Mac.led, List.mem_cons, List.mem_append, List.not_mem_nil, or_false] at hp ⊢
      rcases hp with h | h | h | h | (h | (h | h | h | h) | h) | h <;> simp only [h, true_or, or_true]
    rcases hr : x.r with _ | ⟨v, r⟩
    · rw [hr] at a7
      refine pk_turn_nil B F1 X TT rfl a2 a3 a4 hYm (a7.toH hP) N2 ?_
      intro nb' oI' h3 tk3 ms' F3 N3
      refine .inl ⟨rfl, h3, tk3, _, _, rfl, F3, back (r' := []) N3, ?_, top ++ [{ x with nb := nb', oI := oI', bs := #[.none], r := [] }], low, hi, hs1, ht1, ?_, ?_, ?_, ?_, ?_, by rw [List.append_assoc]; rfl⟩
      · intro p hp
        rcases List.mem_cons.mp hp with h | hp
        · rw [h]; exact hoff _ (.head _)
        rcases List.mem_cons.mp hp with h | hp
        · rw [h]; exact hoff _ (.tail _ (.head _))
        rcases List.mem_cons.mp hp with h | hp
        · rw [h]; exact hoff _ (.tail _ (.tail _ (.head _)))
        simp only [stkLed_app, stkLed_cons, Mac.led, List.mem_cons, List.mem_append, List.not_mem_nil, or_false] at hp
        rcases hp with (h | (h | h | h | h) | h) | h
        · exact hoff p (.tail _ (.tail _ (.tail _ (List.mem_append_left _ (by rw [stkLed_app]; exact List.mem_append_left _ h)))))
        · rw [h]; exact hIx _ (.head _)
        · rw [h]; exact hIx _ (.tail _ (.head _))
        · rw [h]; exact (show x.b ≠ I from hIx (x.b, W.listOf x.bs x.nb) (.tail _ (.tail _ (.head _))))
        · rw [h]; exact (show x.im ≠ I from hIx (x.im, x.oI) (.tail _ (.tail _ (.tail _ (.head _)))))
        · exact hoff p (.tail _ (.tail _ (.tail _ (List.mem_append_left _ (by rw [stkLed_app, stkLed_cons]; exact List.mem_append_right _ (List.mem_append_right _ h))))))
        · exact hoff p (.tail _ (.tail _ (.tail _ (List.mem_append_right _ h))))
      · rw [List.append_assoc]; exact hst1.set (a7.back hP ms')
      · intro y hy
        rcases List.mem_append.mp hy with h | h
        · exact htop y h
        · rw [List.mem_singleton.mp h]
      · rw [he1, stkRem_cons, hr]; rfl
      · have e : stkRem (top ++ [{ x with nb := nb', oI := oI', bs := #[.none], r := [] }] ++ low) = stkRem top ++ stkRem low := by simp [stkRem]
        rw [e]
        have e2 : stkRem top = [] := by
          unfold stkRem
          rw [List.flatMap_eq_nil_iff]
          exact htop
        rw [e2]; rfl
      · rw [← hm1]; simp [mls]
    · rw [hr] at a7
      have hhead : (stkRem st).head? = some v := by rw [he1, stkRem_cons, hr]; rfl
      obtain ⟨t, rfl⟩ := hh v hhead
      refine pk_turn_cons B F1 X TT rfl hs1 a2 a3 a4 hYm (a7.toH hP) N2 ?_
      intro bs' nb' oI' m' h3 tk3 ht' hs' ms' F3 N3
      have e3 : mls (top ++ { x with nb := nb', oI := oI', bs := bs', r := .ref t :: r } :: low) = mls st := by rw [← hm1]; simp [mls]
      refine .inr ⟨rfl, ret m' h3 tk3 (top ++ { x with nb := nb', oI := oI', bs := bs', r := .ref t :: r } :: low) hs' (hst1.set (a7.back hP ms')) ?_ e3 ?_ (.inr ⟨t, r ++ stkRem low, ht', by rw [he1, stkRem_cons, hr]; rfl⟩) F3 ?_⟩
      · simp at hlen2 ⊢; omega
      · have e2 : stkRem top = [] := by
          unfold stkRem
          rw [List.flatMap_eq_nil_iff]
          exact htop
        rw [he1, stkRem_cons, hr]
        have e4 : stkRem (top ++ { x with nb := nb', oI := oI', bs := bs', r := .ref t :: r } :: low) = stkRem top ++ ((.ref t :: r) ++ stkRem low) := by simp [stkRem]
        rw [e4, e2]; rfl
      · rw [e3]
        exact fun p hp => back (r' := .ref t :: r) N3 p (.tail _ hp)
  · rintro m1 news1 h1' tk1 ⟨top, low, hl, hs1, ht1, hst1, htop, he1, he2, hm1, rfl⟩ F1 N1
    obtain rfl : low = [] := List.eq_nil_of_length_eq_zero hl
    refine ret m1 h1' tk1 (top ++ []) hs1 hst1 ?_ hm1 (he1.trans he2.symm) (.inl ⟨ht1, he1⟩) F1 (by rw [hm1]; exact N1)
    have := congrArg List.length hm1
    simp [mls] at this ⊢
    omega
end

end

section
set_option linter.unusedVariables false
set_option linter.unusedSimpArgs false
variable {w : World} {p : Program} {loose : List Str} {mean : ExcName → Option Value} {mg mb : Str → Option Value}


section
variable {gd : Option (List Code)} {A₀ : Around} {outer : List Env} {base h₀ : Heap} {L : Addr} {m : Str → Option Value} {s : Shared}
  {D S BUF it ML lb : Addr} {k : FeK} {on : Bool} {dp : Int} {tp : Tok} {nb nm lo hi : Nat} {t : Addr} {bufs : Array Value} {oI : Obj} {P : Addr → Obj → Prop} {rb : List Value} {st : List Mac}
theorem pk_mid {Q : Flow → Shared → Prop}
  (B : Below A₀ base outer h₀) (F : Fr h₀ L s.heap m) (X : (hd.heap_1 w.params).In h₀) (TT : Top p loose mean mg mb h₀) (hP : ∀ l o, P l o → h₀.get? l = some o) (h2 : m (Str.ofString "self") = some (.ref S)) (ord : @LE.le Nat _ lo it ∧ @LT.lt Nat _ it D ∧ @LT.lt Nat _ D S ∧ @LT.lt Nat _ S BUF ∧ @LT.lt Nat _ BUF ML ∧ @LT.lt Nat _ ML hi)
  (hb : bufs = #[] ∨ ∃ t, bufs = #[.ref t]) (stb : ItP P lb oI rb) (hst : Stk P lo ML hi st) (hlen : st.length ≤ 50) (hh : ∀ v, (bufs.toList ++ (stkRem st ++ rb)).head? = some v → ∃ t, v = .ref t)
  (N : News h₀ L s.heap ((S, instObj 67 D) :: (D, feDict k BUF it ML on dp tp) :: (BUF, W.listOf bufs nb) :: (ML, W.listOf (mls st).toArray nm) :: (it, oI) :: stkLed st))
  (ret : ∀ m' h' tk' bufs' nb' oI' rb' st', (bufs' = #[] ∨ ∃ t, bufs' = #[.ref t]) → m' (Str.ofString "self") = some (.ref S) → ItP P lb oI' rb' → Stk P lo ML hi st' → st'.length ≤ 50 → bufs'.toList ++ (stkRem st' ++ rb') = bufs.toList ++ (stkRem st ++ rb) →
    ((m' (Str.ofString "token") = some .none ∧ bufs.toList ++ (stkRem st ++ rb) = []) ∨ ∃ t rr, m' (Str.ofString "token") = some (.ref t) ∧ bufs.toList ++ (stkRem st ++ rb) = .ref t :: rr) → Fr h₀ L h' m' →
    News h₀ L h' ((S, instObj 67 D) :: (D, feDict k BUF it ML on dp tp) :: (BUF, W.listOf bufs' nb') :: (ML, W.listOf (mls st').toArray nm) :: (it, oI') :: stkLed st') → wpAny (model prog w) (pkA gd L outer) (execs pkTail (pkEnv L)) Q (fun _ _ => False) {s with heap := h', toks := tk'}) :
  wpAny (model prog w) (pkA gd L outer) (execs pkBody (pkEnv L)) Q (fun _ _ => False) s := by
  obtain ⟨o1, o2, o3, o4, o5, o6⟩ := ord
  show wpAny (model prog w) (pkA gd L outer) (execs (_ :: _ :: pkBody.drop 2) _) _ _ _
  rcases hb with rfl | ⟨t, rfl⟩
  · refine execs_split2 (pk_a_nil B F X TT h2 N ?_)
    intro m1 h1 tk1 hs1 ht1 F1 N1
    dsimp only
    show wpAny (model prog w) (pkA gd L outer) (execs (.If pkTest pkFor [] _ :: pkBody.drop 3) _) _ _ _
    refine wpAny_execs_cons (wpAny_If (pk_test B F1 X TT ht1 N1 fun h1' tk1' F1' N1' => ?_))
    simp only [if_true]
    show wpAny (model prog w) (pkA gd L outer) (execs (.For (.Name _ _) pkIter pkTurn [] _ :: []) _) _ _ _
    refine wpAny_execs_cons (pk_loop (BUF := BUF) (tp := tp) (dp := dp) (on := on) (k := k) (it := it) (Y := [(BUF, W.listOf #[] nb), (it, oI)]) (nm := nm) B F1' X TT hP ht1 hs1 o3 (by omega) ?_ hst hlen (fun v hv => hh v ?_) (News.sub N1' ?_) ?_)
    · exact List.forall_mem_cons.mpr ⟨by dsimp only; omega, List.forall_mem_cons.mpr ⟨by dsimp only; omega, List.forall_mem_nil _⟩⟩
    · show (stkRem st ++ rb).head? = some v
      cases hq : stkRem st with
      | nil => rw [hq] at hv; cases hv
      | cons a b => rw [hq] at hv; exact hv
    · intro p hp
      simp only [List.mem_cons, List.mem_append, List.not_mem_nil, or_false] at hp ⊢
      rcases hp with h | h | h | h | h | h <;> simp only [h, true_or, or_true]
    intro m2 h3 tk3 st2 hs2 hst2 hl2 hm2 he2 hc F2 N2
    dsimp only
    refine wpAny_execs_nil ?_
    dsimp only
    have hY : ∀ p ∈ (ML, W.listOf (mls st2).toArray nm) :: stkLed st2, p.1 ≠ it ∧ p.1 ≠ BUF := List.forall_mem_cons.mpr ⟨⟨neN (by dsimp only; omega), neN (by dsimp only; omega)⟩, fun p hp => by have := hst2.range p hp; exact ⟨neN (by omega), neN (by omega)⟩⟩
    show wpAny (model prog w) (pkA gd L outer) (execs (_ :: pkTail) _) _ _ _
    rcases hc with ⟨ht2, he3⟩ | ⟨t, rr, ht2, he3⟩
    · rcases rb with _ | ⟨v, rb'⟩
      · refine execs_split (pk_c_nil (Y := (BUF, W.listOf #[] nb) :: (ML, W.listOf (mls st2).toArray nm) :: stkLed st2) (dp := dp) (tp := tp) (on := on) (k := k) (BUF := BUF) (ML := ML) (oI := oI) B F2 X TT ht2 hs2 o2 o3 (List.forall_mem_cons.mpr ⟨neN (by dsimp only; omega), fun p hp => (hY p hp).1⟩) (stb.toH hP) (News.sub N2 ?_) ?_)
        · intro p hp
          simp only [List.mem_cons, List.mem_append, List.not_mem_nil, or_false] at hp ⊢
          rcases hp with h | h | h | h | h | h <;> simp only [h, true_or, or_true]
        intro oI' m' h' tk' ht' hs' st' F' N'
        refine ret m' h' tk' #[] nb oI' [] st2 (.inl rfl) hs' (stb.back hP st') hst2 hl2 (by rw [he2]) (.inl ⟨ht', by rw [he3]; rfl⟩) F' (News.sub N' fun p hp => ?_)
        first
        | (revert hp; revert p; (repeat (first | exact List.forall_mem_nil _ | refine List.forall_mem_cons.mpr ⟨by k_mem, ?_⟩ | (intro p hp; repeat (first | exact hp | refine List.mem_cons_of_mem _ ?_)))); done)
        | (simp only [List.mem_cons] at hp ⊢
           rcases hp with h | h | h | h | h | h <;> simp only [h, true_or, or_true])
      · obtain ⟨t, rfl⟩ := hh v (by rw [he3]; rfl)
        refine execs_split (pk_c_cons (nb := nb) (Y := (ML, W.listOf (mls st2).toArray nm) :: stkLed st2) (dp := dp) (tp := tp) (on := on) (k := k) (ML := ML) (oI := oI) B F2 X TT ht2 hs2 o2 o3 o4 (fun p hp => (hY p hp).1) (fun p hp => (hY p hp).2) (stb.toH hP) (News.sub N2 ?_) ?_)
        · intro p hp
          simp only [List.mem_cons, List.mem_append, List.not_mem_nil, or_false] at hp ⊢
          rcases hp with h | h | h | h | h | h <;> simp only [h, true_or, or_true]
        intro nb' oI' m' h' tk' ht' hs' st' F' N'
        refine ret m' h' tk' #[.ref t] nb' oI' rb' st2 (.inr ⟨t, rfl⟩) hs' (stb.back hP st') hst2 hl2 (by rw [← he2, he3]; rfl) (.inr ⟨t, rb', ht', by rw [he3]; rfl⟩) F' (News.sub N' fun p hp => ?_)
        first
        | (revert hp; revert p; (repeat (first | exact List.forall_mem_nil _ | refine List.forall_mem_cons.mpr ⟨by k_mem, ?_⟩ | (intro p hp; repeat (first | exact hp | refine List.mem_cons_of_mem _ ?_)))); done)
        | (simp only [List.mem_cons] at hp ⊢
           rcases hp with h | h | h | h | h | h <;> simp only [h, true_or, or_true])
    · refine execs_split (pk_c_tok B F2 X TT ht2 N2 ?_)
      intro h' tk' F' N'
      refine ret m2 h' tk' #[] nb oI rb st2 (.inl rfl) hs2 stb hst2 hl2 (by rw [he2]) (.inr ⟨t, rr ++ rb, ht2, by rw [he3]; rfl⟩) F' (News.sub N' fun p hp => ?_)
      simp only [List.mem_cons, List.mem_append, List.not_mem_nil, or_false] at hp ⊢
      rcases hp with h | h | h | h | h | h <;> simp only [h, true_or, or_true]
  · refine execs_split2 (pk_a_buf B F X TT h2 N ?_)
    intro m1 h1 tk1 hs1 ht1 F1 N1
    dsimp only
    show wpAny (model prog w) (pkA gd L outer) (execs (_ :: _ :: pkTail) _) _ _ _
    refine execs_split2 (pk_b_tok B F1 X TT ht1 N1 ?_)
    intro h' tk' F' N'
    exact ret m1 h' tk' #[.ref t] nb oI rb st (.inr ⟨t, rfl⟩) hs1 stb hst hlen rfl (.inr ⟨t, stkRem st ++ rb, ht1, rfl⟩) F' N'
end
section
variable {gd : Option (List Code)} {A A₀ : Around} {env : Env} {outer : List Env} {base h₀ : Heap} {L : Addr} {m : Str → Option Value} {s : Shared} {R : Result → Shared → Prop}
  {S D BUF it ML : Addr} {k : FeK} {on : Bool} {dp : Int} {tp : Tok} {lo hi : Nat} {t : Addr} {f : Bool} {RL : List (Addr × Obj)} {r : List Value} {P : Addr → Obj → Prop}
theorem fpeek_cons_st
  (B : Below A₀ base outer h₀) (F : Fr h₀ L s.heap m) (X : (hd.heap_1 w.params).In h₀) (TT : Top p loose mean mg mb h₀) (hA : Fits A 550 5500 env outer L)
  (N : News h₀ L s.heap ((S, instObj 67 D) :: (D, feDict k BUF it ML on dp tp) :: RL)) (hP : ∀ l o, P l o → s.heap.get? l = some o)
  {rem0 : List Value} (st0 : RdSt P lo hi S D BUF it ML RL rem0) (he : rem0 = (.ref t :: r)) (ht : TokF s.heap lo t f)
  (retT : on = true → dp = 0 → f = true → ∀ RL' h' tk', ExtB (S :: D :: RL.map (·.1)) s.heap h' → Fr h₀ L h' m → News h₀ L h' ((S, instObj 67 D) :: (D, feDict k BUF it ML on dp tp) :: RL') → RdSt P lo hi S D BUF it ML RL' (.ref t :: r) → R (.ok (.ret (.none))) {s with heap := h', toks := tk'})
  (retF : ¬ (on = true ∧ dp = 0 ∧ f = true) → ∀ RL' h' tk', ExtB (S :: D :: RL.map (·.1)) s.heap h' → Fr h₀ L h' m → News h₀ L h' ((S, instObj 67 D) :: (D, feDict k BUF it ML on dp tp) :: RL') → RdSt P lo hi S D BUF it ML RL' (.ref t :: r) → R (.ok (.ret (.ref t))) {s with heap := h', toks := tk'}) :
  codeAny (model prog w) A (.call (.ref 49) ⟨[.ref S], []⟩) R s := by
  have hlow := rd_low (k := k) (on := on) (dp := dp) (tp := tp) st0
  obtain ⟨bufs, rb, nb, nm, lb, oI, st, rfl, e2, ord, hb, hlb, stb, hst, hlen⟩ := st0
  refine codeAny_fits hA fun hf hke => ?_
  k_dflt (refine' code_defE ?k1 ?k2 ?k3 ?k4 ?k5 ?kA ?kF ?kK ?k6 ?k7 ?k8 ?k9 ?kB ?_ ?c2 ?c3 ?c4 ?c5; (case kA => exact rfl); (case kF => first | assumption | exact rfl); (case kK => first | assumption | exact rfl); (case k1 => k_asm); (case k2 => k_asm); (case k3 => k_asm); (case k4 => k_asm); (case k5 => k_asm); (case k6 => k_is); (case k7 => k_is); (case k8 => ktr_room); (case k9 => exact BindsTo.of_eq rfl); (case c5 => decide); (case kB => exact locs rfl); (case c2 => exact rfl); (case c3 => exact rfl); (case c4 => exact rfl); k_whole; intro g' L' h' FG' F' N' B' X' T' l1 hk1 hg1 hn1; (try dsimp only); (try k_fold))
  have hP' := low_ext hg1 hlow hP
  have ht' := ht.ext hg1 hlow
  refine wpAny_mono (pk_mid (h₀ := g') (Q := qk) (P := fun l o => P l o ∧ @LT.lt Nat _ l lo) (lo := lo) (hi := hi) (bufs := bufs) (nb := nb) (nm := nm) (rb := rb) (lb := lb) (oI := oI) (st := st) (S := S) (D := D) (BUF := BUF) (ML := ML) (it := it) (k := k) (on := on) (dp := dp) (tp := tp) (by k_asm) (by k_asm) (by k_asm) (by k_asm) hP' rfl ord hb (stb.mono fun o z => ⟨z, hlb⟩) (hst.mono fun l o q z => ⟨z, q⟩) hlen ?_ (by k_asm) ?_) (fun _ _ q => q) (fun _ _ e => e.elim)
  · intro v hv
    rw [← e2, he] at hv
    exact ⟨t, (Option.some.inj hv).symm⟩
  intro m1 h1 tk1 bufs1 nb1 oI1 rb1 st1 hb1 hs1 stb1 hst1 hl1 hr1 hc F1 N1
  rcases hc with ⟨_, e⟩ | ⟨t', rr, ht1, e⟩
  · rw [← e2, he] at e; cases e
  · have e9 := e
    rw [← e2, he] at e
    obtain ⟨e3, e4⟩ := List.cons.inj e
    cases e3
    have hoff : ∀ p ∈ (ML, W.listOf (mls st1).toArray nm) :: (it, oI1) :: stkLed st1, p.1 ≠ BUF := List.forall_mem_cons.mpr ⟨neN (by dsimp only; omega), List.forall_mem_cons.mpr ⟨neN (by dsimp only; omega), fun p hp => by have := hst1.range p hp; exact neN (by omega)⟩⟩
    have hrem : Value.ref t :: r = bufs1.toList ++ (stkRem st1 ++ rb1) := by rw [hr1, ← e2, he]
    refine pk_tail_ref B' F1 X' T' hs1 ht1 N1 ord.2.2.1 ord.2.2.2.1 hoff ht' ?_ ?_
    · intro hon hdp hf nb' m2 h2 tk2 F2 N2
      refine leaveK_ F2 N2 fun kF kN hx => ?_
      exact retT hon hdp hf _ _ _ hx kF kN ⟨bufs1, rb1, nb', nm, lb, oI1, st1, rfl, hrem, ord, hb1, hlb, stb1.mono fun o z => z.1, hst1.mono fun l o _ z => z.1, hl1⟩
    · intro hno nb' m2 h2 tk2 F2 N2
      refine leaveK_ F2 N2 fun kF kN hx => ?_
      exact retF hno _ _ _ hx kF kN ⟨bufs1, rb1, nb', nm, lb, oI1, st1, rfl, hrem, ord, hb1, hlb, stb1.mono fun o z => z.1, hst1.mono fun l o _ z => z.1, hl1⟩
theorem fpeek_nil_st
  (B : Below A₀ base outer h₀) (F : Fr h₀ L s.heap m) (X : (hd.heap_1 w.params).In h₀) (TT : Top p loose mean mg mb h₀) (hA : Fits A 550 5500 env outer L)
  (N : News h₀ L s.heap ((S, instObj 67 D) :: (D, feDict k BUF it ML on dp tp) :: RL)) (hP : ∀ l o, P l o → s.heap.get? l = some o)
  {rem0 : List Value} (st0 : RdSt P lo hi S D BUF it ML RL rem0) (he : rem0 = [])
  (ret : ∀ RL' h' tk', ExtB (S :: D :: RL.map (·.1)) s.heap h' → Fr h₀ L h' m → News h₀ L h' ((S, instObj 67 D) :: (D, feDict k BUF it ML on dp tp) :: RL') → RdSt P lo hi S D BUF it ML RL' [] → R (.ok (.ret (.none))) {s with heap := h', toks := tk'}) :
  codeAny (model prog w) A (.call (.ref 49) ⟨[.ref S], []⟩) R s := by
  have hlow := rd_low (k := k) (on := on) (dp := dp) (tp := tp) st0
  obtain ⟨bufs, rb, nb, nm, lb, oI, st, rfl, e2, ord, hb, hlb, stb, hst, hlen⟩ := st0
  refine codeAny_fits hA fun hf hke => ?_
  k_dflt (refine' code_defE ?k1 ?k2 ?k3 ?k4 ?k5 ?kA ?kF ?kK ?k6 ?k7 ?k8 ?k9 ?kB ?_ ?c2 ?c3 ?c4 ?c5; (case kA => exact rfl); (case kF => first | assumption | exact rfl); (case kK => first | assumption | exact rfl); (case k1 => k_asm); (case k2 => k_asm); (case k3 => k_asm); (case k4 => k_asm); (case k5 => k_asm); (case k6 => k_is); (case k7 => k_is); (case k8 => ktr_room); (case k9 => exact BindsTo.of_eq rfl); (case c5 => decide); (case kB => exact locs rfl); (case c2 => exact rfl); (case c3 => exact rfl); (case c4 => exact rfl); k_whole; intro g' L' h' FG' F' N' B' X' T' l1 hk1 hg1 hn1; (try dsimp only); (try k_fold))
  have hP' := low_ext hg1 hlow hP
  refine wpAny_mono (pk_mid (h₀ := g') (Q := qk) (P := fun l o => P l o ∧ @LT.lt Nat _ l lo) (lo := lo) (hi := hi) (bufs := bufs) (nb := nb) (nm := nm) (rb := rb) (lb := lb) (oI := oI) (st := st) (S := S) (D := D) (BUF := BUF) (ML := ML) (it := it) (k := k) (on := on) (dp := dp) (tp := tp) (by k_asm) (by k_asm) (by k_asm) (by k_asm) hP' rfl ord hb (stb.mono fun o z => ⟨z, hlb⟩) (hst.mono fun l o q z => ⟨z, q⟩) hlen ?_ (by k_asm) ?_) (fun _ _ q => q) (fun _ _ e => e.elim)
  · intro v hv
    rw [← e2, he] at hv
    cases hv
  intro m1 h1 tk1 bufs1 nb1 oI1 rb1 st1 hb1 hs1 stb1 hst1 hl1 hr1 hc F1 N1
  rcases hc with ⟨ht1, e⟩ | ⟨t', rr, ht1, e⟩
  · have hoff : ∀ p ∈ (ML, W.listOf (mls st1).toArray nm) :: (it, oI1) :: stkLed st1, p.1 ≠ BUF := List.forall_mem_cons.mpr ⟨neN (by dsimp only; omega), List.forall_mem_cons.mpr ⟨neN (by dsimp only; omega), fun p hp => by have := hst1.range p hp; exact neN (by omega)⟩⟩
    have hrem : [] = bufs1.toList ++ (stkRem st1 ++ rb1) := by rw [hr1, ← e2, he]
    refine pk_tail_none B' F1 X' T' hs1 ht1 N1 ord.2.2.1 ord.2.2.2.1 hoff ?_
    intro m2 h2 tk2 F2 N2
    refine leaveK_ F2 N2 fun kF kN hx => ?_
    exact ret _ _ _ hx kF kN ⟨bufs1, rb1, nb1, nm, lb, oI1, st1, rfl, hrem, ord, hb1, hlb, stb1.mono fun o z => z.1, hst1.mono fun l o _ z => z.1, hl1⟩
  · rw [← e2, he] at e; cases e
end

end

section
set_option linter.unusedVariables false
set_option linter.unusedSimpArgs false
variable {w : World} {p : Program} {loose : List Str} {mean : ExcName → Option Value} {mg mb : Str → Option Value}


local macro_rules | `(tactic| walk_at "call ref") => `(tactic| (k_here; (with_reducible show wpAny _ _ (call (Value.ref 266) [Value.ref _, Value.int _ _]) _ _ _); k_dflt (refine wpAny_call ?_; refine' number_at ?_ ?_ ?_ ?_ ?_ ?N ?U ?r ?o ?i ?l ?k ?k2 ?s ?s2 ?_; walk_at "kstd"; (case N => k_asm); (case U => k_updF); (case o => k_asm); (case r => k_mem); (case i => k_asm); (case l => k_asm); (case k => omega); (case k2 => omega); (case s => omega); (case s2 => omega); k_whole; intro j' t' tq' o' h' tk' j0' j1' x' F' N' ho'; (try dsimp only at N'); (try dsimp only))))


structure TD where
  (val sp : Str) (f : Bool) (row col : Int)
def TD.Ok (D : TD) : Prop := PyData.strOk D.val = true ∧ PyData.strOk D.sp = true
abbrev tokObj (d l : Addr) (v : Str) (k1 k2 : Tok) : Obj := { cls := .ref 248, dict := some d, slots := #[some (.ref l), some (.str (Str.ofString "ID") k1), some (.str v k2)] }
abbrev locObj (dl : Addr) (row col : Int) (k1 k2 k3 k4 : Tok) : Obj := { cls := .ref 200, dict := some dl, slots := #[some (.int col k1), some (.str (Str.ofString "t.c") k2), some (.int 1 k3), some (.int row k4), some .none] }
/-- a token and all that hangs on it -/
inductive TokP (P : Addr → Obj → Prop) (x : Addr) (D : TD) : Prop
  | mk (d l dl : Addr) (h1 h2 : Int) (k1 k2 k3 k4 k5 k6 k7 k8 k9 : Tok) (h : P x (tokObj d l D.val k1 k2) ∧ P d (tokDict h1 h2 k3 k4 k5 D.sp D.f) ∧ P l (locObj dl D.row D.col k6 k7 k8 k9) ∧ P dl (dictOf [] 0))
theorem TokP.mono {P P' : Addr → Obj → Prop} {x : Addr} {D : TD} (c : TokP P x D) (h : ∀ a o, P a o → P' a o) : TokP P' x D := by
  obtain ⟨d, l, dl, h1, h2, k1, k2, k3, k4, k5, k6, k7, k8, k9, a, b, c, e⟩ := c
  exact ⟨d, l, dl, h1, h2, k1, k2, k3, k4, k5, k6, k7, k8, k9, h _ _ a, h _ _ b, h _ _ c, h _ _ e⟩
abbrev InL (l : List (Addr × Obj)) : Addr → Obj → Prop := fun a o => (a, o) ∈ l
theorem strOk_ofString (x : String) : PyData.strOk (Str.ofString x) = true := by
  unfold PyData.strOk
  rw [Str.ofString_eq_toList]
  simp only [List.all_toArray, List.all_map, List.all_eq_true]
  intro c _
  have := c.valid
  simp only [Function.comp, decide_eq_true_eq]
  unfold UInt32.isValidChar Nat.isValidChar at this
  show c.val.toNat < 0x110000
  omega
theorem strOk_append {x y : Str} (hx : PyData.strOk x = true) (hy : PyData.strOk y = true) : PyData.strOk (x ++ y) = true := by
  unfold PyData.strOk at *
  show Array.all (x.cps ++ y.cps) _ = true
  rw [Array.all_append, hx, hy]; rfl
theorem strOk_space {i : Int} : PyData.strOk (Txt.mul (Str.ofString " ") (i.fmod 2)) = true := by
  have h0 := Int.fmod_nonneg_of_pos i (b := 2) (by decide)
  have h1 := Int.fmod_lt_of_pos i (b := 2) (by decide)
  generalize i.fmod 2 = j at *
  have : j = 0 ∨ j = 1 := by omega
  rcases this with rfl | rfl <;> decide +kernel
section
variable {gd : Option (List Code)} {A₀ : Around} {outer : List Env} {base h₀ : Heap} {L : Addr} {m : Str → Option Value} {s : Shared} {Q : Flow → Shared → Prop} {E : Value → Shared → Prop}
  {T r bl : Addr} {o : Obj} {its : List Value} {row : Array Value} {ns : List Int} {rn n nb : Nat} {k i : Int} {t3 ti tn : Tok} {rest : List (Addr × Obj)} {nm : Str}

theorem row_turn
  (B : Below A₀ base outer h₀) (F : Fr h₀ L s.heap m) (X : (hd.heap_1 w.params).In h₀) (TT : Top p loose mean mg mb h₀) (hm1 : m (Str.ofString "tape") = some (.ref T)) (hm2 : m (Str.ofString "name") = some (.str nm tn)) (hm3 : m (Str.ofString "at") = some (.int i ti)) (hm4 : m (Str.ofString "row") = some (.ref bl))
  (N : News h₀ L s.heap ((T, o) :: (r, W.listOf its.toArray rn) :: (bl, W.listOf row nb) :: rest)) (ho : TapeIs prog w o r k t3)
  (hi : IntsAre its ns) (hlen : ns.length ≤ 40) (hk : 0 ≤ k) (hk2 : k < 900) (hi0 : 0 ≤ i) (hi1 : i < 8) (hrow : row.size ≤ 8) (hnm : nm.length ≤ 10) (hok : PyData.strOk nm = true)
  (hr1 : ∀ p ∈ rest, p.1 ≠ T) (hr2 : ∀ p ∈ rest, p.1 ≠ bl) (c1 : @LT.lt Nat _ T bl) (c2 : @LT.lt Nat _ r bl) (c3 : @Ne Nat T r)
  (ret : ∀ (x : Addr) (D : TD) (new : List (Addr × Obj)) (lowb : Addr) (o' : Obj) (t' : Tok) (fv : Value) (h' : Heap) (tk' : Nat), TokP (InL new) x D → D.Ok → (T < lowb ∧ r < lowb ∧ bl < lowb ∧ AllLt lowb rest) → (∀ p ∈ new, @LE.le Nat _ lowb p.1) →
    Fr h₀ L h' (fun y => if y = Str.ofString "first" then some fv else m y) → News h₀ L h' ((T, o') :: (r, W.listOf its.toArray rn) :: (bl, W.listOf (row.push (.ref x)) (nb + 1)) :: (new ++ rest)) → TapeIs prog w o' r (k + 1) t' → Q .next {s with heap := h', toks := tk'}) :
  wpAny (model prog w) (Lv 451 4503 gd (envOf (Str.ofString "_law_row") rowScope L 273 (.ref 272)) outer) (execs rowBody (envOf (Str.ofString "_law_row") rowScope L 273 (.ref 272))) Q E s := by
  show wpAny _ _ (execs (_ :: _ :: []) _) _ _ _
  k_steps
  all_goals (try k_data)
  refine' ret ?x ⟨?v, ?sp, ?f, ?row, ?col⟩ [(?x, tokObj ?d ?l ?v ?k1 ?k2), (?d, tokDict ?h1 ?h2 ?k3 ?k4 ?k5 ?sp ?f), (?l, locObj ?dl ?row ?col ?k6 ?k7 ?k8 ?k9), (?dl, dictOf [] 0)] ?dl ?o ?t ?fv ?h ?tk ?tp ?ok ?off1 ?off2 ?F ?N ?ho
  (case F => k_asm)
  (case N => refine News.sub (by k_asm) ?_; (repeat (first | exact List.forall_mem_nil _ | refine List.forall_mem_cons.mpr ⟨by k_mem, ?_⟩ | (intro p hp; repeat (first | exact hp | refine List.mem_cons_of_mem _ ?_)))))
  (case ho => k_asm)
  (case tp => exact ⟨_, _, _, _, _, _, _, _, _, _, _, _, _, _, .head _, .tail _ (.head _), .tail _ (.tail _ (.head _)), .tail _ (.tail _ (.tail _ (.head _)))⟩)
  (case off1 => k_asm)
  (case off2 => repeat (first | exact List.forall_mem_nil _ | refine List.forall_mem_cons.mpr ⟨by (try dsimp only); omega, ?_⟩))
  exact ⟨strOk_append hok (strOk_ofString _), strOk_space⟩
end




section
variable {gd : Option (List Code)} {A₀ : Around} {outer : List Env} {base h₀ : Heap} {L : Addr} {m : Str → Option Value} {s : Shared} {Q : Value → Shared → Prop} {E : Value → Shared → Prop}
  {i : Int} {ti : Tok} {news : List (Addr × Obj)}
theorem row_range
  (B : Below A₀ base outer h₀) (F : Fr h₀ L s.heap m) (X : (hd.heap_1 w.params).In h₀) (TT : Top p loose mean mg mb h₀) (hm1 : m (Str.ofString "size") = some (.int i ti))
  (N : News h₀ L s.heap news) (hi0 : 0 ≤ i) (hi1 : i < 100)
  (ret : ∀ R t u v h' tk', IsRange h' R 0 i 1 t u v → Fr h₀ L h' m → News h₀ L h' news → Q (.ref R) {s with heap := h', toks := tk'}) :
  wpAny (model prog w) (Lv 451 4503 gd (envOf (Str.ofString "_law_row") rowScope L 273 (.ref 272)) outer) (eval rowIter (envOf (Str.ofString "_law_row") rowScope L 273 (.ref 272))) Q E s := by
  show wpAny _ _ (eval (.Call _ _ _ _) _) _ _ _
  k_steps
  all_goals (try k_data)
  all_goals (exact ret _ _ _ _ _ _ (by k_asm) (by k_asm) (by k_asm))
end
/-- a row: its list and its tokens -/
def RowP (P : Addr → Obj → Prop) (bl : Addr) (nb : Nat) (toks : List (Addr × TD)) : Prop :=
  P bl (W.listOf (toks.map fun p => Value.ref p.1).toArray nb) ∧ ∀ p ∈ toks, TokP P p.1 p.2 ∧ p.2.Ok
theorem RowP.mono {P P' : Addr → Obj → Prop} {bl : Addr} {nb : Nat} {toks : List (Addr × TD)} (c : RowP P bl nb toks) (h : ∀ a o, P a o → P' a o) : RowP P' bl nb toks :=
  ⟨h _ _ c.1, fun p hp => ⟨(c.2 p hp).1.mono h, (c.2 p hp).2⟩⟩
def rowTail : List Stmt := (topAt 14).1.drop 1
section
variable {gd : Option (List Code)} {A A₀ : Around} {env : Env} {outer : List Env} {base h₀ : Heap} {L : Addr} {m : Str → Option Value} {s : Shared} {R : Result → Shared → Prop}
  {T r : Addr} {o : Obj} {its : List Value} {ns : List Int} {rn : Nat} {k n : Int} {t3 tn tm : Tok} {nm : Str}

/-- between the turns of _law_row -/
inductive RowJ (w : World) (T r bl : Addr) (its : List Value) (rn : Nat) (k : Int) (nm : Str) (tm : Tok) (i : Nat) (m : Str → Option Value) (news : List (Addr × Obj)) : Prop
  | mk (o : Obj) (t3 : Tok) (toks : List (Addr × TD)) (nb : Nat) (rest : List (Addr × Obj)) (h : m (Str.ofString "tape") = some (.ref T) ∧ m (Str.ofString "name") = some (.str nm tm) ∧ m (Str.ofString "row") = some (.ref bl) ∧
    news = (T, o) :: (r, W.listOf its.toArray rn) :: (bl, W.listOf (toks.map fun p => Value.ref p.1).toArray nb) :: rest ∧ toks.length = i ∧ (∀ p ∈ toks, TokP (InL rest) p.1 p.2 ∧ p.2.Ok) ∧ TapeIs prog w o r (k + i) t3 ∧
    (∀ p ∈ rest, p.1 ≠ T) ∧ (∀ p ∈ rest, p.1 ≠ r) ∧ (∀ p ∈ rest, p.1 ≠ bl))
theorem row_tail {A₀ : Around} {gd : Option (List Code)} {Q : Flow → Shared → Prop} {bl : Addr} {ts : Tok}
  (B : Below A₀ base outer h₀) (F : Fr h₀ L s.heap m) (X : (hd.heap_1 w.params).In h₀) (TT : Top p loose mean mg mb h₀) (hm1 : m (Str.ofString "tape") = some (.ref T)) (hm2 : m (Str.ofString "name") = some (.str nm tm)) (hm3 : m (Str.ofString "size") = some (.int n ts)) (hm4 : m (Str.ofString "row") = some (.ref bl))
  (N : News h₀ L s.heap [(bl, W.listOf #[] 0), (T, o), (r, W.listOf its.toArray rn)]) (ho : TapeIs prog w o r k t3) (hTr : @Ne Nat T r) (c1 : @LT.lt Nat _ T bl) (c2 : @LT.lt Nat _ r bl)
  (hi : IntsAre its ns) (hlen : ns.length ≤ 40) (hk : 0 ≤ k) (hk2 : k < 800) (hn : 0 ≤ n) (hn2 : n ≤ 8) (hnm : nm.length ≤ 10) (hok : PyData.strOk nm = true)
  (ret : ∀ m' h' tk' news', RowJ w T r bl its rn k nm tm n.toNat m' news' → Fr h₀ L h' m' → News h₀ L h' news' → Q (.ret (.ref bl)) {s with heap := h', toks := tk'}) :
  wpAny (model prog w) (Lv 451 4503 gd (envOf (Str.ofString "_law_row") rowScope L 273 (.ref 272)) outer) (execs rowTail (envOf (Str.ofString "_law_row") rowScope L 273 (.ref 272))) Q (fun _ _ => False) s := by
  show wpAny _ _ (execs (_ :: _ :: []) _) _ _ _
  refine wpAny_execs_cons ?_
  show wpAny _ _ (exec (.For (.Name _ _) rowIter rowBody [] _) _) _ _ _
  refine wpAny_For (row_range B F X TT hm3 N hn (by omega) fun R t u v h' tk' hR F' N' => ?_)
  have N2 : News h₀ L h' [(T, o), (r, W.listOf its.toArray rn), (bl, W.listOf #[] 0)] := News.sub N' (by (repeat (first | exact List.forall_mem_nil _ | refine List.forall_mem_cons.mpr ⟨by k_mem, ?_⟩ | (intro p hp; repeat (first | exact hp | refine List.mem_cons_of_mem _ ?_)))))
  refine forRange_FN (RowJ w T r bl its rn k nm tm) rfl rfl rfl hR hn (by omega) F' N2 ?_ ?_ ?_
  · exact ⟨o, t3, [], 0, [], hm1, hm2, hm4, rfl, rfl, (fun _ h => nomatch h), (by simpa using ho), (fun _ h => nomatch h), (fun _ h => nomatch h), (fun _ h => nomatch h)⟩
  · rintro i tk m₁ news₁ h tk1 I oI hlt ⟨o1, t1, toks, nb, rest, e1, e2, e3, rfl, hle, htok, hto, q1, q2, q3⟩ hoff F1 N1
    have hIT : I ≠ T := fun e => hoff _ (.head _) e.symm
    have hIb : I ≠ bl := fun e => hoff _ (.tail _ (.tail _ (.head _))) e.symm
    have hIr : I ≠ r := fun e => hoff _ (.tail _ (.head _)) e.symm
    refine row_turn (o := o1) (its := its) (rn := rn) (row := (toks.map fun p => Value.ref p.1).toArray) (nb := nb) (r := r) (T := T) (bl := bl) (rest := (I, oI) :: rest) (k := k + i) (nm := nm) (i := i) B F1 X TT e1 e2 rfl e3 (News.sub N1 fun p hp => by simp only [List.mem_cons] at hp ⊢; rcases hp with h | h | h | h | h <;> simp only [h, true_or, or_true]) hto hi hlen (by omega) (by omega) (by omega) (by omega) (by simp; omega) hnm hok
      (List.forall_mem_cons.mpr ⟨hIT, q1⟩) (List.forall_mem_cons.mpr ⟨hIb, q3⟩) c1 c2 hTr ?_
    intro x D new lowb o' t' fv h2 tk2 hx hD hl hge F2 N2 ho2
    have hl4 : @LT.lt Nat _ I lowb ∧ AllLt lowb rest := hl.2.2.2
    have hlr := allLt_all hl4.2
    refine ⟨rfl, h2, tk2, _, (T, o') :: (r, W.listOf its.toArray rn) :: (bl, W.listOf ((toks.map fun p => Value.ref p.1).toArray.push (.ref x)) (nb + 1)) :: (new ++ rest), rfl, F2,
      News.sub N2 (fun p hp => by simp only [List.mem_cons, List.mem_append] at hp ⊢; rcases hp with h | h | h | h | h | h <;> simp only [h, true_or, or_true]), ?_,
      ⟨o', t', toks ++ [(x, D)], nb + 1, new ++ rest, e1, e2, e3, by simp, by simp [hle], ?_, ?_, ?_, ?_, ?_⟩⟩
    · intro p hp e
      simp only [List.mem_cons, List.mem_append] at hp
      rcases hp with h | h | h | h | h
      · rw [h] at e; exact hIT e.symm
      · rw [h] at e; exact hIr e.symm
      · rw [h] at e; exact hIb e.symm
      · have z := hge p h; rw [e] at z; exact Nat.lt_irrefl _ (Nat.lt_of_lt_of_le hl4.1 z)
      · exact hoff p (.tail _ (.tail _ (.tail _ h))) e
    · intro p hp
      rcases List.mem_append.mp hp with h | h
      · exact ⟨(htok p h).1.mono fun a o h => List.mem_append_right _ h, (htok p h).2⟩
      · rw [List.mem_singleton.mp h]; exact ⟨hx.mono fun a o h => List.mem_append_left _ h, hD⟩
    · have e : k + ((i + 1 : Nat) : Int) = k + i + 1 := by omega
      rw [e]; exact ho2
    all_goals
      intro p hp e
      rcases List.mem_append.mp hp with h | h
      · have z := hge p h
        rw [e] at z
        first | exact Nat.lt_irrefl _ (Nat.lt_of_lt_of_le hl.1 z) | exact Nat.lt_irrefl _ (Nat.lt_of_lt_of_le hl.2.1 z) | exact Nat.lt_irrefl _ (Nat.lt_of_lt_of_le hl.2.2.1 z)
      · first | exact q1 p h e | exact q2 p h e | exact q3 p h e
  · intro m₁ news₁ h tk hJ F1 N1
    have hJ1 := hJ
    obtain ⟨_, _, _, _, _, _, _, e3, _⟩ := hJ1
    dsimp only
    (k_steps; all_goals (try k_data))
    all_goals (exact ret _ _ _ _ hJ (by k_asm) (by k_asm))
theorem row_spec
  (B : Below A₀ base outer h₀) (F : Fr h₀ L s.heap m) (X : (hd.heap_1 w.params).In h₀) (TT : Top p loose mean mg mb h₀) (hA : Fits A 450 4500 env outer L)
  (N : News h₀ L s.heap [(T, o), (r, W.listOf its.toArray rn)]) (ho : TapeIs prog w o r k t3) (hTr : @Ne Nat T r)
  (hi : IntsAre its ns) (hlen : ns.length ≤ 40) (hk : 0 ≤ k) (hk2 : k < 800) (hn : 0 ≤ n) (hn2 : n ≤ 8) (hnm : nm.length ≤ 10) (hok : PyData.strOk nm = true)
  (ret : ∀ bl nb toks RW o' k' t' h' tk', k ≤ k' → k' ≤ k + 8 → (toks.length : Int) = n → RowP (InL RW) bl nb toks → (∀ p ∈ RW, s.heap.get? p.1 = none) → ExtB [T, r] s.heap h' → Fr h₀ L h' m → News h₀ L h' ((T, o') :: (r, W.listOf its.toArray rn) :: RW) →
    TapeIs prog w o' r k' t' → R (.ok (.ret (.ref bl))) {s with heap := h', toks := tk'}) :
  codeAny (model prog w) A (.call (.ref 273) ⟨[.ref T, .int n tn, .str nm tm], []⟩) R s := by
  refine codeAny_fits hA fun hf hke => ?_
  k_dflt (refine' code_defE ?k1 ?k2 ?k3 ?k4 ?k5 ?kA ?kF ?kK ?k6 ?k7 ?k8 ?k9 ?kB ?_ ?c2 ?c3 ?c4 ?c5; (case kA => exact rfl); (case kF => first | assumption | exact rfl); (case kK => first | assumption | exact rfl); (case k1 => k_asm); (case k2 => k_asm); (case k3 => k_asm); (case k4 => k_asm); (case k5 => k_asm); (case k6 => k_is); (case k7 => k_is); (case k8 => ktr_room); (case k9 => exact BindsTo.of_eq rfl); (case c5 => decide); (case kB => exact locs rfl); (case c2 => exact rfl); (case c3 => exact rfl); (case c4 => exact rfl); k_whole; intro g' L' h' FG' F' N' B' X' T' l1 hk1 hg1 hn1; (try dsimp only); (try k_fold))
  show wpAny _ _ (execs (_ :: rowTail) _) _ _ _
  generalize htl : rowTail = tl
  k_steps
  all_goals (try k_data)
  all_goals (try dsimp only)
  subst htl
  refine wpAny_mono (row_tail (h₀ := g') (Q := qk) (bl := _) (n := n) (nm := nm) (k := k) (t3 := t3) (T := T) (r := r) (o := o) (its := its) (rn := rn) (by k_asm) (by k_asm) (by k_asm) (by k_asm) rfl rfl rfl rfl (by k_asm) ho hTr (by omega) (by omega) hi hlen hk hk2 hn hn2 hnm hok ?_) (fun _ _ q => q) (fun _ _ e => e.elim)
  intro m8 h8 tk8 news8 hJ F8 N8
  refine leaveK_ F8 N8 fun kF kN hx => ?_
  obtain ⟨o', t', toks, nb, rest, _, _, _, rfl, hle, htok, hto, q1, q2, q3⟩ := hJ
  refine ret _ nb toks ((_, W.listOf (toks.map fun p => Value.ref p.1).toArray nb) :: rest) o' (k + n.toNat) t' _ _ (by omega) (by omega) (by omega) ⟨.head _, fun p hp => ⟨(htok p hp).1.mono fun a o h => .tail _ h, (htok p hp).2⟩⟩ ?_ hx kF kN hto
  intro p hp
  have z := (N8 p (.tail _ (.tail _ hp))).2.2
  rcases hn1 _ z with h | h
  · exfalso
    simp only [List.map_cons, List.map_nil, List.mem_cons, List.not_mem_nil, or_false] at h
    rcases List.mem_cons.mp hp with e | e
    · rw [e] at h
      rcases h with h | h
      · exact (show @Ne Nat _ _ by omega) h
      · exact (show @Ne Nat _ _ by omega) h
    · exact h.elim (q1 p e) (q2 p e)
  · exact h
end

end

section
set_option linter.unusedVariables false
set_option linter.unusedSimpArgs false
variable {w : World} {p : Program} {loose : List Str} {mean : ExcName → Option Value} {mg mb : Str → Option Value}


section
variable {gd : Option (List Code)} {A A₀ : Around} {env : Env} {outer : List Env} {base h₀ : Heap} {L : Addr} {m : Str → Option Value} {s : Shared} {R : Result → Shared → Prop}
  {x : Addr} {D : TD} {news : List (Addr × Obj)}
abbrev toldObj (D : TD) (k1 k2 k3 k4 k5 : Tok) : Obj := { cls := .type "tuple", data := .seq #[.str (Str.ofString "ID") k1, .str D.val k2, .str D.sp k3, .bool D.f, .int D.row k4, .int D.col k5] }
theorem told_none
  (B : Below A₀ base outer h₀) (F : Fr h₀ L s.heap m) (X : (hd.heap_1 w.params).In h₀) (TT : Top p loose mean mg mb h₀) (hA : Fits A 600 6000 env outer L) (N : News h₀ L s.heap news)
  (ret : ∀ h' tk', ExtB [] s.heap h' → Fr h₀ L h' m → News h₀ L h' news → R (.ok (.ret .none)) {s with heap := h', toks := tk'}) :
  codeAny (model prog w) A (.call (.ref 287) ⟨[.none], []⟩) R s := by
  have N1 := N
  clear N
  have N0 : News h₀ L s.heap [] := News.nil
  refine codeAny_fits hA fun hf hke => ?_
  k_dflt (refine' code_defE ?k1 ?k2 ?k3 ?k4 ?k5 ?kA ?kF ?kK ?k6 ?k7 ?k8 ?k9 ?kB ?_ ?c2 ?c3 ?c4 ?c5; (case kA => exact rfl); (case kF => first | assumption | exact rfl); (case kK => first | assumption | exact rfl); (case k1 => k_asm); (case k2 => k_asm); (case k3 => k_asm); (case k4 => k_asm); (case k5 => k_asm); (case k6 => k_is); (case k7 => k_is); (case k8 => ktr_room); (case k9 => exact BindsTo.of_eq rfl); (case c5 => decide); (case kB => exact locs rfl); (case c2 => exact rfl); (case c3 => exact rfl); (case c4 => exact rfl); k_whole; intro g' L' h' FG' F' N' B' X' T' l1 hk1 hg1 hn1; (try dsimp only); (try k_fold))
  k_steps
  all_goals (try k_data)
  all_goals (exact ret _ _ (by k_asm) (by k_asm) (News.ext N1 (as := []) (by k_asm) (by simp)))
theorem told_tok
  (B : Below A₀ base outer h₀) (F : Fr h₀ L s.heap m) (X : (hd.heap_1 w.params).In h₀) (TT : Top p loose mean mg mb h₀) (hA : Fits A 600 6000 env outer L) (N : News h₀ L s.heap news) (hT : TokP (InL news) x D)
  (ret : ∀ u k1 k2 k3 k4 k5 h' tk', (∀ q ∈ news, q.1 ≠ u) → ExtB [] s.heap h' → Fr h₀ L h' m → News h₀ L h' ((u, toldObj D k1 k2 k3 k4 k5) :: news) → R (.ok (.ret (.ref u))) {s with heap := h', toks := tk'}) :
  codeAny (model prog w) A (.call (.ref 287) ⟨[.ref x], []⟩) R s := by
  have N1 := N
  clear N
  have N0 : News h₀ L s.heap [] := News.nil
  refine codeAny_fits hA fun hf hke => ?_
  k_dflt (refine' code_defE ?k1 ?k2 ?k3 ?k4 ?k5 ?kA ?kF ?kK ?k6 ?k7 ?k8 ?k9 ?kB ?_ ?c2 ?c3 ?c4 ?c5; (case kA => exact rfl); (case kF => first | assumption | exact rfl); (case kK => first | assumption | exact rfl); (case k1 => k_asm); (case k2 => k_asm); (case k3 => k_asm); (case k4 => k_asm); (case k5 => k_asm); (case k6 => k_is); (case k7 => k_is); (case k8 => ktr_room); (case k9 => exact BindsTo.of_eq rfl); (case c5 => decide); (case kB => exact locs rfl); (case c2 => exact rfl); (case c3 => exact rfl); (case c4 => exact rfl); k_whole; intro g' L' h' FG' F' N' B' X' T' l1 hk1 hg1 hn1; (try dsimp only); (try k_fold))
  obtain ⟨d, l, dl, h1, h2, k1, k2, k3, k4, k5, k6, k7, k8, k9, a1, a2, a3, a4⟩ := hT
  have I1 : InstAt g' x (tokObj d l D.val k1 k2) 248 (some (tokDict h1 h2 k3 k4 k5 D.sp D.f)) := ⟨hg1 _ _ (N1 _ a1).1 (by simp), rfl, rfl, hg1 _ _ (N1 _ a2).1 (by simp)⟩
  have I2 : InstAt g' l (locObj dl D.row D.col k6 k7 k8 k9) 200 (some (dictOf [] 0)) := ⟨hg1 _ _ (N1 _ a3).1 (by simp), rfl, rfl, hg1 _ _ (N1 _ a4).1 (by simp)⟩
  k_steps
  all_goals (try k_data)
  refine' ret ?u ?k1 ?k2 ?k3 ?k4 ?k5 ?h ?t ?ne ?x ?F ?N
  (case F => k_asm)
  (case x => k_asm)
  (case N => exact News.after (as := []) (small' := [(_, toldObj D _ _ _ _ _)]) N1 (by k_asm) (by simp) (by k_asm))
  (case ne => 
    intro q hq e
    have hu := News.fresh (h₀ := g') (L := L') (news := [(_, toldObj D _ _ _ _ _)]) (by k_asm) (.head _)
    rw [← e, hg1 _ _ (N1 _ hq).1 (by simp)] at hu
    cases hu)
end

end

section
set_option linter.unusedVariables false
set_option linter.unusedSimpArgs false
variable {w : World} {p : Program} {loose : List Str} {mean : ExcName → Option Value} {mg mb : Str → Option Value}


section
variable {gd : Option (List Code)} {A₀ : Around} {outer : List Env} {base h₀ : Heap} {L fa : Addr} {cd : Value} {m : Str → Option Value} {s : Shared} {Q : Flow → Shared → Prop} {E : Value → Shared → Prop}
  {a : Addr} {vs : List Value} {ns : List Int}
abbrev lawEnv (L fa : Addr) (cd : Value) : Env := envOf (Str.ofString "law") lawScope L fa cd
abbrev lawA (gd : Option (List Code)) (L fa : Addr) (cd : Value) (outer : List Env) : Around := Lv 400 4000 gd (lawEnv L fa cd) outer
theorem law_s0
  (B : Below A₀ base outer h₀) (F : Fr h₀ L s.heap m) (X : (hd.heap_1 w.params).In h₀) (TT : Top p loose mean mg mb h₀) (hm1 : m (Str.ofString "script") = some (.ref a)) (hl : h₀.IsList a vs.toArray) (hi : IntsAre vs ns) (hlen : ns.length ≤ 63)
  (N : News h₀ L s.heap [])
  (ret : ∀ T r o its ns' rn t3 h' tk', @LT.lt Nat _ T r → Fr h₀ L h' (fun y => if y = Str.ofString "tape" then some (.ref T) else m y) → News h₀ L h' [(T, o), (r, W.listOf (its : List Value).toArray rn)] → TapeIs prog w o r 0 t3 → IntsAre its ns' → ns'.length ≤ 40 → Q .next {s with heap := h', toks := tk'}) :
  wpAny (model prog w) (lawA gd L fa cd outer) (execs (lawAt 0) (lawEnv L fa cd)) Q E s := by
  show wpAny _ _ (execs (_ :: []) _) _ _ _
  k_steps
  all_goals (try k_data)
  refine' ret ?T ?r ?o ?its ?ns ?rn ?t3 ?h ?tk ?lt ?F ?N ?ho ?hi ?hl
  (case F => k_asm)
  (case ho => k_asm)
  (case N => refine News.sub (by k_asm) ?_; (repeat (first | exact List.forall_mem_nil _ | refine List.forall_mem_cons.mpr ⟨by k_mem, ?_⟩ | (intro p hp; repeat (first | exact hp | refine List.mem_cons_of_mem _ ?_)))))
  (case lt => omega)
  (case hi => k_asm)
  (case hl => rw [List.length_take]; omega)
end

end

section
set_option linter.unusedVariables false
set_option linter.unusedSimpArgs false
variable {w : World} {p : Program} {loose : List Str} {mean : ExcName → Option Value} {mg mb : Str → Option Value}


local macro_rules | `(tactic| walk_at "call ref") => `(tactic| (k_here; (with_reducible show wpAny _ _ (call (Value.ref 266) [Value.ref _, Value.int _ _]) _ _ _); k_dflt (refine wpAny_call ?_; refine' number_at ?_ ?_ ?_ ?_ ?_ ?N ?U ?r ?o ?i ?l ?k ?k2 ?s ?s2 ?_; walk_at "kstd"; (case N => k_asm); (case U => k_updF); (case o => k_asm); (case r => k_mem); (case i => k_asm); (case l => k_asm); (case k => omega); (case k2 => omega); (case s => omega); (case s2 => omega); k_whole; intro j' t' tq' o' h' tk' j0' j1' x' F' N' ho'; (try dsimp only at N'); (try dsimp only))))

section
variable {gd : Option (List Code)} {A A₀ : Around} {env : Env} {outer : List Env} {base h₀ : Heap} {L : Addr} {m : Str → Option Value} {s : Shared} {R : Result → Shared → Prop}
  {T r : Addr} {o : Obj} {its : List Value} {ns : List Int} {rn : Nat} {k n : Int} {t3 tn tm : Tok} {nm : Str} {rest rest0 : List (Addr × Obj)} {g2 : List (Addr × Obj) → List (Addr × Obj)}
theorem tape_ne (N : News h₀ L s.heap ((T, o) :: (r, W.listOf its.toArray rn) :: rest)) (ho : TapeIs prog w o r k t3) : T ≠ r := fun e => by
  obtain ⟨es, ep, _, hd, _⟩ := ho
  have := (N _ (.head _)).1.symm.trans (e ▸ (N _ (.tail _ (.head _))).1)
  injection this with this
  simp only at this
  rw [this] at hd; cases hd
theorem row_law
  (B : Below A₀ base outer h₀) (F : Fr h₀ L s.heap m) (X : (hd.heap_1 w.params).In h₀) (TT : Top p loose mean mg mb h₀) (hA : Fits A 450 4500 env outer L) (mk : TailMark rest0) (V : EndIs rest0 rest g2)
  (N : News h₀ L s.heap ((T, o) :: (r, W.listOf its.toArray rn) :: rest)) (hT : ∀ p ∈ rest, p.1 ≠ T) (ho : TapeIs prog w o r k t3)
  (hi : IntsAre its ns) (hlen : ns.length ≤ 40) (hk : 0 ≤ k) (hk2 : k < 800) (hn : 0 ≤ n) (hn2 : n ≤ 8) (hnm : nm.length ≤ 10) (hok : PyData.strOk nm = true)
  (ret : ∀ bl nb toks RW o' k' t' h' tk', k ≤ k' → k' ≤ k + 8 → (toks.length : Int) = n → RowP (InL RW) bl nb toks → OffNew ((T, o) :: (r, W.listOf its.toArray rn) :: rest) RW → Fr h₀ L h' m →
    News h₀ L h' ((T, o') :: (r, W.listOf its.toArray rn) :: g2 (RW ++ rest0)) → TapeIs prog w o' r k' t' → R (.ok (.ret (.ref bl))) {s with heap := h', toks := tk'}) :
  codeAny (model prog w) A (.call (.ref 273) ⟨[.ref T, .int n tn, .str nm tm], []⟩) R s := by
  have hne := tape_ne N ho
  refine row_spec B F X TT hA (News.sub N (List.forall_mem_cons.mpr ⟨.head _, List.forall_mem_cons.mpr ⟨.tail _ (.head _), List.forall_mem_nil _⟩⟩)) ho hne hi hlen hk hk2 hn hn2 hnm hok ?_
  intro bl nb toks RW o' k' t' h' tk' q1 q2 q3 q4 q5 x F' N' ho'
  refine ret bl nb toks RW o' k' t' h' tk' q1 q2 q3 q4 (fun q hq p hp e => ?_) F' ?_ ho'
  · have := q5 p hp
    rw [e, (N q hq).1] at this
    cases this
  · intro p hp
    rcases List.mem_cons.mp hp with h | hp
    · rw [h]; exact N' _ (.head _)
    rcases List.mem_cons.mp hp with h | hp
    · rw [h]; exact N' _ (.tail _ (.head _))
    rcases V.mem RW p hp with h | h
    · exact N' p (.tail _ (.tail _ h))
    · have hp' := N p (.tail _ (.tail _ h))
      refine ⟨?_, hp'.2⟩
      by_cases e : p.1 = r
      · have z := (N _ (.tail _ (.head _))).1
        have z2 := (N' _ (.tail _ (.head _))).1
        rw [e]
        have y := hp'.1
        rw [e] at y
        have : p.2 = W.listOf its.toArray rn := Option.some.inj (y.symm.trans z)
        rw [this]; exact z2
      · exact x _ _ hp'.1 (by simp [hT p h, e])
end
local macro_rules | `(tactic| walk_at "call ref") => `(tactic| (k_here; (with_reducible show wpAny _ _ (call (Value.ref 273) [Value.ref _, Value.int _ _, Value.str _ _]) _ _ _); k_dflt (refine wpAny_call ?_; refine' row_law ?_ ?_ ?_ ?_ ?_ ?mk ?V ?N ?oT ?o ?i ?l ?k ?k2 ?n ?n2 ?nm ?ok ?_; (case mk => k_asm); walk_at "kstd"; (case N => k_asm); (case V => first | exact EndIs.here | exact EndIs.cons EndIs.here | exact EndIs.cons (EndIs.cons EndIs.here)); (case oT => k_all); (case o => k_asm); (case i => k_asm); (case l => k_asm); (case k => omega); (case k2 => omega); (case n => omega); (case n2 => omega); (case nm => first | decide +kernel | omega); (case ok => first | exact strOk_ofString _ | exact strOk_append (strOk_append (strOk_ofString _) (strOk_ofString _)) (strOk_ofString _) | decide +kernel); k_whole; intro bl' nb' tk' RW' o' k' t' h' tk1' kk0' kk1' ln' rp' of' F' N' ho'; (try dsimp only at N'); (try dsimp only))))

section
variable {gd : Option (List Code)} {A₀ : Around} {outer : List Env} {base h₀ : Heap} {L fa : Addr} {cd : Value} {m : Str → Option Value} {s : Shared} {Q : Flow → Shared → Prop} {E : Value → Shared → Prop}
  {T r : Addr} {o : Obj} {its : List Value} {ns : List Int} {rn : Nat} {k : Int} {t3 : Tok} {rest : List (Addr × Obj)}
theorem law_s1
  (B : Below A₀ base outer h₀) (F : Fr h₀ L s.heap m) (X : (hd.heap_1 w.params).In h₀) (TT : Top p loose mean mg mb h₀) (hm1 : m (Str.ofString "tape") = some (.ref T)) (mk : TailMark rest) (c1 : @LT.lt Nat _ T r) (hT : ∀ p ∈ rest, p.1 ≠ T)
  (N : News h₀ L s.heap ((T, o) :: (r, W.listOf its.toArray rn) :: rest)) (ho : TapeIs prog w o r k t3)
  (hi : IntsAre its ns) (hlen : ns.length ≤ 40) (hk : 0 ≤ k) (hk2 : k < 100)
  (ret : ∀ bl nb toks RW o' k' t' h' tk', 0 ≤ k' → k' ≤ k + 9 → 1 ≤ toks.length → toks.length ≤ 8 → RowP (InL RW) bl nb toks → (∀ p ∈ RW, p.1 ≠ T) → (∀ p ∈ RW, p.1 ≠ r) → OffNew rest RW →
    Fr h₀ L h' (fun y => if y = Str.ofString "base" then some (.ref bl) else m y) → News h₀ L h' ((T, o') :: (r, W.listOf its.toArray rn) :: (RW ++ rest)) → TapeIs prog w o' r k' t' → Q .next {s with heap := h', toks := tk'}) :
  wpAny (model prog w) (lawA gd L fa cd outer) (execs (lawAt 1) (lawEnv L fa cd)) Q E s := by
  show wpAny _ _ (execs (_ :: []) _) _ _ _
  k_steps
  all_goals (try k_data)
  refine' ret ?bl ?nb ?toks ?RW ?o ?k ?t ?h ?tk ?k0 ?k1 ?l0 ?l1 ?rp ?oT ?or ?on ?F ?N ?ho
  (case F => k_asm)
  (case N => k_asm)
  (case ho => k_asm)
  (case rp => k_asm)
  (case oT => exact OffNew.of (by k_asm) (.head _))
  (case or => exact OffNew.of (by k_asm) (.tail _ (.head _)))
  (case on => exact fun q hq => (by k_asm : OffNew ((T, _) :: (r, _) :: rest) _) q (.tail _ (.tail _ hq)))
  all_goals omega
theorem law_s2
  (B : Below A₀ base outer h₀) (F : Fr h₀ L s.heap m) (X : (hd.heap_1 w.params).In h₀) (TT : Top p loose mean mg mb h₀) (hT : ∀ p ∈ rest, p.1 ≠ T)
  (N : News h₀ L s.heap ((T, o) :: (r, W.listOf its.toArray rn) :: rest))
  (ret : ∀ rl h' tk', @LT.lt Nat _ T rl → @LT.lt Nat _ r rl → (∀ p ∈ rest, @LT.lt Nat _ p.1 rl) → Fr h₀ L h' (fun y => if y = Str.ofString "rows" then some (.ref rl) else m y) → News h₀ L h' ((T, o) :: (r, W.listOf its.toArray rn) :: (rl, W.listOf #[] 0) :: rest) → Q .next {s with heap := h', toks := tk'}) :
  wpAny (model prog w) (lawA gd L fa cd outer) (execs (lawAt 2) (lawEnv L fa cd)) Q E s := by
  show wpAny _ _ (execs (_ :: []) _) _ _ _
  k_steps
  all_goals (try k_data)
  refine' ret ?rl ?h ?tk ?l0 ?l1 ?l2 ?F ?N
  (case F => k_asm)
  (case N => refine News.sub (by k_asm) ?_; (repeat (first | exact List.forall_mem_nil _ | refine List.forall_mem_cons.mpr ⟨by k_mem, ?_⟩ | (intro p hp; repeat (first | exact hp | refine List.mem_cons_of_mem _ ?_)))))
  (case l0 => omega)
  (case l1 => omega)
  (case l2 => exact fun p hp => allLt_all (by k_asm : AllLt _ ((T, o) :: (r, W.listOf its.toArray rn) :: rest)) p (.tail _ (.tail _ hp)))
theorem off_swap {a : Addr} {o o' : Obj} {l X : List (Addr × Obj)} (h : OffNew ((a, o) :: l) X) : OffNew ((a, o') :: l) X := fun q hq p hp => by
  rcases List.mem_cons.mp hq with rfl | hq
  · exact h _ (.head _) p hp
  · exact h _ (.tail _ hq) p hp
theorem law_s3_turn {rl : Addr} {i : Int} {ti : Tok} {its2 : Array Value} {nrl : Nat}
  (B : Below A₀ base outer h₀) (F : Fr h₀ L s.heap m) (X : (hd.heap_1 w.params).In h₀) (TT : Top p loose mean mg mb h₀) (hm1 : m (Str.ofString "tape") = some (.ref T)) (hm2 : m (Str.ofString "rows") = some (.ref rl)) (hm3 : m (Str.ofString "turn") = some (.int i ti)) (h01 : i = 0 ∨ i = 1) (mk : TailMark rest) (c1 : @LT.lt Nat _ T r) (c2 : @LT.lt Nat _ r rl) (hT : ∀ p ∈ rest, p.1 ≠ T) (hR : ∀ p ∈ rest, p.1 ≠ rl)
  (N : News h₀ L s.heap ((T, o) :: (r, W.listOf its.toArray rn) :: (rl, W.listOf its2 nrl) :: rest)) (ho : TapeIs prog w o r k t3)
  (hi : IntsAre its ns) (hlen : ns.length ≤ 40) (hk : 0 ≤ k) (hk2 : k < 100) (hsz : its2.size ≤ 4)
  (ret : ∀ bl nb toks RW o' k' t' h' tk', 0 ≤ k' → k' ≤ k + 9 → toks.length ≤ 3 → RowP (InL RW) bl nb toks → OffNew ((T, o) :: (r, W.listOf its.toArray rn) :: (rl, W.listOf its2 nrl) :: rest) RW →
    Fr h₀ L h' m → News h₀ L h' ((T, o') :: (r, W.listOf its.toArray rn) :: (rl, W.listOf (its2.push (.ref bl)) (nrl + 1)) :: (RW ++ rest)) → TapeIs prog w o' r k' t' → Q .next {s with heap := h', toks := tk'}) :
  wpAny (model prog w) (lawA gd L fa cd outer) (execs s3Body (lawEnv L fa cd)) Q E s := by
  show wpAny _ _ (execs (_ :: []) _) _ _ _
  rcases h01 with rfl | rfl
  · k_steps
    refine' ret ?bl ?nb ?toks ?RW ?o ?k ?t ?h ?tk ?k0 ?k1 ?l0 ?rp ?on ?F ?N ?ho
    (case F => k_asm)
    (case N => k_asm)
    (case ho => k_asm)
    (case rp => k_asm)
    (case on => exact off_swap (by k_asm))
    all_goals omega
  · k_steps
    refine' ret ?blx ?nbx ?toksx ?RWx ?ox ?kx ?tx ?hx ?tkx ?k0x ?k1x ?l0x ?rpx ?onx ?Fx ?Nx ?hox
    (case Fx => k_asm)
    (case Nx => k_asm)
    (case hox => k_asm)
    (case rpx => k_asm)
    (case onx => exact off_swap (by k_asm))
    all_goals omega
end

end

section
set_option linter.unusedVariables false
set_option linter.unusedSimpArgs false
variable {w : World} {p : Program} {loose : List Str} {mean : ExcName → Option Value} {mg mb : Str → Option Value}


local macro_rules | `(tactic| walk_at "call ref") => `(tactic| (k_here; (with_reducible show wpAny _ _ (call (Value.ref 266) [Value.ref _, Value.int _ _]) _ _ _); k_dflt (refine wpAny_call ?_; refine' number_at ?_ ?_ ?_ ?_ ?_ ?N ?U ?r ?o ?i ?l ?k ?k2 ?s ?s2 ?_; walk_at "kstd"; (case N => k_asm); (case U => k_updF); (case o => k_asm); (case r => k_mem); (case i => k_asm); (case l => k_asm); (case k => omega); (case k2 => omega); (case s => omega); (case s2 => omega); k_whole; intro j' t' tq' o' h' tk' j0' j1' x' F' N' ho'; (try dsimp only at N'); (try dsimp only))))

section
variable {gd : Option (List Code)} {A₀ : Around} {outer : List Env} {base h₀ : Heap} {L fa : Addr} {cd : Value} {m : Str → Option Value} {s : Shared} {E : Value → Shared → Prop}
  {T r : Addr} {o : Obj} {its : List Value} {ns : List Int} {rn : Nat} {k : Int} {t3 : Tok} {rest : List (Addr × Obj)}
theorem law_s3_iter {Q : Value → Shared → Prop}
  (B : Below A₀ base outer h₀) (F : Fr h₀ L s.heap m) (X : (hd.heap_1 w.params).In h₀) (TT : Top p loose mean mg mb h₀) (hm1 : m (Str.ofString "tape") = some (.ref T)) (mk : TailMark rest) (c1 : @LT.lt Nat _ T r) (hT : ∀ p ∈ rest, p.1 ≠ T)
  (N : News h₀ L s.heap ((T, o) :: (r, W.listOf its.toArray rn) :: rest)) (ho : TapeIs prog w o r k t3)
  (hi : IntsAre its ns) (hlen : ns.length ≤ 40) (hk : 0 ≤ k) (hk2 : k < 100)
  (ret : ∀ R j o' t t1 t2 t' h' tk', 0 ≤ j → j < 3 → IsRange h' R 0 j 1 t t1 t2 → Fr h₀ L h' m → News h₀ L h' ((T, o') :: (r, W.listOf its.toArray rn) :: rest) → TapeIs prog w o' r (k + 1) t' → Q (.ref R) {s with heap := h', toks := tk'}) :
  wpAny (model prog w) (lawA gd L fa cd outer) (eval s3Iter (lawEnv L fa cd)) Q E s := by
  show wpAny _ _ (eval (.Call _ _ _ _) _) _ _ _
  k_steps
  all_goals (try k_data)
  refine' ret ?R ?j ?o ?t ?t1 ?t2 ?t' ?h ?tk ?j0 ?j1 ?ir ?F ?N ?ho
  (case ir => k_asm)
  (case F => k_asm)
  (case N => k_asm)
  (case ho => k_asm)
  all_goals omega
end
/-- rows: list, size, tokens -/
abbrev RowR := Addr × Nat × List (Addr × TD)
def rowsVal (recs : List RowR) : List Value := recs.map fun q => Value.ref q.1
def RowsOk (P : Addr → Obj → Prop) (recs : List RowR) : Prop := (∀ q ∈ recs, RowP P q.1 q.2.1 q.2.2) ∧ (recs.map (·.1)).Nodup
theorem RowsOk.mono {P P' : Addr → Obj → Prop} {recs : List RowR} (c : RowsOk P recs) (h : ∀ a o, P a o → P' a o) : RowsOk P' recs := ⟨fun q hq => (c.1 q hq).mono h, c.2⟩
theorem RowsOk.add {rest RW : List (Addr × Obj)} {recs : List RowR} {q : RowR} (c : RowsOk (InL rest) recs) (hq : RowP (InL RW) q.1 q.2.1 q.2.2) (off : OffNew rest RW) : RowsOk (InL (RW ++ rest)) (recs ++ [q]) := by
  refine ⟨fun x hx => ?_, ?_⟩
  · rcases List.mem_append.mp hx with h | h
    · exact (c.1 x h).mono fun a o z => List.mem_append_right _ z
    · rw [List.mem_singleton.mp h]; exact hq.mono fun a o z => List.mem_append_left _ z
  · rw [List.map_append]
    refine List.nodup_append.mpr ⟨c.2, by simp, ?_⟩
    intro a ha b hb e
    obtain ⟨x, hx, rfl⟩ := List.mem_map.mp ha
    rw [List.map_cons, List.map_nil, List.mem_singleton] at hb
    exact off _ (c.1 x hx).1 _ hq.1 (by rw [← hb, ← e])
section
variable {gd : Option (List Code)} {A₀ : Around} {outer : List Env} {base h₀ : Heap} {L fa : Addr} {cd : Value} {m : Str → Option Value} {s : Shared} {Q : Flow → Shared → Prop}
  {T r rl : Addr} {o : Obj} {its : List Value} {ns : List Int} {rn nrl : Nat} {k : Int} {t3 : Tok} {rest : List (Addr × Obj)} {b0 : RowR}
inductive S3J (w : World) (T r rl : Addr) (its : List Value) (rn : Nat) (b0 : RowR) (k : Int) (i : Nat) (m : Str → Option Value) (news : List (Addr × Obj)) : Prop
  | mk (o : Obj) (t3 : Tok) (k1 : Int) (recs : List RowR) (nrl : Nat) (rest : List (Addr × Obj)) (h : m (Str.ofString "tape") = some (.ref T) ∧ m (Str.ofString "rows") = some (.ref rl) ∧ m (Str.ofString "base") = some (.ref b0.1) ∧
    news = (T, o) :: (r, W.listOf its.toArray rn) :: (rl, W.listOf (rowsVal recs).toArray nrl) :: rest ∧ recs.length = i ∧ 0 ≤ k1 ∧ k1 ≤ k + 9 * i ∧ TapeIs prog w o r k1 t3 ∧ RowsOk (InL rest) (b0 :: recs) ∧ (∀ q ∈ recs, q.2.2.length ≤ 3) ∧
    (∀ p ∈ rest, p.1 ≠ T) ∧ (∀ p ∈ rest, p.1 ≠ r) ∧ (∀ p ∈ rest, p.1 ≠ rl))
theorem law_s3
  (B : Below A₀ base outer h₀) (F : Fr h₀ L s.heap m) (X : (hd.heap_1 w.params).In h₀) (TT : Top p loose mean mg mb h₀) (hm1 : m (Str.ofString "tape") = some (.ref T)) (hm2 : m (Str.ofString "rows") = some (.ref rl)) (hm3 : m (Str.ofString "base") = some (.ref b0.1)) (c1 : @LT.lt Nat _ T r) (c2 : @LT.lt Nat _ r rl)
  (q1 : ∀ p ∈ rest, p.1 ≠ T) (q2 : ∀ p ∈ rest, p.1 ≠ r) (q3 : ∀ p ∈ rest, p.1 ≠ rl)
  (N : News h₀ L s.heap ((T, o) :: (r, W.listOf its.toArray rn) :: (rl, W.listOf #[] nrl) :: rest)) (ho : TapeIs prog w o r k t3) (hb : RowP (InL rest) b0.1 b0.2.1 b0.2.2)
  (hi : IntsAre its ns) (hlen : ns.length ≤ 40) (hk : 0 ≤ k) (hk2 : k < 50)
  (ret : ∀ j m' news' h' tk', j ≤ 2 → S3J w T r rl its rn b0 (k + 1) j m' news' → Fr h₀ L h' m' → News h₀ L h' news' → Q .next {s with heap := h', toks := tk'}) :
  wpAny (model prog w) (lawA gd L fa cd outer) (execs (lawAt 3) (lawEnv L fa cd)) Q (fun _ _ => False) s := by
  show wpAny _ _ (execs (_ :: []) _) _ _ _
  refine wpAny_execs_cons ?_
  show wpAny _ _ (exec (.For (.Name _ _) s3Iter s3Body [] _) _) _ _ _
  refine wpAny_For (law_s3_iter (rest := (rl, W.listOf #[] nrl) :: rest) B F X TT hm1 trivial c1 (List.forall_mem_cons.mpr ⟨neN (by omega), q1⟩) N ho hi hlen hk (by omega) fun R j o' t t1 t2 t' h' tk' j0 j1 ir F' N' ho' => ?_)
  refine forRange_FN (S3J w T r rl its rn b0 (k + 1)) rfl rfl rfl ir j0 (by omega) F' N' ?_ ?_ ?_
  · exact ⟨o', t', k + 1, [], nrl, rest, hm1, hm2, hm3, rfl, rfl, by omega, by omega, ho', ⟨fun x hx => (List.mem_singleton.mp hx) ▸ hb, by simp⟩, (fun _ h => nomatch h), q1, q2, q3⟩
  · rintro i tk m₁ news₁ h tk1 I oI hlt ⟨o1, t1, k1, recs, nr, rest1, e1, e2, e3, rfl, hle, hk0, hk1, hto, hro, hl3, q1, q2, q3⟩ hoff F1 N1
    have hIT : I ≠ T := fun e => hoff _ (.head _) e.symm
    have hIr : I ≠ r := fun e => hoff _ (.tail _ (.head _)) e.symm
    have hIb : I ≠ rl := fun e => hoff _ (.tail _ (.tail _ (.head _))) e.symm
    refine law_s3_turn (o := o1) (its := its) (rn := rn) (its2 := (rowsVal recs).toArray) (nrl := nr) (r := r) (T := T) (rl := rl) (rest := (I, oI) :: rest1) (k := k1) (i := i) B F1 X TT e1 e2 rfl (by omega) trivial c1 c2
      (List.forall_mem_cons.mpr ⟨hIT, q1⟩) (List.forall_mem_cons.mpr ⟨hIb, q3⟩) (News.sub N1 fun p hp => by simp only [List.mem_cons] at hp ⊢; rcases hp with h | h | h | h | h <;> simp only [h, true_or, or_true]) hto hi hlen hk0 (by omega) (by simp [rowsVal]; omega) ?_
    intro bl nb toks RW o2 k2 t2 h2 tk2 z0 z1 z2 rp on F2 N2 ho2
    have onI := on (I, oI) (.tail _ (.tail _ (.tail _ (.head _))))
    refine ⟨rfl, h2, tk2, _, (T, o2) :: (r, W.listOf its.toArray rn) :: (rl, W.listOf (rowsVal (recs ++ [(bl, nb, toks)])).toArray (nr + 1)) :: (RW ++ rest1), rfl, F2,
      News.sub N2 (fun p hp => by simp only [List.mem_cons, List.mem_append, rowsVal, List.map_append, List.map_cons, List.map_nil, List.push_toArray] at hp ⊢; rcases hp with h | h | h | h | h | h <;> simp only [h, true_or, or_true]), ?_,
      ⟨o2, t2, k2, recs ++ [(bl, nb, toks)], nr + 1, RW ++ rest1, e1, e2, e3, rfl, by simp [hle], z0, by omega, ho2,
        RowsOk.add (recs := b0 :: recs) (q := (bl, nb, toks)) hro rp (fun q hq => on q (.tail _ (.tail _ (.tail _ (.tail _ hq))))), ?_, ?_, ?_, ?_⟩⟩
    · intro p hp
      simp only [List.mem_cons, List.mem_append] at hp
      rcases hp with h | h | h | h | h
      · rw [h]; exact hIT.symm
      · rw [h]; exact hIr.symm
      · rw [h]; exact hIb.symm
      · exact onI p h
      · exact hoff p (.tail _ (.tail _ (.tail _ h)))
    · intro q hq
      rcases List.mem_append.mp hq with h | h
      · exact hl3 q h
      · rw [List.mem_singleton.mp h]; exact z2
    · exact off_app (on _ (.head _)) q1
    · exact off_app (on _ (.tail _ (.head _))) q2
    · exact off_app (on _ (.tail _ (.tail _ (.head _)))) q3
  · intro m₁ news₁ h tk hJ F1 N1
    dsimp only
    (k_steps; all_goals (try k_data))
    all_goals (exact ret _ _ _ _ _ (by omega) hJ (by k_asm) (by k_asm))
end

end

section
set_option linter.unusedVariables false
set_option linter.unusedSimpArgs false
variable {w : World} {p : Program} {loose : List Str} {mean : ExcName → Option Value} {mg mb : Str → Option Value}


local macro_rules | `(tactic| walk_at "call ref") => `(tactic| (k_here; (with_reducible show wpAny _ _ (call (Value.ref 287) [Value.ref _]) _ _ _); k_dflt (refine wpAny_call ?_; refine' told_tok ?_ ?_ ?_ ?_ ?_ ?N ?hT ?_; walk_at "kstd"; (case N => k_asm); (case hT => exact TokP.mono (by assumption) (fun _ _ h => (by repeat (first | exact h | exact List.mem_cons_of_mem _ h | exact List.mem_append_right _ h | refine List.mem_cons_of_mem _ ?_ | refine List.mem_append_right _ ?_)))); k_whole; intro u' kk1' kk2' kk3' kk4' kk5' h' tk' ne' x' F' N'; (try dsimp only at N'); (have ne9 := off1_of ne'; simp only [LCg.Off1] at ne9); (try dsimp only))))
local macro_rules | `(tactic| walk_at "call ref") => `(tactic| (k_here; (with_reducible show wpAny _ _ (call (Value.ref 287) [Value.none]) _ _ _); k_dflt (refine wpAny_call ?_; refine' told_none ?_ ?_ ?_ ?_ ?_ ?N ?_; walk_at "kstd"; (case N => k_asm); k_whole; intro h' tk' x' F' N'; (try dsimp only at N'); (try dsimp only))))

section
variable {gd : Option (List Code)} {A₀ : Around} {outer : List Env} {base h₀ : Heap} {L fa : Addr} {cd : Value} {m : Str → Option Value} {s : Shared} {E : Value → Shared → Prop}
theorem elt_told {Q : Value → Shared → Prop} {I C D x : Addr} {oI oC oD : Obj} {m₂ : Str → Option Value} {news : List (Addr × Obj)} {DD : TD}
  (B : Below A₀ base outer h₀) (F : Fr h₀ L s.heap m) (X : (hd.heap_1 w.params).In h₀) (TT : Top p loose mean mg mb h₀) (N : News h₀ L s.heap ((I, oI) :: (C, oC) :: (D, oD) :: news)) (hC : LCg.NsObj oC m₂) (hx : m₂ (Str.ofString "token") = some (.ref x)) (hT : TokP (InL news) x DD)
  (ret : ∀ u k1 k2 k3 k4 k5 h' tk', (∀ q ∈ (I, oI) :: (C, oC) :: (D, oD) :: news, q.1 ≠ u) → Fr h₀ L h' m → News h₀ L h' ((u, toldObj DD k1 k2 k3 k4 k5) :: (I, oI) :: (C, oC) :: (D, oD) :: news) → Q (.ref u) {s with heap := h', toks := tk'}) :
  wpAny (model prog w) (lawA gd L fa cd outer) (eval s5Elt (compEnvC s5Scope [] C (lawEnv L fa cd))) Q E s := by
  show wpAny _ _ (eval (.Call _ _ _ _) _) _ _ _
  k_steps
  all_goals (try k_data)
  all_goals (exact ret _ _ _ _ _ _ _ _ (by assumption) (by k_asm) (by k_asm))

/-- a told tuple -/
def ToldP (P : Addr → Obj → Prop) (u : Addr) (D : TD) : Prop := ∃ k1 k2 k3 k4 k5, P u (toldObj D k1 k2 k3 k4 k5)
theorem ToldP.mono {P P' : Addr → Obj → Prop} {u : Addr} {D : TD} (c : ToldP P u D) (h : ∀ a o, P a o → P' a o) : ToldP P' u D := by
  obtain ⟨k1, k2, k3, k4, k5, c⟩ := c
  exact ⟨k1, k2, k3, k4, k5, h _ _ c⟩
def refs (l : List (Addr × TD)) : List Value := l.map fun q => Value.ref q.1
theorem comp_rest {la : Addr} {its : Array Value} {news : List (Addr × Obj)} {s₀ : Shared} {Fin : List Value → List (Addr × Obj) → Prop} (B : Below A₀ base outer h₀) (X : (hd.heap_1 w.params).In h₀) (TT : Top p loose mean mg mb h₀) (hs : LCg.SrcAt h₀ la its news) :
    ∀ (ts : List (Addr × TD)) (i : Nat) (us : List (Addr × TD)) (new : List (Addr × Obj)), refs ts = its.toList.drop i → (∀ t ∈ ts, TokP (InL news) t.1 t.2) → (∀ q ∈ us, ToldP (InL new) q.1 q.2) → OffNew news new →
      (∀ us' new', us'.map (·.2) = us.map (·.2) ++ ts.map (·.2) → (∀ q ∈ us', ToldP (InL new') q.1 q.2) → OffNew news new' → Fin (refs us') (new' ++ news)) →
      LCg.CompRest prog w (lawA gd L fa cd outer) h₀ L m (lawEnv L fa cd) s5Elt (Str.ofString "token") s5Scope [] s₀ (LCg.SrcAt h₀ la its) (fun i v => its[i]? = some v) Fin ts.length i (refs us) (new ++ news) := by
  intro ts
  induction ts with
  | nil => intro i us new _ _ hu off fin; exact LCg.CompRest.zero (fin us new (by simp) hu off)
  | cons t ts ih =>
    intro i us new hd ht hu off fin
    refine LCg.CompRest.succ ?_
    intro v I oI C oC D m₂ h tk E' hv hC hx F N off3 dis
    obtain ⟨d1, d2⟩ := drop_cons hd
    have hv2 : v = .ref t.1 := Option.some.inj (hv.symm.trans (by rw [← Array.getElem?_toList]; exact d1))
    refine elt_told (DD := t.2) B F X TT N hC (hv2 ▸ hx) ((ht t (.head _)).mono fun a o z => List.mem_append_right _ z) ?_
    intro u k1 k2 k3 k4 k5 h' tk' ne F' N'
    have off9 := off3.mem
    refine LCg.CompEnd.intro F' N' ((u, toldObj t.2 k1 k2 k3 k4 k5) :: (new ++ news)) ?_ ?_ ?_ ?_
    · intro p hp
      first
      | (revert hp; revert p; (repeat (first | exact List.forall_mem_nil _ | refine List.forall_mem_cons.mpr ⟨by k_mem, ?_⟩ | (intro p hp; repeat (first | exact hp | refine List.mem_cons_of_mem _ ?_)))); done)
      | (simp only [List.mem_cons] at hp ⊢
         rcases hp with h | h | h | h | h <;> simp only [h, true_or, or_true])
    · refine ⟨⟨fun e => ne (I, oI) (.head _) e.symm, fun e => ne (C, oC) (.tail _ (.head _)) e.symm, fun e => ne (D, _) (.tail _ (.tail _ (.head _))) e.symm⟩, off3⟩
    · rcases hs with h | ⟨o, hm, h⟩
      · exact .inl h
      · exact .inr ⟨o, .tail _ (List.mem_append_right _ hm), h⟩
    · have e : refs us ++ [Value.ref u] = refs (us ++ [(u, t.2)]) := by simp [refs]
      rw [e]
      refine ih (i + 1) (us ++ [(u, t.2)]) ((u, toldObj t.2 k1 k2 k3 k4 k5) :: new) d2.symm (fun q hq => ht q (.tail _ hq)) ?_ ?_ ?_
      · intro q hq
        rcases List.mem_append.mp hq with h | h
        · exact (hu q h).mono fun a o z => .tail _ z
        · rw [List.mem_singleton.mp h]; exact ⟨k1, k2, k3, k4, k5, .head _⟩
      · intro q hq p hp
        rcases List.mem_cons.mp hp with h | h
        · rw [h]; exact fun e => ne q (.tail _ (.tail _ (.tail _ (List.mem_append_right _ hq)))) e.symm
        · exact off q hq p h
      · intro us' new' e1 e2 e3
        exact fin us' new' (by rw [e1]; simp) e2 e3
theorem comp_law {Q : Value → Shared → Prop} {la : Addr} {nb : Nat} {toks : List (Addr × TD)} {rest rest0 : List (Addr × Obj)} {g2 : List (Addr × Obj) → List (Addr × Obj)}
  (B : Below A₀ base outer h₀) (F : Fr h₀ L s.heap m) (X : (hd.heap_1 w.params).In h₀) (TT : Top p loose mean mg mb h₀) (mk : TailMark rest0) (V : EndIs rest0 rest g2) (hm1 : m (Str.ofString "row") = some (.ref la)) (N : News h₀ L s.heap rest) (hR : RowP (InL rest) la nb toks) (hlen : toks.length ≤ 8)
  (ret : ∀ D nd us new h' tk', us.map (·.2) = toks.map (·.2) → (∀ q ∈ us, ToldP (InL new) q.1 q.2) → OffNew rest new → LCg.Off1 D rest → (∀ p ∈ new, p.1 ≠ D) → Fr h₀ L h' m → News h₀ L h' ((D, W.listOf (refs us).toArray nd) :: g2 (new ++ rest0)) → Q (.ref D) {s with heap := h', toks := tk'}) :
  wpAny (model prog w) (lawA gd L fa cd outer) (eval s5Comp (lawEnv L fa cd)) Q E s := by
  show wpAny _ _ (eval (.ListComp s5Elt [⟨.Name _ _, .Name _ _, [], 0⟩] s5Scope _) _) _ _ _
  refine LCg.ListComp_U (F₀ := F) (by rfl) (by decide) (by rfl) (by decide) (by rfl) ?_
  refine ld F hm1 ?_
  refine LCg.CompSrc.ledger rfl F N hR.1 (by simp; unfold sizeLine; omega) (fun g => ?_)
  have key := comp_rest (s₀ := { s with heap := g }) (gd := gd) (fa := fa) (cd := cd) (m := m) (L := L) (Fin := LCg.FinE h₀ L m { s with heap := g } Q) B X TT (.inr ⟨_, hR.1, rfl, _, rfl⟩ : LCg.SrcAt h₀ la (toks.map fun p => Value.ref p.1).toArray rest) toks 0 [] [] (by simp [refs]) (fun t ht => (hR.2 t ht).1) (fun _ h => nomatch h) (fun _ _ _ h => nomatch h) ?_
  · have e : ((toks.map fun p => Value.ref p.1).toArray).size = toks.length := by simp
    rw [e]
    exact key
  · intro us new e1 e2 e3 D h tk F' N' off
    have off9 := off1_mem off
    refine ret D (refs us).length us new h tk (by simpa using e1) e2 e3 (off1_of fun q hq => off9 q (List.mem_append_right _ hq)) (fun q hq => off9 q (List.mem_append_left _ hq)) F' ?_
    intro p hp
    rcases List.mem_cons.mp hp with h | hp
    · rw [h]; exact N' _ (.head _)
    · rcases V.mem new p hp with h | h
      · exact N' p (.tail _ (List.mem_append_left _ h))
      · exact N' p (.tail _ (List.mem_append_right _ h))
end

end

section
set_option linter.unusedVariables false
set_option linter.unusedSimpArgs false
variable {w : World} {p : Program} {loose : List Str} {mean : ExcName → Option Value} {mg mb : Str → Option Value}


local macro_rules | `(tactic| walk_at "eval ListComp") => `(tactic| (k_here; k_dflt (refine' comp_law ?_ ?_ ?_ ?_ ?mk ?V ?hm ?N ?hR ?l ?_; walk_at "kstd"; (case N => k_asm); (case V => walk_at "kends"); (case mk => exact trivial); (case hm => first | exact rfl | assumption); (case hR => exact RowP.mono (by assumption) (fun _ _ h => (by repeat (first | exact h | exact List.mem_cons_of_mem _ h | exact List.mem_append_right _ h | exact List.mem_append_left _ h | refine List.mem_cons_of_mem _ ?_ | refine List.mem_append_right _ ?_)))); (case l => assumption); k_whole; intro D' nd' us' new' h' tk' ue' ut' of' od' op' F' N'; (try dsimp only at N'); (have ul' := congrArg List.length ue'; simp only [List.length_map] at ul'); (simp only [LCg.Off1] at od'); (try dsimp only))))
local macro_rules | `(tactic| walk_at "inplaceOp Add ref") => `(tactic| (k_here; (with_reducible show wpAny _ _ (inplaceOp _ (Value.ref _) (Value.ref _)) _ _ _); k_dflt (refine' li_iadd ?F ?N ?U ?b ?z ?_; (case F => k_asm); (case N => k_asm); (case U => k_updF); (case b => k_mem); (case z => simp only [refs, List.size_toArray, List.length_map, List.length_append, List.length_nil, Array.size_append, Array.size_empty, List.size_toArray, List.length_cons]; omega); k_whole; intro h' n' F' N'; (try dsimp only at N'); (try dsimp only))))
local macro_rules | `(tactic| walk_at "loadName") => `(tactic| (k_here; k_dflt (refine' ldn ?k1 ?k2 ?_; (case k1 => k_asm); (case k2 => assumption); k_whole)))

section
variable {gd : Option (List Code)} {A₀ : Around} {outer : List Env} {base h₀ : Heap} {L fa : Addr} {cd : Value} {m : Str → Option Value} {s : Shared} {Q : Flow → Shared → Prop} {E : Value → Shared → Prop}
  {T r rl fl : Addr} {o oR : Obj} {its : List Value} {rn nrl : Nat} {rest : List (Addr × Obj)} {b0 : RowR}
theorem law_s4
  (B : Below A₀ base outer h₀) (F : Fr h₀ L s.heap m) (X : (hd.heap_1 w.params).In h₀) (TT : Top p loose mean mg mb h₀) (N : News h₀ L s.heap ((T, o) :: (r, oR) :: (rl, W.listOf (its : List Value).toArray nrl) :: rest))
  (ret : ∀ fl h' tk', @LT.lt Nat _ T fl → @LT.lt Nat _ r fl → @LT.lt Nat _ rl fl → (∀ p ∈ rest, @LT.lt Nat _ p.1 fl) → Fr h₀ L h' (fun y => if y = Str.ofString "flat" then some (.ref fl) else m y) → News h₀ L h' ((T, o) :: (r, oR) :: (rl, W.listOf its.toArray nrl) :: (fl, W.listOf #[] 0) :: rest) → Q .next {s with heap := h', toks := tk'}) :
  wpAny (model prog w) (lawA gd L fa cd outer) (execs (lawAt 4) (lawEnv L fa cd)) Q E s := by
  show wpAny _ _ (execs (_ :: []) _) _ _ _
  k_steps
  all_goals (try k_data)
  refine' ret ?rl ?h ?tk ?l0 ?l1 ?l3 ?l2 ?F ?N
  (case F => k_asm)
  (case N => refine News.sub (by k_asm) ?_; (repeat (first | exact List.forall_mem_nil _ | refine List.forall_mem_cons.mpr ⟨by k_mem, ?_⟩ | (intro p hp; repeat (first | exact hp | refine List.mem_cons_of_mem _ ?_)))))
  (case l0 => omega)
  (case l1 => omega)
  (case l3 => omega)
  (case l2 => exact fun p hp => allLt_all (by k_asm : AllLt _ ((T, o) :: (r, oR) :: (rl, W.listOf its.toArray nrl) :: rest)) p (.tail _ (.tail _ (.tail _ hp))))
theorem refs_app (a b : List (Addr × TD)) : (refs (a ++ b)).toArray = (refs a).toArray ++ (refs b).toArray := by simp [refs]
theorem law_s5_turn {la : Addr} {nb nf : Nat} {toks us : List (Addr × TD)}
  (B : Below A₀ base outer h₀) (F : Fr h₀ L s.heap m) (X : (hd.heap_1 w.params).In h₀) (TT : Top p loose mean mg mb h₀) (hm1 : m (Str.ofString "row") = some (.ref la)) (hm3 : m (Str.ofString "flat") = some (.ref fl)) (hF : ∀ p ∈ rest, p.1 ≠ fl)
  (N : News h₀ L s.heap ((fl, W.listOf (refs us).toArray nf) :: rest)) (hb : RowP (InL rest) la nb toks) (hbl : toks.length ≤ 8) (hul : us.length ≤ 60)
  (ret : ∀ us2 nf' new h' tk', us2.map (·.2) = toks.map (·.2) → (∀ q ∈ us2, ToldP (InL new) q.1 q.2) → OffNew ((fl, W.listOf (refs us).toArray nf) :: rest) new → Fr h₀ L h' (fun y => if y = Str.ofString "flat" then some (.ref fl) else m y) →
    News h₀ L h' ((fl, W.listOf (refs (us ++ us2)).toArray nf') :: (new ++ rest)) → Q .next {s with heap := h', toks := tk'}) :
  wpAny (model prog w) (lawA gd L fa cd outer) (execs s5Body (lawEnv L fa cd)) Q E s := by
  show wpAny _ _ (execs (_ :: []) _) _ _ _
  k_steps
  all_goals (try k_data)
  refine' ret ?us ?nf ?new ?h ?tk ?e1 ?e2 ?e3 ?F ?N
  (case e1 => assumption)
  (case e2 => assumption)
  (case e3 => assumption)
  (case F => k_asm)
  (case N => rw [refs_app]; refine News.sub (by k_asm) ?_; (repeat (first | exact List.forall_mem_nil _ | refine List.forall_mem_cons.mpr ⟨by k_mem, ?_⟩ | (intro p hp; repeat (first | exact hp | refine List.mem_cons_of_mem _ ?_)))))
theorem rows_0
  (B : Below A₀ base outer h₀) (F : Fr h₀ L s.heap m) (X : (hd.heap_1 w.params).In h₀) (TT : Top p loose mean mg mb h₀) (hm1 : m (Str.ofString "rows") = some (.ref rl)) (hm2 : m (Str.ofString "base") = some (.ref b0.1)) {Q : Value → Shared → Prop} {news : List (Addr × Obj)}
  (N : News h₀ L s.heap ((rl, W.listOf (rowsVal []).toArray nrl) :: news))
  (ret : ∀ X nX h' tk', LCg.Off1 X ((rl, W.listOf (rowsVal []).toArray nrl) :: news) → Fr h₀ L h' m → News h₀ L h' ((X, W.listOf (rowsVal ([].reverse ++ [b0])).toArray nX) :: (rl, W.listOf (rowsVal []).toArray nrl) :: news) → Q (.ref X) {s with heap := h', toks := tk'}) :
  wpAny (model prog w) (lawA gd L fa cd outer) (eval s5Iter (lawEnv L fa cd)) Q E s := by
  show wpAny _ _ (eval (.BinOp _ _ _ _) _) _ _ _
  k_steps
  all_goals (try k_data)
  refine' ret ?X0 ?nX0 ?h0 ?tk0 ?o0 ?F0 ?N0
  (case F0 => k_asm)
  (case N0 => refine News.sub (by k_asm) ?_; (repeat (first | exact List.forall_mem_nil _ | refine List.forall_mem_cons.mpr ⟨by k_mem, ?_⟩ | (intro p hp; repeat (first | exact hp | refine List.mem_cons_of_mem _ ?_)))))
  (case o0 => exact ⟨by (try dsimp only); omega, off1_of (fun q hq => Nat.ne_of_lt (allLt_all (by assumption) q (by repeat (first | exact hq | refine List.mem_cons_of_mem _ ?_))))⟩)
theorem rows_1 {a : RowR}
  (B : Below A₀ base outer h₀) (F : Fr h₀ L s.heap m) (X : (hd.heap_1 w.params).In h₀) (TT : Top p loose mean mg mb h₀) (hm1 : m (Str.ofString "rows") = some (.ref rl)) (hm2 : m (Str.ofString "base") = some (.ref b0.1)) {Q : Value → Shared → Prop} {news : List (Addr × Obj)}
  (N : News h₀ L s.heap ((rl, W.listOf (rowsVal [a]).toArray nrl) :: news))
  (ret : ∀ X nX h' tk', LCg.Off1 X ((rl, W.listOf (rowsVal [a]).toArray nrl) :: news) → Fr h₀ L h' m → News h₀ L h' ((X, W.listOf (rowsVal ([a].reverse ++ [b0])).toArray nX) :: (rl, W.listOf (rowsVal [a]).toArray nrl) :: news) → Q (.ref X) {s with heap := h', toks := tk'}) :
  wpAny (model prog w) (lawA gd L fa cd outer) (eval s5Iter (lawEnv L fa cd)) Q E s := by
  show wpAny _ _ (eval (.BinOp _ _ _ _) _) _ _ _
  have N1 : News h₀ L s.heap ((rl, W.listOf #[.ref a.1] nrl) :: news) := N
  clear N
  k_steps
  all_goals (try k_data)
  refine' ret ?X2 ?nX2 ?h2 ?tk2 ?o2 ?F2 ?N2
  (case F2 => k_asm)
  (case N2 => refine News.sub (by k_asm) ?_; (repeat (first | exact List.forall_mem_nil _ | refine List.forall_mem_cons.mpr ⟨by k_mem, ?_⟩ | (intro p hp; repeat (first | exact hp | refine List.mem_cons_of_mem _ ?_)))))
  (case o2 => exact ⟨by (try dsimp only); omega, off1_of (fun q hq => Nat.ne_of_lt (allLt_all (by assumption) q (by repeat (first | exact hq | refine List.mem_cons_of_mem _ ?_))))⟩)
theorem rows_2 {a b : RowR}
  (B : Below A₀ base outer h₀) (F : Fr h₀ L s.heap m) (X : (hd.heap_1 w.params).In h₀) (TT : Top p loose mean mg mb h₀) (hm1 : m (Str.ofString "rows") = some (.ref rl)) (hm2 : m (Str.ofString "base") = some (.ref b0.1)) {Q : Value → Shared → Prop} {news : List (Addr × Obj)}
  (N : News h₀ L s.heap ((rl, W.listOf (rowsVal [a, b]).toArray nrl) :: news))
  (ret : ∀ X nX h' tk', LCg.Off1 X ((rl, W.listOf (rowsVal [a, b]).toArray nrl) :: news) → Fr h₀ L h' m → News h₀ L h' ((X, W.listOf (rowsVal ([a, b].reverse ++ [b0])).toArray nX) :: (rl, W.listOf (rowsVal [a, b]).toArray nrl) :: news) → Q (.ref X) {s with heap := h', toks := tk'}) :
  wpAny (model prog w) (lawA gd L fa cd outer) (eval s5Iter (lawEnv L fa cd)) Q E s := by
  show wpAny _ _ (eval (.BinOp _ _ _ _) _) _ _ _
  have N1 : News h₀ L s.heap ((rl, W.listOf #[.ref a.1, .ref b.1] nrl) :: news) := N
  clear N
  k_steps
  all_goals (try k_data)
  refine' ret ?X2 ?nX2 ?h2 ?tk2 ?o2 ?F2 ?N2
  (case F2 => k_asm)
  (case N2 => refine News.sub (by k_asm) ?_; (repeat (first | exact List.forall_mem_nil _ | refine List.forall_mem_cons.mpr ⟨by k_mem, ?_⟩ | (intro p hp; repeat (first | exact hp | refine List.mem_cons_of_mem _ ?_)))))
  (case o2 => exact ⟨by (try dsimp only); omega, off1_of (fun q hq => Nat.ne_of_lt (allLt_all (by assumption) q (by repeat (first | exact hq | refine List.mem_cons_of_mem _ ?_))))⟩)
end

end

section
set_option linter.unusedVariables false
set_option linter.unusedSimpArgs false
variable {w : World} {p : Program} {loose : List Str} {mean : ExcName → Option Value} {mg mb : Str → Option Value}


section
variable {gd : Option (List Code)} {A₀ : Around} {outer : List Env} {base h₀ : Heap} {L fa : Addr} {cd : Value} {m : Str → Option Value} {s : Shared} {Q : Flow → Shared → Prop}
  {rl fl : Addr} {nrl : Nat} {rest : List (Addr × Obj)} {b0 : RowR}
/-- all tokens of the rows -/
def flatOf (rs : List RowR) : List TD := rs.flatMap fun q => q.2.2.map (·.2)
theorem rows_any {recs : List RowR} {E : Value → Shared → Prop} (hr : recs.length ≤ 2)
  (B : Below A₀ base outer h₀) (F : Fr h₀ L s.heap m) (X : (hd.heap_1 w.params).In h₀) (TT : Top p loose mean mg mb h₀) (hm1 : m (Str.ofString "rows") = some (.ref rl)) (hm2 : m (Str.ofString "base") = some (.ref b0.1)) {Q : Value → Shared → Prop} {news : List (Addr × Obj)}
  (N : News h₀ L s.heap ((rl, W.listOf (rowsVal recs).toArray nrl) :: news))
  (ret : ∀ X nX h' tk', LCg.Off1 X ((rl, W.listOf (rowsVal recs).toArray nrl) :: news) → Fr h₀ L h' m → News h₀ L h' ((X, W.listOf (rowsVal (recs.reverse ++ [b0])).toArray nX) :: (rl, W.listOf (rowsVal recs).toArray nrl) :: news) → Q (.ref X) {s with heap := h', toks := tk'}) :
  wpAny (model prog w) (lawA gd L fa cd outer) (eval s5Iter (lawEnv L fa cd)) Q E s := by
  match recs, hr with
  | [], _ => exact rows_0 B F X TT hm1 hm2 N ret
  | [a], _ => exact rows_1 B F X TT hm1 hm2 N ret
  | [a, b], _ => exact rows_2 B F X TT hm1 hm2 N ret
inductive S5J (m0 : Str → Option Value) (rl fl X : Addr) (nX nrl : Nat) (rs recs : List RowR) (rest : List (Addr × Obj)) (i : Nat) (m : Str → Option Value) (news : List (Addr × Obj)) : Prop
  | mk (fus : List (Addr × TD)) (nf : Nat) (new : List (Addr × Obj)) (h : m (Str.ofString "tape") = m0 (Str.ofString "tape") ∧ m (Str.ofString "rows") = m0 (Str.ofString "rows") ∧ m (Str.ofString "base") = m0 (Str.ofString "base") ∧ m (Str.ofString "flat") = some (.ref fl) ∧
    news = (fl, W.listOf (refs fus).toArray nf) :: (new ++ ((X, W.listOf (rowsVal rs).toArray nX) :: (rl, W.listOf (rowsVal recs).toArray nrl) :: rest)) ∧ fus.map (·.2) = flatOf (rs.take i) ∧ fus.length ≤ 8 * i ∧ (∀ q ∈ fus, ToldP (InL new) q.1 q.2) ∧
    (∀ p ∈ new, p.1 ≠ fl) ∧ (∀ p ∈ new, p.1 ≠ rl) ∧ OffNew rest new)
theorem law_s5 {recs : List RowR} (hr : recs.length ≤ 2)
  (B : Below A₀ base outer h₀) (F : Fr h₀ L s.heap m) (X : (hd.heap_1 w.params).In h₀) (TT : Top p loose mean mg mb h₀) (hm1 : m (Str.ofString "rows") = some (.ref rl)) (hm2 : m (Str.ofString "base") = some (.ref b0.1)) (hm3 : m (Str.ofString "flat") = some (.ref fl))
  (c1 : rl ≠ fl) (hF : ∀ p ∈ rest, p.1 ≠ fl) (hok : RowsOk (InL rest) (b0 :: recs)) (hl8 : ∀ q ∈ b0 :: recs, q.2.2.length ≤ 8)
  (N : News h₀ L s.heap ((fl, W.listOf #[] 0) :: (rl, W.listOf (rowsVal recs).toArray nrl) :: rest))
  (ret : ∀ m' fus nf new h' tk', m' (Str.ofString "tape") = m (Str.ofString "tape") → m' (Str.ofString "rows") = m (Str.ofString "rows") → m' (Str.ofString "base") = m (Str.ofString "base") → m' (Str.ofString "flat") = some (.ref fl) →
    fus.map (·.2) = flatOf (recs.reverse ++ [b0]) → (∀ q ∈ fus, ToldP (InL new) q.1 q.2) → (∀ p ∈ new, p.1 ≠ fl) → (∀ p ∈ new, p.1 ≠ rl) → OffNew rest new → Fr h₀ L h' m' →
    News h₀ L h' ((fl, W.listOf (refs fus).toArray nf) :: (rl, W.listOf (rowsVal recs).toArray nrl) :: (new ++ rest)) → Q .next {s with heap := h', toks := tk'}) :
  wpAny (model prog w) (lawA gd L fa cd outer) (execs (lawAt 5) (lawEnv L fa cd)) Q (fun _ _ => False) s := by
  show wpAny _ _ (execs (_ :: []) _) _ _ _
  refine wpAny_execs_cons ?_
  show wpAny _ _ (exec (.For (.Name _ _) s5Iter s5Body [] _) _) _ _ _
  refine wpAny_For (rows_any (news := (fl, W.listOf #[] 0) :: rest) hr B F X TT hm1 hm2 (News.sub N (by (repeat (first | exact List.forall_mem_nil _ | refine List.forall_mem_cons.mpr ⟨by k_mem, ?_⟩ | (intro p hp; repeat (first | exact hp | refine List.mem_cons_of_mem _ ?_)))))) fun x nX h' tk' off F' N' => ?_)
  have off9 := off1_mem off
  have hxf : x ≠ fl := fun e => off9 _ (.tail _ (.head _)) e.symm
  refine forList_FN (S5J m rl fl x nX nrl (recs.reverse ++ [b0]) recs rest) (n := nX) (items := (rowsVal (recs.reverse ++ [b0])).toArray) rfl rfl rfl F' (News.sub (small := (fl, W.listOf (refs []).toArray 0) :: (x, W.listOf (rowsVal (recs.reverse ++ [b0])).toArray nX) :: (rl, W.listOf (rowsVal recs).toArray nrl) :: rest) N' (fun p hp => by simp only [List.mem_cons] at hp ⊢; rcases hp with h | h | h | h <;> (try rw [h]) <;> simp [h, refs])) ?_ ?_ ?_ ?_
  · exact ⟨[], 0, [], rfl, rfl, rfl, hm3, rfl, by simp [flatOf], by simp, (fun _ h => nomatch h), (fun _ h => nomatch h), (fun _ h => nomatch h), (fun _ _ _ h => nomatch h)⟩
  · rintro i m1 news1 ⟨fus, nf, new, _, _, _, _, rfl, _⟩
    simp
  · rintro i v m₁ news₁ h tk1 I oI hv ⟨fus, nf, new, e1, e2, e3, e4, rfl, hf, hfl, ht, n1, n2, n3⟩ hoff F1 N1
    obtain ⟨q, hq, rfl⟩ : ∃ q, (recs.reverse ++ [b0])[i]? = some q ∧ v = .ref q.1 := by
      rw [List.getElem?_toArray] at hv
      unfold rowsVal at hv
      rw [List.getElem?_map] at hv
      cases hq : (recs.reverse ++ [b0])[i]? with
      | none => rw [hq] at hv; cases hv
      | some q => rw [hq] at hv; exact ⟨q, rfl, (Option.some.inj hv).symm⟩
    have hq2 : q ∈ b0 :: recs := by
      have := List.mem_of_getElem? hq
      simp only [List.mem_append, List.mem_reverse, List.mem_singleton] at this
      rcases this with h | h
      · exact .tail _ h
      · rw [h]; exact .head _
    have hi3 : i < 3 := by
      rcases Nat.lt_or_ge i 3 with h | h
      · exact h
      · rw [List.getElem?_eq_none (by simp; omega)] at hq; cases hq
    have hoffI : I ≠ fl := fun e => hoff _ (.head _) e.symm
    refine law_s5_turn (us := fus) (toks := q.2.2) (la := q.1) (nb := q.2.1) (nf := nf) (fl := fl) (rest := (I, oI) :: (new ++ ((x, W.listOf (rowsVal (recs.reverse ++ [b0])).toArray nX) :: (rl, W.listOf (rowsVal recs).toArray nrl) :: rest))) B F1 X TT rfl e4 ?_ (News.sub N1 ?_) ?_ (hl8 q hq2) (by omega) ?_
    · refine List.forall_mem_cons.mpr ⟨hoffI, off_app n1 (List.forall_mem_cons.mpr ⟨hxf, List.forall_mem_cons.mpr ⟨c1, hF⟩⟩)⟩
    · intro p hp
      first
      | (revert hp; revert p; (repeat (first | exact List.forall_mem_nil _ | refine List.forall_mem_cons.mpr ⟨by k_mem, ?_⟩ | (intro p hp; repeat (first | exact hp | refine List.mem_cons_of_mem _ ?_)))); done)
      | (simp only [List.mem_cons] at hp ⊢
         rcases hp with h | h | h <;> simp only [h, true_or, or_true])
    · exact (hok.1 q hq2).mono fun a o z => .tail _ (List.mem_append_right _ (.tail _ (.tail _ z)))
    intro us2 nf' new2 h2 tk2 d1 d2 d3 F2 N2
    refine ⟨rfl, h2, tk2, _, (fl, W.listOf (refs (fus ++ us2)).toArray nf') :: ((new2 ++ new) ++ ((x, W.listOf (rowsVal (recs.reverse ++ [b0])).toArray nX) :: (rl, W.listOf (rowsVal recs).toArray nrl) :: rest)), rfl, F2, News.sub N2 ?_, ?_, ⟨fus ++ us2, nf', new2 ++ new, e1, e2, e3, rfl, rfl, ?_, ?_, ?_, ?_, ?_, ?_⟩⟩
    · intro p hp
      simp only [List.mem_cons, List.mem_append] at hp ⊢
      rcases hp with h | h | (h | h) | h | h | h <;> simp only [h, true_or, or_true]
    · intro p hp
      rcases List.mem_cons.mp hp with h | hp
      · rw [h]; exact hoffI.symm
      · rw [List.append_assoc] at hp
        rcases List.mem_append.mp hp with h | h
        · exact d3 (I, oI) (.tail _ (.head _)) p h
        · exact hoff p (.tail _ h)
    · rw [List.map_append, hf, d1]
      unfold flatOf
      rw [List.take_add_one, hq]
      simp
    · have := congrArg List.length d1
      simp only [List.length_map] at this
      have h8 := hl8 q hq2
      rw [List.length_append]
      omega
    · intro p hp
      rcases List.mem_append.mp hp with h | h
      · exact (ht p h).mono fun a o z => List.mem_append_right _ z
      · exact (d2 p h).mono fun a o z => List.mem_append_left _ z
    · exact off_app (d3 _ (.head _)) n1
    · exact off_app (d3 (rl, W.listOf (rowsVal recs).toArray nrl) (.tail _ (.tail _ (List.mem_append_right _ (.tail _ (.head _)))))) n2
    · intro p hp
      exact off_app (d3 p (.tail _ (.tail _ (List.mem_append_right _ (.tail _ (.tail _ hp)))))) (n3 p hp)
  · rintro m₁ news₁ h tk ⟨fus, nf, new, e1, e2, e3, e4, rfl, hf, hfl, ht, n1, n2, n3⟩ F1 N1
    dsimp only
    (k_steps; all_goals (try k_data))
    refine ret m₁ fus nf new _ _ e1 e2 e3 e4 ?_ ht n1 n2 n3 F1 (News.sub N1 ?_)
    · rw [hf]
      congr 1
      apply List.take_of_length_le
      simp [rowsVal]
    · intro p hp
      simp only [List.mem_cons, List.mem_append] at hp ⊢
      rcases hp with h | h | h | h <;> simp only [h, true_or, or_true]
end

end

section
set_option linter.unusedVariables false
set_option linter.unusedSimpArgs false
variable {w : World} {p : Program} {loose : List Str} {mean : ExcName → Option Value} {mg mb : Str → Option Value}


/-- stands in l, below lo -/
def InLo (l : List (Addr × Obj)) (lo : Nat) : Addr → Obj → Prop := fun a o => (a, o) ∈ l ∧ @LT.lt Nat _ a lo
/-- the reader amid the ledger: its own part and ot (X is both) -/
def RdX (lo hi : Nat) (S D BUF it ML : Addr) (ot X : List (Addr × Obj)) (rem : List (Addr × TD)) : Prop :=
  ∃ RL, X = RL ++ ot ∧ RdSt (InL ot) lo hi S D BUF it ML RL (refs rem) ∧ (∀ p ∈ ot, @LT.lt Nat _ p.1 lo ∨ @LE.le Nat _ hi p.1) ∧ (∀ q ∈ rem, TokP (InLo ot lo) q.1 q.2)
theorem RdX.sub {lo hi : Nat} {S D BUF it ML : Addr} {ot X : List (Addr × Obj)} {rem : List (Addr × TD)} (c : RdX lo hi S D BUF it ML ot X rem) : ∀ a o, InL ot a o → InL X a o := by
  obtain ⟨RL, rfl, _⟩ := c
  exact fun a o h => List.mem_append_right _ h
theorem RdX.push {lo hi : Nat} {S D BUF it ML a : Addr} {o : Obj} {ot X : List (Addr × Obj)} {rem : List (Addr × TD)} (c : RdX lo hi S D BUF it ML ot X rem) (ha : @LT.lt Nat _ a lo ∨ @LE.le Nat _ hi a) :
    ∃ X', RdX lo hi S D BUF it ML ((a, o) :: ot) X' rem ∧ ∀ p, p ∈ X' ↔ p = (a, o) ∨ p ∈ X := by
  obtain ⟨RL, rfl, st, h1, h2⟩ := c
  refine ⟨RL ++ (a, o) :: ot, ⟨RL, rfl, st.mono fun _ _ h => .tail _ h, ?_, ?_⟩, ?_⟩
  · intro p hp
    rcases List.mem_cons.mp hp with h | h
    · rw [h]; exact ha
    · exact h1 p h
  · exact fun q hq => (h2 q hq).mono fun _ _ h => ⟨.tail _ h.1, h.2⟩
  · intro p
    simp only [List.mem_append, List.mem_cons]
    constructor
    · rintro (h | h | h) <;> simp [h]
    · rintro (h | h | h) <;> simp [h]
theorem RdX.ne {lo hi : Nat} {S D BUF it ML a : Addr} {ot X : List (Addr × Obj)} {rem : List (Addr × TD)} (c : RdX lo hi S D BUF it ML ot X rem) (ha : @LT.lt Nat _ a lo ∨ @LE.le Nat _ hi a) (ho : ∀ p ∈ ot, p.1 ≠ a) : ∀ p ∈ X, p.1 ≠ a := by
  obtain ⟨RL, rfl, st, h1, h2⟩ := c
  intro p hp e
  rcases List.mem_append.mp hp with h | h
  · have z := st.range.1 p h
    rw [e] at z
    rcases ha with q | q
    · exact Nat.lt_irrefl _ (Nat.lt_of_lt_of_le q z.1)
    · exact Nat.lt_irrefl _ (Nat.lt_of_le_of_lt q z.2)
  · exact ho p h e
theorem tokF_of {h : Heap} {ot : List (Addr × Obj)} {lo : Nat} {x : Addr} {D : TD} (T : TokP (InLo ot lo) x D) (hP : ∀ a o, (a, o) ∈ ot → h.get? a = some o) : TokF h lo x D.f := by
  obtain ⟨d, l, dl, h1, h2, k1, k2, k3, k4, k5, k6, k7, k8, k9, a, b, _, _⟩ := T
  exact ⟨d, _, h1, h2, k3, k4, k5, D.sp, a.2, b.2, ⟨hP _ _ a.1, rfl, rfl, hP _ _ b.1⟩⟩
inductive EndOk (S D : Addr) (oS oD : Obj) (lo hi : Nat) (X : List (Addr × Obj)) : List (Addr × Obj) → (List (Addr × Obj) → List (Addr × Obj)) → Prop
  | here : EndOk S D oS oD lo hi X X (fun Y => Y)
  | self {r : List (Addr × Obj)} {g : List (Addr × Obj) → List (Addr × Obj)} : EndOk S D oS oD lo hi X r g → EndOk S D oS oD lo hi X ((S, oS) :: r) (fun Y => (S, oS) :: g Y)
  | dict {r : List (Addr × Obj)} {g : List (Addr × Obj) → List (Addr × Obj)} : EndOk S D oS oD lo hi X r g → EndOk S D oS oD lo hi X ((D, oD) :: r) (fun Y => (D, oD) :: g Y)
  | low {p : Addr × Obj} {r : List (Addr × Obj)} {g : List (Addr × Obj) → List (Addr × Obj)} : @LT.lt Nat _ p.1 lo → EndOk S D oS oD lo hi X r g → EndOk S D oS oD lo hi X (p :: r) (fun Y => p :: g Y)
  | high {p : Addr × Obj} {r : List (Addr × Obj)} {g : List (Addr × Obj) → List (Addr × Obj)} : @LE.le Nat _ hi p.1 → EndOk S D oS oD lo hi X r g → EndOk S D oS oD lo hi X (p :: r) (fun Y => p :: g Y)
theorem EndOk.pre {S D : Addr} {oS oD : Obj} {lo hi : Nat} {X r : List (Addr × Obj)} {g : List (Addr × Obj) → List (Addr × Obj)} (e : EndOk S D oS oD lo hi X r g) :
    ∃ pre, (∀ Y, g Y = pre ++ Y) ∧ r = pre ++ X ∧ ∀ p ∈ pre, p = (S, oS) ∨ p = (D, oD) ∨ @LT.lt Nat _ p.1 lo ∨ @LE.le Nat _ hi p.1 := by
  induction e with
  | here => exact ⟨[], fun _ => rfl, rfl, fun _ h => nomatch h⟩
  | self _ ih =>
    obtain ⟨pre, h1, h2, h3⟩ := ih
    exact ⟨_ :: pre, fun Y => congrArg (List.cons _) (h1 Y), by rw [h2]; rfl, List.forall_mem_cons.mpr ⟨.inl rfl, h3⟩⟩
  | dict _ ih =>
    obtain ⟨pre, h1, h2, h3⟩ := ih
    exact ⟨_ :: pre, fun Y => congrArg (List.cons _) (h1 Y), by rw [h2]; rfl, List.forall_mem_cons.mpr ⟨.inr (.inl rfl), h3⟩⟩
  | low h _ ih =>
    obtain ⟨pre, h1, h2, h3⟩ := ih
    exact ⟨_ :: pre, fun Y => congrArg (List.cons _) (h1 Y), by rw [h2]; rfl, List.forall_mem_cons.mpr ⟨.inr (.inr (.inl h)), h3⟩⟩
  | high h _ ih =>
    obtain ⟨pre, h1, h2, h3⟩ := ih
    exact ⟨_ :: pre, fun Y => congrArg (List.cons _) (h1 Y), by rw [h2]; rfl, List.forall_mem_cons.mpr ⟨.inr (.inr (.inr h)), h3⟩⟩
section
variable {gd : Option (List Code)} {A A₀ : Around} {env : Env} {outer : List Env} {base h₀ : Heap} {L : Addr} {m : Str → Option Value} {s : Shared} {R : Result → Shared → Prop}
  {S D BUF it ML : Addr} {k : FeK} {on : Bool} {dp : Int} {tp : Tok} {lo hi : Nat} {ot Z news : List (Addr × Obj)} {g : List (Addr × Obj) → List (Addr × Obj)} {rem : List (Addr × TD)} {q : Addr × TD}
/-- the frame around a call on the reader -/
theorem around_rd {h h' : Heap} {oS oD : Obj} {RL RL' : List (Addr × Obj)} {rem' : List Value} (N : News h₀ L h news) (V : EndOk S D oS oD lo hi (RL ++ ot) news g)
    (ho : ∀ p ∈ ot, @LT.lt Nat _ p.1 lo ∨ @LE.le Nat _ hi p.1) (hR : (∀ p ∈ RL, @LE.le Nat _ lo p.1 ∧ @LT.lt Nat _ p.1 hi) ∧ @LE.le Nat _ lo S ∧ @LT.lt Nat _ S hi ∧ @LE.le Nat _ lo D ∧ @LT.lt Nat _ D hi ∧ @LT.lt Nat _ D S)
    (x : ExtB (S :: D :: RL.map (·.1)) h h') (N' : News h₀ L h' ((S, oS) :: (D, oD) :: RL')) : News h₀ L h' (g (RL' ++ ot)) := by
  obtain ⟨pre, h1, h2, h3⟩ := V.pre
  have key : ∀ p ∈ news, (@LT.lt Nat _ p.1 lo ∨ @LE.le Nat _ hi p.1) → h'.get? p.1 = some p.2 ∧ p.1 ≠ L ∧ h₀.get? p.1 = none := by
    intro p hp hq
    refine ⟨x _ _ (N p hp).1 ?_, (N p hp).2⟩
    intro hm
    have : @LE.le Nat _ lo p.1 ∧ @LT.lt Nat _ p.1 hi := by
      rcases List.mem_cons.mp hm with e | hm
      · rw [e]; exact ⟨hR.2.1, hR.2.2.1⟩
      rcases List.mem_cons.mp hm with e | hm
      · rw [e]; exact ⟨hR.2.2.2.1, hR.2.2.2.2.1⟩
      obtain ⟨y, hy, e⟩ := List.mem_map.mp hm
      rw [← e]; exact hR.1 y hy
    rcases hq with z | z
    · exact Nat.lt_irrefl _ (Nat.lt_of_lt_of_le z this.1)
    · exact Nat.lt_irrefl _ (Nat.lt_of_le_of_lt z this.2)
  rw [h1]
  intro p hp
  rcases List.mem_append.mp hp with h | h
  · rcases h3 p h with e | e | e
    · rw [e]; exact N' _ (.head _)
    · rw [e]; exact N' _ (.tail _ (.head _))
    · exact key p (by rw [h2]; exact List.mem_append_left _ h) e
  · rcases List.mem_append.mp h with h | h
    · exact N' _ (.tail _ (.tail _ h))
    · exact key p (by rw [h2]; exact List.mem_append_right _ (List.mem_append_right _ h)) (ho p h)
theorem fnext_go
  (B : Below A₀ base outer h₀) (F : Fr h₀ L s.heap m) (X : (hd.heap_1 w.params).In h₀) (TT : Top p loose mean mg mb h₀) (hA : Fits A 550 5500 env outer L) (RD : RdX lo hi S D BUF it ML ot Z (q :: rem)) (mS : (S, instObj 67 D) ∈ news) (mD : (D, feDict k BUF it ML on dp tp) ∈ news)
  (V : EndOk S D (instObj 67 D) (feDict k BUF it ML on dp tp) lo hi Z news g) (N : News h₀ L s.heap news) (no : ¬ (on = true ∧ dp = 0 ∧ q.2.f = true))
  (ret : ∀ Z' h' tk', Fr h₀ L h' m → News h₀ L h' (g Z') → RdX lo hi S D BUF it ML ot Z' rem → TokP (InL Z') q.1 q.2 → R (.ok (.ret (.ref q.1))) {s with heap := h', toks := tk'}) :
  codeAny (model prog w) A (.call (.ref 57) ⟨[.ref S], []⟩) R s := by
  obtain ⟨RL, rfl, st, h1, h2⟩ := RD
  have hX : ∀ p ∈ RL ++ ot, p ∈ news := fun p hp => by obtain ⟨pre, _, e, _⟩ := V.pre; rw [e]; exact List.mem_append_right _ hp
  have hP : ∀ a o, InL ot a o → s.heap.get? a = some o := fun a o h => (N _ (hX _ (List.mem_append_right _ h))).1
  refine fnext_cons_st (P := InL ot) B F X TT hA (News.sub N (List.forall_mem_cons.mpr ⟨mS, List.forall_mem_cons.mpr ⟨mD, fun p hp => hX p (List.mem_append_left _ hp)⟩⟩)) hP st rfl (tokF_of (h2 q (.head _)) hP)
    (fun a b c => absurd ⟨a, b, c⟩ no) (fun _ RL' h' tk' x F' N' st' => ?_)
  exact ret (RL' ++ ot) h' tk' F' (around_rd (rem' := refs rem) N V h1 st.range x N') ⟨RL', rfl, st', h1, fun z hz => h2 z (.tail _ hz)⟩ ((h2 q (.head _)).mono fun a o h => List.mem_append_right _ h.1)
theorem fnext_stay
  (B : Below A₀ base outer h₀) (F : Fr h₀ L s.heap m) (X : (hd.heap_1 w.params).In h₀) (TT : Top p loose mean mg mb h₀) (hA : Fits A 550 5500 env outer L) (RD : RdX lo hi S D BUF it ML ot Z (q :: rem)) (mS : (S, instObj 67 D) ∈ news) (mD : (D, feDict k BUF it ML on dp tp) ∈ news)
  (V : EndOk S D (instObj 67 D) (feDict k BUF it ML on dp tp) lo hi Z news g) (N : News h₀ L s.heap news) (no : on = true ∧ dp = 0 ∧ q.2.f = true)
  (ret : ∀ Z' h' tk', Fr h₀ L h' m → News h₀ L h' (g Z') → RdX lo hi S D BUF it ML ot Z' (q :: rem) → R (.ok (.ret .none)) {s with heap := h', toks := tk'}) :
  codeAny (model prog w) A (.call (.ref 57) ⟨[.ref S], []⟩) R s := by
  obtain ⟨RL, rfl, st, h1, h2⟩ := RD
  have hX : ∀ p ∈ RL ++ ot, p ∈ news := fun p hp => by obtain ⟨pre, _, e, _⟩ := V.pre; rw [e]; exact List.mem_append_right _ hp
  have hP : ∀ a o, InL ot a o → s.heap.get? a = some o := fun a o h => (N _ (hX _ (List.mem_append_right _ h))).1
  refine fnext_cons_st (P := InL ot) B F X TT hA (News.sub N (List.forall_mem_cons.mpr ⟨mS, List.forall_mem_cons.mpr ⟨mD, fun p hp => hX p (List.mem_append_left _ hp)⟩⟩)) hP st rfl (tokF_of (h2 q (.head _)) hP)
    (fun _ _ _ RL' h' tk' x F' N' st' => ?_) (fun z => absurd no z)
  exact ret (RL' ++ ot) h' tk' F' (around_rd (rem' := refs rem) N V h1 st.range x N') ⟨RL', rfl, st', h1, h2⟩
theorem fnext_end
  (B : Below A₀ base outer h₀) (F : Fr h₀ L s.heap m) (X : (hd.heap_1 w.params).In h₀) (TT : Top p loose mean mg mb h₀) (hA : Fits A 550 5500 env outer L) (RD : RdX lo hi S D BUF it ML ot Z []) (mS : (S, instObj 67 D) ∈ news) (mD : (D, feDict k BUF it ML on dp tp) ∈ news)
  (V : EndOk S D (instObj 67 D) (feDict k BUF it ML on dp tp) lo hi Z news g) (N : News h₀ L s.heap news)
  (ret : ∀ Z' h' tk', Fr h₀ L h' m → News h₀ L h' (g Z') → RdX lo hi S D BUF it ML ot Z' [] → R (.ok (.ret .none)) {s with heap := h', toks := tk'}) :
  codeAny (model prog w) A (.call (.ref 57) ⟨[.ref S], []⟩) R s := by
  obtain ⟨RL, rfl, st, h1, h2⟩ := RD
  have hX : ∀ p ∈ RL ++ ot, p ∈ news := fun p hp => by obtain ⟨pre, _, e, _⟩ := V.pre; rw [e]; exact List.mem_append_right _ hp
  have hP : ∀ a o, InL ot a o → s.heap.get? a = some o := fun a o h => (N _ (hX _ (List.mem_append_right _ h))).1
  refine fnext_nil_st (P := InL ot) B F X TT hA (News.sub N (List.forall_mem_cons.mpr ⟨mS, List.forall_mem_cons.mpr ⟨mD, fun p hp => hX p (List.mem_append_left _ hp)⟩⟩)) hP st rfl
    (fun RL' h' tk' x F' N' st' => ?_)
  exact ret (RL' ++ ot) h' tk' F' (around_rd (rem' := refs []) N V h1 st.range x N') ⟨RL', rfl, st', h1, h2⟩
theorem fpeek_go
  (B : Below A₀ base outer h₀) (F : Fr h₀ L s.heap m) (X : (hd.heap_1 w.params).In h₀) (TT : Top p loose mean mg mb h₀) (hA : Fits A 550 5500 env outer L) (RD : RdX lo hi S D BUF it ML ot Z (q :: rem)) (mS : (S, instObj 67 D) ∈ news) (mD : (D, feDict k BUF it ML on dp tp) ∈ news)
  (V : EndOk S D (instObj 67 D) (feDict k BUF it ML on dp tp) lo hi Z news g) (N : News h₀ L s.heap news) (no : ¬ (on = true ∧ dp = 0 ∧ q.2.f = true))
  (ret : ∀ Z' h' tk', Fr h₀ L h' m → News h₀ L h' (g Z') → RdX lo hi S D BUF it ML ot Z' (q :: rem) → TokP (InL Z') q.1 q.2 → R (.ok (.ret (.ref q.1))) {s with heap := h', toks := tk'}) :
  codeAny (model prog w) A (.call (.ref 49) ⟨[.ref S], []⟩) R s := by
  obtain ⟨RL, rfl, st, h1, h2⟩ := RD
  have hX : ∀ p ∈ RL ++ ot, p ∈ news := fun p hp => by obtain ⟨pre, _, e, _⟩ := V.pre; rw [e]; exact List.mem_append_right _ hp
  have hP : ∀ a o, InL ot a o → s.heap.get? a = some o := fun a o h => (N _ (hX _ (List.mem_append_right _ h))).1
  refine fpeek_cons_st (P := InL ot) B F X TT hA (News.sub N (List.forall_mem_cons.mpr ⟨mS, List.forall_mem_cons.mpr ⟨mD, fun p hp => hX p (List.mem_append_left _ hp)⟩⟩)) hP st rfl (tokF_of (h2 q (.head _)) hP)
    (fun a b c => absurd ⟨a, b, c⟩ no) (fun _ RL' h' tk' x F' N' st' => ?_)
  exact ret (RL' ++ ot) h' tk' F' (around_rd (rem' := refs rem) N V h1 st.range x N') ⟨RL', rfl, st', h1, h2⟩ ((h2 q (.head _)).mono fun a o h => List.mem_append_right _ h.1)
theorem fpeek_stay
  (B : Below A₀ base outer h₀) (F : Fr h₀ L s.heap m) (X : (hd.heap_1 w.params).In h₀) (TT : Top p loose mean mg mb h₀) (hA : Fits A 550 5500 env outer L) (RD : RdX lo hi S D BUF it ML ot Z (q :: rem)) (mS : (S, instObj 67 D) ∈ news) (mD : (D, feDict k BUF it ML on dp tp) ∈ news)
  (V : EndOk S D (instObj 67 D) (feDict k BUF it ML on dp tp) lo hi Z news g) (N : News h₀ L s.heap news) (no : on = true ∧ dp = 0 ∧ q.2.f = true)
  (ret : ∀ Z' h' tk', Fr h₀ L h' m → News h₀ L h' (g Z') → RdX lo hi S D BUF it ML ot Z' (q :: rem) → R (.ok (.ret .none)) {s with heap := h', toks := tk'}) :
  codeAny (model prog w) A (.call (.ref 49) ⟨[.ref S], []⟩) R s := by
  obtain ⟨RL, rfl, st, h1, h2⟩ := RD
  have hX : ∀ p ∈ RL ++ ot, p ∈ news := fun p hp => by obtain ⟨pre, _, e, _⟩ := V.pre; rw [e]; exact List.mem_append_right _ hp
  have hP : ∀ a o, InL ot a o → s.heap.get? a = some o := fun a o h => (N _ (hX _ (List.mem_append_right _ h))).1
  refine fpeek_cons_st (P := InL ot) B F X TT hA (News.sub N (List.forall_mem_cons.mpr ⟨mS, List.forall_mem_cons.mpr ⟨mD, fun p hp => hX p (List.mem_append_left _ hp)⟩⟩)) hP st rfl (tokF_of (h2 q (.head _)) hP)
    (fun _ _ _ RL' h' tk' x F' N' st' => ?_) (fun z => absurd no z)
  exact ret (RL' ++ ot) h' tk' F' (around_rd (rem' := refs rem) N V h1 st.range x N') ⟨RL', rfl, st', h1, h2⟩
theorem fpeek_end
  (B : Below A₀ base outer h₀) (F : Fr h₀ L s.heap m) (X : (hd.heap_1 w.params).In h₀) (TT : Top p loose mean mg mb h₀) (hA : Fits A 550 5500 env outer L) (RD : RdX lo hi S D BUF it ML ot Z []) (mS : (S, instObj 67 D) ∈ news) (mD : (D, feDict k BUF it ML on dp tp) ∈ news)
  (V : EndOk S D (instObj 67 D) (feDict k BUF it ML on dp tp) lo hi Z news g) (N : News h₀ L s.heap news)
  (ret : ∀ Z' h' tk', Fr h₀ L h' m → News h₀ L h' (g Z') → RdX lo hi S D BUF it ML ot Z' [] → R (.ok (.ret .none)) {s with heap := h', toks := tk'}) :
  codeAny (model prog w) A (.call (.ref 49) ⟨[.ref S], []⟩) R s := by
  obtain ⟨RL, rfl, st, h1, h2⟩ := RD
  have hX : ∀ p ∈ RL ++ ot, p ∈ news := fun p hp => by obtain ⟨pre, _, e, _⟩ := V.pre; rw [e]; exact List.mem_append_right _ hp
  have hP : ∀ a o, InL ot a o → s.heap.get? a = some o := fun a o h => (N _ (hX _ (List.mem_append_right _ h))).1
  refine fpeek_nil_st (P := InL ot) B F X TT hA (News.sub N (List.forall_mem_cons.mpr ⟨mS, List.forall_mem_cons.mpr ⟨mD, fun p hp => hX p (List.mem_append_left _ hp)⟩⟩)) hP st rfl
    (fun RL' h' tk' x F' N' st' => ?_)
  exact ret (RL' ++ ot) h' tk' F' (around_rd (rem' := refs []) N V h1 st.range x N') ⟨RL', rfl, st', h1, h2⟩
end
section
variable {gd : Option (List Code)} {A A₀ : Around} {env : Env} {outer : List Env} {base h₀ : Heap} {L : Addr} {m : Str → Option Value} {s : Shared} {R : Result → Shared → Prop}
  {x z : Addr} {DD : TD} {news : List (Addr × Obj)} {zi : Array Value} {zn : Nat}
theorem told_fin {h h' : Heap} {u : Addr} {k1 k2 k3 k4 k5 : Tok} {P : Prop} (N : News h₀ L h news) (hz : (z, W.listOf zi zn) ∈ news) (x : ExtB [z] h h') (N' : News h₀ L h' [(u, toldObj DD k1 k2 k3 k4 k5), (z, W.listOf zi zn)])
    (ret : ExtB [] h h' → News h₀ L h' ((u, toldObj DD k1 k2 k3 k4 k5) :: news) → P) : P := by
  have y : ExtB [] h h' := fun b o e _ => by
    by_cases hb : b = z
    · subst hb
      rw [(N _ hz).1] at e
      rw [← e]; exact (N' _ (.tail _ (.head _))).1
    · exact x b o e (by simp [hb])
  refine ret y fun p hp => ?_
  rcases List.mem_cons.mp hp with e | hp
  · rw [e]; exact N' _ (.head _)
  · exact ⟨y _ _ (N p hp).1 (by simp), (N p hp).2⟩
theorem told_law
  (B : Below A₀ base outer h₀) (F : Fr h₀ L s.heap m) (X : (hd.heap_1 w.params).In h₀) (TT : Top p loose mean mg mb h₀) (hA : Fits A 600 6000 env outer L) (N : News h₀ L s.heap news) (hT : TokP (InL news) x DD) (hz : (z, W.listOf zi zn) ∈ news)
  (ret : ∀ u k1 k2 k3 k4 k5 h' tk', @LT.lt Nat _ z u → (∀ q ∈ news, q.1 ≠ u) → Fr h₀ L h' m → News h₀ L h' ((u, toldObj DD k1 k2 k3 k4 k5) :: news) → R (.ok (.ret (.ref u))) {s with heap := h', toks := tk'}) :
  codeAny (model prog w) A (.call (.ref 287) ⟨[.ref x], []⟩) R s := by
  have N1 := N
  clear N
  have N0 : News h₀ L s.heap [(z, W.listOf zi zn)] := News.sub N1 (List.forall_mem_cons.mpr ⟨hz, List.forall_mem_nil _⟩)
  obtain ⟨d, l, dl, h1, h2, k1, k2, k3, k4, k5, k6, k7, k8, k9, a1, a2, a3, a4⟩ := hT
  have ne : ∀ a o, (a, o) ∈ news → o.cls ≠ .type "list" → a ∉ [z] := fun a o h hc e => by
    rw [List.mem_singleton] at e
    subst e
    have := (N1 _ h).1.symm.trans (N1 _ hz).1
    simp only [Option.some.injEq] at this
    rw [this] at hc
    exact hc rfl
  refine codeAny_fits hA fun hf hke => ?_
  k_dflt (refine' code_defE ?k1 ?k2 ?k3 ?k4 ?k5 ?kA ?kF ?kK ?k6 ?k7 ?k8 ?k9 ?kB ?_ ?c2 ?c3 ?c4 ?c5; (case kA => exact rfl); (case kF => first | assumption | exact rfl); (case kK => first | assumption | exact rfl); (case k1 => k_asm); (case k2 => k_asm); (case k3 => k_asm); (case k4 => k_asm); (case k5 => k_asm); (case k6 => k_is); (case k7 => k_is); (case k8 => ktr_room); (case k9 => exact BindsTo.of_eq rfl); (case c5 => decide); (case kB => exact locs rfl); (case c2 => exact rfl); (case c3 => exact rfl); (case c4 => exact rfl); k_whole; intro g' L' h' FG' F' N' B' X' T' l1 hk1 hg1 hn1; (try dsimp only); (try k_fold))
  have I1 : InstAt g' x (tokObj d l DD.val k1 k2) 248 (some (tokDict h1 h2 k3 k4 k5 DD.sp DD.f)) := ⟨hg1 _ _ (N1 _ a1).1 (ne _ _ a1 (by first | (intro h; cases h; done) | (intro h; injection h with h; exact absurd h (by decide)))), rfl, rfl, hg1 _ _ (N1 _ a2).1 (ne _ _ a2 (by first | (intro h; cases h; done) | (intro h; injection h with h; exact absurd h (by decide))))⟩
  have I2 : InstAt g' l (locObj dl DD.row DD.col k6 k7 k8 k9) 200 (some (dictOf [] 0)) := ⟨hg1 _ _ (N1 _ a3).1 (ne _ _ a3 (by first | (intro h; cases h; done) | (intro h; injection h with h; exact absurd h (by decide)))), rfl, rfl, hg1 _ _ (N1 _ a4).1 (ne _ _ a4 (by first | (intro h; cases h; done) | (intro h; injection h with h; exact absurd h (by decide))))⟩
  k_steps
  all_goals (try k_data)
  refine' told_fin (u := ?u) (k1 := ?k1) (k2 := ?k2) (k3 := ?k3) (k4 := ?k4) (k5 := ?k5) (h' := ?h) (DD := DD) N1 hz ?x ?N fun xx NN => ret ?u ?k1 ?k2 ?k3 ?k4 ?k5 ?h ?t ?lt ?ne ?F NN
  (case F => k_asm)
  (case x => k_asm)
  (case N => refine News.sub (by k_asm) ?_; (repeat (first | exact List.forall_mem_nil _ | refine List.forall_mem_cons.mpr ⟨by k_mem, ?_⟩ | (intro p hp; repeat (first | exact hp | refine List.mem_cons_of_mem _ ?_)))))
  (case lt => omega)
  (case ne =>
    intro q hq e
    have hu := News.fresh (h₀ := g') (L := L') (news := [(_, toldObj DD _ _ _ _ _)]) (News.sub (by k_asm) (by (repeat (first | exact List.forall_mem_nil _ | refine List.forall_mem_cons.mpr ⟨by k_mem, ?_⟩ | (intro p hp; repeat (first | exact hp | refine List.mem_cons_of_mem _ ?_)))))) (.head _)
    by_cases hz9 : q.1 ∈ [z]
    · rw [List.mem_singleton] at hz9
      have : @Ne Nat q.1 z := by rw [e]; omega
      exact this hz9
    · rw [← e, hg1 _ _ (N1 _ hq).1 hz9] at hu
      cases hu)
end

end

section
set_option linter.unusedVariables false
set_option linter.unusedSimpArgs false
variable {w : World} {p : Program} {loose : List Str} {mean : ExcName → Option Value} {mg mb : Str → Option Value}


theorem News.back {h₀ h h' : Heap} {L : Addr} {news small : List (Addr × Obj)} {as : List Addr} (N : News h₀ L h news) (x : ExtB as h h') (hs : ∀ p ∈ small, p ∈ news) (ha : ∀ a ∈ as, ∃ o, (a, o) ∈ small) (N' : News h₀ L h' small) : News h₀ L h' news := fun p hp => by
  refine ⟨?_, (N p hp).2⟩
  by_cases q : p.1 ∈ as
  · obtain ⟨o, ho⟩ := ha _ q
    have e := (N _ (hs _ ho)).1.symm.trans (N _ hp).1
    have e2 := (N' _ ho).1
    rw [e] at e2
    exact e2
  · exact x _ _ (N p hp).1 q
theorem max_of : ∀ (l : List (Addr × Obj)), l ≠ [] → ∃ p ∈ l, ∀ q ∈ l, @LE.le Nat _ q.1 p.1 := by
  intro l
  induction l with
  | nil => exact fun h => absurd rfl h
  | cons a r ih =>
    intro _
    rcases r with _ | ⟨b, r⟩
    · exact ⟨a, .head _, fun q hq => by rw [List.mem_singleton.mp hq]; exact Nat.le_refl _⟩
    · obtain ⟨p, hp, h⟩ := ih (by simp)
      rcases Nat.le_total a.1 p.1 with z | z
      · refine ⟨p, .tail _ hp, fun q hq => ?_⟩
        rcases List.mem_cons.mp hq with e | e
        · rw [e]; exact z
        · exact h q e
      · refine ⟨a, .head _, fun q hq => ?_⟩
        rcases List.mem_cons.mp hq with e | e
        · rw [e]; exact Nat.le_refl _
        · exact Nat.le_trans (h q e) z
/-- all tokens of the rows, with their places -/
def flatR (rs : List RowR) : List (Addr × TD) := rs.flatMap fun q => q.2.2
theorem flatR_of (rs : List RowR) : (flatR rs).map (·.2) = flatOf rs := by
  unfold flatR flatOf
  rw [List.map_flatMap]
theorem flatR_mem {rs : List RowR} {q : Addr × TD} (h : q ∈ flatR rs) : ∃ r ∈ rs, q ∈ r.2.2 := List.mem_flatMap.mp h
def rdBody : List Stmt := (topAt 15).1
def rdScope : Scope := (topAt 15).2
def rdIter : Expr := forIter rdBody 1
def rdTurn : List Stmt := forBody rdBody 1
abbrev rdEnv (L : Addr) : Env := envOf (Str.ofString "_law_reader") rdScope L 280 (.ref 279)
abbrev rdA (gd : Option (List Code)) (L : Addr) (outer : List Env) : Around := Lv 451 4503 gd (rdEnv L) outer
theorem Stk.tight {P : Addr → Obj → Prop} {lo bot u u' : Nat} {st : List Mac} (c : Stk P lo bot u st) (h : ∀ p ∈ stkLed st, @LT.lt Nat _ p.1 u') : Stk P lo bot u' st := by
  cases st with
  | nil => trivial
  | cons x xs => exact ⟨c.1, c.2.1, c.2.2.1, c.2.2.2.1, h (x.b, W.listOf x.bs x.nb) (by rw [stkLed_cons]; exact List.mem_append_left _ (.tail _ (.tail _ (.head _)))), c.2.2.2.2.2⟩
section
variable {gd : Option (List Code)} {A₀ : Around} {outer : List Env} {base h₀ : Heap} {L : Addr} {m : Str → Option Value} {s : Shared} {E : Value → Shared → Prop}
  {z rl bl la S D BUF it ML : Addr} {oz orl : Obj} {k : FeK} {tp : Tok} {nb nm n : Nat} {items : Array Value} {ps : List Value} {Y : List (Addr × Obj)}
theorem rd_a {Q : Flow → Shared → Prop}
  (B : Below A₀ base outer h₀) (F : Fr h₀ L s.heap m) (X : (hd.heap_1 w.params).In h₀) (TT : Top p loose mean mg mb h₀) (h1 : m (Str.ofString "rows") = some (.ref rl)) (h2 : m (Str.ofString "base") = some (.ref bl)) (hl : h₀.get? bl = some (W.listOf items n)) (N : News h₀ L s.heap [(rl, orl), (z, oz)]) (hrz : @LE.le Nat _ rl z)
  (ret : ∀ S D k BUF it ML tp nb nm m' h' tk', @LT.lt Nat _ z it → @LT.lt Nat _ it D → @LT.lt Nat _ D S → @LT.lt Nat _ S BUF → @LT.lt Nat _ BUF ML → m' (Str.ofString "reader") = some (.ref S) → m' (Str.ofString "rows") = some (.ref rl) → Fr h₀ L h' m' →
    News h₀ L h' [(S, instObj 67 D), (D, feDict k BUF it ML false 0 tp), (BUF, W.listOf #[] nb), (ML, W.listOf #[] nm), (it, itObj bl 0), (rl, orl), (z, oz)] → Q .next {s with heap := h', toks := tk'}) :
  wpAny (model prog w) (rdA gd L outer) (execs (rdBody.take 1) (rdEnv L)) Q E s := by
  show wpAny _ _ (execs (_ :: []) _) _ _ _
  k_steps
  all_goals (try k_data)
  k_dflt (refine' ret ?S ?D ⟨?h1x, ?h2x, ?h3x, ?h4x, ?h5x, ?h6x, ?h7x, ?h8x, ?t1x, ?t2x, ?t3x, ?t4x, ?t5x, ?t6x, ?t7x, ?t8x, ?v1x, ?v2x, ?v3x⟩ ?BUF ?it ?ML ?tp ?nb ?nm ?m ?h ?tk ?o1 ?o2 ?o3 ?o4 ?o5 ?mr ?mo ?F ?N)
  (case F => k_asm)
  (case N => k_dflt (refine News.sub (by k_asm) ?_; (repeat (first | exact List.forall_mem_nil _ | refine List.forall_mem_cons.mpr ⟨by k_mem, ?_⟩ | (intro p hp; repeat (first | exact hp | refine List.mem_cons_of_mem _ ?_))))))
  (case mr => exact rfl)
  (case mo => exact h1)
  all_goals omega
theorem rd_turn {Q : Flow → Shared → Prop}
  (B : Below A₀ base outer h₀) (F : Fr h₀ L s.heap m) (X : (hd.heap_1 w.params).In h₀) (TT : Top p loose mean mg mb h₀) (h1 : m (Str.ofString "reader") = some (.ref S)) (h2 : m (Str.ofString "row") = some (.ref la)) (hl : h₀.get? la = some (W.listOf items n)) (d1 : @LT.lt Nat _ D S) (d2 : @LT.lt Nat _ S ML) (hz : ps.length ≤ 100) (hY : ∀ p ∈ Y, p.1 ≠ ML)
  (N : News h₀ L s.heap ((S, instObj 67 D) :: (D, feDict k BUF it ML false 0 tp) :: (ML, W.listOf ps.toArray nm) :: Y))
  (ret : ∀ im dM M b hs e1 e2 e3 t1 t2 t3 nb' h' tk', (∀ p ∈ Y, @LT.lt Nat _ p.1 im) → @LT.lt Nat _ ML im → @LT.lt Nat _ im dM → @LT.lt Nat _ dM M → @LT.lt Nat _ M b → Fr h₀ L h' m →
    News h₀ L h' ((M, instObj 110 dM) :: (dM, meDict e1 e2 e3 t1 t2 t3 im b hs) :: (b, W.listOf #[] nb') :: (im, itObj la 0) :: (S, instObj 67 D) :: (D, feDict k BUF it ML false 0 tp) :: (ML, W.listOf (ps ++ [Value.ref M]).toArray (nm + 1)) :: Y) → Q .next {s with heap := h', toks := tk'}) :
  wpAny (model prog w) (rdA gd L outer) (execs rdTurn (rdEnv L)) Q E s := by
  have hz2 : ps.toArray.size ≤ 100 := by simpa using hz
  show wpAny _ _ (execs (_ :: []) _) _ _ _
  k_steps
  all_goals (try k_data)
  refine' ret ?im ?dM ?M ?b ?hs ?e1 ?e2 ?e3 ?t1 ?t2 ?t3 ?nb ?h ?tk ?o0 ?o1 ?o2 ?o3 ?o4 ?F ?N
  (case F => k_asm)
  (case N => rw [← List.push_toArray]; refine News.sub (by k_asm) ?_; (repeat (first | exact List.forall_mem_nil _ | refine List.forall_mem_cons.mpr ⟨by k_mem, ?_⟩ | (intro p hp; repeat (first | exact hp | refine List.mem_cons_of_mem _ ?_)))))
  (case o0 => exact fun p hp => allLt_all (by k_asm) p (.tail _ (.tail _ (.tail _ hp))))
  all_goals omega
theorem rd_ret {Q : Flow → Shared → Prop} {news : List (Addr × Obj)}
  (B : Below A₀ base outer h₀) (F : Fr h₀ L s.heap m) (X : (hd.heap_1 w.params).In h₀) (TT : Top p loose mean mg mb h₀) (h1 : m (Str.ofString "reader") = some (.ref S)) (N : News h₀ L s.heap news)
  (ret : ∀ m' h' tk', Fr h₀ L h' m' → News h₀ L h' news → Q (.ret (.ref S)) {s with heap := h', toks := tk'}) :
  wpAny (model prog w) (rdA gd L outer) (execs (rdBody.drop 2) (rdEnv L)) Q E s := by
  show wpAny _ _ (execs (_ :: []) _) _ _ _
  k_steps
  all_goals (try k_data)
  all_goals (exact ret _ _ _ (by k_asm) (by k_asm))
end
section
variable {gd : Option (List Code)} {A₀ : Around} {outer : List Env} {base h₀ : Heap} {L : Addr} {m : Str → Option Value} {s : Shared}
  {z rl : Addr} {oz : Obj} {nrl : Nat} {b0 : RowR} {recs : List RowR} {P : Addr → Obj → Prop}
def topOf (ML : Nat) : List Mac → Nat
  | [] => ML + 1
  | x :: _ => x.b + 1
def rowObj (q : RowR) : Obj := W.listOf (q.2.2.map fun p => Value.ref p.1).toArray q.2.1
theorem rd_all {Q : Flow → Shared → Prop} (hr : recs.length ≤ 2)
  (B : Below A₀ base outer h₀) (F : Fr h₀ L s.heap m) (X : (hd.heap_1 w.params).In h₀) (TT : Top p loose mean mg mb h₀) (h1 : m (Str.ofString "rows") = some (.ref rl)) (h2 : m (Str.ofString "base") = some (.ref b0.1)) (hP : ∀ q ∈ b0 :: recs, h₀.get? q.1 = some (rowObj q) ∧ P q.1 (rowObj q) ∧ @LT.lt Nat _ q.1 z)
  (N : News h₀ L s.heap [(rl, W.listOf (rowsVal recs).toArray nrl), (z, oz)]) (hrz : @LE.le Nat _ rl z)
  (ret : ∀ S D k BUF it ML tp lo hi RL m' h' tk', RdSt P lo hi S D BUF it ML RL (refs (flatR (recs.reverse ++ [b0]))) → @LT.lt Nat _ z lo → (∃ p ∈ RL, hi = p.1 + 1) → Fr h₀ L h' m' →
    News h₀ L h' ((rl, W.listOf (rowsVal recs).toArray nrl) :: (z, oz) :: (S, instObj 67 D) :: (D, feDict k BUF it ML false 0 tp) :: RL) → Q (.ret (.ref S)) {s with heap := h', toks := tk'}) :
  wpAny (model prog w) (rdA gd L outer) (execs rdBody (rdEnv L)) Q (fun _ _ => False) s := by
  show wpAny (model prog w) (rdA gd L outer) (execs (_ :: rdBody.drop 1) _) _ _ _
  refine execs_split (rd_a B F X TT h1 h2 (hP _ (.head _)).1 N hrz ?_)
  intro S D k BUF it ML tp nb nm m1 h1' tk1 o1 o2 o3 o4 o5 mr mo F1 N1
  dsimp only
  have hz1 : @LT.lt Nat _ rl it := by omega
  show wpAny (model prog w) (rdA gd L outer) (execs (.For (.Name _ _) (.Name _ _) rdTurn [] _ :: rdBody.drop 2) _) _ _ _
  refine wpAny_execs_cons (wpAny_For (ld F1 mo ?_))
  refine forList_FN (n := nrl) (items := (rowsVal recs).toArray) (fun i m news => ∃ st nm', st.length = i ∧ m (Str.ofString "reader") = some (.ref S) ∧ Stk P it ML (topOf ML st) st ∧ stkRem st = refs (flatR (recs.take i).reverse) ∧
    news = (S, instObj 67 D) :: (D, feDict k BUF it ML false 0 tp) :: (ML, W.listOf (mls st).toArray nm') :: (stkLed st ++ [(BUF, W.listOf #[] nb), (it, itObj b0.1 0), (rl, W.listOf (rowsVal recs).toArray nrl), (z, oz)])) rfl rfl rfl F1 (News.sub N1 ?_) ⟨[], nm, rfl, mr, trivial, rfl, rfl⟩ ?_ ?_ ?_
  · intro p hp
    simp only [stkLed, mls, List.flatMap_nil, List.map_nil, List.reverse_nil, List.nil_append, List.mem_cons, List.not_mem_nil, or_false] at hp ⊢
    rcases hp with h | h | h | h | h | h | h <;> simp only [h, true_or, or_true]
  · rintro i m2 news2 ⟨st, nm', _, _, _, _, rfl⟩
    exact .tail _ (.tail _ (.tail _ (List.mem_append_right _ (.tail _ (.tail _ (.head _))))))
  · rintro i v m2 news2 h3 tk3 I oI hv ⟨st, nm', hl, hs2, hst, he, rfl⟩ hoff F2 N2
    obtain ⟨q, hq, rfl⟩ : ∃ q, recs[i]? = some q ∧ v = .ref q.1 := by
      rw [List.getElem?_toArray] at hv
      unfold rowsVal at hv
      rw [List.getElem?_map] at hv
      cases hq : recs[i]? with
      | none => rw [hq] at hv; cases hv
      | some q => rw [hq] at hv; exact ⟨q, rfl, (Option.some.inj hv).symm⟩
    have hi2 : i < 2 := by
      rcases Nat.lt_or_ge i 2 with h | h
      · exact h
      · rw [List.getElem?_eq_none (by omega)] at hq; cases hq
    obtain ⟨g1, g2, g3⟩ := hP q (.tail _ (List.mem_of_getElem? hq))
    have hI : I ≠ ML := fun e => hoff _ (.tail _ (.tail _ (.head _))) e.symm
    refine rd_turn (ML := ML) (D := D) (S := S) (Y := (I, oI) :: (stkLed st ++ [(BUF, W.listOf #[] nb), (it, itObj b0.1 0), (rl, W.listOf (rowsVal recs).toArray nrl), (z, oz)])) (ps := mls st) (nm := nm') (k := k) (tp := tp) (BUF := BUF) (it := it) B F2 X TT hs2 rfl g1 o3 (by omega) (by simp [mls]; omega) ?_ (News.sub N2 ?_) ?_
    · refine List.forall_mem_cons.mpr ⟨hI, fun p hp => ?_⟩
      rcases List.mem_append.mp hp with h | h
      · have := hst.range p h; exact neN (by omega)
      · simp only [List.mem_cons, List.not_mem_nil, or_false] at h
        rcases h with h | h | h | h <;> rw [h] <;> exact neN (by dsimp only; omega)
    · intro p hp
      first
      | (revert hp; revert p; (repeat (first | exact List.forall_mem_nil _ | refine List.forall_mem_cons.mpr ⟨by k_mem, ?_⟩ | (intro p hp; repeat (first | exact hp | refine List.mem_cons_of_mem _ ?_)))); done)
      | (simp only [List.mem_cons] at hp ⊢
         rcases hp with h | h | h | h | h <;> simp only [h, true_or, or_true])
    intro im dM M b hs e1 e2 e3 t1 t2 t3 nb' h4 tk4 p0 p1 p2 p3 p4 F4 N4
    have hoffI : ∀ p ∈ [(M, instObj 110 dM), (dM, meDict e1 e2 e3 t1 t2 t3 im b hs), (b, W.listOf #[] nb'), (im, itObj q.1 0)], p.1 ≠ I := by
      have hIim := p0 (I, oI) (.head _)
      intro p hp
      simp only [List.mem_cons, List.not_mem_nil, or_false] at hp
      dsimp only at hIim
      rcases hp with h | h | h | h <;> rw [h] <;> exact neN (by dsimp only; omega)
    refine ⟨rfl, h4, tk4, _, (S, instObj 67 D) :: (D, feDict k BUF it ML false 0 tp) :: (ML, W.listOf (mls (⟨M, dM, b, im, q.1, hs, e1, e2, e3, t1, t2, t3, nb', itObj q.1 0, #[], refs q.2.2⟩ :: st)).toArray (nm' + 1)) :: (stkLed (⟨M, dM, b, im, q.1, hs, e1, e2, e3, t1, t2, t3, nb', itObj q.1 0, #[], refs q.2.2⟩ :: st) ++ [(BUF, W.listOf #[] nb), (it, itObj b0.1 0), (rl, W.listOf (rowsVal recs).toArray nrl), (z, oz)]), rfl, F4, News.sub N4 ?_, ?_,
      ⟨⟨M, dM, b, im, q.1, hs, e1, e2, e3, t1, t2, t3, nb', itObj q.1 0, #[], refs q.2.2⟩ :: st, nm' + 1, by simp [hl], hs2, ⟨p1, p2, p3, p4, Nat.lt_succ_self _, Nat.lt_trans g3 o1, ⟨0, _, _, g2, .inl ⟨rfl, rfl, by simp [refs]⟩⟩, hst.tight fun p hp => p0 p (.tail _ (List.mem_append_left _ hp))⟩, ?_, rfl⟩⟩
    · intro p hp
      rw [mls_cons] at hp
      simp only [stkLed_cons, Mac.led, List.mem_cons, List.mem_append, List.not_mem_nil, or_false] at hp ⊢
      rcases hp with h | h | h | h | ((h | h | h | h) | h) | h | h | h | h <;> simp only [h, true_or, or_true]
    · intro p hp
      rcases List.mem_cons.mp hp with h | hp
      · rw [h]; exact hoff _ (.head _)
      rcases List.mem_cons.mp hp with h | hp
      · rw [h]; exact hoff _ (.tail _ (.head _))
      rcases List.mem_cons.mp hp with h | hp
      · rw [h]; exact hI.symm
      rcases List.mem_append.mp hp with h | h
      · rw [stkLed_cons] at h
        rcases List.mem_append.mp h with h | h
        · exact hoffI p h
        · exact hoff p (.tail _ (.tail _ (.tail _ (List.mem_append_left _ h))))
      · exact hoff p (.tail _ (.tail _ (.tail _ (List.mem_append_right _ h))))
    · rw [stkRem_cons, he, List.take_add_one, hq]
      simp [flatR, refs]
  · rintro m2 news2 h3 tk3 ⟨st, nm', hl, hs2, hst, he, rfl⟩ F2 N2
    dsimp only
    have hlen : st.length = recs.length := by rw [hl]; simp [rowsVal]
    have hML : @LT.lt Nat _ ML (topOf ML st) := by
      cases st with
      | nil => exact Nat.lt_succ_self _
      | cons x xs => obtain ⟨a1, a2, a3, a4, a5, _⟩ := hst; show ML < x.b + 1; omega
    obtain ⟨g1, g2, g3⟩ := hP b0 (.head _)
    refine rd_ret B F2 X TT hs2 N2 fun m' h' tk' F' N' => ?_
    refine ret S D k BUF it ML tp it (topOf ML st) ((BUF, W.listOf #[] nb) :: (ML, W.listOf (mls st).toArray nm') :: (it, itObj b0.1 0) :: stkLed st) m' h' tk' ?_ o1 ?_ F' (News.sub N' ?_)
    · refine ⟨#[], refs b0.2.2, nb, nm', b0.1, itObj b0.1 0, st, rfl, ?_, ⟨Nat.le_refl _, o2, o3, o4, o5, hML⟩, .inl rfl, by omega, ⟨0, _, _, g2, .inl ⟨rfl, by simp [refs]⟩⟩, hst, by omega⟩
      have e : (rowsVal recs).toArray.size = recs.length := by simp [rowsVal]
      rw [he, e, List.take_of_length_le (Nat.le_refl _)]
      simp [flatR, refs]
    · cases st with
      | nil => exact ⟨_, .tail _ (.head _), rfl⟩
      | cons x xs => exact ⟨(x.b, W.listOf x.bs x.nb), .tail _ (.tail _ (.tail _ (by rw [stkLed_cons]; exact List.mem_append_left _ (.tail _ (.tail _ (.head _)))))), rfl⟩
    · intro p hp
      simp only [List.mem_cons, List.mem_append, List.not_mem_nil, or_false] at hp ⊢
      rcases hp with h | h | h | h | h | h | h | h <;> simp only [h, true_or, or_true]
end
section
variable {gd : Option (List Code)} {A A₀ : Around} {env : Env} {outer : List Env} {base h₀ : Heap} {L : Addr} {m : Str → Option Value} {s : Shared} {R : Result → Shared → Prop}
  {rl : Addr} {nrl : Nat} {b0 : RowR} {recs : List RowR} {news sub : List (Addr × Obj)}
def RdRet (s : Shared) (h₀ : Heap) (L : Addr) (m : Str → Option Value) (rem : List (Addr × TD)) (sub news : List (Addr × Obj)) (R : Result → Shared → Prop) : Prop :=
  ∀ S D k BUF it ML tp lo hi Z h' tk', RdX lo hi S D BUF it ML sub Z rem → (∀ p ∈ news, @LT.lt Nat _ p.1 lo) → (∃ p ∈ Z, hi = p.1 + 1) → @LE.le Nat _ lo D → @LT.lt Nat _ D S → @LT.lt Nat _ S hi → Fr h₀ L h' m →
    News h₀ L h' ((S, instObj 67 D) :: (D, feDict k BUF it ML false 0 tp) :: (Z ++ news)) → R (.ok (.ret (.ref S))) {s with heap := h', toks := tk'}
theorem reader_fin {S D : Addr} {k : FeK} {BUF it ML : Addr} {tp : Tok} {RL : List (Addr × Obj)} {lo hi : Nat} {h' : Heap} {tk' : Nat} {z : Addr} {small : List (Addr × Obj)} {as : List Addr} {vals : List Value} {rs : List RowR}
    (N : News h₀ L s.heap news) (hsb : ∀ p ∈ sub, p ∈ news) (hok : ∀ q ∈ rs, RowP (InL sub) q.1 q.2.1 q.2.2) (hz : ∀ q ∈ news, @LE.le Nat _ q.1 z) (hs : ∀ p ∈ small, p ∈ news) (ha : ∀ a ∈ as, ∃ o, (a, o) ∈ small) (hv : vals = refs (flatR rs))
    (st : RdSt (InL sub) lo hi S D BUF it ML RL vals) (zl : @LT.lt Nat _ z lo) (hh : ∃ p ∈ RL, hi = p.1 + 1) (x : ExtB as s.heap h') (F' : Fr h₀ L h' m) (N' : News h₀ L h' (small ++ ((S, instObj 67 D) :: (D, feDict k BUF it ML false 0 tp) :: RL)))
    (ret : RdRet s h₀ L m (flatR rs) sub news R) : R (.ok (.ret (.ref S))) {s with heap := h', toks := tk'} := by
  have hlo : ∀ p ∈ news, @LT.lt Nat _ p.1 lo := fun p hp => Nat.lt_of_le_of_lt (hz p hp) zl
  have N2 := News.back N x hs ha (News.sub N' fun p hp => List.mem_append_left _ hp)
  have rg := st.range
  obtain ⟨p, hp, e⟩ := hh
  refine ret S D k BUF it ML tp lo hi (RL ++ sub) h' tk' ⟨RL, rfl, hv ▸ st, fun p hp => .inl (hlo p (hsb p hp)), fun q hq => ?_⟩ hlo ⟨p, List.mem_append_left _ hp, e⟩ rg.2.2.2.1 rg.2.2.2.2.2 rg.2.2.1 F' ?_
  · obtain ⟨r, hr, hq⟩ := flatR_mem hq
    exact ((hok r hr).2 q hq).1.mono fun a o h => ⟨h, hlo _ (hsb _ h)⟩
  · intro p hp
    rcases List.mem_cons.mp hp with e | hp
    · rw [e]; exact N' _ (List.mem_append_right _ (.head _))
    rcases List.mem_cons.mp hp with e | hp
    · rw [e]; exact N' _ (List.mem_append_right _ (.tail _ (.head _)))
    rcases List.mem_append.mp hp with h | h
    · rcases List.mem_append.mp h with h | h
      · exact N' _ (List.mem_append_right _ (.tail _ (.tail _ h)))
      · exact N2 p (hsb p h)
    · exact N2 p h
theorem News.cut {h₀ h : Heap} {L : Addr} {a b : Addr × Obj} {Z n : List (Addr × Obj)} (N : News h₀ L h (a :: b :: (Z ++ n))) : News h₀ L h (a :: b :: Z) := News.sub N fun p hp => by
  simp only [List.mem_cons, List.mem_append] at hp ⊢
  rcases hp with h | h | h <;> simp [h]
theorem reader_any (hr : recs.length ≤ 2)
  (B : Below A₀ base outer h₀) (F : Fr h₀ L s.heap m) (X : (hd.heap_1 w.params).In h₀) (TT : Top p loose mean mg mb h₀) (hA : Fits A 450 4500 env outer L) (N : News h₀ L s.heap news) (hm : (rl, W.listOf (rowsVal recs).toArray nrl) ∈ news) (hsb : ∀ p ∈ sub, p ∈ news) (hok : RowsOk (InL sub) (b0 :: recs)) (hne : ∀ q ∈ b0 :: recs, rl ≠ q.1) (hab : ∃ p ∈ news, ∀ q ∈ b0 :: recs, @LT.lt Nat _ q.1 p.1)
  (ret : RdRet s h₀ L m (flatR (recs.reverse ++ [b0])) sub news R) :
  codeAny (model prog w) A (.call (.ref 280) ⟨[.ref rl, .ref b0.1], []⟩) R s := by
  obtain ⟨⟨z, oz⟩, hzm, hz⟩ := max_of news (List.ne_nil_of_mem hm)
  have hok2 : ∀ q ∈ recs.reverse ++ [b0], RowP (InL sub) q.1 q.2.1 q.2.2 := fun q hq => hok.1 q (by
    simp only [List.mem_append, List.mem_reverse, List.mem_singleton] at hq
    rcases hq with h | h
    · exact .tail _ h
    · rw [h]; exact .head _)
  have hzq : ∀ q ∈ b0 :: recs, @LT.lt Nat _ q.1 z := fun q hq => by
    obtain ⟨p, hp, h⟩ := hab
    exact Nat.lt_of_lt_of_le (h q hq) (hz p hp)
  have hsm : ∀ p ∈ [(rl, W.listOf (rowsVal recs).toArray nrl), (z, oz)], p ∈ news := List.forall_mem_cons.mpr ⟨hm, List.forall_mem_cons.mpr ⟨hzm, List.forall_mem_nil _⟩⟩
  have N1 := N
  clear N
  have N0 : News h₀ L s.heap [(rl, W.listOf (rowsVal recs).toArray nrl), (z, oz)] := News.sub N1 hsm
  refine codeAny_fits hA fun hf hke => ?_
  k_dflt (refine' code_defE ?k1 ?k2 ?k3 ?k4 ?k5 ?kA ?kF ?kK ?k6 ?k7 ?k8 ?k9 ?kB ?_ ?c2 ?c3 ?c4 ?c5; (case kA => exact rfl); (case kF => first | assumption | exact rfl); (case kK => first | assumption | exact rfl); (case k1 => k_asm); (case k2 => k_asm); (case k3 => k_asm); (case k4 => k_asm); (case k5 => k_asm); (case k6 => k_is); (case k7 => k_is); (case k8 => ktr_room); (case k9 => exact BindsTo.of_eq rfl); (case c5 => decide); (case kB => exact locs rfl); (case c2 => exact rfl); (case c3 => exact rfl); (case c4 => exact rfl); k_whole; intro g' L' h' FG' F' N' B' X' T' l1 hk1 hg1 hn1; (try dsimp only); (try k_fold))
  refine wpAny_mono (rd_all (h₀ := g') (Q := qk) (P := InL sub) (z := z) (oz := oz) (nrl := nrl) (recs := recs) (b0 := b0) hr (by k_asm) (by k_asm) (by k_asm) (by k_asm) rfl rfl ?_ (by k_asm) (hz _ hm) ?_) (fun _ _ q => q) (fun _ _ e => e.elim)
  · intro q hq
    refine ⟨hg1 _ _ (N1 _ (hsb _ (hok.1 q hq).1)).1 ?_, (hok.1 q hq).1, hzq q hq⟩
    intro hmem
    simp only [List.map_cons, List.map_nil, List.mem_cons, List.not_mem_nil, or_false] at hmem
    rcases hmem with e | e
    · exact hne q hq e.symm
    · have := hzq q hq
      rw [e] at this
      exact Nat.lt_irrefl _ this
  intro S D k BUF it ML tp lo hi RL m8 h8 tk8 st zl hh F8 N8
  refine leaveK_ F8 N8 fun kF kN hx => ?_
  exact reader_fin (s := s) (as := [rl, z]) (rs := recs.reverse ++ [b0]) (small := [(rl, W.listOf (rowsVal recs).toArray nrl), (z, oz)]) N1 hsb hok2 hz hsm (by intro a ha; simp only [List.mem_cons, List.not_mem_nil, or_false] at ha; rcases ha with h | h <;> rw [h] <;> exact ⟨_, by k_mem⟩) rfl st zl hh hx kF kN ret
end

end

section
set_option linter.unusedVariables false
set_option linter.unusedSimpArgs false
variable {w : World} {p : Program} {loose : List Str} {mean : ExcName → Option Value} {mg mb : Str → Option Value}


def s8At (i : Nat) : List Stmt := (s8Body.drop i).take 1
theorem ev_pick {prog : Program} {w : World} {A : Around} {E : Value → Shared → Prop} {s : Shared} {value slice : PySem.Expr} {l : Addr} {vs : Array Value} {n : Nat} {k : Int} {u : Tok} {Q : Value → Shared → Prop}
    (hl : s.heap.get? l = some (W.listOf vs n)) (h0 : 0 ≤ k) (hhi : k < (vs.size : Int)) (hn : vs.size ≤ 100) (h : ∀ v, v ∈ vs.toList → Q v s)
    (hs : subscripted slice false (.ref l) (.int k u) = operate [.ref l, .int k u] (getItem (.ref l) (.int k u)) := by with_unfolding_all rfl) :
    wpAny (model prog w) A (subscriptTail value slice (.ref l) (.int k u)) Q E s := by
  have hi : k.toNat < vs.size := by omega
  refine item_litK (vs := vs.toList) (v := vs[k.toNat]) ⟨_, hl, rfl, n, by simp [W.listOf]⟩ h0 (by omega) (by simp [hi]) (h _ (by simp)) hs
theorem li_pick {prog : Program} {w : World} {A : Around} {E : Value → Shared → Prop} {s : Shared} {value slice : PySem.Expr} {l : Addr} {vs : List Value} {n : Nat} {k : Int} {u : Tok} {v : Value} {Q : Value → Shared → Prop}
    (hl : s.heap.get? l = some (W.listOf vs.toArray n)) (hx : 0 ≤ k ∧ k < 1000 ∧ vs[k.toNat]? = some v) (h : Q v s)
    (hs : subscripted slice false (.ref l) (.int k u) = operate [.ref l, .int k u] (getItem (.ref l) (.int k u)) := by with_unfolding_all rfl) :
    wpAny (model prog w) A (subscriptTail value slice (.ref l) (.int k u)) Q E s := by
  refine item_litK (vs := vs) (v := v) ⟨_, hl, rfl, n, by simp [W.listOf]⟩ hx.1 (by omega) hx.2.2 h hs
abbrev EvIs (v : Value) : Prop := ∃ x t, v = .str x t ∧ (x = Str.ofString "take" ∨ x = Str.ofString "look" ∨ x = Str.ofString "on" ∨ x = Str.ofString "off" ∨ x = Str.ofString "open" ∨ x = Str.ofString "close")
section
variable {gd : Option (List Code)} {A A₀ : Around} {env : Env} {outer : List Env} {base h₀ : Heap} {L : Addr} {m : Str → Option Value} {s : Shared} {R : Result → Shared → Prop}
  {news : List (Addr × Obj)}
theorem events_at
  (B : Below A₀ base outer h₀) (F : Fr h₀ L s.heap m) (X : (hd.heap_1 w.params).In h₀) (TT : Top p loose mean mg mb h₀) (hA : Fits A 600 6000 env outer L) (N : News h₀ L s.heap news)
  (ret : ∀ e vs n h' tk', vs.size = 11 → (∀ v ∈ vs.toList, EvIs v) → (∀ q ∈ news, q.1 ≠ e) → Fr h₀ L h' m → News h₀ L h' ((e, W.listOf vs n) :: news) → R (.ok (.ret (.ref e))) {s with heap := h', toks := tk'}) :
  codeAny (model prog w) A (.call (.ref 259) ⟨[], []⟩) R s := by
  have N1 := N
  clear N
  have N0 : News h₀ L s.heap [] := News.nil
  refine codeAny_fits hA fun hf hke => ?_
  k_dflt (refine' code_defE ?k1 ?k2 ?k3 ?k4 ?k5 ?kA ?kF ?kK ?k6 ?k7 ?k8 ?k9 ?kB ?_ ?c2 ?c3 ?c4 ?c5; (case kA => exact rfl); (case kF => first | assumption | exact rfl); (case kK => first | assumption | exact rfl); (case k1 => k_asm); (case k2 => k_asm); (case k3 => k_asm); (case k4 => k_asm); (case k5 => k_asm); (case k6 => k_is); (case k7 => k_is); (case k8 => ktr_room); (case k9 => exact BindsTo.of_eq rfl); (case c5 => decide); (case kB => exact locs rfl); (case c2 => exact rfl); (case c3 => exact rfl); (case c4 => exact rfl); k_whole; intro g' L' h' FG' F' N' B' X' T' l1 hk1 hg1 hn1; (try dsimp only); (try k_fold))
  k_steps
  all_goals (try k_data)
  refine' ret ?e ?vs ?n ?h ?t ?sz ?ev ?ne ?F ?N
  (case F => k_asm)
  (case N => exact News.after (as := []) (small' := [(_, W.listOf _ _)]) N1 (by k_asm) (by simp) (by k_asm))
  (case sz => exact rfl)
  (case ev =>
    intro v hv
    simp only [List.mem_cons, List.not_mem_nil, or_false] at hv
    rcases hv with h | h | h | h | h | h | h | h | h | h | h <;> exact ⟨_, _, h, by simp⟩)
  (case ne =>
    intro q hq e
    have hu := News.fresh (h₀ := g') (L := L') (news := [(_, W.listOf _ _)]) (by k_asm) (.head _)
    rw [← e, hg1 _ _ (N1 _ hq).1 (by simp)] at hu
    cases hu)
end
local macro_rules | `(tactic| walk_at "call ref") => `(tactic| (k_here; (with_reducible show wpAny _ _ (call (Value.ref 266) [Value.ref _, Value.int _ _]) _ _ _); k_dflt (refine wpAny_call ?_; refine' number_at ?_ ?_ ?_ ?_ ?_ ?N ?U ?r ?o ?i ?l ?k ?k2 ?s ?s2 ?_; walk_at "kstd"; (case N => k_asm); (case U => k_updF); (case o => k_asm); (case r => k_mem); (case i => k_asm); (case l => k_asm); (case k => omega); (case k2 => omega); (case s => omega); (case s2 => omega); k_whole; intro j' t' tq' o' h' tk' j0' j1' x' F' N' ho'; (try dsimp only at N'); (try dsimp only))))

local macro_rules | `(tactic| walk_at "call ref") => `(tactic| (k_here; (with_reducible show wpAny _ _ (call (Value.ref 259) ([] ++ [])) _ _ _); k_dflt (refine wpAny_call ?_; refine' events_at ?_ ?_ ?_ ?_ ?_ ?N ?_; walk_at "kstd"; (case N => k_asm); k_whole; intro e' vs' n' h' tk' sz' ev' ne' F' N'; (try dsimp only at N'); (have ne9 := off1_of ne'; simp only [LCg.Off1] at ne9); (try dsimp only))))
local macro_rules | `(tactic| walk_at "call ref") => `(tactic| (k_here; (with_reducible show wpAny _ _ (call (Value.ref 280) [Value.ref _, Value.ref _]) _ _ _); k_dflt (refine wpAny_call ?_; refine' reader_any ?hr ?_ ?_ ?_ ?_ ?_ ?N ?hm ?hsb ?hok ?hne ?hab ?_; walk_at "kstd"; (case N => k_asm); (case hok => assumption); (case hsb => assumption); (case hm => assumption); (case hne => assumption); (case hab => assumption); (case hr => assumption); k_whole; unfold RdRet; intro S' D' k' BUF' it' ML' tp' lo' hi' Z' h' tk' RD' lo9' hi9' ld' ds' sh' F' N'; (try dsimp only))))
local macro_rules | `(tactic| walk_at "subscriptTail") => `(tactic| (k_here; (with_reducible show wpAny _ _ (subscriptTail _ _ (Value.ref _) (Value.int _ _)) _ _ _); (with_unfolding_all refine' ev_pick ?k1 ?k2 ?k3 ?k5 ?_ ?k6; (case k1 => exact News.get (by k_asm) (by k_mem)); (case k2 => omega); (case k3 => omega); (case k5 => omega); (case k6 => with_unfolding_all rfl); k_whole; (intro ev' hev'); (try dsimp only))))
section
variable {gd : Option (List Code)} {A₀ : Around} {outer : List Env} {base h₀ : Heap} {L fa : Addr} {cd : Value} {m : Str → Option Value} {s : Shared} {Q : Flow → Shared → Prop} {E : Value → Shared → Prop}
  {T r rl fl : Addr} {o oR : Obj} {its : List Value} {ns : List Int} {rn nrl : Nat} {k : Int} {t3 : Tok} {news rest sub : List (Addr × Obj)} {b0 : RowR} {recs : List RowR}
theorem law_s6 (hr : recs.length ≤ 2)
  (B : Below A₀ base outer h₀) (F : Fr h₀ L s.heap m) (X : (hd.heap_1 w.params).In h₀) (TT : Top p loose mean mg mb h₀) (hm1 : m (Str.ofString "rows") = some (.ref rl)) (hm2 : m (Str.ofString "base") = some (.ref b0.1)) (N : News h₀ L s.heap news) (hm : (rl, W.listOf (rowsVal recs).toArray nrl) ∈ news) (hsb : ∀ p ∈ sub, p ∈ news) (hok : RowsOk (InL sub) (b0 :: recs)) (hne : ∀ q ∈ b0 :: recs, rl ≠ q.1) (hab : ∃ p ∈ news, ∀ q ∈ b0 :: recs, @LT.lt Nat _ q.1 p.1)
  (ret : ∀ S D k BUF it ML tp lo hi Z h' tk', RdX lo hi S D BUF it ML sub Z (flatR (recs.reverse ++ [b0])) → (∀ p ∈ news, @LT.lt Nat _ p.1 lo) → (∃ p ∈ Z, hi = p.1 + 1) → @LE.le Nat _ lo D → @LT.lt Nat _ D S → @LT.lt Nat _ S hi → Fr h₀ L h' (fun y => if y = Str.ofString "reader" then some (.ref S) else m y) →
    News h₀ L h' ((S, instObj 67 D) :: (D, feDict k BUF it ML false 0 tp) :: (Z ++ news)) → Q .next {s with heap := h', toks := tk'}) :
  wpAny (model prog w) (lawA gd L fa cd outer) (execs (lawAt 6) (lawEnv L fa cd)) Q E s := by
  show wpAny _ _ (execs (_ :: []) _) _ _ _
  k_steps
  all_goals (try k_data)
  exact ret _ _ _ _ _ _ _ _ _ _ _ _ (by assumption) (by assumption) (by assumption) (by assumption) (by assumption) (by assumption) (by k_asm) (by k_asm)
theorem law_s7
  (B : Below A₀ base outer h₀) (F : Fr h₀ L s.heap m) (X : (hd.heap_1 w.params).In h₀) (TT : Top p loose mean mg mb h₀) (N : News h₀ L s.heap news)
  (ret : ∀ g u t1 t2 h' tk', (∀ p ∈ news, @LT.lt Nat _ p.1 g) → @LT.lt Nat _ g u →
    Fr h₀ L h' (fun y => if y = Str.ofString "due" then some (.ref u) else if y = Str.ofString "got" then some (.ref g) else if y = Str.ofString "place" then some (.int 0 t1) else if y = Str.ofString "depth" then some (.int 0 t2) else if y = Str.ofString "on" then some (.bool false) else m y) →
    News h₀ L h' ((g, W.listOf #[] 0) :: (u, W.listOf #[] 0) :: news) → Q .next {s with heap := h', toks := tk'}) :
  wpAny (model prog w) (lawA gd L fa cd outer) (execs (lawAt 7) (lawEnv L fa cd)) Q E s := by
  show wpAny _ _ (execs (_ :: []) _) _ _ _
  k_steps
  all_goals (try k_data)
  refine' ret ?g ?u ?t1 ?t2 ?h ?tk ?a1 ?a2 ?F ?N
  (case F => k_asm)
  (case N => refine News.sub (by k_asm) ?_; (repeat (first | exact List.forall_mem_nil _ | refine List.forall_mem_cons.mpr ⟨by k_mem, ?_⟩ | (intro p hp; repeat (first | exact hp | refine List.mem_cons_of_mem _ ?_)))))
  (case a2 => omega)
  (case a1 => assumption)
theorem law_s8_event
  (B : Below A₀ base outer h₀) (F : Fr h₀ L s.heap m) (X : (hd.heap_1 w.params).In h₀) (TT : Top p loose mean mg mb h₀) (hm1 : m (Str.ofString "tape") = some (.ref T)) (hT : ∀ p ∈ rest, p.1 ≠ T) (c1 : @LT.lt Nat _ T r)
  (N : News h₀ L s.heap ((T, o) :: (r, W.listOf its.toArray rn) :: rest)) (ho : TapeIs prog w o r k t3)
  (hi : IntsAre its ns) (hlen : ns.length ≤ 40) (hk : 0 ≤ k) (hk2 : k < 900)
  (ret : ∀ v o' t' h' tk', EvIs v → Fr h₀ L h' (fun y => if y = Str.ofString "event" then some v else m y) → News h₀ L h' ((T, o') :: (r, W.listOf its.toArray rn) :: rest) → TapeIs prog w o' r (k + 1) t' → Q .next {s with heap := h', toks := tk'}) :
  wpAny (model prog w) (lawA gd L fa cd outer) (execs (s8At 0) (lawEnv L fa cd)) Q E s := by
  show wpAny _ _ (execs (_ :: []) _) _ _ _
  k_steps
  all_goals (try k_data)
  refine' ret ?v ?o ?t ?h ?tk ?ev ?F ?N ?ho
  (case F => k_asm)
  (case N => refine News.sub (by k_asm) ?_; (repeat (first | exact List.forall_mem_nil _ | refine List.forall_mem_cons.mpr ⟨by k_mem, ?_⟩ | (intro p hp; repeat (first | exact hp | refine List.mem_cons_of_mem _ ?_)))))
  (case ho => k_asm)
  (case ev => exact (by assumption : ∀ v ∈ _, EvIs v) _ (by assumption))
end

end

section
set_option linter.unusedVariables false
set_option linter.unusedSimpArgs false
variable {w : World} {p : Program} {loose : List Str} {mean : ExcName → Option Value} {mg mb : Str → Option Value}


/-- a list above the reader's own -/
def MarkHi (_a : Addr) : Prop := True
section
variable {gd : Option (List Code)} {A A₀ : Around} {env : Env} {outer : List Env} {base h₀ : Heap} {L : Addr} {m : Str → Option Value} {s : Shared} {R : Result → Shared → Prop}
  {x z : Addr} {DD : TD} {news : List (Addr × Obj)} {zi : Array Value} {zn : Nat}
theorem told_at (mk : MarkHi z)
  (B : Below A₀ base outer h₀) (F : Fr h₀ L s.heap m) (X : (hd.heap_1 w.params).In h₀) (TT : Top p loose mean mg mb h₀) (hA : Fits A 600 6000 env outer L) (N : News h₀ L s.heap news) (hT : TokP (InL news) x DD) (hz : (z, W.listOf zi zn) ∈ news)
  (ret : ∀ u k1 k2 k3 k4 k5 h' tk', @LT.lt Nat _ z u → (∀ q ∈ news, q.1 ≠ u) → Fr h₀ L h' m → News h₀ L h' ((u, toldObj DD k1 k2 k3 k4 k5) :: news) → R (.ok (.ret (.ref u))) {s with heap := h', toks := tk'}) :
  codeAny (model prog w) A (.call (.ref 287) ⟨[.ref x], []⟩) R s := told_law B F X TT hA N hT hz ret
end
theorem li_len {prog : Program} {w : World} {A : Around} {E : Value → Shared → Prop} {s : Shared} {l : Addr} {vs : List Value} {n n0 : Nat} {Q : Value → Shared → Prop} (hl : s.heap.get? l = some (W.listOf vs.toArray n)) (hn : vs.length = n0) (hb : n0 ≤ 1000)
    (h : ∀ t tk, Q (.int (n0 : Int) t) { s with toks := tk }) : wpAny (model prog w) A (call (.builtin "len") [.ref l]) Q E s :=
  len_list (items := vs.toArray) ⟨_, hl, rfl, n, rfl⟩ (by simp; omega) (by simp [hn]; exact h _ _)
theorem cmp_eq_t {prog : Program} {w : World} {A : Around} {E : Value → Shared → Prop} {s : Shared} {a b : Int} {t u : Tok} {Q : Value → Shared → Prop} (e : a = b) (h : Q (.bool true) s) : wpAny (model prog w) A (compareOp .Eq (.int a t) (.int b u)) Q E s :=
  PyProof.Rows.eq_int (by rw [beq_iff_eq.mpr e]; exact h)
theorem cmp_eq_f {prog : Program} {w : World} {A : Around} {E : Value → Shared → Prop} {s : Shared} {a b : Int} {t u : Tok} {Q : Value → Shared → Prop} (e : a ≠ b) (h : Q (.bool false) s) : wpAny (model prog w) A (compareOp .Eq (.int a t) (.int b u)) Q E s :=
  PyProof.Rows.eq_int (by rw [beq_eq_false_iff_ne.mpr e]; exact h)
theorem endOk_of {S D : Addr} {oS oD : Obj} {lo hi : Nat} {X r : List (Addr × Obj)} {g : List (Addr × Obj) → List (Addr × Obj)} (e : EndIs X r g) (h : ∀ p ∈ g [], p = (S, oS) ∨ p = (D, oD) ∨ @LT.lt Nat _ p.1 lo ∨ @LE.le Nat _ hi p.1) : EndOk S D oS oD lo hi X r g := by
  induction e with
  | here => exact .here
  | cons _ ih =>
    have ih2 := ih fun p hp => h p (.tail _ hp)
    rcases h _ (.head _) with rfl | rfl | q | q
    · exact .self ih2
    · exact .dict ih2
    · exact .low q ih2
    · exact .high q ih2
abbrev toldL (val sp : Str) (f : Bool) (row col : Int) (k1 k2 k3 k4 k5 : Tok) : Obj := { cls := .type "tuple", data := .seq #[.str (Str.ofString "ID") k1, .str val k2, .str sp k3, .bool f, .int row k4, .int col k5] }
theorem RdX.offD {lo hi : Nat} {S D BUF it ML : Addr} {ot Z : List (Addr × Obj)} {rem : List (Addr × TD)} (c : RdX lo hi S D BUF it ML ot Z rem) : (∀ p ∈ Z, p.1 ≠ D) ∧ (∀ p ∈ Z, p.1 ≠ S) := by
  obtain ⟨RL, rfl, st, h1, h2⟩ := c
  have r := st.range.2
  constructor
  · intro p hp e
    rcases List.mem_append.mp hp with h | h
    · exact st.off.1 p h e
    · have := h1 p h
      rw [e] at this
      omega
  · intro p hp e
    rcases List.mem_append.mp hp with h | h
    · exact st.off.2 p h e
    · have := h1 p h
      rw [e] at this
      omega
def LocA (m : Str → Option Value) (T rl bA fl S g u : Addr) : Prop :=
  m (Str.ofString "tape") = some (.ref T) ∧ m (Str.ofString "rows") = some (.ref rl) ∧ m (Str.ofString "base") = some (.ref bA) ∧ m (Str.ofString "flat") = some (.ref fl) ∧ m (Str.ofString "reader") = some (.ref S) ∧ m (Str.ofString "got") = some (.ref g) ∧ m (Str.ofString "due") = some (.ref u)
def LocV (m : Str → Option Value) (on : Bool) (dp : Int) (pl : Nat) : Prop :=
  m (Str.ofString "on") = some (.bool on) ∧ (∃ t, m (Str.ofString "depth") = some (.int dp t)) ∧ (∃ t, m (Str.ofString "place") = some (.int (pl : Int) t))
section
variable {gd : Option (List Code)} {A₀ : Around} {outer : List Env} {base h₀ : Heap} {L fa : Addr} {cd : Value} {m : Str → Option Value} {s : Shared} {Q : Flow → Shared → Prop} {E : Value → Shared → Prop}
  {T r rl bA fl S D g u BUF it ML : Addr} {o oR : Obj} {k : FeK} {on : Bool} {dp : Int} {pl : Nat} {tp te : Tok} {lo hi nf ng nu : Nat} {fus : List (Addr × TD)} {gv dv : Array Value} {Z ot : List (Addr × Obj)} {ev : Str}
theorem s8_simple
  (B : Below A₀ base outer h₀) (F : Fr h₀ L s.heap m) (X : (hd.heap_1 w.params).In h₀) (TT : Top p loose mean mg mb h₀) (a : LocA m T rl bA fl S g u) (b : LocV m on dp pl) (hev : m (Str.ofString "event") = some (.str ev te)) (h4 : ev = Str.ofString "open" ∨ ev = Str.ofString "close" ∨ ev = Str.ofString "on" ∨ ev = Str.ofString "off") (hd : 0 ≤ dp ∧ dp ≤ 2)
  (c1 : @LT.lt Nat _ T r) (c2 : @LT.lt Nat _ r fl) (c3 : @LT.lt Nat _ fl lo) (c4 : @LE.le Nat _ lo D) (c5 : @LT.lt Nat _ D S) (c6 : @LT.lt Nat _ S hi) (c7 : @LE.le Nat _ hi g) (c8 : @LT.lt Nat _ g u) (hZD : ∀ p ∈ Z, p.1 ≠ D)
  (N : News h₀ L s.heap ((T, o) :: (r, oR) :: (fl, W.listOf (refs fus).toArray nf) :: (S, instObj 67 D) :: (D, feDict k BUF it ML on dp tp) :: (g, W.listOf gv ng) :: (u, W.listOf dv nu) :: Z))
  (ret : ∀ on' dp' tp' m' h' tk', 0 ≤ dp' ∧ dp' ≤ 2 → LocA m' T rl bA fl S g u → LocV m' on' dp' pl → Fr h₀ L h' m' → News h₀ L h' ((T, o) :: (r, oR) :: (fl, W.listOf (refs fus).toArray nf) :: (S, instObj 67 D) :: (D, feDict k BUF it ML on' dp' tp') :: (g, W.listOf gv ng) :: (u, W.listOf dv nu) :: Z) → Q .next {s with heap := h', toks := tk'}) :
  wpAny (model prog w) (lawA gd L fa cd outer) (execs (s8Body.drop 1) (lawEnv L fa cd)) Q E s := by
  obtain ⟨a1, a2, a3, a4, a5, a6, a7⟩ := a
  obtain ⟨b1, ⟨td, b2⟩, ⟨tl, b3⟩⟩ := b
  show wpAny _ _ (execs (_ :: _ :: _ :: []) _) _ _ _
  rcases h4 with rfl | rfl | rfl | rfl
  · k_steps
    all_goals (try k_data)
    refine' ret ?ona ?dpa ?tpa ?ma ?ha ?tka ?hda ?laa ?lva ?Fa ?Na
    (case Fa => k_asm)
    (case Na => k_asm)
    (case laa => exact ⟨a1, a2, a3, a4, a5, a6, a7⟩)
    (case lva => exact ⟨(by first | exact b1 | exact rfl), (by first | exact ⟨_, rfl⟩ | exact ⟨_, b2⟩), ⟨_, b3⟩⟩)
    omega
  · k_steps
    all_goals (try k_data)
    refine' ret ?onb ?dpb ?tpb ?mb ?hb ?tkb ?hdb ?lab ?lvb ?Fb ?Nb
    (case Fb => k_asm)
    (case Nb => k_asm)
    (case lab => exact ⟨a1, a2, a3, a4, a5, a6, a7⟩)
    (case lvb => exact ⟨(by first | exact b1 | exact rfl), (by first | exact ⟨_, rfl⟩ | exact ⟨_, b2⟩), ⟨_, b3⟩⟩)
    omega
  · k_steps
    all_goals (try k_data)
    refine' ret ?onc ?dpc ?tpc ?mc ?hc ?tkc ?hdc ?lac ?lvc ?Fc ?Nc
    (case Fc => k_asm)
    (case Nc => k_asm)
    (case lac => exact ⟨a1, a2, a3, a4, a5, a6, a7⟩)
    (case lvc => exact ⟨(by first | exact b1 | exact rfl), (by first | exact ⟨_, rfl⟩ | exact ⟨_, b2⟩), ⟨_, b3⟩⟩)
    omega
  · k_steps
    all_goals (try k_data)
    refine' ret ?ond ?dpd ?tpd ?md ?hd ?tkd ?hdd ?lad ?lvd ?Fd ?Nd
    (case Fd => k_asm)
    (case Nd => k_asm)
    (case lad => exact ⟨a1, a2, a3, a4, a5, a6, a7⟩)
    (case lvd => exact ⟨(by first | exact b1 | exact rfl), (by first | exact ⟨_, rfl⟩ | exact ⟨_, b2⟩), ⟨_, b3⟩⟩)
    omega
end

end

section
set_option linter.unusedVariables false
set_option linter.unusedSimpArgs false
variable {w : World} {p : Program} {loose : List Str} {mean : ExcName → Option Value} {mg mb : Str → Option Value}


local macro_rules | `(tactic| walk_at "call ref") => `(tactic| (k_here; (with_reducible show wpAny _ _ (call (Value.ref 266) [Value.ref _, Value.int _ _]) _ _ _); k_dflt (refine wpAny_call ?_; refine' number_at ?_ ?_ ?_ ?_ ?_ ?N ?U ?r ?o ?i ?l ?k ?k2 ?s ?s2 ?_; walk_at "kstd"; (case N => k_asm); (case U => k_updF); (case o => k_asm); (case r => k_mem); (case i => k_asm); (case l => k_asm); (case k => omega); (case k2 => omega); (case s => omega); (case s2 => omega); k_whole; intro j' t' tq' o' h' tk' j0' j1' x' F' N' ho'; (try dsimp only at N'); (try dsimp only))))

section
variable {gd : Option (List Code)} {A₀ : Around} {outer : List Env} {base h₀ : Heap} {L fa : Addr} {cd : Value} {m : Str → Option Value} {s : Shared} {E : Value → Shared → Prop}
  {T r : Addr} {o : Obj} {its : List Value} {ns : List Int} {rn : Nat} {k : Int} {t3 : Tok} {rest : List (Addr × Obj)}
theorem law_s8_iter {Q : Value → Shared → Prop}
  (B : Below A₀ base outer h₀) (F : Fr h₀ L s.heap m) (X : (hd.heap_1 w.params).In h₀) (TT : Top p loose mean mg mb h₀) (hm1 : m (Str.ofString "tape") = some (.ref T)) (mk : TailMark rest) (c1 : @LT.lt Nat _ T r) (hT : ∀ p ∈ rest, p.1 ≠ T)
  (N : News h₀ L s.heap ((T, o) :: (r, W.listOf its.toArray rn) :: rest)) (ho : TapeIs prog w o r k t3)
  (hi : IntsAre its ns) (hlen : ns.length ≤ 40) (hk : 0 ≤ k) (hk2 : k < 100)
  (ret : ∀ R j o' t t1 t2 t' h' tk', 4 ≤ j → j < 19 → IsRange h' R 0 j 1 t t1 t2 → Fr h₀ L h' m → News h₀ L h' ((T, o') :: (r, W.listOf its.toArray rn) :: rest) → TapeIs prog w o' r (k + 1) t' → Q (.ref R) {s with heap := h', toks := tk'}) :
  wpAny (model prog w) (lawA gd L fa cd outer) (eval s8Iter (lawEnv L fa cd)) Q E s := by
  show wpAny _ _ (eval (.Call _ _ _ _) _) _ _ _
  k_steps
  all_goals (try k_data)
  refine' ret ?R ?j ?o ?t ?t1 ?t2 ?t' ?h ?tk ?j0 ?j1 ?ir ?F ?N ?ho
  (case ir => k_asm)
  (case F => k_asm)
  (case N => k_asm)
  (case ho => k_asm)
  all_goals omega
end
/-- an answer: None, or a told token -/
abbrev An := Option (Addr × TD)
def ov : An → Value
  | none => .none
  | some q => .ref q.1
def ovals (l : List An) : List Value := l.map ov
def strip : An → Option TD := Option.map (·.2)
def AnOk (ot : List (Addr × Obj)) (l : List An) : Prop := ∀ z ∈ l, ∀ q, z = some q → ToldP (InL ot) q.1 q.2 ∧ q.2.Ok
theorem AnOk.mono {ot ot' : List (Addr × Obj)} {l : List An} (c : AnOk ot l) (h : ∀ p ∈ ot, p ∈ ot') : AnOk ot' l := fun z hz q e => ⟨(c z hz q e).1.mono fun a o x => h _ x, (c z hz q e).2⟩
theorem AnOk.snoc_none {ot : List (Addr × Obj)} {l : List An} (c : AnOk ot l) : AnOk ot (l ++ [none]) := fun z hz q e => by
  rcases List.mem_append.mp hz with h | h
  · exact c z h q e
  · rw [List.mem_singleton.mp h] at e; cases e
theorem AnOk.snoc_some {ot : List (Addr × Obj)} {l : List An} {x : Addr × TD} (c : AnOk ot l) (hx : ToldP (InL ot) x.1 x.2) (ok : x.2.Ok) : AnOk ot (l ++ [some x]) := fun z hz q e => by
  rcases List.mem_append.mp hz with h | h
  · exact c z h q e
  · rw [List.mem_singleton.mp h] at e; cases e; exact ⟨hx, ok⟩
/-- what was told and what was due agree -/
def GD (ot : List (Addr × Obj)) (gq dq : List An) : Prop := gq.map strip = dq.map strip ∧ AnOk ot gq ∧ AnOk ot dq
theorem GD.none {ot : List (Addr × Obj)} {gq dq : List An} (c : GD ot gq dq) : GD ot (gq ++ [none]) (dq ++ [none]) := ⟨by simp [c.1], c.2.1.snoc_none, c.2.2.snoc_none⟩
theorem GD.some {ot : List (Addr × Obj)} {gq dq : List An} {x y : Addr × TD} (c : GD ot gq dq) (e : x.2 = y.2) (hx : ToldP (InL ot) x.1 x.2) (hy : ToldP (InL ot) y.1 y.2) (ok : x.2.Ok) : GD ot (gq ++ [some x]) (dq ++ [some y]) := ⟨by rw [List.map_append, List.map_append, c.1]; simp [strip, e], c.2.1.snoc_some hx ok, c.2.2.snoc_some hy (e ▸ ok)⟩
theorem GD.mono {ot ot' : List (Addr × Obj)} {gq dq : List An} (c : GD ot gq dq) (h : ∀ p ∈ ot, p ∈ ot') : GD ot' gq dq := ⟨c.1, c.2.1.mono h, c.2.2.mono h⟩
theorem ovals_snoc (l : List An) (x : An) : (ovals l).toArray.push (ov x) = (ovals (l ++ [x])).toArray := by simp [ovals]

end

section
set_option linter.unusedVariables false
set_option linter.unusedSimpArgs false
variable {w : World} {p : Program} {loose : List Str} {mean : ExcName → Option Value} {mg mb : Str → Option Value}

/-! the data that the lists speak of, read off the heap -/
def toldD (D : TD) : PyData := .tuple [.str (Str.ofString "ID"), .str D.val, .str D.sp, .bool D.f, .int D.row, .int D.col]
def anD : Option TD → PyData
  | none => .none
  | some D => toldD D
def lineD (l : List TD) : PyData := .list (l.map toldD)
theorem toldD_lay {D : TD} (h : D.Ok) : (toldD D).canLay0 = true ∧ (toldD D).depth = 1 := by
  have z : PyData.strOk (Str.ofString "ID") = true := strOk_ofString _
  simp [toldD, PyData.canLay0, PyData.canLayAll0, PyData.depth, PyData.depthAll, h.1, h.2, z]
theorem anD_lay {o : Option TD} (h : ∀ D, o = some D → D.Ok) : (anD o).canLay0 = true ∧ (anD o).depth ≤ 1 := by
  cases o with
  | none => simp [anD, PyData.canLay0, PyData.depth]
  | some D => have := toldD_lay (h D rfl); exact ⟨this.1, by show (toldD D).depth ≤ 1; omega⟩
theorem lay_all {l : List PyData} {n : Nat} (h : ∀ d ∈ l, d.canLay0 = true ∧ d.depth ≤ n) : PyData.canLayAll0 l = true ∧ PyData.depthAll l ≤ n := by
  induction l with
  | nil => simp [PyData.canLayAll0, PyData.depthAll]
  | cons d r ih =>
    have h1 := h d (.head _)
    have h2 := ih fun x hx => h x (.tail _ hx)
    simp only [PyData.canLayAll0, PyData.depthAll, h1.1, h2.1, Bool.and_self, true_and]
    have := h1.2
    have := h2.2
    omega
theorem lay_list {l : List PyData} {n : Nat} (h : ∀ d ∈ l, d.canLay0 = true ∧ d.depth ≤ n) : (PyData.list l).canLay0 = true ∧ (PyData.list l).depth ≤ n + 1 := by
  have := lay_all h
  simp only [PyData.canLay0, PyData.depth, this.1, true_and]
  omega
theorem shaped_of {d : PyData} (h : d.canLay0 = true ∧ d.depth ≤ 5) : SeqAt.shaped d = true := by
  unfold SeqAt.shaped
  rw [h.1, Bool.true_and]
  exact decide_eq_true (by omega)
theorem eqvAll_refl {l : List PyData} (h : ∀ d ∈ l, PyData.eqv d d = true) : PyData.eqvAll l l = true := by
  induction l with
  | nil => simp [PyData.eqvAll]
  | cons d r ih => simp [PyData.eqvAll, h d (.head _), ih fun x hx => h x (.tail _ hx)]
theorem toldD_eqv (D : TD) : PyData.eqv (toldD D) (toldD D) = true := by simp [toldD, PyData.eqv, PyData.eqvAll]
theorem anD_eqv (o : Option TD) : PyData.eqv (anD o) (anD o) = true := by
  cases o with
  | none => simp [anD, PyData.eqv]
  | some D => exact toldD_eqv D
theorem list_eqv {l : List PyData} (h : ∀ d ∈ l, PyData.eqv d d = true) : PyData.eqv (.list l) (.list l) = true := by rw [PyData.eqv]; exact eqvAll_refl h
theorem lineD_eqv (l : List TD) : PyData.eqv (lineD l) (lineD l) = true := list_eqv fun d hd => by obtain ⟨D, _, rfl⟩ := List.mem_map.mp hd; exact toldD_eqv D
theorem lineD_lay {l : List TD} (h : ∀ D ∈ l, D.Ok) : (lineD l).canLay0 = true ∧ (lineD l).depth ≤ 2 := lay_list fun d hd => by
  obtain ⟨D, hD, rfl⟩ := List.mem_map.mp hd
  have := toldD_lay (h D hD)
  exact ⟨this.1, by omega⟩
/-- lists of told tuples -/
def LinesIn (P : Addr → Obj → Prop) (cs : List RowR) : Prop := ∀ q ∈ cs, P q.1 (W.listOf (refs q.2.2).toArray q.2.1) ∧ ∀ t ∈ q.2.2, ToldP P t.1 t.2
theorem LinesIn.mono {P P' : Addr → Obj → Prop} {cs : List RowR} (c : LinesIn P cs) (h : ∀ a o, P a o → P' a o) : LinesIn P' cs := fun q hq => ⟨h _ _ (c q hq).1, fun t ht => ((c q hq).2 t ht).mono h⟩
def tds (l : List (Addr × TD)) : List TD := l.map (·.2)
section
variable {h h₀ : Heap} {L : Addr} {news : List (Addr × Obj)}
theorem reads_told {u : Addr} {D : TD} (N : News h₀ L h news) (c : ToldP (InL news) u D) : ∃ as, Reads h (.ref u) (toldD D) as := by
  obtain ⟨k1, k2, k3, k4, k5, c⟩ := c
  exact ⟨_, reads_tuple_at (N _ c).1 rfl rfl (.cons (.str _ _) (.cons (.str _ _) (.cons (.str _ _) (.cons (.bool _) (.cons (.int _ _) (.cons (.int _ _) .nil))))))⟩
theorem reads_all {vs : List Value} {ds : List PyData} (n : vs.length = ds.length) (c : ∀ (i : Nat) v d, vs[i]? = some v → ds[i]? = some d → ∃ as, Reads h v d as) : ∃ as, ReadsAll h vs ds as := by
  induction vs generalizing ds with
  | nil =>
    cases ds with
    | nil => exact ⟨_, .nil⟩
    | cons _ _ => simp at n
  | cons v vs ih =>
    cases ds with
    | nil => simp at n
    | cons d ds =>
      obtain ⟨as, r⟩ := c 0 v d rfl rfl
      obtain ⟨bs, q⟩ := ih (ds := ds) (by simpa using n) fun i v d h1 h2 => c (i + 1) v d (by simpa using h1) (by simpa using h2)
      exact ⟨_, .cons r q⟩
theorem reads_map {α : Type} {l : List α} {f : α → Value} {g : α → PyData} (c : ∀ x ∈ l, ∃ as, Reads h (f x) (g x) as) : ∃ as, ReadsAll h (l.map f) (l.map g) as := by
  induction l with
  | nil => exact ⟨_, .nil⟩
  | cons x r ih =>
    obtain ⟨as, h1⟩ := c x (.head _)
    obtain ⟨bs, h2⟩ := ih fun y hy => c y (.tail _ hy)
    exact ⟨_, .cons h1 h2⟩
theorem reads_ans {a : Addr} {l : List An} {n : Nat} (N : News h₀ L h news) (hm : (a, W.listOf (ovals l).toArray n) ∈ news) (c : AnOk news l) : ∃ as, Reads h (.ref a) (.list ((l.map strip).map anD)) as := by
  rw [List.map_map]
  obtain ⟨as, r⟩ := reads_map (h := h) (l := l) (f := ov) (g := anD ∘ strip) fun z hz => by
    cases z with
    | none => exact ⟨_, .none⟩
    | some q => exact reads_told N (c _ hz q rfl).1
  exact ⟨_, reads_list_at (N _ hm).1 rfl rfl (by simpa [ovals] using r)⟩
theorem reads_lines {a : Addr} {cs : List RowR} {n : Nat} {P : Addr → Obj → Prop} (N : News h₀ L h news) (hm : (a, W.listOf (rowsVal cs).toArray n) ∈ news) (c : LinesIn (InL news) cs) : ∃ as, Reads h (.ref a) (.list (cs.map fun q => lineD (tds q.2.2))) as := by
  obtain ⟨as, r⟩ := reads_map (h := h) (l := cs) (f := fun q => Value.ref q.1) (g := fun q => lineD (tds q.2.2)) fun q hq => by
    obtain ⟨bs, r⟩ := reads_map (h := h) (l := q.2.2) (f := fun q => Value.ref q.1) (g := fun t => toldD t.2) fun t ht => reads_told N ((c q hq).2 t ht)
    exact ⟨_, reads_list_at (xs := (tds q.2.2).map toldD) (as := bs) (N _ (c q hq).1).1 rfl rfl (by unfold tds; rw [List.map_map]; exact r)⟩
  exact ⟨_, reads_list_at (N _ hm).1 rfl rfl (by simpa [rowsVal] using r)⟩
end
section
variable {prog : Program} {w : World} {A : Around} {E : Value → Shared → Prop} {s : Shared} {h₀ : Heap} {L a b : Addr} {news : List (Addr × Obj)} {cs : List RowR} {av : Array Value} {n ne : Nat} {Q : Value → Shared → Prop}
theorem cmp_cut {P : Bool} (hP : decide (cs = []) = P) (N : News h₀ L s.heap news) (hav : av = (rowsVal cs).toArray) (hm : (a, W.listOf av n) ∈ news) (hb : (b, W.listOf #[] ne) ∈ news) (c : LinesIn (InL news) cs) (hok : ∀ q ∈ cs, ∀ t ∈ q.2.2, t.2.Ok) (hu : A.units + 64 < cLine)
    (h : Q (.bool P) s) : wpAny (model prog w) A (compareOp .Eq (.ref a) (.ref b)) Q E s := by
  subst hav
  obtain ⟨as, r1⟩ := reads_lines (P := InL news) N hm c
  refine eq_dataH (db := .list []) r1 (reads_list_at (N _ hb).1 rfl rfl .nil) (shaped_of ?_) (shaped_of (by simp [PyData.canLay0, PyData.canLayAll0, PyData.depth, PyData.depthAll])) hu ?_
  · have := lay_list (l := cs.map fun q => lineD (tds q.2.2)) (n := 2) fun d hd => by
      obtain ⟨q, hq, rfl⟩ := List.mem_map.mp hd
      exact lineD_lay fun D hD => by
        obtain ⟨t, ht, rfl⟩ := List.mem_map.mp hD
        exact hok q hq t ht
    exact ⟨this.1, by omega⟩
  · have e : PyData.eqv (.list (cs.map fun q => lineD (tds q.2.2))) (.list []) = P := by
      rw [← hP]
      cases cs <;> simp [PyData.eqv, PyData.eqvAll]
    rw [e]; exact h
theorem item_neg1 {value slice : PySem.Expr} {xs : Array Value} {v : Value} {u : Tok} (hl : s.heap.get? a = some (W.listOf (xs.push v) n)) (hz : xs.size ≤ 1000) (h : Q v s)
    (hs : subscripted slice false (.ref a) (.int (-1) u) = operate [.ref a, .int (-1) u] (getItem (.ref a) (.int (-1) u)) := by with_unfolding_all rfl) :
    wpAny (model prog w) A (subscriptTail value slice (.ref a) (.int (-1) u)) Q E s := by
  have hl' : s.heap.IsList a (xs.push v) := ⟨_, hl, rfl, n, rfl⟩
  refine tail_any hl'.typeIs slot_list_getitem.lookup (wpAny_getItem_list_neg hl' (by decide) (by rw [Array.size_push]; omega) (by decide) ?_ h) hs
  rw [Array.size_push]
  have : ((-1 : Int) + ((xs.size + 1 : Nat) : Int)).toNat = xs.size := by omega
  rw [this]
  simp
end

end

section
set_option linter.unusedVariables false
set_option linter.unusedSimpArgs false
variable {w : World} {p : Program} {loose : List Str} {mean : ExcName → Option Value} {mg mb : Str → Option Value}


local macro_rules | `(tactic| walk_at "subscriptTail Name Slice ref ref") => `(tactic| (k_here; (with_reducible show wpAny _ _ (subscriptTail _ (PySem.Expr.Slice _ _ none _) (Value.ref _) (Value.ref _)) _ _ _); k_dflt (refine' kms_slice_lit ?F ?N ?l ?p ?q ?e ?_ ?s ?t ?z; (case e => assumption); (case F => k_asm); (case N => k_asm); (case l => exact News.isList (by k_asm) (by k_mem)); (case p => kmk_part); (case q => kmk_part); (case s => with_unfolding_all rfl); (case t => kmk_pure); (case z => simp only [refs, List.size_toArray, List.length_map, sizeLine_eq] at *; omega)); intro D' h' F' N' l1; (try k_lt l1)))
local macro_rules | `(tactic| walk_at "binaryOp Add ref ref") => `(tactic| (k_here; (with_reducible show wpAny _ _ (binaryOp _ (Value.ref _) (Value.ref _)) _ _ _); k_dflt (refine' kmk_add_lit ?F ?N ?a ?b ?e ?_ ?z; (case F => k_asm); (case N => k_asm); (case a => exact News.isList (by k_asm) (by k_mem)); (case b => exact News.isList (by k_asm) (by k_mem)); (case e => exact rfl); (case z => simp only [refs, List.size_toArray, List.length_map, List.length_drop, List.length_cons, List.length_nil, sizeLine_eq] at *; omega)); intro D' h' F' N' l1; (try k_lt l1)))
local macro_rules | `(tactic| walk_at "inplaceOp Add ref") => `(tactic| (k_here; (with_reducible show wpAny _ _ (inplaceOp _ (Value.ref _) (Value.ref _)) _ _ _); k_dflt (refine' li_iadd ?F ?N ?U ?b ?z ?_; (case F => k_asm); (case N => k_asm); (case U => k_updF); (case b => k_mem); (case z => simp only [refs, List.size_toArray, List.length_map, List.length_append, List.length_drop, List.length_nil, Array.size_append, Array.size_empty, List.length_cons] at *; omega); k_whole; intro h' n' F' N'; (try dsimp only at N'); (try dsimp only))))
local macro_rules | `(tactic| walk_at "loadName") => `(tactic| (k_here; k_dflt (refine' ldn ?k1 ?k2 ?_; (case k1 => k_asm); (case k2 => assumption); k_whole)))

def s13Body : List Stmt := forBody lawBody 13
def s13Iter : Expr := forIter lawBody 13
theorem kms_from {vs : List Value} {k : Nat} (h : k ≤ vs.length) : kms_pick vs.toArray.toList (some (k : Int)) none = vs.drop k := by
  unfold kms_pick kms_lo kms_hi
  simp only [if_neg (show ¬ ((k : Int) < 0) by omega), Int.toNat_natCast, Nat.min_eq_left h]
  exact List.take_of_length_le (by simp)
section
variable {gd : Option (List Code)} {A₀ : Around} {outer : List Env} {base h₀ : Heap} {L fa : Addr} {cd : Value} {m : Str → Option Value} {s : Shared} {Q : Flow → Shared → Prop} {E : Value → Shared → Prop}
  {T r rl bA fl S D g u : Addr} {nf nu : Nat} {fus : List (Addr × TD)} {rest news : List (Addr × Obj)} {on : Bool} {dp : Int} {pl : Nat} {dv : Array Value}
theorem law_s11
  (B : Below A₀ base outer h₀) (F : Fr h₀ L s.heap m) (X : (hd.heap_1 w.params).In h₀) (TT : Top p loose mean mg mb h₀) (lA : LocA m T rl bA fl S g u) (lV : LocV m on dp pl) (c : @LT.lt Nat _ fl u) (hu : ∀ p ∈ rest, p.1 ≠ u) (hpl : pl ≤ (refs fus).length) (hn50 : (refs fus).length ≤ 50) (hdv : dv.size ≤ 100)
  (N : News h₀ L s.heap ((fl, W.listOf (refs fus).toArray nf) :: (u, W.listOf dv nu) :: rest))
  (ret : ∀ nu' m' h' tk', LocA m' T rl bA fl S g u → LocV m' on dp pl → Fr h₀ L h' m' → News h₀ L h' ((fl, W.listOf (refs fus).toArray nf) :: (u, W.listOf (dv ++ ((refs fus).drop pl ++ [Value.none, Value.none]).toArray) nu') :: rest) → Q .next {s with heap := h', toks := tk'}) :
  wpAny (model prog w) (lawA gd L fa cd outer) (execs (lawAt 11) (lawEnv L fa cd)) Q E s := by
  obtain ⟨a1, a2, a3, a4, a5, a6, a7⟩ := lA
  obtain ⟨b1, ⟨td, b2⟩, ⟨tl, b3⟩⟩ := lV
  have hsl := kms_from hpl
  have hdl : ((refs fus).drop pl).length ≤ 50 := by rw [List.length_drop]; omega
  show wpAny _ _ (execs (_ :: []) _) _ _ _
  generalize (refs fus).drop pl = dr at *
  generalize refs fus = rf at *
  k_steps
  all_goals (try k_data)
  refine' ret ?nu ?m ?h ?tk ?la ?lv ?F ?N
  (case F => k_asm)
  (case N => refine News.sub (by k_asm) ?_; (repeat (first | exact List.forall_mem_nil _ | refine List.forall_mem_cons.mpr ⟨by k_mem, ?_⟩ | (intro p hp; repeat (first | exact hp | refine List.mem_cons_of_mem _ ?_)))))
  (case la => exact ⟨a1, a2, a3, a4, a5, a6, (by first | exact a7 | exact rfl)⟩)
  (case lv => exact ⟨b1, ⟨_, b2⟩, ⟨_, b3⟩⟩)
theorem law_s12
  (B : Below A₀ base outer h₀) (F : Fr h₀ L s.heap m) (X : (hd.heap_1 w.params).In h₀) (TT : Top p loose mean mg mb h₀) (N : News h₀ L s.heap news)
  (ret : ∀ ca h' tk', (∀ p ∈ news, @LT.lt Nat _ p.1 ca) → Fr h₀ L h' (fun y => if y = Str.ofString "cut" then some (.ref ca) else m y) → News h₀ L h' ((ca, W.listOf #[] 0) :: news) → Q .next {s with heap := h', toks := tk'}) :
  wpAny (model prog w) (lawA gd L fa cd outer) (execs (lawAt 12) (lawEnv L fa cd)) Q E s := by
  show wpAny _ _ (execs (_ :: []) _) _ _ _
  k_steps
  all_goals (try k_data)
  refine' ret ?rl ?h ?tk ?l2 ?F ?N
  (case F => k_asm)
  (case N => k_asm)
  (case l2 => first | assumption | exact fun p hp => allLt_all (by k_asm : AllLt _ news) p hp)
local macro_rules | `(tactic| walk_at "compareOp Eq ref ref") => `(tactic| (k_here; (with_reducible show wpAny _ _ (compareOp CmpOp.Eq (Value.ref _) (Value.ref _)) _ _ _); k_dflt (refine' cmp_cut ?P ?N ?av ?m ?b ?c ?k ?u ?_; (case P => assumption); (case av => assumption); (case N => k_asm); (case m => k_mem); (case b => k_mem); (case c => exact LinesIn.mono (by assumption) (fun _ _ h => (by repeat (first | exact h | exact List.mem_cons_of_mem _ h | refine List.mem_cons_of_mem _ ?_)))); (case k => assumption); (case u => exact Nat.le_of_ble_eq_true rfl); k_whole; (try dsimp only))))
local macro_rules | `(tactic| walk_at "subscriptTail") => `(tactic| (k_here; (with_reducible show wpAny _ _ (subscriptTail _ _ (Value.ref _) (Value.int (-1) _)) _ _ _); k_dflt (with_unfolding_all refine' item_neg1 ?k1 ?k2 ?_ ?k6; (case k1 => exact News.get (by k_asm) (by k_mem)); (case k2 => omega); (case k6 => with_unfolding_all rfl); k_whole; (try dsimp only))))

theorem s13_new {ca tu : Addr} {nc : Nat} {cs : List RowR} {av : Array Value} {Y : List (Addr × Obj)} {P f : Bool} {val sp : Str} {row col : Int} {k1 k2 k3 k4 k5 : Tok} 
  (B : Below A₀ base outer h₀) (F : Fr h₀ L s.heap m) (X : (hd.heap_1 w.params).In h₀) (TT : Top p loose mean mg mb h₀) (hm1 : m (Str.ofString "cut") = some (.ref ca)) (hm2 : m (Str.ofString "told") = some (.ref tu)) (hP : decide (cs = []) = P) (hPf : P = true ∨ f = true) (hav : av = (rowsVal cs).toArray) (hsz : av.size ≤ 100)
  (N : News h₀ L s.heap ((tu, toldL val sp f row col k1 k2 k3 k4 k5) :: (ca, W.listOf av nc) :: Y)) (hL : LinesIn (InL Y) cs) (hok : ∀ q ∈ cs, ∀ t ∈ q.2.2, t.2.Ok) (hY : ∀ p ∈ Y, p.1 ≠ ca) (ht : @Ne Nat tu ca)
  (ret : ∀ l nl' nc' m' h' tk', (∀ p ∈ Y, p.1 ≠ l) → @Ne Nat l ca → m' (Str.ofString "cut") = some (.ref ca) → (∀ y, y ≠ Str.ofString "told" → m' y = m y) → Fr h₀ L h' m' → News h₀ L h' ((l, W.listOf #[.ref tu] nl') :: (ca, W.listOf (av.push (.ref l)) nc') :: Y) → Q .next {s with heap := h', toks := tk'}) :
  wpAny (model prog w) (lawA gd L fa cd outer) (execs s13Body (lawEnv L fa cd)) Q E s := by
  show wpAny _ _ (execs (_ :: _ :: []) _) _ _ _
  cases P with
  | true =>
    k_steps
    all_goals (try k_data)
    refine' ret ?l1 ?nl1 ?nc1 ?m1 ?h1 ?tk1 ?o1 ?ne1 ?mc1 ?mk1 ?F1 ?N1
    (case F1 => k_asm)
    (case N1 => refine News.sub (by k_asm) ?_; (repeat (first | exact List.forall_mem_nil _ | refine List.forall_mem_cons.mpr ⟨by k_mem, ?_⟩ | (intro p hp; repeat (first | exact hp | refine List.mem_cons_of_mem _ ?_)))))
    (case mc1 => exact hm1)
    (case mk1 => exact fun _ _ => rfl)
    (case ne1 => omega)
    (case o1 => exact fun p hp => neN (Nat.ne_of_lt (allLt_all (by k_asm) p (.tail _ (.tail _ (.tail _ hp))))))
  | false =>
    obtain rfl : f = true := hPf.resolve_left (by decide)
    k_steps
    all_goals (try k_data)
    refine' ret ?l2 ?nl2 ?nc2 ?m2 ?h2 ?tk2 ?o2 ?ne2 ?mc2 ?mk2 ?F2 ?N2
    (case F2 => k_asm)
    (case N2 => refine News.sub (by k_asm) ?_; (repeat (first | exact List.forall_mem_nil _ | refine List.forall_mem_cons.mpr ⟨by k_mem, ?_⟩ | (intro p hp; repeat (first | exact hp | refine List.mem_cons_of_mem _ ?_)))))
    (case mc2 => exact hm1)
    (case mk2 => exact fun _ _ => rfl)
    (case ne2 => omega)
    (case o2 => exact fun p hp => neN (Nat.ne_of_lt (allLt_all (by k_asm) p (.tail _ (.tail _ (.tail _ hp))))))
theorem s13_old {ca tu la : Addr} {nc nl : Nat} {cs : List RowR} {av lv : Array Value} {Y : List (Addr × Obj)} {P : Bool} {val sp : Str} {row col : Int} {k1 k2 k3 k4 k5 : Tok} 
  (B : Below A₀ base outer h₀) (F : Fr h₀ L s.heap m) (X : (hd.heap_1 w.params).In h₀) (TT : Top p loose mean mg mb h₀) (hm1 : m (Str.ofString "cut") = some (.ref ca)) (hm2 : m (Str.ofString "told") = some (.ref tu)) (hP : decide (cs = []) = false) (hav : av.push (.ref la) = (rowsVal cs).toArray) (hsz : av.size ≤ 100) (hlz : lv.size ≤ 100)
  (N : News h₀ L s.heap ((tu, toldL val sp false row col k1 k2 k3 k4 k5) :: (ca, W.listOf (av.push (.ref la)) nc) :: (la, W.listOf lv nl) :: Y)) (hL : LinesIn (InL ((la, W.listOf lv nl) :: Y)) cs) (hok : ∀ q ∈ cs, ∀ t ∈ q.2.2, t.2.Ok)
  (hY : ∀ p ∈ Y, p.1 ≠ ca) (hYl : ∀ p ∈ Y, p.1 ≠ la) (ht : @Ne Nat tu ca) (htl : @Ne Nat tu la) (hlc : @Ne Nat la ca)
  (ret : ∀ m' h' tk', m' (Str.ofString "cut") = some (.ref ca) → (∀ y, y ≠ Str.ofString "told" → m' y = m y) → Fr h₀ L h' m' → News h₀ L h' ((la, W.listOf (lv.push (.ref tu)) (nl + 1)) :: (ca, W.listOf (av.push (.ref la)) nc) :: Y) → Q .next {s with heap := h', toks := tk'}) :
  wpAny (model prog w) (lawA gd L fa cd outer) (execs s13Body (lawEnv L fa cd)) Q E s := by
  show wpAny _ _ (execs (_ :: _ :: []) _) _ _ _
  k_steps
  all_goals (try k_data)
  refine' ret ?m3 ?h3 ?tk3 ?mc3 ?mk3 ?F3 ?N3
  (case F3 => k_asm)
  (case N3 => refine News.sub (by k_asm) ?_; (repeat (first | exact List.forall_mem_nil _ | refine List.forall_mem_cons.mpr ⟨by k_mem, ?_⟩ | (intro p hp; repeat (first | exact hp | refine List.mem_cons_of_mem _ ?_)))))
  (case mc3 => exact hm1)
  (case mk3 => exact fun _ _ => rfl)
end

end

section
set_option linter.unusedVariables false
set_option linter.unusedSimpArgs false
variable {w : World} {p : Program} {loose : List Str} {mean : ExcName → Option Value} {mg mb : Str → Option Value}


def cutStep (acc : List (List (Addr × TD))) (t : Addr × TD) : List (List (Addr × TD)) :=
  if acc = [] ∨ t.2.f = true then acc ++ [[t]] else acc.dropLast ++ [acc.getLast?.getD [] ++ [t]]
def cutA (l : List (Addr × TD)) : List (List (Addr × TD)) := l.foldl cutStep []
theorem cutStep_new {acc : List (List (Addr × TD))} {t : Addr × TD} (h : acc = [] ∨ t.2.f = true) : cutStep acc t = acc ++ [[t]] := if_pos h
theorem cutStep_old {d : List (List (Addr × TD))} {l : List (Addr × TD)} {t : Addr × TD} (h : t.2.f = false) : cutStep (d ++ [l]) t = d ++ [l ++ [t]] := by
  unfold cutStep
  rw [if_neg (by simp [h])]
  simp
theorem cutA_snoc (l : List (Addr × TD)) (t : Addr × TD) : cutA (l ++ [t]) = cutStep (cutA l) t := by simp [cutA]
section
variable {gd : Option (List Code)} {A₀ : Around} {outer : List Env} {base h₀ : Heap} {L fa : Addr} {cd : Value} {m : Str → Option Value} {s : Shared}
  {T r rl bA fl S D g u ca : Addr} {nf : Nat} {fus : List (Addr × TD)} {rest : List (Addr × Obj)}
def lineObj (q : RowR) : Addr × Obj := (q.1, W.listOf (refs q.2.2).toArray q.2.1)
inductive S13J (T rl bA fl S g u ca : Addr) (nf : Nat) (fus : List (Addr × TD)) (rest : List (Addr × Obj)) (i : Nat) (m : Str → Option Value) (news : List (Addr × Obj)) : Prop
  | mk (cs : List RowR) (nc : Nat) (Y : List (Addr × Obj)) (h : LocA m T rl bA fl S g u ∧ m (Str.ofString "cut") = some (.ref ca) ∧ cs.map (fun q => q.2.2) = cutA (fus.take i) ∧ cs.length ≤ i ∧ (∀ q ∈ cs, q.2.2.length ≤ i) ∧ (∀ q ∈ cs, ∀ t ∈ q.2.2, t.2.Ok) ∧ (∀ p ∈ Y, p.1 ≠ ca) ∧ (∀ p ∈ rest, p ∈ Y) ∧
    ((cs = [] ∧ news = (fl, W.listOf (refs fus).toArray nf) :: (ca, W.listOf (rowsVal cs).toArray nc) :: Y) ∨
     ∃ dn la, cs = dn ++ [la] ∧ news = (fl, W.listOf (refs fus).toArray nf) :: (ca, W.listOf (rowsVal cs).toArray nc) :: lineObj la :: Y ∧ LinesIn (InL Y) dn ∧ (∀ t ∈ la.2.2, ToldP (InL Y) t.1 t.2) ∧ (∀ p ∈ Y, p.1 ≠ la.1) ∧ la.1 ≠ ca ∧ la.1 ≠ fl))
theorem S13J.lines {i : Nat} {m : Str → Option Value} {news : List (Addr × Obj)} (c : S13J T rl bA fl S g u ca nf fus rest i m news) :
    ∃ (cs : List RowR) (nc : Nat), (fl, W.listOf (refs fus).toArray nf) ∈ news ∧ (ca, W.listOf (rowsVal cs).toArray nc) ∈ news ∧ LinesIn (InL news) cs ∧ cs.map (fun q => q.2.2) = cutA (fus.take i) ∧ (∀ q ∈ cs, ∀ t ∈ q.2.2, t.2.Ok) ∧ (∀ p ∈ rest, p ∈ news) ∧ LocA m T rl bA fl S g u ∧ m (Str.ofString "cut") = some (.ref ca) := by
  obtain ⟨cs, nc, Y, lA, mc, he, hl, hl2, hok, hY, hr, h⟩ := c
  refine ⟨cs, nc, ?_⟩
  rcases h with ⟨rfl, rfl⟩ | ⟨dn, la, rfl, rfl, hd, hla, hYl, hlc, hlf⟩
  · exact ⟨.head _, .tail _ (.head _), (fun _ h => nomatch h), he, hok, (fun p hp => .tail _ (.tail _ (hr p hp))), lA, mc⟩
  · refine ⟨.head _, .tail _ (.head _), ?_, he, hok, (fun p hp => .tail _ (.tail _ (.tail _ (hr p hp)))), lA, mc⟩
    intro q hq
    rcases List.mem_append.mp hq with h | h
    · exact ⟨.tail _ (.tail _ (.tail _ (hd q h).1)), fun t ht => ((hd q h).2 t ht).mono fun a o z => .tail _ (.tail _ (.tail _ z))⟩
    · rw [List.mem_singleton.mp h]
      exact ⟨.tail _ (.tail _ (.head _)), fun t ht => (hla t ht).mono fun a o z => .tail _ (.tail _ (.tail _ z))⟩
theorem s13_turn {I : Addr} {oI : Obj} {i : Nat} {news : List (Addr × Obj)} {tu : Addr × TD} {s9 : Shared} {E : Value → Shared → Prop}
  (B : Below A₀ base outer h₀) (F : Fr h₀ L s.heap m) (X : (hd.heap_1 w.params).In h₀) (TT : Top p loose mean mg mb h₀) (hs9 : ∃ h tk, s = {s9 with heap := h, toks := tk}) (hm2 : m (Str.ofString "told") = some (.ref tu.1)) (hfi : fus[i]? = some tu) (hft : ToldP (InL rest) tu.1 tu.2) (hok : tu.2.Ok) (hi : i < 50) (hfc : @Ne Nat fl ca)
  (J : S13J T rl bA fl S g u ca nf fus rest i m news) (hoff : ∀ p ∈ news, p.1 ≠ I) (N : News h₀ L s.heap ((I, oI) :: news)) :
  wpAny (model prog w) (lawA gd L fa cd outer) (execs s13Body (lawEnv L fa cd)) (TurnEnd h₀ L s9 I oI (S13J T rl bA fl S g u ca nf fus rest (i + 1))) E s := by
  obtain ⟨cs, nc, Y, lA, mc, he, hl, hl2, hoks, hY, hr, hc⟩ := J
  obtain ⟨hh9, tk9, rfl⟩ := hs9
  obtain ⟨ta, ⟨val, sp, f, row, col⟩⟩ := tu
  obtain ⟨j1, j2, j3, j4, j5, hm⟩ := hft
  have hmY : (ta, toldL val sp f row col j1 j2 j3 j4 j5) ∈ Y := hr _ hm
  have htc : @Ne Nat ta ca := hY _ hmY
  have et : fus.take (i + 1) = fus.take i ++ [(ta, ⟨val, sp, f, row, col⟩)] := by rw [List.take_add_one, hfi]; rfl
  have lAk : ∀ m' : Str → Option Value, (∀ y, y ≠ Str.ofString "told" → m' y = m y) → LocA m' T rl bA fl S g u := fun m' k => by
    obtain ⟨a1, a2, a3, a4, a5, a6, a7⟩ := lA
    exact ⟨(k _ (by decide +kernel)).trans a1, (k _ (by decide +kernel)).trans a2, (k _ (by decide +kernel)).trans a3, (k _ (by decide +kernel)).trans a4, (k _ (by decide +kernel)).trans a5, (k _ (by decide +kernel)).trans a6, (k _ (by decide +kernel)).trans a7⟩
  -- a new line
  have fresh : ∀ (Y1 : List (Addr × Obj)), (f = true ∨ cs = []) → news = (fl, W.listOf (refs fus).toArray nf) :: (ca, W.listOf (rowsVal cs).toArray nc) :: Y1 → (∀ p ∈ Y, p ∈ Y1) → (∀ p ∈ Y1, p.1 ≠ ca) → LinesIn (InL Y1) cs →
      wpAny (model prog w) (lawA gd L fa cd outer) (execs s13Body (lawEnv L fa cd)) (TurnEnd h₀ L s9 I oI (S13J T rl bA fl S g u ca nf fus rest (i + 1))) E { s9 with heap := hh9, toks := tk9 } := by
    intro Y1 hf e hY1 hYc hLY
    subst e
    have hIc : I ≠ ca := fun e => hoff _ (.tail _ (.head _)) e.symm
    have hIf : I ≠ fl := fun e => hoff _ (.head _) e.symm
    refine s13_new (tu := ta) (cs := cs) (P := decide (cs = [])) (f := f) (val := val) (sp := sp) (row := row) (col := col) (k1 := j1) (k2 := j2) (k3 := j3) (k4 := j4) (k5 := j5) (av := (rowsVal cs).toArray) (Y := (fl, W.listOf (refs fus).toArray nf) :: (I, oI) :: Y1) (nc := nc) B F X TT mc hm2 rfl ?_ rfl (by simp [rowsVal]; omega) (News.sub N ?_) (hLY.mono fun a o z => .tail _ (.tail _ z)) hoks ?_ htc ?_
    · rcases hf with h | h
      · exact .inr h
      · exact .inl (decide_eq_true h)
    · intro p hp
      simp only [List.mem_cons] at hp ⊢
      rcases hp with h | hp
      · rw [h]; exact .inr (.inr (.inr (hY1 _ hmY)))
      rcases hp with h | h | h | h <;> simp only [h, true_or, or_true]
    · exact List.forall_mem_cons.mpr ⟨hfc, List.forall_mem_cons.mpr ⟨hIc, hYc⟩⟩
    · intro l nl' nc' m' h2 tk2 hl9 hlc mc' mk' F2 N2
      have hIl : l ≠ I := fun e => hl9 (I, oI) (.tail _ (.head _)) e.symm
      refine ⟨rfl, h2, tk2, m', (fl, W.listOf (refs fus).toArray nf) :: (ca, W.listOf (rowsVal (cs ++ [(l, nl', [(ta, ⟨val, sp, f, row, col⟩)])])).toArray nc') :: lineObj (l, nl', [(ta, ⟨val, sp, f, row, col⟩)]) :: Y1, rfl, F2, News.sub N2 ?_, ?_, ⟨cs ++ [(l, nl', [(ta, ⟨val, sp, f, row, col⟩)])], nc', Y1, lAk m' mk', mc', ?_, by simp; omega, ?_, ?_, hYc, fun p hp => hY1 p (hr p hp), .inr ⟨cs, _, rfl, rfl, hLY, ?_, fun p hp => hl9 p (.tail _ (.tail _ hp)), hlc, fun e => hl9 _ (.head _) e.symm⟩⟩⟩
      · intro p hp
        simp only [List.mem_cons, lineObj, refs, rowsVal, List.map_append, List.map_cons, List.map_nil, List.push_toArray] at hp ⊢
        rcases hp with h | h | h | h | h <;> simp only [h, true_or, or_true]
      · intro p hp
        simp only [List.mem_cons] at hp
        rcases hp with h | h | h | h
        · rw [h]; exact hIf.symm
        · rw [h]; exact hIc.symm
        · rw [h]; exact hIl
        · exact hoff p (.tail _ (.tail _ h))
      · rw [et, cutA_snoc, ← he, cutStep_new]
        · simp
        · rcases hf with h | h
          · exact .inr h
          · exact .inl (by rw [h]; rfl)
      · intro q hq
        rcases List.mem_append.mp hq with h | h
        · have := hl2 q h; omega
        · rw [List.mem_singleton.mp h]; simp
      · intro q hq
        rcases List.mem_append.mp hq with h | h
        · exact hoks q h
        · rw [List.mem_singleton.mp h]; intro t ht; rw [List.mem_singleton.mp ht]; exact hok
      · intro t ht
        rw [List.mem_singleton.mp ht]
        exact ⟨j1, j2, j3, j4, j5, hY1 _ hmY⟩
  rcases hc with ⟨hcs, e⟩ | ⟨dn, la, hcs, e, hd, hla, hYl, hlc, hlf⟩
  · exact fresh Y (.inr hcs) e (fun _ h => h) hY (by rw [hcs]; exact fun _ h => nomatch h)
  · cases f with
    | true =>
      refine fresh (lineObj la :: Y) (.inl rfl) e (fun _ h => .tail _ h) (List.forall_mem_cons.mpr ⟨hlc, hY⟩) ?_
      rw [hcs]
      intro q hq
      rcases List.mem_append.mp hq with h | h
      · exact ⟨.tail _ (hd q h).1, fun t ht => ((hd q h).2 t ht).mono fun a o z => .tail _ z⟩
      · rw [List.mem_singleton.mp h]; exact ⟨.head _, fun t ht => (hla t ht).mono fun a o z => .tail _ z⟩
    | false =>
      subst e
      have hIc : I ≠ ca := fun e => hoff _ (.tail _ (.head _)) e.symm
      have hIf : I ≠ fl := fun e => hoff _ (.head _) e.symm
      have hIl : I ≠ la.1 := fun e => hoff _ (.tail _ (.tail _ (.head _))) e.symm
      have hfl9 : fl ≠ la.1 := hlf.symm
      have eav : ((rowsVal dn).toArray.push (.ref la.1)) = (rowsVal cs).toArray := by rw [hcs]; simp [rowsVal]
      refine s13_old (tu := ta) (la := la.1) (cs := cs) (P := false) (val := val) (sp := sp) (row := row) (col := col) (k1 := j1) (k2 := j2) (k3 := j3) (k4 := j4) (k5 := j5) (av := (rowsVal dn).toArray) (lv := (refs la.2.2).toArray) (nl := la.2.1) (Y := (fl, W.listOf (refs fus).toArray nf) :: (I, oI) :: Y) (nc := nc) B F X TT mc hm2 (by rw [hcs]; simp) eav ?_ ?_ (News.sub N ?_) ?_ hoks ?_ ?_ htc (hYl _ hmY) hlc ?_
      · have := congrArg List.length hcs; simp [rowsVal] at this ⊢; omega
      · have := hl2 la (by rw [hcs]; simp); simp [refs]; omega
      · rw [eav]
        intro p hp
        simp only [List.mem_cons, lineObj] at hp ⊢
        rcases hp with h | hp
        · rw [h]; exact .inr (.inr (.inr (.inr hmY)))
        rcases hp with h | h | h | h | h <;> simp only [h, true_or, or_true]
      · rw [hcs]
        intro q hq
        rcases List.mem_append.mp hq with h | h
        · exact ⟨.tail _ (.tail _ (.tail _ (hd q h).1)), fun t ht => ((hd q h).2 t ht).mono fun a o z => .tail _ (.tail _ (.tail _ z))⟩
        · rw [List.mem_singleton.mp h]; exact ⟨.head _, fun t ht => (hla t ht).mono fun a o z => .tail _ (.tail _ (.tail _ z))⟩
      · exact List.forall_mem_cons.mpr ⟨hfc, List.forall_mem_cons.mpr ⟨hIc, hY⟩⟩
      · exact List.forall_mem_cons.mpr ⟨hfl9, List.forall_mem_cons.mpr ⟨hIl, hYl⟩⟩
      intro m' h2 tk2 mc' mk' F2 N2
      rw [eav] at N2
      have ecs : (rowsVal cs) = rowsVal (dn ++ [(la.1, la.2.1 + 1, la.2.2 ++ [(ta, ⟨val, sp, false, row, col⟩)])]) := by rw [hcs]; simp [rowsVal]
      refine ⟨rfl, h2, tk2, m', (fl, W.listOf (refs fus).toArray nf) :: (ca, W.listOf (rowsVal (dn ++ [(la.1, la.2.1 + 1, la.2.2 ++ [(ta, ⟨val, sp, false, row, col⟩)])])).toArray nc) :: lineObj (la.1, la.2.1 + 1, la.2.2 ++ [(ta, ⟨val, sp, false, row, col⟩)]) :: Y, rfl, F2, News.sub N2 ?_, ?_, ⟨dn ++ [(la.1, la.2.1 + 1, la.2.2 ++ [(ta, ⟨val, sp, false, row, col⟩)])], nc, Y, lAk m' mk', mc', ?_, ?_, ?_, ?_, hY, hr, .inr ⟨dn, (la.1, la.2.1 + 1, la.2.2 ++ [(ta, ⟨val, sp, false, row, col⟩)]), rfl, rfl, hd, ?_, hYl, hlc, hlf⟩⟩⟩
      · rw [← ecs]
        intro p hp
        simp only [List.mem_cons, lineObj, refs, List.map_append, List.map_cons, List.map_nil, List.push_toArray] at hp ⊢
        rcases hp with h | h | h | h | h <;> simp only [h, true_or, or_true]
      · intro p hp
        simp only [List.mem_cons] at hp
        rcases hp with h | h | h | h
        · rw [h]; exact hIf.symm
        · rw [h]; exact hIc.symm
        · rw [h]; exact hIl.symm
        · exact hoff p (.tail _ (.tail _ (.tail _ h)))
      · rw [et, cutA_snoc, ← he, hcs, List.map_append, List.map_append]
        show _ = cutStep (dn.map (fun q => q.2.2) ++ [la.2.2]) _
        rw [cutStep_old rfl]; rfl
      · have := congrArg List.length hcs; simp at this ⊢; omega
      · intro q hq
        rcases List.mem_append.mp hq with h | h
        · have := hl2 q (by rw [hcs]; exact List.mem_append_left _ h); omega
        · have := hl2 la (by rw [hcs]; simp)
          rw [List.mem_singleton.mp h]; simp; omega
      · intro q hq
        rcases List.mem_append.mp hq with h | h
        · exact hoks q (by rw [hcs]; exact List.mem_append_left _ h)
        · rw [List.mem_singleton.mp h]
          intro t ht
          rcases List.mem_append.mp ht with z | z
          · exact hoks la (by rw [hcs]; simp) t z
          · rw [List.mem_singleton.mp z]; exact hok
      · intro t ht
        rcases List.mem_append.mp ht with z | z
        · exact hla t z
        · rw [List.mem_singleton.mp z]; exact ⟨j1, j2, j3, j4, j5, hmY⟩
theorem law_s13 {Q : Flow → Shared → Prop}
  (B : Below A₀ base outer h₀) (F : Fr h₀ L s.heap m) (X : (hd.heap_1 w.params).In h₀) (TT : Top p loose mean mg mb h₀) (lA : LocA m T rl bA fl S g u) (hm1 : m (Str.ofString "cut") = some (.ref ca)) (hfc : @Ne Nat fl ca) (hft : ∀ q ∈ fus, ToldP (InL rest) q.1 q.2) (hok : ∀ q ∈ fus, q.2.Ok) (hfl : fus.length ≤ 50) (hrc : ∀ p ∈ rest, p.1 ≠ ca)
  (N : News h₀ L s.heap ((fl, W.listOf (refs fus).toArray nf) :: (ca, W.listOf #[] 0) :: rest))
  (ret : ∀ m' news' h' tk', S13J T rl bA fl S g u ca nf fus rest fus.length m' news' → Fr h₀ L h' m' → News h₀ L h' news' → Q .next {s with heap := h', toks := tk'}) :
  wpAny (model prog w) (lawA gd L fa cd outer) (execs (lawAt 13) (lawEnv L fa cd)) Q (fun _ _ => False) s := by
  show wpAny _ _ (execs (_ :: []) _) _ _ _
  refine wpAny_execs_cons ?_
  show wpAny _ _ (exec (.For (.Name _ _) (.Name _ _) s13Body [] _) _) _ _ _
  refine wpAny_For (ld F lA.2.2.2.1 ?_)
  refine forList_FN (S13J T rl bA fl S g u ca nf fus rest) (n := nf) (items := (refs fus).toArray) rfl rfl rfl F N ?_ ?_ ?_ ?_
  · exact ⟨[], 0, rest, lA, hm1, rfl, Nat.zero_le _, (fun _ h => nomatch h), (fun _ h => nomatch h), hrc, fun _ h => h, .inl ⟨rfl, rfl⟩⟩
  · intro i m1 news1 hJ
    obtain ⟨_, _, h, _⟩ := hJ.lines
    exact h
  · intro i v m₁ news₁ h tk1 I oI hv hJ hoff F1 N1
    obtain ⟨q, hq, rfl⟩ : ∃ q, fus[i]? = some q ∧ v = .ref q.1 := by
      rw [List.getElem?_toArray] at hv
      unfold refs at hv
      rw [List.getElem?_map] at hv
      cases hq : fus[i]? with
      | none => rw [hq] at hv; cases hv
      | some q => rw [hq] at hv; exact ⟨q, rfl, (Option.some.inj hv).symm⟩
    have hmem := List.mem_of_getElem? hq
    have hi : i < fus.length := by
      rcases Nat.lt_or_ge i fus.length with h | h
      · exact h
      · rw [List.getElem?_eq_none h] at hq; cases hq
    have hJ2 : S13J T rl bA fl S g u ca nf fus rest i (fun y => if y = Str.ofString "told" then some (.ref q.1) else m₁ y) news₁ := by
      rcases hJ with ⟨cs, nc, Y, h⟩
      exact ⟨cs, nc, Y, h⟩
    exact s13_turn B F1 X TT ⟨_, _, rfl⟩ rfl hq (hft q hmem) (hok q hmem) (by omega) hfc hJ2 hoff N1
  · intro m₁ news₁ h tk hJ F1 N1
    dsimp only
    have e : (refs fus).toArray.size = fus.length := by simp [refs]
    rw [e] at hJ
    (k_steps; all_goals (try k_data))
    all_goals (exact ret _ _ _ _ hJ (by k_asm) (by k_asm))
end

end

section
local macro_rules | `(tactic| walk_at "kendok") => `(tactic| (refine' endOk_of ?eE ?eH; (case eE => walk_at "kends"); (case eH => ((try dsimp only); (repeat (first | exact List.forall_mem_nil _ | refine List.forall_mem_cons.mpr ⟨(by first | exact .inl rfl | exact .inr (.inl rfl) | exact .inr (.inr (.inl (by (try dsimp only); omega))) | exact .inr (.inr (.inr (by (try dsimp only); omega)))), ?_⟩))))))
local macro_rules | `(tactic| walk_at "call ref") => `(tactic| (k_here; (try dsimp only [List.cons_append, List.nil_append]); (with_reducible show wpAny _ _ (call (Value.ref 57) [Value.ref _]) _ _ _); k_dflt (refine wpAny_call ?_; (first
  | (refine' fnext_go ?_ ?_ ?_ ?_ ?_ ?RD ?mS ?mD ?V ?N ?no ?_; walk_at "kstd"; (case RD => assumption); (case N => k_asm); (case mS => k_mem); (case mD => k_mem); (case V => walk_at "kendok"); (case no => first | assumption | (intro h; exact absurd h.1 Bool.false_ne_true) | (intro h; exact absurd h.2.1 (by assumption)) | (intro h; exact absurd h.2.2 Bool.false_ne_true)); k_whole; intro Z' h' tk' F' N' RD' tp'; (try dsimp only at N'); (try dsimp only))
  | (refine' fnext_stay ?_ ?_ ?_ ?_ ?_ ?RD ?mS ?mD ?V ?N ?no ?_; walk_at "kstd"; (case RD => assumption); (case N => k_asm); (case mS => k_mem); (case mD => k_mem); (case V => walk_at "kendok"); (case no => first | assumption | exact ⟨rfl, rfl, rfl⟩); k_whole; intro Z' h' tk' F' N' RD'; (try dsimp only at N'); (try dsimp only))
  | (refine' fnext_end ?_ ?_ ?_ ?_ ?_ ?RD ?mS ?mD ?V ?N ?_; walk_at "kstd"; (case RD => assumption); (case N => k_asm); (case mS => k_mem); (case mD => k_mem); (case V => walk_at "kendok"); k_whole; intro Z' h' tk' F' N' RD'; (try dsimp only at N'); (try dsimp only))))))
local macro_rules | `(tactic| walk_at "getAttr ref") => `(tactic| (k_here; (with_reducible show wpAny _ _ (getAttr (Value.ref _) (Str.ofString "peek") _) _ _ _); k_dflt (refine' get_prop ?k1 ?k2 ?k3 ?k4 ?k5 ?k6 ?k7 ?k8 ?k9 ?_; (case k1 => k_asm); (case k2 => k_asm); (case k3 => k_inst); (case k4 => k_is); (case k5 => k_is); (case k6 => k_is); (case k7 => k_is); (case k8 => k_is); (case k9 => k_is); k_whole; (first
  | (refine' fpeek_go ?_ ?_ ?_ ?_ ?_ ?RD ?mS ?mD ?V ?N ?no ?_; walk_at "kstd"; (case RD => assumption); (case N => k_asm); (case mS => k_mem); (case mD => k_mem); (case V => walk_at "kendok"); (case no => first | assumption | (intro h; exact absurd h.1 Bool.false_ne_true) | (intro h; exact absurd h.2.1 (by assumption)) | (intro h; exact absurd h.2.2 Bool.false_ne_true)); k_whole; intro Z' h' tk' F' N' RD' tp'; (try dsimp only at N'); (try dsimp only); (try (refine handed_on rfl ?_; try dsimp only)))
  | (refine' fpeek_stay ?_ ?_ ?_ ?_ ?_ ?RD ?mS ?mD ?V ?N ?no ?_; walk_at "kstd"; (case RD => assumption); (case N => k_asm); (case mS => k_mem); (case mD => k_mem); (case V => walk_at "kendok"); (case no => first | assumption | exact ⟨rfl, rfl, rfl⟩); k_whole; intro Z' h' tk' F' N' RD'; (try dsimp only at N'); (try dsimp only); (try (refine handed_on rfl ?_; try dsimp only)))
  | (refine' fpeek_end ?_ ?_ ?_ ?_ ?_ ?RD ?mS ?mD ?V ?N ?_; walk_at "kstd"; (case RD => assumption); (case N => k_asm); (case mS => k_mem); (case mD => k_mem); (case V => walk_at "kendok"); k_whole; intro Z' h' tk' F' N' RD'; (try dsimp only at N'); (try dsimp only); (try (refine handed_on rfl ?_; try dsimp only)))))))
local macro_rules | `(tactic| walk_at "call ref") => `(tactic| (k_here; (with_reducible show wpAny _ _ (call (Value.ref 287) [Value.ref _]) _ _ _); k_dflt (refine wpAny_call ?_; refine' told_at ?mk ?_ ?_ ?_ ?_ ?_ ?N ?hT ?hz ?_; (case mk => assumption); walk_at "kstd"; (case N => k_asm); (case hT => exact TokP.mono (by assumption) (fun _ _ h => (by repeat (first | exact h | exact List.mem_cons_of_mem _ h | exact List.mem_append_right _ h | refine List.mem_cons_of_mem _ ?_ | refine List.mem_append_right _ ?_)))); (case hz => k_mem); k_whole; intro u' kk1' kk2' kk3' kk4' kk5' h' tk' lt' ne' F' N'; (try dsimp only at N'); (have ne9 := off1_of ne'; simp only [LCg.Off1] at ne9); (try dsimp only))))
local macro_rules | `(tactic| walk_at "call ref") => `(tactic| (k_here; (with_reducible show wpAny _ _ (call (Value.ref 287) [Value.none]) _ _ _); k_dflt (refine wpAny_call ?_; refine' told_none ?_ ?_ ?_ ?_ ?_ ?N ?_; walk_at "kstd"; (case N => k_asm); k_whole; intro h' tk' x' F' N'; (try dsimp only at N'); (try dsimp only))))
local macro_rules | `(tactic| walk_at "subscriptTail") => `(tactic| (k_here; (with_reducible show wpAny _ _ (subscriptTail _ _ (Value.ref _) (Value.int _ _)) _ _ _); k_dflt (with_unfolding_all refine' li_pick ?k1 ?k2 ?_ ?k6; (case k2 => assumption); (case k1 => exact News.get (by k_asm) (by k_mem)); (case k6 => with_unfolding_all rfl); k_whole; (try dsimp only))))
local macro_rules | `(tactic| walk_at "call builtin:len") => `(tactic| (k_here; (with_reducible show wpAny _ _ (call (Value.builtin "len") [Value.ref _]) _ _ _); k_dflt (refine' li_len ?k1 ?k2 ?k3 ?_; (case k2 => assumption); (case k1 => exact News.get (by k_asm) (by k_mem)); (case k3 => omega); k_whole; (intro tl' tk'))))
local macro_rules | `(tactic| walk_at "compareOp Eq int int") => `(tactic| (k_here; first | refine cmp_eq_t (by omega) ?_ | refine cmp_eq_f (by omega) ?_))
local macro_rules | `(tactic| k_all) => `(tactic| first | exact (RdX.offD (by assumption)).1 | exact RdX.ne (by assumption) (.inr (by omega)) (by assumption))
local macro_rules | `(tactic| walk_at "loadName") => `(tactic| (k_here; k_dflt (refine' ldn ?k1 ?k2 ?_; (case k1 => k_asm); (case k2 => assumption); k_whole)))

section
set_option linter.unusedVariables false
set_option linter.unusedSimpArgs false
variable {w : World} {p : Program} {loose : List Str} {mean : ExcName → Option Value} {mg mb : Str → Option Value}



section
variable {gd : Option (List Code)} {A₀ : Around} {outer : List Env} {base h₀ : Heap} {L fa : Addr} {cd : Value} {m : Str → Option Value} {s : Shared} {Q : Flow → Shared → Prop} {E : Value → Shared → Prop}
  {T r rl bA fl S D g u BUF it ML tu tx iI : Addr} {o oR oI : Obj} {k : FeK} {on f : Bool} {dp : Int} {pl n0 : Nat} {tp te k1 k2 k3 k4 k5 : Tok} {lo hi nf ng nu : Nat} {fus : List (Addr × TD)} {gv dv : Array Value} {Z ot : List (Addr × Obj)} {ev val sp : Str} {row col : Int}
  {rem : List (Addr × TD)}

theorem s8_take_end
  (B : Below A₀ base outer h₀) (F : Fr h₀ L s.heap m) (X : (hd.heap_1 w.params).In h₀) (TT : Top p loose mean mg mb h₀) (a : LocA m T rl bA fl S g u) (b : LocV m on dp pl) (hev : m (Str.ofString "event") = some (.str (Str.ofString "take") te)) 
  (c1 : @LT.lt Nat _ T r) (c2 : @LT.lt Nat _ r fl) (c3 : @LT.lt Nat _ fl lo) (c4 : @LE.le Nat _ lo D) (c5 : @LT.lt Nat _ D S) (c6 : @LT.lt Nat _ S hi) (c7 : @LE.le Nat _ hi g) (c8 : @LT.lt Nat _ g u) (c10 : @LT.lt Nat _ u iI) 
  (hog : ∀ p ∈ ot, p.1 ≠ g) (hou : ∀ p ∈ ot, p.1 ≠ u) (mk : MarkHi g) (hgv : gv.size ≤ 100) (hdv : dv.size ≤ 100)
  (RD : RdX lo hi S D BUF it ML ot Z []) (hn0 : (refs fus).length = n0) (hpl : (pl : Int) = (n0 : Int)) (hfl : n0 ≤ 100)
  (N : News h₀ L s.heap ((iI, oI) :: (T, o) :: (r, oR) :: (fl, W.listOf (refs fus).toArray nf) :: (S, instObj 67 D) :: (D, feDict k BUF it ML on dp tp) :: (g, W.listOf gv ng) :: (u, W.listOf dv nu) :: Z))
  (ret : ∀ Z' tp' m' h' tk', RdX lo hi S D BUF it ML ot Z' [] → LocA m' T rl bA fl S g u → LocV m' on dp pl → Fr h₀ L h' m' → News h₀ L h' ((iI, oI) :: (T, o) :: (r, oR) :: (fl, W.listOf (refs fus).toArray nf) :: (S, instObj 67 D) :: (D, feDict k BUF it ML on dp tp') :: (g, W.listOf (gv.push .none) (ng + 1)) :: (u, W.listOf (dv.push .none) (nu + 1)) :: Z') → Q .next {s with heap := h', toks := tk'}) :
  wpAny (model prog w) (lawA gd L fa cd outer) (execs (s8Body.drop 1) (lawEnv L fa cd)) Q E s := by
  obtain ⟨a1, a2, a3, a4, a5, a6, a7⟩ := a
  obtain ⟨b1, ⟨td, b2⟩, ⟨tl, b3⟩⟩ := b
  show wpAny _ _ (execs (_ :: _ :: _ :: []) _) _ _ _
  k_steps
  all_goals (try k_data)
  refine' ret ?Z ?tp ?m ?h ?tk ?rd ?la ?lv ?F ?N
  (case rd => assumption)
  (case F => k_asm)
  (case N => refine News.sub (by k_asm) ?_; (repeat (first | exact List.forall_mem_nil _ | refine List.forall_mem_cons.mpr ⟨by k_mem, ?_⟩ | (intro p hp; repeat (first | exact hp | refine List.mem_cons_of_mem _ ?_)))))
  (case la => exact ⟨a1, a2, a3, a4, a5, a6, a7⟩)
  (case lv => exact ⟨(by first | exact b1 | exact rfl), (by first | exact ⟨_, rfl⟩ | exact ⟨_, b2⟩), (by first | exact ⟨_, b3⟩ | exact ⟨_, rfl⟩)⟩)

theorem s8_take_stay
  (B : Below A₀ base outer h₀) (F : Fr h₀ L s.heap m) (X : (hd.heap_1 w.params).In h₀) (TT : Top p loose mean mg mb h₀) (a : LocA m T rl bA fl S g u) (b : LocV m true 0 pl) (hev : m (Str.ofString "event") = some (.str (Str.ofString "take") te)) 
  (c1 : @LT.lt Nat _ T r) (c2 : @LT.lt Nat _ r fl) (c3 : @LT.lt Nat _ fl lo) (c4 : @LE.le Nat _ lo D) (c5 : @LT.lt Nat _ D S) (c6 : @LT.lt Nat _ S hi) (c7 : @LE.le Nat _ hi g) (c8 : @LT.lt Nat _ g u) (c10 : @LT.lt Nat _ u iI) (c9 : @LT.lt Nat _ tu lo) (hx : 0 ≤ (pl : Int) ∧ (pl : Int) < 1000 ∧ (refs fus)[(pl : Int).toNat]? = some (.ref tu)) 
  (hog : ∀ p ∈ ot, p.1 ≠ g) (hou : ∀ p ∈ ot, p.1 ≠ u) (mk : MarkHi g) (hgv : gv.size ≤ 100) (hdv : dv.size ≤ 100)
  (RD : RdX lo hi S D BUF it ML ot Z ((tx, ⟨val, sp, true, row, col⟩) :: rem)) (hn0 : (refs fus).length = n0) (hpl : (pl : Int) < (n0 : Int)) (hfl : n0 ≤ 100)
  (N : News h₀ L s.heap ((iI, oI) :: (T, o) :: (r, oR) :: (fl, W.listOf (refs fus).toArray nf) :: (tu, toldL val sp true row col k1 k2 k3 k4 k5) :: (S, instObj 67 D) :: (D, feDict k BUF it ML true 0 tp) :: (g, W.listOf gv ng) :: (u, W.listOf dv nu) :: Z))
  (ret : ∀ Z' tp' m' h' tk', RdX lo hi S D BUF it ML ot Z' ((tx, ⟨val, sp, true, row, col⟩) :: rem) → LocA m' T rl bA fl S g u → LocV m' true 0 pl → Fr h₀ L h' m' → News h₀ L h' ((iI, oI) :: (T, o) :: (r, oR) :: (fl, W.listOf (refs fus).toArray nf) :: (tu, toldL val sp true row col k1 k2 k3 k4 k5) :: (S, instObj 67 D) :: (D, feDict k BUF it ML true 0 tp') :: (g, W.listOf (gv.push .none) (ng + 1)) :: (u, W.listOf (dv.push .none) (nu + 1)) :: Z') → Q .next {s with heap := h', toks := tk'}) :
  wpAny (model prog w) (lawA gd L fa cd outer) (execs (s8Body.drop 1) (lawEnv L fa cd)) Q E s := by
  obtain ⟨a1, a2, a3, a4, a5, a6, a7⟩ := a
  obtain ⟨b1, ⟨td, b2⟩, ⟨tl, b3⟩⟩ := b
  show wpAny _ _ (execs (_ :: _ :: _ :: []) _) _ _ _
  k_steps
  all_goals (try k_data)
  refine' ret ?Z ?tp ?m ?h ?tk ?rd ?la ?lv ?F ?N
  (case rd => assumption)
  (case F => k_asm)
  (case N => refine News.sub (by k_asm) ?_; (repeat (first | exact List.forall_mem_nil _ | refine List.forall_mem_cons.mpr ⟨by k_mem, ?_⟩ | (intro p hp; repeat (first | exact hp | refine List.mem_cons_of_mem _ ?_)))))
  (case la => exact ⟨a1, a2, a3, a4, a5, a6, a7⟩)
  (case lv => exact ⟨(by first | exact b1 | exact rfl), (by first | exact ⟨_, rfl⟩ | exact ⟨_, b2⟩), (by first | exact ⟨_, b3⟩ | exact ⟨_, rfl⟩)⟩)

theorem s8_take_go1
  (B : Below A₀ base outer h₀) (F : Fr h₀ L s.heap m) (X : (hd.heap_1 w.params).In h₀) (TT : Top p loose mean mg mb h₀) (a : LocA m T rl bA fl S g u) (b : LocV m false dp pl) (hev : m (Str.ofString "event") = some (.str (Str.ofString "take") te)) 
  (c1 : @LT.lt Nat _ T r) (c2 : @LT.lt Nat _ r fl) (c3 : @LT.lt Nat _ fl lo) (c4 : @LE.le Nat _ lo D) (c5 : @LT.lt Nat _ D S) (c6 : @LT.lt Nat _ S hi) (c7 : @LE.le Nat _ hi g) (c8 : @LT.lt Nat _ g u) (c10 : @LT.lt Nat _ u iI) (c9 : @LT.lt Nat _ tu lo) (hx : 0 ≤ (pl : Int) ∧ (pl : Int) < 1000 ∧ (refs fus)[(pl : Int).toNat]? = some (.ref tu)) 
  (hog : ∀ p ∈ ot, p.1 ≠ g) (hou : ∀ p ∈ ot, p.1 ≠ u) (mk : MarkHi g) (hgv : gv.size ≤ 100) (hdv : dv.size ≤ 100)
  (RD : RdX lo hi S D BUF it ML ot Z ((tx, ⟨val, sp, f, row, col⟩) :: rem)) (hn0 : (refs fus).length = n0) (hpl : (pl : Int) < (n0 : Int)) (hfl : n0 ≤ 100)
  (N : News h₀ L s.heap ((iI, oI) :: (T, o) :: (r, oR) :: (fl, W.listOf (refs fus).toArray nf) :: (tu, toldL val sp f row col k1 k2 k3 k4 k5) :: (S, instObj 67 D) :: (D, feDict k BUF it ML false dp tp) :: (g, W.listOf gv ng) :: (u, W.listOf dv nu) :: Z))
  (ret : ∀ Z' u' kk1 kk2 kk3 kk4 kk5 tp' m' h' tk', RdX lo hi S D BUF it ML ot Z' rem → @LT.lt Nat _ g u' → @Ne Nat u u' → @Ne Nat iI u' → (∀ p ∈ Z', p.1 ≠ u') → LocA m' T rl bA fl S g u → LocV m' false dp (pl + 1) → Fr h₀ L h' m' → News h₀ L h' ((iI, oI) :: (T, o) :: (r, oR) :: (fl, W.listOf (refs fus).toArray nf) :: (tu, toldL val sp f row col k1 k2 k3 k4 k5) :: (S, instObj 67 D) :: (D, feDict k BUF it ML false dp tp') :: (g, W.listOf (gv.push (.ref u')) (ng + 1)) :: (u, W.listOf (dv.push (.ref tu)) (nu + 1)) :: (u', toldObj ⟨val, sp, f, row, col⟩ kk1 kk2 kk3 kk4 kk5) :: Z') → Q .next {s with heap := h', toks := tk'}) :
  wpAny (model prog w) (lawA gd L fa cd outer) (execs (s8Body.drop 1) (lawEnv L fa cd)) Q E s := by
  obtain ⟨a1, a2, a3, a4, a5, a6, a7⟩ := a
  obtain ⟨b1, ⟨td, b2⟩, ⟨tl, b3⟩⟩ := b
  show wpAny _ _ (execs (_ :: _ :: _ :: []) _) _ _ _
  k_steps
  all_goals (try k_data)
  refine' ret ?Z ?u ?kk1 ?kk2 ?kk3 ?kk4 ?kk5 ?tp ?m ?h ?tk ?rd ?lt ?ne ?ni ?nz ?la ?lv ?F ?N
  (case rd => assumption)
  (case F => k_asm)
  (case N => refine News.sub (by k_asm) ?_; (repeat (first | exact List.forall_mem_nil _ | refine List.forall_mem_cons.mpr ⟨by k_mem, ?_⟩ | (intro p hp; repeat (first | exact hp | refine List.mem_cons_of_mem _ ?_)))))
  (case la => exact ⟨a1, a2, a3, a4, a5, a6, a7⟩)
  (case lv => exact ⟨(by first | exact b1 | exact rfl), (by first | exact ⟨_, rfl⟩ | exact ⟨_, b2⟩), (by first | exact ⟨_, b3⟩ | exact ⟨_, rfl⟩)⟩)
  (case lt => assumption)
  (case ne => omega)
  (case ni => omega)
  (case nz => exact off1_mem (And.right (And.right (And.right (And.right (And.right (And.right (And.right (And.right (And.right (by assumption)))))))))))

theorem s8_take_go2
  (B : Below A₀ base outer h₀) (F : Fr h₀ L s.heap m) (X : (hd.heap_1 w.params).In h₀) (TT : Top p loose mean mg mb h₀) (a : LocA m T rl bA fl S g u) (b : LocV m true dp pl) (hev : m (Str.ofString "event") = some (.str (Str.ofString "take") te)) (hdp : dp ≠ 0)
  (c1 : @LT.lt Nat _ T r) (c2 : @LT.lt Nat _ r fl) (c3 : @LT.lt Nat _ fl lo) (c4 : @LE.le Nat _ lo D) (c5 : @LT.lt Nat _ D S) (c6 : @LT.lt Nat _ S hi) (c7 : @LE.le Nat _ hi g) (c8 : @LT.lt Nat _ g u) (c10 : @LT.lt Nat _ u iI) (c9 : @LT.lt Nat _ tu lo) (hx : 0 ≤ (pl : Int) ∧ (pl : Int) < 1000 ∧ (refs fus)[(pl : Int).toNat]? = some (.ref tu)) 
  (hog : ∀ p ∈ ot, p.1 ≠ g) (hou : ∀ p ∈ ot, p.1 ≠ u) (mk : MarkHi g) (hgv : gv.size ≤ 100) (hdv : dv.size ≤ 100)
  (RD : RdX lo hi S D BUF it ML ot Z ((tx, ⟨val, sp, f, row, col⟩) :: rem)) (hn0 : (refs fus).length = n0) (hpl : (pl : Int) < (n0 : Int)) (hfl : n0 ≤ 100)
  (N : News h₀ L s.heap ((iI, oI) :: (T, o) :: (r, oR) :: (fl, W.listOf (refs fus).toArray nf) :: (tu, toldL val sp f row col k1 k2 k3 k4 k5) :: (S, instObj 67 D) :: (D, feDict k BUF it ML true dp tp) :: (g, W.listOf gv ng) :: (u, W.listOf dv nu) :: Z))
  (ret : ∀ Z' u' kk1 kk2 kk3 kk4 kk5 tp' m' h' tk', RdX lo hi S D BUF it ML ot Z' rem → @LT.lt Nat _ g u' → @Ne Nat u u' → @Ne Nat iI u' → (∀ p ∈ Z', p.1 ≠ u') → LocA m' T rl bA fl S g u → LocV m' true dp (pl + 1) → Fr h₀ L h' m' → News h₀ L h' ((iI, oI) :: (T, o) :: (r, oR) :: (fl, W.listOf (refs fus).toArray nf) :: (tu, toldL val sp f row col k1 k2 k3 k4 k5) :: (S, instObj 67 D) :: (D, feDict k BUF it ML true dp tp') :: (g, W.listOf (gv.push (.ref u')) (ng + 1)) :: (u, W.listOf (dv.push (.ref tu)) (nu + 1)) :: (u', toldObj ⟨val, sp, f, row, col⟩ kk1 kk2 kk3 kk4 kk5) :: Z') → Q .next {s with heap := h', toks := tk'}) :
  wpAny (model prog w) (lawA gd L fa cd outer) (execs (s8Body.drop 1) (lawEnv L fa cd)) Q E s := by
  obtain ⟨a1, a2, a3, a4, a5, a6, a7⟩ := a
  obtain ⟨b1, ⟨td, b2⟩, ⟨tl, b3⟩⟩ := b
  show wpAny _ _ (execs (_ :: _ :: _ :: []) _) _ _ _
  k_steps
  all_goals (try k_data)
  refine' ret ?Z ?u ?kk1 ?kk2 ?kk3 ?kk4 ?kk5 ?tp ?m ?h ?tk ?rd ?lt ?ne ?ni ?nz ?la ?lv ?F ?N
  (case rd => assumption)
  (case F => k_asm)
  (case N => refine News.sub (by k_asm) ?_; (repeat (first | exact List.forall_mem_nil _ | refine List.forall_mem_cons.mpr ⟨by k_mem, ?_⟩ | (intro p hp; repeat (first | exact hp | refine List.mem_cons_of_mem _ ?_)))))
  (case la => exact ⟨a1, a2, a3, a4, a5, a6, a7⟩)
  (case lv => exact ⟨(by first | exact b1 | exact rfl), (by first | exact ⟨_, rfl⟩ | exact ⟨_, b2⟩), (by first | exact ⟨_, b3⟩ | exact ⟨_, rfl⟩)⟩)
  (case lt => assumption)
  (case ne => omega)
  (case ni => omega)
  (case nz => exact off1_mem (And.right (And.right (And.right (And.right (And.right (And.right (And.right (And.right (And.right (by assumption)))))))))))

theorem s8_take_go3
  (B : Below A₀ base outer h₀) (F : Fr h₀ L s.heap m) (X : (hd.heap_1 w.params).In h₀) (TT : Top p loose mean mg mb h₀) (a : LocA m T rl bA fl S g u) (b : LocV m true 0 pl) (hev : m (Str.ofString "event") = some (.str (Str.ofString "take") te)) 
  (c1 : @LT.lt Nat _ T r) (c2 : @LT.lt Nat _ r fl) (c3 : @LT.lt Nat _ fl lo) (c4 : @LE.le Nat _ lo D) (c5 : @LT.lt Nat _ D S) (c6 : @LT.lt Nat _ S hi) (c7 : @LE.le Nat _ hi g) (c8 : @LT.lt Nat _ g u) (c10 : @LT.lt Nat _ u iI) (c9 : @LT.lt Nat _ tu lo) (hx : 0 ≤ (pl : Int) ∧ (pl : Int) < 1000 ∧ (refs fus)[(pl : Int).toNat]? = some (.ref tu)) 
  (hog : ∀ p ∈ ot, p.1 ≠ g) (hou : ∀ p ∈ ot, p.1 ≠ u) (mk : MarkHi g) (hgv : gv.size ≤ 100) (hdv : dv.size ≤ 100)
  (RD : RdX lo hi S D BUF it ML ot Z ((tx, ⟨val, sp, false, row, col⟩) :: rem)) (hn0 : (refs fus).length = n0) (hpl : (pl : Int) < (n0 : Int)) (hfl : n0 ≤ 100)
  (N : News h₀ L s.heap ((iI, oI) :: (T, o) :: (r, oR) :: (fl, W.listOf (refs fus).toArray nf) :: (tu, toldL val sp false row col k1 k2 k3 k4 k5) :: (S, instObj 67 D) :: (D, feDict k BUF it ML true 0 tp) :: (g, W.listOf gv ng) :: (u, W.listOf dv nu) :: Z))
  (ret : ∀ Z' u' kk1 kk2 kk3 kk4 kk5 tp' m' h' tk', RdX lo hi S D BUF it ML ot Z' rem → @LT.lt Nat _ g u' → @Ne Nat u u' → @Ne Nat iI u' → (∀ p ∈ Z', p.1 ≠ u') → LocA m' T rl bA fl S g u → LocV m' true 0 (pl + 1) → Fr h₀ L h' m' → News h₀ L h' ((iI, oI) :: (T, o) :: (r, oR) :: (fl, W.listOf (refs fus).toArray nf) :: (tu, toldL val sp false row col k1 k2 k3 k4 k5) :: (S, instObj 67 D) :: (D, feDict k BUF it ML true 0 tp') :: (g, W.listOf (gv.push (.ref u')) (ng + 1)) :: (u, W.listOf (dv.push (.ref tu)) (nu + 1)) :: (u', toldObj ⟨val, sp, false, row, col⟩ kk1 kk2 kk3 kk4 kk5) :: Z') → Q .next {s with heap := h', toks := tk'}) :
  wpAny (model prog w) (lawA gd L fa cd outer) (execs (s8Body.drop 1) (lawEnv L fa cd)) Q E s := by
  obtain ⟨a1, a2, a3, a4, a5, a6, a7⟩ := a
  obtain ⟨b1, ⟨td, b2⟩, ⟨tl, b3⟩⟩ := b
  show wpAny _ _ (execs (_ :: _ :: _ :: []) _) _ _ _
  k_steps
  all_goals (try k_data)
  refine' ret ?Z ?u ?kk1 ?kk2 ?kk3 ?kk4 ?kk5 ?tp ?m ?h ?tk ?rd ?lt ?ne ?ni ?nz ?la ?lv ?F ?N
  (case rd => assumption)
  (case F => k_asm)
  (case N => refine News.sub (by k_asm) ?_; (repeat (first | exact List.forall_mem_nil _ | refine List.forall_mem_cons.mpr ⟨by k_mem, ?_⟩ | (intro p hp; repeat (first | exact hp | refine List.mem_cons_of_mem _ ?_)))))
  (case la => exact ⟨a1, a2, a3, a4, a5, a6, a7⟩)
  (case lv => exact ⟨(by first | exact b1 | exact rfl), (by first | exact ⟨_, rfl⟩ | exact ⟨_, b2⟩), (by first | exact ⟨_, b3⟩ | exact ⟨_, rfl⟩)⟩)
  (case lt => assumption)
  (case ne => omega)
  (case ni => omega)
  (case nz => exact off1_mem (And.right (And.right (And.right (And.right (And.right (And.right (And.right (And.right (And.right (by assumption)))))))))))
end

end
section
set_option linter.unusedVariables false
set_option linter.unusedSimpArgs false
variable {w : World} {p : Program} {loose : List Str} {mean : ExcName → Option Value} {mg mb : Str → Option Value}



section
variable {gd : Option (List Code)} {A₀ : Around} {outer : List Env} {base h₀ : Heap} {L fa : Addr} {cd : Value} {m : Str → Option Value} {s : Shared} {Q : Flow → Shared → Prop} {E : Value → Shared → Prop}
  {T r rl bA fl S D g u BUF it ML tu tx iI : Addr} {o oR oI : Obj} {k : FeK} {on f : Bool} {dp : Int} {pl n0 : Nat} {tp te k1 k2 k3 k4 k5 : Tok} {lo hi nf ng nu : Nat} {fus : List (Addr × TD)} {gv dv : Array Value} {Z ot : List (Addr × Obj)} {ev val sp : Str} {row col : Int}
  {rem : List (Addr × TD)}

theorem s8_look_end
  (B : Below A₀ base outer h₀) (F : Fr h₀ L s.heap m) (X : (hd.heap_1 w.params).In h₀) (TT : Top p loose mean mg mb h₀) (a : LocA m T rl bA fl S g u) (b : LocV m on dp pl) (hev : m (Str.ofString "event") = some (.str (Str.ofString "look") te)) 
  (c1 : @LT.lt Nat _ T r) (c2 : @LT.lt Nat _ r fl) (c3 : @LT.lt Nat _ fl lo) (c4 : @LE.le Nat _ lo D) (c5 : @LT.lt Nat _ D S) (c6 : @LT.lt Nat _ S hi) (c7 : @LE.le Nat _ hi g) (c8 : @LT.lt Nat _ g u) (c10 : @LT.lt Nat _ u iI) 
  (hog : ∀ p ∈ ot, p.1 ≠ g) (hou : ∀ p ∈ ot, p.1 ≠ u) (mk : MarkHi g) (hgv : gv.size ≤ 100) (hdv : dv.size ≤ 100)
  (RD : RdX lo hi S D BUF it ML ot Z []) (hn0 : (refs fus).length = n0) (hpl : (pl : Int) = (n0 : Int)) (hfl : n0 ≤ 100)
  (N : News h₀ L s.heap ((iI, oI) :: (T, o) :: (r, oR) :: (fl, W.listOf (refs fus).toArray nf) :: (S, instObj 67 D) :: (D, feDict k BUF it ML on dp tp) :: (g, W.listOf gv ng) :: (u, W.listOf dv nu) :: Z))
  (ret : ∀ Z' tp' m' h' tk', RdX lo hi S D BUF it ML ot Z' [] → LocA m' T rl bA fl S g u → LocV m' on dp pl → Fr h₀ L h' m' → News h₀ L h' ((iI, oI) :: (T, o) :: (r, oR) :: (fl, W.listOf (refs fus).toArray nf) :: (S, instObj 67 D) :: (D, feDict k BUF it ML on dp tp') :: (g, W.listOf (gv.push .none) (ng + 1)) :: (u, W.listOf (dv.push .none) (nu + 1)) :: Z') → Q .next {s with heap := h', toks := tk'}) :
  wpAny (model prog w) (lawA gd L fa cd outer) (execs (s8Body.drop 1) (lawEnv L fa cd)) Q E s := by
  obtain ⟨a1, a2, a3, a4, a5, a6, a7⟩ := a
  obtain ⟨b1, ⟨td, b2⟩, ⟨tl, b3⟩⟩ := b
  show wpAny _ _ (execs (_ :: _ :: _ :: []) _) _ _ _
  k_steps
  all_goals (try k_data)
  refine' ret ?Z ?tp ?m ?h ?tk ?rd ?la ?lv ?F ?N
  (case rd => assumption)
  (case F => k_asm)
  (case N => refine News.sub (by k_asm) ?_; (repeat (first | exact List.forall_mem_nil _ | refine List.forall_mem_cons.mpr ⟨by k_mem, ?_⟩ | (intro p hp; repeat (first | exact hp | refine List.mem_cons_of_mem _ ?_)))))
  (case la => exact ⟨a1, a2, a3, a4, a5, a6, a7⟩)
  (case lv => exact ⟨(by first | exact b1 | exact rfl), (by first | exact ⟨_, rfl⟩ | exact ⟨_, b2⟩), (by first | exact ⟨_, b3⟩ | exact ⟨_, rfl⟩)⟩)

theorem s8_look_stay
  (B : Below A₀ base outer h₀) (F : Fr h₀ L s.heap m) (X : (hd.heap_1 w.params).In h₀) (TT : Top p loose mean mg mb h₀) (a : LocA m T rl bA fl S g u) (b : LocV m true 0 pl) (hev : m (Str.ofString "event") = some (.str (Str.ofString "look") te)) 
  (c1 : @LT.lt Nat _ T r) (c2 : @LT.lt Nat _ r fl) (c3 : @LT.lt Nat _ fl lo) (c4 : @LE.le Nat _ lo D) (c5 : @LT.lt Nat _ D S) (c6 : @LT.lt Nat _ S hi) (c7 : @LE.le Nat _ hi g) (c8 : @LT.lt Nat _ g u) (c10 : @LT.lt Nat _ u iI) (c9 : @LT.lt Nat _ tu lo) (hx : 0 ≤ (pl : Int) ∧ (pl : Int) < 1000 ∧ (refs fus)[(pl : Int).toNat]? = some (.ref tu)) 
  (hog : ∀ p ∈ ot, p.1 ≠ g) (hou : ∀ p ∈ ot, p.1 ≠ u) (mk : MarkHi g) (hgv : gv.size ≤ 100) (hdv : dv.size ≤ 100)
  (RD : RdX lo hi S D BUF it ML ot Z ((tx, ⟨val, sp, true, row, col⟩) :: rem)) (hn0 : (refs fus).length = n0) (hpl : (pl : Int) < (n0 : Int)) (hfl : n0 ≤ 100)
  (N : News h₀ L s.heap ((iI, oI) :: (T, o) :: (r, oR) :: (fl, W.listOf (refs fus).toArray nf) :: (tu, toldL val sp true row col k1 k2 k3 k4 k5) :: (S, instObj 67 D) :: (D, feDict k BUF it ML true 0 tp) :: (g, W.listOf gv ng) :: (u, W.listOf dv nu) :: Z))
  (ret : ∀ Z' tp' m' h' tk', RdX lo hi S D BUF it ML ot Z' ((tx, ⟨val, sp, true, row, col⟩) :: rem) → LocA m' T rl bA fl S g u → LocV m' true 0 pl → Fr h₀ L h' m' → News h₀ L h' ((iI, oI) :: (T, o) :: (r, oR) :: (fl, W.listOf (refs fus).toArray nf) :: (tu, toldL val sp true row col k1 k2 k3 k4 k5) :: (S, instObj 67 D) :: (D, feDict k BUF it ML true 0 tp') :: (g, W.listOf (gv.push .none) (ng + 1)) :: (u, W.listOf (dv.push .none) (nu + 1)) :: Z') → Q .next {s with heap := h', toks := tk'}) :
  wpAny (model prog w) (lawA gd L fa cd outer) (execs (s8Body.drop 1) (lawEnv L fa cd)) Q E s := by
  obtain ⟨a1, a2, a3, a4, a5, a6, a7⟩ := a
  obtain ⟨b1, ⟨td, b2⟩, ⟨tl, b3⟩⟩ := b
  show wpAny _ _ (execs (_ :: _ :: _ :: []) _) _ _ _
  k_steps
  all_goals (try k_data)
  refine' ret ?Z ?tp ?m ?h ?tk ?rd ?la ?lv ?F ?N
  (case rd => assumption)
  (case F => k_asm)
  (case N => refine News.sub (by k_asm) ?_; (repeat (first | exact List.forall_mem_nil _ | refine List.forall_mem_cons.mpr ⟨by k_mem, ?_⟩ | (intro p hp; repeat (first | exact hp | refine List.mem_cons_of_mem _ ?_)))))
  (case la => exact ⟨a1, a2, a3, a4, a5, a6, a7⟩)
  (case lv => exact ⟨(by first | exact b1 | exact rfl), (by first | exact ⟨_, rfl⟩ | exact ⟨_, b2⟩), (by first | exact ⟨_, b3⟩ | exact ⟨_, rfl⟩)⟩)

theorem s8_look_go1
  (B : Below A₀ base outer h₀) (F : Fr h₀ L s.heap m) (X : (hd.heap_1 w.params).In h₀) (TT : Top p loose mean mg mb h₀) (a : LocA m T rl bA fl S g u) (b : LocV m false dp pl) (hev : m (Str.ofString "event") = some (.str (Str.ofString "look") te)) 
  (c1 : @LT.lt Nat _ T r) (c2 : @LT.lt Nat _ r fl) (c3 : @LT.lt Nat _ fl lo) (c4 : @LE.le Nat _ lo D) (c5 : @LT.lt Nat _ D S) (c6 : @LT.lt Nat _ S hi) (c7 : @LE.le Nat _ hi g) (c8 : @LT.lt Nat _ g u) (c10 : @LT.lt Nat _ u iI) (c9 : @LT.lt Nat _ tu lo) (hx : 0 ≤ (pl : Int) ∧ (pl : Int) < 1000 ∧ (refs fus)[(pl : Int).toNat]? = some (.ref tu)) 
  (hog : ∀ p ∈ ot, p.1 ≠ g) (hou : ∀ p ∈ ot, p.1 ≠ u) (mk : MarkHi g) (hgv : gv.size ≤ 100) (hdv : dv.size ≤ 100)
  (RD : RdX lo hi S D BUF it ML ot Z ((tx, ⟨val, sp, f, row, col⟩) :: rem)) (hn0 : (refs fus).length = n0) (hpl : (pl : Int) < (n0 : Int)) (hfl : n0 ≤ 100)
  (N : News h₀ L s.heap ((iI, oI) :: (T, o) :: (r, oR) :: (fl, W.listOf (refs fus).toArray nf) :: (tu, toldL val sp f row col k1 k2 k3 k4 k5) :: (S, instObj 67 D) :: (D, feDict k BUF it ML false dp tp) :: (g, W.listOf gv ng) :: (u, W.listOf dv nu) :: Z))
  (ret : ∀ Z' u' kk1 kk2 kk3 kk4 kk5 tp' m' h' tk', RdX lo hi S D BUF it ML ot Z' ((tx, ⟨val, sp, f, row, col⟩) :: rem) → @LT.lt Nat _ g u' → @Ne Nat u u' → @Ne Nat iI u' → (∀ p ∈ Z', p.1 ≠ u') → LocA m' T rl bA fl S g u → LocV m' false dp pl → Fr h₀ L h' m' → News h₀ L h' ((iI, oI) :: (T, o) :: (r, oR) :: (fl, W.listOf (refs fus).toArray nf) :: (tu, toldL val sp f row col k1 k2 k3 k4 k5) :: (S, instObj 67 D) :: (D, feDict k BUF it ML false dp tp') :: (g, W.listOf (gv.push (.ref u')) (ng + 1)) :: (u, W.listOf (dv.push (.ref tu)) (nu + 1)) :: (u', toldObj ⟨val, sp, f, row, col⟩ kk1 kk2 kk3 kk4 kk5) :: Z') → Q .next {s with heap := h', toks := tk'}) :
  wpAny (model prog w) (lawA gd L fa cd outer) (execs (s8Body.drop 1) (lawEnv L fa cd)) Q E s := by
  obtain ⟨a1, a2, a3, a4, a5, a6, a7⟩ := a
  obtain ⟨b1, ⟨td, b2⟩, ⟨tl, b3⟩⟩ := b
  show wpAny _ _ (execs (_ :: _ :: _ :: []) _) _ _ _
  k_steps
  all_goals (try k_data)
  refine' ret ?Z ?u ?kk1 ?kk2 ?kk3 ?kk4 ?kk5 ?tp ?m ?h ?tk ?rd ?lt ?ne ?ni ?nz ?la ?lv ?F ?N
  (case rd => assumption)
  (case F => k_asm)
  (case N => refine News.sub (by k_asm) ?_; (repeat (first | exact List.forall_mem_nil _ | refine List.forall_mem_cons.mpr ⟨by k_mem, ?_⟩ | (intro p hp; repeat (first | exact hp | refine List.mem_cons_of_mem _ ?_)))))
  (case la => exact ⟨a1, a2, a3, a4, a5, a6, a7⟩)
  (case lv => exact ⟨(by first | exact b1 | exact rfl), (by first | exact ⟨_, rfl⟩ | exact ⟨_, b2⟩), (by first | exact ⟨_, b3⟩ | exact ⟨_, rfl⟩)⟩)
  (case lt => assumption)
  (case ne => omega)
  (case ni => omega)
  (case nz => exact off1_mem (And.right (And.right (And.right (And.right (And.right (And.right (And.right (And.right (And.right (by assumption)))))))))))

theorem s8_look_go2
  (B : Below A₀ base outer h₀) (F : Fr h₀ L s.heap m) (X : (hd.heap_1 w.params).In h₀) (TT : Top p loose mean mg mb h₀) (a : LocA m T rl bA fl S g u) (b : LocV m true dp pl) (hev : m (Str.ofString "event") = some (.str (Str.ofString "look") te)) (hdp : dp ≠ 0)
  (c1 : @LT.lt Nat _ T r) (c2 : @LT.lt Nat _ r fl) (c3 : @LT.lt Nat _ fl lo) (c4 : @LE.le Nat _ lo D) (c5 : @LT.lt Nat _ D S) (c6 : @LT.lt Nat _ S hi) (c7 : @LE.le Nat _ hi g) (c8 : @LT.lt Nat _ g u) (c10 : @LT.lt Nat _ u iI) (c9 : @LT.lt Nat _ tu lo) (hx : 0 ≤ (pl : Int) ∧ (pl : Int) < 1000 ∧ (refs fus)[(pl : Int).toNat]? = some (.ref tu)) 
  (hog : ∀ p ∈ ot, p.1 ≠ g) (hou : ∀ p ∈ ot, p.1 ≠ u) (mk : MarkHi g) (hgv : gv.size ≤ 100) (hdv : dv.size ≤ 100)
  (RD : RdX lo hi S D BUF it ML ot Z ((tx, ⟨val, sp, f, row, col⟩) :: rem)) (hn0 : (refs fus).length = n0) (hpl : (pl : Int) < (n0 : Int)) (hfl : n0 ≤ 100)
  (N : News h₀ L s.heap ((iI, oI) :: (T, o) :: (r, oR) :: (fl, W.listOf (refs fus).toArray nf) :: (tu, toldL val sp f row col k1 k2 k3 k4 k5) :: (S, instObj 67 D) :: (D, feDict k BUF it ML true dp tp) :: (g, W.listOf gv ng) :: (u, W.listOf dv nu) :: Z))
  (ret : ∀ Z' u' kk1 kk2 kk3 kk4 kk5 tp' m' h' tk', RdX lo hi S D BUF it ML ot Z' ((tx, ⟨val, sp, f, row, col⟩) :: rem) → @LT.lt Nat _ g u' → @Ne Nat u u' → @Ne Nat iI u' → (∀ p ∈ Z', p.1 ≠ u') → LocA m' T rl bA fl S g u → LocV m' true dp pl → Fr h₀ L h' m' → News h₀ L h' ((iI, oI) :: (T, o) :: (r, oR) :: (fl, W.listOf (refs fus).toArray nf) :: (tu, toldL val sp f row col k1 k2 k3 k4 k5) :: (S, instObj 67 D) :: (D, feDict k BUF it ML true dp tp') :: (g, W.listOf (gv.push (.ref u')) (ng + 1)) :: (u, W.listOf (dv.push (.ref tu)) (nu + 1)) :: (u', toldObj ⟨val, sp, f, row, col⟩ kk1 kk2 kk3 kk4 kk5) :: Z') → Q .next {s with heap := h', toks := tk'}) :
  wpAny (model prog w) (lawA gd L fa cd outer) (execs (s8Body.drop 1) (lawEnv L fa cd)) Q E s := by
  obtain ⟨a1, a2, a3, a4, a5, a6, a7⟩ := a
  obtain ⟨b1, ⟨td, b2⟩, ⟨tl, b3⟩⟩ := b
  show wpAny _ _ (execs (_ :: _ :: _ :: []) _) _ _ _
  k_steps
  all_goals (try k_data)
  refine' ret ?Z ?u ?kk1 ?kk2 ?kk3 ?kk4 ?kk5 ?tp ?m ?h ?tk ?rd ?lt ?ne ?ni ?nz ?la ?lv ?F ?N
  (case rd => assumption)
  (case F => k_asm)
  (case N => refine News.sub (by k_asm) ?_; (repeat (first | exact List.forall_mem_nil _ | refine List.forall_mem_cons.mpr ⟨by k_mem, ?_⟩ | (intro p hp; repeat (first | exact hp | refine List.mem_cons_of_mem _ ?_)))))
  (case la => exact ⟨a1, a2, a3, a4, a5, a6, a7⟩)
  (case lv => exact ⟨(by first | exact b1 | exact rfl), (by first | exact ⟨_, rfl⟩ | exact ⟨_, b2⟩), (by first | exact ⟨_, b3⟩ | exact ⟨_, rfl⟩)⟩)
  (case lt => assumption)
  (case ne => omega)
  (case ni => omega)
  (case nz => exact off1_mem (And.right (And.right (And.right (And.right (And.right (And.right (And.right (And.right (And.right (by assumption)))))))))))

theorem s8_look_go3
  (B : Below A₀ base outer h₀) (F : Fr h₀ L s.heap m) (X : (hd.heap_1 w.params).In h₀) (TT : Top p loose mean mg mb h₀) (a : LocA m T rl bA fl S g u) (b : LocV m true 0 pl) (hev : m (Str.ofString "event") = some (.str (Str.ofString "look") te)) 
  (c1 : @LT.lt Nat _ T r) (c2 : @LT.lt Nat _ r fl) (c3 : @LT.lt Nat _ fl lo) (c4 : @LE.le Nat _ lo D) (c5 : @LT.lt Nat _ D S) (c6 : @LT.lt Nat _ S hi) (c7 : @LE.le Nat _ hi g) (c8 : @LT.lt Nat _ g u) (c10 : @LT.lt Nat _ u iI) (c9 : @LT.lt Nat _ tu lo) (hx : 0 ≤ (pl : Int) ∧ (pl : Int) < 1000 ∧ (refs fus)[(pl : Int).toNat]? = some (.ref tu)) 
  (hog : ∀ p ∈ ot, p.1 ≠ g) (hou : ∀ p ∈ ot, p.1 ≠ u) (mk : MarkHi g) (hgv : gv.size ≤ 100) (hdv : dv.size ≤ 100)
  (RD : RdX lo hi S D BUF it ML ot Z ((tx, ⟨val, sp, false, row, col⟩) :: rem)) (hn0 : (refs fus).length = n0) (hpl : (pl : Int) < (n0 : Int)) (hfl : n0 ≤ 100)
  (N : News h₀ L s.heap ((iI, oI) :: (T, o) :: (r, oR) :: (fl, W.listOf (refs fus).toArray nf) :: (tu, toldL val sp false row col k1 k2 k3 k4 k5) :: (S, instObj 67 D) :: (D, feDict k BUF it ML true 0 tp) :: (g, W.listOf gv ng) :: (u, W.listOf dv nu) :: Z))
  (ret : ∀ Z' u' kk1 kk2 kk3 kk4 kk5 tp' m' h' tk', RdX lo hi S D BUF it ML ot Z' ((tx, ⟨val, sp, false, row, col⟩) :: rem) → @LT.lt Nat _ g u' → @Ne Nat u u' → @Ne Nat iI u' → (∀ p ∈ Z', p.1 ≠ u') → LocA m' T rl bA fl S g u → LocV m' true 0 pl → Fr h₀ L h' m' → News h₀ L h' ((iI, oI) :: (T, o) :: (r, oR) :: (fl, W.listOf (refs fus).toArray nf) :: (tu, toldL val sp false row col k1 k2 k3 k4 k5) :: (S, instObj 67 D) :: (D, feDict k BUF it ML true 0 tp') :: (g, W.listOf (gv.push (.ref u')) (ng + 1)) :: (u, W.listOf (dv.push (.ref tu)) (nu + 1)) :: (u', toldObj ⟨val, sp, false, row, col⟩ kk1 kk2 kk3 kk4 kk5) :: Z') → Q .next {s with heap := h', toks := tk'}) :
  wpAny (model prog w) (lawA gd L fa cd outer) (execs (s8Body.drop 1) (lawEnv L fa cd)) Q E s := by
  obtain ⟨a1, a2, a3, a4, a5, a6, a7⟩ := a
  obtain ⟨b1, ⟨td, b2⟩, ⟨tl, b3⟩⟩ := b
  show wpAny _ _ (execs (_ :: _ :: _ :: []) _) _ _ _
  k_steps
  all_goals (try k_data)
  refine' ret ?Z ?u ?kk1 ?kk2 ?kk3 ?kk4 ?kk5 ?tp ?m ?h ?tk ?rd ?lt ?ne ?ni ?nz ?la ?lv ?F ?N
  (case rd => assumption)
  (case F => k_asm)
  (case N => refine News.sub (by k_asm) ?_; (repeat (first | exact List.forall_mem_nil _ | refine List.forall_mem_cons.mpr ⟨by k_mem, ?_⟩ | (intro p hp; repeat (first | exact hp | refine List.mem_cons_of_mem _ ?_)))))
  (case la => exact ⟨a1, a2, a3, a4, a5, a6, a7⟩)
  (case lv => exact ⟨(by first | exact b1 | exact rfl), (by first | exact ⟨_, rfl⟩ | exact ⟨_, b2⟩), (by first | exact ⟨_, b3⟩ | exact ⟨_, rfl⟩)⟩)
  (case lt => assumption)
  (case ne => omega)
  (case ni => omega)
  (case nz => exact off1_mem (And.right (And.right (And.right (And.right (And.right (And.right (And.right (And.right (And.right (by assumption)))))))))))
end

end
section
set_option linter.unusedVariables false
set_option linter.unusedSimpArgs false
variable {w : World} {p : Program} {loose : List Str} {mean : ExcName → Option Value} {mg mb : Str → Option Value}



def whTest (l : List Stmt) (i : Nat) : Expr := match l[i]? with
  | some (.While t _ _ _) => t
  | _ => default
def whBody (l : List Stmt) (i : Nat) : List Stmt := match l[i]? with
  | some (.While _ b _ _) => b
  | _ => []
def lnBody : List Stmt := (topAt 17).1
def lnScope : Scope := (topAt 17).2
def oTest : Expr := whTest lnBody 2
def oBody : List Stmt := whBody lnBody 2
def iTest : Expr := whTest oBody 2
def iBody : List Stmt := whBody oBody 2
abbrev lnEnv (L : Addr) : Env := envOf (Str.ofString "_law_lines") lnScope L 294 (.ref 293)
abbrev lnA (gd : Option (List Code)) (L : Addr) (outer : List Env) : Around := Lv 451 4503 gd (lnEnv L) outer
theorem cmp_le_t {prog : Program} {w : World} {A : Around} {E : Value → Shared → Prop} {s : Shared} {a b : Int} {t u : Tok} {Q : Value → Shared → Prop} (e : a ≤ b) (h : Q (.bool true) s) : wpAny (model prog w) A (compareOp .LtE (.int a t) (.int b u)) Q E s :=
  PyProof.Rows.le_int (by rw [decide_eq_true e]; exact h)
local macro_rules | `(tactic| walk_at "compareOp LtE int int") => `(tactic| (k_here; refine cmp_le_t (by omega) ?_))
section
variable {gd : Option (List Code)} {A₀ : Around} {outer : List Env} {base h₀ : Heap} {L : Addr} {m : Str → Option Value} {s : Shared} {E : Value → Shared → Prop}
  {S D BUF it ML ll la : Addr} {k : FeK} {tp tm : Tok} {lo hi nl n0 c : Nat} {ot Z rest : List (Addr × Obj)} {rem : List (Addr × TD)} {q q2 : Addr × TD} {vs : List Value} {on : Bool} {oll : Obj} {ol : Array Value}
theorem o_test_none {Q : Bool → Shared → Prop} {news : List (Addr × Obj)}
  (B : Below A₀ base outer h₀) (F : Fr h₀ L s.heap m) (X : (hd.heap_1 w.params).In h₀) (TT : Top p loose mean mg mb h₀) (h1 : m (Str.ofString "token") = some .none) (N : News h₀ L s.heap news)
  (ret : ∀ h' tk', Fr h₀ L h' m → News h₀ L h' news → Q false {s with heap := h', toks := tk'}) :
  wpAny (model prog w) (lnA gd L outer) (isTrue oTest (lnEnv L) (eval oTest (lnEnv L))) Q E s := by
  show wpAny _ _ (isTrue (.BoolOp _ _ _) _ (eval (.BoolOp _ _ _) _)) _ _ _
  k_steps
  all_goals (try k_data)
  all_goals (exact ret _ _ (by k_asm) (by k_asm))
theorem o_test_some {Q : Bool → Shared → Prop} {t : Addr}
  (B : Below A₀ base outer h₀) (F : Fr h₀ L s.heap m) (X : (hd.heap_1 w.params).In h₀) (TT : Top p loose mean mg mb h₀) (h1 : m (Str.ofString "token") = some (.ref t)) (h2 : m (Str.ofString "lines") = some (.ref ll)) (h3 : m (Str.ofString "most") = some (.int n0 tm)) (hn : vs.length = c) (hc : (c : Int) ≤ (n0 : Int)) (hc2 : c ≤ 100)
  (N : News h₀ L s.heap ((ll, W.listOf vs.toArray nl) :: rest))
  (ret : ∀ h' tk', Fr h₀ L h' m → News h₀ L h' ((ll, W.listOf vs.toArray nl) :: rest) → Q true {s with heap := h', toks := tk'}) :
  wpAny (model prog w) (lnA gd L outer) (isTrue oTest (lnEnv L) (eval oTest (lnEnv L))) Q E s := by
  show wpAny _ _ (isTrue (.BoolOp _ _ _) _ (eval (.BoolOp _ _ _) _)) _ _ _
  k_steps
  all_goals (try k_data)
  all_goals (exact ret _ _ (by k_asm) (by k_asm))
theorem i_test_none {Q : Bool → Shared → Prop} {news : List (Addr × Obj)}
  (B : Below A₀ base outer h₀) (F : Fr h₀ L s.heap m) (X : (hd.heap_1 w.params).In h₀) (TT : Top p loose mean mg mb h₀) (h1 : m (Str.ofString "token") = some .none) (N : News h₀ L s.heap news)
  (ret : ∀ h' tk', Fr h₀ L h' m → News h₀ L h' news → Q false {s with heap := h', toks := tk'}) :
  wpAny (model prog w) (lnA gd L outer) (isTrue iTest (lnEnv L) (eval iTest (lnEnv L))) Q E s := by
  show wpAny _ _ (isTrue (.BoolOp _ _ _) _ (eval (.BoolOp _ _ _) _)) _ _ _
  k_steps
  all_goals (try k_data)
  all_goals (exact ret _ _ (by k_asm) (by k_asm))
theorem i_test_some {Q : Bool → Shared → Prop} {t : Addr}
  (B : Below A₀ base outer h₀) (F : Fr h₀ L s.heap m) (X : (hd.heap_1 w.params).In h₀) (TT : Top p loose mean mg mb h₀) (h1 : m (Str.ofString "token") = some (.ref t)) (h2 : m (Str.ofString "line") = some (.ref la)) (h3 : m (Str.ofString "most") = some (.int n0 tm)) (hn : vs.length = c) (hc : (c : Int) ≤ (n0 : Int)) (hc2 : c ≤ 100)
  (N : News h₀ L s.heap ((la, W.listOf vs.toArray nl) :: rest))
  (ret : ∀ h' tk', Fr h₀ L h' m → News h₀ L h' ((la, W.listOf vs.toArray nl) :: rest) → Q true {s with heap := h', toks := tk'}) :
  wpAny (model prog w) (lnA gd L outer) (isTrue iTest (lnEnv L) (eval iTest (lnEnv L))) Q E s := by
  show wpAny _ _ (isTrue (.BoolOp _ _ _) _ (eval (.BoolOp _ _ _) _)) _ _ _
  k_steps
  all_goals (try k_data)
  all_goals (exact ret _ _ (by k_asm) (by k_asm))
theorem in_end {Q : Flow → Shared → Prop}
  (B : Below A₀ base outer h₀) (F : Fr h₀ L s.heap m) (X : (hd.heap_1 w.params).In h₀) (TT : Top p loose mean mg mb h₀) (h1 : m (Str.ofString "token") = some (.ref q.1)) (h2 : m (Str.ofString "line") = some (.ref la)) (h3 : m (Str.ofString "reader") = some (.ref S)) (hT : TokP (InL Z) q.1 q.2)
  (c4 : @LE.le Nat _ lo D) (c5 : @LT.lt Nat _ D S) (c6 : @LT.lt Nat _ S hi) (c7 : @LE.le Nat _ hi ll) (c8 : @LT.lt Nat _ ll la) (hol : ∀ p ∈ ot, p.1 ≠ la) (mk : MarkHi ll) (hz : vs.length ≤ 100)
  (RD : RdX lo hi S D BUF it ML ot Z [])
  (N : News h₀ L s.heap ((la, W.listOf vs.toArray nl) :: (ll, W.listOf ol c) :: (S, instObj 67 D) :: (D, feDict k BUF it ML true 0 tp) :: Z))
  (ret : ∀ Z' u' kk1 kk2 kk3 kk4 kk5 m' h' tk', RdX lo hi S D BUF it ML ot Z' [] → @LT.lt Nat _ ll u' → @Ne Nat la u' → (∀ y, y ≠ Str.ofString "token" → m' y = m y) → m' (Str.ofString "token") = some .none → Fr h₀ L h' m' →
    News h₀ L h' ((u', toldObj q.2 kk1 kk2 kk3 kk4 kk5) :: (la, W.listOf (vs ++ [Value.ref u']).toArray (nl + 1)) :: (ll, W.listOf ol c) :: (S, instObj 67 D) :: (D, feDict k BUF it ML true 0 tp) :: Z') → Q .next {s with heap := h', toks := tk'}) :
  wpAny (model prog w) (lnA gd L outer) (execs iBody (lnEnv L)) Q E s := by
  have hz2 : vs.toArray.size ≤ 100 := by simpa using hz
  show wpAny _ _ (execs (_ :: _ :: []) _) _ _ _
  k_steps
  all_goals (try k_data)
  refine' ret ?Z ?u ?kk1 ?kk2 ?kk3 ?kk4 ?kk5 ?m ?h ?tk ?rd ?lt ?ne ?mk ?mt ?F ?N
  (case rd => assumption)
  (case F => k_asm)
  (case N => rw [← List.push_toArray]; refine News.sub (by k_asm) ?_; (repeat (first | exact List.forall_mem_nil _ | refine List.forall_mem_cons.mpr ⟨by k_mem, ?_⟩ | (intro p hp; repeat (first | exact hp | refine List.mem_cons_of_mem _ ?_)))))
  (case mk => exact fun _ h => if_neg h)
  (case mt => exact rfl)
  (case lt => assumption)
  (case ne => omega)
theorem in_stay {Q : Flow → Shared → Prop}
  (B : Below A₀ base outer h₀) (F : Fr h₀ L s.heap m) (X : (hd.heap_1 w.params).In h₀) (TT : Top p loose mean mg mb h₀) (h1 : m (Str.ofString "token") = some (.ref q.1)) (h2 : m (Str.ofString "line") = some (.ref la)) (h3 : m (Str.ofString "reader") = some (.ref S)) (hT : TokP (InL Z) q.1 q.2) (hf : q2.2.f = true)
  (c4 : @LE.le Nat _ lo D) (c5 : @LT.lt Nat _ D S) (c6 : @LT.lt Nat _ S hi) (c7 : @LE.le Nat _ hi ll) (c8 : @LT.lt Nat _ ll la) (hol : ∀ p ∈ ot, p.1 ≠ la) (mk : MarkHi ll) (hz : vs.length ≤ 100)
  (RD : RdX lo hi S D BUF it ML ot Z (q2 :: rem))
  (N : News h₀ L s.heap ((la, W.listOf vs.toArray nl) :: (ll, W.listOf ol c) :: (S, instObj 67 D) :: (D, feDict k BUF it ML true 0 tp) :: Z))
  (ret : ∀ Z' u' kk1 kk2 kk3 kk4 kk5 m' h' tk', RdX lo hi S D BUF it ML ot Z' (q2 :: rem) → @LT.lt Nat _ ll u' → @Ne Nat la u' → (∀ y, y ≠ Str.ofString "token" → m' y = m y) → m' (Str.ofString "token") = some .none → Fr h₀ L h' m' →
    News h₀ L h' ((u', toldObj q.2 kk1 kk2 kk3 kk4 kk5) :: (la, W.listOf (vs ++ [Value.ref u']).toArray (nl + 1)) :: (ll, W.listOf ol c) :: (S, instObj 67 D) :: (D, feDict k BUF it ML true 0 tp) :: Z') → Q .next {s with heap := h', toks := tk'}) :
  wpAny (model prog w) (lnA gd L outer) (execs iBody (lnEnv L)) Q E s := by
  have hno : true = true ∧ (0 : Int) = 0 ∧ q2.2.f = true := ⟨rfl, rfl, hf⟩
  have hz2 : vs.toArray.size ≤ 100 := by simpa using hz
  show wpAny _ _ (execs (_ :: _ :: []) _) _ _ _
  k_steps
  all_goals (try k_data)
  refine' ret ?Z ?u ?kk1 ?kk2 ?kk3 ?kk4 ?kk5 ?m ?h ?tk ?rd ?lt ?ne ?mk ?mt ?F ?N
  (case rd => assumption)
  (case F => k_asm)
  (case N => rw [← List.push_toArray]; refine News.sub (by k_asm) ?_; (repeat (first | exact List.forall_mem_nil _ | refine List.forall_mem_cons.mpr ⟨by k_mem, ?_⟩ | (intro p hp; repeat (first | exact hp | refine List.mem_cons_of_mem _ ?_)))))
  (case mk => exact fun _ h => if_neg h)
  (case mt => exact rfl)
  (case lt => assumption)
  (case ne => omega)
theorem in_go {Q : Flow → Shared → Prop}
  (B : Below A₀ base outer h₀) (F : Fr h₀ L s.heap m) (X : (hd.heap_1 w.params).In h₀) (TT : Top p loose mean mg mb h₀) (h1 : m (Str.ofString "token") = some (.ref q.1)) (h2 : m (Str.ofString "line") = some (.ref la)) (h3 : m (Str.ofString "reader") = some (.ref S)) (hT : TokP (InL Z) q.1 q.2) (hf : q2.2.f = false)
  (c4 : @LE.le Nat _ lo D) (c5 : @LT.lt Nat _ D S) (c6 : @LT.lt Nat _ S hi) (c7 : @LE.le Nat _ hi ll) (c8 : @LT.lt Nat _ ll la) (hol : ∀ p ∈ ot, p.1 ≠ la) (mk : MarkHi ll) (hz : vs.length ≤ 100)
  (RD : RdX lo hi S D BUF it ML ot Z (q2 :: rem))
  (N : News h₀ L s.heap ((la, W.listOf vs.toArray nl) :: (ll, W.listOf ol c) :: (S, instObj 67 D) :: (D, feDict k BUF it ML true 0 tp) :: Z))
  (ret : ∀ Z' u' kk1 kk2 kk3 kk4 kk5 m' h' tk', RdX lo hi S D BUF it ML ot Z' rem → @LT.lt Nat _ ll u' → @Ne Nat la u' → (∀ y, y ≠ Str.ofString "token" → m' y = m y) → m' (Str.ofString "token") = some (.ref q2.1) → Fr h₀ L h' m' →
    News h₀ L h' ((u', toldObj q.2 kk1 kk2 kk3 kk4 kk5) :: (la, W.listOf (vs ++ [Value.ref u']).toArray (nl + 1)) :: (ll, W.listOf ol c) :: (S, instObj 67 D) :: (D, feDict k BUF it ML true 0 tp) :: Z') → Q .next {s with heap := h', toks := tk'}) :
  wpAny (model prog w) (lnA gd L outer) (execs iBody (lnEnv L)) Q E s := by
  have hno : ¬ (true = true ∧ (0 : Int) = 0 ∧ q2.2.f = true) := fun h => by rw [hf] at h; exact absurd h.2.2 Bool.false_ne_true
  have hz2 : vs.toArray.size ≤ 100 := by simpa using hz
  show wpAny _ _ (execs (_ :: _ :: []) _) _ _ _
  k_steps
  all_goals (try k_data)
  refine' ret ?Z ?u ?kk1 ?kk2 ?kk3 ?kk4 ?kk5 ?m ?h ?tk ?rd ?lt ?ne ?mk ?mt ?F ?N
  (case rd => assumption)
  (case F => k_asm)
  (case N => rw [← List.push_toArray]; refine News.sub (by k_asm) ?_; (repeat (first | exact List.forall_mem_nil _ | refine List.forall_mem_cons.mpr ⟨by k_mem, ?_⟩ | (intro p hp; repeat (first | exact hp | refine List.mem_cons_of_mem _ ?_)))))
  (case mk => exact fun _ h => if_neg h)
  (case mt => exact rfl)
  (case lt => assumption)
  (case ne => omega)
theorem o_pre {Q : Flow → Shared → Prop} {rest2 : List Stmt}
  (B : Below A₀ base outer h₀) (F : Fr h₀ L s.heap m) (X : (hd.heap_1 w.params).In h₀) (TT : Top p loose mean mg mb h₀) (h3 : m (Str.ofString "reader") = some (.ref S)) (c4 : @LE.le Nat _ lo D) (c5 : @LT.lt Nat _ D S) (c6 : @LT.lt Nat _ S hi) (c7 : @LE.le Nat _ hi ll)
  (RD : RdX lo hi S D BUF it ML ot Z rem) (N : News h₀ L s.heap ((ll, oll) :: (S, instObj 67 D) :: (D, feDict k BUF it ML on 0 tp) :: Z))
  (ret : ∀ la m' h' tk', @LT.lt Nat _ ll la → (∀ p ∈ Z, @LT.lt Nat _ p.1 la) → (∀ y, y ≠ Str.ofString "line" → m' y = m y) → m' (Str.ofString "line") = some (.ref la) → Fr h₀ L h' m' →
    News h₀ L h' ((la, W.listOf #[] 0) :: (ll, oll) :: (S, instObj 67 D) :: (D, feDict k BUF it ML true 0 tp) :: Z) → Q .next {s with heap := h', toks := tk'}) :
  wpAny (model prog w) (lnA gd L outer) (execs (oBody.take 2) (lnEnv L)) Q E s := by
  show wpAny _ _ (execs (_ :: _ :: []) _) _ _ _
  k_steps
  all_goals (try k_data)
  refine' ret ?la ?m ?h ?tk ?lt ?az ?mk ?mt ?F ?N
  (case F => k_asm)
  (case N => refine News.sub (by k_asm) ?_; (repeat (first | exact List.forall_mem_nil _ | refine List.forall_mem_cons.mpr ⟨by k_mem, ?_⟩ | (intro p hp; repeat (first | exact hp | refine List.mem_cons_of_mem _ ?_)))))
  (case mk => exact fun _ h => if_neg h)
  (case mt => exact rfl)
  (case lt => omega)
  (case az => exact fun p hp => allLt_all (by k_asm) p (.tail _ (.tail _ (.tail _ hp))))
theorem o_post_end {Q : Flow → Shared → Prop} {ola : Obj}
  (B : Below A₀ base outer h₀) (F : Fr h₀ L s.heap m) (X : (hd.heap_1 w.params).In h₀) (TT : Top p loose mean mg mb h₀) (h2 : m (Str.ofString "line") = some (.ref la)) (h3 : m (Str.ofString "reader") = some (.ref S)) (h4 : m (Str.ofString "lines") = some (.ref ll))
  (c4 : @LE.le Nat _ lo D) (c5 : @LT.lt Nat _ D S) (c6 : @LT.lt Nat _ S hi) (c7 : @LE.le Nat _ hi ll) (c8 : @LT.lt Nat _ ll la) (hol : ∀ p ∈ ot, p.1 ≠ ll) (hz : vs.length ≤ 100)
  (RD : RdX lo hi S D BUF it ML ot Z [])
  (N : News h₀ L s.heap ((la, ola) :: (ll, W.listOf vs.toArray nl) :: (S, instObj 67 D) :: (D, feDict k BUF it ML true 0 tp) :: Z))
  (ret : ∀ Z' m' h' tk', RdX lo hi S D BUF it ML ot Z' [] → (∀ y, y ≠ Str.ofString "token" → m' y = m y) → m' (Str.ofString "token") = some .none → Fr h₀ L h' m' →
    News h₀ L h' ((la, ola) :: (ll, W.listOf (vs ++ [Value.ref la]).toArray (nl + 1)) :: (S, instObj 67 D) :: (D, feDict k BUF it ML false 0 tp) :: Z') → Q .next {s with heap := h', toks := tk'}) :
  wpAny (model prog w) (lnA gd L outer) (execs (oBody.drop 3) (lnEnv L)) Q E s := by
  have hz2 : vs.toArray.size ≤ 100 := by simpa using hz
  show wpAny _ _ (execs (_ :: _ :: _ :: []) _) _ _ _
  k_steps
  all_goals (try k_data)
  refine' ret ?Z ?m ?h ?tk ?rd ?mk ?mt ?F ?N
  (case rd => assumption)
  (case F => k_asm)
  (case N => rw [← List.push_toArray]; refine News.sub (by k_asm) ?_; (repeat (first | exact List.forall_mem_nil _ | refine List.forall_mem_cons.mpr ⟨by k_mem, ?_⟩ | (intro p hp; repeat (first | exact hp | refine List.mem_cons_of_mem _ ?_)))))
  (case mk => exact fun _ h => if_neg h)
  (case mt => exact rfl)
theorem o_post_go {Q : Flow → Shared → Prop} {ola : Obj}
  (B : Below A₀ base outer h₀) (F : Fr h₀ L s.heap m) (X : (hd.heap_1 w.params).In h₀) (TT : Top p loose mean mg mb h₀) (h2 : m (Str.ofString "line") = some (.ref la)) (h3 : m (Str.ofString "reader") = some (.ref S)) (h4 : m (Str.ofString "lines") = some (.ref ll))
  (c4 : @LE.le Nat _ lo D) (c5 : @LT.lt Nat _ D S) (c6 : @LT.lt Nat _ S hi) (c7 : @LE.le Nat _ hi ll) (c8 : @LT.lt Nat _ ll la) (hol : ∀ p ∈ ot, p.1 ≠ ll) (hz : vs.length ≤ 100)
  (RD : RdX lo hi S D BUF it ML ot Z (q2 :: rem))
  (N : News h₀ L s.heap ((la, ola) :: (ll, W.listOf vs.toArray nl) :: (S, instObj 67 D) :: (D, feDict k BUF it ML true 0 tp) :: Z))
  (ret : ∀ Z' m' h' tk', RdX lo hi S D BUF it ML ot Z' rem → (∀ y, y ≠ Str.ofString "token" → m' y = m y) → m' (Str.ofString "token") = some (.ref q2.1) → Fr h₀ L h' m' →
    News h₀ L h' ((la, ola) :: (ll, W.listOf (vs ++ [Value.ref la]).toArray (nl + 1)) :: (S, instObj 67 D) :: (D, feDict k BUF it ML false 0 tp) :: Z') → Q .next {s with heap := h', toks := tk'}) :
  wpAny (model prog w) (lnA gd L outer) (execs (oBody.drop 3) (lnEnv L)) Q E s := by
  have hz2 : vs.toArray.size ≤ 100 := by simpa using hz
  show wpAny _ _ (execs (_ :: _ :: _ :: []) _) _ _ _
  k_steps
  all_goals (try k_data)
  refine' ret ?Z ?m ?h ?tk ?rd ?mk ?mt ?F ?N
  (case rd => assumption)
  (case F => k_asm)
  (case N => rw [← List.push_toArray]; refine News.sub (by k_asm) ?_; (repeat (first | exact List.forall_mem_nil _ | refine List.forall_mem_cons.mpr ⟨by k_mem, ?_⟩ | (intro p hp; repeat (first | exact hp | refine List.mem_cons_of_mem _ ?_)))))
  (case mk => exact fun _ h => if_neg h)
  (case mt => exact rfl)
end

end
section
set_option linter.unusedVariables false
set_option linter.unusedSimpArgs false
variable {w : World} {p : Program} {loose : List Str} {mean : ExcName → Option Value} {mg mb : Str → Option Value}

theorem offI {T r fl S D g u I : Addr} {lo hi : Nat} {o oR oF oS oD oG oU : Obj} {Z : List (Addr × Obj)} (c1 : @LT.lt Nat _ T r) (c2 : @LT.lt Nat _ r fl) (c3 : @LT.lt Nat _ fl lo) (c4 : @LE.le Nat _ lo D) (c5 : @LT.lt Nat _ D S) (c6 : @LT.lt Nat _ S hi) (c7 : @LE.le Nat _ hi g) (c8 : @LT.lt Nat _ g u) (cI : @LT.lt Nat _ u I)
    (hz : ∀ p ∈ Z, p.1 ≠ I) : ∀ p ∈ (T, o) :: (r, oR) :: (fl, oF) :: (S, oS) :: (D, oD) :: (g, oG) :: (u, oU) :: Z, p.1 ≠ I := by
  repeat (first | exact hz | refine List.forall_mem_cons.mpr ⟨neN (by dsimp only; omega), ?_⟩)
inductive S8J (w : World) (T r rl bA fl S D g u BUF it ML : Addr) (k : FeK) (lo hi nf rn : Nat) (its : List Value) (fus rem0 : List (Addr × TD)) (ot0 : List (Addr × Obj)) (kb : Int) (i : Nat) (m : Str → Option Value) (news : List (Addr × Obj)) : Prop
  | mk (o : Obj) (t3 : Tok) (k1 : Int) (on : Bool) (dp : Int) (pl : Nat) (tp : Tok) (gq dq : List An) (ng nu : Nat) (ot Z : List (Addr × Obj)) (h : LocA m T rl bA fl S g u ∧ LocV m on dp pl ∧
    news = (T, o) :: (r, W.listOf its.toArray rn) :: (fl, W.listOf (refs fus).toArray nf) :: (S, instObj 67 D) :: (D, feDict k BUF it ML on dp tp) :: (g, W.listOf (ovals gq).toArray ng) :: (u, W.listOf (ovals dq).toArray nu) :: Z ∧
    TapeIs prog w o r k1 t3 ∧ (0 ≤ k1 ∧ k1 ≤ kb + i) ∧ (0 ≤ dp ∧ dp ≤ 2) ∧ RdX lo hi S D BUF it ML ot Z (rem0.drop pl) ∧ pl ≤ rem0.length ∧ GD ot gq dq ∧ (gq.length ≤ i ∧ dq.length ≤ i) ∧
    ((∀ p ∈ ot, p.1 ≠ T) ∧ (∀ p ∈ ot, p.1 ≠ g) ∧ (∀ p ∈ ot, p.1 ≠ u)) ∧ (∀ p ∈ ot0, p ∈ ot))
section
variable {gd : Option (List Code)} {A₀ : Around} {outer : List Env} {base h₀ : Heap} {L fa : Addr} {cd : Value} {m : Str → Option Value} {s s9 : Shared} {E : Value → Shared → Prop}
  {T r rl bA fl S D g u BUF it ML I : Addr} {oI : Obj} {k : FeK} {lo hi nf rn : Nat} {its : List Value} {ns : List Int} {fus rem0 : List (Addr × TD)} {ot0 news : List (Addr × Obj)} {kb : Int} {i : Nat}
theorem s8_turn
  (B : Below A₀ base outer h₀) (F : Fr h₀ L s.heap m) (X : (hd.heap_1 w.params).In h₀) (TT : Top p loose mean mg mb h₀) (hi9 : IntsAre its ns) (hlen : ns.length ≤ 40) (hkb : 0 ≤ kb) (hkb2 : kb < 100) (hi20 : i < 20) (hs9 : ∃ h tk, s = {s9 with heap := h, toks := tk})
  (c1 : @LT.lt Nat _ T r) (c2 : @LT.lt Nat _ r fl) (c3 : @LT.lt Nat _ fl lo) (c4 : @LE.le Nat _ lo D) (c5 : @LT.lt Nat _ D S) (c6 : @LT.lt Nat _ S hi) (c7 : @LE.le Nat _ hi g) (c8 : @LT.lt Nat _ g u) (cI : @LT.lt Nat _ u I)
  (hokR : ∀ q ∈ rem0, q.2.Ok) (hl0 : rem0.length ≤ 50) (hfu : fus.map (·.2) = rem0.map (·.2)) (hft : ∀ q ∈ fus, ToldP (InLo ot0 lo) q.1 q.2)
  (J : S8J w T r rl bA fl S D g u BUF it ML k lo hi nf rn its fus rem0 ot0 kb i m news) (hoff : ∀ p ∈ news, p.1 ≠ I) (N : News h₀ L s.heap ((I, oI) :: news)) :
  wpAny (model prog w) (lawA gd L fa cd outer) (execs s8Body (lawEnv L fa cd)) (TurnEnd h₀ L s9 I oI (S8J w T r rl bA fl S D g u BUF it ML k lo hi nf rn its fus rem0 ot0 kb (i + 1))) E s := by
  obtain ⟨o, t3, k1, on, dp, pl, tp, gq, dq, ng, nu, ot, Z, lA, lV, rfl, ho, hk, hd, RD, hpl, gdd, ⟨lg, ld⟩, ⟨o1, o2, o3⟩, osub⟩ := J
  obtain ⟨hh9, tk9, rfl⟩ := hs9
  have hZI : ∀ p ∈ Z, p.1 ≠ I := fun p hp => hoff p (.tail _ (.tail _ (.tail _ (.tail _ (.tail _ (.tail _ (.tail _ hp)))))))
  have hoI : ∀ p ∈ ot, p.1 ≠ I := fun p hp => hZI p (RD.sub _ _ hp)
  have hZT := RD.ne (.inl (by omega)) o1
  have hZg := RD.ne (.inr c7) o2
  have hZu := RD.ne (.inr (by omega)) o3
  have hZD := RD.offD.1
  refine execs_split (rest := s8Body.drop 1) ?_
  refine law_s8_event (o := o) (rn := rn) (rest := (fl, W.listOf (refs fus).toArray nf) :: (S, instObj 67 D) :: (D, feDict k BUF it ML on dp tp) :: (g, W.listOf (ovals gq).toArray ng) :: (u, W.listOf (ovals dq).toArray nu) :: (I, oI) :: Z) B F X TT lA.1 ?_ c1 (News.sub N ?_) ho hi9 hlen hk.1 (by omega) ?_
  · repeat (first | exact hZT | refine List.forall_mem_cons.mpr ⟨neN (by dsimp only; omega), ?_⟩)
  · intro p hp
    first
    | (revert hp; revert p; (repeat (first | exact List.forall_mem_nil _ | refine List.forall_mem_cons.mpr ⟨by k_mem, ?_⟩ | (intro p hp; repeat (first | exact hp | refine List.mem_cons_of_mem _ ?_)))); done)
    | (simp only [List.mem_cons] at hp ⊢
       rcases hp with h | h | h | h | h | h | h | h | h <;> simp only [h, true_or, or_true])
  intro v o' t' h' tk' hev F' N' ho'
  dsimp only
  obtain ⟨x, te, rfl, hx⟩ := hev
  have hek : 0 ≤ k1 + 1 ∧ k1 + 1 ≤ kb + ((i + 1 : Nat) : Int) := by omega
  have simple : (x = Str.ofString "open" ∨ x = Str.ofString "close" ∨ x = Str.ofString "on" ∨ x = Str.ofString "off") → wpAny (model prog w) (lawA gd L fa cd outer) (execs (s8Body.drop 1) (lawEnv L fa cd)) (TurnEnd h₀ L s9 I oI (S8J w T r rl bA fl S D g u BUF it ML k lo hi nf rn its fus rem0 ot0 kb (i + 1))) E { s9 with heap := h', toks := tk' } := by
    intro h4
    refine s8_simple (m := fun y => if y = Str.ofString "event" then some (Value.str x te) else m y) (s := { s9 with heap := h', toks := tk' }) (dv := (ovals dq).toArray) (gv := (ovals gq).toArray) (Z := (I, oI) :: Z) (o := o') (oR := W.listOf its.toArray rn) (lo := lo) (hi := hi) B F' X TT lA lV rfl h4 hd c1 c2 c3 c4 c5 c6 c7 c8 (List.forall_mem_cons.mpr ⟨neN (by dsimp only; omega), hZD⟩) N' ?_
    · intro on' dp' tp' m' h2 tk2 hd' lA' lV' F2 N2
      refine ⟨rfl, h2, tk2, m', _, rfl, F2, News.sub N2 ?_, offI c1 c2 c3 c4 c5 c6 c7 c8 cI hZI, ⟨o', t', k1 + 1, on', dp', pl, tp', gq, dq, ng, nu, ot, Z, lA', lV', rfl, ho', hek, hd', RD, hpl, gdd, ⟨by omega, by omega⟩, ⟨o1, o2, o3⟩, osub⟩⟩
      intro p hp
      first
      | (revert hp; revert p; (repeat (first | exact List.forall_mem_nil _ | refine List.forall_mem_cons.mpr ⟨by k_mem, ?_⟩ | (intro p hp; repeat (first | exact hp | refine List.mem_cons_of_mem _ ?_)))); done)
      | (simp only [List.mem_cons] at hp ⊢
         rcases hp with h | h | h | h | h | h | h | h | h <;> simp only [h, true_or, or_true])
  have hn0 : (refs fus).length = rem0.length := by
    have := congrArg List.length hfu
    simpa [refs] using this
  have quiet : ∀ (Z' : List (Addr × Obj)) (tp' : Tok) (m' : Str → Option Value) (h2 : Heap) (tk2 : Nat) (on' : Bool) (dp' : Int), 0 ≤ dp' ∧ dp' ≤ 2 → RdX lo hi S D BUF it ML ot Z' (rem0.drop pl) → LocA m' T rl bA fl S g u → LocV m' on' dp' pl → Fr h₀ L h2 m' →
      News h₀ L h2 ((I, oI) :: (T, o') :: (r, W.listOf its.toArray rn) :: (fl, W.listOf (refs fus).toArray nf) :: (S, instObj 67 D) :: (D, feDict k BUF it ML on' dp' tp') :: (g, W.listOf ((ovals gq).toArray.push .none) (ng + 1)) :: (u, W.listOf ((ovals dq).toArray.push .none) (nu + 1)) :: Z') →
      TurnEnd h₀ L s9 I oI (S8J w T r rl bA fl S D g u BUF it ML k lo hi nf rn its fus rem0 ot0 kb (i + 1)) .next { s9 with heap := h2, toks := tk2 } := by
    intro Z' tp' m' h2 tk2 on' dp' hd' RD' lA' lV' F2 N2
    have hZI' := RD'.ne (.inr (by omega)) hoI
    refine ⟨rfl, h2, tk2, m', _, rfl, F2, N2, offI c1 c2 c3 c4 c5 c6 c7 c8 cI hZI', ⟨o', t', k1 + 1, on', dp', pl, tp', gq ++ [none], dq ++ [none], ng + 1, nu + 1, ot, Z', lA', lV', ?_, ho', hek, hd', RD', hpl, gdd.none, ⟨by simp; omega, by simp; omega⟩, ⟨o1, o2, o3⟩, osub⟩⟩
    rw [← ovals_snoc, ← ovals_snoc]; rfl
  have loud : ∀ (tu : Addr) (q : Addr × TD) (pl' : Nat) (Z' : List (Addr × Obj)) (u' : Addr) (kk1 kk2 kk3 kk4 kk5 tp' : Tok) (m' : Str → Option Value) (h2 : Heap) (tk2 : Nat) (on' : Bool) (dp' : Int), q.2.Ok → ToldP (InLo ot0 lo) tu q.2 → pl' ≤ rem0.length → 0 ≤ dp' ∧ dp' ≤ 2 → RdX lo hi S D BUF it ML ot Z' (rem0.drop pl') → @LT.lt Nat _ g u' → @Ne Nat u u' → @Ne Nat I u' → LocA m' T rl bA fl S g u → LocV m' on' dp' pl' → Fr h₀ L h2 m' →
      News h₀ L h2 ((u', toldObj q.2 kk1 kk2 kk3 kk4 kk5) :: (I, oI) :: (T, o') :: (r, W.listOf its.toArray rn) :: (fl, W.listOf (refs fus).toArray nf) :: (S, instObj 67 D) :: (D, feDict k BUF it ML on' dp' tp') :: (g, W.listOf ((ovals gq).toArray.push (.ref u')) (ng + 1)) :: (u, W.listOf ((ovals dq).toArray.push (.ref tu)) (nu + 1)) :: Z') →
      TurnEnd h₀ L s9 I oI (S8J w T r rl bA fl S D g u BUF it ML k lo hi nf rn its fus rem0 ot0 kb (i + 1)) .next { s9 with heap := h2, toks := tk2 } := by
    intro tu q pl' Z' u' kk1 kk2 kk3 kk4 kk5 tp' m' h2 tk2 on' dp' hqo ht hpl' hd' RD' lt ne ni lA' lV' F2 N2
    obtain ⟨Z2, RD2, hZ2⟩ := RD'.push (a := u') (o := toldObj q.2 kk1 kk2 kk3 kk4 kk5) (.inr (by omega))
    have hoI2 : ∀ p ∈ (u', toldObj q.2 kk1 kk2 kk3 kk4 kk5) :: ot, p.1 ≠ I := List.forall_mem_cons.mpr ⟨neN ni.symm, hoI⟩
    have hZI' := RD2.ne (.inr (by omega)) hoI2
    refine ⟨rfl, h2, tk2, m', (T, o') :: (r, W.listOf its.toArray rn) :: (fl, W.listOf (refs fus).toArray nf) :: (S, instObj 67 D) :: (D, feDict k BUF it ML on' dp' tp') :: (g, W.listOf ((ovals gq).toArray.push (.ref u')) (ng + 1)) :: (u, W.listOf ((ovals dq).toArray.push (.ref tu)) (nu + 1)) :: Z2, rfl, F2, News.sub N2 ?_, offI c1 c2 c3 c4 c5 c6 c7 c8 cI hZI', ⟨o', t', k1 + 1, on', dp', pl', tp', gq ++ [some (u', q.2)], dq ++ [some (tu, q.2)], ng + 1, nu + 1, _, Z2, lA', lV', ?_, ho', hek, hd', RD2, hpl', (gdd.mono fun p hp => .tail _ hp).some rfl ⟨kk1, kk2, kk3, kk4, kk5, .head _⟩ (ht.mono fun a o z => .tail _ (osub _ z.1)) hqo, ⟨by simp; omega, by simp; omega⟩, ⟨List.forall_mem_cons.mpr ⟨neN (by dsimp only; omega), o1⟩, List.forall_mem_cons.mpr ⟨neN (by dsimp only; omega), o2⟩, List.forall_mem_cons.mpr ⟨neN (by dsimp only; omega), o3⟩⟩, fun p hp => .tail _ (osub p hp)⟩⟩
    · intro p hp
      simp only [List.mem_cons, hZ2] at hp ⊢
      rcases hp with h | h | h | h | h | h | h | h | h | h <;> simp only [h, true_or, or_true]
    · rw [← ovals_snoc, ← ovals_snoc]; rfl
  have N2 : News h₀ L h' ((I, oI) :: (T, o') :: (r, W.listOf its.toArray rn) :: (fl, W.listOf (refs fus).toArray nf) :: (S, instObj 67 D) :: (D, feDict k BUF it ML on dp tp) :: (g, W.listOf (ovals gq).toArray ng) :: (u, W.listOf (ovals dq).toArray nu) :: Z) := News.sub N' fun p hp => by
    first
    | (revert hp; revert p; (repeat (first | exact List.forall_mem_nil _ | refine List.forall_mem_cons.mpr ⟨by k_mem, ?_⟩ | (intro p hp; repeat (first | exact hp | refine List.mem_cons_of_mem _ ?_)))); done)
    | (simp only [List.mem_cons] at hp ⊢
       rcases hp with h | h | h | h | h | h | h | h | h <;> simp only [h, true_or, or_true])
  have zg : (ovals gq).toArray.size ≤ 100 := by simp [ovals]; omega
  have zd : (ovals dq).toArray.size ≤ 100 := by simp [ovals]; omega
  by_cases hend : pl = rem0.length
  · have RDe : RdX lo hi S D BUF it ML ot Z [] := by rw [hend, List.drop_length] at RD; exact RD
    have e0 : rem0.drop pl = [] := by rw [hend, List.drop_length]
    rcases hx with rfl | rfl | h | h | h | h
    · refine s8_take_end (m := fun y => if y = Str.ofString "event" then some (Value.str (Str.ofString "take") te) else m y) B F' X TT lA lV rfl c1 c2 c3 c4 c5 c6 c7 c8 cI o2 o3 trivial zg zd RDe hn0 (by omega) (by omega) N2 ?_
      intro Z' tp' m' h2 tk2 RD' lA' lV' F2 N3
      exact quiet Z' tp' m' h2 tk2 on dp hd (e0 ▸ RD') lA' lV' F2 N3
    · refine s8_look_end (m := fun y => if y = Str.ofString "event" then some (Value.str (Str.ofString "look") te) else m y) B F' X TT lA lV rfl c1 c2 c3 c4 c5 c6 c7 c8 cI o2 o3 trivial zg zd RDe hn0 (by omega) (by omega) N2 ?_
      intro Z' tp' m' h2 tk2 RD' lA' lV' F2 N3
      exact quiet Z' tp' m' h2 tk2 on dp hd (e0 ▸ RD') lA' lV' F2 N3
    · exact simple (.inr (.inr (.inl h)))
    · exact simple (.inr (.inr (.inr h)))
    · exact simple (.inl h)
    · exact simple (.inr (.inl h))
  · have hlt : pl < rem0.length := by omega
    rcases hq9 : rem0[pl] with ⟨tx, ⟨val, sp, f, row, col⟩⟩
    have ed : rem0.drop pl = (tx, ⟨val, sp, f, row, col⟩) :: rem0.drop (pl + 1) := by rw [List.drop_eq_getElem_cons hlt, hq9]
    have hqo : TD.Ok ⟨val, sp, f, row, col⟩ := by have := hokR _ (List.getElem_mem hlt); rw [hq9] at this; exact this
    have hltf : pl < fus.length := by simpa [refs, hn0] using (show pl < (refs fus).length by omega)
    have e2 : (fus[pl]).2 = ⟨val, sp, f, row, col⟩ := by
      have h1 : (fus.map (·.2))[pl]? = (rem0.map (·.2))[pl]? := by rw [hfu]
      simp only [List.getElem?_map, List.getElem?_eq_getElem hltf, List.getElem?_eq_getElem hlt, hq9, Option.map_some] at h1
      exact Option.some.inj h1
    have ht0 := hft _ (List.getElem_mem hltf)
    rw [e2] at ht0
    obtain ⟨tu, htu⟩ : ∃ tu, (fus[pl]).1 = tu := ⟨_, rfl⟩
    rw [htu] at ht0
    have hx9 : 0 ≤ (pl : Int) ∧ (pl : Int) < 1000 ∧ (refs fus)[(pl : Int).toNat]? = some (.ref tu) := by
      refine ⟨by omega, by omega, ?_⟩
      rw [Int.toNat_natCast]
      simp [refs, List.getElem?_map, List.getElem?_eq_getElem hltf, htu]
    rw [ed] at RD
    have ht1 := ht0
    obtain ⟨j1, j2, j3, j4, j5, hm⟩ := ht1
    have hmZ : (tu, toldL val sp f row col j1 j2 j3 j4 j5) ∈ Z := RD.sub _ _ (osub _ hm.1)
    have N3 : News h₀ L h' ((I, oI) :: (T, o') :: (r, W.listOf its.toArray rn) :: (fl, W.listOf (refs fus).toArray nf) :: (tu, toldL val sp f row col j1 j2 j3 j4 j5) :: (S, instObj 67 D) :: (D, feDict k BUF it ML on dp tp) :: (g, W.listOf (ovals gq).toArray ng) :: (u, W.listOf (ovals dq).toArray nu) :: Z) := News.sub N2 fun p hp => by
      first
      | (revert hp; revert p; (repeat (first | exact List.forall_mem_nil _ | refine List.forall_mem_cons.mpr ⟨by k_mem, ?_⟩ | (intro p hp; repeat (first | exact hp | refine List.mem_cons_of_mem _ ?_)))); done)
      | (simp only [List.mem_cons] at hp ⊢
         rcases hp with h | h | h | h | h | h | h | h | h | h <;> simp only [h, hmZ, true_or, or_true])
    have drop5 : ∀ (a b c d : Addr × Obj) (e : Addr × Obj) (r : List (Addr × Obj)), ∀ p ∈ a :: b :: c :: d :: r, p ∈ a :: b :: c :: d :: e :: r := fun a b c d e r p hp => by
      first
      | (revert hp; revert p; (repeat (first | exact List.forall_mem_nil _ | refine List.forall_mem_cons.mpr ⟨by k_mem, ?_⟩ | (intro p hp; repeat (first | exact hp | refine List.mem_cons_of_mem _ ?_)))); done)
      | (simp only [List.mem_cons] at hp ⊢
         rcases hp with h | h | h | h | h <;> simp only [h, true_or, or_true])
    have drop6 : ∀ (z a b c d e f g h t : Addr × Obj) (r : List (Addr × Obj)), ∀ p ∈ z :: a :: b :: c :: d :: e :: f :: g :: h :: r, p ∈ a :: b :: c :: d :: t :: e :: f :: g :: h :: z :: r := fun z a b c d e f g h t r p hp => by
      first
      | (revert hp; revert p; (repeat (first | exact List.forall_mem_nil _ | refine List.forall_mem_cons.mpr ⟨by k_mem, ?_⟩ | (intro p hp; repeat (first | exact hp | refine List.mem_cons_of_mem _ ?_)))); done)
      | (simp only [List.mem_cons] at hp ⊢
         rcases hp with h | h | h | h | h | h | h | h | h | h <;> simp only [h, true_or, or_true])
    rcases hx with rfl | rfl | h | h | h | h
    · cases on with
      | false =>
        refine s8_take_go1 (m := fun y => if y = Str.ofString "event" then some (Value.str (Str.ofString "take") te) else m y) B F' X TT lA lV rfl c1 c2 c3 c4 c5 c6 c7 c8 cI hm.2 hx9 o2 o3 trivial zg zd RD hn0 (by omega) (by omega) N3 ?_
        intro Z' u' kk1 kk2 kk3 kk4 kk5 tp' m' h2 tk2 RD' lt ne ni nz lA' lV' F2 N4
        exact loud tu (tx, ⟨val, sp, f, row, col⟩) (pl + 1) Z' u' kk1 kk2 kk3 kk4 kk5 tp' m' h2 tk2 false dp hqo ht0 hlt hd RD' lt ne ni lA' lV' F2 (News.sub N4 (drop6 _ _ _ _ _ _ _ _ _ _ _))
      | true =>
        by_cases hdp : dp = 0
        · subst hdp
          cases f with
          | false =>
            refine s8_take_go3 (m := fun y => if y = Str.ofString "event" then some (Value.str (Str.ofString "take") te) else m y) B F' X TT lA lV rfl c1 c2 c3 c4 c5 c6 c7 c8 cI hm.2 hx9 o2 o3 trivial zg zd RD hn0 (by omega) (by omega) N3 ?_
            intro Z' u' kk1 kk2 kk3 kk4 kk5 tp' m' h2 tk2 RD' lt ne ni nz lA' lV' F2 N4
            exact loud tu (tx, ⟨val, sp, false, row, col⟩) (pl + 1) Z' u' kk1 kk2 kk3 kk4 kk5 tp' m' h2 tk2 true 0 hqo ht0 hlt hd RD' lt ne ni lA' lV' F2 (News.sub N4 (drop6 _ _ _ _ _ _ _ _ _ _ _))
          | true =>
            refine s8_take_stay (m := fun y => if y = Str.ofString "event" then some (Value.str (Str.ofString "take") te) else m y) B F' X TT lA lV rfl c1 c2 c3 c4 c5 c6 c7 c8 cI hm.2 hx9 o2 o3 trivial zg zd RD hn0 (by omega) (by omega) N3 ?_
            intro Z' tp' m' h2 tk2 RD' lA' lV' F2 N4
            exact quiet Z' tp' m' h2 tk2 true 0 hd (by rw [ed]; exact RD') lA' lV' F2 (News.sub N4 (drop5 _ _ _ _ _ _))
        · refine s8_take_go2 (m := fun y => if y = Str.ofString "event" then some (Value.str (Str.ofString "take") te) else m y) B F' X TT lA lV rfl hdp c1 c2 c3 c4 c5 c6 c7 c8 cI hm.2 hx9 o2 o3 trivial zg zd RD hn0 (by omega) (by omega) N3 ?_
          intro Z' u' kk1 kk2 kk3 kk4 kk5 tp' m' h2 tk2 RD' lt ne ni nz lA' lV' F2 N4
          exact loud tu (tx, ⟨val, sp, f, row, col⟩) (pl + 1) Z' u' kk1 kk2 kk3 kk4 kk5 tp' m' h2 tk2 true dp hqo ht0 hlt hd RD' lt ne ni lA' lV' F2 (News.sub N4 (drop6 _ _ _ _ _ _ _ _ _ _ _))
    · cases on with
      | false =>
        refine s8_look_go1 (m := fun y => if y = Str.ofString "event" then some (Value.str (Str.ofString "look") te) else m y) B F' X TT lA lV rfl c1 c2 c3 c4 c5 c6 c7 c8 cI hm.2 hx9 o2 o3 trivial zg zd RD hn0 (by omega) (by omega) N3 ?_
        intro Z' u' kk1 kk2 kk3 kk4 kk5 tp' m' h2 tk2 RD' lt ne ni nz lA' lV' F2 N4
        exact loud tu (tx, ⟨val, sp, f, row, col⟩) pl Z' u' kk1 kk2 kk3 kk4 kk5 tp' m' h2 tk2 false dp hqo ht0 (Nat.le_of_lt hlt) hd (by rw [ed]; exact RD') lt ne ni lA' lV' F2 (News.sub N4 (drop6 _ _ _ _ _ _ _ _ _ _ _))
      | true =>
        by_cases hdp : dp = 0
        · subst hdp
          cases f with
          | false =>
            refine s8_look_go3 (m := fun y => if y = Str.ofString "event" then some (Value.str (Str.ofString "look") te) else m y) B F' X TT lA lV rfl c1 c2 c3 c4 c5 c6 c7 c8 cI hm.2 hx9 o2 o3 trivial zg zd RD hn0 (by omega) (by omega) N3 ?_
            intro Z' u' kk1 kk2 kk3 kk4 kk5 tp' m' h2 tk2 RD' lt ne ni nz lA' lV' F2 N4
            exact loud tu (tx, ⟨val, sp, false, row, col⟩) pl Z' u' kk1 kk2 kk3 kk4 kk5 tp' m' h2 tk2 true 0 hqo ht0 (Nat.le_of_lt hlt) hd (by rw [ed]; exact RD') lt ne ni lA' lV' F2 (News.sub N4 (drop6 _ _ _ _ _ _ _ _ _ _ _))
          | true =>
            refine s8_look_stay (m := fun y => if y = Str.ofString "event" then some (Value.str (Str.ofString "look") te) else m y) B F' X TT lA lV rfl c1 c2 c3 c4 c5 c6 c7 c8 cI hm.2 hx9 o2 o3 trivial zg zd RD hn0 (by omega) (by omega) N3 ?_
            intro Z' tp' m' h2 tk2 RD' lA' lV' F2 N4
            exact quiet Z' tp' m' h2 tk2 true 0 hd (by rw [ed]; exact RD') lA' lV' F2 (News.sub N4 (drop5 _ _ _ _ _ _))
        · refine s8_look_go2 (m := fun y => if y = Str.ofString "event" then some (Value.str (Str.ofString "look") te) else m y) B F' X TT lA lV rfl hdp c1 c2 c3 c4 c5 c6 c7 c8 cI hm.2 hx9 o2 o3 trivial zg zd RD hn0 (by omega) (by omega) N3 ?_
          intro Z' u' kk1 kk2 kk3 kk4 kk5 tp' m' h2 tk2 RD' lt ne ni nz lA' lV' F2 N4
          exact loud tu (tx, ⟨val, sp, f, row, col⟩) pl Z' u' kk1 kk2 kk3 kk4 kk5 tp' m' h2 tk2 true dp hqo ht0 (Nat.le_of_lt hlt) hd (by rw [ed]; exact RD') lt ne ni lA' lV' F2 (News.sub N4 (drop6 _ _ _ _ _ _ _ _ _ _ _))
    · exact simple (.inr (.inr (.inl h)))
    · exact simple (.inr (.inr (.inr h)))
    · exact simple (.inl h)
    · exact simple (.inr (.inl h))
end

end
section
set_option linter.unusedVariables false
set_option linter.unusedSimpArgs false
variable {w : World} {p : Program} {loose : List Str} {mean : ExcName → Option Value} {mg mb : Str → Option Value}

def stepT (acc : List (List TD)) (t : TD) : List (List TD) :=
  if acc = [] ∨ t.f = true then acc ++ [[t]] else acc.dropLast ++ [acc.getLast?.getD [] ++ [t]]
def cutT (l : List TD) : List (List TD) := l.foldl stepT []
theorem stepT_new {acc : List (List TD)} {t : TD} (h : acc = [] ∨ t.f = true) : stepT acc t = acc ++ [[t]] := if_pos h
theorem stepT_old {d : List (List TD)} {l : List TD} {t : TD} (h : t.f = false) : stepT (d ++ [l]) t = d ++ [l ++ [t]] := by
  unfold stepT
  rw [if_neg (by simp [h])]
  simp
theorem cutT_snoc (l : List TD) (t : TD) : cutT (l ++ [t]) = stepT (cutT l) t := by simp [cutT]
theorem cutT_len (l : List TD) : (cutT l).length ≤ l.length := by
  have key : ∀ (l : List TD) (acc : List (List TD)), (l.foldl stepT acc).length ≤ acc.length + l.length := by
    intro l
    induction l with
    | nil => intro acc; simp
    | cons t l ih =>
      intro acc
      rw [List.foldl_cons, List.length_cons]
      have h1 := ih (stepT acc t)
      have h2 : (stepT acc t).length ≤ acc.length + 1 := by
        unfold stepT
        split <;> simp
      omega
  have := key l []
  unfold cutT
  simpa using this
theorem cutA_map (l : List (Addr × TD)) : (cutA l).map tds = cutT (tds l) := by
  have key : ∀ (l : List (Addr × TD)) (acc : List (List (Addr × TD))), (l.foldl cutStep acc).map tds = (tds l).foldl stepT (acc.map tds) := by
    intro l
    induction l with
    | nil => intro acc; rfl
    | cons t l ih =>
      intro acc
      show ((l.foldl cutStep (cutStep acc t)).map tds) = (tds l).foldl stepT (stepT (acc.map tds) t.2)
      rw [ih]
      congr 1
      rcases List.eq_nil_or_concat acc with rfl | ⟨d, x, rfl⟩
      · rw [cutStep_new (.inl rfl)]
        show [[t.2]] = stepT [] t.2
        rw [stepT_new (.inl rfl)]; rfl
      · rw [List.concat_eq_append]
        cases hf : t.2.f with
        | true => rw [cutStep_new (.inr hf), stepT_new (.inr hf)]; simp [tds]
        | false =>
          rw [cutStep_old hf, List.map_append, List.map_append]
          show _ = stepT (d.map tds ++ [tds x]) t.2
          rw [stepT_old hf]; simp [tds]
  exact key l []
section
variable {gd : Option (List Code)} {A₀ : Around} {outer : List Env} {base h₀ : Heap} {L : Addr} {m : Str → Option Value} {s : Shared}
  {S D BUF it ML ll la : Addr} {k : FeK} {tp tm : Tok} {lo hi nl n0 c : Nat} {ot Z : List (Addr × Obj)} {rem : List (Addr × TD)} {q : Addr × TD}
/-- the locals of _law_lines but the token and the line -/
def LnL (m : Str → Option Value) (S ll : Addr) (n0 : Nat) (tm : Tok) : Prop := m (Str.ofString "reader") = some (.ref S) ∧ m (Str.ofString "lines") = some (.ref ll) ∧ m (Str.ofString "most") = some (.int n0 tm)
theorem LnL.keep {m m' : Str → Option Value} (c : LnL m S ll n0 tm) (k : ∀ y, y ≠ Str.ofString "token" → m' y = m y) : LnL m' S ll n0 tm := ⟨(k _ (by decide +kernel)).trans c.1, (k _ (by decide +kernel)).trans c.2.1, (k _ (by decide +kernel)).trans c.2.2⟩
theorem LnL.keep2 {m m' : Str → Option Value} (c : LnL m S ll n0 tm) (k : ∀ y, y ≠ Str.ofString "line" → m' y = m y) : LnL m' S ll n0 tm := ⟨(k _ (by decide +kernel)).trans c.1, (k _ (by decide +kernel)).trans c.2.1, (k _ (by decide +kernel)).trans c.2.2⟩
/-- between the turns of the inner loop: A, no token; B, a token in hand -/
inductive InJ (S D BUF it ML ll la : Addr) (k : FeK) (tp tm : Tok) (lo hi n0 c R0 : Nat) (ol : Array Value) (dl : List (List TD)) (T0 : List TD) (ot0 : List (Addr × Obj)) (n : Nat) (m : Str → Option Value) (news : List (Addr × Obj)) : Prop
  | mk (lt : List (Addr × TD)) (nl : Nat) (rem : List (Addr × TD)) (ot Z : List (Addr × Obj)) (pre : List TD) (h : LnL m S ll n0 tm ∧ m (Str.ofString "line") = some (.ref la) ∧
    news = (la, W.listOf (refs lt).toArray nl) :: (ll, W.listOf ol c) :: (S, instObj 67 D) :: (D, feDict k BUF it ML true 0 tp) :: Z ∧ RdX lo hi S D BUF it ML ot Z rem ∧ (∀ t ∈ lt, ToldP (InL ot) t.1 t.2) ∧ (∀ p ∈ ot, p.1 ≠ la) ∧ (∀ p ∈ ot, p.1 ≠ ll) ∧ (∀ p ∈ ot0, p ∈ ot) ∧ lt.length ≤ pre.length ∧ rem.length ≤ R0 ∧
    ((m (Str.ofString "token") = some .none ∧ T0 = pre ++ tds rem ∧ dl ++ [tds lt] = cutT pre ∧ (∀ x, rem.head? = some x → x.2.f = true) ∧ n = rem.length) ∨
     ∃ q : Addr × TD, m (Str.ofString "token") = some (.ref q.1) ∧ TokP (InL ot) q.1 q.2 ∧ T0 = pre ++ q.2 :: tds rem ∧ n = rem.length + 1 ∧ ((lt = [] ∧ dl = cutT pre ∧ (dl = [] ∨ q.2.f = true)) ∨ (dl ++ [tds lt] = cutT pre ∧ q.2.f = false))))
theorem in_loop {R0 : Nat} {ol : Array Value} {dl : List (List TD)} {T0 : List TD} {ot0 news : List (Addr × Obj)} {Q : Flow → Shared → Prop} {n : Nat} {pos : Pos}
  (B : Below A₀ base outer h₀) (F : Fr h₀ L s.heap m) (X : (hd.heap_1 w.params).In h₀) (TT : Top p loose mean mg mb h₀) (c4 : @LE.le Nat _ lo D) (c5 : @LT.lt Nat _ D S) (c6 : @LT.lt Nat _ S hi) (c7 : @LE.le Nat _ hi ll) (c8 : @LT.lt Nat _ ll la) (hT0 : T0.length ≤ n0) (hn0 : n0 ≤ 50)
  (N : News h₀ L s.heap news) (J : InJ S D BUF it ML ll la k tp tm lo hi n0 c R0 ol dl T0 ot0 n m news)
  (ret : ∀ (lt : List (Addr × TD)) (nl : Nat) (rem : List (Addr × TD)) (ot Z : List (Addr × Obj)) (pre : List TD) m' h' tk', LnL m' S ll n0 tm → m' (Str.ofString "line") = some (.ref la) → RdX lo hi S D BUF it ML ot Z rem → (∀ t ∈ lt, ToldP (InL ot) t.1 t.2) → (∀ p ∈ ot, p.1 ≠ la) → (∀ p ∈ ot, p.1 ≠ ll) → (∀ p ∈ ot0, p ∈ ot) →
    rem.length ≤ R0 → T0 = pre ++ tds rem → dl ++ [tds lt] = cutT pre → (∀ x, rem.head? = some x → x.2.f = true) → Fr h₀ L h' m' → News h₀ L h' ((la, W.listOf (refs lt).toArray nl) :: (ll, W.listOf ol c) :: (S, instObj 67 D) :: (D, feDict k BUF it ML true 0 tp) :: Z) → Q .next {s with heap := h', toks := tk'}) :
  wpAny (model prog w) (lnA gd L outer) (exec (.While iTest iBody [] pos) (lnEnv L)) Q (fun _ _ => False) s := by
  refine wpAny_While (codeAny_whileLoop (fun n s' => ∃ h' tk' m' news', s' = { s with heap := h', toks := tk' } ∧ Fr h₀ L h' m' ∧ News h₀ L h' news' ∧ InJ S D BUF it ML ll la k tp tm lo hi n0 c R0 ol dl T0 ot0 n m' news') ?_ n ⟨_, _, m, news, rfl, F, N, J⟩)
  rintro n s' ⟨h', tk', m', news', rfl, F', N', lt, nl, rem, ot, Z, pre, lL, hla, rfl, RD, hto, o1, o2, osub, hle, hR, hc⟩
  rcases hc with ⟨ht, hT, hd, hh, rfl⟩ | ⟨q, ht, hq, hT, rfl, hc⟩
  · refine i_test_none B F' X TT ht N' fun h2 tk2 F2 N2 => ?_
    simp only [Bool.false_eq_true, if_false]
    exact wpAny_execs_nil (ret lt nl rem ot Z pre m' h2 tk2 lL hla RD hto o1 o2 osub hR hT hd hh F2 N2)
  · have hpl : lt.length < n0 := by
      have := congrArg List.length hT
      simp at this
      omega
    have hrl : (refs lt).length = lt.length := by simp [refs]
    refine i_test_some (n0 := n0) (c := lt.length) B F' X TT ht hla lL.2.2 hrl (by omega) (by omega) N' fun h2 tk2 F2 N2 => ?_
    simp only [if_true]
    have hqZ : TokP (InL Z) q.1 q.2 := hq.mono RD.sub
    have hz : (refs lt).length ≤ 100 := by omega
    have hcut : dl ++ [tds lt ++ [q.2]] = cutT (pre ++ [q.2]) := by
      rw [cutT_snoc]
      rcases hc with ⟨rfl, hdl, hf⟩ | ⟨hdl, hf⟩
      · rw [← hdl, stepT_new hf]; rfl
      · rw [← hdl, stepT_old hf]
    have finish : ∀ (Z' : List (Addr × Obj)) (u' : Addr) (kk1 kk2 kk3 kk4 kk5 : Tok) (m2 : Str → Option Value) (h3 : Heap) (tk3 : Nat) (rem' : List (Addr × TD)), RdX lo hi S D BUF it ML ot Z' rem' → @LT.lt Nat _ ll u' → @Ne Nat la u' → (∀ y, y ≠ Str.ofString "token" → m2 y = m' y) →
        rem'.length ≤ rem.length → ((m2 (Str.ofString "token") = some .none ∧ rem' = rem ∧ ∀ x, rem'.head? = some x → x.2.f = true) ∨ ∃ q2, m2 (Str.ofString "token") = some (.ref q2.1) ∧ TokP (InL ot) q2.1 q2.2 ∧ rem = q2 :: rem' ∧ q2.2.f = false) → Fr h₀ L h3 m2 →
        News h₀ L h3 ((u', toldObj q.2 kk1 kk2 kk3 kk4 kk5) :: (la, W.listOf (refs lt ++ [Value.ref u']).toArray (nl + 1)) :: (ll, W.listOf ol c) :: (S, instObj 67 D) :: (D, feDict k BUF it ML true 0 tp) :: Z') →
        ∃ mm, mm < rem.length + 1 ∧ ∃ h' tk' m' news', ({ s with heap := h3, toks := tk3 } : Shared) = { s with heap := h', toks := tk' } ∧ Fr h₀ L h' m' ∧ News h₀ L h' news' ∧ InJ S D BUF it ML ll la k tp tm lo hi n0 c R0 ol dl T0 ot0 mm m' news' := by
      intro Z' u' kk1 kk2 kk3 kk4 kk5 m2 h3 tk3 rem' RD' lt9 ne9 mk hlen hcase F3 N3
      obtain ⟨Z2, RD2, hZ2⟩ := RD'.push (a := u') (o := toldObj q.2 kk1 kk2 kk3 kk4 kk5) (.inr (by omega))
      have hk : ∃ mm, mm < rem.length + 1 ∧ InJ S D BUF it ML ll la k tp tm lo hi n0 c R0 ol dl T0 ot0 mm m2 ((la, W.listOf (refs (lt ++ [(u', q.2)])).toArray (nl + 1)) :: (ll, W.listOf ol c) :: (S, instObj 67 D) :: (D, feDict k BUF it ML true 0 tp) :: Z2) := by
        have common : ∀ (P : Prop), P → P := fun _ h => h
        have hto2 : ∀ t ∈ lt ++ [(u', q.2)], ToldP (InL ((u', toldObj q.2 kk1 kk2 kk3 kk4 kk5) :: ot)) t.1 t.2 := by
          intro t ht
          rcases List.mem_append.mp ht with z | z
          · exact (hto t z).mono fun a o y => .tail _ y
          · rw [List.mem_singleton.mp z]; exact ⟨kk1, kk2, kk3, kk4, kk5, .head _⟩
        have o1' : ∀ p ∈ (u', toldObj q.2 kk1 kk2 kk3 kk4 kk5) :: ot, p.1 ≠ la := List.forall_mem_cons.mpr ⟨neN ne9.symm, o1⟩
        have o2' : ∀ p ∈ (u', toldObj q.2 kk1 kk2 kk3 kk4 kk5) :: ot, p.1 ≠ ll := List.forall_mem_cons.mpr ⟨neN (by dsimp only; omega), o2⟩
        have etd : tds (lt ++ [(u', q.2)]) = tds lt ++ [q.2] := by simp [tds]
        rcases hcase with ⟨ht2, rfl, hh⟩ | ⟨q2, ht2, hq2, rfl, hf2⟩
        · exact ⟨rem'.length, by omega, lt ++ [(u', q.2)], nl + 1, rem', _, Z2, pre ++ [q.2], lL.keep mk, (mk _ (by decide +kernel)).trans hla, rfl, RD2, hto2, o1', o2', fun p hp => .tail _ (osub p hp), by simp; omega, hR,
            .inl ⟨ht2, by rw [hT]; simp, by rw [etd]; exact hcut, hh, rfl⟩⟩
        · refine ⟨rem'.length + 1, by simp, lt ++ [(u', q.2)], nl + 1, rem', _, Z2, pre ++ [q.2], lL.keep mk, (mk _ (by decide +kernel)).trans hla, rfl, RD2, hto2, o1', o2', fun p hp => .tail _ (osub p hp), by simp; omega, by simp at hR; omega,
            .inr ⟨q2, ht2, hq2.mono fun a o y => .tail _ y, by rw [hT]; simp [tds], rfl, .inr ⟨by rw [etd]; exact hcut, hf2⟩⟩⟩
      obtain ⟨mm, hmm, hJ⟩ := hk
      refine ⟨mm, hmm, h3, tk3, m2, _, rfl, F3, News.sub N3 ?_, hJ⟩
      intro p hp
      simp only [List.mem_cons, hZ2, refs, List.map_append, List.map_cons, List.map_nil] at hp ⊢
      rcases hp with h | h | h | h | h | h <;> simp only [h, true_or, or_true]
    have lL1 := lL
    obtain ⟨r1, r2, r3⟩ := lL1
    rcases rem with _ | ⟨q2, rem⟩
    · refine in_end B F2 X TT ht hla r1 hqZ c4 c5 c6 c7 c8 o1 trivial hz RD N2 ?_
      intro Z' u' kk1 kk2 kk3 kk4 kk5 m2 h3 tk3 RD' lt9 ne9 mk mt F3 N3
      exact finish Z' u' kk1 kk2 kk3 kk4 kk5 m2 h3 tk3 [] RD' lt9 ne9 mk (Nat.le_refl _) (.inl ⟨mt, rfl, fun _ h => nomatch h⟩) F3 N3
    · cases hf : q2.2.f with
      | true =>
        refine in_stay B F2 X TT ht hla r1 hqZ hf c4 c5 c6 c7 c8 o1 trivial hz RD N2 ?_
        intro Z' u' kk1 kk2 kk3 kk4 kk5 m2 h3 tk3 RD' lt9 ne9 mk mt F3 N3
        exact finish Z' u' kk1 kk2 kk3 kk4 kk5 m2 h3 tk3 (q2 :: rem) RD' lt9 ne9 mk (Nat.le_refl _) (.inl ⟨mt, rfl, fun x h => by cases h; exact hf⟩) F3 N3
      | false =>
        have hq2 : TokP (InL ot) q2.1 q2.2 := by
          obtain ⟨_, _, _, _, h⟩ := RD
          exact (h q2 (.head _)).mono fun a o z => z.1
        refine in_go B F2 X TT ht hla r1 hqZ hf c4 c5 c6 c7 c8 o1 trivial hz RD N2 ?_
        intro Z' u' kk1 kk2 kk3 kk4 kk5 m2 h3 tk3 RD' lt9 ne9 mk mt F3 N3
        exact finish Z' u' kk1 kk2 kk3 kk4 kk5 m2 h3 tk3 rem RD' lt9 ne9 mk (by simp) (.inr ⟨q2, mt, hq2, rfl, hf⟩) F3 N3
end

end
section
set_option linter.unusedVariables false
set_option linter.unusedSimpArgs false
variable {w : World} {p : Program} {loose : List Str} {mean : ExcName → Option Value} {mg mb : Str → Option Value}


section
variable {gd : Option (List Code)} {A₀ : Around} {outer : List Env} {base h₀ : Heap} {L fa : Addr} {cd : Value} {m : Str → Option Value} {s : Shared}
  {T r rl bA fl S D g u BUF it ML I : Addr} {o oI : Obj} {k : FeK} {lo hi nf rn : Nat} {its : List Value} {ns : List Int} {fus rem0 : List (Addr × TD)} {ot0 ot Z news : List (Addr × Obj)} {k9 : Int} {t3 tp : Tok}
theorem law_s8 {Q : Flow → Shared → Prop}
  (B : Below A₀ base outer h₀) (F : Fr h₀ L s.heap m) (X : (hd.heap_1 w.params).In h₀) (TT : Top p loose mean mg mb h₀) (hi9 : IntsAre its ns) (hlen : ns.length ≤ 40) (hk0 : 0 ≤ k9) (hk9 : k9 < 90)
  (c1 : @LT.lt Nat _ T r) (c2 : @LT.lt Nat _ r fl) (c3 : @LT.lt Nat _ fl lo) (c4 : @LE.le Nat _ lo D) (c5 : @LT.lt Nat _ D S) (c6 : @LT.lt Nat _ S hi) (c7 : @LE.le Nat _ hi g) (c8 : @LT.lt Nat _ g u)
  (hokR : ∀ q ∈ rem0, q.2.Ok) (hl0 : rem0.length ≤ 50) (hfu : fus.map (·.2) = rem0.map (·.2)) (hft : ∀ q ∈ fus, ToldP (InLo ot0 lo) q.1 q.2)
  (lA : LocA m T rl bA fl S g u) (lV : LocV m false 0 0)
  (N : News h₀ L s.heap ((T, o) :: (r, W.listOf its.toArray rn) :: (fl, W.listOf (refs fus).toArray nf) :: (S, instObj 67 D) :: (D, feDict k BUF it ML false 0 tp) :: (g, W.listOf #[] 0) :: (u, W.listOf #[] 0) :: Z))
  (ho : TapeIs prog w o r k9 t3) (RD : RdX lo hi S D BUF it ML ot Z rem0) (o1 : ∀ p ∈ ot, p.1 ≠ T) (o2 : ∀ p ∈ ot, p.1 ≠ g) (o3 : ∀ p ∈ ot, p.1 ≠ u) (osub : ∀ p ∈ ot0, p ∈ ot)
  (ret : ∀ j m' news' h' tk', j ≤ 18 → S8J w T r rl bA fl S D g u BUF it ML k lo hi nf rn its fus rem0 ot0 (k9 + 1) j m' news' → Fr h₀ L h' m' → News h₀ L h' news' → Q .next {s with heap := h', toks := tk'}) :
  wpAny (model prog w) (lawA gd L fa cd outer) (execs (lawAt 8) (lawEnv L fa cd)) Q (fun _ _ => False) s := by
  show wpAny _ _ (execs (_ :: []) _) _ _ _
  refine wpAny_execs_cons ?_
  show wpAny _ _ (exec (.For (.Name _ _) s8Iter s8Body [] _) _) _ _ _
  have hZT := RD.ne (.inl (by omega)) o1
  refine wpAny_For (law_s8_iter (rest := (fl, W.listOf (refs fus).toArray nf) :: (S, instObj 67 D) :: (D, feDict k BUF it ML false 0 tp) :: (g, W.listOf #[] 0) :: (u, W.listOf #[] 0) :: Z) B F X TT lA.1 trivial c1 ?_ N ho hi9 hlen hk0 (by omega) fun R j o' t t1 t2 t' h' tk' j0 j1 ir F' N' ho' => ?_)
  · repeat (first | exact hZT | refine List.forall_mem_cons.mpr ⟨neN (by dsimp only; omega), ?_⟩)
  refine forRange_FI (S8J w T r rl bA fl S D g u BUF it ML k lo hi nf rn its fus rem0 ot0 (k9 + 1)) rfl rfl rfl ir (by omega) (by omega) F' N' ?_ ?_ ?_
  · exact ⟨o', t', k9 + 1, false, 0, 0, tp, [], [], 0, 0, ot, Z, lA, lV, rfl, ho', by omega, by omega, RD, Nat.zero_le _, ⟨rfl, (fun _ h => nomatch h), (fun _ h => nomatch h)⟩, ⟨Nat.zero_le _, Nat.zero_le _⟩, ⟨o1, o2, o3⟩, osub⟩
  · rintro i tk m₁ news₁ h tk1 I oI hlt hJ hI hoff F1 N1
    have cI : @LT.lt Nat _ u I := hI (u, _) (.tail _ (.tail _ (.tail _ (.tail _ (.tail _ (.tail _ (.head _)))))))
    have hJ2 : S8J w T r rl bA fl S D g u BUF it ML k lo hi nf rn its fus rem0 ot0 (k9 + 1) i (fun y => if y = Str.ofString "turn" then some (.int i tk) else m₁ y) news₁ := by
      rcases hJ with ⟨o, t3, k1, on, dp, pl, tp, gq, dq, ng, nu, ot, Z, h⟩
      exact ⟨o, t3, k1, on, dp, pl, tp, gq, dq, ng, nu, ot, Z, h⟩
    exact s8_turn B F1 X TT hi9 hlen (by omega) (by omega) (by omega) ⟨_, _, rfl⟩ c1 c2 c3 c4 c5 c6 c7 c8 cI hokR hl0 hfu hft hJ2 hoff N1
  · intro m₁ news₁ h tk hJ F1 N1
    dsimp only
    (k_steps; all_goals (try k_data))
    all_goals (exact ret _ _ _ _ _ (by omega) hJ (by k_asm) (by k_asm))

theorem law_s9 {Q : Flow → Shared → Prop} {E : Value → Shared → Prop} {on : Bool} {dp : Int} {pl ng nu : Nat} {oR oF oG oU : Obj}
  (B : Below A₀ base outer h₀) (F : Fr h₀ L s.heap m) (X : (hd.heap_1 w.params).In h₀) (TT : Top p loose mean mg mb h₀) (lA : LocA m T rl bA fl S g u) (lV : LocV m on dp pl)
  (c1 : @LT.lt Nat _ T r) (c2 : @LT.lt Nat _ r fl) (c3 : @LT.lt Nat _ fl lo) (c4 : @LE.le Nat _ lo D) (c5 : @LT.lt Nat _ D S) (c6 : @LT.lt Nat _ S hi) (c7 : @LE.le Nat _ hi g) (c8 : @LT.lt Nat _ g u) (hZD : ∀ p ∈ Z, p.1 ≠ D)
  (N : News h₀ L s.heap ((T, o) :: (r, oR) :: (fl, oF) :: (S, instObj 67 D) :: (D, feDict k BUF it ML on dp tp) :: (g, oG) :: (u, oU) :: Z))
  (ret : ∀ m' h' tk', LocA m' T rl bA fl S g u → LocV m' on dp pl → Fr h₀ L h' m' → News h₀ L h' ((T, o) :: (r, oR) :: (fl, oF) :: (S, instObj 67 D) :: (D, feDict k BUF it ML false dp tp) :: (g, oG) :: (u, oU) :: Z) → Q .next {s with heap := h', toks := tk'}) :
  wpAny (model prog w) (lawA gd L fa cd outer) (execs (lawAt 9) (lawEnv L fa cd)) Q E s := by
  obtain ⟨a1, a2, a3, a4, a5, a6, a7⟩ := lA
  obtain ⟨b1, ⟨td, b2⟩, ⟨tl, b3⟩⟩ := lV
  show wpAny _ _ (execs (_ :: []) _) _ _ _
  k_steps
  all_goals (try k_data)
  refine' ret ?m ?h ?tk ?la ?lv ?F ?N
  (case F => k_asm)
  (case N => k_asm)
  (case la => exact ⟨a1, a2, a3, a4, a5, a6, a7⟩)
  (case lv => exact ⟨b1, ⟨_, b2⟩, ⟨_, b3⟩⟩)
theorem law_s10_iter {Q : Value → Shared → Prop} {E : Value → Shared → Prop} {on : Bool} {dp : Int} {pl n0 : Nat} {others : List (Addr × Obj)}
  (B : Below A₀ base outer h₀) (F : Fr h₀ L s.heap m) (X : (hd.heap_1 w.params).In h₀) (TT : Top p loose mean mg mb h₀) (lA : LocA m T rl bA fl S g u) (lV : LocV m on dp pl) (hn0 : (refs fus).length = n0) (hpl : pl ≤ n0) (hn50 : n0 ≤ 50)
  (N : News h₀ L s.heap ((fl, W.listOf (refs fus).toArray nf) :: others))
  (ret : ∀ R j t t1 t2 h' tk', j = (n0 : Int) - pl + 2 → IsRange h' R 0 j 1 t t1 t2 → Fr h₀ L h' m → News h₀ L h' ((fl, W.listOf (refs fus).toArray nf) :: others) → Q (.ref R) {s with heap := h', toks := tk'}) :
  wpAny (model prog w) (lawA gd L fa cd outer) (eval s10Iter (lawEnv L fa cd)) Q E s := by
  obtain ⟨a1, a2, a3, a4, a5, a6, a7⟩ := lA
  obtain ⟨b1, ⟨td, b2⟩, ⟨tl, b3⟩⟩ := lV
  show wpAny _ _ (eval (.Call _ _ _ _) _) _ _ _
  k_steps
  all_goals (try k_data)
  refine' ret ?R ?j ?t ?t1 ?t2 ?h ?tk ?jj ?ir ?F ?N
  (case ir => k_asm)
  (case F => k_asm)
  (case N => k_asm)
  (case jj => omega)
theorem s10_end {Q : Flow → Shared → Prop} {E : Value → Shared → Prop} {on : Bool} {dp : Int} {pl ng : Nat} {oR oF oU : Obj} {iI : Addr} {gv : Array Value}
  (B : Below A₀ base outer h₀) (F : Fr h₀ L s.heap m) (X : (hd.heap_1 w.params).In h₀) (TT : Top p loose mean mg mb h₀) (lA : LocA m T rl bA fl S g u) (lV : LocV m on dp pl)
  (c1 : @LT.lt Nat _ T r) (c2 : @LT.lt Nat _ r fl) (c3 : @LT.lt Nat _ fl lo) (c4 : @LE.le Nat _ lo D) (c5 : @LT.lt Nat _ D S) (c6 : @LT.lt Nat _ S hi) (c7 : @LE.le Nat _ hi g) (c8 : @LT.lt Nat _ g u) (c10 : @LT.lt Nat _ u iI)
  (hog : ∀ p ∈ ot, p.1 ≠ g) (hou : ∀ p ∈ ot, p.1 ≠ u) (mk : MarkHi g) (hgv : gv.size ≤ 200) (RD : RdX lo hi S D BUF it ML ot Z [])
  (N : News h₀ L s.heap ((iI, oI) :: (T, o) :: (r, oR) :: (fl, oF) :: (S, instObj 67 D) :: (D, feDict k BUF it ML false dp tp) :: (g, W.listOf gv ng) :: (u, oU) :: Z))
  (ret : ∀ Z' m' h' tk', RdX lo hi S D BUF it ML ot Z' [] → LocA m' T rl bA fl S g u → LocV m' on dp pl → Fr h₀ L h' m' → News h₀ L h' ((iI, oI) :: (T, o) :: (r, oR) :: (fl, oF) :: (S, instObj 67 D) :: (D, feDict k BUF it ML false dp tp) :: (g, W.listOf (gv.push .none) (ng + 1)) :: (u, oU) :: Z') → Q .next {s with heap := h', toks := tk'}) :
  wpAny (model prog w) (lawA gd L fa cd outer) (execs s10Body (lawEnv L fa cd)) Q E s := by
  obtain ⟨a1, a2, a3, a4, a5, a6, a7⟩ := lA
  obtain ⟨b1, ⟨td, b2⟩, ⟨tl, b3⟩⟩ := lV
  show wpAny _ _ (execs (_ :: []) _) _ _ _
  k_steps
  all_goals (try k_data)
  refine' ret ?Z ?m ?h ?tk ?rd ?la ?lv ?F ?N
  (case rd => assumption)
  (case F => k_asm)
  (case N => refine News.sub (by k_asm) ?_; (repeat (first | exact List.forall_mem_nil _ | refine List.forall_mem_cons.mpr ⟨by k_mem, ?_⟩ | (intro p hp; repeat (first | exact hp | refine List.mem_cons_of_mem _ ?_)))))
  (case la => exact ⟨a1, a2, a3, a4, a5, a6, a7⟩)
  (case lv => exact ⟨b1, ⟨_, b2⟩, ⟨_, b3⟩⟩)
theorem s10_go {Q : Flow → Shared → Prop} {E : Value → Shared → Prop} {on : Bool} {dp : Int} {pl ng : Nat} {oR oF oU : Obj} {iI : Addr} {gv : Array Value} {q : Addr × TD} {rem : List (Addr × TD)}
  (B : Below A₀ base outer h₀) (F : Fr h₀ L s.heap m) (X : (hd.heap_1 w.params).In h₀) (TT : Top p loose mean mg mb h₀) (lA : LocA m T rl bA fl S g u) (lV : LocV m on dp pl)
  (c1 : @LT.lt Nat _ T r) (c2 : @LT.lt Nat _ r fl) (c3 : @LT.lt Nat _ fl lo) (c4 : @LE.le Nat _ lo D) (c5 : @LT.lt Nat _ D S) (c6 : @LT.lt Nat _ S hi) (c7 : @LE.le Nat _ hi g) (c8 : @LT.lt Nat _ g u) (c10 : @LT.lt Nat _ u iI)
  (hog : ∀ p ∈ ot, p.1 ≠ g) (hou : ∀ p ∈ ot, p.1 ≠ u) (mk : MarkHi g) (hgv : gv.size ≤ 200) (RD : RdX lo hi S D BUF it ML ot Z (q :: rem))
  (N : News h₀ L s.heap ((iI, oI) :: (T, o) :: (r, oR) :: (fl, oF) :: (S, instObj 67 D) :: (D, feDict k BUF it ML false dp tp) :: (g, W.listOf gv ng) :: (u, oU) :: Z))
  (ret : ∀ Z' u' kk1 kk2 kk3 kk4 kk5 m' h' tk', RdX lo hi S D BUF it ML ot Z' rem → @LT.lt Nat _ g u' → @Ne Nat u u' → @Ne Nat iI u' → LocA m' T rl bA fl S g u → LocV m' on dp pl → Fr h₀ L h' m' → News h₀ L h' ((iI, oI) :: (T, o) :: (r, oR) :: (fl, oF) :: (S, instObj 67 D) :: (D, feDict k BUF it ML false dp tp) :: (g, W.listOf (gv.push (.ref u')) (ng + 1)) :: (u, oU) :: (u', toldObj q.2 kk1 kk2 kk3 kk4 kk5) :: Z') → Q .next {s with heap := h', toks := tk'}) :
  wpAny (model prog w) (lawA gd L fa cd outer) (execs s10Body (lawEnv L fa cd)) Q E s := by
  obtain ⟨a1, a2, a3, a4, a5, a6, a7⟩ := lA
  obtain ⟨b1, ⟨td, b2⟩, ⟨tl, b3⟩⟩ := lV
  show wpAny _ _ (execs (_ :: []) _) _ _ _
  k_steps
  all_goals (try k_data)
  refine' ret ?Z ?u ?kk1 ?kk2 ?kk3 ?kk4 ?kk5 ?m ?h ?tk ?rd ?lt ?ne ?ni ?la ?lv ?F ?N
  (case rd => assumption)
  (case F => k_asm)
  (case N => refine News.sub (by k_asm) ?_; (repeat (first | exact List.forall_mem_nil _ | refine List.forall_mem_cons.mpr ⟨by k_mem, ?_⟩ | (intro p hp; repeat (first | exact hp | refine List.mem_cons_of_mem _ ?_)))))
  (case la => exact ⟨a1, a2, a3, a4, a5, a6, a7⟩)
  (case lv => exact ⟨b1, ⟨_, b2⟩, ⟨_, b3⟩⟩)
  (case lt => assumption)
  (case ne => omega)
  (case ni => omega)
end

end
section
set_option linter.unusedVariables false
set_option linter.unusedSimpArgs false
variable {w : World} {p : Program} {loose : List Str} {mean : ExcName → Option Value} {mg mb : Str → Option Value}



section
variable {gd : Option (List Code)} {A₀ : Around} {outer : List Env} {base h₀ : Heap} {L : Addr} {m : Str → Option Value} {s : Shared} {E : Value → Shared → Prop}
  {S D BUF it ML ll la : Addr} {k : FeK} {tp tm : Tok} {lo hi nl n0 : Nat} {ot Z news : List (Addr × Obj)} {rem : List (Addr × TD)} {q2 : Addr × TD} {q : Addr × TD} {oll : Obj}
theorem ln_a {Q : Flow → Shared → Prop}
  (B : Below A₀ base outer h₀) (F : Fr h₀ L s.heap m) (X : (hd.heap_1 w.params).In h₀) (TT : Top p loose mean mg mb h₀) (h1 : m (Str.ofString "reader") = some (.ref S)) (h3 : m (Str.ofString "most") = some (.int n0 tm)) (N : News h₀ L s.heap news)
  (ret : ∀ ll m' h' tk', (∀ p ∈ news, @LT.lt Nat _ p.1 ll) → LnL m' S ll n0 tm → Fr h₀ L h' m' → News h₀ L h' ((ll, W.listOf #[] 0) :: news) → Q .next {s with heap := h', toks := tk'}) :
  wpAny (model prog w) (lnA gd L outer) (execs (lnBody.take 1) (lnEnv L)) Q E s := by
  show wpAny _ _ (execs (_ :: []) _) _ _ _
  k_steps
  all_goals (try k_data)
  refine' ret ?rl ?m ?h ?tk ?l2 ?ll ?F ?N
  (case F => k_asm)
  (case N => k_asm)
  (case ll => exact ⟨h1, rfl, h3⟩)
  (case l2 => first | assumption | exact fun p hp => allLt_all (by k_asm : AllLt _ news) p hp)
theorem ln_b_end {Q : Flow → Shared → Prop}
  (B : Below A₀ base outer h₀) (F : Fr h₀ L s.heap m) (X : (hd.heap_1 w.params).In h₀) (TT : Top p loose mean mg mb h₀) (lL : LnL m S ll n0 tm) (c4 : @LE.le Nat _ lo D) (c5 : @LT.lt Nat _ D S) (c6 : @LT.lt Nat _ S hi) (c7 : @LE.le Nat _ hi ll)
  (RD : RdX lo hi S D BUF it ML ot Z []) (N : News h₀ L s.heap ((ll, oll) :: (S, instObj 67 D) :: (D, feDict k BUF it ML false 0 tp) :: Z))
  (ret : ∀ Z' m' h' tk', RdX lo hi S D BUF it ML ot Z' [] → LnL m' S ll n0 tm → m' (Str.ofString "token") = some .none → Fr h₀ L h' m' → News h₀ L h' ((ll, oll) :: (S, instObj 67 D) :: (D, feDict k BUF it ML false 0 tp) :: Z') → Q .next {s with heap := h', toks := tk'}) :
  wpAny (model prog w) (lnA gd L outer) (execs ((lnBody.drop 1).take 1) (lnEnv L)) Q E s := by
  obtain ⟨r1, r2, r3⟩ := lL
  show wpAny _ _ (execs (_ :: []) _) _ _ _
  k_steps
  all_goals (try k_data)
  refine' ret ?Z ?m ?h ?tk ?rd ?ll ?mt ?F ?N
  (case rd => assumption)
  (case F => k_asm)
  (case N => k_asm)
  (case ll => exact ⟨r1, r2, r3⟩)
  (case mt => exact rfl)
theorem ln_b_go {Q : Flow → Shared → Prop}
  (B : Below A₀ base outer h₀) (F : Fr h₀ L s.heap m) (X : (hd.heap_1 w.params).In h₀) (TT : Top p loose mean mg mb h₀) (lL : LnL m S ll n0 tm) (c4 : @LE.le Nat _ lo D) (c5 : @LT.lt Nat _ D S) (c6 : @LT.lt Nat _ S hi) (c7 : @LE.le Nat _ hi ll)
  (RD : RdX lo hi S D BUF it ML ot Z (q :: rem)) (N : News h₀ L s.heap ((ll, oll) :: (S, instObj 67 D) :: (D, feDict k BUF it ML false 0 tp) :: Z))
  (ret : ∀ Z' m' h' tk', RdX lo hi S D BUF it ML ot Z' rem → LnL m' S ll n0 tm → m' (Str.ofString "token") = some (.ref q.1) → Fr h₀ L h' m' → News h₀ L h' ((ll, oll) :: (S, instObj 67 D) :: (D, feDict k BUF it ML false 0 tp) :: Z') → Q .next {s with heap := h', toks := tk'}) :
  wpAny (model prog w) (lnA gd L outer) (execs ((lnBody.drop 1).take 1) (lnEnv L)) Q E s := by
  obtain ⟨r1, r2, r3⟩ := lL
  show wpAny _ _ (execs (_ :: []) _) _ _ _
  k_steps
  all_goals (try k_data)
  refine' ret ?Z ?m ?h ?tk ?rd ?ll ?mt ?F ?N
  (case rd => assumption)
  (case F => k_asm)
  (case N => k_asm)
  (case ll => exact ⟨r1, r2, r3⟩)
  (case mt => exact rfl)
theorem ln_ret {Q : Flow → Shared → Prop}
  (B : Below A₀ base outer h₀) (F : Fr h₀ L s.heap m) (X : (hd.heap_1 w.params).In h₀) (TT : Top p loose mean mg mb h₀) (lL : LnL m S ll n0 tm) (N : News h₀ L s.heap news)
  (ret : ∀ m' h' tk', Fr h₀ L h' m' → News h₀ L h' news → Q (.ret (.ref ll)) {s with heap := h', toks := tk'}) :
  wpAny (model prog w) (lnA gd L outer) (execs (lnBody.drop 3) (lnEnv L)) Q E s := by
  obtain ⟨r1, r2, r3⟩ := lL
  show wpAny _ _ (execs (_ :: []) _) _ _ _
  k_steps
  all_goals (try k_data)
  all_goals (exact ret _ _ _ (by k_asm) (by k_asm))
/-- between the turns of the outer loop -/
inductive OutJ (S D BUF it ML ll : Addr) (k : FeK) (tp tm : Tok) (lo hi n0 : Nat) (T0 : List TD) (ot0 : List (Addr × Obj)) (n : Nat) (m : Str → Option Value) (news : List (Addr × Obj)) : Prop
  | mk (cs : List RowR) (nl : Nat) (rem : List (Addr × TD)) (ot Z : List (Addr × Obj)) (pre : List TD) (h : LnL m S ll n0 tm ∧
    news = (ll, W.listOf (rowsVal cs).toArray nl) :: (S, instObj 67 D) :: (D, feDict k BUF it ML false 0 tp) :: Z ∧ RdX lo hi S D BUF it ML ot Z rem ∧ LinesIn (InL ot) cs ∧ (∀ p ∈ ot, p.1 ≠ ll) ∧ (∀ p ∈ ot0, p ∈ ot) ∧ cs.map (fun q => tds q.2.2) = cutT pre ∧ cs.length ≤ pre.length ∧
    ((m (Str.ofString "token") = some .none ∧ T0 = pre ∧ rem = [] ∧ n = 0) ∨
     ∃ q : Addr × TD, m (Str.ofString "token") = some (.ref q.1) ∧ TokP (InL ot) q.1 q.2 ∧ T0 = pre ++ q.2 :: tds rem ∧ n = rem.length + 1 ∧ (cs = [] ∨ q.2.f = true)))
theorem ot_hi {Z : List (Addr × Obj)} (c : RdX lo hi S D BUF it ML ot Z rem) {a : Addr} (h : ∀ p ∈ Z, @LT.lt Nat _ p.1 a) : ∀ p ∈ ot, @LT.lt Nat _ p.1 a := fun p hp => h p (c.sub _ _ hp)
theorem out_loop {T0 : List TD} {ot0 : List (Addr × Obj)} {Q : Flow → Shared → Prop} {n : Nat} {pos : Pos}
  (B : Below A₀ base outer h₀) (F : Fr h₀ L s.heap m) (X : (hd.heap_1 w.params).In h₀) (TT : Top p loose mean mg mb h₀) (c4 : @LE.le Nat _ lo D) (c5 : @LT.lt Nat _ D S) (c6 : @LT.lt Nat _ S hi) (c7 : @LE.le Nat _ hi ll) (hT0 : T0.length ≤ n0) (hn0 : n0 ≤ 50)
  (N : News h₀ L s.heap news) (J : OutJ S D BUF it ML ll k tp tm lo hi n0 T0 ot0 n m news)
  (ret : ∀ (cs : List RowR) (nl : Nat) (ot Z : List (Addr × Obj)) m' h' tk', LnL m' S ll n0 tm → RdX lo hi S D BUF it ML ot Z [] → LinesIn (InL ot) cs → (∀ p ∈ ot0, p ∈ ot) → cs.map (fun q => tds q.2.2) = cutT T0 → Fr h₀ L h' m' →
    News h₀ L h' ((ll, W.listOf (rowsVal cs).toArray nl) :: (S, instObj 67 D) :: (D, feDict k BUF it ML false 0 tp) :: Z) → Q .next {s with heap := h', toks := tk'}) :
  wpAny (model prog w) (lnA gd L outer) (exec (.While oTest oBody [] pos) (lnEnv L)) Q (fun _ _ => False) s := by
  refine wpAny_While (codeAny_whileLoop (fun n s' => ∃ h' tk' m' news', s' = { s with heap := h', toks := tk' } ∧ Fr h₀ L h' m' ∧ News h₀ L h' news' ∧ OutJ S D BUF it ML ll k tp tm lo hi n0 T0 ot0 n m' news') ?_ n ⟨_, _, m, news, rfl, F, N, J⟩)
  rintro n s' ⟨h', tk', m', news', rfl, F', N', cs, nl, rem, ot, Z, pre, lL, rfl, RD, hcs, o2, osub, he, hle, hc⟩
  rcases hc with ⟨ht, hT, rfl, rfl⟩ | ⟨q, ht, hq, hT, rfl, hc⟩
  · refine o_test_none B F' X TT ht N' fun h2 tk2 F2 N2 => ?_
    simp only [Bool.false_eq_true, if_false]
    exact wpAny_execs_nil (ret cs nl ot Z m' h2 tk2 lL RD hcs osub (hT ▸ he) F2 N2)
  · have hpl : cs.length < n0 := by
      have := congrArg List.length hT
      simp at this
      omega
    have hrl : (rowsVal cs).length = cs.length := by simp [rowsVal]
    refine o_test_some (n0 := n0) (c := cs.length) B F' X TT ht lL.2.1 lL.2.2 hrl (by omega) (by omega) N' fun h2 tk2 F2 N2 => ?_
    simp only [if_true]
    show wpAny (model prog w) (lnA gd L outer) (execs (_ :: _ :: oBody.drop 2) _) _ _ _
    refine execs_split2 (o_pre (rest2 := []) B F2 X TT lL.1 c4 c5 c6 c7 RD N2 ?_)
    intro la m2 h3 tk3 c8 hla mk mt F3 N3
    dsimp only
    have lL2 := lL.keep2 mk
    have hola := ot_hi RD hla
    have hR0 : rem.length ≤ rem.length := Nat.le_refl _
    show wpAny (model prog w) (lnA gd L outer) (execs (.While iTest iBody [] _ :: oBody.drop 3) _) _ _ _
    refine wpAny_execs_cons ?_
    refine wpAny_mono (in_loop (tm := tm) (tp := tp) (k := k) (ML := ML) (it := it) (BUF := BUF) (R0 := rem.length) (dl := cutT pre) (T0 := T0) (ot0 := ot) (n := rem.length + 1) (ol := (rowsVal cs).toArray) (c := nl) (Q := fun f s₁ => ∃ (lt : List (Addr × TD)) (nla : Nat) (rem' : List (Addr × TD)) (ot' Z' : List (Addr × Obj)) (pre' : List TD) (m3 : Str → Option Value) (h4 : Heap) (tk4 : Nat), f = .next ∧ s₁ = {s with heap := h4, toks := tk4} ∧ LnL m3 S ll n0 tm ∧ m3 (Str.ofString "line") = some (.ref la) ∧ RdX lo hi S D BUF it ML ot' Z' rem' ∧ (∀ t ∈ lt, ToldP (InL ot') t.1 t.2) ∧ (∀ p ∈ ot', p.1 ≠ la) ∧ (∀ p ∈ ot', p.1 ≠ ll) ∧ (∀ p ∈ ot, p ∈ ot') ∧
        rem'.length ≤ rem.length ∧ T0 = pre' ++ tds rem' ∧ cutT pre ++ [tds lt] = cutT pre' ∧ (∀ x, rem'.head? = some x → x.2.f = true) ∧ Fr h₀ L h4 m3 ∧ News h₀ L h4 ((la, W.listOf (refs lt).toArray nla) :: (ll, W.listOf (rowsVal cs).toArray nl) :: (S, instObj 67 D) :: (D, feDict k BUF it ML true 0 tp) :: Z')) B F3 X TT c4 c5 c6 c7 c8 hT0 hn0 N3 ?_ ?_) ?_ (fun _ _ e => e.elim)
    · refine ⟨[], 0, rem, ot, Z, pre, lL2, mt, rfl, RD, (fun _ h => nomatch h), fun p hp => Nat.ne_of_lt (hola p hp), o2, fun _ h => h, Nat.zero_le _, hR0, .inr ⟨q, (mk _ (by decide +kernel)).trans ht, hq, hT, rfl, .inl ⟨rfl, rfl, ?_⟩⟩⟩
      rcases hc with h | h
      · left; rw [← he, h]; rfl
      · exact .inr h
    · intro lt nla rem' ot' Z' pre' m3 h4 tk4 a1 a2 a3 a4 a5 a6 a7 a8 a9 a10 a11 a12 a13
      exact ⟨lt, nla, rem', ot', Z', pre', m3, h4, tk4, rfl, rfl, a1, a2, a3, a4, a5, a6, a7, a8, a9, a10, a11, a12, a13⟩
    rintro f s₁ ⟨lt, nla, rem', ot', Z', pre', m3, h4, tk4, rfl, rfl, lL3, hl3, RD3, hto, o1', o2', sub', hR', hT', hcut, hh, F4, N4⟩
    dsimp only
    have hlc : @LE.le Nat _ hi la := by omega
    -- the line goes into ot
    have hcsn : (cs ++ [(la, nla, lt)]).map (fun q => tds q.2.2) = cutT pre' := by rw [List.map_append, he]; exact hcut
    have hlen' : (cs ++ [(la, nla, lt)]).length ≤ pre'.length := by
      have h1 := congrArg List.length hcsn
      have h2 := cutT_len pre'
      rw [List.length_map] at h1
      omega
    have close : ∀ (Z2 : List (Addr × Obj)) (rem2 : List (Addr × TD)) (m4 : Str → Option Value) (h5 : Heap) (tk5 : Nat), RdX lo hi S D BUF it ML ot' Z2 rem2 → (∀ y, y ≠ Str.ofString "token" → m4 y = m3 y) → ((m4 (Str.ofString "token") = some .none ∧ rem' = [] ∧ rem2 = []) ∨ ∃ q2, m4 (Str.ofString "token") = some (.ref q2.1) ∧ rem' = q2 :: rem2 ∧ TokP (InL ot') q2.1 q2.2 ∧ q2.2.f = true) → Fr h₀ L h5 m4 →
        News h₀ L h5 ((la, W.listOf (refs lt).toArray nla) :: (ll, W.listOf (rowsVal cs ++ [Value.ref la]).toArray (nl + 1)) :: (S, instObj 67 D) :: (D, feDict k BUF it ML false 0 tp) :: Z2) →
        ∃ mm, mm < rem.length + 1 ∧ ∃ h' tk' m' news', ({ s with heap := h5, toks := tk5 } : Shared) = { s with heap := h', toks := tk' } ∧ Fr h₀ L h' m' ∧ News h₀ L h' news' ∧ OutJ S D BUF it ML ll k tp tm lo hi n0 T0 ot0 mm m' news' := by
      intro Z2 rem2 m4 h5 tk5 RD4 mk4 hcase F5 N5
      obtain ⟨Z3, RD5, hZ3⟩ := RD4.push (a := la) (o := W.listOf (refs lt).toArray nla) (.inr hlc)
      have hlin : LinesIn (InL ((la, W.listOf (refs lt).toArray nla) :: ot')) (cs ++ [(la, nla, lt)]) := by
        intro x hx
        rcases List.mem_append.mp hx with z | z
        · exact ⟨.tail _ (sub' _ (hcs x z).1), fun t ht => ((hcs x z).2 t ht).mono fun a o y => .tail _ (sub' _ y)⟩
        · rw [List.mem_singleton.mp z]; exact ⟨.head _, fun t ht => (hto t ht).mono fun a o y => .tail _ y⟩
      have hk : ∃ mm, mm < rem.length + 1 ∧ OutJ S D BUF it ML ll k tp tm lo hi n0 T0 ot0 mm m4 ((ll, W.listOf (rowsVal (cs ++ [(la, nla, lt)])).toArray (nl + 1)) :: (S, instObj 67 D) :: (D, feDict k BUF it ML false 0 tp) :: Z3) := by
        rcases hcase with ⟨mt4, rfl, rfl⟩ | ⟨q2, mt4, rfl, hq2, hf2⟩
        · exact ⟨0, by omega, cs ++ [(la, nla, lt)], nl + 1, [], _, Z3, pre', lL3.keep mk4, rfl, RD5, hlin, List.forall_mem_cons.mpr ⟨neN (by dsimp only; omega), o2'⟩, fun p hp => .tail _ (sub' _ (osub p hp)), hcsn, hlen', .inl ⟨mt4, by rw [hT']; simp [tds], rfl, rfl⟩⟩
        · exact ⟨rem2.length + 1, by simp at hR'; omega, cs ++ [(la, nla, lt)], nl + 1, rem2, _, Z3, pre', lL3.keep mk4, rfl, RD5, hlin, List.forall_mem_cons.mpr ⟨neN (by dsimp only; omega), o2'⟩, fun p hp => .tail _ (sub' _ (osub p hp)), hcsn, hlen', .inr ⟨q2, mt4, hq2.mono fun a o y => .tail _ y, by rw [hT']; simp [tds], rfl, .inr hf2⟩⟩
      obtain ⟨mm, hmm, hJ⟩ := hk
      refine ⟨mm, hmm, h5, tk5, m4, _, rfl, F5, News.sub N5 ?_, hJ⟩
      intro p hp
      simp only [List.mem_cons, hZ3, rowsVal, List.map_append, List.map_cons, List.map_nil] at hp ⊢
      rcases hp with h | h | h | h | h <;> simp only [h, true_or, or_true]
    have hz : (rowsVal cs).length ≤ 100 := by omega
    rcases rem' with _ | ⟨q2, rem2⟩
    · refine wpAny_mono (o_post_end (E := fun _ _ => False) B F4 X TT hl3 lL3.1 lL3.2.1 c4 c5 c6 c7 c8 o2' hz RD3 N4 ?_) (fun _ _ z => z) (fun _ _ e => e.elim)
      intro Z2 m4 h5 tk5 RD4 mk4 mt4 F5 N5
      exact close Z2 [] m4 h5 tk5 RD4 mk4 (.inl ⟨mt4, rfl, rfl⟩) F5 N5
    · have hq2 : TokP (InL ot') q2.1 q2.2 := by
        obtain ⟨_, _, _, _, h⟩ := RD3
        exact (h q2 (.head _)).mono fun a o z => z.1
      refine wpAny_mono (o_post_go (E := fun _ _ => False) B F4 X TT hl3 lL3.1 lL3.2.1 c4 c5 c6 c7 c8 o2' hz RD3 N4 ?_) (fun _ _ z => z) (fun _ _ e => e.elim)
      intro Z2 m4 h5 tk5 RD4 mk4 mt4 F5 N5
      exact close Z2 rem2 m4 h5 tk5 RD4 mk4 (.inr ⟨q2, mt4, rfl, hq2, hh q2 rfl⟩) F5 N5
end

end
end

section
set_option linter.unusedVariables false
set_option linter.unusedSimpArgs false
variable {w : World} {p : Program} {loose : List Str} {mean : ExcName → Option Value} {mg mb : Str → Option Value}


inductive S10J (T r rl bA fl S D g u BUF it ML : Addr) (k : FeK) (lo hi : Nat) (o oR oF oU : Obj) (tp : Tok) (on : Bool) (dp : Int) (pl : Nat) (gq0 : List An) (rem1 : List (Addr × TD)) (ot0 : List (Addr × Obj)) (i : Nat) (m : Str → Option Value) (news : List (Addr × Obj)) : Prop
  | mk (ans : List An) (ng : Nat) (ot Z : List (Addr × Obj)) (h : LocA m T rl bA fl S g u ∧ LocV m on dp pl ∧
    news = (T, o) :: (r, oR) :: (fl, oF) :: (S, instObj 67 D) :: (D, feDict k BUF it ML false dp tp) :: (g, W.listOf (ovals (gq0 ++ ans)).toArray ng) :: (u, oU) :: Z ∧
    RdX lo hi S D BUF it ML ot Z (rem1.drop i) ∧ ans.map strip = (rem1.map (fun q => some q.2) ++ [none, none] : List (Option TD)).take i ∧ AnOk ot (gq0 ++ ans) ∧ ans.length = i ∧
    ((∀ p ∈ ot, p.1 ≠ g) ∧ (∀ p ∈ ot, p.1 ≠ u)) ∧ (∀ p ∈ ot0, p ∈ ot))
section
variable {gd : Option (List Code)} {A₀ : Around} {outer : List Env} {base h₀ : Heap} {L fa : Addr} {cd : Value} {m : Str → Option Value} {s : Shared}
  {T r rl bA fl S D g u BUF it ML I : Addr} {o oR oU oI : Obj} {k : FeK} {lo hi nf ng : Nat} {fus rem1 : List (Addr × TD)} {ot Z news : List (Addr × Obj)} {tp : Tok} {on : Bool} {dp : Int} {pl n0 : Nat} {gq : List An}
theorem law_s10 {Q : Flow → Shared → Prop}
  (B : Below A₀ base outer h₀) (F : Fr h₀ L s.heap m) (X : (hd.heap_1 w.params).In h₀) (TT : Top p loose mean mg mb h₀)
  (c1 : @LT.lt Nat _ T r) (c2 : @LT.lt Nat _ r fl) (c3 : @LT.lt Nat _ fl lo) (c4 : @LE.le Nat _ lo D) (c5 : @LT.lt Nat _ D S) (c6 : @LT.lt Nat _ S hi) (c7 : @LE.le Nat _ hi g) (c8 : @LT.lt Nat _ g u)
  (lA : LocA m T rl bA fl S g u) (lV : LocV m on dp pl) (hn0 : (refs fus).length = n0) (hpl : pl ≤ n0) (hn50 : n0 ≤ 50) (hr1 : rem1.length = n0 - pl) (hgq : gq.length ≤ 20) (hok1 : ∀ q ∈ rem1, q.2.Ok)
  (N : News h₀ L s.heap ((T, o) :: (r, oR) :: (fl, W.listOf (refs fus).toArray nf) :: (S, instObj 67 D) :: (D, feDict k BUF it ML false dp tp) :: (g, W.listOf (ovals gq).toArray ng) :: (u, oU) :: Z))
  (RD : RdX lo hi S D BUF it ML ot Z rem1) (o2 : ∀ p ∈ ot, p.1 ≠ g) (o3 : ∀ p ∈ ot, p.1 ≠ u) (ga : AnOk ot gq)
  (ret : ∀ m' news' h' tk', S10J T r rl bA fl S D g u BUF it ML k lo hi o oR (W.listOf (refs fus).toArray nf) oU tp on dp pl gq rem1 ot (rem1.length + 2) m' news' → Fr h₀ L h' m' → News h₀ L h' news' → Q .next {s with heap := h', toks := tk'}) :
  wpAny (model prog w) (lawA gd L fa cd outer) (execs (lawAt 10) (lawEnv L fa cd)) Q (fun _ _ => False) s := by
  show wpAny _ _ (execs (_ :: []) _) _ _ _
  refine wpAny_execs_cons ?_
  show wpAny _ _ (exec (.For (.Name _ _) s10Iter s10Body [] _) _) _ _ _
  refine wpAny_For (law_s10_iter (nf := nf) (others := (T, o) :: (r, oR) :: (S, instObj 67 D) :: (D, feDict k BUF it ML false dp tp) :: (g, W.listOf (ovals gq).toArray ng) :: (u, oU) :: Z) B F X TT lA lV hn0 hpl hn50 (News.sub N ?_) fun R j t t1 t2 h' tk' jj ir F' N' => ?_)
  · intro p hp
    first
    | (revert hp; revert p; (repeat (first | exact List.forall_mem_nil _ | refine List.forall_mem_cons.mpr ⟨by k_mem, ?_⟩ | (intro p hp; repeat (first | exact hp | refine List.mem_cons_of_mem _ ?_)))); done)
    | (simp only [List.mem_cons] at hp ⊢
       rcases hp with h | h | h | h | h | h | h | h <;> simp only [h, true_or, or_true])
  have hj : j = ((rem1.length + 2 : Nat) : Int) := by omega
  have N2 : News h₀ L h' ((T, o) :: (r, oR) :: (fl, W.listOf (refs fus).toArray nf) :: (S, instObj 67 D) :: (D, feDict k BUF it ML false dp tp) :: (g, W.listOf (ovals gq).toArray ng) :: (u, oU) :: Z) := News.sub N' fun p hp => by
    first
    | (revert hp; revert p; (repeat (first | exact List.forall_mem_nil _ | refine List.forall_mem_cons.mpr ⟨by k_mem, ?_⟩ | (intro p hp; repeat (first | exact hp | refine List.mem_cons_of_mem _ ?_)))); done)
    | (simp only [List.mem_cons] at hp ⊢
       rcases hp with h | h | h | h | h | h | h | h <;> simp only [h, true_or, or_true])
  refine forRange_FI (S10J T r rl bA fl S D g u BUF it ML k lo hi o oR (W.listOf (refs fus).toArray nf) oU tp on dp pl gq rem1 ot) rfl rfl rfl ir (by omega) (by omega) F' N2 ?_ ?_ ?_
  · exact ⟨[], ng, ot, Z, lA, lV, by rw [List.append_nil], RD, rfl, by rw [List.append_nil]; exact ga, rfl, ⟨o2, o3⟩, fun _ h => h⟩
  · rintro i tk m₁ news₁ h tk1 I oI hlt ⟨ans, ng1, ot1, Z1, lA1, lV1, rfl, RD1, he, ha, hl, ⟨p2, p3⟩, psub⟩ hI hoff F1 N1
    have cI : @LT.lt Nat _ u I := hI (u, _) (.tail _ (.tail _ (.tail _ (.tail _ (.tail _ (.tail _ (.head _)))))))
    have hZI : ∀ p ∈ Z1, p.1 ≠ I := fun p hp => hoff p (.tail _ (.tail _ (.tail _ (.tail _ (.tail _ (.tail _ (.tail _ hp)))))))
    have hoI : ∀ p ∈ ot1, p.1 ≠ I := fun p hp => hZI p (RD1.sub _ _ hp)
    have hsz : (ovals (gq ++ ans)).toArray.size ≤ 200 := by simp [ovals]; omega
    have lA2 : LocA (fun y => if y = Str.ofString "turn" then some (.int i tk) else m₁ y) T rl bA fl S g u := lA1
    have lV2 : LocV (fun y => if y = Str.ofString "turn" then some (.int i tk) else m₁ y) on dp pl := lV1
    by_cases hend : rem1.length ≤ i
    · have e0 : rem1.drop i = [] := List.drop_eq_nil_iff.mpr hend
      rw [e0] at RD1
      refine s10_end B F1 X TT lA2 lV2 c1 c2 c3 c4 c5 c6 c7 c8 cI p2 p3 trivial hsz RD1 N1 ?_
      intro Z' m' h2 tk2 RD' lA' lV' F2 N2
      refine ⟨rfl, h2, tk2, m', (T, o) :: (r, oR) :: (fl, W.listOf (refs fus).toArray nf) :: (S, instObj 67 D) :: (D, feDict k BUF it ML false dp tp) :: (g, W.listOf ((ovals (gq ++ ans)).toArray.push .none) (ng1 + 1)) :: (u, oU) :: Z', rfl, F2, N2, offI c1 c2 c3 c4 c5 c6 c7 c8 cI (RD'.ne (.inr (by omega)) hoI), ⟨ans ++ [none], ng1 + 1, ot1, Z', lA', lV', ?_, ?_, ?_, ?_, by simp [hl], ⟨p2, p3⟩, psub⟩⟩
      · rw [← List.append_assoc, ← ovals_snoc]; rfl
      · rw [List.drop_eq_nil_iff.mpr (by omega : rem1.length ≤ i + 1)]; exact RD'
      · have hx : (rem1.map (fun q => some q.2) ++ [none, none] : List (Option TD))[i]? = some none := by
          rw [List.getElem?_append_right (by simpa using hend)]
          have : i - (rem1.map (fun q => some q.2)).length = 0 ∨ i - (rem1.map (fun q => some q.2)).length = 1 := by simp; omega
          rcases this with h | h <;> rw [h] <;> rfl
        rw [List.take_add_one, hx, List.map_append, he]; rfl
      · rw [← List.append_assoc]; exact ha.snoc_none
    · have hlt2 : i < rem1.length := by omega
      have ed : rem1.drop i = rem1[i] :: rem1.drop (i + 1) := List.drop_eq_getElem_cons hlt2
      rw [ed] at RD1
      refine s10_go B F1 X TT lA2 lV2 c1 c2 c3 c4 c5 c6 c7 c8 cI p2 p3 trivial hsz RD1 N1 ?_
      intro Z' u' kk1 kk2 kk3 kk4 kk5 m' h2 tk2 RD' lt ne ni lA' lV' F2 N2
      obtain ⟨Z2, RD2, hZ2⟩ := RD'.push (a := u') (o := toldObj rem1[i].2 kk1 kk2 kk3 kk4 kk5) (.inr (by omega))
      have hoI2 : ∀ p ∈ (u', toldObj rem1[i].2 kk1 kk2 kk3 kk4 kk5) :: ot1, p.1 ≠ I := List.forall_mem_cons.mpr ⟨neN ni.symm, hoI⟩
      refine ⟨rfl, h2, tk2, m', (T, o) :: (r, oR) :: (fl, W.listOf (refs fus).toArray nf) :: (S, instObj 67 D) :: (D, feDict k BUF it ML false dp tp) :: (g, W.listOf ((ovals (gq ++ ans)).toArray.push (.ref u')) (ng1 + 1)) :: (u, oU) :: Z2, rfl, F2, News.sub N2 ?_, offI c1 c2 c3 c4 c5 c6 c7 c8 cI (RD2.ne (.inr (by omega)) hoI2), ⟨ans ++ [some (u', rem1[i].2)], ng1 + 1, _, Z2, lA', lV', ?_, RD2, ?_, ?_, by simp [hl], ⟨List.forall_mem_cons.mpr ⟨neN (by dsimp only; omega), p2⟩, List.forall_mem_cons.mpr ⟨neN (by dsimp only; omega), p3⟩⟩, fun p hp => .tail _ (psub p hp)⟩⟩
      · intro p hp
        simp only [List.mem_cons, hZ2] at hp ⊢
        rcases hp with h | h | h | h | h | h | h | h | h | h <;> simp only [h, true_or, or_true]
      · rw [← List.append_assoc, ← ovals_snoc]; rfl
      · have hx : (rem1.map (fun q => some q.2) ++ [none, none] : List (Option TD))[i]? = some (some rem1[i].2) := by
          rw [List.getElem?_append_left (by simpa using hlt2)]
          simp [hlt2]
        rw [List.take_add_one, hx, List.map_append, he]; rfl
      · rw [← List.append_assoc]; exact (ha.mono fun p hp => .tail _ hp).snoc_some ⟨kk1, kk2, kk3, kk4, kk5, .head _⟩ (hok1 rem1[i] (List.getElem_mem hlt2))
  · intro m₁ news₁ h tk hJ F1 N1
    dsimp only
    have e : j.toNat = rem1.length + 2 := by omega
    rw [e] at hJ
    (k_steps; all_goals (try k_data))
    all_goals (exact ret _ _ _ _ hJ (by k_asm) (by k_asm))
end

end

section
set_option linter.unusedVariables false
set_option linter.unusedSimpArgs false
variable {w : World} {p : Program} {loose : List Str} {mean : ExcName → Option Value} {mg mb : Str → Option Value}


section
variable {gd : Option (List Code)} {A₀ : Around} {outer : List Env} {base h₀ : Heap} {L : Addr} {m : Str → Option Value} {s : Shared}
  {S D BUF it ML : Addr} {k : FeK} {tp tm : Tok} {lo hi n0 : Nat} {ot Z : List (Addr × Obj)} {rem0 : List (Addr × TD)}
theorem ln_all {Q : Flow → Shared → Prop}
  (B : Below A₀ base outer h₀) (F : Fr h₀ L s.heap m) (X : (hd.heap_1 w.params).In h₀) (TT : Top p loose mean mg mb h₀) (h1 : m (Str.ofString "reader") = some (.ref S)) (h3 : m (Str.ofString "most") = some (.int n0 tm)) (c4 : @LE.le Nat _ lo D) (c5 : @LT.lt Nat _ D S) (c6 : @LT.lt Nat _ S hi) (hhi : ∃ p ∈ Z, hi = p.1 + 1)
  (RD : RdX lo hi S D BUF it ML ot Z rem0) (hn : rem0.length ≤ n0) (hn0 : n0 ≤ 50) (N : News h₀ L s.heap ((S, instObj 67 D) :: (D, feDict k BUF it ML false 0 tp) :: Z))
  (ret : ∀ ll cs nl ot' m' h' tk', (ll, W.listOf (rowsVal cs).toArray nl) ∈ ot' → LinesIn (InL ot') cs → cs.map (fun q => tds q.2.2) = cutT (tds rem0) → (∀ p ∈ ot, p ∈ ot') → Fr h₀ L h' m' → News h₀ L h' ot' → Q (.ret (.ref ll)) {s with heap := h', toks := tk'}) :
  wpAny (model prog w) (lnA gd L outer) (execs lnBody (lnEnv L)) Q (fun _ _ => False) s := by
  show wpAny (model prog w) (lnA gd L outer) (execs (_ :: lnBody.drop 1) _) _ _ _
  refine execs_split (ln_a B F X TT h1 h3 N ?_)
  intro ll m1 h' tk' hlt lL F' N'
  dsimp only
  have hltZ : ∀ p ∈ Z, @LT.lt Nat _ p.1 ll := fun p hp => hlt p (.tail _ (.tail _ hp))
  have c7 : @LE.le Nat _ hi ll := by
    obtain ⟨p, hp, e⟩ := hhi
    have := hltZ p hp
    omega
  have hoff : ∀ p ∈ ot, p.1 ≠ ll := fun p hp => Nat.ne_of_lt (ot_hi RD hltZ p hp)
  have hT0 : (tds rem0).length ≤ n0 := by simpa [tds] using hn
  have fin : ∀ (n : Nat) (m2 : Str → Option Value) (h2 : Heap) (tk2 : Nat) (news : List (Addr × Obj)), Fr h₀ L h2 m2 → News h₀ L h2 news → OutJ S D BUF it ML ll k tp tm lo hi n0 (tds rem0) ot n m2 news → wpAny (model prog w) (lnA gd L outer) (execs (lnBody.drop 2) (lnEnv L)) Q (fun _ _ => False) { s with heap := h2, toks := tk2 } := by
    intro n m2 h2 tk2 news F2 N2 J2
    show wpAny (model prog w) (lnA gd L outer) (execs (.While oTest oBody [] _ :: lnBody.drop 3) _) _ _ _
    refine wpAny_execs_cons (out_loop B F2 X TT c4 c5 c6 c7 hT0 hn0 N2 J2 ?_)
    intro cs nl ot' Z' m3 h3 tk3 lL3 RD3 hcs hsub he F3 N3
    dsimp only
    have N4 : News h₀ L h3 ((ll, W.listOf (rowsVal cs).toArray nl) :: ot') := News.sub N3 fun p hp => by
      rcases List.mem_cons.mp hp with h | h
      · rw [h]; exact .head _
      · exact .tail _ (.tail _ (.tail _ (RD3.sub _ _ h)))
    refine ln_ret B F3 X TT lL3 N4 ?_
    intro m4 h4 tk4 F4 N5
    exact ret ll cs nl _ m4 h4 tk4 (.head _) (hcs.mono fun a o z => .tail _ z) he (fun p hp => .tail _ (hsub p hp)) F4 N5
  show wpAny (model prog w) (lnA gd L outer) (execs (_ :: lnBody.drop 2) _) _ _ _
  rcases rem0 with _ | ⟨q, rem⟩
  · refine execs_split (ln_b_end B F' X TT lL c4 c5 c6 c7 RD N' ?_)
    intro Z' m2 h2 tk2 RD2 lL2 mt F2 N2
    exact fin 0 m2 h2 tk2 _ F2 N2 ⟨[], 0, [], ot, Z', [], lL2, rfl, RD2, (fun _ h => nomatch h), hoff, fun _ h => h, rfl, Nat.le_refl _, .inl ⟨mt, rfl, rfl, rfl⟩⟩
  · have hq : TokP (InL ot) q.1 q.2 := by
      obtain ⟨_, _, _, _, h⟩ := RD
      exact (h q (.head _)).mono fun a o z => z.1
    refine execs_split (ln_b_go B F' X TT lL c4 c5 c6 c7 RD N' ?_)
    intro Z' m2 h2 tk2 RD2 lL2 mt F2 N2
    exact fin (rem.length + 1) m2 h2 tk2 _ F2 N2 ⟨[], 0, rem, ot, Z', [], lL2, rfl, RD2, (fun _ h => nomatch h), hoff, fun _ h => h, rfl, Nat.le_refl _, .inr ⟨q, mt, hq, rfl, rfl, .inl rfl⟩⟩
end
section
variable {gd : Option (List Code)} {A A₀ : Around} {env : Env} {outer : List Env} {base h₀ : Heap} {L : Addr} {m : Str → Option Value} {s : Shared} {R : Result → Shared → Prop}
  {S D BUF it ML : Addr} {k : FeK} {tp tm : Tok} {lo hi n0 : Nat} {ot Z : List (Addr × Obj)} {rem0 : List (Addr × TD)}
theorem lines_spec
  (B : Below A₀ base outer h₀) (F : Fr h₀ L s.heap m) (X : (hd.heap_1 w.params).In h₀) (TT : Top p loose mean mg mb h₀) (hA : Fits A 450 4500 env outer L) (c4 : @LE.le Nat _ lo D) (c5 : @LT.lt Nat _ D S) (c6 : @LT.lt Nat _ S hi) (hhi : ∃ p ∈ Z, hi = p.1 + 1)
  (RD : RdX lo hi S D BUF it ML ot Z rem0) (hn : rem0.length ≤ n0) (hn0 : n0 ≤ 50) (N : News h₀ L s.heap ((S, instObj 67 D) :: (D, feDict k BUF it ML false 0 tp) :: Z))
  (ret : ∀ ll cs nl ot' h' tk', (ll, W.listOf (rowsVal cs).toArray nl) ∈ ot' → LinesIn (InL ot') cs → cs.map (fun q => tds q.2.2) = cutT (tds rem0) → (∀ p ∈ ot, p ∈ ot') → Fr h₀ L h' m → News h₀ L h' ot' → R (.ok (.ret (.ref ll))) {s with heap := h', toks := tk'}) :
  codeAny (model prog w) A (.call (.ref 294) ⟨[.ref S, .int n0 tm], []⟩) R s := by
  refine codeAny_fits hA fun hf hke => ?_
  k_dflt (refine' code_defE ?k1 ?k2 ?k3 ?k4 ?k5 ?kA ?kF ?kK ?k6 ?k7 ?k8 ?k9 ?kB ?_ ?c2 ?c3 ?c4 ?c5; (case kA => exact rfl); (case kF => first | assumption | exact rfl); (case kK => first | assumption | exact rfl); (case k1 => k_asm); (case k2 => k_asm); (case k3 => k_asm); (case k4 => k_asm); (case k5 => k_asm); (case k6 => k_is); (case k7 => k_is); (case k8 => ktr_room); (case k9 => exact BindsTo.of_eq rfl); (case c5 => decide); (case kB => exact locs rfl); (case c2 => exact rfl); (case c3 => exact rfl); (case c4 => exact rfl); k_whole; intro g' L' h' FG' F' N' B' X' T' l1 hk1 hg1 hn1; (try dsimp only); (try k_fold))
  refine wpAny_mono (ln_all (h₀ := g') (Q := qk) (tm := tm) (n0 := n0) (k := k) (tp := tp) (by k_asm) (by k_asm) (by k_asm) (by k_asm) rfl rfl c4 c5 c6 hhi RD hn hn0 (by k_asm) ?_) (fun _ _ q => q) (fun _ _ e => e.elim)
  intro ll cs nl ot' m8 h8 tk8 a1 a2 a3 a4 F8 N8
  refine leaveK_ F8 N8 fun kF kN hx => ?_
  exact ret ll cs nl ot' _ _ a1 a2 a3 a4 kF kN
end

end

section
set_option linter.unusedVariables false
set_option linter.unusedSimpArgs false
variable {w : World} {p : Program} {loose : List Str} {mean : ExcName → Option Value} {mg mb : Str → Option Value}


section
variable {prog : Program} {w : World} {A : Around} {E : Value → Shared → Prop} {s : Shared} {h₀ : Heap} {L a b : Addr} {news : List (Addr × Obj)} {n n2 : Nat} {Q : Value → Shared → Prop}
theorem cmp_ans {gq dq : List An} (N : News h₀ L s.heap news) (m1 : (a, W.listOf (ovals gq).toArray n) ∈ news) (m2 : (b, W.listOf (ovals dq).toArray n2) ∈ news) (g : GD news gq dq) (hok : ∀ o ∈ gq.map strip, ∀ D, o = some D → D.Ok) (hu : A.units + 64 < cLine)
    (h : Q (.bool true) s) : wpAny (model prog w) A (compareOp .Eq (.ref a) (.ref b)) Q E s := by
  obtain ⟨as, r1⟩ := reads_ans N m1 g.2.1
  obtain ⟨bs, r2⟩ := reads_ans N m2 g.2.2
  rw [← g.1] at r2
  have hl := lay_list (l := (gq.map strip).map anD) (n := 1) fun d hd => by
    obtain ⟨o, ho, rfl⟩ := List.mem_map.mp hd
    exact anD_lay (hok o ho)
  refine eq_dataH r1 r2 (shaped_of ⟨hl.1, by omega⟩) (shaped_of ⟨hl.1, by omega⟩) hu ?_
  rw [list_eqv fun d hd => by obtain ⟨o, _, rfl⟩ := List.mem_map.mp hd; exact anD_eqv o]
  exact h
theorem cmp_lines {ot' : List (Addr × Obj)} {cs cs2 : List RowR} {T0 : List TD} (N : News h₀ L s.heap ot') (hs : ∀ p ∈ news, p ∈ ot') (m1 : (a, W.listOf (rowsVal cs).toArray n) ∈ ot') (c1 : LinesIn (InL ot') cs) (e1 : cs.map (fun q => tds q.2.2) = cutT T0)
    (m2 : (b, W.listOf (rowsVal cs2).toArray n2) ∈ news) (c2 : LinesIn (InL news) cs2) (e2 : cs2.map (fun q => tds q.2.2) = cutT T0) (hok : ∀ l ∈ cutT T0, ∀ D ∈ l, D.Ok) (hu : A.units + 64 < cLine)
    (h : Q (.bool true) s) : wpAny (model prog w) A (compareOp .Eq (.ref a) (.ref b)) Q E s := by
  obtain ⟨as, r1⟩ := reads_lines (P := InL ot') N m1 c1
  obtain ⟨bs, r2⟩ := reads_lines (P := InL ot') N (hs _ m2) (c2.mono fun _ _ z => hs _ z)
  have e1' : (cs.map fun q => lineD (tds q.2.2)) = (cutT T0).map lineD := by rw [← e1, List.map_map]; rfl
  have e2' : (cs2.map fun q => lineD (tds q.2.2)) = (cutT T0).map lineD := by rw [← e2, List.map_map]; rfl
  rw [e1'] at r1
  rw [e2'] at r2
  have hl := lay_list (l := (cutT T0).map lineD) (n := 2) fun d hd => by
    obtain ⟨o, ho, rfl⟩ := List.mem_map.mp hd
    exact lineD_lay (hok o ho)
  refine eq_dataH r1 r2 (shaped_of ⟨hl.1, by omega⟩) (shaped_of ⟨hl.1, by omega⟩) hu ?_
  rw [list_eqv fun d hd => by obtain ⟨o, _, rfl⟩ := List.mem_map.mp hd; exact lineD_eqv o]
  exact h
end
local macro_rules | `(tactic| walk_at "call ref") => `(tactic| (k_here; (with_reducible show wpAny _ _ (call (Value.ref 280) [Value.ref _, Value.ref _]) _ _ _); k_dflt (refine wpAny_call ?_; refine' reader_any ?hr ?_ ?_ ?_ ?_ ?_ ?N ?hm ?hsb ?hok ?hne ?hab ?_; walk_at "kstd"; (case N => k_asm); (case hok => assumption); (case hm => assumption); (case hsb => exact fun _ h => h); (case hne => assumption); (case hab => assumption); (case hr => assumption); k_whole; unfold RdRet; intro S' D' k' BUF' it' ML' tp' lo' hi' Z' h' tk' RD' lo9' hi9' ld' ds' sh' F' N9'; (have N' := News.cut N9'); (clear N9'); (try dsimp only))))
local macro_rules | `(tactic| walk_at "call builtin:len") => `(tactic| (k_here; (with_reducible show wpAny _ _ (call (Value.builtin "len") [Value.ref _]) _ _ _); k_dflt (refine' li_len (News.get ?N (.tail _ (.tail _ (RdX.sub ?RD _ _ ?mf)))) ?k2 ?k3 ?_; (case N => k_asm); (case RD => assumption); (case mf => assumption); (case k2 => assumption); (case k3 => omega); k_whole; (intro tl' tk'))))
local macro_rules | `(tactic| walk_at "call ref") => `(tactic| (k_here; (with_reducible show wpAny _ _ (call (Value.ref 294) [Value.ref _, Value.int _ _]) _ _ _); k_dflt (refine wpAny_call ?_; refine' lines_spec ?_ ?_ ?_ ?_ ?_ ?c4 ?c5 ?c6 ?hhi ?RD ?hn ?hn50 ?N ?_; walk_at "kstd"; (case RD => assumption); (case c4 => assumption); (case c5 => assumption); (case c6 => assumption); (case hhi => assumption); (case hn => assumption); (case hn50 => assumption); (case N => k_asm); k_whole; intro ll' cs' nl' ot' h' tk' ml' li' he' sub' F' N'; (try dsimp only))))
local macro_rules | `(tactic| walk_at "compareOp Eq ref ref") => `(tactic| (k_here; (with_reducible show wpAny _ _ (compareOp CmpOp.Eq (Value.ref _) (Value.ref _)) _ _ _); k_dflt (first
  | (refine' cmp_ans ?N ?m1 ?m2 ?g ?ok ?u ?_; (case m1 => assumption); (case m2 => assumption); (case g => assumption); (case ok => assumption); (case N => k_asm); (case u => exact Nat.le_of_ble_eq_true rfl); k_whole; (try dsimp only))
  | (refine' cmp_lines ?N ?hs ?m1 ?c1 ?e1 ?m2 ?c2 ?e2 ?ok ?u ?_; (case N => k_asm); (case m1 => assumption); (case c1 => assumption); (case e1 => assumption); (case hs => assumption); (case m2 => assumption); (case c2 => assumption); (case e2 => assumption); (case ok => assumption); (case u => exact Nat.le_of_ble_eq_true rfl); k_whole; (try dsimp only)))))

section
variable {gd : Option (List Code)} {A₀ : Around} {outer : List Env} {base h₀ : Heap} {L fa : Addr} {cd : Value} {m : Str → Option Value} {s : Shared} {Q : Flow → Shared → Prop} {E : Value → Shared → Prop}
  {T rl fl S0 g u ca : Addr} {nrl ng nu nf nc n0 : Nat} {fus rem0 : List (Addr × TD)} {news : List (Addr × Obj)} {b0 : RowR} {recs cs2 : List RowR} {gq dq : List An}
theorem law_s14 (hr : recs.length ≤ 2)
  (B : Below A₀ base outer h₀) (F : Fr h₀ L s.heap m) (X : (hd.heap_1 w.params).In h₀) (TT : Top p loose mean mg mb h₀) (lA : LocA m T rl b0.1 fl S0 g u) (hmc : m (Str.ofString "cut") = some (.ref ca)) (N : News h₀ L s.heap news)
  (hm : (rl, W.listOf (rowsVal recs).toArray nrl) ∈ news) (hok : RowsOk (InL news) (b0 :: recs)) (hne : ∀ q ∈ b0 :: recs, rl ≠ q.1) (hab : ∃ p ∈ news, ∀ q ∈ b0 :: recs, @LT.lt Nat _ q.1 p.1)
  (mg9 : (g, W.listOf (ovals gq).toArray ng) ∈ news) (mu9 : (u, W.listOf (ovals dq).toArray nu) ∈ news) (gd9 : GD news gq dq) (hokD : ∀ o ∈ gq.map strip, ∀ D, o = some D → D.Ok)
  (mf : (fl, W.listOf (refs fus).toArray nf) ∈ news) (hfl : (refs fus).length = n0) (hn50 : n0 ≤ 50) (hlen : (flatR (recs.reverse ++ [b0])).length ≤ n0)
  (mc : (ca, W.listOf (rowsVal cs2).toArray nc) ∈ news) (c2 : LinesIn (InL news) cs2) (e2 : cs2.map (fun q => tds q.2.2) = cutT (tds (flatR (recs.reverse ++ [b0])))) (hokL : ∀ l ∈ cutT (tds (flatR (recs.reverse ++ [b0]))), ∀ D ∈ l, D.Ok)
  (ret : ∀ h' tk' m' news', Fr h₀ L h' m' → News h₀ L h' news' → Q (.ret (.bool true)) {s with heap := h', toks := tk'}) :
  wpAny (model prog w) (lawA gd L fa cd outer) (execs (lawAt 14) (lawEnv L fa cd)) Q E s := by
  obtain ⟨a1, a2, a3, a4, a5, a6, a7⟩ := lA
  show wpAny _ _ (execs (_ :: []) _) _ _ _
  k_steps
  all_goals (try k_data)
  all_goals (exact ret _ _ _ _ (by k_asm) (by k_asm))
end

end

section
set_option linter.unusedVariables false
set_option linter.unusedSimpArgs false
variable {w : World} {p : Program} {loose : List Str} {mean : ExcName → Option Value} {mg mb : Str → Option Value}

section
variable {gd : Option (List Code)} {A₀ : Around} {outer : List Env} {base h₀ : Heap} {L fa a : Addr} {cd : Value} {m : Str → Option Value} {s : Shared} {Q : Flow → Shared → Prop} {vs : List Value} {ns : List Int}
theorem cut_ok {l : List TD} (h : ∀ D ∈ l, D.Ok) : ∀ x ∈ cutT l, ∀ D ∈ x, D.Ok := by
  have key : ∀ (l : List TD) (acc : List (List TD)), (∀ D ∈ l, D.Ok) → (∀ x ∈ acc, ∀ D ∈ x, D.Ok) → ∀ x ∈ l.foldl stepT acc, ∀ D ∈ x, D.Ok := by
    intro l
    induction l with
    | nil => intro acc _ h; exact h
    | cons t l ih =>
      intro acc h1 h2
      rw [List.foldl_cons]
      refine ih _ (fun D hD => h1 D (.tail _ hD)) ?_
      have ht := h1 t (.head _)
      intro x hx D hD
      unfold stepT at hx
      split at hx
      · rcases List.mem_append.mp hx with z | z
        · exact h2 x z D hD
        · rw [List.mem_singleton.mp z] at hD
          rw [List.mem_singleton.mp hD]; exact ht
      · rcases List.mem_append.mp hx with z | z
        · exact h2 x (List.dropLast_subset _ z) D hD
        · rw [List.mem_singleton.mp z] at hD
          rcases List.mem_append.mp hD with y | y
          · cases hl : acc.getLast? with
            | none => rw [hl] at y; cases y
            | some w =>
              rw [hl] at y
              exact h2 w (List.mem_of_getLast? hl) D y
          · rw [List.mem_singleton.mp y]; exact ht
  exact key l [] h (fun _ h => nomatch h)
theorem law_all
  (B : Below A₀ base outer h₀) (F : Fr h₀ L s.heap m) (X : (hd.heap_1 w.params).In h₀) (TT : Top p loose mean mg mb h₀) (hm1 : m (Str.ofString "script") = some (.ref a)) (hl : h₀.IsList a vs.toArray) (hi : IntsAre vs ns) (hlen : ns.length ≤ 63) (N : News h₀ L s.heap [])
  (ret : ∀ h' tk' m' news', Fr h₀ L h' m' → News h₀ L h' news' → Q (.ret (.bool true)) {s with heap := h', toks := tk'}) :
  wpAny (model prog w) (lawA gd L fa cd outer) (execs lawBody (lawEnv L fa cd)) Q (fun _ _ => False) s := by
  -- S0
  show wpAny (model prog w) (lawA gd L fa cd outer) (execs (_ :: lawBody.drop 1) _) _ _ _
  refine execs_split (law_s0 B F X TT hm1 hl hi hlen N ?_)
  intro T r o its ns' rn t3 h1 tk1 c1 F1 N1 ho1 hi1 hl1
  dsimp only
  -- S1
  show wpAny (model prog w) (lawA gd L fa cd outer) (execs (_ :: lawBody.drop 2) _) _ _ _
  refine execs_split (law_s1 (rest := []) B F1 X TT rfl trivial c1 (fun _ h => nomatch h) N1 ho1 hi1 hl1 (Int.le_refl _) (by decide) ?_)
  intro bl nb toks RW o2 k2 t2 h2 tk2 k20 k29 tl1 tl8 hb2 oT2 or2 _ F2 N2 ho2
  dsimp only
  have hk2 : k2 ≤ 9 := by omega
  -- S2
  show wpAny (model prog w) (lawA gd L fa cd outer) (execs (_ :: lawBody.drop 3) _) _ _ _
  have oT2' : ∀ p ∈ RW ++ [], p.1 ≠ T := by rw [List.append_nil]; exact oT2
  have or2' : ∀ p ∈ RW ++ [], p.1 ≠ r := by rw [List.append_nil]; exact or2
  refine execs_split (law_s2 B F2 X TT oT2' N2 ?_)
  intro rl h3 tk3 hTrl hrrl hRrl F3 N3
  dsimp only
  -- S3
  show wpAny (model prog w) (lawA gd L fa cd outer) (execs (_ :: lawBody.drop 4) _) _ _ _
  refine execs_split (law_s3 (b0 := (bl, nb, toks)) B F3 X TT rfl rfl rfl c1 hrrl oT2' or2' (fun p hp => Nat.ne_of_lt (hRrl p hp)) N3 ho2 (hb2.mono fun a o z => List.mem_append_left _ z) hi1 hl1 k20 (by omega) ?_)
  rintro j m4 news4 h4 tk4 hj ⟨o4, t4, k4, recs, nrl, R4, e1, e2, e3, rfl, hlr, hk40, hk49, ho4, hok4, hr3, q1, q2, q3⟩ F4 N4
  dsimp only
  have hrl2 : recs.length ≤ 2 := by omega
  -- S4
  show wpAny (model prog w) (lawA gd L fa cd outer) (execs (_ :: lawBody.drop 5) _) _ _ _
  refine execs_split (law_s4 B F4 X TT N4 ?_)
  intro fl h5 tk5 hTfl hrfl hrlfl hRfl F5 N5
  dsimp only
  -- S5
  show wpAny (model prog w) (lawA gd L fa cd outer) (execs (_ :: lawBody.drop 6) _) _ _ _
  have hl8 : ∀ q ∈ ((bl, nb, toks) : RowR) :: recs, q.2.2.length ≤ 8 := List.forall_mem_cons.mpr ⟨tl8, fun q hq => by have := hr3 q hq; omega⟩
  refine execs_split (law_s5 (nrl := nrl) (b0 := (bl, nb, toks)) (rest := (T, o4) :: (r, W.listOf its.toArray rn) :: R4) hrl2 B F5 X TT e2 e3 rfl (Nat.ne_of_lt hrlfl) (List.forall_mem_cons.mpr ⟨Nat.ne_of_lt hTfl, List.forall_mem_cons.mpr ⟨Nat.ne_of_lt hrfl, fun p hp => Nat.ne_of_lt (hRfl p hp)⟩⟩) (hok4.mono fun a o z => .tail _ (.tail _ z)) hl8 (News.sub N5 ?_) ?_)
  · intro p hp
    first
    | (revert hp; revert p; (repeat (first | exact List.forall_mem_nil _ | refine List.forall_mem_cons.mpr ⟨by k_mem, ?_⟩ | (intro p hp; repeat (first | exact hp | refine List.mem_cons_of_mem _ ?_)))); done)
    | (simp only [List.mem_cons] at hp ⊢
       rcases hp with h | h | h | h | h <;> simp only [h, true_or, or_true])
  intro m6 fus nf new h6 tk6 g1 g2 g3 g4 hfu hft nfl nrl9 noff F6 N6
  dsimp only
  -- S6
  show wpAny (model prog w) (lawA gd L fa cd outer) (execs (_ :: lawBody.drop 7) _) _ _ _
  let sub : List (Addr × Obj) := (rl, W.listOf (rowsVal recs).toArray nrl) :: (new ++ R4)
  have hsubR : ∀ p ∈ R4, p ∈ sub := fun p hp => .tail _ (List.mem_append_right _ hp)
  have hokS : RowsOk (InL sub) (((bl, nb, toks) : RowR) :: recs) := hok4.mono fun a o z => hsubR _ z
  have hneS : ∀ q ∈ ((bl, nb, toks) : RowR) :: recs, rl ≠ q.1 := fun q hq e => q3 _ (hok4.1 q hq).1 e.symm
  have N6' : News h₀ L h6 ((T, o4) :: (r, W.listOf its.toArray rn) :: (fl, W.listOf (refs fus).toArray nf) :: sub) := News.sub N6 fun p hp => by
    simp only [sub, List.mem_cons, List.mem_append] at hp ⊢
    rcases hp with h | h | h | h | h | h <;> simp only [h, true_or, or_true]
  refine execs_split (law_s6 (b0 := (bl, nb, toks)) (sub := sub) hrl2 B F6 X TT (g2.trans e2) (g3.trans e3) N6' (.tail _ (.tail _ (.tail _ (.head _)))) (fun p hp => .tail _ (.tail _ (.tail _ hp))) hokS hneS ⟨_, .tail _ (.tail _ (.head _)), fun q hq => hRfl _ (hok4.1 q hq).1⟩ ?_)
  intro S D k BUF it ML tp lo hi9 Z h7 tk7 RD7 hlo hhi c4 c5 c6 F7 N7
  dsimp only
  have hflo : @LT.lt Nat _ fl lo := hlo (fl, _) (.tail _ (.tail _ (.head _)))
  have hsublo : ∀ p ∈ sub, @LT.lt Nat _ p.1 lo := fun p hp => hlo p (.tail _ (.tail _ (.tail _ hp)))
  have N7' : News h₀ L h7 ((T, o4) :: (r, W.listOf its.toArray rn) :: (fl, W.listOf (refs fus).toArray nf) :: (S, instObj 67 D) :: (D, feDict k BUF it ML false 0 tp) :: Z) := News.sub N7 fun p hp => by
    simp only [List.mem_cons, List.mem_append] at hp ⊢
    rcases hp with h | h | h | h | h | h <;> simp only [h, true_or, or_true]
  -- S7
  show wpAny (model prog w) (lawA gd L fa cd outer) (execs (_ :: lawBody.drop 8) _) _ _ _
  refine execs_split (law_s7 B F7 X TT N7' ?_)
  intro g u t71 t72 h8 tk8 hg hgu F8 N8
  dsimp only
  have c7 : @LE.le Nat _ hi9 g := by
    obtain ⟨p, hp, e⟩ := hhi
    have := hg p (.tail _ (.tail _ (.tail _ (.tail _ (.tail _ hp)))))
    omega
  generalize hrem : flatR (recs.reverse ++ [((bl, nb, toks) : RowR)]) = rem0 at *
  have hfu0 : fus.map (·.2) = rem0.map (·.2) := by rw [hfu, ← hrem, flatR_of]
  have hl0 : rem0.length ≤ 24 := by
    rw [← hrem]
    unfold flatR
    rw [List.length_flatMap]
    have hb : ∀ x ∈ (recs.reverse ++ [((bl, nb, toks) : RowR)]).map (fun q => q.2.2.length), x ≤ 8 := by
      intro x hx
      obtain ⟨q, hq, rfl⟩ := List.mem_map.mp hx
      refine hl8 q ?_
      simp only [List.mem_append, List.mem_reverse, List.mem_singleton] at hq
      rcases hq with h | h
      · exact .tail _ h
      · rw [h]; exact .head _
    have hsum : ∀ (l : List Nat), (∀ x ∈ l, x ≤ 8) → l.sum ≤ 8 * l.length := by
      intro l
      induction l with
      | nil => intro _; simp
      | cons x l ih =>
        intro h
        have h1 := h x (.head _)
        have h2 := ih fun y hy => h y (.tail _ hy)
        rw [List.sum_cons, List.length_cons]
        omega
    have := hsum _ hb
    rw [List.length_map, List.length_append, List.length_reverse, List.length_singleton] at this
    omega
  have hokT : ∀ q ∈ rem0, q.2.Ok := by
    intro q hq
    rw [← hrem] at hq
    obtain ⟨r9, hr9, hq⟩ := flatR_mem hq
    refine ((hokS.1 r9 ?_).2 q hq).2
    simp only [List.mem_append, List.mem_reverse, List.mem_singleton] at hr9
    rcases hr9 with h | h
    · exact .tail _ h
    · rw [h]; exact .head _
  have hokF : ∀ q ∈ fus, q.2.Ok := by
    intro q hq
    have : q.2 ∈ rem0.map (·.2) := by rw [← hfu0]; exact List.mem_map_of_mem hq
    obtain ⟨y, hy, e⟩ := List.mem_map.mp this
    rw [← e]; exact hokT y hy
  have hfl0 : fus.length = rem0.length := by simpa using congrArg List.length hfu0
  have hftS : ∀ q ∈ fus, ToldP (InL sub) q.1 q.2 := fun q hq => (hft q hq).mono fun a o z => .tail _ (List.mem_append_left _ z)
  have hftL : ∀ q ∈ fus, ToldP (InLo sub lo) q.1 q.2 := fun q hq => (hftS q hq).mono fun a o z => ⟨z, hsublo _ z⟩
  have lA8 : LocA (fun y => if y = Str.ofString "due" then some (.ref u) else if y = Str.ofString "got" then some (.ref g) else if y = Str.ofString "place" then some (.int 0 t71) else if y = Str.ofString "depth" then some (.int 0 t72) else if y = Str.ofString "on" then some (.bool false) else if y = Str.ofString "reader" then some (.ref S) else m6 y) T rl bl fl S g u :=
    ⟨g1.trans e1, g2.trans e2, g3.trans e3, g4, rfl, rfl, rfl⟩
  have oS1 : ∀ p ∈ sub, p.1 ≠ T := List.forall_mem_cons.mpr ⟨(Nat.ne_of_lt hTrl).symm, off_app (noff _ (.head _)) q1⟩
  have oS2 : ∀ p ∈ sub, p.1 ≠ g := fun p hp => Nat.ne_of_lt (by have := hsublo p hp; omega)
  have oS3 : ∀ p ∈ sub, p.1 ≠ u := fun p hp => Nat.ne_of_lt (by have := hsublo p hp; omega)
  -- S8
  show wpAny (model prog w) (lawA gd L fa cd outer) (execs (_ :: lawBody.drop 9) _) _ _ _
  refine execs_split (law_s8 (fus := fus) (tp := tp) (rn := rn) (nf := nf) (T := T) (r := r) (rl := rl) (bA := bl) (fl := fl) (S := S) (D := D) (g := g) (u := u) (BUF := BUF) (it := it) (ML := ML) (k := k) (lo := lo) (hi := hi9) (ot0 := sub) (rem0 := rem0) B F8 X TT hi1 hl1 hk40 (by omega) c1 hrfl hflo c4 c5 c6 c7 hgu hokT (by omega) hfu0 hftL lA8 ⟨rfl, ⟨_, rfl⟩, ⟨_, rfl⟩⟩ (News.sub N8 ?_) ho4 RD7 oS1 oS2 oS3 (fun _ h => h) ?_)
  · intro p hp
    first
    | (revert hp; revert p; (repeat (first | exact List.forall_mem_nil _ | refine List.forall_mem_cons.mpr ⟨by k_mem, ?_⟩ | (intro p hp; repeat (first | exact hp | refine List.mem_cons_of_mem _ ?_)))); done)
    | (simp only [List.mem_cons] at hp ⊢
       rcases hp with h | h | h | h | h | h | h | h <;> simp only [h, true_or, or_true])
  rintro i9 m9 news9 h9 tk9 hi18 ⟨o9, t9, k9, on, dp, pl, tp9, gq, dq, ng, nu, ot, Z9, lA9, lV9, rfl, ho9, hk9, hd9, RD9, hpl, gdd, ⟨lg, ld⟩, ⟨o1, o2', o3⟩, osub⟩ F9 N9
  dsimp only
  -- S9
  show wpAny (model prog w) (lawA gd L fa cd outer) (execs (_ :: lawBody.drop 10) _) _ _ _
  refine execs_split (law_s9 (ng := 0) (nu := 0) B F9 X TT lA9 lV9 c1 hrfl hflo c4 c5 c6 c7 hgu RD9.offD.1 N9 ?_)
  intro m10 h10 tk10 lA10 lV10 F10 N10
  dsimp only
  -- S10
  show wpAny (model prog w) (lawA gd L fa cd outer) (execs (_ :: lawBody.drop 11) _) _ _ _
  have hrf : (refs fus).length = rem0.length := by simp [refs, hfl0]
  refine execs_split (law_s10 B F10 X TT c1 hrfl hflo c4 c5 c6 c7 hgu lA10 lV10 hrf hpl (by omega) (by rw [List.length_drop]) (by omega) (fun q hq => hokT q (List.drop_subset _ _ hq)) N10 RD9 o2' o3 gdd.2.1 ?_)
  rintro m11 news11 h11 tk11 ⟨ans, ng11, ot11, Z11, lA11, lV11, rfl, RD11, hans, hak, hal, ⟨p2, p3⟩, psub⟩ F11 N11
  dsimp only
  have hans2 : ans.map strip = (rem0.drop pl).map (fun q => some q.2) ++ [none, none] := by
    rw [hans, List.take_of_length_le (by simp)]
  -- S11
  show wpAny (model prog w) (lawA gd L fa cd outer) (execs (_ :: lawBody.drop 12) _) _ _ _
  have hZu := RD11.ne (.inr (by omega)) p3
  refine execs_split (law_s11 (fus := fus) (nf := nf) (nu := nu) (rest := (T, o9) :: (r, W.listOf its.toArray rn) :: (S, instObj 67 D) :: (D, feDict k BUF it ML false dp tp9) :: (g, W.listOf (ovals (gq ++ ans)).toArray ng11) :: Z11) B F11 X TT lA11 lV11 (by omega) ?_ (by omega) (by omega) (dv := (ovals dq).toArray) (by simp [ovals]; omega) (News.sub N11 ?_) ?_)
  · repeat (first | exact hZu | refine List.forall_mem_cons.mpr ⟨neN (by dsimp only; omega), ?_⟩)
  · intro p hp
    first
    | (revert hp; revert p; (repeat (first | exact List.forall_mem_nil _ | refine List.forall_mem_cons.mpr ⟨by k_mem, ?_⟩ | (intro p hp; repeat (first | exact hp | refine List.mem_cons_of_mem _ ?_)))); done)
    | (simp only [List.mem_cons] at hp ⊢
       rcases hp with h | h | h | h | h | h | h | h <;> simp only [h, true_or, or_true])
  intro nu12 m12 h12 tk12 lA12 lV12 F12 N12
  dsimp only
  let dq2 : List An := dq ++ ((fus.drop pl).map some ++ [none, none])
  have edq : (ovals dq).toArray ++ ((refs fus).drop pl ++ [Value.none, Value.none]).toArray = (ovals dq2).toArray := by
    simp only [dq2, ovals, refs, List.map_append, List.map_drop, List.map_map, List.append_toArray]
    rfl
  rw [edq] at N12
  -- S12
  let R13 : List (Addr × Obj) := (u, W.listOf (ovals dq2).toArray nu12) :: (g, W.listOf (ovals (gq ++ ans)).toArray ng11) :: ot11
  have N12' : News h₀ L h12 ((fl, W.listOf (refs fus).toArray nf) :: R13) := News.sub N12 fun p hp => by
    simp only [R13, List.mem_cons] at hp ⊢
    rcases hp with h | h | h | h
    · simp only [h, true_or, or_true]
    · simp only [h, true_or, or_true]
    · simp only [h, true_or, or_true]
    · simp only [RD11.sub _ _ h, true_or, or_true]
  show wpAny (model prog w) (lawA gd L fa cd outer) (execs (_ :: lawBody.drop 13) _) _ _ _
  refine execs_split (law_s12 B F12 X TT N12' ?_)
  intro ca h13 tk13 hca F13 N13
  dsimp only
  have subR : ∀ p ∈ sub, p ∈ R13 := fun p hp => .tail _ (.tail _ (psub p (osub p hp)))
  have lA13 : LocA (fun y => if y = Str.ofString "cut" then some (.ref ca) else m12 y) T rl bl fl S g u := lA12
  -- S13
  show wpAny (model prog w) (lawA gd L fa cd outer) (execs (_ :: lawBody.drop 14) _) _ _ _
  refine execs_split (law_s13 (fus := fus) (nf := nf) (ca := ca) (rest := R13) B F13 X TT lA13 rfl (Nat.ne_of_lt (hca _ (.head _))) (fun q hq => (hftS q hq).mono fun a o z => subR _ z) hokF (by omega) (fun p hp => Nat.ne_of_lt (hca p (.tail _ hp))) (News.sub N13 ?_) ?_)
  · intro p hp
    first
    | (revert hp; revert p; (repeat (first | exact List.forall_mem_nil _ | refine List.forall_mem_cons.mpr ⟨by k_mem, ?_⟩ | (intro p hp; repeat (first | exact hp | refine List.mem_cons_of_mem _ ?_)))); done)
    | (simp only [List.mem_cons] at hp ⊢
       rcases hp with h | h | h <;> simp only [h, true_or, or_true])
  intro m14 news14 h14 tk14 hJ F14 N14
  dsimp only
  obtain ⟨cs, nc, mf, mc, hlin, hcut, hokC, rsub, lA14, hmc⟩ := hJ.lines
  -- S14
  rw [List.take_of_length_le (Nat.le_refl _)] at hcut
  have htd : tds fus = tds rem0 := hfu0
  have e2' : cs.map (fun q => tds q.2.2) = cutT (tds rem0) := by
    rw [← htd, ← cutA_map, ← hcut, List.map_map]; rfl
  have hsn : ∀ p ∈ sub, p ∈ news14 := fun p hp => rsub p (subR p hp)
  have gd14 : GD news14 (gq ++ ans) dq2 := by
    refine ⟨?_, hak.mono fun p hp => rsub p (.tail _ (.tail _ hp)), ?_⟩
    · simp only [dq2, List.map_append, gdd.1, hans2]
      congr 2
      rw [List.map_map]
      have : (fus.drop pl).map (·.2) = (rem0.drop pl).map (·.2) := by rw [List.map_drop, List.map_drop, hfu0]
      have h2 := congrArg (List.map some) this
      rw [List.map_map, List.map_map] at h2
      exact h2.symm
    · intro z hz q e
      rcases List.mem_append.mp hz with h | h
      · exact ⟨(gdd.2.2 z h q e).1.mono fun a o y => rsub _ (.tail _ (.tail _ (psub _ y))), (gdd.2.2 z h q e).2⟩
      · rcases List.mem_append.mp h with h | h
        · obtain ⟨x, hx, rfl⟩ := List.mem_map.mp h
          cases e
          exact ⟨(hftS _ (List.drop_subset _ _ hx)).mono fun a o y => hsn _ y, hokF _ (List.drop_subset _ _ hx)⟩
        · simp only [List.mem_cons, List.not_mem_nil, or_false, or_self] at h
          rw [h] at e; cases e
  have hokA : ∀ o ∈ (gq ++ ans).map strip, ∀ D, o = some D → D.Ok := by
    intro o ho D e
    obtain ⟨z, hz, rfl⟩ := List.mem_map.mp ho
    cases z with
    | none => cases e
    | some q => cases e; exact (gd14.2.1 _ hz q rfl).2
  show wpAny (model prog w) (lawA gd L fa cd outer) (execs (lawAt 14) _) _ _ _
  refine law_s14 (b0 := (bl, nb, toks)) (n0 := rem0.length) hrl2 B F14 X TT lA14 hmc N14 (hsn _ (.head _)) (hokS.mono fun a o z => hsn _ z) hneS ⟨_, mf, fun q hq => hRfl _ (hok4.1 q hq).1⟩ (rsub _ (.tail _ (.head _))) (rsub _ (.head _)) gd14 hokA mf hrf (by omega) (by rw [hrem]; exact Nat.le_refl _) mc hlin (by rw [hrem]; exact e2') (by rw [hrem]; exact cut_ok fun D hD => by obtain ⟨q, hq, rfl⟩ := List.mem_map.mp hD; exact hokT q hq) ?_
  intro h15 tk15 m15 news15 F15 N15
  exact ret h15 tk15 m15 news15 F15 N15
end

end

/-- the whole, within the reach of the local rules -/
theorem all_in : PySem.Challenge.rw_rk0006_02.Holds := by
  refine hd ?_
  k_go0
  show wpAny (model prog _) _ (execs lawBody _) _ _ _
  refine wpAny_fits (d := 400) (u := 4000) (env := lawEnv _ _ _) (outer := []) (L := _) ⟨rfl, Nat.le_of_ble_eq_true rfl, Nat.le_of_ble_eq_true rfl, rfl, rfl, rfl⟩ fun _ _ => ?_
  refine wpAny_mono (law_all (by k_asm) (by k_asm) (by k_asm) (by k_asm) rfl (by assumption) (by assumption) (by omega) (by k_asm) fun h' tk' m' news' F' N' => ?_) (fun _ _ q => q) (fun _ _ e => e.elim)
  k_steps
end Mine
theorem PySem.Challenge.cw_rk0006_02_holds : PySem.Challenge.rw_rk0006_02.Holds := by
  exact Mine.all_in
