import PyProof.Rows.All
import Wide.All
import OpenK.AllK
import Wide.FinOn
import PySem.Challenge.RW_nq0271_01
set_option Elab.async false
set_option linter.all false
section
open PySem PySem.W PyProof.Rows
set_option Elab.async false
namespace Mine
set_option maxRecDepth 100000
set_option maxHeartbeats 0
noncomputable abbrev rowW : RowW := PySem.Challenge.rw_nq0271_01.row.toRowW
noncomputable def vw : Program := { rowW.prog with main := { rowW.prog.main with body := rowW.prog.main.body.take 1 ++ ((rowW.prog.main.body.drop 2).take 7 ++ ((rowW.prog.main.body.drop 10).take 5 ++ ((rowW.prog.main.body.drop 16).take 22 ++ (rowW.prog.main.body.drop 39).take 3))) } }
noncomputable def lo : List Str := [Str.ofString "_NodeInfo", Str.ofString "_filemode_table"]
noncomputable def lvv : List (Str × WData) := [(Str.ofString "_filemode_table", .tuple [
  .tuple [.tuple [.int 40960, .str ⟨#[108]⟩], .tuple [.int 49152, .str ⟨#[115]⟩], .tuple [.int 32768, .str ⟨#[45]⟩], .tuple [.int 24576, .str ⟨#[98]⟩], .tuple [.int 16384, .str ⟨#[100]⟩], .tuple [.int 8192, .str ⟨#[99]⟩], .tuple [.int 4096, .str ⟨#[112]⟩]],
  .tuple [.tuple [.int 256, .str ⟨#[114]⟩]], .tuple [.tuple [.int 128, .str ⟨#[119]⟩]],
  .tuple [.tuple [.int 2112, .str ⟨#[115]⟩], .tuple [.int 2048, .str ⟨#[83]⟩], .tuple [.int 64, .str ⟨#[120]⟩]],
  .tuple [.tuple [.int 32, .str ⟨#[114]⟩]], .tuple [.tuple [.int 16, .str ⟨#[119]⟩]],
  .tuple [.tuple [.int 1032, .str ⟨#[115]⟩], .tuple [.int 1024, .str ⟨#[83]⟩], .tuple [.int 8, .str ⟨#[120]⟩]],
  .tuple [.tuple [.int 4, .str ⟨#[114]⟩]], .tuple [.tuple [.int 2, .str ⟨#[119]⟩]],
  .tuple [.tuple [.int 513, .str ⟨#[116]⟩], .tuple [.int 512, .str ⟨#[84]⟩], .tuple [.int 1, .str ⟨#[120]⟩]]])]

theorem left_boot {p q : Program} {loose : List Str} {Xt : Shared → Bool} {α : Type} {Yf : Shared → α} {Ya : World → α} {N : Nat} {g0 : Bool}
    (e : opening p = plainProg p.main.scope.names) (hN : Nat.ble 600 N = true) (f : ∀ s, fenceModules? p s = some s)
    (hg : ∀ w : World, (boot_heap w.params).isNs mainGlobals = true)
    (h : ∀ (w : World) (os : OsState), ((topRun treeTable p w (boot_heap w.params).objs.size ((boot_heap w.params).nsMap mainGlobals "__annotations__") N ⟨boot_heap w.params, Array.mk [], boot_drawn, boot_toks, os⟩ (topStub p)).bind fun s₁ =>
        match staticsOk (importedModules p.main.body) (boot_heap w.params) s₁.heap && namesBound p s₁.heap && gensDone s₁ && laidKept (boot_heap w.params) s₁.heap with
        | true => some s₁
        | false => none).map (fun s => (openSeen q loose (importedModules p.main.body) Xt g0 s, Yf s)) = some (openGood q loose, Ya w)) : LeftO p q loose Xt Yf Ya N g0 := fun w => by
  obtain ⟨⟨h', gs, d, k, os⟩, e1, e2⟩ := Option.map_eq_some_iff.mp (boot_open e hN f w)
  obtain ⟨rfl, rfl, rfl, rfl⟩ : h' = boot_heap w.params ∧ gs = Array.mk [] ∧ d = boot_drawn ∧ k = boot_toks := by simpa using e2
  unfold openEnds
  rw [e1]
  show Option.map _ (topFrom _ _ _ _ _) = _
  unfold topFrom
  rw [show ((boot_heap w.params).isNs mainGlobals && (Array.mk [] : Array GenState).size == 0) = true from by rw [hg w]; rfl]
  exact h w os
local macro_rules | `(tactic| o_head $H) => do
  let hl := Lean.mkIdent `hl
  let hw := Lean.mkIdent `hw
  let hc := Lean.mkIdent `hc
  `(tactic| (refine holds_open (q := Mine.vw) (loose := Mine.lo) (Xt := fun s => xlAt Mine.vw Mine.lvv s && recOk (RowW.records Mine.rowW) s) (XP := XL Mine.vw Mine.lvv) (Yf := Hook.obs $H) (Ya := Hook.val $H) (YP := Hook.says $H) (N := 3648) ?$hl (Hook.of $H) (Hook.keeps $H) (fun s e => xl_of s (Bool.and_eq_true_iff.mp e).1) XL.keeps (by rfl) (by rfl) (by rfl) (fun s e => recFacts_of (Bool.and_eq_true_iff.mp e).2) (by rfl) (by first | assumption | decide +kernel) (by decide +kernel) ⟨rfl, rfl, rfl, rfl, rfl, by decide +kernel⟩ ?$hw ?$hc
             (case hl => (refine left_boot (by kernel_rfl) (by rfl) (by (intro s; kernel_rfl)) (by (intro w; kernel_rfl)) ?_; rw [Fast.te14082659384304107361, Fast.te14364793385576792824, Fast.te4187177175401517315, Fast.te5923862056798008813, Fast.te8920871248978507458]; (intro w os; kernel_rfl)))
             (try clear said)))
open_top topo for PySem.Challenge.rw_nq0271_01
end Mine
end

section
open PySem PySem.Calls PySem.W PyProof.Rows
set_option Elab.async false
namespace Mine
set_option maxRecDepth 100000
set_option maxHeartbeats 8000000

noncomputable def Halt (P : Prop) : Prop := P
theorem halt {P : Prop} (h : Halt P) : P := h

noncomputable abbrev AT (dp : Nat) (cn : Str) (cs : Scope) (L a : Addr) (ccd : Value) (cl : List (Str × Addr)) (outer : List Env) : Around :=
  { handled := none, depth := dp, frames := some (envX cn cs L a ccd cl :: outer), guards := some [], units := 4 * dp + 100 }

theorem in_lower {Γ : Ctx} {A A' : Around} (hd : A.depth ≤ A'.depth) (hu : A.units ≤ A'.units) (hh : A.handled = A'.handled) (hf : A.frames = A'.frames) (hg : A.guards = A'.guards) (h : Γ.In A) : Γ.In A' :=
  ⟨hh ▸ h.1, Nat.le_trans h.2.1 hd, fun l hl => h.2.2.1 l (hf ▸ hl), fun g hg' => h.2.2.2.1 g (hg ▸ hg'), Nat.le_trans h.2.2.2.2 hu⟩

theorem lower {α : Type} {M : Model} {A A' : Around} {t : Sem α} {Q : α → Shared → Prop} {E : Value → Shared → Prop} {s : Shared}
    (h : wpAny M A' t Q E s) (hd : A.depth ≤ A'.depth) (hu : A.units ≤ A'.units) (hh : A.handled = A'.handled) (hf : A.frames = A'.frames) (hg : A.guards = A'.guards) : wpAny M A t Q E s :=
  fun Γ p hΓ => h Γ p (in_lower hd hu hh hf hg hΓ)


/-- the post under a name: what is said of it stands once, not at every step -/
theorem wp_var {α : Type} {M : Model} {A : Around} {t : Sem α} {P : α → Shared → Prop} {E : Value → Shared → Prop} {s : Shared} (h : ∀ Q' : α → Shared → Prop, (∀ x s', P x s' → Q' x s') → wpAny M A t Q' E s) : wpAny M A t P E s := h P fun _ _ h => h
theorem wp_open {α : Type} {M : Model} {A : Around} {t : Sem α} {P : α → Shared → Prop} {E : Value → Shared → Prop} {s : Shared} (h : ∀ Q' : α → Shared → Prop, (∀ x s', P x s' → Q' x s') → wpAny M A t Q' (fun _ _ => False) s) : wpAny M A t P E s :=
  wpAny_mono (h P fun _ _ h => h) (fun _ _ h => h) fun _ _ h => h.elim
section
variable {prog : Program} {w : World} {A A₀ : Around} {s : Shared} {K : Frag} {L : Addr} {h₀ base : Heap} {m mg mb : Str → Option Value} {news : List (Addr × Obj)} {p : Program} {loose : List Str} {mean : ExcName → Option Value}
/-- a call of a def of the text: the ledger holds what the callee may turn; all else of the heap is kept -/
theorem enterF {env : Env} {outer : List Env} {R : Result → Shared → Prop} {name qual : Str} {params : Arguments} {body : List Stmt} {scope : Scope} {dV kV doc pm cdv ct oc : Value} {an od : Option Addr} {osl : Array (Option Value)} {f : Addr} {args : Args} {binds : List (Str × Value)}
    (B : Below A₀ base outer h₀) (F : Fr h₀ L s.heap m) (X₀ : K.In h₀) (N : News h₀ L s.heap news) (T : Top p loose mean mg mb h₀) (hA : A.frames = some (env :: outer)) (hf : env.frame = some L) (hke : env.scope.kind = .function)
    (ho : K.lookup f = some ⟨oc, od, .func (fnOf name qual params body scope dV kV doc pm an cdv ct), osl⟩) (hcd : codeIn K cdv qual = true) (hroom : A.depth < recursionLimit)
    (hbind : BindsTo s (fnOf name qual params body scope dV kV doc pm an cdv ct) args binds) (hloc : ∀ y ∈ binds, scope.names.lookup y.1 = some .local)
    (h : ∀ g L' h₁, Fr h₀ L g m → Fr g L' h₁ (fun y => binds.reverse.lookup y) → News g L' h₁ news → Below A base (env :: outer) g → K.In g → Top p loose mean mg mb g →
      (∀ b o, s.heap.get? b = some o → b ∉ news.map (·.1) → g.get? b = some o) → (∀ b o, g.get? b = some o → s.heap.get? b = some o) → (∀ p ∈ news, p.1 < L') →
      wpAny (model prog w) (A.deeper (envOf qual scope L' f cdv)) (execs body (envOf qual scope L' f cdv))
        (fun fl s' => LeaveK h₀ L m g R (match fl with | .ret v => v | _ => .none) s')
        (fun e s' => wpAny (model prog w) (A.deeper (envOf qual scope L' f cdv)) (leaving (envOf qual scope L' f cdv) e) (fun _ s'' => R (.error e) s'') (fun e' s'' => R (.error e') s'') s')
        { s with heap := h₁, toks := s.toks + binds.length })
    (hco : scope.isCoroutine = false) (hgen : scope.isGenerator = false) (hk : scope.kind = .function)
    (hcell : ∀ x ∈ scope.names, x.2 ≠ .cell) : codeAny (model prog w) A (.call (.ref f) args) R s := by
  obtain ⟨FG, BG, st, lv⟩ := groundX (R := R) B F N hA hf hke
  refine codeAny_call_def (fd := fnOf name qual params body scope dV kV doc pm an cdv ct) (body := body) (binds := binds) hroom ((X₀.keeps F.keep) _ _ ho) rfl (T.nolimit.keeps F.keep) (codeRec_of (X₀.keeps F.keep) hcd) rfl hbind hcell hloc (fun h₁ hns hk₁ => ?_) hco hgen hk
  refine wpAny_mono (h _ s.heap.objs.size h₁ FG ⟨hns, fun b o e => hk₁ b o (of_hideAll _ e), Nat.le_of_eq (hideAll_size _ _)⟩
    (fun p hp => ⟨hk₁ _ _ (N p hp).1, Nat.ne_of_lt (Heap.lt_size (N p hp).1), hideAll_none _ (List.mem_map_of_mem hp)⟩) BG (X₀.keeps st) (T.keeps st) (fun b o e hn => hideAll_get _ e hn) (fun b o e => of_hideAll _ e) (fun p hp => Heap.lt_size (N p hp).1)) (fun fl s' hl => lv _ _ hl) fun _ _ y => y

/-- as enterF, of a def with names that a comprehension or a def within takes -/
theorem enterC {env : Env} {outer : List Env} {R : Result → Shared → Prop} {name qual : Str} {params : Arguments} {body : List Stmt} {scope : Scope} {dV kV doc pm cdv ct oc : Value} {an od : Option Addr} {osl : Array (Option Value)} {f : Addr} {args : Args} {binds : List (Str × Value)}
    (B : Below A₀ base outer h₀) (F : Fr h₀ L s.heap m) (X₀ : K.In h₀) (N : News h₀ L s.heap news) (T : Top p loose mean mg mb h₀) (hA : A.frames = some (env :: outer)) (hf : env.frame = some L) (hke : env.scope.kind = .function)
    (ho : K.lookup f = some ⟨oc, od, .func (fnOf name qual params body scope dV kV doc pm an cdv ct), osl⟩) (hcd : codeIn K cdv qual = true) (hroom : A.depth < recursionLimit)
    (hbind : BindsTo s (fnOf name qual params body scope dV kV doc pm an cdv ct) args binds) (hkind : (binds.all fun y => scope.names.lookup y.1 == some .local || scope.names.lookup y.1 == some .cell) = true)
    (hnd : ((cellsFrom 0 scope.names []).map (·.1)).Nodup)
    (h : ∀ g L' h₁ tk cells, Fr h₀ L g m → Fr g L' h₁ (bindL (envOfC qual scope L' f cdv).kindOf binds fun _ => none) → News g L' h₁ (cells ++ news) →
      CellsAre (bindC (envOfC qual scope L' f cdv).kindOf binds fun _ => none) (cellsFrom (L' + 1) scope.names []) cells → Below A base (env :: outer) g → K.In g → Top p loose mean mg mb g →
      (∀ b o, s.heap.get? b = some o → b ∉ news.map (·.1) → g.get? b = some o) → (∀ b o, g.get? b = some o → s.heap.get? b = some o) → (∀ p ∈ news, p.1 < L') →
      wpAny (model prog w) (A.deeper (envOfC qual scope L' f cdv)) (execs body (envOfC qual scope L' f cdv))
        (fun fl s' => LeaveK h₀ L m g R (match fl with | .ret v => v | _ => .none) s')
        (fun e s' => wpAny (model prog w) (A.deeper (envOfC qual scope L' f cdv)) (leaving (envOfC qual scope L' f cdv) e) (fun _ s'' => R (.error e) s'') (fun e' s'' => R (.error e') s'') s')
        { s with heap := h₁, toks := tk })
    (hco : scope.isCoroutine = false) (hgen : scope.isGenerator = false) (hk : scope.kind = .function) : codeAny (model prog w) A (.call (.ref f) args) R s := by
  obtain ⟨FG, BG, st, lv⟩ := groundX (R := R) B F N hA hf hke
  have kx := kindsX hkind
  refine codeAny_call_function (fd := fnOf name qual params body scope dV kV doc pm an cdv ct) (body := body) hroom ((X₀.keeps F.keep) _ _ ho) rfl hco hgen rfl (codeRec_of (X₀.keeps F.keep) hcd) (hbind _ _ _ _ ?_)
  refine wpAny_newFunctionEnv_cells hk (kx _) fun env' he s' x => ?_
  subst he
  refine ⟨(T.nolimit.keeps F.keep).keeps x.toInCall.keep, codeAny_func ?_⟩
  obtain ⟨h₁, tk, rfl, _⟩ := x.done
  have hk₁ := x.toInCall.keep
  obtain ⟨cells, NC, Y⟩ := Cl.news (h₀ := s.heap) (Nat.le_refl _) fun n c hm => ⟨x.cell n c (lookup_of_mem_nodup (cellsFrom_names scope.names 0 (s.heap.objs.size + 1) [] [] rfl ▸ hnd) hm), x.above n c hm⟩
  refine wpAny_mono (h _ s.heap.objs.size h₁ tk cells FG ⟨x.toInCall.ns, fun b o e => hk₁ b o (of_hideAll _ e), Nat.le_of_eq (hideAll_size _ _)⟩ (fun p hp => ?_) Y BG (X₀.keeps st) (T.keeps st) (fun b o e hn => hideAll_get _ e hn) (fun b o e => of_hideAll _ e) (fun p hp => Heap.lt_size (N p hp).1)) (fun fl s' hl => lv _ _ hl) fun _ _ y => y
  rcases List.mem_append.mp hp with hp | hp
  · refine ⟨(NC p hp).1, (NC p hp).2.1, ?_⟩
    cases q : (hideAll s.heap (news.map (·.1))).get? p.1 with
    | none => rfl
    | some o => have := of_hideAll _ q; rw [(NC p hp).2.2] at this; cases this
  · exact ⟨hk₁ _ _ (N p hp).1, Nat.ne_of_lt (Heap.lt_size (N p hp).1), hideAll_none _ (List.mem_map_of_mem hp)⟩
end
end Mine
end

section
open PySem PySem.W PyProof.Rows
set_option Elab.async false
namespace Mine
set_option maxRecDepth 100000
set_option maxHeartbeats 3000000

/-- the sorter's own dict -/
noncomputable abbrev sdict (P : Params) (nd : Addr) (rv : Value) (np nf : Int) (t1 t2 t3 t4 t5 t6 : Tok) (n : Nat) : Obj := dictOf [⟨PyData.keyHash P (Str.ofString "_node2info"), .str (Str.ofString "_node2info") t1, .ref nd⟩, ⟨PyData.keyHash P (Str.ofString "_ready_nodes"), .str (Str.ofString "_ready_nodes") t2, rv⟩, ⟨PyData.keyHash P (Str.ofString "_npassedout"), .str (Str.ofString "_npassedout") t3, .int np t5⟩, ⟨PyData.keyHash P (Str.ofString "_nfinished"), .str (Str.ofString "_nfinished") t4, .int nf t6⟩] n
/-- a node's own object -/
noncomputable abbrev infoO (x : Int) (u : Tok) (np : Int) (t : Tok) (da sa : Addr) : Obj := { cls := .ref 82, dict := some da, slots := #[some (.int x u), some (.int np t), some (.ref sa)] }
noncomputable abbrev IK (w : World) := PySem.intKind PySem.Challenge.rw_nq0271_01.row.prog w
/-- all of the heap but the named places is kept -/
noncomputable def Kept (as : List Addr) (h h' : Heap) : Prop := ∀ b o, h.get? b = some o → b ∉ as → h'.get? b = some o
/-- these objects are new -/
noncomputable def Fresh (h : Heap) (as : List Addr) : Prop := ∀ a ∈ as, h.get? a = none


theorem kept_of {h₀ g h h' : Heap} {L L' : Addr} {m' : Str → Option Value} {news news' : List (Addr × Obj)} {as : List Addr} (N : News h₀ L h news) (FF : Fr g L' h' m') (NN : News g L' h' news')
    (kp : ∀ b o, h.get? b = some o → b ∉ news.map (·.1) → g.get? b = some o) (hs : ∀ p ∈ news, p ∈ news' ∨ p.1 ∈ as) : Kept as h h' := by
  intro b o hb hn
  by_cases hm : b ∈ news.map (·.1)
  · obtain ⟨q, hq, rfl⟩ := List.mem_map.mp hm
    rcases hs q hq with h1 | h1
    · have e := (N q hq).1
      rw [hb] at e; cases e
      exact (NN q h1).1
    · exact absurd h1 hn
  · exact FF.keep b o (kp b o hb hm)
theorem fresh_of {g h h' : Heap} {L' a : Addr} {o : Obj} {news news' : List (Addr × Obj)} (NN : News g L' h' news') (kp : ∀ b o, h.get? b = some o → b ∉ news.map (·.1) → g.get? b = some o) (hm : (a, o) ∈ news') (hne : ∀ p ∈ news, p.1 ≠ a) : h.get? a = none := by
  cases e : h.get? a with
  | none => rfl
  | some o' =>
    have h1 := kp a o' e (fun q => by obtain ⟨x, hx, e⟩ := List.mem_map.mp q; exact hne x hx e)
    have h2 := (NN _ hm).2.2
    rw [h1] at h2; cases h2

theorem news_kept {h₀ h h' : Heap} {L : Addr} {old : List (Addr × Obj)} (N : News h₀ L h old) (K : Kept [] h h') : News h₀ L h' old := fun p hp => ⟨K _ _ (N p hp).1 (List.not_mem_nil), (N p hp).2⟩
/-- two places are not one; a word of its own, lest omega look at it -/
noncomputable def Apart (a b : Nat) : Prop := a ≠ b
theorem Apart.ne {a b : Nat} (h : Apart a b) : a ≠ b := h
theorem Apart.ne' {a b : Nat} (h : Apart a b) : b ≠ a := fun e => h e.symm
noncomputable def AllApart : List Nat → Prop
  | [] => True
  | a :: l => (∀ b ∈ l, Apart a b) ∧ AllApart l
theorem AllApart.nodup : ∀ {l : List Nat}, AllApart l → l.Nodup
  | [], _ => List.nodup_nil
  | a :: l, h => List.nodup_cons.mpr ⟨fun hb => h.1 a hb rfl, h.2.nodup⟩
theorem ne_all {h₀ h : Heap} {L a : Addr} {old : List (Addr × Obj)} (N : News h₀ L h old) (fr : h.get? a = none) : ∀ p ∈ old, Apart p.1 a := fun p hp e => by
  have := (N p hp).1
  rw [e, fr] at this; cases this
theorem valueAt_snoc_ne {kvs : List (Int × Value)} {x q : Int} {v : Value} (h : q ≠ x) : valueAt (kvs ++ [(x, v)]) q = valueAt kvs q := by
  unfold valueAt
  rw [List.find?_append]
  have e : List.find? (fun kv : Int × Value => decide (kv.1 = q)) [(x, v)] = none := by
    rw [List.find?_cons, List.find?_nil]
    have : decide (x = q) = false := decide_eq_false (fun e => h e.symm)
    simp only [this]
  rw [e, Option.or_none]
theorem valueAt_snoc_self {kvs : List (Int × Value)} {x : Int} {v : Value} (h : valueAt kvs x = none) : valueAt (kvs ++ [(x, v)]) x = some v := by
  unfold valueAt at h ⊢
  rw [List.find?_append]
  rw [Option.map_eq_none_iff.mp h]
  simp

section
variable {w : World} {mean : ExcName → Option Value} {mg mb : Str → Option Value} {p : Program} {loose : List Str} {cn : Str} {cs : Scope} {a : Addr} {ccd : Value} {cl : List (Str × Addr)} {outer : List Env} {A₀ : Around} {base h₀ : Heap} {L : Addr} {m : Str → Option Value} {s : Shared}
    {Q E : Value → Shared → Prop}
local macro_rules | `(tactic| walk_at $s:str) => `(tactic| k_extra $s)

theorem gn_hit {sx dx nd ia : Addr} {o : Obj} {kvs : List (Int × Value)} {t1 t2 t3 t4 t5 t6 u : Tok} {n : Nat} {rv : Value} {np nf x : Int}
    (B : Below A₀ base outer h₀) (F : Fr h₀ L s.heap m) (X : (topo.heap_39 w.params).In h₀) (N : News h₀ L s.heap [(sx, instObj 179 dx), (dx, sdict w.params nd rv np nf t1 t2 t3 t4 t5 t6 n), (nd, o)]) (T : Top p loose mean mg mb h₀) (hk : cs.kind = .function)
    (hd : o.IsDictOf (IK w) kvs) (hlow : (nd == sysModules) = false) (hv : valueAt kvs x = some (.ref ia))
    (ret : ∀ h' tk', Fr h₀ L h' m → Kept [] s.heap h' → Q (.ref ia) { s with heap := h', toks := tk' }) :
    wpAny (model PySem.Challenge.rw_nq0271_01.row.prog w) (AT 800 cn cs L a ccd cl outer) (call (.ref 122) [.ref sx, .int x u]) Q E s := by
  revert X T hk
  k_fill
  w_on
  intro X T hk
  k_with_none
  k_with "call builtin:dict.get" => (k_dflt (refine kdg_get1 (knd := PySem.intKind _ _) (by k_asm) (by k_mem) (by k_asm) (by k_asm) (intKind_is _ _ _ _) _ (by assumption) ?_); (try dsimp only [Option.getD]))
  refine wpAny_call ?_
  k_dflt (refine' enterF ?k1 ?k2 ?k3 ?k4 ?k5 ?kA ?kF ?kK ?k6 ?k7 ?k8 ?k9 ?kB ?_ ?c2 ?c3 ?c4 ?c5; (case kA => exact rfl); (case kF => exact rfl); (case kK => assumption); (case k1 => k_asm); (case k2 => k_asm); (case k3 => k_asm); (case k4 => k_asm); (case k5 => k_asm); (case k6 => k_is); (case k7 => k_is); (case k8 => k_room); (case k9 => exact BindsTo.of_eq rfl); (case c5 => decide); (case kB => exact locs rfl); (case c2 => exact rfl); (case c3 => exact rfl); (case c4 => exact rfl); k_whole)
  intro g L' h₁ FG F' N' B' X' T' kp kb l1
  refine wp_open fun Qf hQf => ?_
  w_strict k_steps
  refine hQf _ _ ?_
  w_strict k_steps
  exact ret _ _ (by assumption) (kept_of N (by assumption) (by assumption) kp (fun q hq => Or.inl hq))

theorem gn_miss {sx dx nd : Addr} {o : Obj} {kvs : List (Int × Value)} {t1 t2 t3 t4 t5 t6 u : Tok} {n : Nat} {rv : Value} {np nf x : Int}
    (B : Below A₀ base outer h₀) (F : Fr h₀ L s.heap m) (X : (topo.heap_39 w.params).In h₀) (N : News h₀ L s.heap [(sx, instObj 179 dx), (dx, sdict w.params nd rv np nf t1 t2 t3 t4 t5 t6 n), (nd, o)]) (T : Top p loose mean mg mb h₀) (hk : cs.kind = .function)
    (hd : o.IsDictOf (IK w) kvs) (hlow : (nd == sysModules) = false) (hv : valueAt kvs x = none) (hsz : kvs.length ≤ 1000) (hne1 : sx ≠ nd) (hne2 : dx ≠ nd)
    (ret : ∀ h' tk' ia da sa o' t', Fr h₀ L h' m → Kept [nd] s.heap h' → Fresh s.heap [ia, da, sa] → Apart ia da → Apart ia sa → Apart da sa →
      News h₀ L h' [(nd, o'), (ia, infoO x u 0 t' da sa), (da, dictOf [] 0), (sa, W.listOf #[] 0)] → o'.IsDictOf (IK w) (kvs ++ [(x, .ref ia)]) → Q (.ref ia) { s with heap := h', toks := tk' }) :
    wpAny (model PySem.Challenge.rw_nq0271_01.row.prog w) (AT 800 cn cs L a ccd cl outer) (call (.ref 122) [.ref sx, .int x u]) Q E s := by
  revert X T hk
  k_fill
  w_on
  intro X T hk
  k_with_none
  k_with "call builtin:dict.get" => (k_dflt (refine kdg_get1 (knd := PySem.intKind _ _) (by k_asm) (by k_mem) (by k_asm) (by k_asm) (intKind_is _ _ _ _) _ (by assumption) ?_); (try dsimp only [Option.getD]))
  k_with "setItem ref int" => (k_dflt (refine' kda_set (knd := PySem.intKind _ _) ?F ?N ?U ?d (intKind_is _ _ _ _) ?z ?_; (case F => k_asm); (case N => k_asm); (case U => k_updF); (case d => k_asm); (case z => rw [sizeLine_eq]; lia)); intro h' o' F' N' hd'; (try dsimp only at N'))
  refine wpAny_call ?_
  k_dflt (refine' enterF ?k1 ?k2 ?k3 ?k4 ?k5 ?kA ?kF ?kK ?k6 ?k7 ?k8 ?k9 ?kB ?_ ?c2 ?c3 ?c4 ?c5; (case kA => exact rfl); (case kF => exact rfl); (case kK => assumption); (case k1 => k_asm); (case k2 => k_asm); (case k3 => k_asm); (case k4 => k_asm); (case k5 => k_asm); (case k6 => k_is); (case k7 => k_is); (case k8 => k_room); (case k9 => exact BindsTo.of_eq rfl); (case c5 => decide); (case kB => exact locs rfl); (case c2 => exact rfl); (case c3 => exact rfl); (case c4 => exact rfl); k_whole)
  intro g L' h₁ FG F' N' B' X' T' kp kb l1
  refine wp_open fun Qf hQf => ?_
  w_strict k_steps
  refine hQf _ _ ?_
  w_strict k_steps
  rename Fr g L' _ _ => FF
  rename News g L' _ _ => NN
  rename Fr h₀ L _ _ => kF
  rename News h₀ L _ _ => kN
  refine' ret _ _ _ _ _ _ _ kF ?kept ?fresh ?e1 ?e2 ?e3 ?news ?dict
  case news => exact List.forall_mem_cons.mpr ⟨kN _ (by k_mem), List.forall_mem_cons.mpr ⟨kN _ (by k_mem), List.forall_mem_cons.mpr ⟨kN _ (by k_mem), List.forall_mem_cons.mpr ⟨kN _ (by k_mem), List.forall_mem_nil _⟩⟩⟩⟩
  case dict => rw [← stored_absent hv]; assumption
  case kept => exact kept_of N FF NN kp (List.forall_mem_cons.mpr ⟨Or.inl (by k_mem), List.forall_mem_cons.mpr ⟨Or.inl (by k_mem), List.forall_mem_cons.mpr ⟨Or.inr (List.mem_singleton.mpr rfl), List.forall_mem_nil _⟩⟩⟩)
  case fresh => exact List.forall_mem_cons.mpr ⟨fresh_of NN kp (by k_mem) (by k_all), List.forall_mem_cons.mpr ⟨fresh_of NN kp (by k_mem) (by k_all), List.forall_mem_cons.mpr ⟨fresh_of NN kp (by k_mem) (by k_all), List.forall_mem_nil _⟩⟩⟩
  case e1 => show _ ≠ _; k_ne
  case e2 => show _ ≠ _; k_ne
  case e3 => show _ ≠ _; k_ne
end
end Mine
end

open PySem PySem.W PyProof.Rows
namespace Mine
local macro_rules | `(tactic| walk_at $s:str) => `(tactic| k_extra $s)
local macro_rules | `(tactic| k_ne) => `(tactic| (refine neN ?_; (try dsimp only); first | exact Apart.ne (by with_reducible assumption) | exact Apart.ne' (by with_reducible assumption) | omega))
local macro_rules | `(tactic| k_all) => `(tactic| first | exact List.forall_mem_nil _ | (refine' List.forall_mem_cons.mpr ⟨?a, ?b⟩; (case a => k_ne); (case b => k_all)) | with_reducible assumption)
local macro_rules | `(tactic| k_clsL) => `(tactic| first | assumption | exact List.Mem.head _ | (refine List.Mem.tail _ ?_; k_clsL) | (refine List.mem_append_right _ ?_; k_clsL) | (refine List.mem_append_left _ ?_; k_clsL))

section
open PySem PySem.Calls PySem.W PyProof.Rows
set_option Elab.async false
set_option maxRecDepth 100000
set_option maxHeartbeats 3000000
set_option pp.deepTerms false
set_option pp.maxSteps 20000

noncomputable abbrev itO (l : Addr) (i : Nat) : Obj := { cls := .type "list_iterator", data := .fields #[.ref l, .int i 0] }
noncomputable abbrev mwO (it : Addr) : Obj := { cls := .type "method-wrapper", data := .fields #[.builtin "list_iterator.__next__", .ref it] }

theorem li_ga : typeLookup (.type "list_iterator") "__getattribute__" = pure (some (.builtin "object.__getattribute__")) := by rw [typeLookup_type, builtinLookup_eq_fast]; kernel_rfl
theorem li_gattr : typeLookup (.type "list_iterator") "__getattr__" = pure none := by rw [typeLookup_type, builtinLookup_eq_fast]; kernel_rfl
theorem li_next : typeLookup (.type "list_iterator") "__next__" = pure (some (.builtin "list_iterator.__next__")) := by rw [typeLookup_type, builtinLookup_eq_fast]; kernel_rfl
theorem slot_li_ga : Slot "list_iterator" "__getattribute__" "object.__getattribute__" :=
  .of (owner := "object") (n := "__getattribute__") (by rw [typeLookup_type, builtinLookup_eq_fast]; kernel_rfl) (by decide +kernel) (by decide +kernel) (by decide +kernel) (by first | exact .inl (by decide +kernel) | exact .inr (by decide +kernel)) (by rw [isSubtype_type]; kernel_rfl)
theorem entry_obj_ga : entryFor table "object.__getattribute__" = some Builtin.«object.__getattribute__» := entryFor_of_tree (by kernel_rfl)

theorem wd_get : typeLookup (.type "wrapper_descriptor") "__get__" = pure (some (.builtin "wrapper_descriptor.__get__")) := by rw [typeLookup_type, builtinLookup_eq_fast]; kernel_rfl
theorem wd_set : typeLookup (.type "wrapper_descriptor") "__set__" = pure none := by rw [typeLookup_type, builtinLookup_eq_fast]; kernel_rfl
theorem wd_del : typeLookup (.type "wrapper_descriptor") "__delete__" = pure none := by rw [typeLookup_type, builtinLookup_eq_fast]; kernel_rfl
theorem wd_type : typeOf (.builtin "list_iterator.__next__") = pure (.type "wrapper_descriptor") := by kernel_rfl
theorem wd_spec {n : Str} {r : Option Value} (h : typeLookup (.type "wrapper_descriptor") n = pure r) : specialOf (.builtin "list_iterator.__next__") n = pure r := by
  unfold specialOf
  rw [wd_type]
  exact h
theorem wd_inst : isInstance (.builtin "list_iterator.__next__") (.type "wrapper_descriptor") = pure true := by kernel_rfl
theorem wd_sub : isSubtype (.type "list_iterator") (.type "list_iterator") = pure true := by rw [isSubtype_type]; kernel_rfl
theorem entry_wd : entryFor table "wrapper_descriptor.__get__" = some Builtin.«wrapper_descriptor.__get__» := entryFor_of_tree (by kernel_rfl)
theorem wd_check (it : Addr) : checkBuiltinCall "wrapper_descriptor.__get__" ⟨[.builtin "list_iterator.__next__", .ref it, .type "list_iterator"], []⟩ = pure () := by
  have h := wd_inst
  kernel_rfl
section
variable {prog : Program} {w : World} {A : Around} {E : Value → Shared → Prop} {s : Shared}

theorem mw_check (it : Addr) : checkBoundCall "list_iterator.__next__" ⟨[.ref it], []⟩ = pure () := by kernel_rfl

theorem mw_call {it mw : Addr} {Q : Value → Shared → Prop} (hm : s.heap.get? mw = some (mwO it))
    (h : wpAny (model prog w) A.in1 (Builtin.«list_iterator.__next__» ⟨[.ref it], []⟩) (fun fin s' => ∃ v, fin = .done (.ret v) ∧ Q v s') E s) :
    wpAny (model prog w) A (call (.ref mw) []) Q E s := by
  refine wpAny_call (codeAny_of_tree ?_)
  show wpAny _ _ (callAny (.ref mw) _) _ _ _
  unfold callAny
  refine wpAny_bind (wpAny_load hm ?_)
  show wpAny _ _ (checkBoundCall "list_iterator.__next__" ⟨[.ref it], []⟩ >>= fun _ => again (Code.builtin "list_iterator.__next__" ⟨[.ref it], []⟩)) _ _ _
  refine wpAny_bind (wpAny_of_eq (mw_check it) ?_)
  have hp : plainId "list_iterator.__next__" = true := by decide +kernel
  refine wpAny_pure ⟨plainId_quiet hp _, codeAny_builtin entry_listiter_next ?_⟩
  rw [Around.under_plainId hp]
  refine wpAny_mono h (fun fin s' h' => ?_) fun _ _ e => e
  obtain ⟨v, rfl, hv⟩ := h'; exact hv

/-- an iterator's look at the sequence that it goes along -/
theorem seq_in {α : Type} {it c : Addr} {io ol : Obj} {i : Nat} {items : Array Value} {n : Nat} {f0 f1 : Value → Sem α} {f2 : Option (Array Value) → Sem α} {Q : α → Shared → Prop}
    (ho : s.heap.get? it = some io) (hd : io.data = .fields #[.ref c, .int i 0]) (hol : s.heap.get? c = some ol) (hdl : ol.data = .seq items n)
    (h0 : f0 (.ref c) = (field (.ref it) 1 >>= f1)) (h1 : f1 (.int i 0) = (seqItems? (.ref c) >>= f2)) (h : wpAny (model prog w) A (f2 (some items)) Q E s) :
    wpAny (model prog w) A (field (.ref it) 0 >>= f0) Q E s := by
  have k1 := wpAny_bind (f := f2) (wpAny_seqItems hol hdl h)
  rw [← h1] at k1
  have k0 := wpAny_bind (f := f1) (wpAny_field (i := 1) ho hd rfl k1)
  rw [← h0] at k0
  exact wpAny_bind (wpAny_field ho hd rfl k0)
theorem stop_own : ownMembersOf (.type "StopIteration") [] = #[] := by kernel_rfl
/-- the StopIteration at a sequence's end -/
theorem stop_raised {α : Type} {Q : α → Shared → Prop} (hh : A.handled = none) (hE : ∀ h' e, Heap.NewExc s.heap h' e "StopIteration" → E (.ref e) { s with heap := h' }) :
    wpAny (model prog w) A (Builtin.SmallTypes.stopIteration : Sem α) Q E s := by
  have hr : ∀ (e : Value) (s' : Shared), E e s' → wpAny (model prog w) A (raiseNew e : Sem α) Q E s' := fun e s' => wpAny_raiseNew_none hh
  have hm : wpAny (model prog w) A (newExc (.type "StopIteration") []) (fun e s' => E e s') E s := by
    unfold newExc newTuple
    refine wpAny_bind (wpAny_newObj_type (wpAny_bind (m := firstArgMember _ _) (wpAny_of_eq (a := Value.none) rfl ?_)) (by size_fits))
    rw [stop_own]
    exact wpAny_newObj_type (hE _ _ ⟨fun b o e => Heap.get?_push_of_some _ (Heap.get?_push_of_some _ e), Heap.get?_none_of_le (by rw [Heap.size_push]; exact Nat.le_succ _), _, _, Heap.get?_push_size _ rfl, rfl, rfl⟩) (by size_fits)
  exact wpAny_bind (wpAny_mono hm (fun e s' => hr e s') fun _ _ h => h)

theorem mw_item {it l mw : Addr} {i : Nat} {items : Array Value} {x : Value} {Q : Value → Shared → Prop} (hm : s.heap.get? mw = some (mwO it)) (ho : s.heap.get? it = some (itO l i))
    (hl : s.heap.IsList l items) (hx : items[i]? = some x)
    (hQ : ∀ h', h'.get? it = some (itO l (i + 1)) → Heap.SameBut it s.heap h' → Q x { s with heap := h' }) :
    wpAny (model prog w) A (call (.ref mw) []) Q E s := by
  obtain ⟨ol, hol, _, nl, hdl⟩ := hl
  refine mw_call hm (seq_in ho rfl hol hdl rfl rfl ?_)
  simp only [Int.toNat_natCast, hx]
  exact wpAny_bind (wpAny_setField ho rfl (by simp) (wpAny_pure ⟨x, rfl, hQ _ (by rw [Heap.get?_update_self _ ho rfl]; simp [Obj.mapFields, rawInt]) (Heap.SameBut.update ..)⟩))

theorem mw_end {it l mw : Addr} {i : Nat} {items : Array Value} {Q : Value → Shared → Prop} (hh : A.handled = none) (hm : s.heap.get? mw = some (mwO it)) (ho : s.heap.get? it = some (itO l i))
    (hl : s.heap.IsList l items) (hx : items[i]? = none)
    (hE : ∀ h₁ h' e, Heap.SameBut it s.heap h₁ → Heap.NewExc h₁ h' e "StopIteration" → E (.ref e) { s with heap := h' }) :
    wpAny (model prog w) A (call (.ref mw) []) Q E s := by
  obtain ⟨ol, hol, _, nl, hdl⟩ := hl
  refine mw_call hm (seq_in ho rfl hol hdl rfl rfl ?_)
  simp only [Int.toNat_natCast, hx]
  exact wpAny_bind (wpAny_rule (wpAny_bind (wpAny_setField ho rfl (by simp) (stop_raised (A := A.in1) hh fun _ _ hn => hE _ _ _ (Heap.SameBut.update ..) hn))))
theorem wd_call {it l : Addr} {i : Nat} {Q : Value → Shared → Prop} (ho : s.heap.get? it = some (itO l i))
    (h : ∀ tk, Q (.ref s.heap.objs.size) { s with heap := s.heap.push (mwO it), toks := tk }) :
    wpAny (model prog w) A (call (.builtin "wrapper_descriptor.__get__") [.builtin "list_iterator.__next__", .ref it, .type "list_iterator"]) Q E s := by
  obtain ⟨hp, g, d, tk, os⟩ := s
  have hT : ∀ tk', (⟨hp, g, d, tk', os⟩ : Shared).TypeIs (.ref it) "list_iterator" := fun _ => ⟨_, ho, rfl⟩
  have hq : plainId "wrapper_descriptor.__get__" = true := by decide +kernel
  refine wpAny_call (codeAny_call_builtin hq entry_wd (wpAny_of_eq (wd_check it) ?_))
  unfold Builtin.«wrapper_descriptor.__get__»
  have f1 := wd_sub
  repeat (any_goals (first | assumption | exact hT _ | wp_step))
  have e1 : (".".intercalate ("list_iterator.__next__".cutAt '.').dropLast) = "list_iterator" := by decide +kernel
  rw [e1]
  refine wpAny_of_eq wd_sub ?_
  rw [if_neg (by decide)]
  refine wpAny_pure (wpAny_bind ?_)
  exact wpAny_newObj_type (wpAny_pure (h _)) (by size_fits)

theorem find_next {it l : Addr} {i : Nat} {Q : Builtin.ObjectAttr.Found → Shared → Prop} (ho : s.heap.get? it = some (itO l i))
    (h : Q (.bind (.builtin "wrapper_descriptor.__get__") (.builtin "list_iterator.__next__")) s) :
    wpAny (model prog w) A (Builtin.ObjectAttr.find (.ref it) (.type "list_iterator") "__next__") Q E s := by
  unfold Builtin.ObjectAttr.find
  refine wpAny_bind (wpAny_of_eq li_next (wpAny_bind ?_))
  unfold Builtin.ObjectAttr.getOf
  refine wpAny_of_eq (wd_spec wd_get) (wpAny_bind ?_)
  unfold Builtin.ObjectAttr.dataDescriptor? Builtin.ObjectAttr.takesStores
  refine wpAny_bind (wpAny_bind (wpAny_of_eq (wd_spec wd_set) ?_))
  show wpAny _ _ (specialOf (.builtin "list_iterator.__next__") "__delete__" >>= fun x => pure x.isSome) _ _ _
  refine wpAny_bind (wpAny_of_eq (wd_spec wd_del) (wpAny_pure ?_))
  show wpAny _ _ (pure none) _ _ _
  refine wpAny_pure ?_
  show wpAny _ _ (Builtin.ObjectAttr.ownThenClass _ _ _ _) _ _ _
  unfold Builtin.ObjectAttr.ownThenClass Builtin.ObjectAttr.inOwnDict Builtin.ObjectAttr.ownDict
  refine wpAny_bind (wpAny_bind (wpAny_bind (wpAny_loadPart ho ?_)))
  show wpAny _ _ (instanceDict it false) _ _ _
  unfold instanceDict
  refine wpAny_bind (wpAny_loadPart ho ?_)
  show wpAny _ _ (pure none) _ _ _
  refine wpAny_pure ?_
  show wpAny _ _ (pure none) _ _ _
  refine wpAny_pure ?_
  show wpAny _ _ (Builtin.ObjectAttr.copiedAttributeGuard _ _ >>= _) _ _ _
  refine wpAny_bind (wpAny_of_eq (a := ()) (by kernel_rfl) ?_)
  show wpAny _ _ (rule _ >>= _) _ _ _
  exact wpAny_bind (wpAny_rule (wpAny_pure h))

theorem ga_next {it l : Addr} {i : Nat} {Q : Value → Shared → Prop} (ho : s.heap.get? it = some (itO l i))
    (h : ∀ tk, Q (.ref s.heap.objs.size) { s with heap := s.heap.push (mwO it), toks := tk }) :
    wpAny (model prog w) A (getAttr (.ref it) "__next__" true) Q E s := by
  obtain ⟨hp, g, d, tk, os⟩ := s
  have hT : ∀ tk', (⟨hp, g, d, tk', os⟩ : Shared).TypeIs (.ref it) "list_iterator" := fun _ => ⟨_, ho, rfl⟩
  have f3 := li_ga
  have f5 := li_gattr
  have f4 := slot_li_ga.bind (.ref it)
  unfold getAttr getAttrBy
  repeat (any_goals (first | assumption | exact hT _ | wp_step))
  refine codeAny_call_builtin slot_li_ga.plain entry_obj_ga (slot_li_ga.check _ _ _ _ _ _ _ _ (hT _) (by unfold argsOk; kernel_rfl) ?_)
  unfold Builtin.«object.__getattribute__»
  show wpAny _ _ (typeOf (.ref it) >>= _) _ _ _
  refine wpAny_bind (wpAny_typeOf (hT _) ?_)
  refine wpAny_bind (find_next ho ?_)
  show wpAny _ _ (call (.builtin "wrapper_descriptor.__get__") [.builtin "list_iterator.__next__", .ref it, .type "list_iterator"] >>= _) _ _ _
  refine wpAny_bind (wd_call ho fun tk2 => wpAny_pure ?_)
  show wpAny _ _ (handedOut _) _ _ _
  exact handed_on rfl (h _)
end

section
variable {prog : Program} {w : World} {A A₀ : Around} {s : Shared} {K : Frag} {L : Addr} {h₀ base : Heap} {m mg mb : Str → Option Value} {news : List (Addr × Obj)} {p : Program} {loose : List Str} {mean : ExcName → Option Value}
/-- a call of a def that catches what is raised in its own frame: all frames' objects stand in the ledger -/
theorem enterT {env : Env} {outer : List Env} {frs₀ : List (Addr × Obj)} {R : Result → Shared → Prop} {name qual : Str} {params : Arguments} {body : List Stmt} {scope : Scope} {dV kV doc pm cdv ct oc : Value} {an od : Option Addr} {osl : Array (Option Value)} {f : Addr} {args : Args} {binds : List (Str × Value)}
    (B : Below A₀ base outer h₀) (F : Fr h₀ L s.heap m) (XB : K.In base) (TB : Top p loose mean mg mb base) (N : News h₀ L s.heap news) (hA : A.frames = some (env :: outer)) (hf : env.frame = some L) (hke : env.scope.kind = .function)
    (Fs : TI.Frs outer frs₀) (hfs : ∀ q ∈ frs₀, h₀.get? q.1 = some q.2 ∧ base.get? q.1 = none)
    (ho : K.lookup f = some ⟨oc, od, .func (fnOf name qual params body scope dV kV doc pm an cdv ct), osl⟩) (hcd : codeIn K cdv qual = true) (hroom : A.depth < recursionLimit)
    (hbind : BindsTo s (fnOf name qual params body scope dV kV doc pm an cdv ct) args binds) (hloc : ∀ y ∈ binds, scope.names.lookup y.1 = some .local)
    (h : ∀ g L' h₁ oL, TI.Frs (env :: outer) ((L, oL) :: frs₀) → Fr g L' h₁ (fun y => binds.reverse.lookup y) → News g L' h₁ (news ++ (L, oL) :: frs₀) → K.In g → Top p loose mean mg mb g →
      (∀ b o, s.heap.get? b = some o → b ∉ news.map (·.1) → b ∉ L :: frs₀.map (·.1) → g.get? b = some o) → s.heap.get? L = some oL → (∀ q ∈ news ++ (L, oL) :: frs₀, q.1 < L') →
      wpAny (model prog w) (A.deeper (envOf qual scope L' f cdv)) (execs body (envOf qual scope L' f cdv))
        (fun fl s' => R (.ok (.ret (match fl with | .ret v => v | _ => .none))) s')
        (fun e s' => wpAny (model prog w) (A.deeper (envOf qual scope L' f cdv)) (leaving (envOf qual scope L' f cdv) e) (fun _ s'' => R (.error e) s'') (fun e' s'' => R (.error e') s'') s')
        { s with heap := h₁, toks := s.toks + binds.length })
    (hco : scope.isCoroutine = false) (hgen : scope.isGenerator = false) (hk : scope.kind = .function)
    (hcell : ∀ x ∈ scope.names, x.2 ≠ .cell) : codeAny (model prog w) A (.call (.ref f) args) R s := by
  have hbs : ∀ b o, base.get? b = some o → s.heap.get? b = some o := fun b o e => F.keep b o (B.stays b o e)
  obtain ⟨oL, es, ep, hL, hLd, hLk, hLf⟩ := F.ns
  have hLn : h₀.get? L = none := Heap.get?_none_of_le F.above
  have hall : ∀ q ∈ news ++ (L, oL) :: frs₀, s.heap.get? q.1 = some q.2 ∧ base.get? q.1 = none := by
    intro q hq
    rcases List.mem_append.mp hq with hq | hq
    · refine ⟨(N q hq).1, ?_⟩
      cases e : base.get? q.1 with
      | none => rfl
      | some o => have := (N q hq).2.2; rw [B.stays _ _ e] at this; cases this
    · rcases List.mem_cons.mp hq with rfl | hq
      · refine ⟨hL, ?_⟩
        cases e : base.get? L with
        | none => rfl
        | some o => rw [B.stays _ _ e] at hLn; cases hLn
      · exact ⟨F.keep _ _ (hfs q hq).1, (hfs q hq).2⟩
  have hbg : ∀ b o, base.get? b = some o → (hideAll s.heap ((news ++ (L, oL) :: frs₀).map (·.1))).get? b = some o := fun b o e => hideAll_get _ (hbs b o e) fun hm => by
    obtain ⟨q, hq, rfl⟩ := List.mem_map.mp hm
    rw [(hall q hq).2] at e; cases e
  refine codeAny_call_def (fd := fnOf name qual params body scope dV kV doc pm an cdv ct) (body := body) (binds := binds) hroom (hbs _ _ (XB _ _ ho)) rfl (TB.nolimit.keeps hbs) (codeRec_of (XB.keeps hbs) hcd) rfl hbind hcell hloc (fun h₁ hns hk₁ => ?_) hco hgen hk
  refine h (hideAll s.heap ((news ++ (L, oL) :: frs₀).map (·.1))) s.heap.objs.size h₁ oL ⟨by rw [hke]; decide, hf, ⟨es, ep, hLd⟩, Fs⟩ ⟨hns, fun b o e => hk₁ b o (of_hideAll _ e), Nat.le_of_eq (hideAll_size _ _)⟩
    (fun q hq => ⟨hk₁ _ _ (hall q hq).1, Nat.ne_of_lt (Heap.lt_size (hall q hq).1), hideAll_none _ (List.mem_map_of_mem hq)⟩) (XB.keeps hbg) (TB.keeps hbg) (fun b o e h1 h2 => hideAll_get _ e fun hm => ?_) hL (fun q hq => Heap.lt_size (hall q hq).1)
  rw [List.map_append] at hm
  rcases List.mem_append.mp hm with hm | hm
  · exact h1 hm
  · exact h2 hm
end
end

section
open PySem PySem.Calls PySem.W PyProof.Rows
set_option Elab.async false
set_option maxRecDepth 100000
set_option maxHeartbeats 3000000

section
variable {prog : Program} {w : World} {A : Around} {E : Value → Shared → Prop} {s : Shared} {env : Env} {h₀ : Heap} {x : Str} {body : List Stmt} {Q : Flow → Shared → Prop} {m₀ : Str → Option Value} {news : List (Addr × Obj)}

/-- a for over a thing of the ground (not of the ledger) -/
theorem srcLoop {d : Addr} {od oI₀ : Obj} {n : Nat} {P : Nat → Value → Prop} {St : Nat → Heap → Prop} (J : Nat → (Str → Option Value) → List (Addr × Obj) → Prop)
    (hd : h₀.get? d = some od) (W : Walks prog w A s.heap.objs.size [s.heap.objs.size, d] [s.heap.objs.size] n P St) (hst : St 0 (s.heap.push oI₀)) (hex : ∀ i h, St i h → ∃ o, h.get? s.heap.objs.size = some o)
    (hit : ∀ Q' : Value → Shared → Prop, Q' (.ref s.heap.objs.size) { s with heap := s.heap.push oI₀ } → wpAny (model prog w) A (pyIter (.ref d)) Q' E s)
    (F : Fr h₀ env.locals s.heap m₀) (N : News h₀ env.locals s.heap news) (h0 : J 0 m₀ news)
    (turn : ∀ i v m₁ news₁ h tk I oI, i < n → P i v → J i m₁ news₁ → Fr h₀ env.locals h (fun y => if y = x then some v else m₁ y) → News h₀ env.locals h ((I, oI) :: news₁) → (∀ p ∈ news₁, p.1 ≠ I) →
      ∀ QJ : Flow → Shared → Prop, (∀ h' tk' m' news', Fr h₀ env.locals h' m' → News h₀ env.locals h' ((I, oI) :: news') → (∀ p ∈ news', p.1 ≠ I) → J (i + 1) m' news' → QJ .next { s with heap := h', toks := tk' }) → (∀ v s, Q (.ret v) s → QJ (.ret v) s) → (∀ s, Q .next s → QJ .brk s) → (∀ s, QJ .next s → QJ .cont s) →
      wpAny (model prog w) A (execs body env) QJ E { s with heap := h, toks := tk })
    (done : ∀ m₁ news₁ h tk, J n m₁ news₁ → Fr h₀ env.locals h m₁ → News h₀ env.locals h news₁ → Q .next { s with heap := h, toks := tk }) :
    wpAny (model prog w) A (pyIter (.ref d)) (fun it s₂ => LoopAtV prog w A h₀ env x body Q E it s₂) E s := by
  have hdl : d < h₀.objs.size := Heap.lt_size hd
  refine hit _ ?_
  refine ⟨s.heap.objs.size, _, _, n, P, St, m₀, news, J, rfl, W, ?_, ?_, ?_, hst, F.push _, (fun p hp => ⟨Heap.get?_push_of_some _ (N p hp).1, (N p hp).2⟩), h0, ?_, ?_⟩
  · intro hm
    rcases List.mem_cons.mp hm with e | hm
    · exact absurd F.ns.lt (e ▸ Nat.lt_irrefl _)
    · exact absurd (Nat.lt_of_lt_of_le hdl F.above) ((List.mem_singleton.mp hm) ▸ Nat.lt_irrefl _)
  · intro b hb
    rw [List.mem_singleton.mp hb]
    exact next_is_new F
  · intro p hp hI
    exact absurd (Heap.lt_size (N p hp).1) ((List.mem_singleton.mp hI) ▸ Nat.lt_irrefl _)
  · rintro i v m₁ news₁ s₁ own ⟨hh', tk', rfl⟩ hin hP hJ hoff hown hget hall hst' F₁ N₁
    -- the iterator's own entry
    obtain ⟨oI, hoI⟩ := hex _ _ hst'
    have hmem := hall s.heap.objs.size (List.mem_cons_self) (next_is_new F) oI hoI
    have hsub : ∀ p ∈ own, p = (s.heap.objs.size, oI) := by
      intro p hp
      have hpg := hget p hp
      rcases List.mem_cons.mp (hown p hp) with e | e
      · obtain ⟨a, o⟩ := p
        simp only at e hpg
        subst e
        rw [hoI] at hpg; cases hpg; rfl
      · exfalso
        have e' := List.mem_singleton.mp e
        have h1 := (N₁ p (List.mem_append_left _ hp)).2.2
        rw [e', hd] at h1; cases h1
    refine turn i v m₁ news₁ hh' tk' s.heap.objs.size oI hin hP hJ F₁ (fun p hp => ?_) (fun p hp e => hoff p hp (by rw [e]; exact List.mem_singleton.mpr rfl)) _ (fun h' tk m' news' F' N' hn hm => ?_) (fun _ _ q => .ret q) (fun _ q => .brk q) (fun _ q => q)
    · rcases List.mem_cons.mp hp with rfl | hp
      · exact N₁ _ (List.mem_append_left _ hmem)
      · exact N₁ _ (List.mem_append_right _ hp)
    · refine .next ⟨rfl, h', tk, m', news', rfl, F', fun p hp => ?_, fun p hp hI => hn p hp (List.mem_singleton.mp hI), hm⟩
      rcases List.mem_append.mp hp with hp | hp
      · rw [hsub p hp]; exact N' _ (List.mem_cons_self)
      · exact N' _ (List.mem_cons_of_mem _ hp)
  · rintro h' tk m' news' F' N' _ hJ
    exact done m' news' h' tk hJ F' N'

/-- a for over a thing of the ledger -/
theorem ledLoop {d : Addr} {od oI₀ : Obj} {n : Nat} {P : Nat → Value → Prop} {St : Nat → Heap → Prop} (J : Nat → (Str → Option Value) → List (Addr × Obj) → Prop)
    (W : Walks prog w A s.heap.objs.size [s.heap.objs.size, d] [s.heap.objs.size] n P St) (hst : St 0 (s.heap.push oI₀)) (hex : ∀ i h, St i h → ∃ o, h.get? s.heap.objs.size = some o)
    (hit : ∀ Q' : Value → Shared → Prop, Q' (.ref s.heap.objs.size) { s with heap := s.heap.push oI₀ } → wpAny (model prog w) A (pyIter (.ref d)) Q' E s)
    (F : Fr h₀ env.locals s.heap m₀) (N : News h₀ env.locals s.heap ((d, od) :: news)) (hnd : ∀ p ∈ news, p.1 ≠ d) (h0 : J 0 m₀ news)
    (turn : ∀ i v m₁ news₁ h tk I oI, i < n → P i v → J i m₁ news₁ → Fr h₀ env.locals h (fun y => if y = x then some v else m₁ y) → News h₀ env.locals h ((I, oI) :: (d, od) :: news₁) → (∀ p ∈ news₁, p.1 ≠ I) → (∀ p ∈ news₁, p.1 ≠ d) → I ≠ d →
      ∀ QJ : Flow → Shared → Prop, (∀ h' tk' m' news', Fr h₀ env.locals h' m' → News h₀ env.locals h' ((I, oI) :: (d, od) :: news') → (∀ p ∈ news', p.1 ≠ I) → (∀ p ∈ news', p.1 ≠ d) → J (i + 1) m' news' → QJ .next { s with heap := h', toks := tk' }) → (∀ v s, Q (.ret v) s → QJ (.ret v) s) → (∀ s, Q .next s → QJ .brk s) → (∀ s, QJ .next s → QJ .cont s) →
      wpAny (model prog w) A (execs body env) QJ E { s with heap := h, toks := tk })
    (done : ∀ m₁ news₁ h tk, J n m₁ news₁ → Fr h₀ env.locals h m₁ → News h₀ env.locals h ((d, od) :: news₁) → (∀ p ∈ news₁, p.1 ≠ d) → Q .next { s with heap := h, toks := tk }) :
    wpAny (model prog w) A (pyIter (.ref d)) (fun it s₂ => LoopAtV prog w A h₀ env x body Q E it s₂) E s := by
  have hD := N (d, od) (List.mem_cons_self)
  have hdl : d < s.heap.objs.size := Heap.lt_size hD.1
  refine hit _ ?_
  refine ⟨s.heap.objs.size, _, _, n, P, St, m₀, (d, od) :: news, fun i m₁ l => ∀ Z : Prop, (∀ news₁, l = (d, od) :: news₁ → (∀ p ∈ news₁, p.1 ≠ d) → J i m₁ news₁ → Z) → Z, rfl, W, ?_, ?_, ?_, hst, F.push _, (fun p hp => ⟨Heap.get?_push_of_some _ (N p hp).1, (N p hp).2⟩), (fun Zz KZ => KZ news rfl hnd h0), ?_, ?_⟩
  · intro hm
    rcases List.mem_cons.mp hm with e | hm
    · exact absurd F.ns.lt (e ▸ Nat.lt_irrefl _)
    · exact hD.2.1 (List.mem_singleton.mp hm).symm
  · intro b hb
    rw [List.mem_singleton.mp hb]
    exact next_is_new F
  · intro p hp hI
    exact absurd (Heap.lt_size (N p hp).1) ((List.mem_singleton.mp hI) ▸ Nat.lt_irrefl _)
  · rintro i v m₁ l₁ s₁ own ⟨hh', tk', rfl⟩ hin hP hI hoff hown hget hall hst' F₁ N₁
    refine hI _ ?_
    clear hI
    rintro news₁ rfl hnd₁ hJ
    obtain ⟨oI, hoI⟩ := hex _ _ hst'
    have hId : s.heap.objs.size ≠ d := Nat.ne_of_gt hdl
    have hmem := hall s.heap.objs.size (List.mem_cons_self) (next_is_new F) oI hoI
    have hgd : hh'.get? d = some od := (N₁ (d, od) (List.mem_append_right _ List.mem_cons_self)).1
    have hsub : ∀ p ∈ own, p = (s.heap.objs.size, oI) ∨ p = (d, od) := by
      intro p hp
      have hpg := hget p hp
      obtain ⟨a, o⟩ := p
      rcases List.mem_cons.mp (hown _ hp) with e | e
      · simp only at e hpg
        subst e
        rw [hoI] at hpg; cases hpg; exact Or.inl rfl
      · have e' := List.mem_singleton.mp e
        simp only at e' hpg
        subst e'
        rw [hgd] at hpg; cases hpg; exact Or.inr rfl
    refine turn i v m₁ news₁ hh' tk' s.heap.objs.size oI hin hP hJ F₁ (fun p hp => ?_) (fun p hp e => hoff p (List.mem_cons_of_mem _ hp) (by rw [e]; exact List.mem_singleton.mpr rfl)) hnd₁ hId _ (fun h' tk m' news' F' N' hn hn2 hm => ?_) (fun _ _ q => .ret q) (fun _ q => .brk q) (fun _ q => q)
    · rcases List.mem_cons.mp hp with rfl | hp
      · exact N₁ _ (List.mem_append_left _ hmem)
      · exact N₁ _ (List.mem_append_right _ hp)
    · refine .next ⟨rfl, h', tk, m', (d, od) :: news', rfl, F', fun p hp => ?_, fun p hp hI => ?_, fun Zz KZ => KZ news' rfl hn2 hm⟩
      · rcases List.mem_append.mp hp with hp | hp
        · rcases hsub p hp with rfl | rfl
          · exact N' _ (List.mem_cons_self)
          · exact N' _ (List.mem_cons_of_mem _ List.mem_cons_self)
        · exact N' _ (List.mem_cons_of_mem _ hp)
      · have hI' := List.mem_singleton.mp hI
        rcases List.mem_cons.mp hp with rfl | hp
        · exact hId hI'.symm
        · exact hn p hp hI'
  · intro h' tk m' l' F' N' _ hI
    refine hI _ ?_
    rintro news' rfl hn hJ
    exact done m' news' h' tk hJ F' N' hn

/-- for k in d: d a dict of ints of the ground -/
theorem keysLoop {d : Addr} {kvs : List (Int × Value)} (J : Nat → (Str → Option Value) → List (Addr × Obj) → Prop) (hh : A.handled = none)
    (hD : h₀.DictOf (PySem.intKind prog w) d kvs) (lo : (d == sysModules) = false)
    (F : Fr h₀ env.locals s.heap m₀) (N : News h₀ env.locals s.heap news) (h0 : J 0 m₀ news)
    (turn : ∀ i k v t m₁ news₁ h tk I oI, kvs[i]? = some (k, v) → J i m₁ news₁ → Fr h₀ env.locals h (fun y => if y = x then some (.int k t) else m₁ y) → News h₀ env.locals h ((I, oI) :: news₁) → (∀ p ∈ news₁, p.1 ≠ I) →
      ∀ QJ : Flow → Shared → Prop, (∀ h' tk' m' news', Fr h₀ env.locals h' m' → News h₀ env.locals h' ((I, oI) :: news') → (∀ p ∈ news', p.1 ≠ I) → J (i + 1) m' news' → QJ .next { s with heap := h', toks := tk' }) → (∀ v s, Q (.ret v) s → QJ (.ret v) s) → (∀ s, Q .next s → QJ .brk s) → (∀ s, QJ .next s → QJ .cont s) →
      wpAny (model prog w) A (execs body env) QJ E { s with heap := h, toks := tk })
    (done : ∀ m₁ news₁ h tk, J kvs.length m₁ news₁ → Fr h₀ env.locals h m₁ → News h₀ env.locals h news₁ → Q .next { s with heap := h, toks := tk }) :
    wpAny (model prog w) A (pyIter (.ref d)) (fun it s₂ => LoopAtV prog w A h₀ env x body Q E it s₂) E s := by
  obtain ⟨ep, hA⟩ := hD.dictAt
  have hAs : s.heap.DictAt (PySem.intKind prog w) d kvs ep := hA.keep F.keep
  have hne : d ≠ s.heap.objs.size := Nat.ne_of_lt hAs.lt_size
  obtain ⟨od, es, hod, _⟩ := id hA
  refine srcLoop (od := od) (oI₀ := { cls := .type "dict_keyiterator", data := .fields #[.ref d, .int 0 0, .int kvs.length 0, .int ep 0] }) J hod (Walks.dictKeys hh s.heap.objs.size d hne kvs ep) ⟨⟨_, Heap.get?_push_size _ rfl, rfl, rfl⟩, hAs.push _⟩ (fun i h st => ?_) (fun Q' hQ => wpAny_pyIter_dict lo hAs hQ) F N h0 (fun i v m₁ news₁ h tk I oI hi hP hJ F₁ N₁ hn => ?_) done
  · obtain ⟨⟨o, ho, _⟩, _⟩ := st; exact ⟨o, ho⟩
  · obtain ⟨k, v', hk, hv⟩ := hP
    obtain ⟨t, rfl⟩ := Value.isInt_shape hv
    exact turn i k v' t m₁ news₁ h tk I oI hk hJ F₁ N₁ hn
end
end

section
open PySem PySem.Calls PySem.W PyProof.Rows
set_option Elab.async false
set_option maxRecDepth 100000
structure FcF where
  k : Int
  mw : Addr
  it : Addr
  i : Nat
noncomputable def fcTail (sa : Int → Addr) (fr : List FcF) : List (Addr × Obj) := fr.flatMap fun f => [(f.mw, mwO f.it), (f.it, itO (sa f.k) f.i)]
noncomputable def fcRem (keys : List Int) (ch : Int → List Int) (S : Int → Bool) (fr : List FcF) : Nat := ((keys.filter fun k => !S k).map fun k => (ch k).length).sum + (fr.map fun f => (ch f.k).length - f.i).sum
structure FcS (w : World) (keys : List Int) (ch : Int → List Int) (S : Int → Bool) (n : Nat) (fr : List FcF) (so od : Obj) (kvs : List (Int × Value)) (vs : List Value) : Prop where
  seen : so.SetObjOf (IK w) S n
  cnt : n + (keys.filter fun k => !S k).length ≤ keys.length
  frn : fr.length ≤ n
  dict : od.IsDictOf (IK w) kvs
  kk : kvs.map (·.1) = fr.map (·.k)
  vals : IntsAre vs (fr.map (·.k))
  mem : ∀ f ∈ fr, f.k ∈ keys
  idx : ∀ f ∈ fr, f.i ≤ (ch f.k).length
  sorted : (fr.map (·.k)).Pairwise (· < ·)
structure FcA (sa : Int → Addr) (fr : List FcF) (fa ad : List Addr) : Prop where
  off : ∀ p ∈ fcTail sa fr, p.1 ∉ ad ∧ p.1 ∉ fa
  nd : ((fcTail sa fr).map (·.1)).Nodup
theorem sameUp_map : ∀ {a b : List (Addr × Obj)}, TI.SameUp a b → b.map (·.1) = a.map (·.1) := by
  intro a
  induction a with
  | nil => intro b h; cases b with
    | nil => rfl
    | cons _ _ => exact h.elim
  | cons p ps ih => intro b h; cases b with
    | nil => exact h.elim
    | cons q qs =>
      obtain ⟨h1, _, h3⟩ := h
      rw [List.map_cons, List.map_cons, h1, ih h3]
theorem ints_snoc {vs : List Value} {l : List Int} (h : IntsAre vs l) (k : Int) (t : Tok) : IntsAre (vs ++ [.int k t]) (l ++ [k]) := by
  induction h with
  | nil => exact .cons k t .nil
  | cons n u _ ih => exact .cons n u ih
theorem ints_snoc' : ∀ {vs : List Value} {l : List Int} {k : Int}, IntsAre vs (l ++ [k]) → ∃ vs0 t, vs = vs0 ++ [.int k t] ∧ IntsAre vs0 l := by
  intro vs l
  induction l generalizing vs with
  | nil => intro k h; cases h with
    | cons n t h => cases h; exact ⟨[], t, rfl, .nil⟩
  | cons x r ih => intro k h; cases h with
    | cons n t h =>
      obtain ⟨v0, u, e, h0⟩ := ih h
      exact ⟨.int x t :: v0, u, by rw [e]; rfl, .cons x t h0⟩
theorem fcTail_snoc (sa : Int → Addr) (fr : List FcF) (f : FcF) : fcTail sa (fr ++ [f]) = fcTail sa fr ++ [(f.mw, mwO f.it), (f.it, itO (sa f.k) f.i)] := by
  unfold fcTail; rw [List.flatMap_append]; rfl
theorem filter_drop {keys : List Int} {S : Int → Bool} {k : Int} (hk : k ∈ keys) (hS : S k = false) : (keys.filter fun x => !(S x || decide (x = k))).length + 1 ≤ (keys.filter fun x => !S x).length := by
  induction keys with
  | nil => cases hk
  | cons x r ih =>
    by_cases e : x = k
    · subst e
      have h1 : (List.filter (fun y => !(S y || decide (y = x))) (x :: r)) = List.filter (fun y => !(S y || decide (y = x))) r := by rw [List.filter_cons]; simp
      have h2 : (List.filter (fun y => !S y) (x :: r)) = x :: List.filter (fun y => !S y) r := by rw [List.filter_cons]; simp [hS]
      rw [h1, h2, List.length_cons]
      have : (List.filter (fun y => !(S y || decide (y = x))) r).length ≤ (List.filter (fun y => !S y) r).length := by
        rw [← List.countP_eq_length_filter, ← List.countP_eq_length_filter]
        exact List.countP_mono_left (fun y _ h => by simp at h ⊢; exact h.1)
      lia
    · have hr : k ∈ r := by rcases List.mem_cons.mp hk with h | h; exact absurd h.symm e; exact h
      have := ih hr
      rw [List.filter_cons, List.filter_cons]
      cases hx : S x <;> simp [hx, e] <;> simpa using this
theorem sum_drop {keys : List Int} {S : Int → Bool} {k : Int} {c : Int → Nat} (hk : k ∈ keys) (hS : S k = false) : ((keys.filter fun x => !(S x || decide (x = k))).map c).sum + c k ≤ ((keys.filter fun x => !S x).map c).sum := by
  have mono : ∀ r : List Int, ((r.filter fun y => !(S y || decide (y = k))).map c).sum ≤ ((r.filter fun y => !S y).map c).sum := by
    intro r
    induction r with
    | nil => exact Nat.le_refl _
    | cons x r ih =>
      rw [List.filter_cons, List.filter_cons]
      cases hx : S x <;> by_cases e : x = k <;> simp [hx, e] <;> simp at ih <;> lia
  induction keys with
  | nil => cases hk
  | cons x r ih =>
    by_cases e : x = k
    · subst e
      have h1 : (List.filter (fun y => !(S y || decide (y = x))) (x :: r)) = List.filter (fun y => !(S y || decide (y = x))) r := by rw [List.filter_cons]; simp
      have h2 : (List.filter (fun y => !S y) (x :: r)) = x :: List.filter (fun y => !S y) r := by rw [List.filter_cons]; simp [hS]
      rw [h1, h2, List.map_cons, List.sum_cons]
      have := mono r
      lia
    · have hr : k ∈ r := by rcases List.mem_cons.mp hk with h | h; exact absurd h.symm e; exact h
      have := ih hr
      rw [List.filter_cons, List.filter_cons]
      simp at this
      cases hx : S x <;> simp [hx, e] <;> lia
/-- a node is pushed -/
theorem fcS_push {w : World} {keys : List Int} {ch : Int → List Int} {S : Int → Bool} {n : Nat} {fr : List FcF} {so od so' od' : Obj} {kvs : List (Int × Value)} {vs : List Value} {k : Int} {t : Tok} {v : Value} {M I : Addr}
    (H : FcS w keys ch S n fr so od kvs vs) (hk : k ∈ keys) (hS : S k = false) (hf : ∀ f ∈ fr, f.k < k) (h1 : so'.SetObjOf (IK w) (fun k' => S k' || decide (k' = k)) (n + 1)) (h2 : od'.IsDictOf (IK w) (kvs ++ [(k, v)])) :
    FcS w keys ch (fun k' => S k' || decide (k' = k)) (n + 1) (fr ++ [⟨k, M, I, 0⟩]) so' od' (kvs ++ [(k, v)]) (vs ++ [.int k t]) := by
  refine ⟨h1, ?_, ?_, h2, ?_, ?_, ?_, ?_, ?_⟩
  · have := filter_drop hk hS; have := H.cnt; lia
  · have := H.frn; simp; exact this
  · rw [List.map_append, List.map_append, H.kk]; rfl
  · rw [List.map_append]; exact ints_snoc H.vals k t
  · intro f hm
    rcases List.mem_append.mp hm with hm | hm
    · exact H.mem f hm
    · rw [List.mem_singleton.mp hm]; exact hk
  · intro f hm
    rcases List.mem_append.mp hm with hm | hm
    · exact H.idx f hm
    · rw [List.mem_singleton.mp hm]; exact Nat.zero_le _
  · rw [List.map_append, List.pairwise_append]
    refine ⟨H.sorted, List.pairwise_singleton _ _, fun a ha b hb => ?_⟩
    obtain ⟨f, hf', rfl⟩ := List.mem_map.mp ha
    rw [show b = k from List.mem_singleton.mp hb]
    exact hf f hf'
theorem fcRem_push {keys : List Int} {ch : Int → List Int} {S : Int → Bool} {fr : List FcF} {k : Int} {M I : Addr} (hk : k ∈ keys) (hS : S k = false) : fcRem keys ch (fun k' => S k' || decide (k' = k)) (fr ++ [⟨k, M, I, 0⟩]) ≤ fcRem keys ch S fr := by
  have := sum_drop (c := fun k => (ch k).length) hk hS
  unfold fcRem
  rw [List.map_append, List.sum_append]
  simp only [List.map_cons, List.map_nil, List.sum_cons, List.sum_nil] at *
  lia
theorem fcA_push {sa : Int → Addr} {fr : List FcF} {fa ad : List Addr} {k : Int} {M I : Addr} (H : FcA sa fr fa ad) (h1 : ∀ p ∈ fcTail sa fr, p.1 < I) (h2 : ∀ b ∈ ad, b < I) (h3 : ∀ b ∈ fa, b < I) (hM : I < M) : FcA sa (fr ++ [⟨k, M, I, 0⟩]) fa ad := by
  constructor
  · intro p hp
    rw [fcTail_snoc] at hp
    rcases List.mem_append.mp hp with hp | hp
    · exact H.off p hp
    · rcases List.mem_cons.mp hp with rfl | hp
      · exact ⟨fun q => Nat.lt_asymm (h2 _ q) hM, fun q => Nat.lt_asymm (h3 _ q) hM⟩
      · rw [List.mem_singleton.mp hp]
        exact ⟨fun q => Nat.lt_irrefl _ (h2 _ q), fun q => Nat.lt_irrefl _ (h3 _ q)⟩
  · rw [fcTail_snoc, List.map_append, List.nodup_append]
    refine ⟨H.nd, ?_, ?_⟩
    · simp only [List.map_cons, List.map_nil]
      exact List.nodup_cons.mpr ⟨fun q => Nat.lt_irrefl _ ((List.mem_singleton.mp q) ▸ hM), List.nodup_cons.mpr ⟨List.not_mem_nil, List.nodup_nil⟩⟩
    · intro a ha b hb e
      obtain ⟨p, hp, rfl⟩ := List.mem_map.mp ha
      have := h1 p hp
      simp only [List.map_cons, List.map_nil, List.mem_cons, List.not_mem_nil, or_false] at hb
      rcases hb with rfl | rfl
      · rw [e] at this; exact Nat.lt_asymm this hM
      · rw [e] at this; exact Nat.lt_irrefl _ this
/-- the top is popped -/
theorem fcS_pop {w : World} {keys : List Int} {ch : Int → List Int} {S : Int → Bool} {n : Nat} {fr : List FcF} {f : FcF} {so od od' : Obj} {kvs : List (Int × Value)} {vs : List Value} {k : Int} {t : Tok}
    (H : FcS w keys ch S n (fr ++ [f]) so od kvs (vs ++ [.int k t])) (hv : IntsAre vs (fr.map (·.k))) (h2 : od'.IsDictOf (IK w) (without kvs f.k)) : FcS w keys ch S n fr so od' (without kvs f.k) vs := by
  have hs := H.sorted
  rw [List.map_append, List.pairwise_append] at hs
  refine ⟨H.seen, H.cnt, ?_, h2, ?_, hv, fun x hx => H.mem x (List.mem_append_left _ hx), fun x hx => H.idx x (List.mem_append_left _ hx), hs.1⟩
  · have := H.frn; simp at this; lia
  · have e := H.kk
    have hw : (without kvs f.k).map (·.1) = (kvs.map (·.1)).filter (fun x => !decide (x = f.k)) := by
      unfold without
      rw [List.filter_map]
      congr 1
      refine List.filter_congr fun x _ => ?_
      simp
    rw [hw, e, List.map_append, List.filter_append]
    have h1 : List.filter (fun x => !decide (x = f.k)) (fr.map (·.k)) = fr.map (·.k) := by
      refine List.filter_eq_self.mpr fun a ha => ?_
      have := hs.2.2 a ha f.k (by simp)
      simp; lia
    rw [h1]; simp
theorem fcRem_pop {keys : List Int} {ch : Int → List Int} {S : Int → Bool} {fr : List FcF} {f : FcF} : fcRem keys ch S fr ≤ fcRem keys ch S (fr ++ [f]) := by
  unfold fcRem
  rw [List.map_append, List.sum_append]
  lia
theorem fcA_pop {sa : Int → Addr} {fr : List FcF} {f : FcF} {fa ad : List Addr} (H : FcA sa (fr ++ [f]) fa ad) : FcA sa fr fa ad := by
  have h1 := H.off
  have h2 := H.nd
  rw [fcTail_snoc] at h1 h2
  rw [List.map_append, List.nodup_append] at h2
  exact ⟨fun p hp => h1 p (List.mem_append_left _ hp), h2.1⟩
theorem fcS_step {w : World} {keys : List Int} {ch : Int → List Int} {S : Int → Bool} {n : Nat} {fr : List FcF} {f : FcF} {so od : Obj} {kvs : List (Int × Value)} {vs : List Value}
    (H : FcS w keys ch S n (fr ++ [f]) so od kvs vs) (hi : f.i < (ch f.k).length) : FcS w keys ch S n (fr ++ [{ f with i := f.i + 1 }]) so od kvs vs := by
  have e : (fr ++ [({ f with i := f.i + 1 } : FcF)]).map (fun x : FcF => x.k) = (fr ++ [f]).map (fun x : FcF => x.k) := by simp
  refine ⟨H.seen, H.cnt, ?_, H.dict, ?_, ?_, ?_, ?_, ?_⟩
  · have := H.frn; simp at this ⊢; exact this
  · rw [e]; exact H.kk
  · rw [e]; exact H.vals
  · intro x hx
    rcases List.mem_append.mp hx with hx | hx
    · exact H.mem x (List.mem_append_left _ hx)
    · rw [List.mem_singleton.mp hx]; exact H.mem f (List.mem_append_right _ (.head _))
  · intro x hx
    rcases List.mem_append.mp hx with hx | hx
    · exact H.idx x (List.mem_append_left _ hx)
    · rw [List.mem_singleton.mp hx]; exact hi
  · rw [e]; exact H.sorted
theorem fcRem_step {keys : List Int} {ch : Int → List Int} {S : Int → Bool} {fr : List FcF} {f : FcF} (hi : f.i < (ch f.k).length) : fcRem keys ch S (fr ++ [{ f with i := f.i + 1 }]) + 1 = fcRem keys ch S (fr ++ [f]) := by
  unfold fcRem
  rw [List.map_append, List.sum_append, List.map_append, List.sum_append]
  simp only [List.map_cons, List.map_nil, List.sum_cons, List.sum_nil]
  lia
theorem fcA_step {sa : Int → Addr} {fr : List FcF} {f : FcF} {fa ad : List Addr} (H : FcA sa (fr ++ [f]) fa ad) : FcA sa (fr ++ [{ f with i := f.i + 1 }]) fa ad := by
  have h1 := H.off
  have h2 := H.nd
  rw [fcTail_snoc] at h1 h2
  constructor
  · intro p hp
    rw [fcTail_snoc] at hp
    rcases List.mem_append.mp hp with hp | hp
    · exact h1 p (List.mem_append_left _ hp)
    · rcases List.mem_cons.mp hp with rfl | hp
      · exact h1 (f.mw, mwO f.it) (List.mem_append_right _ (.head _))
      · rw [List.mem_singleton.mp hp]
        exact h1 (f.it, itO (sa f.k) f.i) (List.mem_append_right _ (.tail _ (.head _)))
  · rw [fcTail_snoc]
    simpa using h2
theorem fc_lt {w : World} {keys : List Int} {ch : Int → List Int} {S : Int → Bool} {n : Nat} {fr : List FcF} {f : FcF} {so od : Obj} {kvs : List (Int × Value)} {vs : List Value}
    (H : FcS w keys ch S n (fr ++ [f]) so od kvs vs) {y : Int} (hy : f.k < y) : ∀ x ∈ fr ++ [{ f with i := f.i + 1 }], x.k < y := by
  have hs := H.sorted
  rw [List.map_append, List.pairwise_append] at hs
  intro x hx
  rcases List.mem_append.mp hx with hx | hx
  · exact Int.lt_trans (hs.2.2 x.k (List.mem_map_of_mem hx) f.k (by simp)) hy
  · rw [List.mem_singleton.mp hx]; exact hy
end

section
open PySem PySem.Calls PySem.W PyProof.Rows
set_option Elab.async false
set_option maxRecDepth 100000
theorem fc_news_step {g h h' : Heap} {L : Addr} {sa : Int → Addr} {fr0 : List FcF} {f : FcF} {A frs' : List (Addr × Obj)} {fa ad : List Addr} (N : News g L h (A ++ (fcTail sa (fr0 ++ [f]) ++ frs'))) (HA : FcA sa (fr0 ++ [f]) fa ad) (hA : ∀ p ∈ A, p.1 ∈ ad) (hfr : frs'.map (·.1) = fa)
    (hs : Heap.SameBut f.it h h') (ho : h'.get? f.it = some (itO (sa f.k) (f.i + 1))) : News g L h' (A ++ (fcTail sa (fr0 ++ [{ f with i := f.i + 1 }]) ++ frs')) := by
  have hoff := HA.off
  have hnd := HA.nd
  rw [fcTail_snoc] at N hoff hnd ⊢
  have hit : (f.it, itO (sa f.k) f.i) ∈ fcTail sa fr0 ++ [(f.mw, mwO f.it), (f.it, itO (sa f.k) f.i)] := List.mem_append_right _ (.tail _ (.head _))
  have h1 := hoff _ hit
  have hN := N _ (List.mem_append_right _ (List.mem_append_left _ hit))
  have keep : ∀ p ∈ A ++ (fcTail sa fr0 ++ [(f.mw, mwO f.it)] ++ frs'), p.1 ≠ f.it := by
    intro p hp e
    rcases List.mem_append.mp hp with hp | hp
    · exact h1.1 (e ▸ hA p hp)
    · rcases List.mem_append.mp hp with hp | hp
      · have e2 : fcTail sa fr0 ++ [(f.mw, mwO f.it), (f.it, itO (sa f.k) f.i)] = (fcTail sa fr0 ++ [(f.mw, mwO f.it)]) ++ [(f.it, itO (sa f.k) f.i)] := by simp
        rw [e2, List.map_append, List.nodup_append] at hnd
        exact hnd.2.2 p.1 (List.mem_map_of_mem hp) f.it (by simp) e
      · exact h1.2 (by rw [← hfr]; exact List.mem_map.mpr ⟨p, hp, e⟩)
  intro p hp
  by_cases e : p = (f.it, itO (sa f.k) (f.i + 1))
  · subst e
    exact ⟨ho, hN.2⟩
  · have hp' : p ∈ A ++ (fcTail sa fr0 ++ [(f.mw, mwO f.it)] ++ frs') := by
      simp only [List.mem_append, List.mem_cons, List.not_mem_nil, or_false] at hp ⊢
      grind
    have hp2 : p ∈ A ++ (fcTail sa fr0 ++ [(f.mw, mwO f.it), (f.it, itO (sa f.k) f.i)] ++ frs') := by
      simp only [List.mem_append, List.mem_cons, List.not_mem_nil, or_false] at hp' ⊢
      grind
    exact ⟨(hs.2 _ (keep p hp')).trans (N p hp2).1, (N p hp2).2⟩
theorem fc_news_drop {g h h' : Heap} {L : Addr} {sa : Int → Addr} {fr0 : List FcF} {f : FcF} {A frs' : List (Addr × Obj)} {fa ad : List Addr} (N : News g L h (A ++ (fcTail sa (fr0 ++ [f]) ++ frs'))) (HA : FcA sa (fr0 ++ [f]) fa ad) (hA : ∀ p ∈ A, p.1 ∈ ad) (hfr : frs'.map (·.1) = fa)
    (hs : Heap.SameBut f.it h h') : News g L h' ((A ++ fcTail sa fr0) ++ frs') := by
  have hoff := HA.off
  have hnd := HA.nd
  rw [fcTail_snoc] at N hoff hnd
  have hit : (f.it, itO (sa f.k) f.i) ∈ fcTail sa fr0 ++ [(f.mw, mwO f.it), (f.it, itO (sa f.k) f.i)] := List.mem_append_right _ (.tail _ (.head _))
  have h1 := hoff _ hit
  have keep : ∀ p ∈ (A ++ fcTail sa fr0) ++ frs', p.1 ≠ f.it := by
    intro p hp e
    rcases List.mem_append.mp hp with hp | hp
    · rcases List.mem_append.mp hp with hp | hp
      · exact h1.1 (e ▸ hA p hp)
      · rw [List.map_append, List.nodup_append] at hnd
        exact hnd.2.2 p.1 (List.mem_map_of_mem hp) f.it (by simp) e
    · exact h1.2 (by rw [← hfr]; exact List.mem_map.mpr ⟨p, hp, e⟩)
  intro p hp
  have hp2 : p ∈ A ++ (fcTail sa fr0 ++ [(f.mw, mwO f.it), (f.it, itO (sa f.k) f.i)] ++ frs') := by
    simp only [List.mem_append] at hp ⊢
    grind
  exact ⟨(hs.2 _ (keep p hp)).trans (N p hp2).1, (N p hp2).2⟩
theorem fc_mem_it {sa : Int → Addr} {fr0 : List FcF} {f : FcF} {A frs' : List (Addr × Obj)} : (f.it, itO (sa f.k) f.i) ∈ A ++ (fcTail sa (fr0 ++ [f]) ++ frs') := by
  rw [fcTail_snoc]; simp
theorem fc_mem_mw {sa : Int → Addr} {fr0 : List FcF} {f : FcF} {A frs' : List (Addr × Obj)} : (f.mw, mwO f.it) ∈ A ++ (fcTail sa (fr0 ++ [f]) ++ frs') := by
  rw [fcTail_snoc]; simp
theorem ints_at {vs : List Value} {l : List Int} (h : IntsAre vs l) : ∀ {i : Nat}, i < l.length → ∃ y t, vs[i]? = some (.int y t) ∧ y ∈ l := by
  induction h with
  | nil => intro i hi; exact absurd hi (Nat.not_lt_zero _)
  | cons n t _ ih =>
    intro i hi
    cases i with
    | zero => exact ⟨n, t, rfl, .head _⟩
    | succ i =>
      obtain ⟨y, u, h1, h2⟩ := ih (Nat.lt_of_succ_lt_succ hi)
      exact ⟨y, u, by simpa using h1, .tail _ h2⟩
section
variable {prog : Program} {w : World} {A₀ : Around} {s : Shared} {h₀ : Heap} {L a : Addr} {name : Str} {scope : Scope} {cd : Value} {l : List Env} {K : Frag} {p : Program} {loose : List Str} {mean : ExcName → Option Value} {mg mb : Str → Option Value}
theorem callWith_mw0 {A : Around} {E : Value → Shared → Prop} {pos : Pos} {u it : Addr} {Q : Value → Shared → Prop} (ho : s.heap.get? u = some (mwO it)) (h : wpAny (model prog w) A (call (.ref u) []) Q E s) :
    wpAny (model prog w) A (callWith pos (.ref u) [] [] []) Q E s := by
  unfold callWith
  refine wpAny_bind (wpAny_holding ?_)
  refine PyProof.Rows.evalArgs_none ?_
  refine wpAny_bind (wpAny_standAt ?_)
  refine wpAny_bind (m := keeperOf (.ref u)) ?_
  unfold keeperOf
  refine wpAny_bind (wpAny_load ho ?_)
  simp only [show (Value.type "method-wrapper" != Value.type "method") = true by decide, show (Value.type "method-wrapper" == Value.type "builtin_function_or_method" || Value.type "method-wrapper" == Value.type "method-wrapper") = true by decide, if_true]
  refine wpAny_pure ?_
  exact wpAny_bind (wpAny_mono h (fun r s₂ hr => wpAny_bind (wpAny_holding (wpAny_point (wpAny_pure hr)))) fun _ _ x => x)
theorem callWith_mw {A : Around} {E : Value → Shared → Prop} {pos : Pos} {u it : Addr} {env : Env} {Q : Value → Shared → Prop} (ho : s.heap.get? u = some (mwO it)) (h : wpAny (model prog w) A (call (.ref u) []) Q E s) :
    wpAny (model prog w) A (callWith pos (.ref u) [] (backTo pos (starEach [] env)) []) Q E s := callWith_mw0 ho h
theorem led_list {h₀ h : Heap} {L a : Addr} {news : List (Addr × Obj)} {its : Array Value} {n : Nat} (N : News h₀ L h news) (hm : (a, W.listOf its n) ∈ news) : h.IsList a its := ⟨_, (N _ hm).1, rfl, _, rfl⟩
/-- try: .. except StopIteration: .. in a frame whose outer frames all stand in the ledger -/
theorem try_stop {body orelse : List Stmt} {np pos pos' : Pos} {b₀ : Stmt} {suite : List Stmt} {Q : Flow → Shared → Prop} (hfr : A₀.frames = some l) (X : K.In h₀) (T : Top p loose mean mg mb h₀) (e : nsIn K mainGlobals (Str.ofString "StopIteration") = some none)
    (h : wpAny (model prog w) (A₀.deeper (envOf name scope L a cd)) (execs body (envOf name scope L a cd)) (fun f s₁ => match f with | .next => wpAny (model prog w) (A₀.deeper (envOf name scope L a cd)) (execs orelse (envOf name scope L a cd)) Q (fun _ _ => False) s₁ | f => Q f s₁)
      (fun x s₁ => ∃ ea h m new frs, x = .ref ea ∧ Heap.NewExc h s₁.heap ea "StopIteration" ∧ Fr h₀ L h m ∧ News h₀ L h (new ++ frs) ∧ TI.Frs l frs ∧ (∀ p ∈ new, p.1 ∉ L :: frs.map (·.1)) ∧
        ∀ h' frs', TI.SameUp frs frs' → TI.Frs l frs' → Fr h₀ L h' m → News h₀ L h' (new ++ frs') → wpAny (model prog w) ((A₀.deeper (envOf name scope L a cd)).mark (some (.ref ea))) (execs (b₀ :: suite) (envOf name scope L a cd)) Q (fun _ _ => False) { s₁ with heap := h' }) s)
    (hk : scope.kind = .function) (hxk : (envOf name scope L a cd).kindOf (Str.ofString "StopIteration") = some .globalImplicit) :
    wpAny (model prog w) (A₀.deeper (envOf name scope L a cd)) (exec (.Try body [.ExceptHandler (some (.Name (Str.ofString "StopIteration") np)) none (b₀ :: suite) pos] orelse [] pos') (envOf name scope L a cd)) Q (fun _ _ => False) s := by
  refine wpAny_Try_except (wpAny_mono h (fun _ _ x => x) fun x s₁ hx => ?_)
  obtain ⟨ea, hh, m, new, frs, rfl, hx, F, N, Fs, hap, k⟩ := hx
  refine TLg.noted_newA hfr Fs hx F N hap (fun h' frs' SU Fs' H => ?_) hk
  refine TT.HeldNA.land H fun h'' H' => ?_
  refine wpAny_handleBy_builtin (X := "StopIteration") (T := "StopIteration") (b := true) (isSubtype_of_subB (by decide +kernel)) (isSubtype_of_subB (by decide +kernel)) (isSubtype_of_subB (by decide +kernel)) (wpAny_passesOwnAt PassesOwnAt.never ?_)
  refine nameX_B (cl := []) H'.held.fr X (topRead_of T) e (by decide +kernel) (by decide) ⟨rfl, H'.isA, ?_⟩ hk hxk
  rw [if_pos rfl]
  exact H'.lands fun h3 F3 N3 => wpAny_passesOwnAt PassesOwnAt.never (k h3 frs' SU Fs' F3 N3)
end
end

section
open PySem PySem.Calls PySem.W PyProof.Rows
set_option Elab.async false
set_option maxRecDepth 100000
set_option maxHeartbeats 3000000
set_option pp.deepTerms false
set_option pp.maxSteps 20000

structure GraphAt (w : World) (h : Heap) (nd : Addr) (keys : List Int) (ia da sa : Int → Addr) (u t : Int → Tok) (np : Int → Int) (su : Int → List Value) (sn : Int → Nat) (ch : Int → List Int) : Prop where
  dict : h.DictOf (IK w) nd (keys.map fun k => (k, Value.ref (ia k)))
  low : (nd == sysModules) = false
  len : keys.length ≤ 900
  info : ∀ k ∈ keys, h.get? (ia k) = some (infoO k (u k) (np k) (t k) (da k) (sa k))
  dct : ∀ k ∈ keys, h.get? (da k) = some (dictOf [] 0)
  suc : ∀ k ∈ keys, h.get? (sa k) = some (W.listOf (su k).toArray (sn k))
  kids : ∀ k ∈ keys, IntsAre (su k) (ch k)
  sulen : ∀ k ∈ keys, (su k).length ≤ 900


theorem wp_halt {α : Type} {M : Model} {A : Around} {t : Sem α} {Q : α → Shared → Prop} {E : Value → Shared → Prop} {s : Shared} (h : wpAny M A t (fun x s => Halt (Q x s)) E s) : wpAny M A t Q E s := h
theorem whileS {prog : Program} {w : World} {A : Around} {E : Value → Shared → Prop} {s : Shared} {env : Env} {test : Expr} {body orelse : List Stmt} {pos : Pos} {Q : Flow → Shared → Prop} (I : Nat → Shared → Prop)
    (hE : PassesOwn (model prog w) A env E) (n : Nat) (h : I n s)
    (turn : ∀ n s, I n s → wpAny (model prog w) A (isTrue test env (eval test env)) (fun b s₂ =>
      if b then wpAny (model prog w) A (execs body env) (fun f s₃ => match f with
          | .ret v => Q (.ret v) s₃
          | .brk => Q .next s₃
          | _ => ∃ m, m < n ∧ I m s₃) E s₂
      else wpAny (model prog w) A (execs orelse env) Q E s₂) E s) :
    wpAny (model prog w) A (exec (.While test body orelse pos) env) Q E s := by
  refine wpAny_While (codeAny_whileLoop I (fun n s' hI => ?_) n h)
  refine wpAny_mono (turn n s' hI) (fun b s₂ h₂ => ?_) hE
  cases b with
  | false =>
    simp only [Bool.false_eq_true, if_false] at h₂ ⊢
    exact wpAny_mono h₂ (fun _ _ x => x) hE
  | true =>
    simp only [if_true] at h₂ ⊢
    refine wpAny_mono h₂ (fun f s₃ h₃ => ?_) hE
    cases f <;> exact h₃
/-- a while, its posts under names -/
theorem whileV {prog : Program} {w : World} {A : Around} {E : Value → Shared → Prop} {s : Shared} {env : Env} {test : Expr} {body orelse : List Stmt} {pos : Pos} {Q : Flow → Shared → Prop} (I : Nat → Shared → Prop)
    (hE : PassesOwn (model prog w) A env E) (n : Nat) (h : I n s)
    (turn : ∀ n s, I n s → ∀ QB : Flow → Shared → Prop, (∀ s₃, (∃ m, m < n ∧ I m s₃) → QB .next s₃) → (∀ v s₃, Q (.ret v) s₃ → QB (.ret v) s₃) → (∀ s₃, Q .next s₃ → QB .brk s₃) →
      wpAny (model prog w) A (isTrue test env (eval test env)) (fun b s₂ => if b then wpAny (model prog w) A (execs body env) QB E s₂ else wpAny (model prog w) A (execs orelse env) Q E s₂) E s) :
    wpAny (model prog w) A (exec (.While test body orelse pos) env) Q E s :=
  whileS I hE n h fun n s hI => turn n s hI _ (fun _ h => h) (fun _ _ h => h) fun _ h => h
theorem execs_cut {prog : Program} {w : World} {A : Around} {E : Value → Shared → Prop} {s : Shared} {env : Env} {st : Stmt} {rest : List Stmt} {Q : Flow → Shared → Prop} {P : Shared → Prop}
    (h1 : wpAny (model prog w) A (exec st env) (fun f s' => f = .next ∧ P s') E s) (h2 : ∀ s', P s' → wpAny (model prog w) A (execs rest env) Q E s') : wpAny (model prog w) A (execs (st :: rest) env) Q E s := by
  refine wpAny_execs_cons (wpAny_mono h1 (fun f s' h => ?_) fun _ _ e => e)
  obtain ⟨rfl, h⟩ := h
  exact h2 s' h
section
variable {prog : Program} {w : World} {A : Around} {E : Value → Shared → Prop} {s : Shared} {h₀ : Heap} {L : Addr} {m : Str → Option Value} {news : List (Addr × Obj)} {Q : Value → Shared → Prop}
theorem it_list {l : Addr} {its : Array Value} (F : Fr h₀ L s.heap m) (N : News h₀ L s.heap news) (hl : s.heap.IsList l its)
    (h : ∀ (I : Addr) h', Fr h₀ L h' m → News h₀ L h' ((I, itO l 0) :: news) → (∀ p ∈ news, p.1 < I) → Q (.ref I) { s with heap := h' }) :
    wpAny (model prog w) A (call (.builtin "iter") [.ref l]) Q E s := by
  refine call_function_entry (by decide +kernel) (by decide +kernel) kdk_entry_iter (kdk_args_iter _) ?_
  unfold Builtin.«iter»
  refine wpAny_bind (m := someArgs "iter" 1 2 _) (wpAny_of_eq (a := [Value.ref l]) (by first | rfl | kernel_rfl!) ?_)
  show wpAny _ _ (pyIter (.ref l) >>= _) _ _ _
  refine wpAny_bind (wpAny_pyIter_list hl ?_)
  exact wpAny_pure ⟨_, rfl, h _ _ (F.push _) (News.push F N _ rfl) (fun q hq => Heap.lt_size (N q hq).1)⟩
theorem ga_nextN {it l : Addr} {i : Nat} (F : Fr h₀ L s.heap m) (N : News h₀ L s.heap news) (hm : (it, itO l i) ∈ news)
    (h : ∀ (M : Addr) h' tk, Fr h₀ L h' m → News h₀ L h' ((M, mwO it) :: news) → (∀ p ∈ news, p.1 < M) → Q (.ref M) { s with heap := h', toks := tk }) :
    wpAny (model prog w) A (getAttr (.ref it) "__next__" true) Q E s :=
  ga_next (N _ hm).1 fun tk => h _ _ tk (F.push _) (News.push F N _ rfl) (fun q hq => Heap.lt_size (N q hq).1)
theorem g_item {value slice : PySem.Expr} {K : Type} [DecidableEq K] {knd : KeyKind prog w K} {d : Addr} {kvs : List (K × Value)} {k : K} {key v : Value} (F : Fr h₀ L s.heap m) (hD : h₀.DictOf knd d kvs) (hkey : knd.is k key = true) (hl : valueAt kvs k = some v) (h : Q v { s with toks := s.toks + 1 })
    (hs : subscripted slice false (.ref d) key = operate [.ref d, key] (getItem (.ref d) key) := by with_unfolding_all rfl) (hg : ∀ r, letTemporaryGo value (.ref d) r = pure () := by intro _; with_unfolding_all rfl) :
    wpAny (model prog w) A (subscriptTail value slice (.ref d) key) Q E s := by
  obtain ⟨o, ho, hd⟩ := Heap.dictOf_iff.mp hD
  have hD' : s.heap.DictOf knd d kvs := Heap.dictOf_iff.mpr ⟨o, F.keep _ _ ho, hd⟩
  exact subscriptTail_builtin hD'.typeIs slot_dict_getitem.lookup (wpAny_getItem_of hkey hD'.mapOf hl h) hs hg
end
theorem valueAt_map {keys : List Int} {f : Int → Value} {k : Int} (h : k ∈ keys) : valueAt (keys.map fun k => (k, f k)) k = some (f k) := by
  unfold valueAt
  induction keys with
  | nil => cases h
  | cons x r ih =>
    rw [List.map_cons, List.find?_cons]
    by_cases e : x = k
    · subst e; simp
    · have : decide ((x, f x).1 = k) = false := decide_eq_false e
      rw [this]
      rcases List.mem_cons.mp h with h | h
      · exact absurd h.symm e
      · exact ih h
theorem valueAt_none {kvs : List (Int × Value)} {k : Int} (h : k ∉ kvs.map (·.1)) : valueAt kvs k = none := by
  unfold valueAt
  rw [Option.map_eq_none_iff, List.find?_eq_none]
  intro x hx q
  exact h (List.mem_map.mpr ⟨x, hx, of_decide_eq_true q⟩)
noncomputable abbrev fcM (sx nd st it se ns : Addr) : Str → Option Value := fun y => if y = Str.ofString "node2stacki" then some (.ref ns) else if y = Str.ofString "seen" then some (.ref se) else if y = Str.ofString "itstack" then some (.ref it) else if y = Str.ofString "stack" then some (.ref st) else if y = Str.ofString "n2i" then some (.ref nd) else List.lookup y [(Str.ofString "self", Value.ref sx)].reverse
theorem allLt_mem {a : Nat} : ∀ {l : List (Addr × Obj)}, AllLt a l → ∀ p ∈ l, @LT.lt Nat _ p.1 a
  | [], _, _, hp => nomatch hp
  | q :: r, h, p, hp => by
    rcases List.mem_cons.mp hp with rfl | hp
    · exact h.1
    · exact allLt_mem h.2 p hp
theorem ne_of4 {q a b c d : Nat} (h : q < a) (h1 : a < b) (h2 : b < c) (h3 : c < d) : q ≠ d ∧ q ≠ c ∧ q ≠ b ∧ q ≠ a := by lia
theorem off_ts {sa : Int → Addr} {fr : List FcF} {fa ad : List Addr} {frs' : List (Addr × Obj)} (HA : FcA sa fr fa ad) (hf : ∀ q ∈ frs', q.1 ∉ ad) : ∀ p ∈ fcTail sa fr ++ frs', p.1 ∉ ad := by
  intro p hp
  rcases List.mem_append.mp hp with hp | hp
  · exact (HA.off p hp).1
  · exact hf p hp
theorem valueAt_some {kvs : List (Int × Value)} {k : Int} (h : k ∈ kvs.map (·.1)) : (valueAt kvs k).isSome = true := by
  unfold valueAt
  rw [Option.isSome_map, List.find?_isSome]
  obtain ⟨x, hx, e⟩ := List.mem_map.mp h
  exact ⟨x, hx, decide_eq_true e⟩
theorem nodeM {v v' : Value} {m : Str → Option Value} : (fun y => if y = Str.ofString "node" then some v else (fun y => if y = Str.ofString "node" then some v' else m y) y) = (fun y => if y = Str.ofString "node" then some v else m y) := by
  funext y
  by_cases e : y = Str.ofString "node"
  · rw [if_pos e, if_pos e]
  · rw [if_neg e, if_neg e]; show (if _ then _ else _) = _; rw [if_neg e]
/-- all but the top of the ledger -/
noncomputable abbrev fcL (P : Params) (I : Addr) (oI : Obj) (sx dx nd st it se ns : Addr) (rv : Value) (np nf : Int) (t1 t2 t3 t4 t5 t6 : Tok) (n : Nat) (od so : Obj) (fr : List FcF) (vs : List Value) (c1 c2 : Nat) (ts : List (Addr × Obj)) : List (Addr × Obj) :=
  (I, oI) :: (ns, od) :: (se, so) :: (it, W.listOf (fr.map fun f => Value.ref f.mw).toArray c1) :: (st, W.listOf vs.toArray c2) :: (sx, instObj 179 dx) :: (dx, sdict P nd rv np nf t1 t2 t3 t4 t5 t6 n) :: ts
section
variable {w : World} {mean : ExcName → Option Value} {mg mb : Str → Option Value} {p : Program} {loose : List Str} {cn : Str} {cs : Scope} {a : Addr} {ccd : Value} {cl : List (Str × Addr)} {outer : List Env} {A₀ : Around} {base h₀ : Heap} {L : Addr} {m : Str → Option Value} {s : Shared}
    {Q E : Value → Shared → Prop}

theorem fc_con {sx dx nd : Addr} {frs₀ : List (Addr × Obj)} {t1 t2 t3 t4 t5 t6 : Tok} {n : Nat} {rv : Value} {np nf : Int} {keys : List Int} {ia da sa : Int → Addr} {u t : Int → Tok} {npf : Int → Int} {su : Int → List Value} {snn : Int → Nat} {ch : Int → List Int}
    (B : Below A₀ base outer h₀) (F : Fr h₀ L s.heap m) (XB : (topo.heap_39 w.params).In base) (TB : Top p loose mean mg mb base) (N : News h₀ L s.heap [(sx, instObj 179 dx), (dx, sdict w.params nd rv np nf t1 t2 t3 t4 t5 t6 n)]) (hk : cs.kind = .function)
    (Fs : TI.Frs outer frs₀) (hfs : ∀ q ∈ frs₀, h₀.get? q.1 = some q.2 ∧ base.get? q.1 = none) (hsd : sx ≠ dx)
    (G : GraphAt w s.heap nd keys ia da sa u t npf su snn ch)
    (hnew : ∀ b, (b = nd ∨ ∃ k ∈ keys, b = ia k ∨ b = da k ∨ b = sa k) → b ≠ L ∧ b ∉ frs₀.map (·.1) ∧ b ≠ sx ∧ b ≠ dx)
    (hch : ∀ k ∈ keys, ∀ y ∈ ch k, y ∈ keys ∧ k < y)
    (ret : ∀ h' tk' oL frs', s.heap.get? L = some oL → TI.SameUp ((L, oL) :: frs₀) frs' → (∀ q ∈ frs', h'.get? q.1 = some q.2) → (∀ b o, s.heap.get? b = some o → b ≠ L → b ∉ frs₀.map (·.1) → h'.get? b = some o) → Q .none { s with heap := h', toks := tk' }) :
    wpAny (model PySem.Challenge.rw_nq0271_01.row.prog w) (AT 600 cn cs L a ccd cl outer) (call (.ref 169) [.ref sx]) Q E s := by
  revert XB TB hk
  k_fill
  w_on
  intro XB TB hk
  k_with_none
  k_with "exec While Constant cons nil" => k_dflt (refine halt ?_)
  k_with "exec While Constant bool cons nil" => k_dflt (refine halt ?_)
  refine wpAny_call ?_
  k_dflt (refine' enterT (binds := [(Str.ofString "self", Value.ref sx)]) ?k1 ?k2 ?k3 ?k5 ?k4 ?kA ?kF ?kK ?fs ?hfs ?k6 ?k7 ?k8 ?k9 ?kB ?_ ?c2 ?c3 ?c4 ?c5; (case kA => exact rfl); (case kF => exact rfl); (case kK => assumption); (case k1 => k_asm); (case k2 => k_asm); (case k3 => k_asm); (case k4 => k_asm); (case k5 => k_asm); (case fs => assumption); (case hfs => assumption); (case k6 => k_is); (case k7 => k_is); (case k8 => k_room); (case k9 => exact BindsTo.of_eq rfl); (case c5 => decide); (case kB => exact locs rfl); (case c2 => exact rfl); (case c3 => exact rfl); (case c4 => exact rfl); k_whole)
  intro g L' h₁ oL Fr1 F' N' X' T' kp hLo l1
  generalize hfrs : (L, oL) :: frs₀ = frs at Fr1 N' l1
  have kp' : ∀ b o, s.heap.get? b = some o → (b = nd ∨ ∃ k ∈ keys, b = ia k ∨ b = da k ∨ b = sa k) → g.get? b = some o := by
    intro b o hb hm
    obtain ⟨h1, h2, h3, h4⟩ := hnew b hm
    refine kp b o hb ?_ ?_
    · simp only [List.map_cons, List.map_nil, List.mem_cons, List.not_mem_nil, or_false]
      rintro (e | e)
      · exact h3 e
      · exact h4 e
    · intro q
      rcases List.mem_cons.mp q with e | q
      · exact h1 e
      · exact h2 q
  have Gg : GraphAt w g nd keys ia da sa u t npf su snn ch := by
    refine ⟨?_, G.low, G.len, fun k hk => kp' _ _ (G.info k hk) (.inr ⟨k, hk, .inl rfl⟩), fun k hk => kp' _ _ (G.dct k hk) (.inr ⟨k, hk, .inr (.inl rfl)⟩), fun k hk => kp' _ _ (G.suc k hk) (.inr ⟨k, hk, .inr (.inr rfl)⟩), G.kids, G.sulen⟩
    obtain ⟨o, ho, hd⟩ := Heap.dictOf_iff.mp G.dict
    exact Heap.dictOf_iff.mpr ⟨o, kp' _ _ ho (.inl rfl), hd⟩
  simp only [List.cons_append, List.nil_append] at N'
  refine wp_open fun Qf hQf => ?_
  w_strict k_steps
  with_unfolding_all refine For_invVF (by assumption) rfl rfl ?_
  w_strict k_steps
  rename_i _ st _ l1a _ it _ l1b _ se _ led hset _ l1c _ ns _ od lons _ _ hod _ l1d hp F' N'
  have hfa0 : ∀ b ∈ frs.map (·.1), b ≠ ns ∧ b ≠ se ∧ b ≠ it ∧ b ≠ st ∧ b ≠ sx ∧ b ≠ dx := by
    intro b hb
    obtain ⟨q, hq, rfl⟩ := List.mem_map.mp hb
    have h2 : q.1 ≠ sx ∧ q.1 ≠ dx := by
      rw [← hfrs] at hq
      have z1 := N _ (.head _)
      have z2 := N _ (.tail _ (.head _))
      rcases List.mem_cons.mp hq with rfl | hq
      · exact ⟨fun e => z1.2.1 e.symm, fun e => z2.2.1 e.symm⟩
      · have := (hfs q hq).1
        exact ⟨fun e => (by rw [e, z1.2.2] at this; cases this), fun e => (by rw [e, z2.2.2] at this; cases this)⟩
    obtain ⟨z1, z2, z3, z4⟩ := ne_of4 (allLt_mem l1a.2.2 q hq) l1b.1 l1c.1 l1d.1
    exact ⟨z1, z2, z3, z4, h2.1, h2.2⟩
  have hlt : sx < st ∧ dx < st ∧ st < it ∧ it < se ∧ se < ns := ⟨l1a.1, l1a.2.1, l1b.1, l1c.1, l1d.1⟩
  refine keysLoop (kvs := keys.map fun k => (k, Value.ref (ia k))) (news := (ns, od) :: (se, _) :: (it, W.listOf #[] 0) :: (st, W.listOf #[] 0) :: (sx, instObj 179 dx) :: (dx, sdict w.params nd rv np nf t1 t2 t3 t4 t5 t6 n) :: frs)
    (fun i m₁ news₁ => ∀ Z : Prop, (∀ ov S nn so od c1 c2 frs', m₁ = (fun y => if y = Str.ofString "node" then ov else fcM sx nd st it se ns y) → FcS w keys ch S nn [] so od [] [] → TI.SameUp frs frs' → TI.Frs (envX cn cs L a ccd cl :: outer) frs' →
      news₁ = (ns, od) :: (se, so) :: (it, W.listOf #[] c1) :: (st, W.listOf #[] c2) :: (sx, instObj 179 dx) :: (dx, sdict w.params nd rv np nf t1 t2 t3 t4 t5 t6 n) :: frs' → Z) → Z) rfl Gg.dict Gg.low F' N'
    (fun Zz KZ => KZ none _ _ _ _ _ _ frs ?_ ⟨hset, ?_, Nat.le_refl _, hod, rfl, .nil, (fun _ h => nomatch h), (fun _ h => nomatch h), .nil⟩ (.refl _) Fr1 rfl) ?_ ?_
  · funext y; by_cases e : y = Str.ofString "node"
    · subst e; rfl
    · rw [if_neg e]
  · rw [Nat.zero_add]; exact List.length_filter_le _ _
  · intro i k v t' m₁ news₁ h tk' I oI hki hJ F1 N1 hIne QJ hQJ hJr hJb hJc
    refine hJ _ ?_
    clear hJ
    rintro ov S nn so od' c1 c2 frs' rfl HS SU FS rfl
    have e1 : (fun y => if y = Str.ofString "node" then some (Value.int k t') else (fun y => if y = Str.ofString "node" then ov else fcM sx nd st it se ns y) y) = (fun y => if y = Str.ofString "node" then some (Value.int k t') else fcM sx nd st it se ns y) := by
      funext y; by_cases e : y = Str.ofString "node"
      · rw [if_pos e, if_pos e]
      · rw [if_neg e, if_neg e]; show (if _ then _ else _) = _; rw [if_neg e]
    have F2 : Fr g L' h (fun y => if y = Str.ofString "node" then some (Value.int k t') else fcM sx nd st it se ns y) := e1 ▸ F1
    clear e1 F1
    clear F' N'
    have hkk : k ∈ keys := by
      have := List.mem_of_getElem? hki
      obtain ⟨x, hx, e⟩ := List.mem_map.mp this
      cases e; exact hx
    simp only [fcM] at F2
    have hfa1 : ∀ b ∈ frs.map (·.1), b ∉ [I, ns, se, it, st, sx, dx] := by
      intro b hb hm
      have h1 := hfa0 b hb
      simp only [List.mem_cons, List.not_mem_nil, or_false] at hm
      rcases hm with rfl | hm
      · rw [← sameUp_map SU] at hb
        obtain ⟨q, hq, e⟩ := List.mem_map.mp hb
        exact hIne q (by first | k_clsL | simp [hq]) e
      · obtain ⟨a1, a2, a3, a4, a5, a6⟩ := h1
        rcases hm with rfl | rfl | rfl | rfl | rfl | rfl <;> contradiction
    have hI1 : Apart ns I := hIne _ (.head _)
    have hI2 : Apart se I := hIne _ (.tail _ (.head _))
    have hI3 : Apart it I := hIne _ (.tail _ (.tail _ (.head _)))
    have hI4 : Apart st I := hIne _ (.tail _ (.tail _ (.tail _ (.head _))))
    have hI5 : Apart sx I := hIne _ (.tail _ (.tail _ (.tail _ (.tail _ (.head _)))))
    have hI6 : Apart dx I := hIne _ (.tail _ (.tail _ (.tail _ (.tail _ (.tail _ (.head _))))))
    have hset' := HS.seen
    have hnb : nn ≤ 900 := by have := HS.cnt; have := Gg.len; lia
    have N2 : News g L' h ((I, oI) :: (ns, od') :: (se, so) :: (it, W.listOf #[] c1) :: (st, W.listOf #[] c2) :: (sx, instObj 179 dx) :: (dx, sdict w.params nd rv np nf t1 t2 t3 t4 t5 t6 n) :: frs') := N1
    clear N1
    refine wp_halt ?_
    cases hS : S k
    · k_with "compareOp In int ref" => k_dflt ((refine' kse_in (knd := PySem.intKind _ _) ?N ?U hset' ?z (intKind_is _ _ _ _) rfl ?_; (case N => k_asm); (case U => k_updF); (case z => (unfold scanBound; omega))); rw [hS]; try dsimp only)
      w_strict k_steps
      rename_i NR _
      have hfa : ∀ q ∈ frs', q.1 ∉ [I, ns, se, it, st, sx, dx] := fun q hq => hfa1 q.1 (by rw [← sameUp_map SU]; exact List.mem_map_of_mem hq)
      refine whileV (fun R s' => ∀ Z : Prop, (∀ h tk k t S nn fr so od kvs vs c1 c2 frs', s' = { s with heap := h, toks := tk } → Fr g L' h (fun y => if y = Str.ofString "node" then some (Value.int k t) else fcM sx nd st it se ns y) →
        News g L' h (fcL w.params I oI sx dx nd st it se ns rv np nf t1 t2 t3 t4 t5 t6 n od so fr vs c1 c2 (fcTail sa fr ++ frs')) → FcS w keys ch S nn fr so od kvs vs → TI.SameUp frs frs' → TI.Frs (envX cn cs L a ccd cl :: outer) frs' →
        FcA sa fr (frs.map (·.1)) [I, ns, se, it, st, sx, dx] → k ∈ keys → (∀ f ∈ fr, f.k < k) → fcRem keys ch S fr ≤ R → Z) → Z) PassesOwn.never (fcRem keys ch S [])
        (fun Zz KZ => KZ h _ k t' S nn [] so od' [] [] c1 c2 frs' rfl F2 NR HS SU FS ⟨(fun _ h => nomatch h), .nil⟩ hkk (fun _ h => nomatch h) (Nat.le_refl _)) ?_
      clear hS HS SU FS F2 NR hIne hfa hkk hnb
      intro R s' hI QB hQn hQr hQb
      refine hI _ ?_
      clear hI
      rintro h tk k t' S nn fr so od' kvs vs c1 c2 frs' rfl F2 N2 HS SU FS HA hkk hfk hR
      have hfa : ∀ q ∈ frs', q.1 ∉ [I, ns, se, it, st, sx, dx] := fun q hq => hfa1 q.1 (by rw [← sameUp_map SU]; exact List.mem_map_of_mem hq)
      have hnb : nn ≤ 900 := by have := HS.cnt; have := Gg.len; lia
      have hseen := HS.seen
      have hdict := HS.dict
      have hvals := HS.vals
      have hvk : valueAt kvs k = none := by
        refine valueAt_none fun hm => ?_
        rw [HS.kk] at hm
        obtain ⟨f, hf, e⟩ := List.mem_map.mp hm
        exact absurd (hfk f hf) (by rw [e]; exact Int.lt_irrefl _)
      have hvl : vs.length = fr.length := by rw [hvals.length, List.length_map]
      have hfl : fr.length ≤ 900 := Nat.le_trans HS.frn hnb
      have hkl : kvs.length = fr.length := by have := congrArg List.length HS.kk; simpa using this
      generalize hts : fcTail sa fr ++ frs' = ts at N2
      simp only [fcM, fcL] at F2 N2
      have off : ∀ p ∈ ts, p.1 ∉ [I, ns, se, it, st, sx, dx] := by
        rw [← hts]
        exact off_ts HA hfa
      have o1 : ∀ p ∈ ts, p.1 ≠ I := fun p hp e => off p hp (by rw [e]; simp)
      have o2 : ∀ p ∈ ts, p.1 ≠ ns := fun p hp e => off p hp (by rw [e]; simp)
      have o3 : ∀ p ∈ ts, p.1 ≠ se := fun p hp e => off p hp (by rw [e]; simp)
      have o4 : ∀ p ∈ ts, p.1 ≠ it := fun p hp e => off p hp (by rw [e]; simp)
      have o5 : ∀ p ∈ ts, p.1 ≠ st := fun p hp e => off p hp (by rw [e]; simp)
      have o6 : ∀ p ∈ ts, p.1 ≠ sx := fun p hp e => off p hp (by rw [e]; simp)
      have o7 : ∀ p ∈ ts, p.1 ≠ dx := fun p hp e => off p hp (by rw [e]; simp)
      k_with "execs cons" => k_dflt (refine halt ?_)
      w_strict k_steps
      k_with_none
      refine execs_cut (P := fun s' => ∀ Z : Prop, (∀ h tk nv S nn fr so od kvs vs c1 c2 frs', s' = { s with heap := h, toks := tk } → Fr g L' h (fun y => if y = Str.ofString "node" then some nv else fcM sx nd st it se ns y) →
        News g L' h (fcL w.params I oI sx dx nd st it se ns rv np nf t1 t2 t3 t4 t5 t6 n od so fr vs c1 c2 (fcTail sa fr ++ frs')) → FcS w keys ch S nn fr so od kvs vs → TI.SameUp frs frs' → TI.Frs (envX cn cs L a ccd cl :: outer) frs' →
        FcA sa fr (frs.map (·.1)) [I, ns, se, it, st, sx, dx] → fcRem keys ch S fr ≤ R → Z) → Z) (wp_var fun QP hQP => wp_halt ?_) ?_
      rotate_left
      · clear hR hfk HA FS SU HS hvl hkl hfl hseen hdict hvals hvk hnb hfa hsoR F2 N2 o1 o2 o3 o4 o5 o6 o7 hts
        intro s' hI
        refine hI _ ?_
        clear hI
        rintro h tk nv S nn fr so od kvs vs c1 c2 frs' rfl F2 N2 HS SU FS HA hR
        k_with "exec While Name" => k_dflt (refine halt ?_)
        w_strict k_steps
        k_with_none
        refine whileV (fun n' s' => ∀ Z : Prop, (∀ h tk nv S nn fr so od kvs vs c1 c2 frs', s' = { s with heap := h, toks := tk } → Fr g L' h (fun y => if y = Str.ofString "node" then some nv else fcM sx nd st it se ns y) →
          News g L' h (fcL w.params I oI sx dx nd st it se ns rv np nf t1 t2 t3 t4 t5 t6 n od so fr vs c1 c2 (fcTail sa fr ++ frs')) → FcS w keys ch S nn fr so od kvs vs → TI.SameUp frs frs' → TI.Frs (envX cn cs L a ccd cl :: outer) frs' →
          FcA sa fr (frs.map (·.1)) [I, ns, se, it, st, sx, dx] → fcRem keys ch S fr ≤ R → fr.length = n' → Z) → Z) PassesOwn.never fr.length
          (fun Zz KZ => KZ h tk nv S nn fr so od kvs vs c1 c2 frs' rfl F2 N2 HS SU FS HA hR rfl) ?_
        clear F2 N2 HS SU FS HA hR
        intro n' s' hI QC hCn hCr hCb
        refine hI _ ?_
        clear hI
        rintro h tk nv S nn fr so od kvs vs c1 c2 frs' rfl F2 N2 HS SU FS HA hR hn'
        have hnb : nn ≤ 900 := by have := HS.cnt; have := Gg.len; lia
        have hfl : fr.length ≤ 900 := Nat.le_trans HS.frn hnb
        have hfa : ∀ q ∈ frs', q.1 ∉ [I, ns, se, it, st, sx, dx] := fun q hq => hfa1 q.1 (by rw [← sameUp_map SU]; exact List.mem_map_of_mem hq)
        rcases List.eq_nil_or_concat fr with rfl | ⟨fr0, f, rfl⟩
        · have hvs : vs = [] := by have := HS.vals; cases this; rfl
          subst hvs
          have hkv : kvs = [] := List.map_eq_nil_iff.mp HS.kk
          subst hkv
          simp only [fcM, fcL] at F2 N2
          have hfa' : ∀ q ∈ frs', q.1 ≠ I := fun q hq e => hfa q hq (by rw [e]; simp)
          w_strict k_steps
          refine hQb _ ?_
          w_strict k_steps
          refine hQJ h _ _ _ F2 N2 ?_ (fun Zz KZ => KZ (some nv) S nn so od c1 c2 frs' rfl HS SU FS rfl)
          intro p hp
          rcases List.mem_cons.mp hp with rfl | hp
          · exact hI1
          rcases List.mem_cons.mp hp with rfl | hp
          · exact hI2
          rcases List.mem_cons.mp hp with rfl | hp
          · exact hI3
          rcases List.mem_cons.mp hp with rfl | hp
          · exact hI4
          rcases List.mem_cons.mp hp with rfl | hp
          · exact hI5
          rcases List.mem_cons.mp hp with rfl | hp
          · exact hI6
          exact hfa' p hp
        · rw [List.concat_eq_append] at *
          obtain ⟨vs0, t0, rfl, hv0⟩ := ints_snoc' (by simpa using HS.vals)
          generalize hts : fcTail sa (fr0 ++ [f]) ++ frs' = ts at N2
          simp only [fcM, fcL, List.map_append, List.map_cons, List.map_nil] at F2 N2
          have hvl : (vs0 ++ [Value.int f.k t0]).length ≤ 900 := by have := HS.vals.length; simp at this hfl ⊢; lia
          k_with "exec Try cons cons" => k_dflt (refine halt ?_)
          k_with "exec Try" => k_dflt (refine halt ?_)
          k_with "truthy ref" => k_dflt (refine' wpAny_truthy_list (led_list (by k_asm) (List.Mem.tail _ (List.Mem.tail _ (List.Mem.tail _ (List.Mem.tail _ (List.Mem.head _)))))) ?fit ?_; (case fit => (rw [List.size_toArray]; lia)); (rw [show (!(vs0 ++ [Value.int f.k t0]).toArray.isEmpty) = true from by first | k_clsL | simp]))
          w_strict k_steps
          k_with_none
          refine try_stop (K := topo.heap_39 w.params) rfl X' T' (by k_is) ?_ rfl rfl
          subst hts
          k_with "subscriptTail Name UnaryOp ref int" => k_dflt (refine item_last (led_list (by k_asm) (List.Mem.tail _ (List.Mem.tail _ (List.Mem.tail _ (List.Mem.head _))))) ?_)
          have hmw := (N2 (f.mw, mwO f.it) (fc_mem_mw (A := [_, _, _, _, _, _, _]))).1
          have hit := N2 (f.it, itO (sa f.k) f.i) (fc_mem_it (A := [_, _, _, _, _, _, _]))
          have hfk : f.k ∈ keys := HS.mem f (List.mem_append_right _ (.head _))
          have hsu : h.IsList (sa f.k) (su f.k).toArray := ⟨_, F2.keep _ _ (Gg.suc f.k hfk), rfl, _, rfl⟩
          have hkid := Gg.kids f.k hfk
          have hSUm := sameUp_map SU
          have hAd : ∀ o1 o2 o3 o4 o5, ∀ p ∈ [(I, oI), (ns, o1), (se, o2), (it, o3), (st, o4), (sx, o5), (dx, sdict w.params nd rv np nf t1 t2 t3 t4 t5 t6 n)], p.1 ∈ [I, ns, se, it, st, sx, dx] := by
            intro o1 o2 o3 o4 o5 p hp
            simp only [List.mem_cons, List.not_mem_nil, or_false] at hp ⊢
            rcases hp with rfl | rfl | rfl | rfl | rfl | rfl | rfl <;> simp
          k_with "callWith ref nil nil" => k_dflt (refine callWith_mw hmw (halt ?_))
          k_with "callWith ref" => k_dflt (refine callWith_mw hmw (halt ?_))
          w_strict k_steps
          k_with_none
          by_cases hi : f.i < (ch f.k).length
          · obtain ⟨y, ty, hy, hyc⟩ := ints_at hkid hi
            refine mw_item hmw hit.1 hsu (by rw [List.getElem?_toArray]; exact hy) fun h2 ho2 hs2 => ?_
            have N3 := fc_news_step (A := [_, _, _, _, _, _, _]) N2 HA (hAd _ _ _ _ _) hSUm hs2 ho2
            have F3 := F2.change hs2 hit.2.1 hit.2.2
            clear hmw hit hsu
            clear N2 F2 
            k_with "exec Break" => k_dflt (refine halt ?_)
            w_strict k_steps
            k_with_none
            refine wpAny_Break ?_
            refine hCb _ ?_
            refine wpAny_execs_nil ?_
            have hRp := fcRem_step (keys := keys) (S := S) (fr := fr0) hi
            refine hQn _ ⟨fcRem keys ch S (fr0 ++ [{ f with i := f.i + 1 }]), by lia, ?_⟩
            refine fun Zz KZ => KZ _ _ y ty S nn (fr0 ++ [{ f with i := f.i + 1 }]) so od kvs (vs0 ++ [Value.int f.k t0]) c1 c2 frs' rfl ?_ ?_ (fcS_step HS hi) SU FS (fcA_step HA) (hch f.k hfk y hyc).1 (fc_lt HS (hch f.k hfk y hyc).2) (Nat.le_refl _)
            · rename_i F9 N9
              rw [← nodeM (v' := nv)]
              exact F9
            · rename_i F9 N9
              simp only [fcL, List.map_append, List.map_cons, List.map_nil]
              exact N9
          · have hkl : kvs.length = (fr0 ++ [f]).length := by have := congrArg List.length HS.kk; simpa using this
            have hdict := HS.dict
            have hvk : (valueAt kvs f.k).isSome = true := by
              refine valueAt_some ?_
              rw [HS.kk]; simp
            have hsl : (su f.k).length = (ch f.k).length := hkid.length
            refine mw_end rfl hmw hit.1 hsu (by rw [List.getElem?_toArray, List.getElem?_eq_none]; lia) fun h1 h2 ea hs1 hx => ?_
            have N3 := fc_news_drop (A := [_, _, _, _, _, _, _]) N2 HA (hAd _ _ _ _ _) hSUm hs1
            refine ⟨ea, h1, _, _, frs', rfl, hx, F2.change hs1 hit.2.1 hit.2.2, N3, FS, ?_, ?_⟩
            · intro p hp hm
              rcases List.mem_cons.mp hm with e | hm
              · exact (N3 p (List.mem_append_left _ hp)).2.1 e
              · rcases List.mem_append.mp hp with hp | hp
                · rw [hSUm] at hm
                  exact hfa1 _ hm (hAd _ _ _ _ _ p hp)
                · rw [hSUm] at hm
                  exact ((fcA_pop HA).off p hp).2 hm
            · clear N3 N2 F2 hmw hit hsu hx hs1
              intro h3 frs3 SU3 FS3 F3 N3
              generalize hts : fcTail sa fr0 ++ frs3 = ts
              rw [List.append_assoc, hts] at N3
              simp only [List.cons_append, List.nil_append] at N3
              have off : ∀ p ∈ ts, p.1 ∉ [I, ns, se, it, st, sx, dx] := by
                rw [← hts]
                exact off_ts (fcA_pop HA) (fun q hq => hfa1 q.1 (by rw [← sameUp_map (SU.trans SU3)]; exact List.mem_map_of_mem hq))
              have o1 : ∀ p ∈ ts, p.1 ≠ I := fun p hp e => off p hp (by rw [e]; simp)
              have o2 : ∀ p ∈ ts, p.1 ≠ ns := fun p hp e => off p hp (by rw [e]; simp)
              have o3 : ∀ p ∈ ts, p.1 ≠ se := fun p hp e => off p hp (by rw [e]; simp)
              have o4 : ∀ p ∈ ts, p.1 ≠ it := fun p hp e => off p hp (by rw [e]; simp)
              have o5 : ∀ p ∈ ts, p.1 ≠ st := fun p hp e => off p hp (by rw [e]; simp)
              have o6 : ∀ p ∈ ts, p.1 ≠ sx := fun p hp e => off p hp (by rw [e]; simp)
              have o7 : ∀ p ∈ ts, p.1 ≠ dx := fun p hp e => off p hp (by rw [e]; simp)
              k_with "call builtin:list.pop" => k_dflt ((first | (refine' kl_pop (p := vs0) (y := Value.int f.k t0) (its := (vs0 ++ [Value.int f.k t0]).toArray) ?F ?N (kpa_last _ _) ?U ?z ?_; (case F => k_asm); (case N => k_asm); (case U => k_upd); (case z => (show (vs0 ++ [Value.int f.k t0]).length ≤ _; rw [PySem.sizeLine_eq]; lia))) | (refine' kl_pop (p := fr0.map fun f => Value.ref f.mw) (y := Value.ref f.mw) (its := ((fr0.map fun f => Value.ref f.mw) ++ [Value.ref f.mw]).toArray) ?F ?N (kpa_last _ _) ?U ?z ?_; (case F => k_asm); (case N => k_asm); (case U => k_upd); (case z => (show ((fr0.map fun f => Value.ref f.mw) ++ [Value.ref f.mw]).length ≤ _; rw [PySem.sizeLine_eq]; simp at hfl ⊢; lia)))); intro h' F' N')
              k_with "delItem ref int" => k_dflt ((refine' kob_del ?F ?N ?U hdict (intKind_is _ _ _ _) hvk ?z ?_; (case F => k_asm); (case N => k_asm); (case U => k_updF); (case z => (rw [PySem.sizeLine_eq]; lia))); intro h' oD F' N' hDict; (try dsimp only at N'))
              refine wp_halt ?_
              w_strict k_steps
              k_with_none
              refine wpAny_execs_nil ?_
              subst hts
              refine hCn _ ⟨fr0.length, by simp at hn'; lia, ?_⟩
              exact fun Zz KZ => KZ h' _ nv S nn fr0 so oD _ vs0 (c1 + 1) (c2 + 1) frs3 rfl F' N' (fcS_pop HS hv0 hDict) (SU.trans SU3) FS3 (fcA_pop HA) (Nat.le_trans fcRem_pop hR) rfl
      replace hsoR := hsoR
      cases hS : S k
      · k_with "subscriptTail Name Name ref int" => k_dflt (refine' g_item ?F Gg.dict (intKind_is _ _ _ _) (valueAt_map hkk) ?_; (case F => k_asm))
        k_with "call builtin:iter" => k_dflt ((refine' it_list (its := (su k).toArray) ?F ?N ⟨W.listOf (su k).toArray (snn k), ?l, rfl, _, rfl⟩ ?_; (case F => k_asm); (case N => k_asm); (case l => exact Fr.keep (by k_asm) _ _ (Gg.suc k hkk))); intro I' h' F' N' lI; have l1 := lI; k_lt l1)
        k_with "getAttr ref" => k_dflt (first | (refine' get_slot ?k1 ?k2 ⟨Fr.keep ?kF _ _ (Gg.info k hkk), rfl, rfl, ?kd⟩ ?k4 ?k5 ?k6 ?k7 ?k8 ?k9 ?k10 ?k11 ?_; (case k1 => k_asm); (case k2 => k_asm); (case kF => k_asm); (case kd => exact Fr.keep (by k_asm) _ _ (Gg.dct k hkk)); (case k4 => k_is); (case k5 => k_is); (case k6 => k_is); (case k7 => k_is); (case k8 => k_is); (case k9 => k_is); (case k10 => k_slotget); (case k11 => k_handed); k_whole) | ((refine' ga_nextN ?F ?N ?m ?_; (case F => k_asm); (case N => k_asm); (case m => k_mem)); intro M' h' tk' F' N' lM; have l1 := lM; k_lt l1))
        k_with "call builtin:list.append" => k_dflt ((refine' append_K ?k1 ?k2 ?k3 ?_ ?z; (case k1 => k_asm); (case k2 => k_asm); (case k3 => k_upd); (case z => (simp only [List.size_toArray, List.length_map, PySem.sizeLine_eq]; lia)); k_whole); intro h' F' N')
        k_with "setItem ref int" => k_dflt ((refine' kda_set ?F ?N ?U hdict (intKind_is _ _ _ _) ?z ?_; (case F => k_asm); (case N => k_asm); (case U => k_updF); (case z => (rw [PySem.sizeLine_eq]; lia))); intro h' oD F' N' hDict; (try dsimp only at N'))
        k_with "call builtin:set.add" => k_dflt ((refine' kse_add (knd := PySem.intKind _ _) ?F ?N ?U hseen ?z (intKind_is _ _ _ _) rfl ?_; (case F => k_asm); (case N => k_asm); (case U => k_updF); (case z => (unfold scanBound; lia))); intro h' oS F' N' hSet; rw [if_neg (by rw [hS]; decide)] at hSet; (try dsimp only at N'))
        k_with "compareOp In int ref" => k_dflt ((refine' kse_in (knd := PySem.intKind _ _) ?N ?U hseen ?z (intKind_is _ _ _ _) rfl ?_; (case N => k_asm); (case U => k_updF); (case z => (unfold scanBound; lia))); rw [hS]; try dsimp only)
        w_strict k_steps
        subst hts
        rw [stored_absent hvk] at hDict
        rw [List.push_toArray] at N'
        refine hQP _ _ ⟨rfl, fun Zz KZ => KZ _ _ (.int k t') (fun k' => S k' || decide (k' = k)) (nn + 1) (fr ++ [⟨k, M', I', 0⟩]) oS oD (kvs ++ [(k, _)]) (vs ++ [.int k t']) (c1 + 1) (c2 + 1) frs' rfl F' ?_ (fcS_push HS hkk hS hfk hSet hDict) SU FS (fcA_push HA (fun p hp => lI p ?_) ?_ ?_ (lM _ (.head _))) (Nat.le_trans (fcRem_push hkk hS) hR)⟩
        · intro p hp
          refine N' p ?_
          rw [fcTail_snoc] at hp
          simp only [fcL, List.map_append, List.map_cons, List.map_nil, List.mem_cons, List.mem_append, List.not_mem_nil, or_false] at hp ⊢
          grind
        · simp only [List.mem_cons, List.mem_append]
          simp only [hp, true_or, or_true]
        · intro b hb
          simp only [List.mem_cons, List.not_mem_nil, or_false] at hb
          have e1 := lI (I, oI) (by first | k_clsL | simp)
          have e2 := lI (ns, od') (by first | k_clsL | simp)
          have e3 := lI (se, oS) (by first | k_clsL | simp)
          have e4 := lI (it, W.listOf (List.map (fun f => Value.ref f.mw) fr).toArray c1) (by first | k_clsL | simp)
          have e5 := lI (st, W.listOf vs.toArray c2) (by first | k_clsL | simp)
          have e6 := lI (sx, instObj 179 dx) (by first | k_clsL | simp)
          have e7 := lI (dx, sdict w.params nd rv np nf t1 t2 t3 t4 t5 t6 n) (by first | k_clsL | simp)
          rcases hb with rfl | rfl | rfl | rfl | rfl | rfl | rfl <;> assumption
        · intro b hb
          rw [← sameUp_map SU] at hb
          obtain ⟨q, hq, rfl⟩ := List.mem_map.mp hb
          exact lI q (by simp only [List.mem_cons, List.mem_append]; simp only [hq, or_true])
      · k_with "compareOp In int ref" => k_dflt (first | ((refine' kse_in (knd := PySem.intKind _ _) ?N ?U hseen ?z (intKind_is _ _ _ _) rfl ?_; (case N => k_asm); (case U => k_updF); (case z => (unfold scanBound; lia))); rw [hS]; try dsimp only) | ((refine' kda_in ?N (List.Mem.tail _ (List.Mem.head _)) hdict lons (intKind_is _ _ _ _) false (by rw [hvk]; rfl) ?_; (case N => k_asm)); try dsimp only))
        w_strict k_steps
        subst hts
        exact hQP _ _ ⟨rfl, fun Zz KZ => KZ _ _ (.int k t') S nn fr so od' kvs vs c1 c2 frs' rfl F2 N2 HS SU FS HA hR⟩
    · k_with "compareOp In int ref" => k_dflt ((refine' kse_in (knd := PySem.intKind _ _) ?N ?U hset' ?z (intKind_is _ _ _ _) rfl ?_; (case N => k_asm); (case U => k_updF); (case z => (unfold scanBound; omega))); rw [hS]; try dsimp only)
      w_strict k_steps
      rename_i NR _; exact hJc _ (hQJ _ _ _ _ F2 NR hIne (fun Zz KZ => KZ _ _ _ _ _ _ _ _ rfl HS SU FS rfl))
  · intro m₁ news₁ h tk' hJ F1 N1
    refine hJ _ ?_
    clear hJ
    rintro ov S nn so od' c1 c2 frs' rfl HS SU FS rfl
    refine wp_halt ?_
    w_strict k_steps
    subst hfrs
    refine hQf _ _ ?_
    refine ret h tk' oL frs' hLo SU (fun q hq => (N1 q (by first | k_clsL | simp [hq])).1) fun b o hb h1 h2 => ?_
    by_cases e1 : b = sx
    · have z := (N (sx, instObj 179 dx) (.head _)).1
      rw [e1, z] at hb; cases hb
      rw [e1]; exact (N1 (sx, _) (by first | k_clsL | simp)).1
    · by_cases e2 : b = dx
      · have z := (N (dx, _) (.tail _ (.head _))).1
        rw [e2, z] at hb; cases hb
        rw [e2]; exact (N1 (dx, _) (by first | k_clsL | simp)).1
      · refine F1.keep b o (kp b o hb ?_ ?_)
        · simp only [List.map_cons, List.map_nil, List.mem_cons, List.not_mem_nil, or_false]
          rintro (e | e)
          · exact e1 e
          · exact e2 e
        · intro q
          rcases List.mem_cons.mp q with e | q
          · exact h1 e
          · exact h2 q
end
end

section
open PySem PySem.Calls PySem.W PyProof.Rows
set_option Elab.async false
set_option maxRecDepth 100000
set_option maxHeartbeats 3000000
/-- a node of the sorter -/
structure Nd where
  k : Int
  ia : Addr
  da : Addr
  sa : Addr
  u : Tok
  t : Tok
  np : Int
noncomputable abbrev ndO (d : Nd) : Obj := infoO d.k d.u d.np d.t d.da d.sa
noncomputable def gI (G : List Nd) : List (Addr × Obj) := G.map fun d => (d.ia, ndO d)
noncomputable def ndSh (d : Nd) : Int × Addr × Addr × Addr × Tok := (d.k, d.ia, d.da, d.sa, d.u)
noncomputable def gKvs (G : List Nd) : List (Int × Value) := G.map fun d => (d.k, Value.ref d.ia)
theorem gKvs_sh {G G' : List Nd} (h : G'.map ndSh = G.map ndSh) : gKvs G' = gKvs G := by
  have e : ∀ l : List Nd, gKvs l = (l.map ndSh).map fun x => (x.1, Value.ref x.2.1) := fun l => by unfold gKvs ndSh; rw [List.map_map]; rfl
  rw [e, e, h]
theorem keys_sh {G G' : List Nd} (h : G'.map ndSh = G.map ndSh) : G'.map (·.k) = G.map (·.k) := by
  have e : ∀ l : List Nd, l.map (·.k) = (l.map ndSh).map fun x => x.1 := fun l => by unfold ndSh; rw [List.map_map]; rfl
  rw [e, e, h]
theorem ias_sh {G G' : List Nd} (h : G'.map ndSh = G.map ndSh) : G'.map (·.ia) = G.map (·.ia) := by
  have e : ∀ l : List Nd, l.map (·.ia) = (l.map ndSh).map fun x => x.2.1 := fun l => by unfold ndSh; rw [List.map_map]; rfl
  rw [e, e, h]
theorem gI_ias (G : List Nd) : (gI G).map (·.1) = G.map (·.ia) := by unfold gI; rw [List.map_map]; rfl
theorem sh_mem {G G' : List Nd} (h : G'.map ndSh = G.map ndSh) {d : Nd} (hd : d ∈ G') : ∃ e ∈ G, ndSh e = ndSh d := by
  have : ndSh d ∈ G.map ndSh := h ▸ List.mem_map_of_mem hd
  obtain ⟨e, he, q⟩ := List.mem_map.mp this
  exact ⟨e, he, q⟩
theorem valueAt_g {G : List Nd} {d : Nd} (hn : (G.map (·.k)).Nodup) (hd : d ∈ G) : valueAt (gKvs G) d.k = some (.ref d.ia) := by
  unfold valueAt gKvs
  induction G with
  | nil => cases hd
  | cons x r ih =>
    rw [List.map_cons] at hn ⊢
    obtain ⟨h1, h2⟩ := List.nodup_cons.mp hn
    rw [List.find?_cons]
    rcases List.mem_cons.mp hd with rfl | hd
    · simp
    · have : decide ((x.k, Value.ref x.ia).1 = d.k) = false := decide_eq_false fun e => h1 (List.mem_map.mpr ⟨d, hd, e.symm⟩)
      rw [this]
      exact ih h2 hd
theorem Upd.mid {d : Addr} {o o' : Obj} {pre post : List (Addr × Obj)} (h1 : ∀ p ∈ pre, p.1 ≠ d) (h2 : ∀ p ∈ post, p.1 ≠ d) : Upd d o o' (pre ++ (d, o) :: post) (pre ++ (d, o') :: post) := by
  induction pre with
  | nil => exact .head h2
  | cons p r ih => exact .tail (h1 p (.head _)) (ih fun q hq => h1 q (.tail _ hq))
/-- one node's count is turned -/
theorem np_turn {G1 G2 : List Nd} {d : Nd} {F : Int → Int} {v : Int} {t : Tok} (hn : ((G1 ++ d :: G2).map (·.k)).Nodup) (hF : ∀ x ∈ G1 ++ d :: G2, x.np = F x.k) :
    ∀ x ∈ G1 ++ { d with np := v, t := t } :: G2, x.np = (fun y => if y = d.k then v else F y) x.k := by
  intro x hx
  rw [List.map_append, List.map_cons, List.nodup_append] at hn
  obtain ⟨_, h2, h3⟩ := hn
  obtain ⟨h4, _⟩ := List.nodup_cons.mp h2
  rcases List.mem_append.mp hx with hx | hx
  · have : x.k ≠ d.k := h3 x.k (List.mem_map_of_mem hx) d.k (.head _)
    show _ = if _ then _ else _
    rw [if_neg this]; exact hF x (List.mem_append_left _ hx)
  · rcases List.mem_cons.mp hx with rfl | hx
    · show _ = if _ then _ else _
      rw [if_pos rfl]
    · have : x.k ≠ d.k := fun e => h4 (e ▸ List.mem_map_of_mem hx)
      show _ = if _ then _ else _
      rw [if_neg this]; exact hF x (List.mem_append_right _ (.tail _ hx))
theorem sh_turn {G1 G2 : List Nd} {d : Nd} {v : Int} {t : Tok} : (G1 ++ { d with np := v, t := t } :: G2).map ndSh = (G1 ++ d :: G2).map ndSh := by
  rw [List.map_append, List.map_append, List.map_cons, List.map_cons]; rfl
theorem gI_mid (G1 G2 : List Nd) (d : Nd) : gI (G1 ++ d :: G2) = gI G1 ++ (d.ia, ndO d) :: gI G2 := by unfold gI; rw [List.map_append, List.map_cons]
theorem gI_off {G1 G2 : List Nd} {d : Nd} (hn : ((G1 ++ d :: G2).map (·.ia)).Nodup) : (∀ p ∈ gI G1, p.1 ≠ d.ia) ∧ ∀ p ∈ gI G2, p.1 ≠ d.ia := by
  rw [List.map_append, List.map_cons, List.nodup_append] at hn
  obtain ⟨_, h2, h3⟩ := hn
  obtain ⟨h4, _⟩ := List.nodup_cons.mp h2
  constructor
  · intro p hp
    obtain ⟨x, hx, rfl⟩ := List.mem_map.mp hp
    exact h3 x.ia (List.mem_map_of_mem hx) d.ia (.head _)
  · intro p hp e
    obtain ⟨x, hx, rfl⟩ := List.mem_map.mp hp
    exact h4 (List.mem_map.mpr ⟨x, hx, e⟩)
section
variable {prog : Program} {w : World} {A : Around} {E : Value → Shared → Prop} {s : Shared} {env : Env} {h₀ : Heap} {x : Str} {body : List Stmt} {Q : Flow → Shared → Prop} {m₀ : Str → Option Value} {news : List (Addr × Obj)}
/-- for x in t: t a tuple of the ledger -/
theorem tupLoopV {d : Addr} {vs : List Value} (J : Nat → (Str → Option Value) → List (Addr × Obj) → Prop) (hh : A.handled = none)
    (F : Fr h₀ env.locals s.heap m₀) (N : News h₀ env.locals s.heap ((d, ({ cls := .type "tuple", data := .seq vs.toArray } : Obj)) :: news)) (hnd : ∀ p ∈ news, p.1 ≠ d) (h0 : J 0 m₀ news)
    (turn : ∀ i v m₁ news₁ h tk I oI, vs[i]? = some v → J i m₁ news₁ → Fr h₀ env.locals h (fun y => if y = x then some v else m₁ y) → News h₀ env.locals h ((I, oI) :: (d, ({ cls := .type "tuple", data := .seq vs.toArray } : Obj)) :: news₁) → (∀ p ∈ news₁, p.1 ≠ I) → (∀ p ∈ news₁, p.1 ≠ d) → I ≠ d →
      ∀ QJ : Flow → Shared → Prop, (∀ h' tk' m' news', Fr h₀ env.locals h' m' → News h₀ env.locals h' ((I, oI) :: (d, ({ cls := .type "tuple", data := .seq vs.toArray } : Obj)) :: news') → (∀ p ∈ news', p.1 ≠ I) → (∀ p ∈ news', p.1 ≠ d) → J (i + 1) m' news' → QJ .next { s with heap := h', toks := tk' }) → (∀ v s, Q (.ret v) s → QJ (.ret v) s) → (∀ s, Q .next s → QJ .brk s) → (∀ s, QJ .next s → QJ .cont s) →
      wpAny (model prog w) A (execs body env) QJ E { s with heap := h, toks := tk })
    (done : ∀ m₁ news₁ h tk, J vs.length m₁ news₁ → Fr h₀ env.locals h m₁ → News h₀ env.locals h ((d, ({ cls := .type "tuple", data := .seq vs.toArray } : Obj)) :: news₁) → (∀ p ∈ news₁, p.1 ≠ d) → Q .next { s with heap := h, toks := tk }) :
    wpAny (model prog w) A (pyIter (.ref d)) (fun it s₂ => LoopAtV prog w A h₀ env x body Q E it s₂) E s := by
  have hD := (N _ (List.mem_cons_self)).1
  have ht : s.heap.IsTuple d vs.toArray := ⟨_, hD, rfl, _, rfl⟩
  have hne : d ≠ s.heap.objs.size := Nat.ne_of_lt (Heap.lt_size hD)
  refine ledLoop (oI₀ := { cls := .type "tuple_iterator", data := .fields #[.ref d, .int 0 0] }) J (Walks.tuple hh s.heap.objs.size d hne vs.toArray) ⟨⟨_, Heap.get?_push_size _ rfl, rfl, rfl⟩, ht.push _⟩ (fun i h st => ?_) (fun Q' hQ => wpAny_pyIter_tuple ht hQ) F N hnd h0 (fun i v m₁ news₁ h tk I oI hi hP hJ F₁ N₁ h1 h2 h3 => ?_) (by rw [List.size_toArray]; exact done)
  · obtain ⟨⟨o, ho, _⟩, _⟩ := st; exact ⟨o, ho⟩
  · exact turn i v m₁ news₁ h tk I oI (by rw [List.getElem?_toArray] at hP; exact hP) hJ F₁ N₁ h1 h2 h3
/-- for x in l: l a list of the ground -/
theorem listLoopV {d : Addr} {vs : List Value} {c : Nat} (J : Nat → (Str → Option Value) → List (Addr × Obj) → Prop) (hh : A.handled = none)
    (hD : h₀.get? d = some (W.listOf vs.toArray c)) (F : Fr h₀ env.locals s.heap m₀) (N : News h₀ env.locals s.heap news) (h0 : J 0 m₀ news)
    (turn : ∀ i v m₁ news₁ h tk I oI, vs[i]? = some v → J i m₁ news₁ → Fr h₀ env.locals h (fun y => if y = x then some v else m₁ y) → News h₀ env.locals h ((I, oI) :: news₁) → (∀ p ∈ news₁, p.1 ≠ I) →
      ∀ QJ : Flow → Shared → Prop, (∀ h' tk' m' news', Fr h₀ env.locals h' m' → News h₀ env.locals h' ((I, oI) :: news') → (∀ p ∈ news', p.1 ≠ I) → J (i + 1) m' news' → QJ .next { s with heap := h', toks := tk' }) → (∀ v s, Q (.ret v) s → QJ (.ret v) s) → (∀ s, Q .next s → QJ .brk s) → (∀ s, QJ .next s → QJ .cont s) →
      wpAny (model prog w) A (execs body env) QJ E { s with heap := h, toks := tk })
    (done : ∀ m₁ news₁ h tk, J vs.length m₁ news₁ → Fr h₀ env.locals h m₁ → News h₀ env.locals h news₁ → Q .next { s with heap := h, toks := tk }) :
    wpAny (model prog w) A (pyIter (.ref d)) (fun it s₂ => LoopAtV prog w A h₀ env x body Q E it s₂) E s := by
  have hl : s.heap.IsList d vs.toArray := ⟨_, F.keep _ _ hD, rfl, _, rfl⟩
  have hne : d ≠ s.heap.objs.size := Nat.ne_of_lt (Heap.lt_size (F.keep _ _ hD))
  refine srcLoop (oI₀ := { cls := .type "list_iterator", data := .fields #[.ref d, .int 0 0] }) J hD (Walks.list hh s.heap.objs.size d hne vs.toArray) ⟨⟨_, Heap.get?_push_size _ rfl, rfl, rfl⟩, hl.push _⟩ (fun i h st => ?_) (fun Q' hQ => wpAny_pyIter_list hl hQ) F N h0 (fun i v m₁ news₁ h tk I oI hi hP hJ F₁ N₁ h1 => ?_) (by rw [List.size_toArray]; exact done)
  · obtain ⟨⟨o, ho, _⟩, _⟩ := st; exact ⟨o, ho⟩
  · exact turn i v m₁ news₁ h tk I oI (by rw [List.getElem?_toArray] at hP; exact hP) hJ F₁ N₁ h1
end
end

section
open PySem PySem.Calls PySem.W PyProof.Rows
set_option Elab.async false
set_option maxRecDepth 100000
set_option maxHeartbeats 3000000
theorem meets_bool_list (l : Addr) (items : Array Value) (hfit : (items.size : Int) < 2 ^ 63) :
    Meets (Builtin.«bool.__new__» ⟨[.type "bool", .ref l], []⟩) (fun _ R s => s.heap.IsList l items ∧ R (.ok (.ret (.bool (!items.isEmpty)))) { s with toks := s.toks + 1 + 1 }) :=
  Meets.of_wp fun prog w A R s hs => by
    obtain ⟨hl, hs⟩ := hs
    obtain ⟨hp, g, d, tk, os⟩ := s
    have f1 := F.conv_sub_bool
    repeat (any_goals (first | assumption | (with_reducible refine wpAny_truthy_list hl hfit ?_) | wp_step))
    all_goals first | exact ⟨_, rfl, hs⟩ | exact hs | skip
theorem call_bool_list {prog : Program} {w : World} {A : Around} {E : Value → Shared → Prop} {s : Shared} {l : Addr} {items : Array Value} {Q : Value → Shared → Prop} (hl : s.heap.IsList l items) (hfit : (items.size : Int) < 2 ^ 63) (h : Q (.bool (!items.isEmpty)) { s with toks := s.toks + 1 + 1 }) :
    wpAny (model prog w) A (call (.type "bool") [.ref l]) Q E s :=
  call_bool_1 (meets_bool_list l items hfit) ⟨hl, show wants (fun obj s₁ => s₁.TypeIs obj "bool" ∧ Q obj s₁) E _ _ from ⟨rfl, h⟩⟩
end

section
open PySem PySem.Calls PySem.W PyProof.Rows
set_option Elab.async false
set_option maxRecDepth 100000
set_option maxHeartbeats 3000000
set_option pp.deepTerms false
set_option pp.maxSteps 20000
section
variable {w : World} {mean : ExcName → Option Value} {mg mb : Str → Option Value} {p : Program} {loose : List Str} {cn : Str} {cs : Scope} {a : Addr} {ccd : Value} {cl : List (Str × Addr)} {outer : List Env} {A₀ : Around} {base h₀ : Heap} {L : Addr} {m : Str → Option Value} {s : Shared}
    {Q E : Value → Shared → Prop}

theorem ia_con {sx dx nd rl : Addr} {vs : List Value} {c : Nat} {t1 t2 t3 t4 t5 t6 : Tok} {n : Nat} {np nf : Int}
    (B : Below A₀ base outer h₀) (F : Fr h₀ L s.heap m) (X : (topo.heap_39 w.params).In h₀) (N : News h₀ L s.heap [(sx, instObj 179 dx), (dx, sdict w.params nd (.ref rl) np nf t1 t2 t3 t4 t5 t6 n), (rl, W.listOf vs.toArray c)]) (T : Top p loose mean mg mb h₀) (hk : cs.kind = .function)
    (hvl : vs.length ≤ 900)
    (ret : ∀ h' tk', Fr h₀ L h' m → Kept [] s.heap h' → Q (.bool (decide (nf < np) || !vs.isEmpty)) { s with heap := h', toks := tk' }) :
    wpAny (model PySem.Challenge.rw_nq0271_01.row.prog w) (AT 600 cn cs L a ccd cl outer) (call (.ref 148) [.ref sx]) Q E s := by
  revert X T hk
  k_fill
  w_on
  intro X T hk
  k_with_none
  k_with "call type:bool" => k_dflt (refine' call_bool_list (led_list (by k_asm) (by k_mem)) ?fit ?_; (case fit => (rw [List.size_toArray]; lia)); (rw [List.isEmpty_toArray]))
  refine wpAny_call ?_
  k_dflt (refine' enterF ?k1 ?k2 ?k3 ?k4 ?k5 ?kA ?kF ?kK ?k6 ?k7 ?k8 ?k9 ?kB ?_ ?c2 ?c3 ?c4 ?c5; (case kA => exact rfl); (case kF => exact rfl); (case kK => assumption); (case k1 => k_asm); (case k2 => k_asm); (case k3 => k_asm); (case k4 => k_asm); (case k5 => k_asm); (case k6 => k_is); (case k7 => k_is); (case k8 => k_room); (case k9 => exact BindsTo.of_eq rfl); (case c5 => decide); (case kB => exact locs rfl); (case c2 => exact rfl); (case c3 => exact rfl); (case c4 => exact rfl); k_whole)
  intro g L' h₁ FG F' N' B' X' T' kp kb l1
  w_strict k_steps
  · have := ret h₁ (tk + 1 + 1) (by assumption) (kept_of N F' N' kp (fun q hq => Or.inl hq))
    rename nf < np => hlt
    rw [decide_eq_true hlt] at this ⊢
    exact this
  · rename ¬ nf < np => hlt
    rw [show (!vs.isEmpty) = (decide (nf < np) || !vs.isEmpty) by rw [decide_eq_false hlt]; rfl]
    exact ret _ _ (by assumption) (kept_of N F' N' kp (fun q hq => Or.inl hq))

noncomputable abbrev tupO (vs : List Value) : Obj := { cls := .type "tuple", data := .seq vs.toArray }
theorem ne_cls {h₀ h : Heap} {L : Addr} {news : List (Addr × Obj)} {p q : Addr × Obj} (N : News h₀ L h news) (hp : p ∈ news) (hq : q ∈ news) (hc : p.2.cls ≠ q.2.cls) : p.1 ≠ q.1 := by
  intro e
  have h1 := (N p hp).1
  rw [e, (N q hq).1] at h1
  exact hc (by rw [Option.some.inj h1])
theorem upd_upd {x : Str} {v ov : Option Value} {m : Str → Option Value} : (fun y => if y = x then v else (fun y => if y = x then ov else m y) y) = (fun y => if y = x then v else m y) := by
  funext y
  by_cases e : y = x
  · rw [if_pos e, if_pos e]
  · rw [if_neg e, if_neg e]; show (if _ then _ else _) = _; rw [if_neg e]
theorem upd_none {x : Str} {m : Str → Option Value} (h : m x = none) : m = (fun y => if y = x then none else m y) := by
  funext y
  by_cases e : y = x
  · rw [if_pos e, e]; exact h
  · rw [if_neg e]
theorem ints_get {vs : List Value} {l : List Int} (h : IntsAre vs l) : ∀ {i : Nat} {v : Value}, vs[i]? = some v → ∃ k t, l[i]? = some k ∧ v = .int k t := by
  induction h with
  | nil => intro i v hi; cases hi
  | cons n t _ ih =>
    intro i v hi
    cases i with
    | zero => exact ⟨n, t, rfl, (Option.some.inj hi).symm⟩
    | succ i =>
      obtain ⟨k, u, h1, h2⟩ := ih (i := i) (by simpa using hi)
      exact ⟨k, u, by simpa using h1, h2⟩
theorem turn_off {pre : List (Addr × Obj)} {G1 G2 : List Nd} {d : Nd} {v : Int} {t : Tok} {b : Addr} (h : ∀ p ∈ pre ++ (gI G1 ++ (d.ia, ndO d) :: gI G2), p.1 ≠ b) : ∀ p ∈ pre ++ gI (G1 ++ { d with np := v, t := t } :: G2), p.1 ≠ b := by
  rw [gI_mid]
  intro p hp
  simp only [List.mem_append, List.mem_cons] at hp
  rcases hp with hp | hp | rfl | hp
  · exact h p (by first | k_clsL | simp [hp])
  · exact h p (by first | k_clsL | simp [hp])
  · exact h (d.ia, ndO d) (by first | k_clsL | simp)
  · exact h p (by first | k_clsL | simp [hp])
theorem gI_cls {G : List Nd} {p : Addr × Obj} (h : p ∈ gI G) : p.2.cls = .ref 82 := by
  obtain ⟨d, _, rfl⟩ := List.mem_map.mp h; rfl
theorem nd_split {G : List Nd} {k : Int} (h : k ∈ G.map (·.k)) : ∃ G1 d G2, G = G1 ++ d :: G2 ∧ d.k = k := by
  obtain ⟨d, hd, e⟩ := List.mem_map.mp h
  obtain ⟨G1, G2, e2⟩ := List.append_of_mem hd
  exact ⟨G1, d, G2, e2, e⟩
theorem gr_con {sx dx nd rl : Addr} {G : List Nd} {vs : List Value} {ks : List Int} {c : Nat} {t1 t2 t3 t4 t5 t6 : Tok} {np nf : Int}
    (B : Below A₀ base outer h₀) (F : Fr h₀ L s.heap m) (X : (topo.heap_39 w.params).In h₀) (N : News h₀ L s.heap ((sx, instObj 179 dx) :: (dx, sdict w.params nd (.ref rl) np nf t1 t2 t3 t4 t5 t6 4) :: (rl, W.listOf vs.toArray c) :: gI G)) (T : Top p loose mean mg mb h₀) (hk : cs.kind = .function)
    (hvs : IntsAre vs ks) (hvl : vs.length ≤ 900) (hne : vs ≠ []) (hks : ∀ k ∈ ks, k ∈ G.map (·.k)) (hnk : (G.map (·.k)).Nodup) (ND : (sx :: dx :: rl :: G.map (·.ia)).Nodup)
    (hd : s.heap.DictOf (IK w) nd (gKvs G)) (hda : ∀ d ∈ G, s.heap.get? d.da = some (dictOf [] 0))
    (hoff : ∀ b, (b = nd ∨ ∃ d ∈ G, b = d.da) → b ∉ sx :: dx :: rl :: G.map (·.ia))
    (ret : ∀ h' tk' ta t5' c' G', Fr h₀ L h' m → Kept (dx :: rl :: G.map (·.ia)) s.heap h' → Fresh s.heap [ta] →
      News h₀ L h' ((ta, tupO vs) :: (sx, instObj 179 dx) :: (dx, sdict w.params nd (.ref rl) (np + ks.length) nf t1 t2 t3 t4 t5' t6 4) :: (rl, W.listOf #[] c') :: gI G') →
      G'.map ndSh = G.map ndSh → (∀ F : Int → Int, (∀ d ∈ G, d.np = F d.k) → ∀ d ∈ G', d.np = if d.k ∈ ks then -1 else F d.k) → Q (.ref ta) { s with heap := h', toks := tk' }) :
    wpAny (model PySem.Challenge.rw_nq0271_01.row.prog w) (AT 600 cn cs L a ccd cl outer) (call (.ref 141) [.ref sx]) Q E s := by
  revert X T hk
  k_fill
  w_on
  intro X T hk
  k_with_none
  refine wpAny_call ?_
  k_dflt (refine' enterF (binds := [(Str.ofString "self", Value.ref sx)]) ?k1 ?k2 ?k3 ?k4 ?k5 ?kA ?kF ?kK ?k6 ?k7 ?k8 ?k9 ?kB ?_ ?c2 ?c3 ?c4 ?c5; (case kA => exact rfl); (case kF => exact rfl); (case kK => assumption); (case k1 => k_asm); (case k2 => k_asm); (case k3 => k_asm); (case k4 => k_asm); (case k5 => k_asm); (case k6 => k_is); (case k7 => k_is); (case k8 => k_room); (case k9 => exact BindsTo.of_eq rfl); (case c5 => decide); (case kB => exact locs rfl); (case c2 => exact rfl); (case c3 => exact rfl); (case c4 => exact rfl); k_whole)
  intro g L' h₁ FG F' N' B' X' T' kp kb l1
  have hl1 := l1
  refine wp_open fun Qf hQf => ?_
  w_strict k_steps
  rename_i D _ kD _ _ F' N'
  with_unfolding_all refine For_invVF (by assumption) rfl rfl ?_
  w_strict k_steps
  have Dg : g.DictOf (IK w) nd (gKvs G) := by
    obtain ⟨o, ho, hd⟩ := Heap.dictOf_iff.mp hd
    exact Heap.dictOf_iff.mpr ⟨o, kp _ _ ho (by simpa [gI_ias] using hoff nd (.inl rfl)), hd⟩
  have Dda : ∀ d ∈ G, g.get? d.da = some (dictOf [] 0) := fun d hdm => kp _ _ (hda d hdm) (by simpa [gI_ias] using hoff d.da (.inr ⟨d, hdm, rfl⟩))
  have hD : ∀ p ∈ (sx, instObj 179 dx) :: (dx, sdict w.params nd (Value.ref rl) np nf t1 t2 t3 t4 t5 t6 4) :: (rl, W.listOf vs.toArray c) :: gI G, p.1 ≠ D := by
    intro p hp
    refine ne_cls (q := (D, tupO vs)) N' (.tail _ hp) (.head _) ?_
    show p.2.cls ≠ Value.type "tuple"
    rcases List.mem_cons.mp hp with rfl | hp
    · exact fun e => nomatch e
    rcases List.mem_cons.mp hp with rfl | hp
    · show Value.type "dict" ≠ Value.type "tuple"; decide
    rcases List.mem_cons.mp hp with rfl | hp
    · show Value.type "list" ≠ Value.type "tuple"; decide
    rw [gI_cls hp]; exact fun e => nomatch e
  refine tupLoopV (vs := vs) (fun i m₁ news₁ => ∀ Z : Prop, (∀ ov G', m₁ = (fun y => if y = Str.ofString "node" then ov else (fun y => if y = Str.ofString "n2i" then some (Value.ref nd) else if y = Str.ofString "result" then some (Value.ref D) else List.lookup y [(Str.ofString "self", Value.ref sx)].reverse) y) → news₁ = (sx, instObj 179 dx) :: (dx, sdict w.params nd (Value.ref rl) np nf t1 t2 t3 t4 t5 t6 4) :: (rl, W.listOf vs.toArray c) :: gI G' → G'.map ndSh = G.map ndSh → (∀ F : Int → Int, (∀ d ∈ G, d.np = F d.k) → ∀ d ∈ G', d.np = if d.k ∈ ks.take i then -1 else F d.k) → Z) → Z) rfl F' N' hD (fun Zz KZ => KZ none G (upd_none rfl) rfl rfl (fun F hF d hd => by simpa using hF d hd)) ?_ ?_
  · intro i v m₁ news₁ h tk I oI hvi hI F1 N1 o1 o2 o3 QJ hQJ _ _ _
    refine hI _ ?_
    clear hI
    rintro ov G' rfl rfl hsh hnp
    have hi : i < ks.length := by rw [← hvs.length]; exact (List.getElem?_eq_some_iff.mp hvi).1
    obtain ⟨k, t, hki, rfl⟩ := ints_get hvs hvi
    have hkm : k ∈ G'.map (·.k) := by rw [keys_sh hsh]; exact hks k (List.mem_of_getElem? hki)
    obtain ⟨G1, d, G2, rfl, rfl⟩ := nd_split hkm
    rw [upd_upd] at F1
    rw [gI_mid] at N1 o1 o2
    have hI : ∀ p, p ∈ (sx, instObj 179 dx) :: (dx, sdict w.params nd (Value.ref rl) np nf t1 t2 t3 t4 t5 t6 4) :: (rl, W.listOf vs.toArray c) :: (gI G1 ++ (d.ia, ndO d) :: gI G2) → p.1 ≠ I := o1
    have hnd' : (sx :: dx :: rl :: (G1 ++ d :: G2).map (·.ia)).Nodup := by rw [ias_sh hsh]; exact ND
    have hva : valueAt (gKvs G) d.k = some (.ref d.ia) := by
      rw [← gKvs_sh hsh]
      exact valueAt_g (by rw [keys_sh hsh]; exact hnk) (List.mem_append_right _ (.head _))
    have hdd : g.get? d.da = some (dictOf [] 0) := by
      obtain ⟨e, he, q⟩ := sh_mem hsh (List.mem_append_right _ (.head _))
      have : e.da = d.da := congrArg (fun x => x.2.2.1) q
      rw [← this]; exact Dda e he
    have U : Upd d.ia (ndO d) (ndO { d with np := -1, t := 279 }) ((I, oI) :: (D, tupO vs) :: (sx, instObj 179 dx) :: (dx, sdict w.params nd (Value.ref rl) np nf t1 t2 t3 t4 t5 t6 4) :: (rl, W.listOf vs.toArray c) :: (gI G1 ++ (d.ia, ndO d) :: gI G2)) ((I, oI) :: (D, tupO vs) :: (sx, instObj 179 dx) :: (dx, sdict w.params nd (Value.ref rl) np nf t1 t2 t3 t4 t5 t6 4) :: (rl, W.listOf vs.toArray c) :: (gI G1 ++ (d.ia, ndO { d with np := -1, t := 279 }) :: gI G2)) := by
      have hx : (d.ia, ndO d) ∈ (sx, instObj 179 dx) :: (dx, sdict w.params nd (Value.ref rl) np nf t1 t2 t3 t4 t5 t6 4) :: (rl, W.listOf vs.toArray c) :: (gI G1 ++ (d.ia, ndO d) :: gI G2) := by first | k_clsL | simp
      simp only [List.nodup_cons, List.map_append, List.map_cons, List.mem_cons, List.mem_append, not_or] at hnd'
      refine .tail (o1 _ hx).symm (.tail (o2 _ hx).symm (.tail ?_ (.tail ?_ (.tail ?_ (Upd.mid ?_ ?_)))))
      · exact hnd'.1.2.2.2.1
      · exact hnd'.2.1.2.2.1
      · exact hnd'.2.2.1.2.1
      · exact (gI_off (by simpa using hnd'.2.2.2)).1
      · exact (gI_off (by simpa using hnd'.2.2.2)).2
    have hx2 : (d.ia, ndO d) ∈ (I, oI) :: (D, tupO vs) :: (sx, instObj 179 dx) :: (dx, sdict w.params nd (Value.ref rl) np nf t1 t2 t3 t4 t5 t6 4) :: (rl, W.listOf vs.toArray c) :: (gI G1 ++ (d.ia, ndO d) :: gI G2) := by first | k_clsL | simp
    refine wp_halt ?_
    k_with "subscriptTail Name Name ref int" => k_dflt (refine' g_item ?F Dg (intKind_is _ _ _ _) hva ?_; (case F => k_asm))
    k_with "setAttr ref" => k_dflt (refine' set_slot ?k1 ?k2 ?k3 ⟨(News.get ?k3' hx2), rfl, rfl, Fr.keep ?kF _ _ hdd⟩ ?k5 ?k6 ?k7 ?k8 ?k9 ?k10 ?k11 ?k12 U ?_; (case k1 => k_asm); (case k2 => k_asm); (case k3 => k_asm); (case k3' => k_asm); (case kF => k_asm); (case k5 => k_is); (case k6 => k_is); (case k7 => k_is); (case k8 => k_is); (case k9 => k_is); (case k10 => decide); (case k11 => exact rfl); (case k12 => exact rfl); k_whole; intro h' F' N')
    w_strict k_steps
    refine hQJ _ _ _ ((sx, instObj 179 dx) :: (dx, sdict w.params nd (Value.ref rl) np nf t1 t2 t3 t4 t5 t6 4) :: (rl, W.listOf vs.toArray c) :: gI (G1 ++ { d with np := -1, t := 279 } :: G2)) F' (by rw [gI_mid]; exact N') ?_ ?_ (fun Zz KZ => KZ _ _ rfl rfl (sh_turn.trans hsh) (fun F hF => ?_))
    · exact turn_off (pre := [_, _, _]) o1
    · exact turn_off (pre := [_, _, _]) o2
    · have := np_turn (v := -1) (t := 279) (F := fun y => if y ∈ List.take i ks then -1 else F y) (by rw [keys_sh hsh]; exact hnk) (hnp F hF)
      intro x hx
      rw [this x hx]
      have e : ks.take (i + 1) = ks.take i ++ [d.k] := by rw [List.take_add_one, hki]; rfl
      rw [e]
      by_cases h1 : x.k = d.k
      · simp [h1]
      · simp [h1]
  · intro m₁ news₁ h tk hI F1 N1 o1
    refine hI _ ?_
    clear hI
    rintro ov G' rfl rfl hsh hnp
    clear F' N'
    have hnd' := ND
    rw [← ias_sh hsh, ← gI_ias] at hnd'
    simp only [List.nodup_cons, List.mem_cons, not_or] at hnd'
    have r1 : ∀ p ∈ gI G', p.1 ≠ rl := fun p hp e => hnd'.2.2.1 (e ▸ List.mem_map_of_mem hp)
    have r2 : ∀ p ∈ gI G', p.1 ≠ dx := fun p hp e => hnd'.2.1.2 (e ▸ List.mem_map_of_mem hp)
    have r3 : Apart D rl := fun e => o1 (rl, W.listOf vs.toArray c) (by first | k_clsL | simp) e.symm
    have r4 : Apart D dx := fun e => o1 (dx, sdict w.params nd (Value.ref rl) np nf t1 t2 t3 t4 t5 t6 4) (by first | k_clsL | simp) e.symm
    have r5 : Apart sx dx := hnd'.1.1
    have r6 : Apart sx rl := hnd'.1.2.1
    have r7 : Apart dx rl := hnd'.2.1.1
    k_with "call builtin:list.clear" => k_dflt ((refine' kl_clear ?F ?N ?U ?ne ?z ?_; (case F => k_asm); (case N => k_asm); (case U => k_upd); (case ne => exact fun e => hne (List.length_eq_zero_iff.mp e)); (case z => (show vs.length ≤ _; rw [PySem.sizeLine_eq]; lia))); intro h' F' N')
    k_with "call builtin:len" => k_dflt (refine' len_tuple (News.isTup (by k_asm) (List.Mem.head _)) ?fit ?_; (case fit => (rw [List.size_toArray]; lia)))
    w_strict k_steps
    refine hQf _ _ ?_
    w_strict k_steps
    rename Fr g _ _ _ => FF
    rename News g _ _ _ => NN
    rename Fr h₀ L _ _ => kF
    rename News h₀ L _ _ => kN
    (try dsimp only at kN NN)
    rw [show ((vs.toArray.size : Nat) : Int) = (ks.length : Int) by rw [List.size_toArray, hvs.length]] at kN
    refine ret _ _ D _ (c + 1) G' kF ?_ ?_ kN hsh (fun F hF d hd => by have := hnp F hF d hd; rwa [List.take_of_length_le (by rw [hvs.length]; exact Nat.le_refl _)] at this)
    · refine kept_of N FF NN kp ?_
      intro q hq
      rcases List.mem_cons.mp hq with rfl | hq
      · exact .inl (by first | k_clsL | simp)
      rcases List.mem_cons.mp hq with rfl | hq
      · exact .inr (by first | k_clsL | simp)
      rcases List.mem_cons.mp hq with rfl | hq
      · exact .inr (by first | k_clsL | simp)
      · refine .inr ?_
        rw [← gI_ias]
        exact .tail _ (.tail _ (List.mem_map_of_mem hq))
    · refine List.forall_mem_cons.mpr ⟨fresh_of NN kp (.head _) hD, List.forall_mem_nil _⟩
end
end

section
open PySem PySem.Calls PySem.W PyProof.Rows
set_option Elab.async false
set_option maxRecDepth 100000
set_option maxHeartbeats 3000000
set_option pp.deepTerms false
set_option pp.maxSteps 20000
section
variable {w : World} {mean : ExcName → Option Value} {mg mb : Str → Option Value} {p : Program} {loose : List Str} {cn : Str} {cs : Scope} {a : Addr} {ccd : Value} {cl : List (Str × Addr)} {outer : List Env} {A₀ : Around} {base h₀ : Heap} {L : Addr} {m : Str → Option Value} {s : Shared}
    {Q E : Value → Shared → Prop}

theorem mkeep {m : Str → Option Value} {x : Str} {v : Option Value} (h : m x = v) : m = (fun y => if y = x then v else m y) := by
  funext y
  by_cases e : y = x
  · rw [if_pos e, e]; exact h
  · rw [if_neg e]
theorem mkeep2 {m : Str → Option Value} {x x' : Str} {v v' : Option Value} (h : m x = v) (h' : m x' = v') : m = (fun y => if y = x then v else if y = x' then v' else m y) := by
  funext y
  by_cases e : y = x
  · rw [if_pos e, e]; exact h
  · rw [if_neg e]
    by_cases e : y = x'
    · rw [if_pos e, e]; exact h'
    · rw [if_neg e]
section
variable {prog : Program} {w : World} {A : Around} {E : Value → Shared → Prop} {s : Shared} {h₀ : Heap} {L : Addr} {m : Str → Option Value}
theorem g_dict {K : Type} [DecidableEq K] {knd : KeyKind prog w K} {d : Addr} {kvs : List (K × Value)} (F : Fr h₀ L s.heap m) (hD : h₀.DictOf knd d kvs) : s.heap.DictOf knd d kvs := by
  obtain ⟨o, ho, hd⟩ := Heap.dictOf_iff.mp hD
  exact Heap.dictOf_iff.mpr ⟨o, F.keep _ _ ho, hd⟩
theorem gd_method {K : Type} [DecidableEq K] {knd : KeyKind prog w K} {d : Addr} {kvs : List (K × Value)} {pl : Sem Bool} {Q : Value × List Value → Shared → Prop} (F : Fr h₀ L s.heap m) (hD : h₀.DictOf knd d kvs) (h : Q (.builtin "dict.get", [.ref d]) s) : wpAny (model prog w) A (getMethod (.ref d) "get" pl) Q E s :=
  have hD := g_dict F hD
  getMethod_builtin hD.typeIs PySem.F.plainAttrs_dict PySem.F.slot_dict_get PySem.F.type_dict_get hD.mapOf.noDict h
theorem gd_get1 {K : Type} [DecidableEq K] {knd : KeyKind prog w K} {d : Addr} {kvs : List (K × Value)} {k : K} {key : Value} {Q : Value → Shared → Prop} (F : Fr h₀ L s.heap m) (hD : h₀.DictOf knd d kvs) (lo : (d == sysModules) = false) (hkey : knd.is k key = true) {x : Option Value} (hl : valueAt kvs k = x) (h : Q (x.getD .none) { s with toks := s.toks + 1 }) :
    wpAny (model prog w) A (call (.builtin "dict.get") [.ref d, key]) Q E s :=
  have hD := g_dict F hD
  call_meetsIn PySem.F.slot_dict_get hD.typeIs PySem.F.entry_dict_get (PySem.F.args_dict_get_2 _ _) (meets_dict_get knd d hkey lo) ⟨_, hD.mapOf, by rw [hl]; exact h⟩
end
/-- as enterR, the binding told by a rule -/
theorem enterRb {prog : Program} {w : World} {A A₀ : Around} {s : Shared} {K : Frag} {L : Addr} {h₀ base : Heap} {m mg mb : Str → Option Value} {news : List (Addr × Obj)} {p : Program} {loose : List Str} {mean : ExcName → Option Value} {env : Env} {outer : List Env} {R : Result → Shared → Prop} {name qual : Str} {params : Arguments} {body : List Stmt} {scope : Scope} {dV kV doc pm cdv ct oc : Value} {an od : Option Addr} {osl : Array (Option Value)} {f : Addr} {args : Args} {vs : List Value} {binds : Addr → List (Str × Value)}
    (B : Below A₀ base outer h₀) (F : Fr h₀ L s.heap m) (X₀ : K.In h₀) (N : News h₀ L s.heap news) (T : Top p loose mean mg mb h₀) (hA : A.frames = some (env :: outer)) (hf : env.frame = some L) (hke : env.scope.kind = .function)
    (ho : K.lookup f = some ⟨oc, od, .func (fnOf name qual params body scope dV kV doc pm an cdv ct), osl⟩) (hcd : codeIn K cdv qual = true) (hroom : A.depth < recursionLimit)
    (hb : ∀ (Q' : List (Str × Value) → Shared → Prop) (A' : Around) (E' : Value → Shared → Prop), Q' (binds s.heap.objs.size) { s with heap := s.heap.push ({ cls := .type "tuple", data := .seq vs.toArray } : Obj) } → wpAny (model prog w) A' (bindArgs (fnOf name qual params body scope dV kV doc pm an cdv ct) args) Q' E' s)
    (hloc : ∀ D, ∀ y ∈ binds D, scope.names.lookup y.1 = some .local)
    (h : ∀ D g L' h₁, Fr h₀ L g m → Fr g L' h₁ (fun y => (binds D).reverse.lookup y) → News g L' h₁ ((D, ({ cls := .type "tuple", data := .seq vs.toArray } : Obj)) :: news) → Below A base (env :: outer) g → K.In g → Top p loose mean mg mb g →
      (∀ b o, s.heap.get? b = some o → b ∉ news.map (·.1) → g.get? b = some o) → s.heap.get? D = none → (∀ p ∈ news, p.1 < D) → D < L' →
      wpAny (model prog w) (A.deeper (envOf qual scope L' f cdv)) (execs body (envOf qual scope L' f cdv))
        (fun fl s' => LeaveK h₀ L m g R (match fl with | .ret v => v | _ => .none) s')
        (fun e s' => wpAny (model prog w) (A.deeper (envOf qual scope L' f cdv)) (leaving (envOf qual scope L' f cdv) e) (fun _ s'' => R (.error e) s'') (fun e' s'' => R (.error e') s'') s')
        { s with heap := h₁, toks := s.toks + (binds D).length })
    (hco : scope.isCoroutine = false) (hgen : scope.isGenerator = false) (hk : scope.kind = .function)
    (hcell : ∀ x ∈ scope.names, x.2 ≠ .cell) : codeAny (model prog w) A (.call (.ref f) args) R s := by
  refine codeAny_call_function (fd := fnOf name qual params body scope dV kV doc pm an cdv ct) (body := body) hroom ((X₀.keeps F.keep) _ _ ho) rfl hco hgen rfl (codeRec_of (X₀.keeps F.keep) hcd) ?_
  refine hb _ _ _ ?_
  have F₁ := F.push ({ cls := .type "tuple", data := .seq vs.toArray } : Obj)
  have N₁ := News.push F N ({ cls := .type "tuple", data := .seq vs.toArray } : Obj)
  have hsz : (s.heap.push ({ cls := .type "tuple", data := .seq vs.toArray } : Obj)).objs.size = s.heap.objs.size + 1 := Heap.size_push _ _
  have hnone : s.heap.get? s.heap.objs.size = none := Heap.get?_none_of_le (Nat.le_refl _)
  generalize hh : s.heap.push ({ cls := .type "tuple", data := .seq vs.toArray } : Obj) = hp₁ at F₁ N₁ hsz ⊢
  obtain ⟨FG, BG, st, lv⟩ := groundX (R := R) (s := { s with heap := hp₁ }) B F₁ N₁ hA hf hke
  refine wpAny_newFunctionEnv (hcell) (hloc _) (fun h₁ hns hsb => ⟨(T.nolimit.keeps F₁.keep).fresh _ hsb, codeAny_func ?_⟩) hk
  have hk₁ : ∀ b o, hp₁.get? b = some o → h₁.get? b = some o := fun b o e => hsb.extBut b o (Nat.ne_of_lt (Heap.lt_size e)) (Heap.get?_push_of_some _ e)
  refine wpAny_mono (h _ _ hp₁.objs.size h₁ FG ⟨hns, fun b o e => hk₁ b o (of_hideAll _ e), Nat.le_of_eq (hideAll_size _ _)⟩
    (fun p hp => ⟨hk₁ _ _ (N₁ p hp).1, Nat.ne_of_lt (Heap.lt_size (N₁ p hp).1), hideAll_none _ (List.mem_map_of_mem hp)⟩) BG (X₀.keeps st) (T.keeps st) (fun b o e hn => hideAll_get _ (by rw [← hh]; exact Heap.get?_push_of_some _ e) ?_) hnone (fun p hp => Heap.lt_size (N p hp).1) (by rw [hsz]; exact Nat.lt_succ_self _)) (fun fl s' hl => lv _ _ hl) fun _ _ y => y
  intro hm
  rcases List.mem_cons.mp hm with e' | e'
  · subst e'; rw [hnone] at e; cases e
  · exact hn e'

theorem wp_cast {α : Type} {M : Model} {A : Around} {E : Value → Shared → Prop} {s : Shared} {Q : α → Shared → Prop} {t t' : Sem α} (e : t = t') (h : wpAny M A t' Q E s) : wpAny M A t Q E s := e ▸ h
theorem tail_off {H1 H2 : List (Addr × Obj)} {b r : Addr} {o o' : Obj} (h : ∀ p ∈ H1 ++ (b, o) :: H2, p.1 ≠ r) : ∀ p ∈ H1 ++ (b, o') :: H2, p.1 ≠ r := by
  intro p hp
  rcases List.mem_append.mp hp with hp | hp
  · exact h p (List.mem_append_left _ hp)
  · rcases List.mem_cons.mp hp with rfl | hp
    · exact h (b, o) (List.mem_append_right _ (.head _))
    · exact h p (List.mem_append_right _ (.tail _ hp))
theorem flatMap_sub {f : Int → List Int} : ∀ {l l' : List Int}, l.Sublist l' → (l.flatMap f).Sublist (l'.flatMap f) := by
  intro l l' h
  induction h with
  | slnil => exact .slnil
  | cons a _ ih => rw [List.flatMap_cons]; exact ih.trans (List.sublist_append_right _ _)
  | cons_cons a _ ih => rw [List.flatMap_cons, List.flatMap_cons]; exact (List.Sublist.refl _).append ih
theorem dn_con {sx dx nd rl : Addr} {G : List Nd} {vs : List Value} {ks : List Int} {su : Int → List Value} {sn : Int → Nat} {ch : Int → List Int} {F0 : Int → Int} {c : Nat} {t1 t2 t3 t4 t5 t6 : Tok} {np nf : Int}
    (B : Below A₀ base outer h₀) (F : Fr h₀ L s.heap m) (X : (topo.heap_39 w.params).In h₀) (N : News h₀ L s.heap ((sx, instObj 179 dx) :: (dx, sdict w.params nd (.ref rl) np nf t1 t2 t3 t4 t5 t6 4) :: (rl, W.listOf #[] c) :: gI G)) (T : Top p loose mean mg mb h₀) (hk : cs.kind = .function)
    (hvs : IntsAre vs ks) (hvl : vs.length ≤ 900) (hks : ∀ k ∈ ks, k ∈ G.map (·.k)) (hnk : (G.map (·.k)).Nodup) (ND : (sx :: dx :: rl :: G.map (·.ia)).Nodup)
    (hd : s.heap.DictOf (IK w) nd (gKvs G)) (hlow : (nd == sysModules) = false) (hda : ∀ d ∈ G, s.heap.get? d.da = some (dictOf [] 0)) (hsa : ∀ d ∈ G, s.heap.get? d.sa = some (W.listOf (su d.k).toArray (sn d.k)))
    (hoff : ∀ b, (b = nd ∨ ∃ d ∈ G, b = d.da ∨ b = d.sa) → b ∉ sx :: dx :: rl :: G.map (·.ia))
    (hch : ∀ k ∈ ks, IntsAre (su k) (ch k)) (hcn : (ks.flatMap ch).Nodup) (hcl : (ks.flatMap ch).length ≤ 900) (hcm : ∀ k ∈ ks, ∀ y ∈ ch k, y ∈ G.map (·.k)) (hkn : ks.Nodup)
    (hF0 : ∀ d ∈ G, d.np = F0 d.k) (hFk : ∀ k ∈ ks, F0 k = -1) (hFc : ∀ k ∈ ks, ∀ y ∈ ch k, F0 y = 1)
    (ret : ∀ h' tk' t6' c' G' rs, Fr h₀ L h' m → Kept (dx :: rl :: G.map (·.ia)) s.heap h' →
      News h₀ L h' ((sx, instObj 179 dx) :: (dx, sdict w.params nd (.ref rl) np (nf + ks.length) t1 t2 t3 t4 t5 t6' 4) :: (rl, W.listOf rs.toArray c') :: gI G') → IntsAre rs (ks.flatMap ch) →
      G'.map ndSh = G.map ndSh → (∀ d ∈ G', d.np = if d.k ∈ ks then -2 else if d.k ∈ ks.flatMap ch then 0 else F0 d.k) → Q .none { s with heap := h', toks := tk' }) :
    codeAny (model PySem.Challenge.rw_nq0271_01.row.prog w) (AT 600 cn cs L a ccd cl outer) (.call (.ref 162) ⟨.ref sx :: vs, []⟩) (fun r s' => match r with | .ok (.ret v) => Q v s' | .ok _ => False | .error e => E e s') s := by
  revert X T hk
  k_fill
  w_on
  intro X T hk
  k_with_none
  k_dflt (refine' enterRb (vs := vs) (binds := fun D => [(Str.ofString "self", Value.ref sx), (Str.ofString "nodes", Value.ref D)]) ?k1 ?k2 ?k3 ?k4 ?k5 ?kA ?kF ?kK ?k6 ?k7 ?k8 ?kP ?kB ?_ ?c2 ?c3 ?c4 ?c5; (case kA => exact rfl); (case kF => exact rfl); (case kK => assumption); (case k1 => k_asm); (case k2 => k_asm); (case k3 => k_asm); (case k4 => k_asm); (case k5 => k_asm); (case k6 => k_is); (case k7 => k_is); (case k8 => k_room); (case kP => (intro Q1 A1 E1 hq; refine wp_cast (t' := newTuple vs >>= fun t => pure [(Str.ofString "self", Value.ref sx), (Str.ofString "nodes", t)]) (by cases vs <;> rfl) (wpAny_bind (wpAny_newTuple (wpAny_pure hq) (by rw [PySem.sizeLine_eq]; omega))))); (case kB => exact fun _ => locs rfl); (case c5 => decide); (case c2 => exact rfl); (case c3 => exact rfl); (case c4 => exact rfl); k_whole)
  intro D g L' h₁ FG F' N' B' X' T' kp hD l1 l2
  refine wp_open fun Qf hQf => ?_
  w_strict k_steps
  with_unfolding_all refine For_invVF (by assumption) rfl rfl ?_
  w_strict k_steps
  have Dg : g.DictOf (IK w) nd (gKvs G) := by
    obtain ⟨o, ho, hd⟩ := Heap.dictOf_iff.mp hd
    exact Heap.dictOf_iff.mpr ⟨o, kp _ _ ho (by simpa [gI_ias] using hoff nd (.inl rfl)), hd⟩
  have Dda : ∀ d ∈ G, g.get? d.da = some (dictOf [] 0) := fun d hdm => kp _ _ (hda d hdm) (by simpa [gI_ias] using hoff d.da (.inr ⟨d, hdm, .inl rfl⟩))
  have Dsa : ∀ d ∈ G, g.get? d.sa = some (W.listOf (su d.k).toArray (sn d.k)) := fun d hdm => kp _ _ (hsa d hdm) (by simpa [gI_ias] using hoff d.sa (.inr ⟨d, hdm, .inr rfl⟩))
  have hD' : ∀ p ∈ (sx, instObj 179 dx) :: (dx, sdict w.params nd (Value.ref rl) np nf t1 t2 t3 t4 t5 t6 4) :: (rl, W.listOf #[] c) :: gI G, p.1 ≠ D := fun p hp => Nat.ne_of_lt (l1 p hp)
  rename_i F' N'
  refine tupLoopV (vs := vs) (fun i m₁ news₁ => ∀ Z : Prop, (∀ G' rs c' t6', m₁ (Str.ofString "n2i") = some (Value.ref nd) → m₁ (Str.ofString "self") = some (Value.ref sx) → news₁ = (sx, instObj 179 dx) :: (dx, sdict w.params nd (Value.ref rl) np (nf + i) t1 t2 t3 t4 t5 t6' 4) :: (rl, W.listOf rs.toArray c') :: gI G' → G'.map ndSh = G.map ndSh → IntsAre rs ((ks.take i).flatMap ch) → (∀ d ∈ G', d.np = if d.k ∈ ks.take i then -2 else if d.k ∈ (ks.take i).flatMap ch then 0 else F0 d.k) → Z) → Z) rfl F' N' hD' (fun Zz KZ => KZ G [] c t6 rfl rfl (by rw [Int.natCast_zero, Int.add_zero]) rfl .nil (fun d hd => by rw [hF0 d hd]; rfl)) ?_ ?_
  · intro i v m₁ news₁ h tk I oI hvi hI F1 N1 o1 o2 o3 QJ hQJ _ _ _
    refine hI _ ?_
    clear hI
    rintro G' rs c' t6' hm1 hm2 rfl hsh hrs hnp
    obtain ⟨k, t, hki, rfl⟩ := ints_get hvs hvi
    have hkks : k ∈ ks := List.mem_of_getElem? hki
    have hkm : k ∈ G'.map (·.k) := by rw [keys_sh hsh]; exact hks k hkks
    obtain ⟨G1, d, G2, rfl, rfl⟩ := nd_split hkm
    have htk : ks.take (i + 1) = ks.take i ++ [d.k] := by rw [List.take_add_one, hki]; rfl
    have hkt : d.k ∉ ks.take i := by
      intro hm
      have := hkn.sublist (List.take_sublist (i + 1) ks)
      rw [htk, List.nodup_append] at this
      exact this.2.2 _ hm _ (.head _) rfl
    have hkc : d.k ∉ (ks.take i).flatMap ch := by
      intro hm
      obtain ⟨q, hq, hy⟩ := List.mem_flatMap.mp hm
      have := hFc q (List.mem_of_mem_take hq) _ hy
      rw [hFk _ hkks] at this; cases this
    have hdn : d.np = -1 := by
      rw [hnp d (List.mem_append_right _ (.head _)), if_neg hkt, if_neg hkc]; exact hFk _ hkks
    have hdd : g.get? d.da = some (dictOf [] 0) ∧ g.get? d.sa = some (W.listOf (su d.k).toArray (sn d.k)) := by
      obtain ⟨e, he, q⟩ := sh_mem hsh (List.mem_append_right _ (.head _))
      have h1 : e.da = d.da := congrArg (fun x => x.2.2.1) q
      have h2 : e.sa = d.sa := congrArg (fun x => x.2.2.2.1) q
      have h3 : e.k = d.k := congrArg (fun x => x.1) q
      rw [← h1, ← h2, ← h3]; exact ⟨Dda e he, Dsa e he⟩
    have hva : valueAt (gKvs G) d.k = some (.ref d.ia) := by
      rw [← gKvs_sh hsh]
      exact valueAt_g (by rw [keys_sh hsh]; exact hnk) (List.mem_append_right _ (.head _))
    rw [mkeep2 hm1 hm2] at F1
    rw [gI_mid] at N1 o1 o2
    have hnd' : (sx :: dx :: rl :: (G1 ++ d :: G2).map (·.ia)).Nodup := by rw [ias_sh hsh]; exact ND
    have hID : ∀ b ∈ sx :: dx :: rl :: G.map (·.ia), b ≠ I ∧ b ≠ D := by
      intro b hb
      have hb' : b ∈ ((sx, instObj 179 dx) :: (dx, sdict w.params nd (Value.ref rl) np (nf + i) t1 t2 t3 t4 t5 t6' 4) :: (rl, W.listOf rs.toArray c') :: (gI G1 ++ (d.ia, ndO d) :: gI G2)).map (·.1) := by
        rw [← gI_mid]; simp only [List.map_cons, gI_ias, ias_sh hsh]; exact hb
      obtain ⟨q, hq, rfl⟩ := List.mem_map.mp hb'
      exact ⟨o1 q hq, o2 q hq⟩
    have U : Upd d.ia (ndO d) (ndO { d with np := -2, t := 282 }) ((I, oI) :: (D, tupO vs) :: (sx, instObj 179 dx) :: (dx, sdict w.params nd (Value.ref rl) np (nf + i) t1 t2 t3 t4 t5 t6' 4) :: (rl, W.listOf rs.toArray c') :: (gI G1 ++ (d.ia, ndO d) :: gI G2)) ((I, oI) :: (D, tupO vs) :: (sx, instObj 179 dx) :: (dx, sdict w.params nd (Value.ref rl) np (nf + i) t1 t2 t3 t4 t5 t6' 4) :: (rl, W.listOf rs.toArray c') :: (gI G1 ++ (d.ia, ndO { d with np := -2, t := 282 }) :: gI G2)) := by
      have hx : (d.ia, ndO d) ∈ (sx, instObj 179 dx) :: (dx, sdict w.params nd (Value.ref rl) np (nf + i) t1 t2 t3 t4 t5 t6' 4) :: (rl, W.listOf rs.toArray c') :: (gI G1 ++ (d.ia, ndO d) :: gI G2) := by first | k_clsL | simp
      simp only [List.nodup_cons, List.map_append, List.map_cons, List.mem_cons, List.mem_append, not_or] at hnd'
      refine .tail (o1 _ hx).symm (.tail (o2 _ hx).symm (.tail ?_ (.tail ?_ (.tail ?_ (Upd.mid ?_ ?_)))))
      · exact hnd'.1.2.2.2.1
      · exact hnd'.2.1.2.2.1
      · exact hnd'.2.2.1.2.1
      · exact (gI_off (by simpa using hnd'.2.2.2)).1
      · exact (gI_off (by simpa using hnd'.2.2.2)).2
    have hx2 : (d.ia, ndO d) ∈ (I, oI) :: (D, tupO vs) :: (sx, instObj 179 dx) :: (dx, sdict w.params nd (Value.ref rl) np (nf + i) t1 t2 t3 t4 t5 t6' 4) :: (rl, W.listOf rs.toArray c') :: (gI G1 ++ (d.ia, ndO d) :: gI G2) := by first | k_clsL | simp
    have hdo : ndO d = infoO d.k d.u (-1) d.t d.da d.sa := by rw [ndO, hdn]
    rw [hdo] at U hx2 N1
    clear F' N'
    refine wp_halt ?_
    k_with "getMethod ref" => k_dflt (refine' gd_method ?F Dg ?_; (case F => k_asm))
    k_with "call builtin:dict.get" => k_dflt ((refine' gd_get1 ?F Dg hlow (intKind_is _ _ _ _) hva ?_; (case F => k_asm)); dsimp only [Option.getD])
    k_with "getAttr ref" => k_dflt (refine' get_slot ?k1 ?k2 ⟨(News.get ?k3' hx2), rfl, rfl, Fr.keep ?kF _ _ hdd.1⟩ ?k4 ?k5 ?k6 ?k7 ?k8 ?k9 ?k10 ?k11 ?_; (case k1 => k_asm); (case k2 => k_asm); (case kF => k_asm); (case k3' => k_asm); (case k4 => k_is); (case k5 => k_is); (case k6 => k_is); (case k7 => k_is); (case k8 => k_is); (case k9 => k_is); (case k10 => k_slotget); (case k11 => k_handed); k_whole)
    k_with "setAttr ref" => k_dflt (refine' set_slot ?k1 ?k2 ?k3 ⟨(News.get ?k3' hx2), rfl, rfl, Fr.keep ?kF _ _ hdd.1⟩ ?k5 ?k6 ?k7 ?k8 ?k9 ?k10 ?k11 ?k12 U ?_; (case k1 => k_asm); (case k2 => k_asm); (case k3 => k_asm); (case k3' => k_asm); (case kF => k_asm); (case k5 => k_is); (case k6 => k_is); (case k7 => k_is); (case k8 => k_is); (case k9 => k_is); (case k10 => decide); (case k11 => exact rfl); (case k12 => exact rfl); k_whole; intro h' F' N')
    k_with "exec For Name Attribute cons nil" => k_dflt (refine halt ?_)
    w_strict k_steps
    k_with_none
    rename_i F' N'
    generalize hD2 : ({ d with np := -2, t := 282 } : Nd) = d2 at N'
    have hd2k : d2.k = d.k := by rw [← hD2]
    have hd2a : d2.ia = d.ia ∧ d2.da = d.da ∧ d2.sa = d.sa := by rw [← hD2]; exact ⟨rfl, rfl, rfl⟩
    have hsh2 : (G1 ++ d2 :: G2).map ndSh = G.map ndSh := by rw [← hD2]; exact sh_turn.trans hsh
    have hnp2 : ∀ x ∈ G1 ++ d2 :: G2, x.np = if x.k ∈ ks.take i ++ [d.k] then -2 else if x.k ∈ (ks.take i).flatMap ch then 0 else F0 x.k := by
      rw [← hD2]
      intro x hx
      rw [np_turn (v := -2) (t := 282) (F := fun y => if y ∈ List.take i ks then -2 else if y ∈ (ks.take i).flatMap ch then 0 else F0 y) (by rw [keys_sh hsh]; exact hnk) hnp x hx]
      by_cases h1 : x.k = d.k
      · simp [h1]
      · simp [h1]
    have hx3 : (d.ia, ndO d2) ∈ (I, oI) :: (D, tupO vs) :: (sx, instObj 179 dx) :: (dx, sdict w.params nd (Value.ref rl) np (nf + i) t1 t2 t3 t4 t5 t6' 4) :: (rl, W.listOf rs.toArray c') :: (gI G1 ++ (d.ia, ndO d2) :: gI G2) := by first | k_clsL | simp
    have hd2o : ndO d2 = infoO d.k d.u (-2) 282 d.da d.sa := by rw [← hD2]
    rw [hd2o] at N' hx3
    with_unfolding_all refine For_invVF (by assumption) rfl rfl ?_
    k_with "getAttr ref" => k_dflt (refine' get_slot ?k1 ?k2 ⟨(News.get ?k3' hx3), rfl, rfl, Fr.keep ?kF _ _ hdd.1⟩ ?k4 ?k5 ?k6 ?k7 ?k8 ?k9 ?k10 ?k11 ?_; (case k1 => k_asm); (case k2 => k_asm); (case kF => k_asm); (case k3' => k_asm); (case k4 => k_is); (case k5 => k_is); (case k6 => k_is); (case k7 => k_is); (case k8 => k_is); (case k9 => k_is); (case k10 => k_slotget); (case k11 => k_handed); k_whole)
    w_strict k_steps
    k_with_none
    rw [← hd2o] at N'
    have hN2 : News g L' h' ((I, oI) :: (D, tupO vs) :: (sx, instObj 179 dx) :: (dx, sdict w.params nd (Value.ref rl) np (nf + i) t1 t2 t3 t4 t5 t6' 4) :: (rl, W.listOf rs.toArray c') :: gI (G1 ++ d2 :: G2)) := by rw [gI_mid, hd2a.1]; exact N'
    refine listLoopV (vs := su d.k) (c := sn d.k) (fun j m₁ news₁ => ∀ Z : Prop, (∀ G' rs' c', m₁ (Str.ofString "n2i") = some (Value.ref nd) → m₁ (Str.ofString "self") = some (Value.ref sx) → news₁ = (I, oI) :: (D, tupO vs) :: (sx, instObj 179 dx) :: (dx, sdict w.params nd (Value.ref rl) np (nf + i) t1 t2 t3 t4 t5 t6' 4) :: (rl, W.listOf rs'.toArray c') :: gI G' → G'.map ndSh = G.map ndSh → IntsAre rs' ((ks.take i).flatMap ch ++ (ch d.k).take j) → (∀ x ∈ G', x.np = if x.k ∈ ks.take i ++ [d.k] then -2 else if x.k ∈ (ks.take i).flatMap ch ++ (ch d.k).take j then 0 else F0 x.k) → Z) → Z) rfl hdd.2 F' hN2 (fun Zz KZ => KZ _ rs c' rfl rfl rfl hsh2 (by rw [List.take_zero, List.append_nil]; exact hrs) (by rw [List.take_zero, List.append_nil]; exact hnp2)) ?_ ?_
    · clear N' F' hN2 hnp2 hsh2 hrs hnp U hx2 hx3 hdn
      intro j v m₁ news₁ h tk I2 oI2 hvj hI F1 N1 o1' QK hQK _ _ _
      refine hI _ ?_
      clear hI
      rintro G' rs c' hm1 hm2 rfl hsh' hrs hnp
      obtain ⟨y, t, hyj, rfl⟩ := ints_get (hch _ hkks) hvj
      have hyc : y ∈ ch d.k := List.mem_of_getElem? hyj
      have hym : y ∈ G'.map (·.k) := by rw [keys_sh hsh']; exact hcm _ hkks y hyc
      obtain ⟨H1, e, H2, rfl, rfl⟩ := nd_split hym
      have htj : (ch d.k).take (j + 1) = (ch d.k).take j ++ [e.k] := by rw [List.take_add_one, hyj]; rfl
      have hsl : ((ks.take i).flatMap ch ++ ((ch d.k).take j ++ [e.k])).Sublist (ks.flatMap ch) := by
        rw [← htj]
        refine ((List.Sublist.refl _).append (List.take_sublist _ _)).trans ?_
        have : (ks.take (i + 1)).flatMap ch = (ks.take i).flatMap ch ++ ch d.k := by rw [htk, List.flatMap_append]; simp
        rw [← this]
        exact flatMap_sub (List.take_sublist _ _)
      have hsub := hcn.sublist hsl
      have hye : e.k ∉ (ks.take i).flatMap ch ++ (ch d.k).take j := by
        rw [← List.append_assoc, List.nodup_append] at hsub
        exact fun hm => hsub.2.2 _ hm _ (.head _) rfl
      have hyk : e.k ∉ ks.take i ++ [d.k] := by
        rw [← htk]
        intro hm
        have h1 := hFk _ (List.mem_of_mem_take hm)
        rw [hFc _ hkks _ hyc] at h1; cases h1
      have hen : e.np = 1 := by
        rw [hnp e (List.mem_append_right _ (.head _)), if_neg hyk, if_neg hye]; exact hFc _ hkks _ hyc
      have hed : g.get? e.da = some (dictOf [] 0) := by
        obtain ⟨x, hx, q⟩ := sh_mem hsh' (List.mem_append_right _ (.head _))
        have h1 : x.da = e.da := congrArg (fun x => x.2.2.1) q
        rw [← h1]; exact Dda x hx
      have hva' : valueAt (gKvs G) e.k = some (.ref e.ia) := by
        rw [← gKvs_sh hsh']
        exact valueAt_g (by rw [keys_sh hsh']; exact hnk) (List.mem_append_right _ (.head _))
      have hnd2 : (sx :: dx :: rl :: (H1 ++ e :: H2).map (·.ia)).Nodup := by rw [ias_sh hsh']; exact ND
      have hxI : e.ia ≠ I ∧ e.ia ≠ D := hID e.ia (by rw [← ias_sh hsh']; simp)
      rw [mkeep2 hm1 hm2] at F1
      rw [gI_mid] at N1 o1'
      have heo : ndO e = infoO e.k e.u 1 e.t e.da e.sa := by rw [ndO, hen]
      rw [heo] at N1
      have hxI2 : e.ia ≠ I2 := o1' (e.ia, ndO e) (by first | k_clsL | simp)
      have off := gI_off (G1 := H1) (G2 := H2) (d := e) (by simpa using (List.nodup_cons.mp (List.nodup_cons.mp (List.nodup_cons.mp hnd2).2).2).2)
      have hne3 : sx ≠ e.ia ∧ dx ≠ e.ia ∧ rl ≠ e.ia := by
        simp only [List.nodup_cons, List.map_append, List.map_cons, List.mem_cons, List.mem_append, not_or] at hnd2
        exact ⟨hnd2.1.2.2.2.1, hnd2.2.1.2.2.1, hnd2.2.2.1.2.1⟩
      have U : ∀ tt, Upd e.ia (infoO e.k e.u 1 e.t e.da e.sa) (infoO e.k e.u (1 - 1) tt e.da e.sa) ((I2, oI2) :: (I, oI) :: (D, tupO vs) :: (sx, instObj 179 dx) :: (dx, sdict w.params nd (Value.ref rl) np (nf + i) t1 t2 t3 t4 t5 t6' 4) :: (rl, W.listOf rs.toArray c') :: (gI H1 ++ (e.ia, infoO e.k e.u 1 e.t e.da e.sa) :: gI H2)) ((I2, oI2) :: (I, oI) :: (D, tupO vs) :: (sx, instObj 179 dx) :: (dx, sdict w.params nd (Value.ref rl) np (nf + i) t1 t2 t3 t4 t5 t6' 4) :: (rl, W.listOf rs.toArray c') :: (gI H1 ++ (e.ia, infoO e.k e.u (1 - 1) tt e.da e.sa) :: gI H2)) := fun tt =>
        .tail hxI2.symm (.tail hxI.1.symm (.tail hxI.2.symm (.tail hne3.1 (.tail hne3.2.1 (.tail hne3.2.2 (Upd.mid off.1 off.2))))))
      have hx4 : ∀ tt v, (e.ia, infoO e.k e.u v tt e.da e.sa) ∈ (I2, oI2) :: (I, oI) :: (D, tupO vs) :: (sx, instObj 179 dx) :: (dx, sdict w.params nd (Value.ref rl) np (nf + i) t1 t2 t3 t4 t5 t6' 4) :: (rl, W.listOf rs.toArray c') :: (gI H1 ++ (e.ia, infoO e.k e.u v tt e.da e.sa) :: gI H2) := fun tt v => by first | k_clsL | simp
      have hrl : ∀ tt v, ∀ p ∈ gI H1 ++ (e.ia, infoO e.k e.u v tt e.da e.sa) :: gI H2, p.1 ≠ rl := by
        intro tt v p hp
        refine tail_off (o := ndO e) (o' := infoO e.k e.u v tt e.da e.sa) (fun q hq => ?_) p hp
        rw [← gI_mid] at hq
        simp only [List.nodup_cons] at hnd2
        exact fun e' => hnd2.2.2.1 (by rw [← e', ← gI_ias]; exact List.mem_map_of_mem hq)
      have rA1 : Apart I2 rl := fun e' => o1' (rl, W.listOf rs.toArray c') (by first | k_clsL | simp) e'.symm
      have rA2 : Apart I rl := fun e' => (hID rl (by first | k_clsL | simp)).1 e'.symm
      have rA3 : Apart D rl := fun e' => (hID rl (by first | k_clsL | simp)).2 e'.symm
      have rA4 : Apart sx rl := by simp only [List.nodup_cons, List.mem_cons, not_or] at hnd2; exact hnd2.1.2.1
      have rA5 : Apart dx rl := by simp only [List.nodup_cons, List.mem_cons, not_or] at hnd2; exact hnd2.2.1.1
      have hrl9 : rs.length ≤ 900 := by
        rw [hrs.length]
        have := hsl.length_le
        rw [← List.append_assoc, List.length_append] at this
        lia
      refine wp_halt ?_
      k_with "subscriptTail Name Name ref int" => k_dflt (refine' g_item ?F Dg (intKind_is _ _ _ _) hva' ?_; (case F => k_asm))
      k_with "getAttr ref" => k_dflt (first | (refine' get_slot ?k1 ?k2 ⟨(News.get ?k3' (hx4 _ _)), rfl, rfl, Fr.keep ?kF _ _ hed⟩ ?k4 ?k5 ?k6 ?k7 ?k8 ?k9 ?k10 ?k11 ?_; (case k1 => k_asm); (case k2 => k_asm); (case kF => k_asm); (case k3' => k_asm); (case k4 => k_is); (case k5 => k_is); (case k6 => k_is); (case k7 => k_is); (case k8 => k_is); (case k9 => k_is); (case k10 => k_slotget); (case k11 => k_handed); k_whole))
      k_with "setAttr ref" => k_dflt (refine' set_slot ?k1 ?k2 ?k3 ⟨(News.get ?k3' (hx4 _ _)), rfl, rfl, Fr.keep ?kF _ _ hed⟩ ?k5 ?k6 ?k7 ?k8 ?k9 ?k10 ?k11 ?k12 (U _) ?_; (case k1 => k_asm); (case k2 => k_asm); (case k3 => k_asm); (case k3' => k_asm); (case kF => k_asm); (case k5 => k_is); (case k6 => k_is); (case k7 => k_is); (case k8 => k_is); (case k9 => k_is); (case k10 => decide); (case k11 => exact rfl); (case k12 => exact rfl); k_whole; intro h' F' N')
      k_with "call builtin:list.append" => k_dflt ((refine' append_K ?k1 ?k2 ?k3 ?_ ?z; (case k1 => k_asm); (case k2 => k_asm); (case k3 => exact .tail rA1.ne (.tail rA2.ne (.tail rA3.ne (.tail rA4.ne (.tail rA5.ne (.head (hrl _ _))))))); (case z => (simp only [List.size_toArray, List.length_map, PySem.sizeLine_eq]; lia)); k_whole); intro h' F' N')
      w_strict k_steps
      obtain ⟨tt, hN⟩ : ∃ tt, News g L' h' ((I2, oI2) :: (I, oI) :: (D, tupO vs) :: (sx, instObj 179 dx) :: (dx, sdict w.params nd (Value.ref rl) np (nf + i) t1 t2 t3 t4 t5 t6' 4) :: (rl, W.listOf (rs ++ [Value.int e.k t]).toArray (c' + 1)) :: (gI H1 ++ (e.ia, infoO e.k e.u 0 tt e.da e.sa) :: gI H2)) := by
        rw [← List.push_toArray]
        exact ⟨_, N'⟩
      refine hQK _ _ _ ((I, oI) :: (D, tupO vs) :: (sx, instObj 179 dx) :: (dx, sdict w.params nd (Value.ref rl) np (nf + i) t1 t2 t3 t4 t5 t6' 4) :: (rl, W.listOf (rs ++ [Value.int e.k t]).toArray (c' + 1)) :: gI (H1 ++ { e with np := 0, t := tt } :: H2)) F' (by rw [gI_mid]; exact hN) ?_ (fun Zz KZ => KZ _ (rs ++ [.int e.k t]) (c' + 1) rfl rfl rfl (sh_turn.trans hsh') ?_ ?_)
      · intro q hq
        rcases List.mem_cons.mp hq with rfl | hq
        · exact o1' (I, oI) (by first | k_clsL | simp)
        rcases List.mem_cons.mp hq with rfl | hq
        · exact o1' (D, tupO vs) (by first | k_clsL | simp)
        rcases List.mem_cons.mp hq with rfl | hq
        · exact o1' (sx, instObj 179 dx) (by first | k_clsL | simp)
        rcases List.mem_cons.mp hq with rfl | hq
        · exact o1' (dx, sdict w.params nd (Value.ref rl) np (nf + i) t1 t2 t3 t4 t5 t6' 4) (by first | k_clsL | simp)
        rcases List.mem_cons.mp hq with rfl | hq
        · exact o1' (rl, W.listOf rs.toArray c') (by first | k_clsL | simp)
        · exact turn_off (pre := []) (fun q hq => o1' q (by simp only [List.nil_append] at hq; simp only [List.mem_cons, hq, or_true])) q hq
      · rw [htj, ← List.append_assoc]
        exact ints_snoc hrs e.k t
      · intro x hx
        rw [np_turn (v := 0) (t := tt) (F := fun y => if y ∈ List.take i ks ++ [d.k] then -2 else if y ∈ (ks.take i).flatMap ch ++ (ch d.k).take j then 0 else F0 y) (by rw [keys_sh hsh']; exact hnk) hnp x hx, htj, ← List.append_assoc]
        show (if x.k = e.k then _ else _) = _
        by_cases h1 : x.k = e.k
        · rw [if_pos h1, h1, if_neg hyk, if_pos (by first | k_clsL | simp)]
        · rw [if_neg h1]
          have h2 : (x.k ∈ (ks.take i).flatMap ch ++ (ch d.k).take j ++ [e.k]) ↔ (x.k ∈ (ks.take i).flatMap ch ++ (ch d.k).take j) := by rw [List.mem_append (s := (ks.take i).flatMap ch ++ (ch d.k).take j), List.mem_singleton]; simp [h1]
          simp only [h2]
    · intro m₁ news₁ h tk hI F1 N1
      refine hI _ ?_
      clear hI
      rintro G' rs' c2 hm1 hm2 rfl hsh' hrs' hnp'
      clear N' F' hN2 hnp2 hsh2 hrs hnp U hx2 hx3 hdn
      rw [mkeep2 hm1 hm2] at F1
      have hnd2 : (sx :: dx :: rl :: (gI G').map (·.1)).Nodup := by rw [gI_ias, ias_sh hsh']; exact ND
      have rA2 : Apart I dx := fun e' => (hID dx (by first | k_clsL | simp)).1 e'.symm
      have rA3 : Apart D dx := fun e' => (hID dx (by first | k_clsL | simp)).2 e'.symm
      simp only [List.nodup_cons, List.mem_cons, not_or] at hnd2
      have rA4 : Apart sx dx := hnd2.1.1
      have rA5 : Apart dx rl := hnd2.2.1.1
      have rA6 : ∀ p ∈ gI G', p.1 ≠ dx := fun p hp e => hnd2.2.1.2 (e ▸ List.mem_map_of_mem hp)
      w_strict k_steps
      rename Fr g _ _ _ => FF
      rename News g _ _ _ => NN
      obtain ⟨tt, hN⟩ : ∃ tt, News g L' _ ((I, oI) :: (D, tupO vs) :: (sx, instObj 179 dx) :: (dx, sdict w.params nd (Value.ref rl) np (nf + ((i + 1 : Nat) : Int)) t1 t2 t3 t4 t5 tt 4) :: (rl, W.listOf rs'.toArray c2) :: gI G') := by
        rw [show nf + ((i + 1 : Nat) : Int) = nf + i + 1 by lia]
        exact ⟨_, NN⟩
      have hfl : (ks.take (i + 1)).flatMap ch = (ks.take i).flatMap ch ++ ch d.k := by rw [htk, List.flatMap_append]; simp
      have htl : (ch d.k).take (su d.k).length = ch d.k := by rw [(hch _ hkks).length]; exact List.take_length
      have o9 : ∀ q ∈ (sx, instObj 179 dx) :: (dx, sdict w.params nd (Value.ref rl) np (nf + ((i + 1 : Nat) : Int)) t1 t2 t3 t4 t5 tt 4) :: (rl, W.listOf rs'.toArray c2) :: gI G', q.1 ≠ I ∧ q.1 ≠ D := by
        intro q hq
        refine hID q.1 ?_
        have := List.mem_map_of_mem (f := (·.1)) hq
        simpa [gI_ias, ias_sh hsh'] using this
      refine hQJ _ _ _ _ FF hN (fun q hq => (o9 q hq).1) (fun q hq => (o9 q hq).2) (fun Zz KZ => KZ G' rs' c2 tt rfl rfl rfl hsh' ?_ ?_)
      · rw [hfl]; rw [htl] at hrs'; exact hrs'
      · intro x hx
        have := hnp' x hx
        rw [htl, ← htk, ← hfl] at this
        exact this
  · intro m₁ news₁ h tk hI F1 N1 o1
    refine hI _ ?_
    clear hI
    rintro G' rs c' t6' hm1 hm2 rfl hsh hrs hnp
    clear F' N'
    rw [mkeep2 hm1 hm2] at F1
    w_strict k_steps
    refine hQf _ _ ?_
    w_strict k_steps
    rename Fr g _ _ _ => FF
    rename News g _ _ _ => NN
    rename Fr h₀ L _ _ => kF
    rename News h₀ L _ _ => kN
    (try dsimp only at kN NN)
    have htl : ks.take vs.length = ks := by rw [hvs.length]; exact List.take_length
    rw [htl] at hrs hnp
    rw [show ((vs.length : Nat) : Int) = (ks.length : Int) by rw [hvs.length]] at kN
    refine ret _ _ t6' c' G' rs kF ?_ (fun q hq => kN q (.tail _ hq)) hrs hsh hnp
    refine kept_of N FF NN kp ?_
    intro q hq
    rcases List.mem_cons.mp hq with rfl | hq
    · exact .inl (by first | k_clsL | simp)
    rcases List.mem_cons.mp hq with rfl | hq
    · exact .inr (by first | k_clsL | simp)
    rcases List.mem_cons.mp hq with rfl | hq
    · exact .inr (by first | k_clsL | simp)
    · refine .inr ?_
      rw [← gI_ias]
      exact .tail _ (.tail _ (List.mem_map_of_mem hq))
end
end

section
open PySem PySem.Calls PySem.W PyProof.Rows
set_option Elab.async false
set_option maxRecDepth 100000
set_option maxHeartbeats 3000000
section
variable {prog : Program} {w : World} {A : Around} {E : Value → Shared → Prop} {s : Shared}
theorem tup_next {it t : Addr} {i : Nat} {Q : Value → Shared → Prop} (hit : s.heap.IsTupleIter it t i)
    (h : wpAny (model prog w) A.in1 (Builtin.«tuple_iterator.__next__» ⟨[.ref it], []⟩) (fun fin s' => ∃ v, fin = .done (.ret v) ∧ Q v s') E s) :
    wpAny (model prog w) A (Builtin.SmallTypes.nextOf (.ref it)) Q E s :=
  wpAny_bind (wpAny_callSpecial?_slot (name := Str.ofString "__next__") hit.typeIs F.slot_tuple_iterator_next
    (wpAny_call_entry F.slot_tuple_iterator_next hit.typeIs F.entry_tuple_iterator_next
      (wpAny_mono h (fun _ _ ⟨v, e, q⟩ => ⟨v, e, wpAny_pure q⟩) fun _ _ e => e) (F.args_tuple_iterator_next_1 _)))
theorem nextOf_tup_item {it t : Addr} {i : Nat} {items : Array Value} {x : Value} {Q : Value → Shared → Prop} (hit : s.heap.IsTupleIter it t i)
    (ht : s.heap.IsTuple t items) (hx : items[i]? = some x) (hQ : ∀ h', h'.IsTupleIter it t (i + 1) → Heap.SameBut it s.heap h' → Q x { s with heap := h' }) :
    wpAny (model prog w) A (Builtin.SmallTypes.nextOf (.ref it)) Q E s := by
  obtain ⟨o, ho, hc, hd⟩ := id hit
  obtain ⟨ol, hol, _, nl, hdl⟩ := ht
  refine tup_next hit (seq_in ho hd hol hdl rfl rfl ?_)
  simp only [Int.toNat_natCast, hx]
  have hnew : (s.heap.update it (Obj.mapFields (·.setIfInBounds 1 (rawInt (i + 1))))).IsTupleIter it t (i + 1) :=
    ⟨_, Heap.get?_update_self _ ho (Obj.isFreed_of_fields (Obj.data_mapFields hd _)), (Obj.cls_mapFields ..).trans hc, (Obj.data_mapFields hd _).trans (by simp [rawInt])⟩
  exact wpAny_bind (wpAny_setField ho hd (by simp) (wpAny_pure ⟨x, rfl, hQ _ hnew (Heap.SameBut.update ..)⟩))
theorem nextOf_tup_end {it t : Addr} {i : Nat} {items : Array Value} {Q : Value → Shared → Prop} (hh : A.handled = none) (hit : s.heap.IsTupleIter it t i)
    (ht : s.heap.IsTuple t items) (hx : items[i]? = none) (hE : ∀ h' e, Heap.ExtBut it s.heap h' → (∃ o, h'.get? e = some o ∧ o.cls = .type "StopIteration") → E (.ref e) { s with heap := h' }) :
    wpAny (model prog w) A (Builtin.SmallTypes.nextOf (.ref it)) Q E s := by
  obtain ⟨o, ho, hc, hd⟩ := id hit
  obtain ⟨ol, hol, _, nl, hdl⟩ := ht
  refine tup_next hit (seq_in ho hd hol hdl rfl rfl ?_)
  simp only [Int.toNat_natCast, hx]
  refine wpAny_bind (wpAny_rule (wpAny_bind (wpAny_setField ho hd (by simp) (stop_raised (A := A.in1) hh fun h' e hn => hE h' e (fun b q hb e' => ?_) ?_))))
  · exact hn.keeps b q ((Heap.SameBut.update ..).extBut b q hb e')
  · obtain ⟨ob, _, h1, h2, _⟩ := hn.there
    exact ⟨ob, h1, h2⟩
theorem drawsTup {A : Around} (hh : A.handled = none) (it t : Addr) (hne : t ≠ it) (items : Array Value) :
    Draws prog w A it [it, t] items.size (fun i v => items[i]? = some v) (fun i h => h.IsTupleIter it t i ∧ h.IsTuple t items) where
  live := fun _ _ st => let ⟨o, ho, _⟩ := st.1; ⟨o, ho⟩
  frame := fun _ _ _ st hk => ⟨let ⟨o, ho, r⟩ := st.1; ⟨o, hk it (by simp) o ho, r⟩, let ⟨o, ho, r⟩ := st.2; ⟨o, hk t (by simp) o ho, r⟩⟩
  item := fun i s Q E hi st hQ => by
    refine nextOf_tup_item st.1 st.2 (x := items[i]) (by simp [hi]) fun h' hit' hs' => ?_
    exact hQ _ h' s.toks (by simp [hi]) ⟨hit', st.2.extBut hs'.extBut hne⟩ hs'
  done := fun s Q E st hE => nextOf_tup_end hh st.1 st.2 (by simp) hE
end
theorem meets_enum_tup (l : Addr) (items : Array Value) (n : Nat) (dct : Option Addr) (sl : Array (Option Value)) :
    Meets (Builtin.«enumerate.__new__» ⟨[.type "enumerate", .ref l], []⟩) (fun _ R s => s.heap.get? l = some { cls := .type "tuple", dict := dct, data := .seq items n, slots := sl } ∧
      R (.ok (.ret (.ref (s.heap.push { cls := .type "tuple_iterator", data := .fields #[.ref l, .int 0 0] }).objs.size)))
        { s with heap := (s.heap.push { cls := .type "tuple_iterator", data := .fields #[.ref l, .int 0 0] }).push { cls := .type "enumerate", data := .fields #[.none, .bool false, .ref s.heap.objs.size, rawInt 0, .none, .none] } }) :=
  .of_wp fun prog w A R s h => by
    obtain ⟨hp, g, d, tk, os⟩ := s; obtain ⟨hl, h⟩ := h
    have hsub := sub_enumerate
    have hL : Heap.IsTuple (Shared.heap ⟨hp, g, d, tk, os⟩) l items := ⟨_, hl, rfl, n, rfl⟩
    wp_walk using AutoSeq1.wpAny_loadPart' hl
    refine wpAny_stack_any fun st => wpAny_pure ?_
    split
    · rename_i c _ _ _ _ _
      cases (c == Value.type "enumerate")
      · wp_walk using AutoSeq1.wpAny_loadPart' hl, wpAny_pyIter_tuple hL
        exact ⟨_, rfl, h⟩
      · wp_walk using AutoSeq1.wpAny_loadPart' hl, wpAny_pyIter_tuple hL
        exact ⟨_, rfl, h⟩
    · wp_walk using AutoSeq1.wpAny_loadPart' hl, wpAny_pyIter_tuple hL
      exact ⟨_, rfl, h⟩
section
variable {prog : Program} {w : World} {A : Around} {E : Value → Shared → Prop} {s : Shared}
theorem call_enum_tup {l : Addr} {vs : List Value} {Q : Value → Shared → Prop} (hl : s.heap.get? l = some (tupO vs))
    (h : ∀ h', IsEnum h' (s.heap.objs.size + 1) s.heap.objs.size 0 .none → h'.IsTupleIter s.heap.objs.size l 0 →
      (∀ b o, s.heap.get? b = some o → h'.get? b = some o) → Q (.ref (s.heap.objs.size + 1)) { s with heap := h' }) :
    wpAny (model prog w) A (call (.type "enumerate") [.ref l]) Q E s := by
  refine callType_new F.called_enumerate (by decide) (F.typeCall_enumerate_1 _) (F.newCall_enumerate_1 _) (fun obj => F.args_object_init_2 obj _) F.entry_enumerate_new
    (meets_enum_tup l vs.toArray 0 none #[]) ⟨hl, ?_⟩
  have hz : (s.heap.push { cls := .type "tuple_iterator", data := .fields #[.ref l, .int 0 0] }).objs.size = s.heap.objs.size + 1 := Heap.size_push ..
  show _ ∧ _
  rw [hz]
  have he : IsEnum ((s.heap.push { cls := .type "tuple_iterator", data := .fields #[.ref l, .int 0 0] }).push
      { cls := .type "enumerate", data := .fields #[.none, .bool false, .ref s.heap.objs.size, rawInt 0, .none, .none] }) (s.heap.objs.size + 1) s.heap.objs.size 0 .none := by
    have := Heap.get?_push_size (s.heap.push { cls := .type "tuple_iterator", data := .fields #[.ref l, .int 0 0] })
      (o := { cls := .type "enumerate", data := .fields #[.none, .bool false, .ref s.heap.objs.size, rawInt 0, .none, .none] }) rfl
    rw [hz] at this; exact this
  exact ⟨⟨_, he, rfl⟩, h _ he ⟨_, Heap.get?_push_of_some _ (Heap.get?_push_size _ rfl), rfl, rfl⟩ fun b o x => Heap.get?_push_of_some _ (Heap.get?_push_of_some _ x)⟩
end
section
variable {prog : Program} {w : World} {A : Around} {E : Value → Shared → Prop} {s : Shared} {env : Env} {h₀ : Heap} {xi xc : Str} {body : List Stmt} {Q : Flow → Shared → Prop} {m₀ : Str → Option Value} {news : List (Addr × Obj)}
/-- for i, x in enumerate(t): t a tuple of the ground -/
theorem enumLoopG {t : Addr} {vs : List Value} (J : Nat → (Str → Option Value) → List (Addr × Obj) → Prop) (hh : A.handled = none)
    (hD : h₀.get? t = some (tupO vs)) (F : Fr h₀ env.locals s.heap m₀) (N : News h₀ env.locals s.heap news) (h0 : J 0 m₀ news)
    (turn : ∀ i v ti m₁ news₁ h tk own, vs[i]? = some v → J i m₁ news₁ → news₁.map (·.1) = news.map (·.1) → (∀ p ∈ own, ∀ q ∈ news, p.1 ≠ q.1) → Fr h₀ env.locals h (fun y => if y = xc then some v else if y = xi then some (.int i ti) else m₁ y) → News h₀ env.locals h (own ++ news₁) →
      wpAny (model prog w) A (execs body env) (fun f s₂ => match f with
        | .ret v => Q (.ret v) s₂
        | .brk => Q .next s₂
        | _ => ∃ h' tk' m' news', s₂ = { s with heap := h', toks := tk' } ∧ Fr h₀ env.locals h' m' ∧ News h₀ env.locals h' (own ++ news') ∧ news'.map (·.1) = news.map (·.1) ∧ J (i + 1) m' news') E { s with heap := h, toks := tk })
    (done : ∀ m₁ news₁ h tk, J vs.length m₁ news₁ → Fr h₀ env.locals h m₁ → News h₀ env.locals h news₁ → Q .next { s with heap := h, toks := tk }) :
    wpAny (model prog w) A (call (.type "enumerate") [.ref t]) (fun xv s₁ => wpAny (model prog w) A (pyIter xv) (fun it s₂ => PairAt3 prog w A h₀ env xi xc body Q E it s₂) E s₁) E s := by
  have hlt : t < h₀.objs.size := Heap.lt_size hD
  have hLs : env.locals < s.heap.objs.size := F.ns.lt
  have hab : h₀.objs.size ≤ env.locals := F.above
  have hl2 : t < s.heap.objs.size := Nat.lt_trans (Nat.lt_of_lt_of_le hlt hab) hLs
  refine call_enum_tup (F.keep _ _ hD) fun h' he hit hk => ?_
  have F' : Fr h₀ env.locals h' m₀ := ⟨F.ns.keeps hk, fun b o e => hk b o (F.keep b o e), F.above⟩
  have N' : News h₀ env.locals h' news := fun p hp => ⟨hk _ _ (N p hp).1, (N p hp).2⟩
  have he' : IsEnum ({ s with heap := h' } : Shared).heap (s.heap.objs.size + 1) s.heap.objs.size 0 .none := he
  refine wpAny_pyIter_enum he' ?_
  have hfn : ∀ b ∈ [s.heap.objs.size + 1, s.heap.objs.size, t], ∀ q ∈ news, b ≠ q.1 := by
    intro b hb q hq e
    have hq1 : q.1 < s.heap.objs.size := Heap.lt_size (N q hq).1
    simp only [List.mem_cons, List.not_mem_nil, or_false] at hb
    rcases hb with rfl | rfl | rfl
    · rw [← e] at hq1; exact absurd hq1 (Nat.not_lt.mpr (Nat.le_succ _))
    · rw [← e] at hq1; exact Nat.lt_irrefl _ hq1
    · have hn := (N q hq).2.2
      rw [← e, hD] at hn; cases hn
  refine ⟨_, _, [s.heap.objs.size + 1, s.heap.objs.size], vs.toArray.size, _, _, _, (fun i v0 v1 => ∃ ti, v0 = .int i ti ∧ vs[i]? = some v1), m₀, news, J, rfl,
    WalksT.enumerateD (drawsTup (A := A.in1) hh s.heap.objs.size t (Nat.ne_of_lt hl2) vs.toArray) (s.heap.objs.size + 1) (Nat.succ_ne_self _) ?_ (by simp), ?_, ?_, ?_, ?_, ⟨⟨_, by simpa using he'⟩, hit, ⟨_, hk _ _ (F.keep _ _ hD), rfl, _, rfl⟩⟩, F', N', h0, ?_, ?_⟩
  · simp only [List.mem_cons, List.not_mem_nil, or_false]
    rintro (e | e)
    · exact Nat.succ_ne_self _ e
    · rw [← e] at hl2; exact absurd hl2 (Nat.not_lt.mpr (Nat.le_succ _))
  · rintro i vals ⟨ti, x, hPx, rfl⟩
    exact ⟨_, _, rfl, ti, rfl, by simpa using hPx⟩
  · simp only [List.mem_cons, List.not_mem_nil, or_false]
    rintro (e | e | e)
    · rw [e] at hLs; exact absurd hLs (Nat.not_lt.mpr (Nat.le_succ _))
    · rw [e] at hLs; exact Nat.lt_irrefl _ hLs
    · rw [e] at hab; exact absurd hlt (Nat.not_lt.mpr hab)
  · intro b hb
    simp only [List.mem_cons, List.not_mem_nil, or_false] at hb
    rcases hb with rfl | rfl
    · exact Heap.get?_none_of_le (Nat.le_trans hab (Nat.le_of_lt (Nat.lt_succ_of_lt hLs)))
    · exact Heap.get?_none_of_le (Nat.le_trans hab (Nat.le_of_lt hLs))
  · intro p hp hb
    refine hfn p.1 ?_ p hp rfl
    simp only [List.mem_cons, List.not_mem_nil, or_false] at hb ⊢
    rcases hb with e | e
    · exact .inl e
    · exact .inr (.inl e)
  · rintro i v0 v1 m₁ news₁ s₁ own ⟨hh', tk', rfl⟩ _ ⟨ti, rfl, hPx⟩ hJ ha hsub F₁ N₁
    refine wpAny_mono (turn i v1 ti m₁ news₁ hh' tk' own hPx hJ ha (fun p hp q hq => hfn _ (hsub p hp) q hq) F₁ N₁) (fun f s₂ p => ?_) fun _ _ e => e
    cases f with
    | ret v => exact p
    | brk => exact p
    | next => obtain ⟨h2, tk, m', news', e, F2, N2, h3, h4⟩ := p; exact ⟨rfl, h2, tk, m', news', e, F2, N2, h3.trans ha.symm, h4⟩
    | cont => obtain ⟨h2, tk, m', news', e, F2, N2, h3, h4⟩ := p; exact ⟨rfl, h2, tk, m', news', e, F2, N2, h3.trans ha.symm, h4⟩
  · rintro h2 tk m' news' F2 N2 _ hJ
    rw [List.size_toArray] at hJ
    exact done m' news' h2 tk hJ F2 N2
end
end

section
open PySem PySem.Calls PySem.W PyProof.Rows
set_option Elab.async false
set_option maxRecDepth 100000
set_option maxHeartbeats 3000000
section
variable {prog : Program} {w : World} {A : Around} {E : Value → Shared → Prop} {s : Shared} {env : Env} {h₀ : Heap} {xi xc : Str} {body orelse : List Stmt} {Q : Flow → Shared → Prop} {m₀ : Str → Option Value} {news : List (Addr × Obj)} {pk pv pt : Pos} {x1 : Nat}
/-- for a, b in t: .. else: .., t a tuple of pairs of the ground -/
theorem elseLoopG {t : Addr} {vs : List Value} {P : Nat → Value → Value → Prop} (J : Nat → (Str → Option Value) → List (Addr × Obj) → Prop) (hh : A.handled = none)
    (hxi : env.kindOf xi = some .local) (hxc : env.kindOf xc = some .local) (hp : (env.scope.kind == .class || (env.scope.kind == .module && env.locals != env.globals)) = false) (hE : PassesOwn (model prog w) A env E)
    (hD : h₀.get? t = some (tupO vs)) (hpair : ∀ i v, vs[i]? = some v → ∃ a v0 v1, v = .ref a ∧ h₀.get? a = some (tupO [v0, v1]) ∧ P i v0 v1)
    (F : Fr h₀ env.locals s.heap m₀) (N : News h₀ env.locals s.heap news) (h0 : J 0 m₀ news)
    (turn : ∀ i v0 v1 m₁ news₁ h tk I oI, P i v0 v1 → i < vs.length → J i m₁ news₁ → Fr h₀ env.locals h (fun y => if y = xc then some v1 else if y = xi then some v0 else m₁ y) → News h₀ env.locals h ((I, oI) :: news₁) → (∀ p ∈ news₁, p.1 ≠ I) →
      ∀ QJ : Flow → Shared → Prop, (∀ h' tk' m' news', Fr h₀ env.locals h' m' → News h₀ env.locals h' ((I, oI) :: news') → (∀ p ∈ news', p.1 ≠ I) → J (i + 1) m' news' → QJ .next { s with heap := h', toks := tk' }) → (∀ v s, Q (.ret v) s → QJ (.ret v) s) → (∀ s, Q .next s → QJ .brk s) → (∀ s, QJ .next s → QJ .cont s) →
      wpAny (model prog w) A (execs body env) QJ E { s with heap := h, toks := tk })
    (done : ∀ m₁ news₁ h tk, J vs.length m₁ news₁ → Fr h₀ env.locals h m₁ → News h₀ env.locals h news₁ → wpAny (model prog w) A (execs orelse env) Q E { s with heap := h, toks := tk }) :
    wpAny (model prog w) A (pyIter (.ref t)) (fun it s₂ => codeAny (model prog w) A (.forLoop (.Tuple [.Name xi pk, .Name xc pv] x1 pt) it body orelse env) (fun r s' => match r with | .ok f => Q f s' | .error e => cameBackBy (model prog w) A env E e s') s₂) E s := by
  have hlt : t < h₀.objs.size := Heap.lt_size hD
  have hLs : env.locals < s.heap.objs.size := F.ns.lt
  have hab : h₀.objs.size ≤ env.locals := F.above
  have hl2 : t < s.heap.objs.size := Nat.lt_trans (Nat.lt_of_lt_of_le hlt hab) hLs
  have htS : s.heap.IsTuple t vs.toArray := ⟨_, F.keep _ _ hD, rfl, _, rfl⟩
  refine wpAny_pyIter_tuple htS ?_
  generalize hI : s.heap.objs.size = I at hLs hl2
  have hIn : h₀.get? I = none := Heap.get?_none_of_le (Nat.le_trans hab (Nat.le_of_lt hLs))
  have hLI : env.locals ≠ I := Nat.ne_of_lt hLs
  have W := Walks.tuple (prog := prog) (w := w) (A := A) hh I t (Nat.ne_of_lt hl2) vs.toArray
  have old : ∀ b o, h₀.get? b = some o → b ≠ I := fun b o e q => by rw [q, hIn] at e; cases e
  refine codeAny_forLoop_any (fun k s' => ∀ Z : Prop, (∀ h' tk m' news' i, s' = { s with heap := h', toks := tk } → (h'.IsTupleIter I t i ∧ h'.IsTuple t vs.toArray) → Fr h₀ env.locals h' m' → News h₀ env.locals h' news' → (∀ p ∈ news', p.1 ≠ I) → J i m' news' → i ≤ vs.length → k = vs.length + 1 - i → Z) → Z) ?_ (vs.length + 1)
    (fun Zz KZ => KZ _ s.toks m₀ news 0 rfl ⟨⟨_, hI ▸ Heap.get?_push_size _ rfl, rfl, rfl⟩, htS.push _⟩ (F.push _) (fun p hp => ⟨Heap.get?_push_of_some _ (N p hp).1, (N p hp).2⟩) (fun p hp e => absurd (Heap.lt_size (N p hp).1) (by rw [e, hI]; exact Nat.lt_irrefl _)) h0 (Nat.zero_le _) rfl)
  intro k s' hI
  refine hI _ ?_
  clear hI
  rintro H tk m' news' i rfl hst F' N' hn' hJ hi rfl
  have next : ∀ h₁ : Heap, (∀ b o, b ∉ [I] → H.get? b = some o → h₁.get? b = some o) → Fr h₀ env.locals h₁ m' ∧ News h₀ env.locals h₁ news' := fun h₁ hk₁ =>
    ⟨⟨F'.ns.at' fun o e => hk₁ _ o (fun q => hLI (List.mem_singleton.mp q)) e, fun b o e => hk₁ b o (fun q => old b o e (List.mem_singleton.mp q)) (F'.keep b o e), F'.above⟩, fun p hp => ⟨hk₁ _ _ (fun q => hn' p hp (List.mem_singleton.mp q)) (N' p hp).1, (N' p hp).2⟩⟩
  by_cases hlt' : i < vs.length
  · refine W.item i _ _ _ (by rw [List.size_toArray]; exact hlt') hst fun v h₁ tk₁ hP hst₁ hk₁ => ?_
    obtain ⟨F₁, N₁⟩ := next h₁ hk₁
    rw [List.getElem?_toArray] at hP
    obtain ⟨a, v0, v1, rfl, ha, hPi⟩ := hpair i v hP
    refine letGo_tupleiter hst₁.1 ?_
    have hta : h₁.IsTuple a #[v0, v1] := ⟨_, F₁.keep _ _ ha, rfl, _, rfl⟩
    refine wpAny_mono (wpAny_passesOwn hE ?_) (fun _ _ x => x) fun _ _ x => x
    refine wpAny_assign_Tuple (s := { s with heap := h₁, toks := tk₁ }) hh hta rfl rfl fun h₃ hx₃ => ?_
    have up₃ : ∀ b o, h₁.get? b = some o → h₃.get? b = some o := fun b o x => hx₃ b o (Nat.ne_of_lt (Heap.lt_size x)) x
    have F₃ : Fr h₀ env.locals h₃ m' := ⟨F₁.ns.keeps up₃, fun b o e => up₃ b o (F₁.keep b o e), F₁.above⟩
    have N₃ : News h₀ env.locals h₃ news' := fun p hp => ⟨up₃ _ _ (N₁ p hp).1, (N₁ p hp).2⟩
    show wpAny _ A (do holding [v1] (assign (.Name xi pk) env v0); do holding [] (assign (.Name xc pv) env v1); pure ()) _ _ _
    refine wpAny_bind (wpAny_holding (wpAny_assign_Name (wpAny_storeName_local hxi F₃.ns (fun h₄ hn₄ hs₄ => ?_) hp)))
    replace hs₄ : Heap.SameBut env.locals h₃ h₄ := hs₄
    have F₄ := F₃.set hn₄ hs₄
    refine wpAny_bind (wpAny_holding (wpAny_assign_Name (wpAny_storeName_local hxc F₄.ns (fun h₅ hn₅ hs₅ => wpAny_pure ?_) hp)))
    replace hs₅ : Heap.SameBut env.locals h₄ h₅ := hs₅
    have F₅ := F₄.set hn₅ hs₅
    have N₅ : News h₀ env.locals h₅ news' := (N₃.set hs₄).set hs₅
    have up₅ : ∀ b o, b ≠ env.locals → h₁.get? b = some o → h₅.get? b = some o := fun b o hb e => hs₅.extBut b o hb (hs₄.extBut b o hb (up₃ b o e))
    obtain ⟨⟨oI, hoI, rI⟩, hst2⟩ := hst₁
    have hoI5 : h₅.get? I = some oI := up₅ _ _ hLI.symm hoI
    refine wpAny_passesOwn hE ?_
    refine turn i v0 v1 m' news' h₅ _ I oI hPi hlt' hJ F₅ (fun p hp => ?_) hn' _ (fun h6 tk6 m6 news6 F6 N6 hn6 hJ6 => ⟨vs.length + 1 - (i + 1), by lia, fun Zz KZ => KZ h6 tk6 m6 news6 (i + 1) rfl ⟨⟨oI, (N6 _ (.head _)).1, rI⟩, ⟨_, F6.keep _ _ hD, rfl, _, rfl⟩⟩ F6 (fun p hp => N6 p (.tail _ hp)) hn6 hJ6 hlt' rfl⟩) (fun _ _ q => q) (fun _ q => q) (fun _ q => q)
    · rcases List.mem_cons.mp hp with rfl | hp
      · exact ⟨hoI5, hLI.symm, hIn⟩
      · exact N₅ p hp
  · have hin : i = vs.length := by lia
    subst hin
    refine W.done _ _ _ (by rw [List.size_toArray]; exact hst) fun h₁ tk₁ hk₁ => ?_
    obtain ⟨F₁, N₁⟩ := next h₁ hk₁
    exact wpAny_passesOwn hE (done m' news' h₁ tk₁ hJ F₁ N₁)
end
end

section
open PySem PySem.Calls PySem.W PyProof.Rows
set_option Elab.async false
set_option maxRecDepth 100000
set_option maxHeartbeats 3000000
set_option pp.deepTerms false
set_option pp.maxSteps 20000
section
variable {w : World} {mean : ExcName → Option Value} {mg mb : Str → Option Value} {p : Program} {loose : List Str} {cn : Str} {cs : Scope} {a : Addr} {ccd : Value} {cl : List (Str × Addr)} {outer : List Env} {A₀ : Around} {base h₀ : Heap} {L : Addr} {m : Str → Option Value} {s : Shared}
    {Q E : Value → Shared → Prop}

/-- the rows of _filemode_table -/
noncomputable def fmRows : List (Nat × List (Nat × Int × Str)) := [
  (198, [(191, 40960, Str.ofString "l"), (192, 49152, Str.ofString "s"), (193, 32768, Str.ofString "-"), (194, 24576, Str.ofString "b"), (195, 16384, Str.ofString "d"), (196, 8192, Str.ofString "c"), (197, 4096, Str.ofString "p")]),
  (200, [(199, 256, Str.ofString "r")]),
  (202, [(201, 128, Str.ofString "w")]),
  (206, [(203, 2112, Str.ofString "s"), (204, 2048, Str.ofString "S"), (205, 64, Str.ofString "x")]),
  (208, [(207, 32, Str.ofString "r")]),
  (210, [(209, 16, Str.ofString "w")]),
  (214, [(211, 1032, Str.ofString "s"), (212, 1024, Str.ofString "S"), (213, 8, Str.ofString "x")]),
  (216, [(215, 4, Str.ofString "r")]),
  (218, [(217, 2, Str.ofString "w")]),
  (222, [(219, 513, Str.ofString "t"), (220, 512, Str.ofString "T"), (221, 1, Str.ofString "x")])]
theorem fm_K {h : Heap} (X : (topo.heap_39 w.params).In h) : ∀ r ∈ fmRows, h.get? r.1 = some (tupO (r.2.map fun c => Value.ref c.1)) ∧ ∀ c ∈ r.2, ∃ t t', h.get? c.1 = some (tupO [Value.int c.2.1 t, Value.str c.2.2 t']) :=
  List.forall_mem_cons.mpr ⟨⟨X 198 _ rfl, List.forall_mem_cons.mpr ⟨⟨477, 505, X 191 _ rfl⟩, List.forall_mem_cons.mpr ⟨⟨479, 506, X 192 _ rfl⟩, List.forall_mem_cons.mpr ⟨⟨473, 507, X 193 _ rfl⟩, List.forall_mem_cons.mpr ⟨⟨471, 508, X 194 _ rfl⟩, List.forall_mem_cons.mpr ⟨⟨467, 509, X 195 _ rfl⟩, List.forall_mem_cons.mpr ⟨⟨469, 510, X 196 _ rfl⟩, List.forall_mem_cons.mpr ⟨⟨475, 511, X 197 _ rfl⟩, List.forall_mem_nil _⟩⟩⟩⟩⟩⟩⟩⟩, List.forall_mem_cons.mpr ⟨⟨X 200 _ rfl, List.forall_mem_cons.mpr ⟨⟨487, 512, X 199 _ rfl⟩, List.forall_mem_nil _⟩⟩, List.forall_mem_cons.mpr ⟨⟨X 202 _ rfl, List.forall_mem_cons.mpr ⟨⟨489, 513, X 201 _ rfl⟩, List.forall_mem_nil _⟩⟩, List.forall_mem_cons.mpr ⟨⟨X 206 _ rfl, List.forall_mem_cons.mpr ⟨⟨514, 515, X 203 _ rfl⟩, List.forall_mem_cons.mpr ⟨⟨481, 516, X 204 _ rfl⟩, List.forall_mem_cons.mpr ⟨⟨491, 517, X 205 _ rfl⟩, List.forall_mem_nil _⟩⟩⟩⟩, List.forall_mem_cons.mpr ⟨⟨X 208 _ rfl, List.forall_mem_cons.mpr ⟨⟨493, 518, X 207 _ rfl⟩, List.forall_mem_nil _⟩⟩, List.forall_mem_cons.mpr ⟨⟨X 210 _ rfl, List.forall_mem_cons.mpr ⟨⟨495, 519, X 209 _ rfl⟩, List.forall_mem_nil _⟩⟩, List.forall_mem_cons.mpr ⟨⟨X 214 _ rfl, List.forall_mem_cons.mpr ⟨⟨520, 521, X 211 _ rfl⟩, List.forall_mem_cons.mpr ⟨⟨483, 522, X 212 _ rfl⟩, List.forall_mem_cons.mpr ⟨⟨497, 523, X 213 _ rfl⟩, List.forall_mem_nil _⟩⟩⟩⟩, List.forall_mem_cons.mpr ⟨⟨X 216 _ rfl, List.forall_mem_cons.mpr ⟨⟨499, 524, X 215 _ rfl⟩, List.forall_mem_nil _⟩⟩, List.forall_mem_cons.mpr ⟨⟨X 218 _ rfl, List.forall_mem_cons.mpr ⟨⟨501, 525, X 217 _ rfl⟩, List.forall_mem_nil _⟩⟩, List.forall_mem_cons.mpr ⟨⟨X 222 _ rfl, List.forall_mem_cons.mpr ⟨⟨526, 527, X 219 _ rfl⟩, List.forall_mem_cons.mpr ⟨⟨485, 528, X 220 _ rfl⟩, List.forall_mem_cons.mpr ⟨⟨503, 529, X 221 _ rfl⟩, List.forall_mem_nil _⟩⟩⟩⟩, List.forall_mem_nil _⟩⟩⟩⟩⟩⟩⟩⟩⟩⟩
theorem fm_K0 {h : Heap} (X : (topo.heap_39 w.params).In h) : h.get? 223 = some (tupO (fmRows.map fun r => Value.ref r.1)) := X 223 _ rfl
end
end

section
open PySem PySem.Calls PySem.W PyProof.Rows
set_option Elab.async false
set_option maxRecDepth 100000
set_option maxHeartbeats 3000000
set_option pp.deepTerms false
set_option pp.maxSteps 20000
section
variable {w : World} {mean : ExcName → Option Value} {mg mb : Str → Option Value} {p : Program} {loose : List Str} {cn : Str} {cs : Scope} {a : Addr} {ccd : Value} {cl : List (Str × Addr)} {outer : List Env} {A₀ : Around} {base h₀ : Heap} {L : Addr} {m : Str → Option Value} {s : Shared}
    {Q E : Value → Shared → Prop}

theorem mkeep3 {m : Str → Option Value} {x x' x'' : Str} {v v' v'' : Option Value} (h : m x = v) (h' : m x' = v') (h'' : m x'' = v'') : m = (fun y => if y = x then v else if y = x' then v' else if y = x'' then v'' else m y) := by
  funext y
  by_cases e : y = x
  · rw [if_pos e, e]; exact h
  · rw [if_neg e]
    by_cases e : y = x'
    · rw [if_pos e, e]; exact h'
    · rw [if_neg e]
      by_cases e : y = x''
      · rw [if_pos e, e]; exact h''
      · rw [if_neg e]
section
variable {prog : Program} {w : World} {A : Around} {E : Value → Shared → Prop} {s : Shared}
theorem eq_yes {a b : Int} {t u : Tok} {Q : Value → Shared → Prop} (e : a = b) (h : Q (.bool true) s) : wpAny (model prog w) A (compareOp .Eq (.int a t) (.int b u)) Q E s := PyProof.Rows.eq_int (by rw [beq_iff_eq.mpr e]; exact h)
theorem eq_no {a b : Int} {t u : Tok} {Q : Value → Shared → Prop} (e : ¬ a = b) (h : Q (.bool false) s) : wpAny (model prog w) A (compareOp .Eq (.int a t) (.int b u)) Q E s := PyProof.Rows.eq_int (by rw [beq_eq_false_iff_ne.mpr e]; exact h)
end
/-- a row's sign -/
noncomputable def fmSign (x : Int) (cells : List (Nat × Int × Str)) : Str := match cells.find? (fun c => decide (Builtin.bitAnd x c.2.1 = c.2.1)) with | some c => c.2.2 | none => Str.ofString "-"
noncomputable def fmSigns (x : Int) : List Str := Str.ofString "?" :: (fmRows.drop 1).map fun r => fmSign x r.2
theorem fm_hit {x : Int} {cells : List (Nat × Int × Str)} {j : Nat} {cc : Nat × Int × Str} (h1 : ∀ c ∈ cells.take j, Builtin.bitAnd x c.2.1 ≠ c.2.1) (h2 : cells[j]? = some cc) (h3 : Builtin.bitAnd x cc.2.1 = cc.2.1) : fmSign x cells = cc.2.2 := by
  have : cells.find? (fun c => decide (Builtin.bitAnd x c.2.1 = c.2.1)) = some cc := by
    induction cells generalizing j with
    | nil => cases h2
    | cons a r ih =>
      cases j with
      | zero =>
        have e : a = cc := Option.some.inj h2
        rw [List.find?_cons, e, decide_eq_true h3]
      | succ j =>
        rw [List.find?_cons, decide_eq_false (h1 a (by simp))]
        exact ih (fun c hc => h1 c (by rw [List.take_succ_cons]; exact .tail _ hc)) (by simpa using h2)
  unfold fmSign; rw [this]
theorem fm_none {x : Int} {cells : List (Nat × Int × Str)} (h1 : ∀ c ∈ cells, Builtin.bitAnd x c.2.1 ≠ c.2.1) : fmSign x cells = Str.ofString "-" := by
  have : cells.find? (fun c => decide (Builtin.bitAnd x c.2.1 = c.2.1)) = none := by
    rw [List.find?_eq_none]
    intro c hc; simpa using h1 c hc
  unfold fmSign; rw [this]
theorem fmSigns_take {x : Int} {i : Nat} {r : Nat × List (Nat × Int × Str)} (hi : i ≠ 0) (hr : fmRows[i]? = some r) : (fmSigns x).take (i + 1) = (fmSigns x).take i ++ [fmSign x r.2] := by
  have e : (fmSigns x)[i]? = some (fmSign x r.2) := by
    obtain ⟨j, rfl⟩ : ∃ j, i = j + 1 := ⟨i - 1, by lia⟩
    unfold fmSigns
    rw [List.getElem?_cons_succ, List.getElem?_map, List.getElem?_drop, Nat.add_comm 1 j, hr]; rfl
  rw [List.take_add_one, e]; rfl
theorem strs_snoc {vs : List Value} {l : List Str} (h : StrsAre vs l) (k : Str) (t : Tok) : StrsAre (vs ++ [.str k t]) (l ++ [k]) := by
  induction h with
  | nil => exact .cons k t .nil
  | cons n u _ ih => exact .cons n u ih
theorem fmSign_len {x : Int} {cells : List (Nat × Int × Str)} (h : ∀ c ∈ cells, c.2.2.length ≤ 1) : (fmSign x cells).length ≤ 1 := by
  unfold fmSign
  split
  · rename_i c e; exact h c (List.mem_of_find?_eq_some e)
  · decide
theorem sum_le {l : List Nat} (h : ∀ x ∈ l, x ≤ 1) : l.sum ≤ l.length := by
  induction l with
  | nil => exact Nat.le_refl _
  | cons a r ih =>
    have h1 := h a (.head _)
    have h2 := ih fun x hx => h x (.tail _ hx)
    rw [List.sum_cons, List.length_cons]; lia
theorem fmSigns_len (x : Int) : ((fmSigns x).map (·.length)).sum ≤ 10 := by
  have h1 : ∀ n ∈ (fmSigns x).map (·.length), n ≤ 1 := by
    intro n hn
    obtain ⟨s, hs, rfl⟩ := List.mem_map.mp hn
    rcases List.mem_cons.mp hs with rfl | hs
    · decide
    · obtain ⟨r, hr, rfl⟩ := List.mem_map.mp hs
      have hz : ∀ r ∈ fmRows, ∀ c ∈ r.2, c.2.2.length ≤ 1 := by decide
      exact fmSign_len (hz r (List.mem_of_mem_drop hr))
  have := sum_le h1
  rw [List.length_map] at this
  exact this
noncomputable def fmStr (x : Int) : Str := Txt.join (Str.ofString "") (fmSigns x)
theorem fm_con {x : Int} {u : Tok}
    (B : Below A₀ base outer h₀) (F : Fr h₀ L s.heap m) (X : (topo.heap_39 w.params).In h₀) (N : News h₀ L s.heap []) (T : Top p loose mean mg mb h₀) (hk : cs.kind = .function)
    (hx0 : 0 ≤ x) (hx1 : x < 512) (hifmt : Builtin.bitAnd x 61440 = 0)
    (ret : ∀ h' tk' t', Fr h₀ L h' m → Kept [] s.heap h' → Q (.str (fmStr x) t') { s with heap := h', toks := tk' }) :
    wpAny (model PySem.Challenge.rw_nq0271_01.row.prog w) (AT 600 cn cs L a ccd cl outer) (call (.ref 230) [.int x u]) Q E s := by
  revert X T hk
  k_fill
  w_on
  intro X T hk
  k_with_none
  refine wpAny_call ?_
  k_dflt (refine' enterF (binds := [(Str.ofString "mode", Value.int x u)]) ?k1 ?k2 ?k3 ?k4 ?k5 ?kA ?kF ?kK ?k6 ?k7 ?k8 ?k9 ?kB ?_ ?c2 ?c3 ?c4 ?c5; (case kA => exact rfl); (case kF => exact rfl); (case kK => assumption); (case k1 => k_asm); (case k2 => k_asm); (case k3 => k_asm); (case k4 => k_asm); (case k5 => k_asm); (case k6 => k_is); (case k7 => k_is); (case k8 => k_room); (case k9 => exact BindsTo.of_eq rfl); (case c5 => decide); (case kB => exact locs rfl); (case c2 => exact rfl); (case c3 => exact rfl); (case c4 => exact rfl); k_whole)
  intro g L' h₁ FG F' N' B' X' T' kp kb l1
  refine wp_open fun Qf hQf => ?_
  w_strict k_steps
  rename_i pl _ _ _ F' N'
  refine enumLoopG (t := 223) (vs := fmRows.map fun r => Value.ref r.1) (fun i m₁ news₁ => ∀ Z : Prop, (∀ vs c, m₁ (Str.ofString "mode") = some (Value.int x u) → m₁ (Str.ofString "perm") = some (Value.ref pl) → news₁ = [(pl, W.listOf vs.toArray c)] → StrsAre vs ((fmSigns x).take i) → Z) → Z) rfl (fm_K0 X') F' N' (fun Zz KZ => KZ [] 0 rfl rfl rfl .nil) ?_ ?_
  · intro i v ti m₁ news₁ h tk own hvi hI hmap hown F1 N1
    refine hI _ ?_
    clear hI
    rintro vs c hm1 hm2 rfl hst
    refine wp_var fun QJ hQJ => ?_
    obtain ⟨r, hr, rfl⟩ : ∃ r, fmRows[i]? = some r ∧ v = Value.ref r.1 := by
      rw [List.getElem?_map] at hvi
      cases e : fmRows[i]? with
      | none => rw [e] at hvi; cases hvi
      | some r => rw [e] at hvi; exact ⟨r, rfl, (Option.some.inj hvi).symm⟩
    obtain ⟨hr1, hr2⟩ := fm_K X' r (List.mem_of_getElem? hr)
    have hown' : ∀ q ∈ own, q.1 ≠ pl := fun q hq => hown q hq _ (.head _)
    have N2 : News g L' h ((pl, W.listOf vs.toArray c) :: own) := by
      intro q hq
      rcases List.mem_cons.mp hq with rfl | hq
      · exact N1 _ (List.mem_append_right _ (.head _))
      · exact N1 q (List.mem_append_left _ hq)
    have hvl : vs.length ≤ 900 := by rw [hst.len_eq, List.length_take]; have : (fmSigns x).length = 10 := rfl; lia
    rw [mkeep2 hm1 hm2] at F1
    clear N1 F' N'
    refine wp_halt ?_
    w_strict k_steps
    refine wpAny_For ?_ (fun _ => rfl)
    w_strict k_steps
    refine elseLoopG (t := r.1) (vs := r.2.map fun c => Value.ref c.1) (P := fun j v0 v1 => ∃ cc t t', r.2[j]? = some cc ∧ v0 = Value.int cc.2.1 t ∧ v1 = Value.str cc.2.2 t')
      (fun j m₁ news₁ => m₁ (Str.ofString "mode") = some (Value.int x u) ∧ m₁ (Str.ofString "perm") = some (Value.ref pl) ∧ m₁ (Str.ofString "index") = some (Value.int i ti) ∧ news₁ = (pl, W.listOf vs.toArray c) :: own ∧ (i ≠ 0 → ∀ cc ∈ r.2.take j, Builtin.bitAnd x cc.2.1 ≠ cc.2.1)) rfl rfl rfl rfl (by passes_own) hr1 ?_ F1 N2 ⟨rfl, rfl, rfl, rfl, fun _ cc hc => by simp at hc⟩ ?_ ?_
    · intro j v hj
      rw [List.getElem?_map] at hj
      cases e : r.2[j]? with
      | none => rw [e] at hj; cases hj
      | some cc =>
        rw [e] at hj
        obtain ⟨t, t', hc⟩ := hr2 cc (List.mem_of_getElem? e)
        exact ⟨cc.1, _, _, (Option.some.inj hj).symm, hc, cc, t, t', rfl, rfl, rfl⟩
    · rintro j v0 v1 m₁ news₁ h tk I oI ⟨cc, t, t', hcj, rfl, rfl⟩ hjl ⟨hm1, hm2, hm3, rfl, hno⟩ F1 N1 hI QK hQK hKr hKb hKc
      rw [mkeep3 hm1 hm2 hm3] at F1
      have rI : Apart pl I := hI _ (.head _)
      by_cases hi : i = 0
      · subst hi
        have hcc : ¬ Builtin.bitAnd x 61440 = cc.2.1 := by
          rw [hifmt]
          have hz : ∀ r, fmRows[0]? = some r → ∀ c ∈ r.2, (0 : Int) ≠ c.2.1 := by
            intro r hr; cases hr; decide
          exact hz r hr cc (List.mem_of_getElem? hcj)
        refine wp_halt ?_
        k_with "compareOp Eq int int" => k_dflt (first | refine eq_no hcc ?_ | refine eq_yes (show ((0 : Nat) : Int) = 0 from rfl) ?_)
        w_strict k_steps
        rename Fr g _ _ _ => FF
        rename News g _ _ _ => NN
        exact hQK _ _ _ _ FF NN hI ⟨rfl, rfl, rfl, rfl, fun h => absurd rfl h⟩
      · have hi' : ¬ ((i : Int) = 0) := by lia
        by_cases hmt : Builtin.bitAnd x cc.2.1 = cc.2.1
        · refine wp_halt ?_
          k_with "compareOp Eq int int" => k_dflt (first | refine eq_no hi' ?_ | refine eq_yes hmt ?_)
          k_with "call builtin:list.append" => k_dflt ((refine' append_K ?k1 ?k2 ?k3 ?_ ?z; (case k1 => k_asm); (case k2 => k_asm); (case k3 => exact .tail rI.ne'  (.head hown')); (case z => (simp only [List.size_toArray, PySem.sizeLine_eq]; lia)); k_whole); intro h' F' N')
          w_strict k_steps
          refine hKb _ ?_
          (try show wpAny _ _ _ _ _ _)
          refine wpAny_execs_nil ?_
          rw [List.push_toArray] at N'
          refine hQJ _ _ ⟨_, _, _, [(pl, W.listOf (vs ++ [Value.str cc.2.2 t']).toArray (c + 1))], rfl, F', ?_, hmap, fun Zz KZ => KZ (vs ++ [Value.str cc.2.2 t']) (c + 1) rfl rfl rfl ?_⟩
          · intro q hq
            rcases List.mem_append.mp hq with hq | hq
            · exact N' q (.tail _ (.tail _ hq))
            · rw [List.mem_singleton.mp hq]; exact N' _ (.tail _ (.head _))
          · rw [fmSigns_take hi hr, fm_hit (hno hi) hcj hmt]
            exact strs_snoc hst _ _
        · refine wp_halt ?_
          k_with "compareOp Eq int int" => k_dflt (first | refine eq_no hi' ?_ | refine eq_no hmt ?_)
          w_strict k_steps
          rename Fr g _ _ _ => FF
          rename News g _ _ _ => NN
          refine hQK _ _ _ _ FF NN hI ⟨rfl, rfl, rfl, rfl, fun _ c hc => ?_⟩
          rw [List.take_add_one, hcj] at hc
          rcases List.mem_append.mp hc with hc | hc
          · exact hno hi c hc
          · rw [List.mem_singleton.mp hc]; exact hmt
    · rintro m₁ news₁ h tk ⟨hm1, hm2, hm3, rfl, hno⟩ F1 N1
      rw [mkeep3 hm1 hm2 hm3] at F1
      rw [List.length_map, List.take_length] at hno
      k_with "call builtin:list.append" => k_dflt ((refine' append_K ?k1 ?k2 ?k3 ?_ ?z; (case k1 => k_asm); (case k2 => k_asm); (case k3 => exact .head hown'); (case z => (simp only [List.size_toArray, PySem.sizeLine_eq]; lia)); k_whole); intro h' F' N')
      by_cases hi : i = 0
      · subst hi
        k_with "compareOp Eq int int" => k_dflt (refine eq_yes (show ((0 : Nat) : Int) = 0 from rfl) ?_)
        w_strict k_steps
        obtain ⟨tt, hN⟩ : ∃ tt, News g L' h' ((pl, W.listOf (vs ++ [Value.str (Str.ofString "?") tt]).toArray (c + 1)) :: own) := by
          rw [List.push_toArray] at N'
          exact ⟨_, N'⟩
        refine hQJ _ _ ⟨_, _, _, [(pl, W.listOf (vs ++ [Value.str (Str.ofString "?") tt]).toArray (c + 1))], rfl, F', ?_, hmap, fun Zz KZ => KZ (vs ++ [Value.str (Str.ofString "?") tt]) (c + 1) rfl rfl rfl ?_⟩
        · intro q hq
          rcases List.mem_append.mp hq with hq | hq
          · exact hN q (.tail _ hq)
          · rw [List.mem_singleton.mp hq]; exact hN _ (.head _)
        · exact strs_snoc hst _ _
      · have hi' : ¬ ((i : Int) = 0) := by lia
        k_with "compareOp Eq int int" => k_dflt (refine eq_no hi' ?_)
        w_strict k_steps
        obtain ⟨tt, hN⟩ : ∃ tt, News g L' h' ((pl, W.listOf (vs ++ [Value.str (Str.ofString "-") tt]).toArray (c + 1)) :: own) := by
          rw [List.push_toArray] at N'
          exact ⟨_, N'⟩
        refine hQJ _ _ ⟨_, _, _, [(pl, W.listOf (vs ++ [Value.str (Str.ofString "-") tt]).toArray (c + 1))], rfl, F', ?_, hmap, fun Zz KZ => KZ (vs ++ [Value.str (Str.ofString "-") tt]) (c + 1) rfl rfl rfl ?_⟩
        · intro q hq
          rcases List.mem_append.mp hq with hq | hq
          · exact hN q (.tail _ hq)
          · rw [List.mem_singleton.mp hq]; exact hN _ (.head _)
        · rw [fmSigns_take hi hr, fm_none (hno hi)]
          exact strs_snoc hst _ _
  · intro m₁ news₁ h tk hI F1 N1
    refine hI _ ?_
    clear hI
    rintro vs c hm1 hm2 rfl hst
    clear F' N'
    rw [List.length_map, show (fmSigns x).take fmRows.length = fmSigns x from rfl] at hst
    rw [mkeep2 hm1 hm2] at F1
    k_with "call builtin:str.join" => k_dflt ((refine' join_listW (led_list ?N (List.Mem.head _)) (ys := fmSigns x) hst ?k1 ?k2 ?_; (case N => k_asm); (case k1 => decide); (case k2 => (have := fmSigns_len x; have e : (fmSigns x).length = 10 := rfl; lia))); intro t' k')
    w_strict k_steps
    refine hQf _ _ ?_
    w_strict k_steps
    rename Fr h₀ L _ _ => kF
    exact ret _ _ _ kF (kept_of N F1 N1 kp (fun q hq => nomatch hq))
end
end

section
open PySem PySem.Calls PySem.W PyProof.Rows
set_option Elab.async false
set_option maxRecDepth 100000
set_option maxHeartbeats 3000000
set_option pp.deepTerms false
set_option pp.maxSteps 20000
section
variable {w : World} {mean : ExcName → Option Value} {mg mb : Str → Option Value} {p : Program} {loose : List Str} {cn : Str} {cs : Scope} {a : Addr} {ccd : Value} {cl : List (Str × Addr)} {outer : List Env} {A₀ : Around} {base h₀ : Heap} {L : Addr} {m : Str → Option Value} {s : Shared}
    {Q E : Value → Shared → Prop}

theorem flat_rep {d : Nat} {v : Value} : (List.replicate (Int.toNat (d : Int)) [v]).flatten = List.replicate d v := by
  rw [Int.toNat_natCast]
  induction d with
  | zero => rfl
  | succ d ih => rw [List.replicate_succ, List.flatten_cons, ih]; rfl
theorem defInner {prog : Program} {w : World} {A : Around} {E : Value → Shared → Prop} {s : Shared} {env : Env} {Q : Flow → Shared → Prop} {name nm : Str} {params : Arguments} {body : List Stmt} {scope : Scope} {decs : List Expr} {ret : Option Expr} {tps : List TypeParam} {cm : Option Scope} {pos : Pos}
    (ST : Arguments → List Stmt → Scope → Prop) (h1 : ST params body scope) (h2 : ST params body scope → wpAny (model prog w) A (exec (.FunctionDef name params body decs ret tps scope cm nm pos) env) Q E s) : wpAny (model prog w) A (exec (.FunctionDef name params body decs ret tps scope cm nm pos) env) Q E s := h2 h1
section
variable {prog : Program} {w : World} {A : Around} {E : Value → Shared → Prop} {s : Shared} {Q : Value → Shared → Prop} {a b n v : Int} {t u : Tok}
theorem rsh_v (hn : 0 ≤ n) (e : a.fdiv (2 ^ n.toNat) = v) (h : ∀ t tk, Q (.int v t) { s with toks := tk }) : wpAny (model prog w) A (binaryOp .RShift (.int a t) (.int n u)) Q E s := rshift_int hn (by rw [e]; exact h _ _)
theorem lsh_v (hn : 0 ≤ n) (hn2 : n ≤ 1000000) (ha : a.natAbs < 2 ^ 64) (e : a * 2 ^ n.toNat = v) (h : ∀ t tk, Q (.int v t) { s with toks := tk }) : wpAny (model prog w) A (binaryOp .LShift (.int a t) (.int n u)) Q E s := lshift_int_small hn hn2 ha (by rw [e]; exact h _ _)
theorem xor_v (e : Builtin.bitXor a b = v) (h : ∀ t tk, Q (.int v t) { s with toks := tk }) : wpAny (model prog w) A (binaryOp .BitXor (.int a t) (.int b u)) Q E s := xor_int (by rw [e]; exact h _ _)
theorem sub_v (e : a - b = v) (h : ∀ t tk, Q (.int v t) { s with toks := tk }) : wpAny (model prog w) A (binaryOp .Sub (.int a t) (.int b u)) Q E s := sub_int (by rw [e]; exact h _ _)
end
noncomputable def digs : Nat → Int → List Int
  | 0, _ => []
  | 1, x => [x]
  | d + 2, x => x % 16 :: digs (d + 1) (x / 16)
theorem nx16 (n : Nat) : n &&& (n / 16 * 16) = n / 16 * 16 := by
  apply Nat.eq_of_testBit_eq
  intro i
  have e : n / 16 * 16 = (n >>> 4) <<< 4 := by rw [Nat.shiftLeft_eq, Nat.shiftRight_eq_div_pow]
  rw [Nat.testBit_and, e, Nat.testBit_shiftLeft, Nat.testBit_shiftRight]
  by_cases h : 4 ≤ i
  · have : 4 + (i - 4) = i := by lia
    simp [h, this]
  · simp [h]
theorem xor16 (n : Nat) : Builtin.bitXor (n : Int) ((n : Int) / 16 * 16) = (n : Int) % 16 := by
  have e : ((n : Int) / 16 * 16) = ((n / 16 * 16 : Nat) : Int) := by lia
  have h : Builtin.bitAnd (n : Int) ((n / 16 * 16 : Nat) : Int) = ((n / 16 * 16 : Nat) : Int) := by
    show ((n &&& (n / 16 * 16) : Nat) : Int) = _
    rw [nx16]
  rw [e, bitXor_and, h]
  lia
theorem xor16' {x : Int} (h0 : 0 ≤ x) (h1 : x < 4096) : Builtin.bitXor x (x / 16 * 16) = x % 16 := by
  obtain ⟨n, rfl⟩ := Int.eq_ofNat_of_zero_le h0
  exact xor16 n
end
end

section
open PySem PySem.Calls PySem.W PyProof.Rows
set_option Elab.async false
set_option maxRecDepth 100000
set_option maxHeartbeats 3000000
set_option pp.deepTerms false
set_option pp.maxSteps 20000
section
variable {w : World} {mean : ExcName → Option Value} {mg mb : Str → Option Value} {p : Program} {loose : List Str} {cn : Str} {cs : Scope} {a : Addr} {ccd : Value} {cl : List (Str × Addr)} {outer : List Env} {A₀ : Around} {base h₀ : Heap} {L : Addr} {m : Str → Option Value} {s : Shared}
    {Q E : Value → Shared → Prop}

theorem set_mid {a b : List Value} {x y : Value} {n : Nat} (h : a.length = n) : (a ++ [x] ++ b).set n y = a ++ [y] ++ b := by
  subst h
  rw [List.append_assoc, List.set_append_right _ _ (Nat.le_refl _), Nat.sub_self]
  simp
/-- what the def within _int2digits does -/
noncomputable abbrev InnSt (w : World) (base : Heap) (p : Program) (loose : List Str) (mean : ExcName → Option Value) (mg mb : Str → Option Value) (params : Arguments) (body : List Stmt) (scope : Scope) : Prop :=
  ∀ (d dp : Nat), 1 ≤ d → d ≤ 3 → dp + 10 * d ≤ 800 → ∀ {cn : Str} {cs : Scope} {L a : Addr} {ccd : Value} {cl : List (Str × Addr)} {outer : List Env} {A₀ : Around} {h₀ : Heap} {m : Str → Option Value} {s : Shared} {Q E : Value → Shared → Prop}
    (f c' D cI cA cN : Addr) (oc oI oA oN : Obj) (vsc : Array Value) (tq : Tok) (qual : Str) (doc nm ct : Value) (tn : Tok) (x Li Ri : Int) (tx tL tR : Tok) (Lo : Nat) (pre mid post : List Value) (c : Nat) (tl : List (Addr × Obj)),
    Below A₀ base outer h₀ → Fr h₀ L s.heap m → (topo.heap_39 w.params).In h₀ →
    News h₀ L s.heap ((f, fnMade (Str.ofString "inner") qual params body scope [(Str.ofString "n", cN), (Str.ofString "inner", cI), (Str.ofString "a_digits", cA)] doc nm c' ct) :: (c', oc) :: (D, W.listOf (pre ++ mid ++ post).toArray c) :: (cI, oI) :: (cA, oA) :: (cN, oN) :: tl) →
    Top p loose mean mg mb h₀ → cs.kind = .function → oc.data = .fields vsc → vsc[1]? = some (.str qual tq) → oI.data = .cell (some (.ref f)) → oA.data = .cell (some (.ref D)) → oN.data = .cell (some (.int 4 tn)) →
    Lo + d ≤ 3 → 0 ≤ x → x < 4096 → Li = Lo → Ri = Lo + d → pre.length = Lo → mid.length = d → (∃ ns, IntsAre pre ns) → (∃ ns, IntsAre mid ns) → (∃ ns, IntsAre post ns) →
    Apart f D → Apart c' D → Apart cI D → Apart cA D → Apart cN D → (∀ q ∈ tl, q.1 ≠ D) →
    (∀ h' tk' mid', Fr h₀ L h' m → News h₀ L h' ((f, fnMade (Str.ofString "inner") qual params body scope [(Str.ofString "n", cN), (Str.ofString "inner", cI), (Str.ofString "a_digits", cA)] doc nm c' ct) :: (c', oc) :: (D, W.listOf (pre ++ mid' ++ post).toArray c) :: (cI, oI) :: (cA, oA) :: (cN, oN) :: tl) → IntsAre mid' (digs d x) → Q .none { s with heap := h', toks := tk' }) →
    wpAny (model PySem.Challenge.rw_nq0271_01.row.prog w) (AT dp cn cs L a ccd cl outer) (call (.ref f) [.int x tx, .int Li tL, .int Ri tR]) Q E s
theorem tr_yes {prog : Program} {w : World} {A : Around} {E : Value → Shared → Prop} {s : Shared} {Q : Bool → Shared → Prop} {n : Int} {t : Tok} (h : n ≠ 0) (q : Q true s) : wpAny (model prog w) A (truthy (.int n t)) Q E s := P.truthy_int (by rw [bne_iff_ne.mpr h]; exact q)
theorem ints_rep {n : Nat} {t : Tok} : IntsAre (List.replicate n (Value.int 0 t)) (List.replicate n 0) := by
  induction n with
  | zero => exact .nil
  | succ n ih => exact .cons _ _ ih
/-- a table of nested code: empty, or with its one code -/
noncomputable def TbS (qual : Str) (ln co : Nat) (P : Addr) (ld : List (Addr × Obj)) : Prop := ld = [(P, tabObj #[])] ∨ ∃ c oc vs t, ld = [(P, tabObj #[rawInt ln, rawInt co, .ref c]), (c, oc)] ∧ oc.data = .fields vs ∧ vs[1]? = some (.str qual t) ∧ Apart P c
noncomputable abbrev q7 : Str := Str.ofString "_int2digits.<locals>.inner"
theorem ints_uncons {m0 : Value} {mr : List Value} {l : List Int} (h : IntsAre (m0 :: mr) l) : ∃ n0 nr, l = n0 :: nr ∧ IntsAre [m0] [n0] ∧ IntsAre mr nr := by
  cases h with
  | cons n t h => exact ⟨_, _, rfl, .cons _ _ .nil, h⟩
theorem i2_con {x : Int} {u1 u2 : Tok} {d : Nat} {ld : List (Addr × Obj)}
    (B : Below A₀ base outer h₀) (F : Fr h₀ L s.heap m) (X : (topo.heap_39 w.params).In h₀) (N : News h₀ L s.heap ld) (T : Top p loose mean mg mb h₀) (hk : cs.kind = .function) (hc1 : CodeHd base 41 37)
    (hT : TbS q7 35 4 37 ld) (hx0 : 0 < x) (hx1 : x < 4096) (hd : (↑(Builtin.Int.intBits x) + 4 - 1 : Int).fdiv 4 = d) (hd1 : 1 ≤ d) (hd3 : d ≤ 3)
    (ret : ∀ h' tk' D vs cc ld', Fr h₀ L h' m → Kept (ld.map (·.1)) s.heap h' → Fresh s.heap [D] → News h₀ L h' ((D, W.listOf vs.toArray cc) :: ld') → IntsAre vs (digs d x) → TbS q7 35 4 37 ld' → (∀ q ∈ ld', q.1 ∈ ld.map (·.1) ∨ s.heap.get? q.1 = none) → (∀ q ∈ ld', q.1 ≠ D) → Q (.ref D) { s with heap := h', toks := tk' }) :
    wpAny (model PySem.Challenge.rw_nq0271_01.row.prog w) (AT 700 cn cs L a ccd cl outer) (call (.ref 42) [.int x u1, .int 4 u2]) Q E s := by
  revert X T hk
  k_fill
  w_on
  intro X T hk
  k_with_none
  refine wpAny_call ?_
  k_with "binaryOp Mult ref int" => k_dflt ((rw [hd]); (refine' KMa.mul ?F ?N ?l ?lo ?hi ?z ?e ?_; (case F => k_asm); (case N => k_asm); (case l => is_list); (case lo => (clear q3 q2 q1 hQf hl0 kb kp T' X' B' FG hk T X ret hd hx1 hx0 hT hc1 N F B; lia)); (case hi => (clear q3 q2 q1 hQf hl0 kb kp T' X' B' FG hk T X ret hd hx1 hx0 hT hc1 N F B; lia)); (case e => exact flat_rep); (case z => (show 1 * Int.toNat d ≤ 256; (clear q3 q2 q1 hQf hl0 kb kp T' X' B' FG hk T X ret hd hx1 hx0 hT hc1 N F B; lia)))); intro D' h' F' N' l1; (try k_lt l1))
  k_with "exec FunctionDef" => k_dflt (refine halt ?_)
  k_dflt (refine' enterC (binds := [(Str.ofString "a", Value.int x u1), (Str.ofString "n", Value.int 4 u2)]) ?k1 ?k2 ?k3 ?k4 ?k5 ?kA ?kF ?kK ?k6 ?k7 ?k8 ?k9 ?kB ?kN ?_ ?c2 ?c3 ?c4; (case kA => exact rfl); (case kF => exact rfl); (case kK => assumption); (case k1 => k_asm); (case k2 => k_asm); (case k3 => k_asm); (case k4 => k_asm); (case k5 => k_asm); (case k6 => k_is); (case k7 => k_is); (case k8 => k_room); (case k9 => exact BindsTo.of_eq rfl); (case kB => exact rfl); (case kN => decide); (case c2 => exact rfl); (case c3 => exact rfl); (case c4 => exact rfl); k_whole)
  intro g L' h₁ tk cells FG F' N' CC B' X' T' kp kb hl0
  k_cells CC
  (try simp only [List.cons_append, List.nil_append] at N')
  (try dsimp only)
  refine wp_open fun Qf hQf => ?_
  have q1 : ∀ q ∈ ld, q.1 ≠ L' + 1 := fun q hq => Nat.ne_of_lt (Nat.lt_trans (hl0 q hq) (by (clear hq hQf N' hl0 kb kp T' X' B' F' FG hk T X ret hd3 hd1 hd hx1 hx0 hT hc1 N F B; lia)))
  have q2 : ∀ q ∈ ld, q.1 ≠ L' + 1 + 1 := fun q hq => Nat.ne_of_lt (Nat.lt_trans (hl0 q hq) (by (clear hq q1 hQf N' hl0 kb kp T' X' B' F' FG hk T X ret hd3 hd1 hd hx1 hx0 hT hc1 N F B; lia)))
  have q3 : ∀ q ∈ ld, q.1 ≠ L' + 1 + 1 + 1 := fun q hq => Nat.ne_of_lt (Nat.lt_trans (hl0 q hq) (by (clear hq q2 q1 hQf N' hl0 kb kp T' X' B' F' FG hk T X ret hd3 hd1 hd hx1 hx0 hT hc1 N F B; lia)))
  w_strict k_steps
  k_with_none
  refine defInner (InnSt w base p loose mean mg mb) ?_ ?_
  · clear hd hx0 hx1 hd1 hd3 ret
    intro d
    induction d using Nat.strongRecOn with
    | ind d0 ih =>
      intro dp hd1 hd3 hdp
      obtain ⟨d, rfl⟩ : ∃ d, d0 = d + 1 := ⟨d0 - 1, by (clear hdp ih l1 q3 q2 q1 hQf hl0 kb kp T' X' B' FG hk T X hT hc1 N F B; lia)⟩
      intro cn cs L a ccd cl outer A₀ h₀ m s Q E f c' D cI cA cN oc oI oA oN vsc tq qual doc nm ct tn x Li Ri tx tL tR Lo pre mid post c tl B F X N T hk hoc hvsc hoI hoA hoN hLo hx0 hx1 hLi hRi hpre hmid ip im iq a1 a2 a3 a4 a5 a6 ret
      refine wpAny_call ?_
      (refine' code_nest (binds := [(Str.ofString "x", Value.int x tx), (Str.ofString "L", Value.int Li tL), (Str.ofString "R", Value.int Ri tR)]) B F X N T ?kA ?kF ?kK (List.Mem.head _) ?k7 ?k8 ?k9 ?kB ?_ ?c2 ?c3 ?c4 ?c5; (case kA => exact rfl); (case kF => exact rfl); (case kK => exact hk); (case k7 => exact codeRec_news N (.tail _ (.head _)) hoc hvsc); (case k8 => (show dp < 1000; (clear ret a6 a5 a4 a3 a2 a1 iq im ip hx1 hx0 hLo hoN hoA hoI hvsc hoc ih l1 q3 q2 q1 hQf hl0 kb kp T' X' B' FG hT hc1; lia))); (case k9 => exact BindsTo.of_eq rfl); (case c5 => decide); (case kB => exact locs rfl); (case c2 => exact rfl); (case c3 => exact rfl); (case c4 => exact rfl))
      intro g1 L1 h1 FG1 F1 N1 B1 X1 T1
      refine wp_open fun Qf hQf => ?_
      rcases Nat.eq_zero_or_pos d with rfl | hd0
      · k_with "compareOp Eq int int" => k_dflt (refine eq_yes (show Li + 1 = Ri by (clear hln hall iq im ip hmid N1 ret hLo hdp hd3 hd1 ih T1 X1 B1 F1 FG1 a6 a5 a4 a3 a2 a1 hx1 hx0 hoN hoA hoI hvsc hoc l1 q3 q2 q1 hl0 kb kp T' X' B' FG hT hc1; lia)) ?_)
        obtain ⟨m0, rfl⟩ := List.length_eq_one_iff.mp hmid
        obtain ⟨np, ip⟩ := ip
        obtain ⟨nm', im⟩ := im
        obtain ⟨nq, iq⟩ := iq
        have hall := IntsAre.append (IntsAre.append ip im) iq
        have hln : Li < ((np ++ nm' ++ nq).length : Nat) := by
          have := hall.length; simp at this ⊢; (clear hall iq im ip hmid N1 ret hdp hd3 hd1 ih T1 X1 B1 F1 FG1 a6 a5 a4 a3 a2 a1 hx1 hx0 hoN hoA hoI hvsc hoc l1 q3 q2 q1 hl0 kb kp T' X' B' FG hT hc1; lia)
        k_with "setItem ref int" => k_dflt ((refine' ksa_set ?k1 ?k2 ?k3 hall ?k5 hln ?k7 ?_; (case k1 => k_asm); (case k2 => k_asm); (case k3 => k_upd); (case k5 => (clear hln hall iq im ip hmid N1 ret hdp hd3 hd1 ih T1 X1 B1 F1 FG1 a6 a5 a4 a3 a2 a1 hx1 hx0 hoN hoA hoI hvsc hoc l1 q3 q2 q1 hl0 kb kp T' X' B' FG hT hc1; lia)); (case k7 => (clear hln hall iq im ip hmid N1 ret hdp hd3 hd1 ih T1 X1 B1 F1 FG1 a6 a5 a4 a3 a2 a1 hx1 hx0 hoN hoA hoI hvsc hoc l1 q3 q2 q1 hl0 kb kp T' X' B' FG hT hc1; lia))); intro h' F' N' i1' i2' i3')
        w_strict k_steps
        refine hQf _ _ ?_
        w_strict k_steps
        rename Fr h₀ L _ _ => kF
        rename News h₀ L _ _ => kN
        rw [hLi, Int.toNat_natCast, set_mid hpre] at kN
        exact ret _ _ [.int x tx] kF kN (.cons _ _ .nil)
      · k_with "compareOp Eq int int" => k_dflt (refine eq_no (show ¬ Li + 1 = Ri by (clear im im' iq ip N1 T1 X1 B1 F1 FG1 ret a6 a5 a4 a3 a2 a1 hx1 hx0 hLo hoN hoA hoI hvsc hoc hdp ih l1 q3 q2 q1 hl0 kb kp T' X' B' FG hT hc1; lia)) ?_)
        k_with "binaryOp RShift int int" => k_dflt ((first | (refine rsh_v (v := (Lo : Int) + 1) (by decide) ?e ?_; (case e => (show Int.fdiv _ 2 = _; rw [Int.fdiv_eq_ediv_of_nonneg _ (by decide)]; (clear im im' iq ip N1 T1 X1 B1 F1 FG1 ret a6 a5 a4 a3 a2 a1 hx1 hx0 hLo hoN hoA hoI hvsc hoc hdp ih l1 q3 q2 q1 hl0 kb kp T' X' B' FG hT hc1; lia)))) | (refine rsh_v (v := x / 16) (by decide) ?e ?_; (case e => (show Int.fdiv _ 16 = _; rw [Int.fdiv_eq_ediv_of_nonneg _ (by decide)])))); intro t9 k9)
        k_with "binaryOp LShift int int" => k_dflt ((refine lsh_v (v := x / 16 * 16) (by decide) (by decide) (by (clear im im' iq ip hmid hd0 T1 X1 B1 FG1 ret a6 a5 a4 a3 a2 a1 hpre hRi hLi hLo hoN hoA hoI hvsc hoc hdp hd3 hd1 ih l1 q3 q2 q1 hl0 kb kp T' X' B' FG hT hc1; lia)) rfl ?_); intro t9 k9)
        k_with "binaryOp BitXor int int" => k_dflt ((refine xor_v (xor16' hx0 hx1) ?_); intro t9 k9)
        k_with "binaryOp Sub int int" => k_dflt ((refine sub_v (v := 1) (by (clear im im' iq ip hmid hd0 T1 X1 B1 FG1 ret a6 a5 a4 a3 a2 a1 hpre hRi hx1 hx0 hLo hoN hoA hoI hvsc hoc hdp hd3 hd1 ih l1 q3 q2 q1 hl0 kb kp T' X' B' FG hT hc1; lia)) ?_); intro t9 k9)
        obtain ⟨m0, mr, rfl⟩ := List.exists_cons_of_length_eq_add_one hmid
        obtain ⟨np, ip⟩ := ip
        obtain ⟨nm', im⟩ := im
        obtain ⟨nq, iq⟩ := iq
        obtain ⟨n0, nr, rfl, im'⟩ := ints_uncons im
        rw [show pre ++ m0 :: mr ++ post = pre ++ [m0] ++ (mr ++ post) by simp] at N1
        k_with "call ref" => k_dflt (refine halt ?_)
        w_strict k_steps
        show wpAny _ _ (call (Value.ref f) [Value.int (x % 16) _, Value.int Li tL, Value.int (↑Lo + 1) _]) _ _ _
        (refine' lower (ih 1 (by (clear im im' iq ip T1 X1 B1 FG1 ret a6 a5 a4 a3 a2 a1 hx1 hx0 hLo hoN hoA hoI hvsc hoc hdp ih l1 q3 q2 q1 hl0 kb kp T' X' B' FG hT hc1; lia)) (dp + 1) (Nat.le_refl _) (by decide) (by (clear im im' iq ip T1 X1 B1 FG1 ret a6 a5 a4 a3 a2 a1 hx1 hx0 hLo hoN hoA hoI hvsc hoc ih l1 q3 q2 q1 hl0 kb kp T' X' B' FG hT hc1; lia)) (Lo := Lo) (pre := pre) (mid := [m0]) (post := mr ++ post) f c' D cI cA cN oc oI oA oN vsc tq qual doc nm ct tn (x % 16) Li (Lo + 1) _ _ _ c tl B1 ?F X1 ?N T1 ?hk hoc hvsc hoI hoA hoN (by (clear im im' iq ip T1 X1 B1 FG1 ret a6 a5 a4 a3 a2 a1 hx1 hx0 hoN hoA hoI hvsc hoc hdp ih l1 q3 q2 q1 hl0 kb kp T' X' B' FG hT hc1; lia)) (by (clear im im' iq ip hmid hd0 T1 X1 B1 FG1 ret a6 a5 a4 a3 a2 a1 hpre hRi hLi hx1 hx0 hLo hoN hoA hoI hvsc hoc hdp hd3 hd1 ih l1 q3 q2 q1 hl0 kb kp T' X' B' FG hT hc1; lia)) (by (clear im im' iq ip hmid hd0 T1 X1 B1 FG1 ret a6 a5 a4 a3 a2 a1 hpre hRi hLi hx1 hx0 hLo hoN hoA hoI hvsc hoc hdp hd3 hd1 ih l1 q3 q2 q1 hl0 kb kp T' X' B' FG hT hc1; lia)) hLi (by rfl) hpre rfl ⟨_, ip⟩ ⟨_, im'.1⟩ ⟨_, IntsAre.append im'.2 iq⟩ a1 a2 a3 a4 a5 a6 ?_) ?d ?u ?hh ?hf ?hg; (case hf => exact rfl); (case hk => exact rfl); (case hh => exact rfl); (case hg => exact rfl); (case d => exact Nat.le_refl _); (case u => (show (4 * dp + 100) + _ ≤ 4 * (dp + 1) + 100; (clear im im' iq ip hmid hd0 T1 X1 B1 FG1 ret a6 a5 a4 a3 a2 a1 hpre hRi hLi hx1 hx0 hLo hoN hoA hoI hvsc hoc hdp hd3 hd1 ih l1 q3 q2 q1 hl0 kb kp T' X' B' FG hT hc1; lia))); (case F => k_asm); (case N => k_asm)); intro h' tk' mid1 F' N' i1; (rw [show pre ++ mid1 ++ (mr ++ post) = (pre ++ mid1) ++ mr ++ post by simp] at N')
        w_strict k_steps
        show wpAny _ _ (call (Value.ref f) [Value.int (x / 16) _, Value.int (↑Lo + 1) _, Value.int Ri _]) _ _ _
        (refine' lower (ih d (by (clear i1 N' F' im im' iq ip hmid hd0 T1 X1 B1 FG1 ret a6 a5 a4 a3 a2 a1 hpre hRi hLi hx1 hx0 hLo hoN hoA hoI hvsc hoc hdp hd3 hd1 ih l1 q3 q2 q1 hl0 kb kp T' X' B' FG hT hc1; lia)) (dp + 1) hd0 (by (clear i1 N' F' im im' iq ip T1 X1 B1 FG1 ret a6 a5 a4 a3 a2 a1 hx1 hx0 hLo hoN hoA hoI hvsc hoc hdp ih l1 q3 q2 q1 hl0 kb kp T' X' B' FG hT hc1; lia)) (by (clear i1 N' F' im im' iq ip hd0 T1 X1 B1 FG1 ret a6 a5 a4 a3 a2 a1 hx1 hx0 hLo hoN hoA hoI hvsc hoc hd3 hd1 ih l1 q3 q2 q1 hl0 kb kp T' X' B' FG hT hc1; lia)) (Lo := Lo + 1) (pre := pre ++ mid1) (mid := mr) (post := post) f c' D cI cA cN oc oI oA oN vsc tq qual doc nm ct tn (x / 16) (Lo + 1) Ri _ _ _ c tl B1 ?F X1 ?N T1 ?hk hoc hvsc hoI hoA hoN ?l3 (by (clear i1 N' F' im im' iq ip hmid hd0 T1 X1 B1 FG1 ret a6 a5 a4 a3 a2 a1 hpre hRi hLi hLo hoN hoA hoI hvsc hoc hdp hd3 hd1 ih l1 q3 q2 q1 hl0 kb kp T' X' B' FG hT hc1; lia)) (by (clear i1 N' F' im im' iq ip hmid hd0 T1 X1 B1 FG1 ret a6 a5 a4 a3 a2 a1 hpre hRi hLi hLo hoN hoA hoI hvsc hoc hdp hd3 hd1 ih l1 q3 q2 q1 hl0 kb kp T' X' B' FG hT hc1; lia)) (by rfl) (by (clear i1 N' F' im im' iq ip hmid hd0 T1 X1 B1 FG1 ret a6 a5 a4 a3 a2 a1 hpre hx1 hx0 hLo hoN hoA hoI hvsc hoc hdp hd3 hd1 ih l1 q3 q2 q1 hl0 kb kp T' X' B' FG hT hc1; lia)) ?ll (by simp at hmid; omega) ⟨_, IntsAre.append ip i1⟩ ⟨_, im'.2⟩ ⟨_, iq⟩ a1 a2 a3 a4 a5 a6 ?_) ?d ?u ?hh ?hf ?hg; (case hf => exact rfl); (case hk => exact rfl); (case hh => exact rfl); (case hg => exact rfl); (case d => exact Nat.le_refl _); (case u => (show (4 * dp + 100) + _ ≤ 4 * (dp + 1) + 100; (clear i1 N' F' im im' iq ip hmid hd0 T1 X1 B1 FG1 ret a6 a5 a4 a3 a2 a1 hpre hRi hLi hx1 hx0 hLo hoN hoA hoI hvsc hoc hdp hd3 hd1 ih l1 q3 q2 q1 hl0 kb kp T' X' B' FG hT hc1; lia))); (case F => k_asm); (case N => k_asm); (case l3 => (clear i1 N' F' im im' iq ip hd0 T1 X1 B1 FG1 ret a6 a5 a4 a3 a2 a1 hx1 hx0 hoN hoA hoI hvsc hoc hdp hd3 hd1 ih l1 q3 q2 q1 hl0 kb kp T' X' B' FG hT hc1; lia)); (case ll => (rw [List.length_append, hpre, i1.length]; rfl))); intro h' tk' mid2 F' N' i2
        w_strict k_steps
        refine hQf _ _ ?_
        w_strict k_steps
        rename Fr h₀ L _ _ => kF
        rename News h₀ L _ _ => kN
        obtain ⟨d, rfl⟩ : ∃ e, d = e + 1 := ⟨d - 1, by (clear kN kF i2 i1 im im' iq ip T1 X1 B1 FG1 ret a6 a5 a4 a3 a2 a1 hx1 hx0 hLo hoN hoA hoI hvsc hoc hdp ih l1 q3 q2 q1 hl0 kb kp T' X' B' FG hT hc1; lia)⟩
        rw [show (pre ++ mid1) ++ mid2 ++ post = pre ++ (mid1 ++ mid2) ++ post by simp] at kN
        exact ret _ _ (mid1 ++ mid2) kF kN (IntsAre.append i1 i2)
  · intro hin
    k_with "call ref" => k_dflt (refine halt ?_)
    k_with "truthy int" => k_dflt (refine tr_yes (show x ≠ 0 by (clear l3 l1 q3 q2 q1 hl0 kp ret N hin hQf kb T' X' B' FG hk T X hd3 hd1 hd hc1 F B; lia)) ?_)
    k_with "call builtin:len" => k_dflt (refine' len_list (led_list (by k_asm) (by k_mem)) ?fit ?_; (case fit => (rw [List.size_toArray, List.length_replicate]; (clear l3 l1 q3 q2 q1 hl0 kp ret N hin hQf kb T' X' B' FG hk T X hd hx1 hx0 hc1 F B; lia))))
    rcases hT with rfl | ⟨c, oc, vsc, tq, rfl, hoc, hvsc, aP⟩
    · have l3 := hl0
      k_lt l3
      w_strict k_steps
      rename_i f' c oc vsc t' ct dc hA tkA d1 d2 lc lf hB oI FF NN dI
      obtain ⟨w1, w2, w3, w4, w5, _⟩ := l1
      have w5 : 37 < D' := w5
      have lc1 : D' < c := lc.1
      (refine' lower (hin d 720 hd1 hd3 (by (clear lc1 w4 w3 w2 w1 dI NN FF lf lc d2 d1 l3 q3 q2 q1 hl0 kp ret N hin hQf kb T' X' B' FG hk T X hd hx1 hx0 hc1 F B; lia)) (Lo := 0) (pre := []) (mid := List.replicate d (Value.int 0 tk)) (post := []) f' c D' (L' + 1 + 1 + 1) (L' + 1 + 1) (L' + 1) oc _ _ _ vsc t' _ _ _ _ u2 x 0 _ _ _ _ 0 [(37, tabObj #[rawInt (35 : Nat), rawInt (4 : Nat), .ref c])] B' FF X' ?N T' ?hk ?d1 ?d2 ?d3 ?d4 ?d5 (by (clear lc1 w4 w3 w2 w1 dI NN FF lf lc d2 d1 l3 q3 q2 q1 hl0 kp ret N hin hQf kb T' X' B' FG hk T X hd hx1 hx0 hc1 F B; lia)) (by (clear lc1 w4 w3 w2 w1 dI NN FF lf lc d2 d1 l3 q3 q2 q1 hl0 kp ret N hin hQf kb T' X' B' FG hk T X hd3 hd1 hd hc1 F B; lia)) hx1 rfl ?r rfl (List.length_replicate) ⟨_, .nil⟩ ⟨_, ints_rep⟩ ⟨_, .nil⟩ ?a1 ?a2 ?a3 ?a4 ?a5 ?a6 ?_) ?d ?u ?hh ?hf ?hg; (case hf => exact rfl); (case hk => exact rfl); (case hh => exact rfl); (case hg => exact rfl); (case d => exact Nat.le_of_ble_eq_true rfl); (case u => exact Nat.le_of_ble_eq_true rfl); (case N => (simp only [List.nil_append, List.append_nil]; exact List.forall_mem_cons.mpr ⟨NN _ (by k_mem), List.forall_mem_cons.mpr ⟨NN _ (by k_mem), List.forall_mem_cons.mpr ⟨NN _ (by k_mem), List.forall_mem_cons.mpr ⟨NN _ (by k_mem), List.forall_mem_cons.mpr ⟨NN _ (by k_mem), List.forall_mem_cons.mpr ⟨NN _ (by k_mem), List.forall_mem_cons.mpr ⟨NN _ (by k_mem), List.forall_mem_nil _⟩⟩⟩⟩⟩⟩⟩)); (case d1 => assumption); (case d2 => assumption); (case d3 => assumption); (case d4 => assumption); (case d5 => assumption); (case r => simp); (case a1 => (show _ ≠ _; (clear lc1 w4 w3 w2 w1 dI NN FF d2 d1 l3 q3 q2 q1 hl0 kp ret N hin hQf kb T' X' B' FG hk T X hd3 hd1 hd hx1 hx0 hc1 F B; lia))); (case a2 => (show _ ≠ _; (clear lc1 w4 w3 w2 w1 dI NN FF lf d2 d1 l3 q3 q2 q1 hl0 kp ret N hin hQf kb T' X' B' FG hk T X hd3 hd1 hd hx1 hx0 hc1 F B; omega))); (case a3 => (show _ ≠ _; (clear lc1 w4 w3 w1 dI NN FF lf lc d2 d1 l3 q3 q2 q1 hl0 kp ret N hin hQf kb T' X' B' FG hk T X hd3 hd1 hd hx1 hx0 hc1 F B; lia))); (case a4 => (show _ ≠ _; (clear lc1 w4 w3 w1 dI NN FF lf lc d2 d1 l3 q3 q2 q1 hl0 kp ret N hin hQf kb T' X' B' FG hk T X hd3 hd1 hd hx1 hx0 hc1 F B; lia))); (case a5 => (show _ ≠ _; (clear lc1 w4 w3 w1 dI NN FF lf lc d2 d1 l3 q3 q2 q1 hl0 kp ret N hin hQf kb T' X' B' FG hk T X hd3 hd1 hd hx1 hx0 hc1 F B; lia))); (case a6 => (intro q hq; simp only [List.mem_cons, List.not_mem_nil, or_false] at hq; subst hq; k_ne)))
      intro h' tk' mid1 F' N' i1
      w_strict k_steps
      refine hQf _ _ ?_
      w_strict k_steps
      rename Fr h₀ L _ _ => kF
      rename News h₀ L _ _ => kN
      simp only [List.nil_append, List.append_nil] at kN N'
      have h3 : Apart 37 c := by show _ ≠ _; (clear N' kN kF i1 F' lc1 w4 w3 w2 w1 dI NN FF lf d2 d1 l3 q3 q2 q1 hl0 kp ret N hin hQf kb T' X' B' FG hk T X hd3 hd1 hd hx1 hx0 hc1 F B; omega)
      have hN2 : News g L' h' [(D', W.listOf mid1.toArray 0), (37, tabObj #[rawInt (35 : Nat), rawInt (4 : Nat), .ref c]), (c, oc)] := List.forall_mem_cons.mpr ⟨N' _ (.tail _ (.tail _ (.head _))), List.forall_mem_cons.mpr ⟨N' _ (.tail _ (.tail _ (.tail _ (.tail _ (.tail _ (.tail _ (.head _))))))), List.forall_mem_cons.mpr ⟨N' _ (.tail _ (.head _)), List.forall_mem_nil _⟩⟩⟩
      have hN1 : News h₀ L h' [(D', W.listOf mid1.toArray 0), (37, tabObj #[rawInt (35 : Nat), rawInt (4 : Nat), .ref c]), (c, oc)] := List.forall_mem_cons.mpr ⟨kN _ (.tail _ (.tail _ (.head _))), List.forall_mem_cons.mpr ⟨kN _ (.tail _ (.tail _ (.tail _ (.tail _ (.tail _ (.tail _ (.head _))))))), List.forall_mem_cons.mpr ⟨kN _ (.tail _ (.head _)), List.forall_mem_nil _⟩⟩⟩
      refine ret h' tk' D' mid1 0 [(37, tabObj #[rawInt (35 : Nat), rawInt (4 : Nat), .ref c]), (c, oc)] kF (kept_of N F' N' kp (fun q hq => .inr (List.mem_map_of_mem hq))) ?_ hN1 i1 (.inr ⟨c, oc, vsc, t', rfl, d1, d2, h3⟩) ?_ ?_
      · refine List.forall_mem_cons.mpr ⟨fresh_of hN2 kp (.head _) ?_, List.forall_mem_nil _⟩
        intro q hq; rw [List.mem_singleton.mp hq]; k_ne
      · intro q hq
        rcases List.mem_cons.mp hq with rfl | hq
        · exact .inl (.head _)
        · rw [List.mem_singleton.mp hq]
          refine .inr (fresh_of hN2 kp (.tail _ (.tail _ (.head _))) ?_)
          intro q hq; rw [List.mem_singleton.mp hq]; exact h3
      · intro q hq
        rcases List.mem_cons.mp hq with rfl | hq
        · k_ne
        · rw [List.mem_singleton.mp hq]; k_ne
    · have l3 := hl0
      k_lt l3
      w_strict k_steps
      rename_i f' ct dc hA tkA lf hB oI FF NN dI
      obtain ⟨w1, w2, w3, w4, w5, w6, _⟩ := l1
      have w5 : 37 < D' := w5
      have w6 : c < D' := w6
      (refine' lower (hin d 720 hd1 hd3 (by (clear w4 w3 w2 w1 dI NN FF lf l3 aP hvsc hoc q3 q2 q1 hl0 kp ret N hin hQf kb T' X' B' FG hk T X hd hx1 hx0 hc1 F B; lia)) (Lo := 0) (pre := []) (mid := List.replicate d (Value.int 0 tk)) (post := []) _ c D' (L' + 1 + 1 + 1) (L' + 1 + 1) (L' + 1) oc _ _ _ vsc tq _ _ _ _ u2 x 0 _ _ _ _ 0 [(37, tabObj #[rawInt (35 : Nat), rawInt (4 : Nat), .ref c])] B' FF X' ?N T' ?hk ?d1 ?d2 ?d3 ?d4 ?d5 (by (clear w4 w3 w2 w1 dI NN FF lf l3 aP hvsc hoc q3 q2 q1 hl0 kp ret N hin hQf kb T' X' B' FG hk T X hd hx1 hx0 hc1 F B; lia)) (by (clear w4 w3 w2 w1 dI NN FF lf l3 aP hvsc hoc q3 q2 q1 hl0 kp ret N hin hQf kb T' X' B' FG hk T X hd3 hd1 hd hc1 F B; lia)) hx1 rfl ?r rfl (List.length_replicate) ⟨_, .nil⟩ ⟨_, ints_rep⟩ ⟨_, .nil⟩ ?a1 ?a2 ?a3 ?a4 ?a5 ?a6 ?_) ?d ?u ?hh ?hf ?hg; (case hf => exact rfl); (case hk => exact rfl); (case hh => exact rfl); (case hg => exact rfl); (case d => exact Nat.le_of_ble_eq_true rfl); (case u => exact Nat.le_of_ble_eq_true rfl); (case N => (simp only [List.nil_append, List.append_nil]; exact List.forall_mem_cons.mpr ⟨NN _ (by k_mem), List.forall_mem_cons.mpr ⟨NN _ (by k_mem), List.forall_mem_cons.mpr ⟨NN _ (by k_mem), List.forall_mem_cons.mpr ⟨NN _ (by k_mem), List.forall_mem_cons.mpr ⟨NN _ (by k_mem), List.forall_mem_cons.mpr ⟨NN _ (by k_mem), List.forall_mem_cons.mpr ⟨NN _ (by k_mem), List.forall_mem_nil _⟩⟩⟩⟩⟩⟩⟩)); (case d1 => assumption); (case d2 => assumption); (case d3 => assumption); (case d4 => assumption); (case d5 => assumption); (case r => simp); (case a1 => (show _ ≠ _; (clear w4 w3 w2 w1 dI NN FF l3 aP hvsc hoc q3 q2 q1 hl0 kp ret N hin hQf kb T' X' B' FG hk T X hd3 hd1 hd hx1 hx0 hc1 F B; omega))); (case a2 => (show _ ≠ _; (clear w4 w3 w2 w1 dI NN FF lf l3 aP hvsc hoc q3 q2 q1 hl0 kp ret N hin hQf kb T' X' B' FG hk T X hd3 hd1 hd hx1 hx0 hc1 F B; lia))); (case a3 => (show _ ≠ _; (clear w4 w3 w1 dI NN FF lf l3 aP hvsc hoc q3 q2 q1 hl0 kp ret N hin hQf kb T' X' B' FG hk T X hd3 hd1 hd hx1 hx0 hc1 F B; lia))); (case a4 => (show _ ≠ _; (clear w4 w3 w1 dI NN FF lf l3 aP hvsc hoc q3 q2 q1 hl0 kp ret N hin hQf kb T' X' B' FG hk T X hd3 hd1 hd hx1 hx0 hc1 F B; lia))); (case a5 => (show _ ≠ _; (clear w4 w3 w1 dI NN FF lf l3 aP hvsc hoc q3 q2 q1 hl0 kp ret N hin hQf kb T' X' B' FG hk T X hd3 hd1 hd hx1 hx0 hc1 F B; lia))); (case a6 => (intro q hq; simp only [List.mem_cons, List.not_mem_nil, or_false] at hq; subst hq; k_ne)))
      intro h' tk' mid1 F' N' i1
      w_strict k_steps
      refine hQf _ _ ?_
      w_strict k_steps
      rename Fr h₀ L _ _ => kF
      rename News h₀ L _ _ => kN
      simp only [List.nil_append, List.append_nil] at kN N'
      refine ret h' tk' D' mid1 0 [(37, tabObj #[rawInt (35 : Nat), rawInt (4 : Nat), .ref c]), (c, oc)] kF (kept_of N F' N' kp (fun q hq => .inr (List.mem_map_of_mem hq))) ?_ (List.forall_mem_cons.mpr ⟨kN _ (by k_mem), List.forall_mem_cons.mpr ⟨kN _ (by k_mem), List.forall_mem_cons.mpr ⟨kN _ (by k_mem), List.forall_mem_nil _⟩⟩⟩) i1 (.inr ⟨c, oc, vsc, tq, rfl, hoc, hvsc, aP⟩) ?_ ?_
      · refine List.forall_mem_cons.mpr ⟨fresh_of N' kp (o := W.listOf mid1.toArray 0) (by k_mem) ?_, List.forall_mem_nil _⟩
        intro q hq
        rcases List.mem_cons.mp hq with rfl | hq
        · k_ne
        · rw [List.mem_singleton.mp hq]; k_ne
      · intro q hq
        exact .inl (List.mem_map_of_mem hq)
      · intro q hq
        rcases List.mem_cons.mp hq with rfl | hq
        · k_ne
        · rw [List.mem_singleton.mp hq]; k_ne
end
end

section
open PySem PySem.Calls PySem.W PyProof.Rows
set_option Elab.async false
set_option maxRecDepth 100000
set_option maxHeartbeats 3000000
set_option pp.deepTerms false
set_option pp.maxSteps 20000
section
variable {w : World} {mean : ExcName → Option Value} {mg mb : Str → Option Value} {p : Program} {loose : List Str} {cn : Str} {cs : Scope} {a : Addr} {ccd : Value} {cl : List (Str × Addr)} {outer : List Env} {A₀ : Around} {base h₀ : Heap} {L : Addr} {m : Str → Option Value} {s : Shared}
    {Q E : Value → Shared → Prop}

noncomputable def hval : List Int → Int
  | [] => 0
  | [a] => a
  | a :: b :: r => hval (b :: r) * 16 + a
theorem hval_bd : ∀ {l : List Int}, l.length ≤ 3 → (∀ n ∈ l, 0 ≤ n ∧ n < 4096) → 0 ≤ hval l ∧ hval l < 2 ^ 22
  | [], _, _ => by simp [hval]
  | [a], _, h => by have := h a (.head _); simp only [hval]; lia
  | [a, b], _, h => by have := h a (.head _); have := h b (.tail _ (.head _)); simp only [hval]; lia
  | [a, b, c], _, h => by have := h a (.head _); have := h b (.tail _ (.head _)); have := h c (.tail _ (.tail _ (.head _))); simp only [hval]; lia
  | _ :: _ :: _ :: _ :: _, hl, _ => absurd hl (by simp only [List.length_cons]; (clear hl; lia))
noncomputable abbrev InnD (w : World) (base : Heap) (p : Program) (loose : List Str) (mean : ExcName → Option Value) (mg mb : Str → Option Value) (params : Arguments) (body : List Stmt) (scope : Scope) : Prop :=
  ∀ (d dp : Nat), 1 ≤ d → d ≤ 3 → dp + 10 * d ≤ 800 → ∀ {cn : Str} {cs : Scope} {L a : Addr} {ccd : Value} {cl : List (Str × Addr)} {outer : List Env} {A₀ : Around} {h₀ : Heap} {m : Str → Option Value} {s : Shared} {Q E : Value → Shared → Prop}
    (f c' D cI cA cN : Addr) (oc oI oA oN : Obj) (vsc : Array Value) (tq : Tok) (qual : Str) (doc nm ct : Value) (tn : Tok) (Li Ri : Int) (tL tR : Tok) (Lo : Nat) (pre mid post : List Value) (ms : List Int) (c : Nat) (tl : List (Addr × Obj)),
    Below A₀ base outer h₀ → Fr h₀ L s.heap m → (topo.heap_39 w.params).In h₀ →
    News h₀ L s.heap ((f, fnMade (Str.ofString "inner") qual params body scope [(Str.ofString "n", cN), (Str.ofString "inner", cI), (Str.ofString "digits", cA)] doc nm c' ct) :: (c', oc) :: (D, W.listOf (pre ++ mid ++ post).toArray c) :: (cI, oI) :: (cA, oA) :: (cN, oN) :: tl) →
    Top p loose mean mg mb h₀ → cs.kind = .function → oc.data = .fields vsc → vsc[1]? = some (.str qual tq) → oI.data = .cell (some (.ref f)) → oA.data = .cell (some (.ref D)) → oN.data = .cell (some (.int 4 tn)) →
    Lo + d ≤ 3 → Li = Lo → Ri = Lo + d → pre.length = Lo → mid.length = d → IntsAre mid ms → (∀ n ∈ ms, 0 ≤ n ∧ n < 4096) →
    (∀ h' tk' t', Fr h₀ L h' m → News h₀ L h' ((f, fnMade (Str.ofString "inner") qual params body scope [(Str.ofString "n", cN), (Str.ofString "inner", cI), (Str.ofString "digits", cA)] doc nm c' ct) :: (c', oc) :: (D, W.listOf (pre ++ mid ++ post).toArray c) :: (cI, oI) :: (cA, oA) :: (cN, oN) :: tl) → Q (.int (hval ms) t') { s with heap := h', toks := tk' }) →
    wpAny (model PySem.Challenge.rw_nq0271_01.row.prog w) (AT dp cn cs L a ccd cl outer) (call (.ref f) [.int Li tL, .int Ri tR]) Q E s
noncomputable abbrev q4 : Str := Str.ofString "_digits2int.<locals>.inner"
theorem ints_one {mid : List Value} {ms : List Int} (h : IntsAre mid ms) (hl : mid.length = 0 + 1) : ∃ n0 tv, mid = [.int n0 tv] ∧ ms = [n0] := by
  cases h with
  | nil => cases hl
  | cons n t h => cases h with
    | nil => exact ⟨n, t, rfl, rfl⟩
    | cons _ _ _ => cases hl
theorem ints_two {mid : List Value} {ms : List Int} {d : Nat} (h : IntsAre mid ms) (hl : mid.length = d + 1) (hd : 0 < d) : ∃ m0 mr n0 n1 nr, mid = m0 :: mr ∧ ms = n0 :: n1 :: nr ∧ IntsAre [m0] [n0] ∧ IntsAre mr (n1 :: nr) := by
  cases h with
  | nil => cases hl
  | cons n t h => cases h with
    | nil => exact absurd hd (by rw [← Nat.succ.inj hl]; decide)
    | cons _ _ h => exact ⟨_, _, _, _, _, rfl, rfl, .cons _ _ .nil, .cons _ _ h⟩
theorem d2_con {D : Addr} {vs : List Value} {ns : List Int} {c : Nat} {u2 : Tok} {d : Nat} {ld : List (Addr × Obj)}
    (B : Below A₀ base outer h₀) (F : Fr h₀ L s.heap m) (X : (topo.heap_39 w.params).In h₀) (N : News h₀ L s.heap ((D, W.listOf vs.toArray c) :: ld)) (T : Top p loose mean mg mb h₀) (hk : cs.kind = .function) (hc1 : CodeHd base 48 44)
    (hT : TbS q4 50 4 44 ld) (hDl : ∀ q ∈ ld, q.1 ≠ D) (hvs : IntsAre vs ns) (hns : ∀ n ∈ ns, 0 ≤ n ∧ n < 4096) (hd : ns.length = d) (hd1 : 1 ≤ d) (hd3 : d ≤ 3)
    (ret : ∀ h' tk' t' ld', Fr h₀ L h' m → Kept (ld.map (·.1)) s.heap h' → News h₀ L h' ((D, W.listOf vs.toArray c) :: ld') → TbS q4 50 4 44 ld' → (∀ q ∈ ld', q.1 ∈ ld.map (·.1) ∨ s.heap.get? q.1 = none) → Q (.int (hval ns) t') { s with heap := h', toks := tk' }) :
    wpAny (model PySem.Challenge.rw_nq0271_01.row.prog w) (AT 700 cn cs L a ccd cl outer) (call (.ref 49) [.ref D, .int 4 u2]) Q E s := by
  revert X T hk
  k_fill
  w_on
  intro X T hk
  k_with_none
  refine wpAny_call ?_
  k_with "exec FunctionDef" => k_dflt (refine halt ?_)
  k_dflt (refine' enterC (binds := [(Str.ofString "digits", Value.ref D), (Str.ofString "n", Value.int 4 u2)]) ?k1 ?k2 ?k3 ?k4 ?k5 ?kA ?kF ?kK ?k6 ?k7 ?k8 ?k9 ?kB ?kN ?_ ?c2 ?c3 ?c4; (case kA => exact rfl); (case kF => exact rfl); (case kK => assumption); (case k1 => k_asm); (case k2 => k_asm); (case k3 => k_asm); (case k4 => k_asm); (case k5 => k_asm); (case k6 => k_is); (case k7 => k_is); (case k8 => k_room); (case k9 => exact BindsTo.of_eq rfl); (case kB => exact rfl); (case kN => decide); (case c2 => exact rfl); (case c3 => exact rfl); (case c4 => exact rfl); k_whole)
  intro g L' h₁ tk cells FG F' N' CC B' X' T' kp kb hl0
  k_cells CC
  (try simp only [List.cons_append, List.nil_append] at N')
  (try dsimp only)
  refine wp_open fun Qf hQf => ?_
  have q1 : ∀ q ∈ ld, q.1 ≠ L' + 1 := fun q hq => Nat.ne_of_lt (Nat.lt_trans (hl0 q (.tail _ hq)) (by (clear hq hQf N' hl0 kb kp T' X' B' F' FG hk T X ret hd3 hd1 hd hns hvs hDl hT hc1 N F B; lia)))
  have q2 : ∀ q ∈ ld, q.1 ≠ L' + 1 + 1 := fun q hq => Nat.ne_of_lt (Nat.lt_trans (hl0 q (.tail _ hq)) (by (clear hq q1 hQf N' hl0 kb kp T' X' B' F' FG hk T X ret hd3 hd1 hd hns hvs hDl hT hc1 N F B; lia)))
  have q3 : ∀ q ∈ ld, q.1 ≠ L' + 1 + 1 + 1 := fun q hq => Nat.ne_of_lt (Nat.lt_trans (hl0 q (.tail _ hq)) (by (clear hq q2 q1 hQf N' hl0 kb kp T' X' B' F' FG hk T X ret hd3 hd1 hd hns hvs hDl hT hc1 N F B; lia)))
  have hDL : D < L' := hl0 _ (.head _)
  w_strict k_steps
  k_with_none
  refine defInner (InnD w base p loose mean mg mb) ?_ ?_
  · clear hd hd1 hd3 ret hT hvs hns
    intro d
    induction d using Nat.strongRecOn with
    | ind d0 ih =>
      intro dp hd1 hd3 hdp
      obtain ⟨d, rfl⟩ : ∃ d, d0 = d + 1 := ⟨d0 - 1, by (clear hdp ih hDL q3 q2 q1 hQf N' hl0 kb kp T' X' B' F' FG hk T X hDl hc1 N F B; lia)⟩
      intro cn cs L a ccd cl outer A₀ h₀ m s Q E f c' D cI cA cN oc oI oA oN vsc tq qual doc nm ct tn Li Ri tL tR Lo pre mid post ms c tl B F X N T hk hoc hvsc hoI hoA hoN hLo hLi hRi hpre hmid im hms ret
      refine wpAny_call ?_
      (refine' code_nest (binds := [(Str.ofString "L", Value.int Li tL), (Str.ofString "R", Value.int Ri tR)]) B F X N T ?kA ?kF ?kK (List.Mem.head _) ?k7 ?k8 ?k9 ?kB ?_ ?c2 ?c3 ?c4 ?c5; (case kA => exact rfl); (case kF => exact rfl); (case kK => exact hk); (case k7 => exact codeRec_news N (.tail _ (.head _)) hoc hvsc); (case k8 => (show dp < 1000; (clear ret hms im hLo hoN hoA hoI hvsc hoc ih hDL q3 q2 q1 hQf N' hl0 kb kp T' X' B' F' FG hDl hc1; lia))); (case k9 => exact BindsTo.of_eq rfl); (case c5 => decide); (case kB => exact locs rfl); (case c2 => exact rfl); (case c3 => exact rfl); (case c4 => exact rfl))
      intro g1 L1 h1 FG1 F1 N1 B1 X1 T1
      refine wp_open fun Qf hQf => ?_
      rcases Nat.eq_zero_or_pos d with rfl | hd0
      · obtain ⟨n0, tv, rfl, rfl⟩ := ints_one im hmid
        k_with "compareOp Eq int int" => k_dflt (refine eq_yes (show Li + 1 = Ri by (clear ret im hms hmid N1 hLo hdp hd3 hd1 ih T1 X1 B1 F1 FG1 hoN hoA hoI hvsc hoc hDL q3 q2 q1 N' hl0 kb kp T' X' B' F' FG hDl hc1; lia)) ?_)
        k_with "subscriptTail Name Name ref int" => k_dflt (refine' item_list (led_list ?N (List.Mem.tail _ (List.Mem.tail _ (List.Mem.head _)))) ?k1 ?k2 (x := .int n0 tv) ?k3 ?_ ?k4; (case N => k_asm); (case k1 => (clear ret im hms hmid N1 hdp hd3 hd1 ih T1 X1 B1 F1 FG1 hoN hoA hoI hvsc hoc hDL q3 q2 q1 N' hl0 kb kp T' X' B' F' FG hDl hc1; lia)); (case k2 => (clear ret im hms hmid N1 hdp hd3 hd1 ih T1 X1 B1 F1 FG1 hoN hoA hoI hvsc hoc hDL q3 q2 q1 N' hl0 kb kp T' X' B' F' FG hDl hc1; lia)); (case k3 => (rw [hLi, Int.toNat_natCast, List.getElem?_toArray, List.append_assoc, List.getElem?_append_right (by (clear ret im hms hmid N1 hRi hLo hdp hd3 hd1 ih T1 X1 B1 F1 FG1 hLi hoN hoA hoI hvsc hoc hDL q3 q2 q1 N' hl0 kb kp T' X' B' F' FG hDl hc1; lia)), hpre, Nat.sub_self]; rfl)); (case k4 => with_unfolding_all rfl))
        w_strict k_steps
        refine hQf _ _ ?_
        w_strict k_steps
        rename Fr h₀ L _ _ => kF
        rename News h₀ L _ _ => kN
        exact ret _ _ _ kF kN
      · obtain ⟨m0, mr, n0, n1, nr', rfl, rfl, im'⟩ := ints_two im hmid hd0
        have hml : mr.length = d := Nat.succ.inj hmid
        have hbr := hval_bd (l := n1 :: nr') (by rw [← im'.2.length]; (clear ret im hms im' N1 T1 X1 B1 F1 FG1 hLo hoN hoA hoI hvsc hoc hdp ih hDL q3 q2 q1 N' hl0 kb kp T' X' B' F' FG hDl hc1; lia)) (fun n hn => hms n (.tail _ hn))
        k_with "compareOp Eq int int" => k_dflt (refine eq_no (show ¬ Li + 1 = Ri by (clear hbr ret im hms im' N1 T1 X1 B1 F1 FG1 hLo hoN hoA hoI hvsc hoc hdp ih hDL q3 q2 q1 N' hl0 kb kp T' X' B' F' FG hDl hc1; lia)) ?_)
        k_with "binaryOp RShift int int" => k_dflt ((refine rsh_v (v := (Lo : Int) + 1) (by decide) ?e ?_; (case e => (show Int.fdiv _ 2 = _; rw [Int.fdiv_eq_ediv_of_nonneg _ (by decide)]; (clear hbr ret im hms im' N1 T1 X1 B1 F1 FG1 hLo hoN hoA hoI hvsc hoc hdp ih hDL q3 q2 q1 N' hl0 kb kp T' X' B' F' FG hDl hc1; lia)))); intro t9 k9)
        k_with "binaryOp Sub int int" => k_dflt ((refine sub_v (v := 1) (by (clear hbr hml ret im hms im' hmid hd0 T1 X1 B1 FG1 hpre hRi hLo hoN hoA hoI hvsc hoc hdp hd3 hd1 ih hDL q3 q2 q1 N' hl0 kb kp T' X' B' F' FG hDl hc1; lia)) ?_); intro t9 k9)
        k_with "call ref" => k_dflt (refine halt ?_)
        w_strict k_steps
        show wpAny _ _ (call (Value.ref f) [Value.int (↑Lo + 1) _, Value.int Ri _]) _ _ _
        (refine' lower (ih d (by (clear hbr hml ret im hms im' hmid hd0 T1 X1 B1 FG1 hpre hRi hLi hLo hoN hoA hoI hvsc hoc hdp hd3 hd1 ih hDL q3 q2 q1 N' hl0 kb kp T' X' B' F' FG hDl hc1; lia)) (dp + 1) hd0 (by (clear hbr ret im hms im' T1 X1 B1 FG1 hLo hoN hoA hoI hvsc hoc hdp ih hDL q3 q2 q1 N' hl0 kb kp T' X' B' F' FG hDl hc1; lia)) (by (clear hbr ret im hms im' hd0 T1 X1 B1 FG1 hLo hoN hoA hoI hvsc hoc hd3 hd1 ih hDL q3 q2 q1 N' hl0 kb kp T' X' B' F' FG hDl hc1; lia)) (Lo := Lo + 1) (pre := pre ++ [m0]) (mid := mr) (post := post) f c' D cI cA cN oc oI oA oN vsc tq qual doc nm ct tn (Lo + 1) Ri _ _ (n1 :: nr') c tl B1 ?F X1 ?N T1 ?hk hoc hvsc hoI hoA hoN (by (clear hbr ret im hms im' hd0 T1 X1 B1 FG1 hoN hoA hoI hvsc hoc hdp hd3 hd1 ih hDL q3 q2 q1 N' hl0 kb kp T' X' B' F' FG hDl hc1; lia)) (by rfl) (by (clear hbr hml ret im hms im' hmid hd0 T1 X1 B1 FG1 hpre hLo hoN hoA hoI hvsc hoc hdp hd3 hd1 ih hDL q3 q2 q1 N' hl0 kb kp T' X' B' F' FG hDl hc1; lia)) (by rw [List.length_append, hpre]; rfl) hml im'.2 (fun n hn => hms n (.tail _ hn)) ?_) ?d ?u ?hh ?hf ?hg; (case hf => exact rfl); (case hk => exact rfl); (case hh => exact rfl); (case hg => exact rfl); (case d => exact Nat.le_refl _); (case u => (show (4 * dp + 100) + _ ≤ 4 * (dp + 1) + 100; (clear hbr hml ret im hms im' hmid hd0 T1 X1 B1 FG1 hpre hRi hLi hLo hoN hoA hoI hvsc hoc hdp hd3 hd1 ih hDL q3 q2 q1 N' hl0 kb kp T' X' B' F' FG hDl hc1; lia))); (case F => k_asm); (case N => (rw [show (pre ++ [m0]) ++ mr ++ post = pre ++ m0 :: mr ++ post by simp]; k_asm)))
        intro h' tk' t1 F' N'
        rw [show (pre ++ [m0]) ++ mr ++ post = pre ++ m0 :: mr ++ post by simp] at N'
        k_with "binaryOp LShift int int" => k_dflt ((refine lsh_v (v := hval (n1 :: nr') * 16) (by decide) (by decide) (by (clear hml ret im hms im' hmid hd0 T1 X1 B1 FG1 hpre hRi hLi hLo hoN hoA hoI hvsc hoc hdp hd3 hd1 ih hDL q3 q2 q1 hl0 kb kp T' X' B' FG hDl hc1; lia)) rfl ?_); intro t9 k9)
        w_strict k_steps
        show wpAny _ _ (call (Value.ref f) [Value.int Li _, Value.int (↑Lo + 1) _]) _ _ _
        (refine' lower (ih 1 (by (clear hbr ret im hms im' T1 X1 B1 FG1 hLo hoN hoA hoI hvsc hoc hdp ih hDL q3 q2 q1 hl0 kb kp T' X' B' FG hDl hc1; lia)) (dp + 1) (Nat.le_refl _) (by decide) (by (clear hbr ret im hms im' T1 X1 B1 FG1 hLo hoN hoA hoI hvsc hoc ih hDL q3 q2 q1 hl0 kb kp T' X' B' FG hDl hc1; lia)) (Lo := Lo) (pre := pre) (mid := [m0]) (post := mr ++ post) f c' D cI cA cN oc oI oA oN vsc tq qual doc nm ct tn Li (Lo + 1) _ _ [n0] c tl B1 ?F X1 ?N T1 ?hk hoc hvsc hoI hoA hoN (by (clear hbr ret im hms im' T1 X1 B1 FG1 hoN hoA hoI hvsc hoc hdp ih hDL q3 q2 q1 hl0 kb kp T' X' B' FG hDl hc1; lia)) hLi (by rfl) hpre rfl im'.1 (fun n hn => hms n (by rw [List.mem_singleton.mp hn]; exact .head _)) ?_) ?d ?u ?hh ?hf ?hg; (case hf => exact rfl); (case hk => exact rfl); (case hh => exact rfl); (case hg => exact rfl); (case d => exact Nat.le_refl _); (case u => (show (4 * dp + 100) + _ ≤ 4 * (dp + 1) + 100; (clear hbr hml ret im hms im' hmid hd0 T1 X1 B1 FG1 hpre hRi hLi hLo hoN hoA hoI hvsc hoc hdp hd3 hd1 ih hDL q3 q2 q1 hl0 kb kp T' X' B' FG hDl hc1; lia))); (case F => k_asm); (case N => (rw [show pre ++ [m0] ++ (mr ++ post) = pre ++ m0 :: mr ++ post by simp]; k_asm)))
        intro h' tk' t2 F' N'
        rw [show pre ++ [m0] ++ (mr ++ post) = pre ++ m0 :: mr ++ post by simp] at N'
        w_strict k_steps
        refine hQf _ _ ?_
        w_strict k_steps
        rename Fr h₀ L _ _ => kF
        rename News h₀ L _ _ => kN
        exact ret _ _ _ kF kN
  · intro hin
    k_with "call ref" => k_dflt (refine halt ?_)
    k_with "call builtin:len" => k_dflt (refine' len_list (led_list (by k_asm) (by k_mem)) ?fit ?_; (case fit => (rw [List.size_toArray, hvs.length]; (clear l3 aD q3 q2 q1 hl0 kp ret hDl N hin hDL hQf kb T' X' B' FG hk T X hns hvs hc1 F B; lia))))
    k_with "truthy ref" => k_dflt (refine' wpAny_truthy_list (led_list (by k_asm) (by k_mem)) ?fit ?_; (case fit => (rw [List.size_toArray, hvs.length]; (clear l3 aD q3 q2 q1 hl0 kp ret hDl N hin hDL hQf kb T' X' B' FG hk T X hns hvs hc1 F B; lia))); (rw [show (!vs.toArray.isEmpty) = true from by (rw [List.isEmpty_toArray]; cases vs with | nil => (have := hvs.length; simp at this; (clear hl0 kp ret N hvs l3 aD q3 q2 q1 hDl hin hDL hQf kb T' X' B' FG hk T X hns hc1 F B; lia)) | cons _ _ => rfl)]))
    rcases hT with rfl | ⟨cc, oc, vsc, tq, rfl, hoc, hvsc, aP⟩
    · have l3 := hl0
      have aD : Apart 44 D := hDl _ (.head _)
      k_lt l3
      w_strict k_steps
      rename_i f' cc oc vsc t' ct dc hA tkA d1 d2 lc lf hB oI FF NN dI
      (refine' lower (hin d 720 hd1 hd3 (by (clear dI NN FF lf lc d2 d1 l3 aD q3 q2 q1 hl0 kp ret hDl N hin hDL hQf kb T' X' B' FG hk T X hd hns hvs hc1 F B; lia)) (Lo := 0) (pre := []) (mid := vs) (post := []) f' cc D (L' + 1 + 1 + 1) (L' + 1) (L' + 1 + 1) oc _ _ _ vsc t' _ _ _ _ u2 0 _ _ _ ns c [(44, tabObj #[rawInt (50 : Nat), rawInt (4 : Nat), .ref cc])] B' FF X' ?N T' ?hk ?d1 ?d2 ?d3 ?d4 ?d5 (by (clear dI NN FF lf lc d2 d1 l3 aD q3 q2 q1 hl0 kp ret hDl N hin hDL hQf kb T' X' B' FG hk T X hd hns hvs hc1 F B; lia)) rfl ?r rfl (by rw [hvs.length]; exact hd) hvs hns ?_) ?d ?u ?hh ?hf ?hg; (case hf => exact rfl); (case hk => exact rfl); (case hh => exact rfl); (case hg => exact rfl); (case d => exact Nat.le_of_ble_eq_true rfl); (case u => exact Nat.le_of_ble_eq_true rfl); (case N => (simp only [List.nil_append, List.append_nil]; exact List.forall_mem_cons.mpr ⟨NN _ (by k_mem), List.forall_mem_cons.mpr ⟨NN _ (by k_mem), List.forall_mem_cons.mpr ⟨NN _ (by k_mem), List.forall_mem_cons.mpr ⟨NN _ (by k_mem), List.forall_mem_cons.mpr ⟨NN _ (by k_mem), List.forall_mem_cons.mpr ⟨NN _ (by k_mem), List.forall_mem_cons.mpr ⟨NN _ (by k_mem), List.forall_mem_nil _⟩⟩⟩⟩⟩⟩⟩)); (case d1 => assumption); (case d2 => assumption); (case d3 => assumption); (case d4 => assumption); (case d5 => assumption); (case r => (rw [List.size_toArray, hvs.length, hd]; simp)))
      intro h' tk' t1 F' N'
      w_strict k_steps
      refine hQf _ _ ?_
      w_strict k_steps
      rename Fr h₀ L _ _ => kF
      rename News h₀ L _ _ => kN
      simp only [List.nil_append, List.append_nil] at kN N'
      have h3 : Apart 44 cc := by show _ ≠ _; (clear N' kN kF F' dI NN FF lf d2 d1 l3 aD q3 q2 q1 hl0 kp ret hDl N hin hDL hQf kb T' X' B' FG hk T X hd3 hd1 hd hns hvs hc1 F B; omega)
      have hN2 : News g L' h' [(cc, oc)] := List.forall_mem_cons.mpr ⟨N' _ (.tail _ (.head _)), List.forall_mem_nil _⟩
      refine ret h' tk' t1 [(44, tabObj #[rawInt (50 : Nat), rawInt (4 : Nat), .ref cc]), (cc, oc)] kF (kept_of N F' N' kp ?_) (List.forall_mem_cons.mpr ⟨kN _ (.tail _ (.tail _ (.head _))), List.forall_mem_cons.mpr ⟨kN _ (.tail _ (.tail _ (.tail _ (.tail _ (.tail _ (.tail _ (.head _))))))), List.forall_mem_cons.mpr ⟨kN _ (.tail _ (.head _)), List.forall_mem_nil _⟩⟩⟩) (.inr ⟨cc, oc, vsc, t', rfl, d1, d2, h3⟩) ?_
      · intro q hq
        rcases List.mem_cons.mp hq with rfl | hq
        · exact .inl (.tail _ (.tail _ (.head _)))
        · exact .inr (List.mem_map_of_mem hq)
      · intro q hq
        rcases List.mem_cons.mp hq with rfl | hq
        · exact .inl (.head _)
        · rw [List.mem_singleton.mp hq]
          refine .inr (fresh_of hN2 kp (.head _) ?_)
          intro q hq
          rcases List.mem_cons.mp hq with rfl | hq
          · k_ne
          · rw [List.mem_singleton.mp hq]; exact h3
    · have l3 := hl0
      have aD : Apart 44 D := hDl _ (.head _)
      k_lt l3
      w_strict k_steps
      rename_i f' ct dc hA tkA lf hB oI FF NN dI
      (refine' lower (hin d 720 hd1 hd3 (by (clear dI NN FF lf l3 aD aP hvsc hoc q3 q2 q1 hl0 kp ret hDl N hin hDL hQf kb T' X' B' FG hk T X hd hns hvs hc1 F B; lia)) (Lo := 0) (pre := []) (mid := vs) (post := []) f' cc D (L' + 1 + 1 + 1) (L' + 1) (L' + 1 + 1) oc _ _ _ vsc tq _ _ _ _ u2 0 _ _ _ ns c [(44, tabObj #[rawInt (50 : Nat), rawInt (4 : Nat), .ref cc])] B' FF X' ?N T' ?hk ?d1 ?d2 ?d3 ?d4 ?d5 (by (clear dI NN FF lf l3 aD aP hvsc hoc q3 q2 q1 hl0 kp ret hDl N hin hDL hQf kb T' X' B' FG hk T X hd hns hvs hc1 F B; lia)) rfl ?r rfl (by rw [hvs.length]; exact hd) hvs hns ?_) ?d ?u ?hh ?hf ?hg; (case hf => exact rfl); (case hk => exact rfl); (case hh => exact rfl); (case hg => exact rfl); (case d => exact Nat.le_of_ble_eq_true rfl); (case u => exact Nat.le_of_ble_eq_true rfl); (case N => (simp only [List.nil_append, List.append_nil]; exact List.forall_mem_cons.mpr ⟨NN _ (by k_mem), List.forall_mem_cons.mpr ⟨NN _ (by k_mem), List.forall_mem_cons.mpr ⟨NN _ (by k_mem), List.forall_mem_cons.mpr ⟨NN _ (by k_mem), List.forall_mem_cons.mpr ⟨NN _ (by k_mem), List.forall_mem_cons.mpr ⟨NN _ (by k_mem), List.forall_mem_cons.mpr ⟨NN _ (by k_mem), List.forall_mem_nil _⟩⟩⟩⟩⟩⟩⟩)); (case d1 => assumption); (case d2 => assumption); (case d3 => assumption); (case d4 => assumption); (case d5 => assumption); (case r => (rw [List.size_toArray, hvs.length, hd]; simp)))
      intro h' tk' t1 F' N'
      w_strict k_steps
      refine hQf _ _ ?_
      w_strict k_steps
      rename Fr h₀ L _ _ => kF
      rename News h₀ L _ _ => kN
      simp only [List.nil_append, List.append_nil] at kN N'
      refine ret h' tk' t1 [(44, tabObj #[rawInt (50 : Nat), rawInt (4 : Nat), .ref cc]), (cc, oc)] kF (kept_of N F' N' kp ?_) (List.forall_mem_cons.mpr ⟨kN _ (.tail _ (.tail _ (.head _))), List.forall_mem_cons.mpr ⟨kN _ (.tail _ (.tail _ (.tail _ (.tail _ (.tail _ (.tail _ (.head _))))))), List.forall_mem_cons.mpr ⟨kN _ (.tail _ (.head _)), List.forall_mem_nil _⟩⟩⟩) (.inr ⟨cc, oc, vsc, tq, rfl, hoc, hvsc, aP⟩) (fun q hq => .inl (List.mem_map_of_mem hq))
      intro q hq
      rcases List.mem_cons.mp hq with rfl | hq
      · exact .inl (.tail _ (.tail _ (.head _)))
      · exact .inr (List.mem_map_of_mem hq)
end
end

section
open PySem PySem.Calls PySem.W PyProof.Rows
set_option Elab.async false
set_option maxRecDepth 100000
set_option maxHeartbeats 3000000
section
variable {prog : Program} {w : World} {A : Around} {E : Value → Shared → Prop} {s : Shared} {env : Env} {h₀ : Heap} {x : Str} {body : List Stmt} {Q : Flow → Shared → Prop} {m₀ : Str → Option Value} {news : List (Addr × Obj)}
/-- for x in reversed(l): l a list of the ledger -/
theorem revLoopV {D I : Addr} {vs : List Value} {c : Nat} (J : Nat → (Str → Option Value) → List (Addr × Obj) → Prop) (hh : A.handled = none)
    (F : Fr h₀ env.locals s.heap m₀) (N : News h₀ env.locals s.heap ((I, revObj D ((vs.length : Int) - 1)) :: (D, W.listOf vs.toArray c) :: news)) (hI : ∀ p ∈ news, p.1 ≠ I) (hD : ∀ p ∈ news, p.1 ≠ D) (hID : I ≠ D) (h0 : J 0 m₀ news)
    (turn : ∀ i v m₁ news₁ h tk oI, vs.reverse[i]? = some v → J i m₁ news₁ → Fr h₀ env.locals h (fun y => if y = x then some v else m₁ y) → News h₀ env.locals h ((I, oI) :: (D, W.listOf vs.toArray c) :: news₁) → (∀ p ∈ news₁, p.1 ≠ I) → (∀ p ∈ news₁, p.1 ≠ D) →
      ∀ QJ : Flow → Shared → Prop, (∀ h' tk' m' news', Fr h₀ env.locals h' m' → News h₀ env.locals h' ((I, oI) :: (D, W.listOf vs.toArray c) :: news') → (∀ p ∈ news', p.1 ≠ I) → (∀ p ∈ news', p.1 ≠ D) → J (i + 1) m' news' → QJ .next { s with heap := h', toks := tk' }) → (∀ v s, Q (.ret v) s → QJ (.ret v) s) → (∀ s, Q .next s → QJ .brk s) → (∀ s, QJ .next s → QJ .cont s) →
      wpAny (model prog w) A (execs body env) QJ E { s with heap := h, toks := tk })
    (done : ∀ m₁ news₁ h tk, J vs.length m₁ news₁ → Fr h₀ env.locals h m₁ → News h₀ env.locals h ((D, W.listOf vs.toArray c) :: news₁) → (∀ p ∈ news₁, p.1 ≠ D) → Q .next { s with heap := h, toks := tk }) :
    wpAny (model prog w) A (pyIter (.ref I)) (fun it s₂ => LoopAtV prog w A h₀ env x body Q E it s₂) E s := by
  have hIx := N _ (.head _)
  have hDx := N _ (.tail _ (.head _))
  have hl : s.heap.IsList D vs.toArray := ⟨_, hDx.1, rfl, _, rfl⟩
  have hit : s.heap.IsRevIter I D ((vs.length : Int) - 1) := ⟨_, hIx.1, rfl, rfl⟩
  refine wpAny_pyIter_revIter hit ?_
  have Wk := Walks.listRev (prog := prog) (w := w) hh I D hID.symm vs.toArray
  have hlen : vs.toArray.size = vs.length := by simp
  rw [hlen] at Wk
  refine ⟨I, _, _, vs.length, _, _, m₀, (D, W.listOf vs.toArray c) :: news, fun i m₁ l => ∀ Z : Prop, (∀ news₁, l = (D, W.listOf vs.toArray c) :: news₁ → (∀ p ∈ news₁, p.1 ≠ D) → J i m₁ news₁ → Z) → Z, rfl, Wk, ?_, ?_, ?_, ⟨Nat.zero_le _, ?_, hl⟩, F, (fun p hp => N p (.tail _ hp)), (fun Zz KZ => KZ news rfl hD h0), ?_, ?_⟩
  · intro hm
    rcases List.mem_cons.mp hm with e | hm
    · exact hIx.2.1 e.symm
    · exact hDx.2.1 (List.mem_singleton.mp hm).symm
  · intro b hb
    rw [List.mem_singleton.mp hb]
    exact hIx.2.2
  · intro p hp he
    have he' := List.mem_singleton.mp he
    rcases List.mem_cons.mp hp with rfl | hp
    · exact hID he'.symm
    · exact hI p hp he'
  · rw [show (vs.length : Int) - 1 - ((0 : Nat) : Int) = (vs.length : Int) - 1 by lia]
    exact hit
  · rintro i v m₁ l₁ s₁ own ⟨hh', tk', rfl⟩ hin hP hI' hoff hown hget hall hst' F₁ N₁
    refine hI' _ ?_
    clear hI'
    rintro news₁ rfl hnd₁ hJ
    obtain ⟨oI, hoI, _⟩ := hst'.2.1
    have hmem := hall I (List.mem_cons_self) hIx.2.2 oI hoI
    have hgd : hh'.get? D = some (W.listOf vs.toArray c) := (N₁ (D, _) (List.mem_append_right _ List.mem_cons_self)).1
    have hsub : ∀ p ∈ own, p = (I, oI) ∨ p = (D, W.listOf vs.toArray c) := by
      intro p hp
      have hpg := hget p hp
      obtain ⟨a, o⟩ := p
      rcases List.mem_cons.mp (hown _ hp) with e | e
      · simp only at e hpg
        subst e
        rw [hoI] at hpg; cases hpg; exact Or.inl rfl
      · have e' := List.mem_singleton.mp e
        simp only at e' hpg
        subst e'
        rw [hgd] at hpg; cases hpg; exact Or.inr rfl
    have hv : vs.reverse[i]? = some v := by
      rw [List.getElem?_reverse hin]
      simpa using hP
    refine turn i v m₁ news₁ hh' tk' oI hv hJ F₁ (fun p hp => ?_) (fun p hp e => hoff p (List.mem_cons_of_mem _ hp) (by rw [e]; exact List.mem_singleton.mpr rfl)) hnd₁ _ (fun h' tk m' news' F' N' hn hn2 hm => ?_) (fun _ _ q => .ret q) (fun _ q => .brk q) (fun _ q => q)
    · rcases List.mem_cons.mp hp with rfl | hp
      · exact N₁ _ (List.mem_append_left _ hmem)
      · exact N₁ _ (List.mem_append_right _ hp)
    · refine .next ⟨rfl, h', tk, m', (D, W.listOf vs.toArray c) :: news', rfl, F', fun p hp => ?_, fun p hp hI => ?_, fun Zz KZ => KZ news' rfl hn2 hm⟩
      · rcases List.mem_append.mp hp with hp | hp
        · rcases hsub p hp with rfl | rfl
          · exact N' _ (List.mem_cons_self)
          · exact N' _ (List.mem_cons_of_mem _ List.mem_cons_self)
        · exact N' _ (List.mem_cons_of_mem _ hp)
      · have hI' := List.mem_singleton.mp hI
        rcases List.mem_cons.mp hp with rfl | hp
        · exact hID hI'.symm
        · exact hn p hp hI'
  · intro h' tk m' l' F' N' _ hI'
    refine hI' _ ?_
    rintro news' rfl hn hJ
    exact done m' news' h' tk hJ F' N' hn
end
/-- the quotients, the highest first, and the rest -/
noncomputable def dvs : List Int → Int → List Int × Int
  | [], r => ([], r)
  | a :: l, r => let q := dvs l ((r * 16 + a) % 8); ((r * 16 + a) / 8 :: q.1, q.2)
theorem dvs_snoc : ∀ (l : List Int) (a r : Int), dvs (l ++ [a]) r = ((dvs l r).1 ++ [((dvs l r).2 * 16 + a) / 8], ((dvs l r).2 * 16 + a) % 8)
  | [], a, r => rfl
  | b :: l, a, r => by
    have := dvs_snoc l a ((r * 16 + b) % 8)
    simp only [List.cons_append, dvs, this]
theorem dvs_bd : ∀ (l : List Int) (r : Int), 0 ≤ r → r < 8 → (∀ a ∈ l, 0 ≤ a ∧ a < 16) → (0 ≤ (dvs l r).2 ∧ (dvs l r).2 < 8) ∧ ∀ q ∈ (dvs l r).1, 0 ≤ q ∧ q < 4096
  | [], r, h0, h1, _ => ⟨⟨h0, h1⟩, fun q hq => nomatch hq⟩
  | b :: l, r, h0, h1, h => by
    have hb := h b (.head _)
    have ih := dvs_bd l ((r * 16 + b) % 8) (by lia) (by omega) (fun a ha => h a (.tail _ ha))
    refine ⟨ih.1, fun q hq => ?_⟩
    rcases List.mem_cons.mp hq with rfl | hq
    · lia
    · exact ih.2 q hq
theorem dvs_len : ∀ (l : List Int) (r : Int), (dvs l r).1.length = l.length
  | [], _ => rfl
  | b :: l, r => by simp only [dvs, List.length_cons, dvs_len l]
noncomputable def valB (l : List Int) (r : Int) : Int := l.foldl (fun z a => z * 16 + a) r
theorem dvs_val : ∀ (l : List Int) (r k : Int), valB l (8 * k + r) = 8 * valB (dvs l r).1 k + (dvs l r).2
  | [], _, _ => rfl
  | a :: l, r, k => by
    have e : (8 * k + r) * 16 + a = 8 * (k * 16 + (r * 16 + a) / 8) + (r * 16 + a) % 8 := by
      have := Int.mul_ediv_add_emod (r * 16 + a) 8
      (clear this; lia)
    show valB l ((8 * k + r) * 16 + a) = 8 * valB (dvs l ((r * 16 + a) % 8)).1 (k * 16 + (r * 16 + a) / 8) + (dvs l ((r * 16 + a) % 8)).2
    rw [e]
    exact dvs_val l _ _
theorem hval_cons (a : Int) (l : List Int) : hval (a :: l) = hval l * 16 + a := by
  cases l with
  | nil => show a = 0 * 16 + a; rw [Int.zero_mul, Int.zero_add]
  | cons b r => rfl
theorem hval_valB (l : List Int) : hval l = valB l.reverse 0 := by
  induction l with
  | nil => rfl
  | cons a l ih => rw [hval_cons, List.reverse_cons, valB, List.foldl_append, ih]; rfl
theorem hval_digs : ∀ (d : Nat) (x : Int), 1 ≤ d → hval (digs d x) = x
  | 1, x, _ => rfl
  | d + 2, x, _ => by
    show hval (x % 16 :: digs (d + 1) (x / 16)) = x
    rw [hval_cons, hval_digs (d + 1) (x / 16) (Nat.le_add_left _ _)]
    exact Int.ediv_mul_add_emod x 16
theorem digs_bd' : ∀ (d : Nat) (x : Int), 1 ≤ d → 0 ≤ x → x < 16 ^ d → ∀ a ∈ digs d x, 0 ≤ a ∧ a < 16
  | 1, x, _, h0, h, a, ha => by
    rw [List.mem_singleton.mp ha]
    exact ⟨h0, by rwa [Int.pow_succ, Int.pow_zero, Int.one_mul] at h⟩
  | d + 2, x, _, h0, h, a, ha => by
    rcases List.mem_cons.mp ha with rfl | ha
    · exact ⟨Int.emod_nonneg _ (by decide), Int.emod_lt_of_pos _ (by decide)⟩
    · exact digs_bd' (d + 1) (x / 16) (Nat.le_add_left _ _) (Int.ediv_nonneg h0 (by decide)) (Int.ediv_lt_of_lt_mul (by decide) (by rw [← Int.pow_succ]; exact h)) a ha
theorem digs_bd {x : Int} (h0 : 0 < x) {d : Nat} (h1 : 1 ≤ d) (_ : d ≤ 3) (h : x < 16 ^ d) : ∀ a ∈ digs d x, 0 ≤ a ∧ a < 16 := digs_bd' d x h1 (Int.le_of_lt h0) h
theorem dvs_x {x : Int} (h0 : 0 < x) {d : Nat} (h1 : 1 ≤ d) (h3 : d ≤ 3) (h : x < 16 ^ d) : hval (dvs (digs d x).reverse 0).1.reverse = x / 8 ∧ (dvs (digs d x).reverse 0).2 = x % 8 := by
  have e := dvs_val (digs d x).reverse 0 0
  rw [Int.mul_zero, Int.add_zero, ← hval_valB, hval_digs d x h1] at e
  have hv : hval (dvs (digs d x).reverse 0).1.reverse = valB (dvs (digs d x).reverse 0).1 0 := by rw [hval_valB, List.reverse_reverse]
  rw [hv]
  obtain ⟨b1, b2⟩ := (dvs_bd (digs d x).reverse 0 (by decide) (by decide) (fun a ha => digs_bd h0 h1 h3 h a (List.mem_reverse.mp ha))).1
  generalize valB (dvs (digs d x).reverse 0).1 0 = q at e ⊢
  generalize (dvs (digs d x).reverse 0).2 = r at e b1 b2 ⊢
  subst e
  constructor <;> lia
theorem digs_len {x : Int} : ∀ {d : Nat}, d ≤ 3 → (digs d x).length = d
  | 0, _ => rfl
  | 1, _ => rfl
  | 2, _ => rfl
  | 3, _ => rfl
/-- how many figures to the base 16 -/
theorem dgs {x : Int} (h0 : 0 < x) (h1 : x < 4096) : ∃ d : Nat, 1 ≤ d ∧ d ≤ 3 ∧ x < 16 ^ d ∧ (↑(Builtin.Int.intBits x) + 4 - 1 : Int).fdiv 4 = d := by
  have key : ∀ {m n : Nat}, x.natAbs < 2 ^ m → ¬ x.natAbs < 2 ^ n → n < Builtin.Int.intBits x ∧ Builtin.Int.intBits x ≤ m := fun {m n} a b =>
    ⟨by rcases Nat.lt_or_ge n (Builtin.Int.intBits x) with h | h; exact h; exact absurd (intBits_le_iff.mp h) b, intBits_le_iff.mpr a⟩
  by_cases a1 : x < 16
  · have := key (m := 4) (n := 0) (by omega) (by lia)
    exact ⟨1, by decide, by decide, by assumption, by rw [Int.fdiv_eq_ediv_of_nonneg _ (by decide)]; lia⟩
  · by_cases a2 : x < 256
    · have := key (m := 8) (n := 4) (by omega) (by lia)
      exact ⟨2, by decide, by decide, by assumption, by rw [Int.fdiv_eq_ediv_of_nonneg _ (by decide)]; lia⟩
    · have := key (m := 12) (n := 8) (by omega) (by lia)
      exact ⟨3, by decide, by decide, by assumption, by rw [Int.fdiv_eq_ediv_of_nonneg _ (by decide)]; lia⟩
end

section
open PySem PySem.Calls PySem.W PyProof.Rows
set_option Elab.async false
set_option maxRecDepth 100000
set_option maxHeartbeats 3000000
set_option pp.deepTerms false
set_option pp.maxSteps 20000
section
variable {w : World} {mean : ExcName → Option Value} {mg mb : Str → Option Value} {p : Program} {loose : List Str} {cn : Str} {cs : Scope} {a : Addr} {ccd : Value} {cl : List (Str × Addr)} {outer : List Env} {A₀ : Around} {base h₀ : Heap} {L : Addr} {m : Str → Option Value} {s : Shared}
    {Q E : Value → Shared → Prop}

theorem le_yes {prog : Program} {w : World} {A : Around} {E : Value → Shared → Prop} {s : Shared} {a b : Int} {t u : Tok} {Q : Value → Shared → Prop} (e : a ≤ b) (h : Q (.bool true) s) : wpAny (model prog w) A (compareOp .LtE (.int a t) (.int b u)) Q E s := PySem.P.le_int (by rw [decide_eq_true e]; exact h)
theorem dv_con {y : Int} {u1 u2 u3 : Tok}
    (B : Below A₀ base outer h₀) (F : Fr h₀ L s.heap m) (X : (topo.heap_39 w.params).In h₀) (N : News h₀ L s.heap []) (T : Top p loose mean mg mb h₀) (hk : cs.kind = .function)
    (hx0 : 0 ≤ y) (hx1 : y < 4096)
    (ret : ∀ h' tk' D t1 t2, Fr h₀ L h' m → Kept [] s.heap h' → Fresh s.heap [D] → News h₀ L h' [(D, tupO [.int (y / 8) t1, .int (y % 8) t2])] → Q (.ref D) { s with heap := h', toks := tk' }) :
    wpAny (model PySem.Challenge.rw_nq0271_01.row.prog w) (AT 750 cn cs L a ccd cl outer) (call (.ref 28) [.int y u1, .int 8 u2, .int 4 u3]) Q E s := by
  revert X T hk
  k_fill
  w_on
  intro X T hk
  k_with_none
  refine wpAny_call ?_
  have hb : Builtin.Int.intBits y ≤ 12 := intBits_le_iff.mpr (by lia)
  k_with "compareOp LtE int int" => k_dflt (refine le_yes (by lia) ?_)
  k_dflt (refine' enterF ?k1 ?k2 ?k3 ?k4 ?k5 ?kA ?kF ?kK ?k6 ?k7 ?k8 ?k9 ?kB ?_ ?c2 ?c3 ?c4 ?c5; (case kA => exact rfl); (case kF => exact rfl); (case kK => assumption); (case k1 => k_asm); (case k2 => k_asm); (case k3 => k_asm); (case k4 => k_asm); (case k5 => k_asm); (case k6 => k_is); (case k7 => k_is); (case k8 => k_room); (case k9 => exact BindsTo.of_eq rfl); (case c5 => decide); (case kB => exact locs rfl); (case c2 => exact rfl); (case c3 => exact rfl); (case c4 => exact rfl); k_whole)
  intro g L' h₁ FG F' N' B' X' T' kp kb l1
  refine wp_open fun Qf hQf => ?_
  w_strict k_steps
  refine hQf _ _ ?_
  w_strict k_steps
  rename Fr g _ _ _ => FF
  rename News g _ _ _ => NN
  rename Fr h₀ L _ _ => kF
  rename News h₀ L _ _ => kN
  rw [Int.fdiv_eq_ediv_of_nonneg _ (by decide), Int.fmod_eq_emod_of_nonneg _ (by decide)] at kN NN
  exact ret _ _ _ _ _ kF (kept_of N FF NN kp (fun q hq => nomatch hq)) (List.forall_mem_cons.mpr ⟨fresh_of NN kp (.head _) (fun q hq => nomatch hq), List.forall_mem_nil _⟩) kN
theorem newTupL {prog : Program} {w : World} {A : Around} {E : Value → Shared → Prop} {s : Shared} {h₀ : Heap} {L : Addr} {m : Str → Option Value} {news : List (Addr × Obj)} {vs : List Value} {Q : Value → Shared → Prop} (F : Fr h₀ L s.heap m) (N : News h₀ L s.heap news) (hz : vs.length ≤ sizeLine)
    (h : ∀ D h', Fr h₀ L h' m → News h₀ L h' ((D, tupO vs) :: news) → (∀ p ∈ news, p.1 < D) → L < D → Q (.ref D) { s with heap := h' }) : wpAny (model prog w) A (newTuple vs) Q E s :=
  wpAny_newTuple (h _ _ (F.push _) (News.push F N _ rfl) (fun p hp => Heap.lt_size (N p hp).1) F.ns.lt) hz
theorem dp_con {x : Int} {u1 u2 : Tok} {ld4 ld7 : List (Addr × Obj)}
    (B : Below A₀ base outer h₀) (F : Fr h₀ L s.heap m) (X : (topo.heap_39 w.params).In h₀) (N : News h₀ L s.heap (ld4 ++ ld7)) (T : Top p loose mean mg mb h₀) (hk : cs.kind = .function) (hc4 : CodeHd base 48 44) (hc7 : CodeHd base 41 37)
    (hT4 : TbS q4 50 4 44 ld4) (hT7 : TbS q7 35 4 37 ld7) (hdis : ∀ q ∈ ld4, ∀ r ∈ ld7, q.1 ≠ r.1) (hx0 : 0 < x) (hx1 : x < 4096)
    (ret : ∀ h' tk' D t1 t2 ld4' ld7', Fr h₀ L h' m → Kept ((ld4 ++ ld7).map (·.1)) s.heap h' → Fresh s.heap [D] → News h₀ L h' ((D, tupO [.int (x / 8) t1, .int (x % 8) t2]) :: (ld4' ++ ld7')) → TbS q4 50 4 44 ld4' → TbS q7 35 4 37 ld7' → (∀ q ∈ ld4', ∀ r ∈ ld7', q.1 ≠ r.1) →
      (∀ q ∈ ld4' ++ ld7', q.1 ∈ (ld4 ++ ld7).map (·.1) ∨ s.heap.get? q.1 = none) → (∀ q ∈ ld4' ++ ld7', q.1 ≠ D) → Q (.ref D) { s with heap := h', toks := tk' }) :
    wpAny (model PySem.Challenge.rw_nq0271_01.row.prog w) (AT 690 cn cs L a ccd cl outer) (call (.ref 56) [.int x u1, .int 8 u2]) Q E s := by
  revert X T hk
  k_fill
  w_on
  intro X T hk
  k_with_none
  refine wpAny_call ?_
  obtain ⟨d, hd1, hd3, hxd, hd⟩ := dgs hx0 hx1
  k_with "call ref" => k_dflt (refine halt ?_)
  k_with "call builtin:int.bit_length" => k_dflt ((refine call_int_bit_length ?_); (rw [show ((Builtin.Int.intBits 8 : Nat) : Int) = 4 from by decide]))
  k_dflt (refine' enterF (binds := [(Str.ofString "a", Value.int x u1), (Str.ofString "b", Value.int 8 u2)]) ?k1 ?k2 ?k3 ?k4 ?k5 ?kA ?kF ?kK ?k6 ?k7 ?k8 ?k9 ?kB ?_ ?c2 ?c3 ?c4 ?c5; (case kA => exact rfl); (case kF => exact rfl); (case kK => assumption); (case k1 => k_asm); (case k2 => k_asm); (case k3 => k_asm); (case k4 => k_asm); (case k5 => k_asm); (case k6 => k_is); (case k7 => k_is); (case k8 => k_room); (case k9 => exact BindsTo.of_eq rfl); (case c5 => decide); (case kB => exact locs rfl); (case c2 => exact rfl); (case c3 => exact rfl); (case c4 => exact rfl); k_whole)
  intro g L' h₁ FG F' N' B' X' T' kp kb hl0
  refine wp_open fun Qf hQf => ?_
  w_strict k_steps
  rename News g L' _ _ => NN
  rename Fr g L' _ _ => FF
  (refine' lower (i2_con (ld := ld7) (d := d) B' FF X' (fun q hq => NN q (List.mem_append_right _ hq)) T' ?hk hc7 hT7 hx0 hx1 hd hd1 hd3 ?_) ?d ?u ?hh ?hf ?hg; (case hf => exact rfl); (case hk => exact rfl); (case hh => exact rfl); (case hg => exact rfl); (case d => exact Nat.le_of_ble_eq_true rfl); (case u => exact Nat.le_of_ble_eq_true rfl))
  intro h2 tk2 D1 vs cc ld7' F2 K2 fr2 N2 i2 hT7' hn7 hD7
  have NB : News g L' h2 ((D1, W.listOf vs.toArray cc) :: (ld4 ++ ld7')) := by
    intro q hq
    rcases List.mem_cons.mp hq with rfl | hq
    · exact N2 _ (.head _)
    rcases List.mem_append.mp hq with hq | hq
    · refine ⟨K2 _ _ (NN q (List.mem_append_left _ hq)).1 ?_, (NN q (List.mem_append_left _ hq)).2⟩
      intro hm
      obtain ⟨r, hr, e⟩ := List.mem_map.mp hm
      exact hdis q hq r hr e.symm
    · exact N2 q (.tail _ hq)
  have hD1 : ∀ q ∈ ld4 ++ ld7', q.1 ≠ D1 := by
    intro q hq
    rcases List.mem_append.mp hq with hq | hq
    · intro e
      have := fr2 D1 (.head _)
      rw [← e, (NN q (List.mem_append_left _ hq)).1] at this; cases this
    · exact hD7 q hq
  have hdis' : ∀ q ∈ ld4, ∀ r ∈ ld7', q.1 ≠ r.1 := by
    intro q hq r hr e
    rcases hn7 r hr with h | h
    · obtain ⟨r', hr', e'⟩ := List.mem_map.mp h
      exact hdis q hq r' hr' (e.trans e'.symm)
    · rw [← e, (NN q (List.mem_append_left _ hq)).1] at h; cases h
  have F0 := FF.keep
  clear N2 NN FF
  generalize htl : ld4 ++ ld7' = tl at NB hD1
  have hvl : vs.length = d := by rw [i2.length, digs_len hd3]
  k_with "call type:reversed" => k_dflt ((refine' krv_reversed ?F ?N (led_list ?N2 (by k_mem)) ?_; (case F => k_asm); (case N => k_asm); (case N2 => k_asm)); intro D' h' F' N' l1)
  w_strict k_steps
  rename_i _ QD _ lq _ I h9 F9 N9 lI
  have hIl : ∀ q ∈ tl, q.1 ≠ I := fun q hq => Nat.ne_of_lt (allLt_mem lI.2.2 q hq)
  have hQl : ∀ q ∈ tl, q.1 ≠ QD := fun q hq => Nat.ne_of_lt (allLt_mem lq.2 q hq)
  have aQ : Apart QD I := Nat.ne_of_lt lI.1
  have aD : Apart D1 I := Nat.ne_of_lt lI.2.1
  have aDQ : Apart D1 QD := Nat.ne_of_lt lq.1
  have hbd := digs_bd hx0 hd1 hd3 hxd
  have hbr : ∀ k, ∀ a ∈ (digs d x).reverse.take k, 0 ≤ a ∧ a < 16 := fun k a ha => hbd a (List.mem_reverse.mp (List.mem_of_mem_take ha))
  have N9' : News g L' _ ((I, revObj D1 ((vs.length : Int) - 1)) :: (D1, W.listOf vs.toArray cc) :: ((QD, W.listOf #[] 0) :: tl)) := List.forall_mem_cons.mpr ⟨N9 _ (.head _), List.forall_mem_cons.mpr ⟨N9 _ (.tail _ (.tail _ (.head _))), List.forall_mem_cons.mpr ⟨N9 _ (.tail _ (.head _)), fun q hq => N9 q (.tail _ (.tail _ (.tail _ hq)))⟩⟩⟩
  refine revLoopV (vs := vs) (fun i m₁ news₁ => ∀ Z : Prop, (∀ qs c' tr tn tb, m₁ (Str.ofString "q_digits") = some (Value.ref QD) → m₁ (Str.ofString "r") = some (Value.int (dvs ((digs d x).reverse.take i) 0).2 tr) → m₁ (Str.ofString "n") = some (Value.int 4 tn) → m₁ (Str.ofString "b") = some (Value.int 8 tb) → news₁ = (QD, W.listOf qs.toArray c') :: tl → IntsAre qs (dvs ((digs d x).reverse.take i) 0).1 → Z) → Z) rfl F9 N9' ?o1 ?o2 aD.ne' (fun Zz KZ => KZ [] 0 _ _ _ rfl rfl rfl rfl rfl .nil) ?_ ?_
  case o1 => exact List.forall_mem_cons.mpr ⟨aQ.ne, hIl⟩
  case o2 => exact List.forall_mem_cons.mpr ⟨aDQ.ne', hD1⟩
  · intro i v m₁ news₁ h tk oI hvi hI F1 N1 o1 o2 QJ hQJ _ _ _
    refine hI _ ?_
    clear hI
    rintro qs c' tr tn tb hm1 hm2 hm3 hm4 rfl hqs
    obtain ⟨dg, td, hdg, rfl⟩ := ints_get (IntsAre.reverse i2) hvi
    have htk : (digs d x).reverse.take (i + 1) = (digs d x).reverse.take i ++ [dg] := by rw [List.take_add_one, hdg]; rfl
    have hr := dvs_bd ((digs d x).reverse.take i) 0 (by decide) (by decide) (hbr i)
    have hdb := hbr (i + 1) dg (by rw [htk]; simp)
    generalize hrr : (dvs ((digs d x).reverse.take i) 0).2 = r at hr hm2
    rw [mkeep2 hm1 hm2, mkeep2 hm3 hm4] at F1
    refine wp_halt ?_
    k_with "binaryOp LShift int int" => k_dflt ((refine lsh_v (v := r * 16) (by decide) (by decide) (by lia) rfl ?_); intro t9 k9)
    w_strict k_steps
    rename News g L' _ _ => NN
    rename Fr g L' _ _ => FF
    (refine' lower (dv_con (y := r * 16 + dg) B' FF X' News.nil T' ?hk (by lia) (by lia) ?_) ?d ?u ?hh ?hf ?hg; (case hf => exact rfl); (case hk => exact rfl); (case hh => exact rfl); (case hg => exact rfl); (case d => exact Nat.le_of_ble_eq_true rfl); (case u => exact Nat.le_of_ble_eq_true rfl))
    intro h3 tk3 D3 t1 t2 F3 K3 fr3 N3
    have NC : News g L' h3 ((D3, tupO [.int ((r * 16 + dg) / 8) t1, .int ((r * 16 + dg) % 8) t2]) :: (I, oI) :: (D1, W.listOf vs.toArray cc) :: (QD, W.listOf qs.toArray c') :: tl) := by
      refine List.forall_mem_cons.mpr ⟨N3 _ (.head _), fun q hq => ?_⟩
      exact ⟨K3 _ _ (NN q hq).1 List.not_mem_nil, (NN q hq).2⟩
    have hD3 : ∀ q ∈ (I, oI) :: (D1, W.listOf vs.toArray cc) :: (QD, W.listOf qs.toArray c') :: tl, q.1 ≠ D3 := fun q hq => (ne_all NN (fr3 D3 (.head _)) q hq).ne
    have b1 : Apart D3 QD := fun e => hD3 (QD, W.listOf qs.toArray c') (by simp) e.symm
    have b2 : Apart QD I := o1 (QD, W.listOf qs.toArray c') (.head _)
    have hql : qs.length ≤ 900 := by rw [hqs.length, dvs_len, List.length_take, List.length_reverse, digs_len hd3]; lia
    clear NN FF N3
    k_with "call builtin:list.append" => k_dflt ((refine' append_K ?k1 ?k2 ?k3 ?_ ?z; (case k1 => k_asm); (case k2 => k_asm); (case k3 => k_upd); (case z => (simp only [List.size_toArray, PySem.sizeLine_eq]; lia)); k_whole); intro h' F' N')
    w_strict k_steps
    rw [List.push_toArray] at N'
    refine hQJ _ _ _ ((QD, W.listOf (qs ++ [Value.int ((r * 16 + dg) / 8) t1]).toArray (c' + 1)) :: tl) F' (fun q hq => N' q (.tail _ hq)) (List.forall_mem_cons.mpr ⟨b2.ne, hIl⟩) (List.forall_mem_cons.mpr ⟨aDQ.ne', hD1⟩) (fun Zz KZ => KZ _ (c' + 1) t2 tn tb rfl ?_ rfl rfl rfl ?_)
    · rw [htk, dvs_snoc, hrr]; rfl
    · rw [htk, dvs_snoc, hrr]
      exact ints_snoc hqs _ _
  · intro m₁ news₁ h tk hI F1 N1 o1
    refine hI _ ?_
    clear hI
    rintro qs c' tr tn tb hm1 hm2 hm3 hm4 rfl hqs
    rw [hvl, List.take_of_length_le (by rw [List.length_reverse, digs_len hd3]; exact Nat.le_refl _)] at hm2 hqs
    obtain ⟨hv1, hv2⟩ := dvs_x hx0 hd1 hd3 hxd
    have hbq := (dvs_bd (digs d x).reverse 0 (by decide) (by decide) (fun a ha => hbd a (List.mem_reverse.mp ha))).2
    have hlq := dvs_len (digs d x).reverse 0
    rw [hv2] at hm2
    rw [mkeep2 hm1 hm2, mkeep2 hm3 hm4] at F1
    have hql : qs.length = d := by rw [hqs.length, hlq, List.length_reverse, digs_len hd3]
    have aDQ' : Apart QD D1 := o1 (QD, W.listOf qs.toArray c') (.head _)
    clear N9 N9' F9
    k_with "call builtin:list.reverse" => k_dflt ((refine' kl_reverse (l := qs.reverse) ?F ?N ?e ?U ?z ?_; (case F => k_asm); (case N => k_asm); (case U => k_upd); (case e => exact rfl); (case z => (show qs.length ≤ _; rw [PySem.sizeLine_eq]; lia))); intro h' F' N')
    w_strict k_steps
    rename News g _ _ _ => NN
    rename Fr g _ _ _ => FF
    subst htl
    have hN4 : News g L' _ ((QD, W.listOf qs.reverse.toArray c') :: ld4) := List.forall_mem_cons.mpr ⟨NN _ (.tail _ (.head _)), fun q hq => NN q (.tail _ (.tail _ (List.mem_append_left _ hq)))⟩
    (refine' lower (d2_con (ld := ld4) (d := d) (ns := (dvs (digs d x).reverse 0).1.reverse) B' FF X' hN4 T' ?hk hc4 hT4 (fun q hq => hQl q (List.mem_append_left _ hq)) (IntsAre.reverse hqs) (fun n hn => hbq n (List.mem_reverse.mp hn)) (by rw [List.length_reverse, hlq, List.length_reverse, digs_len hd3]) hd1 hd3 ?_) ?d ?u ?hh ?hf ?hg; (case hf => exact rfl); (case hk => exact rfl); (case hh => exact rfl); (case hg => exact rfl); (case d => exact Nat.le_of_ble_eq_true rfl); (case u => exact Nat.le_of_ble_eq_true rfl))
    intro h4 tk4 t4 ld4' F4 K4 N4 hT4' hn4
    rw [hv1]
    have NE : News g L' h4 (ld4' ++ ld7') := by
      intro q hq
      rcases List.mem_append.mp hq with hq | hq
      · exact N4 q (.tail _ hq)
      · have z := NN q (.tail _ (.tail _ (List.mem_append_right _ hq)))
        refine ⟨K4 _ _ z.1 ?_, z.2⟩
        intro hm
        obtain ⟨r, hr, e⟩ := List.mem_map.mp hm
        exact hdis' r hr q hq e
    clear N4 hN4
    k_with "newTuple" => k_dflt ((refine' newTupL ?F ?N ?z ?_; (case F => k_asm); (case N => k_asm); (case z => (show 2 ≤ _; rw [PySem.sizeLine_eq]; decide))); intro D9 h' F' N' l9 lL9)
    w_strict k_steps
    refine hQf _ _ ?_
    w_strict k_steps
    rename Fr h₀ L _ _ => kF
    rename News h₀ L _ _ => kN
    have hn : ∀ q ∈ ld4 ++ ld7, q.1 ≠ D9 := fun q hq => Nat.ne_of_lt (Nat.lt_trans (hl0 q hq) lL9)
    refine ret _ _ D9 t4 tr ld4' ld7' kF (kept_of N F' N' kp (fun q hq => .inr (List.mem_map_of_mem hq))) (List.forall_mem_cons.mpr ⟨fresh_of N' kp (.head _) hn, List.forall_mem_nil _⟩) kN hT4' hT7' ?_ ?_ (fun q hq => Nat.ne_of_lt (l9 q hq))
    · intro q hq r hr e
      rcases hn4 q hq with h | h
      · obtain ⟨q', hq', e'⟩ := List.mem_map.mp h
        exact hdis' q' hq' r hr (e'.trans e)
      · rw [e, (NN r (.tail _ (.tail _ (List.mem_append_right _ hr)))).1] at h; cases h
    · intro q hq
      by_cases hm : q.1 ∈ (ld4 ++ ld7).map (·.1)
      · exact .inl hm
      · refine .inr ?_
        cases e : s.heap.get? q.1 with
        | none => rfl
        | some o =>
          exfalso
          have eg := kp _ _ e hm
          rcases List.mem_append.mp hq with hq | hq
          · rcases hn4 q hq with h | h
            · exact hm (by rw [List.map_append]; exact List.mem_append_left _ h)
            · rw [FF.keep _ _ eg] at h; cases h
          · rcases hn7 q hq with h | h
            · exact hm (by rw [List.map_append]; exact List.mem_append_right _ h)
            · rw [F0 _ _ eg] at h; cases h
end
end

section
open PySem PySem.Calls PySem.W PyProof.Rows
set_option Elab.async false
set_option maxRecDepth 100000
set_option maxHeartbeats 3000000
set_option pp.deepTerms false
set_option pp.maxSteps 20000
section
variable {w : World} {mean : ExcName → Option Value} {mg mb : Str → Option Value} {p : Program} {loose : List Str} {cn : Str} {cs : Scope} {a : Addr} {ccd : Value} {cl : List (Str × Addr)} {outer : List Env} {A₀ : Around} {base h₀ : Heap} {L : Addr} {m : Str → Option Value} {s : Shared}
    {Q E : Value → Shared → Prop}

theorem lt_no {prog : Program} {w : World} {A : Around} {E : Value → Shared → Prop} {s : Shared} {a b : Int} {t u : Tok} {Q : Value → Shared → Prop} (e : ¬ a < b) (h : Q (.bool false) s) : wpAny (model prog w) A (compareOp .Lt (.int a t) (.int b u)) Q E s := PySem.P.lt_int (by rw [decide_eq_false e]; exact h)
theorem dm_con {x : Int} {u1 u2 : Tok} {ld4 ld7 : List (Addr × Obj)}
    (B : Below A₀ base outer h₀) (F : Fr h₀ L s.heap m) (X : (topo.heap_39 w.params).In h₀) (N : News h₀ L s.heap (ld4 ++ ld7)) (T : Top p loose mean mg mb h₀) (hk : cs.kind = .function) (hc4 : CodeHd base 48 44) (hc7 : CodeHd base 41 37)
    (hT4 : TbS q4 50 4 44 ld4) (hT7 : TbS q7 35 4 37 ld7) (hdis : ∀ q ∈ ld4, ∀ r ∈ ld7, q.1 ≠ r.1) (hx0 : 0 < x) (hx1 : x < 4096)
    (ret : ∀ h' tk' D t1 t2 ld4' ld7', Fr h₀ L h' m → Kept ((ld4 ++ ld7).map (·.1)) s.heap h' → Fresh s.heap [D] → News h₀ L h' ((D, tupO [.int (x / 8) t1, .int (x % 8) t2]) :: (ld4' ++ ld7')) → TbS q4 50 4 44 ld4' → TbS q7 35 4 37 ld7' → (∀ q ∈ ld4', ∀ r ∈ ld7', q.1 ≠ r.1) →
      (∀ q ∈ ld4' ++ ld7', q.1 ∈ (ld4 ++ ld7).map (·.1) ∨ s.heap.get? q.1 = none) → (∀ q ∈ ld4' ++ ld7', q.1 ≠ D) → Q (.ref D) { s with heap := h', toks := tk' }) :
    wpAny (model PySem.Challenge.rw_nq0271_01.row.prog w) (AT 680 cn cs L a ccd cl outer) (call (.ref 63) [.int x u1, .int 8 u2]) Q E s := by
  revert X T hk
  k_fill
  w_on
  intro X T hk
  k_with_none
  refine wpAny_call ?_
  k_with "call ref" => k_dflt (refine halt ?_)
  k_with "compareOp Lt int int" => k_dflt (first | (refine lt_no (show ¬ (8 : Int) < 0 by decide) ?_) | (refine lt_no (show ¬ x < 0 by omega) ?_))
  k_dflt (refine' enterF (binds := [(Str.ofString "a", Value.int x u1), (Str.ofString "b", Value.int 8 u2)]) ?k1 ?k2 ?k3 ?k4 ?k5 ?kA ?kF ?kK ?k6 ?k7 ?k8 ?k9 ?kB ?_ ?c2 ?c3 ?c4 ?c5; (case kA => exact rfl); (case kF => exact rfl); (case kK => assumption); (case k1 => k_asm); (case k2 => k_asm); (case k3 => k_asm); (case k4 => k_asm); (case k5 => k_asm); (case k6 => k_is); (case k7 => k_is); (case k8 => k_room); (case k9 => exact BindsTo.of_eq rfl); (case c5 => decide); (case kB => exact locs rfl); (case c2 => exact rfl); (case c3 => exact rfl); (case c4 => exact rfl); k_whole)
  intro g L' h₁ FG F' N' B' X' T' kp kb hl0
  w_strict k_steps
  rename News g L' _ _ => NN
  rename Fr g L' _ _ => FF
  (refine' lower (dp_con (ld4 := ld4) (ld7 := ld7) B' FF X' NN T' ?hk hc4 hc7 hT4 hT7 hdis hx0 hx1 ?_) ?d ?u ?hh ?hf ?hg; (case hf => exact rfl); (case hk => exact rfl); (case hh => exact rfl); (case hg => exact rfl); (case d => exact Nat.le_of_ble_eq_true rfl); (case u => exact Nat.le_of_ble_eq_true rfl))
  intro h' tk' D t1 t2 ld4' ld7' F' K1 fr1 N' hT4' hT7' hd1 hn1 hD1
  w_strict k_steps
  rename Fr h₀ L _ _ => kF
  rename News h₀ L _ _ => kN
  have hl : ∀ q ∈ ld4 ++ ld7, q.1 ≠ D := fun q hq e => by
    have := fr1 D (.head _)
    rw [← e, (NN q hq).1] at this; cases this
  refine ret _ _ D t1 t2 ld4' ld7' kF (kept_of N F' N' kp (fun q hq => .inr (List.mem_map_of_mem hq))) (List.forall_mem_cons.mpr ⟨fresh_of N' kp (.head _) hl, List.forall_mem_nil _⟩) kN hT4' hT7' hd1 ?_ hD1
  intro q hq
  by_cases hm : q.1 ∈ (ld4 ++ ld7).map (·.1)
  · exact .inl hm
  · refine .inr ?_
    cases e : s.heap.get? q.1 with
    | none => rfl
    | some o =>
      rcases hn1 q hq with h | h
      · exact absurd h hm
      · rw [FF.keep _ _ (kp _ _ e hm)] at h; cases h
end
end

section
open PySem PySem.Calls PySem.W PyProof.Rows
set_option Elab.async false
set_option maxRecDepth 100000
set_option maxHeartbeats 3000000
section
variable {prog : Program} {w : World} {A A₀ : Around} {s : Shared} {K : Frag} {L : Addr} {h₀ base : Heap} {m mg mb : Str → Option Value} {news : List (Addr × Obj)} {p : Program} {loose : List Str} {mean : ExcName → Option Value}
/-- as enterF, the end told by the caller's own post: the callee may turn the frames' slots -/
theorem enterD {env : Env} {outer : List Env} {R : Result → Shared → Prop} {name qual : Str} {params : Arguments} {body : List Stmt} {scope : Scope} {dV kV doc pm cdv ct oc : Value} {an od : Option Addr} {osl : Array (Option Value)} {f : Addr} {args : Args} {binds : List (Str × Value)}
    (B : Below A₀ base outer h₀) (F : Fr h₀ L s.heap m) (X₀ : K.In h₀) (N : News h₀ L s.heap news) (T : Top p loose mean mg mb h₀) (hA : A.frames = some (env :: outer)) (hf : env.frame = some L) (hke : env.scope.kind = .function)
    (ho : K.lookup f = some ⟨oc, od, .func (fnOf name qual params body scope dV kV doc pm an cdv ct), osl⟩) (hcd : codeIn K cdv qual = true) (hroom : A.depth < recursionLimit)
    (hbind : BindsTo s (fnOf name qual params body scope dV kV doc pm an cdv ct) args binds) (hloc : ∀ y ∈ binds, scope.names.lookup y.1 = some .local)
    (h : ∀ g L' h₁, Fr h₀ L g m → Fr g L' h₁ (fun y => binds.reverse.lookup y) → News g L' h₁ news → Below A base (env :: outer) g → K.In g → Top p loose mean mg mb g →
      (∀ b o, s.heap.get? b = some o → b ∉ news.map (·.1) → g.get? b = some o) → (∀ b o, g.get? b = some o → s.heap.get? b = some o) → (∀ p ∈ news, p.1 < L') →
      wpAny (model prog w) (A.deeper (envOf qual scope L' f cdv)) (execs body (envOf qual scope L' f cdv))
        (fun fl s' => R (.ok (.ret (match fl with | .ret v => v | _ => .none))) s')
        (fun e s' => wpAny (model prog w) (A.deeper (envOf qual scope L' f cdv)) (leaving (envOf qual scope L' f cdv) e) (fun _ s'' => R (.error e) s'') (fun e' s'' => R (.error e') s'') s')
        { s with heap := h₁, toks := s.toks + binds.length })
    (hco : scope.isCoroutine = false) (hgen : scope.isGenerator = false) (hk : scope.kind = .function)
    (hcell : ∀ x ∈ scope.names, x.2 ≠ .cell) : codeAny (model prog w) A (.call (.ref f) args) R s := by
  obtain ⟨FG, BG, st, _⟩ := groundX (R := R) B F N hA hf hke
  refine codeAny_call_def (fd := fnOf name qual params body scope dV kV doc pm an cdv ct) (body := body) (binds := binds) hroom ((X₀.keeps F.keep) _ _ ho) rfl (T.nolimit.keeps F.keep) (codeRec_of (X₀.keeps F.keep) hcd) rfl hbind hcell hloc (fun h₁ hns hk₁ => ?_) hco hgen hk
  exact h _ s.heap.objs.size h₁ FG ⟨hns, fun b o e => hk₁ b o (of_hideAll _ e), Nat.le_of_eq (hideAll_size _ _)⟩
    (fun p hp => ⟨hk₁ _ _ (N p hp).1, Nat.ne_of_lt (Heap.lt_size (N p hp).1), hideAll_none _ (List.mem_map_of_mem hp)⟩) BG (X₀.keeps st) (T.keeps st) (fun b o e hn => hideAll_get _ e hn) (fun b o e => of_hideAll _ e) (fun p hp => Heap.lt_size (N p hp).1)
/-- as enterC, the end told by the caller's own post -/
theorem enterCD {env : Env} {outer : List Env} {R : Result → Shared → Prop} {name qual : Str} {params : Arguments} {body : List Stmt} {scope : Scope} {dV kV doc pm cdv ct oc : Value} {an od : Option Addr} {osl : Array (Option Value)} {f : Addr} {args : Args} {binds : List (Str × Value)}
    (B : Below A₀ base outer h₀) (F : Fr h₀ L s.heap m) (X₀ : K.In h₀) (N : News h₀ L s.heap news) (T : Top p loose mean mg mb h₀) (hA : A.frames = some (env :: outer)) (hf : env.frame = some L) (hke : env.scope.kind = .function)
    (ho : K.lookup f = some ⟨oc, od, .func (fnOf name qual params body scope dV kV doc pm an cdv ct), osl⟩) (hcd : codeIn K cdv qual = true) (hroom : A.depth < recursionLimit)
    (hbind : BindsTo s (fnOf name qual params body scope dV kV doc pm an cdv ct) args binds) (hkind : (binds.all fun y => scope.names.lookup y.1 == some .local || scope.names.lookup y.1 == some .cell) = true)
    (hnd : ((cellsFrom 0 scope.names []).map (·.1)).Nodup)
    (h : ∀ g L' h₁ tk cells, Fr h₀ L g m → Fr g L' h₁ (bindL (envOfC qual scope L' f cdv).kindOf binds fun _ => none) → News g L' h₁ (cells ++ news) →
      CellsAre (bindC (envOfC qual scope L' f cdv).kindOf binds fun _ => none) (cellsFrom (L' + 1) scope.names []) cells → Below A base (env :: outer) g → K.In g → Top p loose mean mg mb g →
      (∀ b o, s.heap.get? b = some o → b ∉ news.map (·.1) → g.get? b = some o) → (∀ b o, g.get? b = some o → s.heap.get? b = some o) → (∀ p ∈ news, p.1 < L') →
      wpAny (model prog w) (A.deeper (envOfC qual scope L' f cdv)) (execs body (envOfC qual scope L' f cdv))
        (fun fl s' => R (.ok (.ret (match fl with | .ret v => v | _ => .none))) s')
        (fun e s' => wpAny (model prog w) (A.deeper (envOfC qual scope L' f cdv)) (leaving (envOfC qual scope L' f cdv) e) (fun _ s'' => R (.error e) s'') (fun e' s'' => R (.error e') s'') s')
        { s with heap := h₁, toks := tk })
    (hco : scope.isCoroutine = false) (hgen : scope.isGenerator = false) (hk : scope.kind = .function) : codeAny (model prog w) A (.call (.ref f) args) R s := by
  obtain ⟨FG, BG, st, _⟩ := groundX (R := R) B F N hA hf hke
  have kx := kindsX hkind
  refine codeAny_call_function (fd := fnOf name qual params body scope dV kV doc pm an cdv ct) (body := body) hroom ((X₀.keeps F.keep) _ _ ho) rfl hco hgen rfl (codeRec_of (X₀.keeps F.keep) hcd) (hbind _ _ _ _ ?_)
  refine wpAny_newFunctionEnv_cells hk (kx _) fun env' he s' x => ?_
  subst he
  refine ⟨(T.nolimit.keeps F.keep).keeps x.toInCall.keep, codeAny_func ?_⟩
  obtain ⟨h₁, tk, rfl, _⟩ := x.done
  have hk₁ := x.toInCall.keep
  obtain ⟨cells, NC, Y⟩ := Cl.news (h₀ := s.heap) (Nat.le_refl _) fun n c hm => ⟨x.cell n c (lookup_of_mem_nodup (cellsFrom_names scope.names 0 (s.heap.objs.size + 1) [] [] rfl ▸ hnd) hm), x.above n c hm⟩
  refine h _ s.heap.objs.size h₁ tk cells FG ⟨x.toInCall.ns, fun b o e => hk₁ b o (of_hideAll _ e), Nat.le_of_eq (hideAll_size _ _)⟩ (fun p hp => ?_) Y BG (X₀.keeps st) (T.keeps st) (fun b o e hn => hideAll_get _ e hn) (fun b o e => of_hideAll _ e) (fun p hp => Heap.lt_size (N p hp).1)
  rcases List.mem_append.mp hp with hp | hp
  · refine ⟨(NC p hp).1, (NC p hp).2.1, ?_⟩
    cases q : (hideAll s.heap (news.map (·.1))).get? p.1 with
    | none => rfl
    | some o => have := of_hideAll _ q; rw [(NC p hp).2.2] at this; cases this
  · exact ⟨hk₁ _ _ (N p hp).1, Nat.ne_of_lt (Heap.lt_size (N p hp).1), hideAll_none _ (List.mem_map_of_mem hp)⟩
end
/-- behind a call that wrote the slots of the frames: the ground is laid anew -/
theorem turnG {A₀ : Around} {base h₀ h h' : Heap} {outer : List Env} {L : Addr} {m : Str → Option Value} {frs₀ frs' : List (Addr × Obj)} {oL : Obj}
    (B : Below A₀ base outer h₀) (F : Fr h₀ L h m) (Fs : TI.Frs outer frs₀) (hfs : ∀ q ∈ frs₀, h₀.get? q.1 = some q.2 ∧ base.get? q.1 = none) (hL : h.get? L = some oL)
    (SU : TI.SameUp ((L, oL) :: frs₀) frs') (hq : ∀ q ∈ frs', h'.get? q.1 = some q.2) (keep : ∀ b o, h₀.get? b = some o → b ∉ frs₀.map (·.1) → h'.get? b = some o) :
    ∃ h₀' oL' frs₁, frs' = (L, oL') :: frs₁ ∧ Fr h₀' L h' m ∧ Below A₀ base outer h₀' ∧ TI.SameUp frs₀ frs₁ ∧ TI.Frs outer frs₁ ∧ (∀ q ∈ frs₁, h₀'.get? q.1 = some q.2 ∧ base.get? q.1 = none) ∧
      (∀ b, h₀.get? b = none → h₀'.get? b = none) ∧ (∀ b o, h₀.get? b = some o → b ∉ frs₀.map (·.1) → h₀'.get? b = some o) ∧ ∀ b, h₀'.get? b = none → h₀.get? b = none := by
  cases frs' with
  | nil => exact SU.elim
  | cons q frs₁ =>
    obtain ⟨e1, ⟨sl, e2⟩, SU1⟩ := SU
    obtain ⟨q1, q2⟩ := q
    simp only at e1 e2
    subst e1
    subst e2
    have had : outer.filterMap (·.frame) = frs₀.map (·.1) := Fs.addrs
    obtain ⟨T, S⟩ := kts_turn_at (h := h') (fs := frs₀.map (·.1)) (g := h₀)
      (fun b hb => by
        obtain ⟨x, hx, rfl⟩ := List.mem_map.mp hb
        exact ⟨_, (hfs x hx).1⟩)
      (fun b o e nm => keep b o e nm)
      (fun b o e hm => by
        obtain ⟨x, hx, rfl⟩ := List.mem_map.mp hm
        obtain ⟨sl', hs⟩ := SU1.back x hx
        rw [(hfs x hx).1] at e; cases e
        exact ⟨sl', hq _ (.tail _ hs)⟩)
    refine ⟨_, _, frs₁, rfl, ⟨?_, S, by rw [T.size]; exact F.above⟩, ⟨B.stack, fun b o e => T.other b o (B.stays b o e) (fun hm => ?_), B.frames.of_keeps fun b o e _ => ?_⟩, SU1, Fs.up SU1, fun x hx => ?_, T.none_, T.other, fun b e => ?_⟩
    · obtain ⟨o, es, ep, ho, hd, hk, hf⟩ := F.ns
      rw [hL] at ho; cases ho
      exact ⟨_, es, ep, hq _ (.head _), hd, hk, hf⟩
    · obtain ⟨x, hx, rfl⟩ := List.mem_map.mp hm
      rw [(hfs x hx).2] at e; cases e
    · obtain ⟨sl', hs⟩ := T.up e
      exact ⟨_, hs, rfl⟩
    · obtain ⟨y, hy, e⟩ := SU1.fwd x hx
      refine ⟨?_, by rw [e]; exact (hfs y hy).2⟩
      obtain ⟨sl', hs⟩ := T.frame _ _ (hfs y hy).1 (List.mem_map_of_mem hy)
      have h1 := S _ _ hs
      rw [← e, hq x (.tail _ hx)] at h1
      rw [e, hs, ← Option.some.inj h1]
    · cases q : h₀.get? b with
      | none => rfl
      | some o =>
        obtain ⟨sl', hs⟩ := T.up q
        rw [e] at hs; cases hs
end

section
open PySem PySem.Calls PySem.W PyProof.Rows
set_option Elab.async false
set_option maxRecDepth 100000
set_option maxHeartbeats 3000000
/-- the key at a place -/
noncomputable def kv (key : Nat → Int) (p : Array Nat) (i : Nat) : Int := key ((p[i]?).getD 0)
theorem kv_eq {key : Nat → Int} {p : Array Nat} {i : Nat} : key (p.getD i 0) = kv key p i := by
  unfold kv
  rw [Array.getD_eq_getD_getElem?]
theorem kv_bubble {key : Nat → Int} {p : Array Nat} {src d : Nat} (hs : src < p.size) (hd : d ≤ src) (k : Nat) :
    kv key (bubble p src d) k = if k = src - d then kv key p src else if src - d < k ∧ k ≤ src then kv key p (k - 1) else kv key p k := by
  have e := getElem?_bubble hs d hd k
  unfold kv
  rw [e]
  split
  · rfl
  · split <;> rfl
theorem kv_rev {key : Nat → Int} {p : Array Nat} {i j : Nat} (hj : j ≤ p.size) (k : Nat) : kv key (kas_rev p i j) k = if i ≤ k ∧ k < j then kv key p (i + j - 1 - k) else kv key p k := by
  have e := getElem?_mirror_all (i := i) hj k
  unfold kv kas_rev
  rw [e]
  split <;> rfl
noncomputable def Up (key : Nat → Int) (p : Array Nat) (n : Nat) : Prop := ∀ i j, i < j → j < n → kv key p i < kv key p j
noncomputable def Dn (key : Nat → Int) (p : Array Nat) (n : Nat) : Prop := ∀ i j, i < j → j < n → kv key p j < kv key p i
structure PermOf (n : Nat) (p : Array Nat) : Prop where
  perm : p.toList.Perm (List.range n)
theorem PermOf.size {n : Nat} {p : Array Nat} (h : PermOf n p) : p.size = n := by have := h.perm.length_eq; rwa [List.length_range, Array.length_toList] at this
theorem PermOf.at {n : Nat} {p : Array Nat} (h : PermOf n p) {i : Nat} (hi : i < n) : ∃ v, p[i]? = some v ∧ v < n := by
  have hs : i < p.size := by rw [h.size]; exact hi
  refine ⟨p[i], getElem?_pos _ i hs, ?_⟩
  have : p[i] ∈ p.toList := by simp
  exact List.mem_range.mp (h.perm.mem_iff.mp this)
theorem PermOf.get_lt {n : Nat} {p : Array Nat} (h : PermOf n p) {i : Nat} (hi : i < n) : p.getD i 0 < n := by
  obtain ⟨v, hv, hl⟩ := h.at hi
  rw [Array.getD_eq_getD_getElem?, hv]; exact hl
theorem PermOf.inj {n : Nat} {p : Array Nat} {key : Nat → Int} (h : PermOf n p) (hk : ∀ i j, i < n → j < n → key i = key j → i = j) {i j : Nat} (hi : i < n) (hj : j < n) (e : kv key p i = kv key p j) : i = j := by
  obtain ⟨v, hv, hl⟩ := h.at hi
  obtain ⟨u, hu, hl'⟩ := h.at hj
  unfold kv at e
  rw [hv, hu] at e
  have e2 : v = u := hk _ _ hl hl' e
  subst e2
  have nd : p.toList.Nodup := (h.perm.nodup_iff).mpr List.nodup_range
  rw [← Array.getElem?_toList] at hv hu
  have hi' : i < p.toList.length := (List.getElem?_eq_some_iff.mp hv).1
  exact (List.getElem?_inj hi' nd).mp (hv.trans hu.symm)
theorem PermOf.bubble {n : Nat} {p : Array Nat} (h : PermOf n p) (a d : Nat) : PermOf n (bubble p a d) := ⟨(Array.perm_iff_toList_perm.mp (bubble_perm p a d)).trans h.perm⟩
theorem PermOf.rev {n : Nat} {p : Array Nat} (h : PermOf n p) (a d : Nat) : PermOf n (kas_rev p a d) := ⟨(Array.perm_iff_toList_perm.mp (mirror_perm p a d _)).trans h.perm⟩
section
variable {n : Nat} {key : Nat → Int} {cmp : Nat → Nat → (Bool → Shared → Prop) → Shared → Prop} {I : Shared → Prop}
noncomputable def CmpOk (n : Nat) (key : Nat → Int) (cmp : Nat → Nat → (Bool → Shared → Prop) → Shared → Prop) (I : Shared → Prop) : Prop :=
  ∀ i j C s, i < n → j < n → key i ≠ key j → I s → (∀ s', I s' → C (decide (key i < key j)) s') → cmp i j C s
theorem ask_at {p : Array Nat} {i j : Nat} {α : Type} {k : Bool → KasT α} {Q : α → Shared → Prop} {s : Shared} (H : CmpOk n key cmp I) (hk : ∀ i j, i < n → j < n → key i = key j → i = j) (P : PermOf n p) (hi : i < n) (hj : j < n) (hij : i ≠ j) (hs : I s)
    (h : ∀ s', I s' → (k (decide (kv key p i < kv key p j))).kasWp cmp Q s') : (KasT.ask (p.getD i 0) (p.getD j 0) k).kasWp cmp Q s := by
  refine H _ _ _ _ (P.get_lt hi) (P.get_lt hj) (fun e => hij (P.inj hk hi hj (by rw [← kv_eq, ← kv_eq]; exact e))) hs fun s' hs' => ?_
  rw [kv_eq (key := key), kv_eq (key := key)]
  exact h s' hs'
theorem ts1 {a f n : Nat} (h : a + (f + 1) ≤ n) : a < n := Nat.lt_of_lt_of_le (Nat.lt_add_of_pos_right (Nat.succ_pos f)) h
theorem ts2 {a f n : Nat} (h : a + (f + 1) ≤ n) : a - 1 < n := Nat.lt_of_le_of_lt (Nat.sub_le _ _) (ts1 h)
theorem ts3 {a : Nat} (h : 1 ≤ a) : a ≠ a - 1 := Nat.ne_of_gt (Nat.sub_lt h Nat.one_pos)
theorem ts4 (a f : Nat) : a + 1 + f = a + (f + 1) := by rw [Nat.add_assoc, Nat.add_comm 1 f]
theorem ts5 {i j : Nat} (h : i < j) : i ≤ j - 1 := Nat.le_sub_one_of_lt h
theorem ts6 {x y : Int} (h : ¬ y < x) (hne : x ≠ y) : x < y := Int.lt_iff_le_and_ne.mpr ⟨Int.not_lt.mp h, hne⟩
theorem ts7 {j a : Nat} (h : j < a + 1) (h2 : ¬ j < a) : j = a := Nat.le_antisymm (Nat.le_of_lt_succ h) (Nat.not_lt.mp h2)
theorem asc_wp {p : Array Nat} {Q : Nat → Shared → Prop} (H : CmpOk n key cmp I) (hk : ∀ i j, i < n → j < n → key i = key j → i = j) (P : PermOf n p) : ∀ (f a : Nat) (s : Shared), 1 ≤ a → a + f ≤ n → I s → Up key p a →
    (∀ m s', a ≤ m → m ≤ a + f → Up key p m → (m = a + f ∨ kv key p m < kv key p (m - 1)) → I s' → Q m s') → (kas_asc p f a).kasWp cmp Q s
  | 0, a, s, _, _, hs, hu, h => h a s (Nat.le_refl _) (Nat.le_refl _) hu (.inl rfl) hs
  | f + 1, a, s, ha, haf, hs, hu, h => by
    unfold kas_asc
    refine ask_at H hk P (ts1 haf) (ts2 haf) (ts3 ha) hs fun s' hs' => ?_
    by_cases hlt : kv key p a < kv key p (a - 1)
    · rw [decide_eq_true hlt, if_pos rfl]
      exact h a s' (Nat.le_refl _) (Nat.le_add_right _ _) hu (.inr hlt) hs'
    · rw [decide_eq_false hlt, if_neg (by decide)]
      refine asc_wp H hk P f (a + 1) s' (Nat.le_add_left _ _) (ts4 a f ▸ haf) hs' (fun i j hij hj => ?_) fun m s'' h1 h2 h3 h4 h5 => h m s'' (Nat.le_of_succ_le h1) (ts4 a f ▸ h2) h3 (ts4 a f ▸ h4) h5
      by_cases hja : j < a
      · exact hu i j hij hja
      · have : j = a := ts7 hj hja
        subst this
        have h1 : kv key p (j - 1) < kv key p j := by
          exact ts6 hlt fun e => ts3 ha (P.inj hk (ts2 haf) (ts1 haf) e).symm
        by_cases hia : i = j - 1
        · subst hia; exact h1
        · exact Int.lt_trans (hu i (j - 1) (Nat.lt_of_le_of_ne (ts5 hij) hia) (Nat.sub_lt ha Nat.one_pos)) h1
theorem desc_wp {p : Array Nat} {Q : Array Nat × Nat × Nat → Shared → Prop} (H : CmpOk n key cmp I) (hk : ∀ i j, i < n → j < n → key i = key j → i = j) (P : PermOf n p) : ∀ (f a : Nat) (s : Shared), 1 ≤ a → a + f ≤ n → I s → Dn key p a →
    (∀ m s', a ≤ m → m ≤ a + f → Dn key p m → I s' → Q (p, m, 0) s') → (kas_desc f p a 0).kasWp cmp Q s
  | 0, a, s, _, _, hs, hu, h => h a s (Nat.le_refl _) (Nat.le_refl _) hu hs
  | f + 1, a, s, ha, haf, hs, hu, h => by
    unfold kas_desc
    refine ask_at H hk P (ts1 haf) (ts2 haf) (ts3 ha) hs fun s' hs' => ?_
    by_cases hlt : kv key p a < kv key p (a - 1)
    · rw [decide_eq_true hlt, if_pos rfl, if_neg (by decide)]
      refine desc_wp H hk P f (a + 1) s' (Nat.le_add_left _ _) (ts4 a f ▸ haf) hs' (fun i j hij hj => ?_) fun m s'' h1 h2 h3 h5 => h m s'' (Nat.le_of_succ_le h1) (ts4 a f ▸ h2) h3 h5
      by_cases hja : j < a
      · exact hu i j hij hja
      · have : j = a := ts7 hj hja
        subst this
        by_cases hia : i = j - 1
        · subst hia; exact hlt
        · exact Int.lt_trans hlt (hu i (j - 1) (Nat.lt_of_le_of_ne (ts5 hij) hia) (Nat.sub_lt ha Nat.one_pos))
    · rw [decide_eq_false hlt, if_neg (by decide)]
      refine ask_at H hk P (ts2 haf) (ts1 haf) (ts3 ha).symm hs' fun s2 hs2 => ?_
      have h1 : kv key p (a - 1) < kv key p a := by
        exact ts6 hlt fun e => ts3 ha (P.inj hk (ts2 haf) (ts1 haf) e).symm
      rw [decide_eq_true h1, if_pos rfl]
      exact h a s2 (Nat.le_refl _) (Nat.le_add_right _ _) hu hs2
theorem tail3_wp {p : Array Nat} {Q : Nat × Array Nat → Shared → Prop} {a nrem : Nat} {s : Shared} (H : CmpOk n key cmp I) (hk : ∀ i j, i < n → j < n → key i = key j → i = j) (P : PermOf n p) (h1 : 1 ≤ a) (h2 : a ≤ nrem) (h3 : nrem ≤ n) (hs : I s) (hd : Dn key p a)
    (h : ∀ m p' s', 1 ≤ m → m ≤ nrem → PermOf n p' → Up key p' m → I s' → Q (m, p') s') : (kas_tail3 a nrem p).kasWp cmp Q s := by
  unfold kas_tail3
  rw [KasT.kasWp_bind]
  refine asc_wp H hk (P.rev 0 a) _ _ _ h1 (by lia) hs (fun i j hij hj => ?_) fun m s' a1 a2 a3 _ a5 => h m _ s' (by lia) (by lia) (P.rev 0 a) a3 a5
  have hz : a ≤ p.size := by rw [P.size]; lia
  rw [kv_rev hz, kv_rev hz, if_pos (by lia), if_pos (by lia)]
  exact hd _ _ (by (clear hz h hd hs h3 h2 h1 P hk H; omega)) (by (clear hz h hd hs h3 h2 h1 P hk H; omega))
theorem count_wp {p : Array Nat} {Q : Nat × Array Nat → Shared → Prop} {s : Shared} (H : CmpOk n key cmp I) (hk : ∀ i j, i < n → j < n → key i = key j → i = j) (P : PermOf n p) (h1 : 1 ≤ n) (hs : I s)
    (h : ∀ m p' s', 1 ≤ m → m ≤ n → PermOf n p' → Up key p' m → I s' → Q (m, p') s') : (kas_count n p).kasWp cmp Q s := by
  unfold kas_count
  rw [KasT.kasWp_bind]
  refine asc_wp H hk P _ _ _ (Nat.le_refl _) (by omega) hs (fun i j hij hj => by lia) fun m s' a1 a2 a3 a4 a5 => ?_
  by_cases e : m = n
  · rw [if_pos (by simp [e])]
    exact h m p s' a1 (by lia) P a3 a5
  · rw [if_neg (by simp [e])]
    by_cases e1 : m > 1
    · rw [if_pos e1]
      refine ask_at H hk P (by assumption) (by lia) (by (clear e a5 a4 a3 a2 a1 h hs h1 P hk H; lia)) a5 fun s2 hs2 => ?_
      rw [decide_eq_true (a3 0 (m - 1) (by (clear hs2 e a5 a4 a3 a2 a1 h hs h1 P hk H; lia)) (by (clear hs2 e a5 a4 a3 a2 a1 h hs h1 P hk H; omega))), if_pos rfl]
      exact h m p s2 a1 (by (clear hs2 e1 a5 a3 a1 h hs P hk H; lia)) P a3 hs2
    · rw [if_neg e1]
      have em : m = 1 := by lia
      subst em
      unfold kas_descPart
      rw [KasT.kasWp_bind]
      have hlt : kv key p 1 < kv key p (1 - 1) := by rcases a4 with h | h; lia; exact h
      have hsz := P.size
      refine desc_wp H hk (P.rev 0 1) _ _ _ (by decide) (by lia) a5 (fun i j hij hj => ?_) fun m s2 b1 b2 b3 b4 => ?_
      · rw [kv_rev (by (clear hj hij hlt e1 e a4 a3 a2 a1 a5 h hs P hk H; lia)), kv_rev (by (clear hj hij hlt e1 e a4 a3 a2 a1 a5 h hs P hk H; lia))]
        have : i = 0 ∧ j = 1 := by lia
        obtain ⟨rfl, rfl⟩ := this
        rw [if_neg (by decide), if_pos (by decide)]
        exact hlt
      · rw [if_neg (by show ¬ (0 > 0); decide)]
        exact tail3_wp H hk (P.rev 0 1) (by show 1 ≤ m; lia) (by show m ≤ n; lia) (Nat.le_refl _) b4 b3 h
theorem place_wp {p : Array Nat} {k : Nat} {Q : Nat → Shared → Prop} (H : CmpOk n key cmp I) (hk : ∀ i j, i < n → j < n → key i = key j → i = j) (P : PermOf n p) (hkn : k < n) (hup : Up key p k) (hne : ∀ i, i < k → kv key p i ≠ kv key p k) : ∀ (f l r : Nat) (s : Shared), l ≤ r → r ≤ k → r - l ≤ f → I s →
    (∀ i, i < l → kv key p i < kv key p k) → (∀ i, r ≤ i → i < k → kv key p k < kv key p i) →
    (∀ l s', l ≤ k → (∀ i, i < l → kv key p i < kv key p k) → (∀ i, l ≤ i → i < k → kv key p k < kv key p i) → I s' → Q l s') → (kas_place p k f l r).kasWp cmp Q s
  | 0, l, r, s, hlr, hrk, hf, hs, h1, h2, h => by
    have : l = r := by lia
    subst this
    exact h l s hrk h1 h2 hs
  | f + 1, l, r, s, hlr, hrk, hf, hs, h1, h2, h => by
    unfold kas_place
    by_cases hge : l ≥ r
    · rw [if_pos hge]
      have : l = r := by lia
      subst this
      exact h l s hrk h1 h2 hs
    · rw [if_neg hge]
      have hm1 : l ≤ (l + r) / 2 := (Nat.le_div_iff_mul_le (by decide)).mpr (by lia)
      have hm2 : (l + r) / 2 < r := (Nat.div_lt_iff_lt_mul (by decide)).mpr (by (clear hm1 h h2 h1 hs hf hrk hlr hne hup hkn P hk H; lia))
      generalize (l + r) / 2 = mid at hm1 hm2 ⊢
      have hmid : l ≤ mid ∧ mid < r ∧ mid - l ≤ f ∧ r - (mid + 1) ≤ f := ⟨hm1, hm2, by lia, by lia⟩
      have hmk := Nat.lt_of_lt_of_le hmid.2.1 hrk
      refine ask_at H hk P hkn (Nat.lt_trans hmk hkn) (Nat.ne_of_gt hmk) hs fun s' hs' => ?_
      by_cases hlt : kv key p k < kv key p mid
      · rw [decide_eq_true hlt, if_pos rfl]
        refine place_wp H hk P hkn hup hne f _ _ s' hmid.1 (Nat.le_of_lt hmk) hmid.2.2.1 hs' h1 (fun i hi hik => ?_) h
        by_cases e : i = mid
        · rw [e]; exact hlt
        · exact Int.lt_trans hlt (hup _ _ (Nat.lt_of_le_of_ne hi (Ne.symm e)) hik)
      · rw [decide_eq_false hlt, if_neg (by decide)]
        have h3 : kv key p mid < kv key p k := ts6 hlt (hne mid hmk)
        refine place_wp H hk P hkn hup hne f _ _ s' hmid.2.1 hrk hmid.2.2.2 hs' (fun i hi => ?_) h2 h
        by_cases e : i = mid
        · rw [e]; exact h3
        · exact Int.lt_trans (hup _ _ (Nat.lt_of_le_of_ne (Nat.le_of_lt_succ hi) e) hmk) h3
theorem bin_wp {Q : Array Nat → Shared → Prop} (H : CmpOk n key cmp I) (hk : ∀ i j, i < n → j < n → key i = key j → i = j) : ∀ (f : Nat) (p : Array Nat) (k : Nat) (s : Shared), PermOf n p → k + f = n → I s → Up key p k →
    (∀ p' s', PermOf n p' → Up key p' n → I s' → Q p' s') → (kas_bin f p k).kasWp cmp Q s
  | 0, p, k, s, P, hkf, hs, hu, h => h p s P (by rw [← hkf]; exact hu) hs
  | f + 1, p, k, s, P, hkf, hs, hu, h => by
    unfold kas_bin
    rw [KasT.kasWp_bind]
    refine place_wp H hk P (by lia) hu (fun i hi e => ?_) _ _ _ _ (Nat.zero_le _) (Nat.le_refl _) (by lia) hs (fun i hi => by lia) (fun i h1 h2 => by lia) fun l s' hl h1 h2 hs' => ?_
    · have := P.inj hk (by lia) (by lia) e
      lia
    · refine bin_wp H hk f _ _ s' (P.bubble _ _) (by lia) hs' (fun i j hij hj => ?_) h
      have hz : k < p.size := by rw [P.size]; lia
      rw [kv_bubble hz (by (clear hz hj hij hs' h2 h1 h hu hs P hk H; lia)), kv_bubble hz (by (clear hz hj hij hs' h2 h1 h hu hs P hk H; lia)), show k - (k - l) = l by lia]
      repeat' split
      all_goals first
        | (exfalso; lia)
        | exact h1 _ (by omega)
        | exact h2 _ (by lia) (by lia)
        | exact hu _ _ (by lia) (by lia)
theorem sort_wp {Q : Array Nat → Shared → Prop} {s : Shared} (H : CmpOk n key cmp I) (hk : ∀ i j, i < n → j < n → key i = key j → i = j) (h1 : 1 ≤ n) (hs : I s)
    (h : ∀ p s', PermOf n p → Up key p n → I s' → Q p s') : (kas_sort n).kasWp cmp Q s := by
  unfold kas_sort
  rw [KasT.kasWp_bind]
  refine count_wp H hk ⟨by simp⟩ h1 hs fun m p' s' a1 a2 a3 a4 a5 => ?_
  by_cases e : m < n
  · rw [if_pos (show (m, p').1 < n from e)]
    show (kas_bin (n - max m 1) p' (max m 1)).kasWp cmp Q s'
    rw [show max m 1 = m by lia]
    exact bin_wp H hk _ _ _ _ a3 (by lia) a5 a4 h
  · rw [if_neg (show ¬ (m, p').1 < n from e)]
    have : m = n := by lia
    subst this
    exact h p' s' a3 a4 a5
end
section
variable {prog : Program} {w : World} {A : Around} {E : Value → Shared → Prop} {s : Shared} {h₀ : Heap} {L : Addr} {m : Str → Option Value} {news : List (Addr × Obj)}
theorem News.cons1 {h : Heap} {p : Addr × Obj} (hp : h.get? p.1 = some p.2 ∧ p.1 ≠ L ∧ h₀.get? p.1 = none) (N : News h₀ L h news) : News h₀ L h (p :: news) := fun q hq => by
  rcases List.mem_cons.mp hq with rfl | hq
  · exact hp
  · exact N q hq
theorem list_sort_small {a : Addr} {vs : List Value} {n : Nat} {P : PySem.Fin → Shared → Prop} (F : Fr h₀ L s.heap m) (N : News h₀ L s.heap news) (ho : s.heap.get? a = some (seqObj "list" vs.toArray n)) (haL : a ≠ L) (ha0 : h₀.get? a = none) (hna : ∀ p ∈ news, p.1 ≠ a)
    (h2 : vs.length < 2) (h : ∀ c h', Fr h₀ L h' m → News h₀ L h' ((a, seqObj "list" vs.toArray c) :: news) → P (.done (.ret .none)) { s with heap := h' }) :
    wpAny (model prog w) A (Builtin.«list.sort» ⟨[.ref a], []⟩) P E s := by
  have ha : a < s.heap.objs.size := Heap.lt_size ho
  have s1 := Heap.SameBut.update s.heap a (Obj.mapSeq fun _ => (#[] : Array Value))
  obtain ⟨e1, ho1⟩ : ∃ e1, (s.heap.update a (Obj.mapSeq fun _ => (#[] : Array Value))).get? a = some (seqObj "list" #[] e1) := ⟨_, get?_update_seq ho fun _ => #[]⟩
  have F3 : Fr h₀ L (((s.heap.update a (Obj.mapSeq fun _ => (#[] : Array Value))).push (seqObj "tuple" vs.toArray 0)).push (seqObj "list" #[] 0)) m := ((kas_fr F s1 haL ha0).push _).push _
  have N2 : News h₀ L (((s.heap.update a (Obj.mapSeq fun _ => (#[] : Array Value))).push (seqObj "tuple" vs.toArray 0)).push (seqObj "list" #[] 0)) news :=
    (kas_news N s1 hna).grown fun b x e => Heap.get?_push_of_some _ (Heap.get?_push_of_some _ e)
  have ho6 : (((s.heap.update a (Obj.mapSeq fun _ => (#[] : Array Value))).push (seqObj "tuple" vs.toArray 0)).push (seqObj "list" #[] 0)).get? a = some (seqObj "list" #[] e1) := Heap.get?_push_of_some _ (Heap.get?_push_of_some _ ho1)
  rw [list_sort_plain]
  refine wpAny_bind (listItems_at ho rfl ?_)
  refine wpAny_bind (listUpdate_at ho rfl ?_ (by rw [List.size_toArray, sizeLine_eq]; lia) (Nat.zero_le _))
  refine wpAny_bind (seqEpoch_at ho1 rfl ?_)
  refine wpAny_bind (wpAny_newTuple ?_ (by show vs.length ≤ _; rw [sizeLine_eq]; lia))
  refine wpAny_bind (wpAny_newList ?_ (Nat.zero_le _))
  refine wpAny_holding ?_
  show wpAny (model prog w) A _ P E { s with heap := ((s.heap.update a (Obj.mapSeq fun _ => (#[] : Array Value))).push (seqObj "tuple" vs.toArray 0)).push (seqObj "list" #[] 0) }
  dsimp only
  have hn2 : vs.toArray.size < 2 := by rw [List.size_toArray]; exact h2
  rw [if_pos hn2, if_pos hn2]
  refine wpAny_bind (wpAny_pure ?_)
  rw [StateT.run_pure]
  refine wpAny_bind (wpAny_pure ?_)
  dsimp only
  refine wpAny_bind (seqEpoch_at ho6 rfl ?_)
  have hout : (arrOf (SortSt.mk' general' (vs.toArray.zip vs.toArray) #[] 7 none)).map (·.2) = vs.toArray := by
    show (vs.toArray.zip vs.toArray).map (·.2) = _
    simp only [List.zip_toArray, List.map_toArray]
    rw [List.map_snd_zip (Nat.le_refl _)]
  have hsz : ((arrOf (SortSt.mk' general' (vs.toArray.zip vs.toArray) #[] 7 none)).map (·.2)).size ≤ sizeLine := by rw [hout, List.size_toArray, sizeLine_eq]; lia
  have s2 := Heap.SameBut.update (((s.heap.update a (Obj.mapSeq fun _ => (#[] : Array Value))).push (seqObj "tuple" vs.toArray 0)).push (seqObj "list" #[] 0)) a (Obj.mapSeq fun _ => ((arrOf (SortSt.mk' general' (vs.toArray.zip vs.toArray) #[] 7 none)).map (·.2)))
  have hc2 := (get?_update_seq ho6 fun _ => ((arrOf (SortSt.mk' general' (vs.toArray.zip vs.toArray) #[] 7 none)).map (·.2))).trans (congrArg (fun x => some (seqObj "list" x _)) hout)
  refine wpAny_bind (listUpdate_at ho6 rfl ?_ (Nat.zero_le _) (Nat.le_succ_of_le hsz))
  simp only [bne_self_eq_false, Bool.false_eq_true, if_false]
  have N9 := News.cons1 (p := (a, _)) ⟨hc2, haL, ha0⟩ (kas_news N2 s2 hna)
  exact wpAny_pure (h _ _ (kas_fr F3 s2 haL ha0) N9)
theorem sorted_small {l : Addr} {vs : List Value} {Q : Value → Shared → Prop} (F : Fr h₀ L s.heap m) (N : News h₀ L s.heap news) (hl : s.heap.IsList l vs.toArray) (h2 : vs.length < 2)
    (h : ∀ D c h', Fr h₀ L h' m → News h₀ L h' ((D, seqObj "list" vs.toArray c) :: news) → (∀ q ∈ news, q.1 < D) → Q (.ref D) { s with heap := h' }) :
    wpAny (model prog w) A (call (.builtin "sorted") [.ref l]) Q E s := by
  refine Calls.call_function_entry kind_sorted plain_sorted entry_sorted (args_sorted1 _) ?_
  unfold Builtin.«sorted»
  refine wpAny_bind (m := checkCount "sorted" 1 1 _) (wpAny_pure ?_)
  refine wpAny_bind (collect_list hl ?_ (by rw [sizeLine_eq]; lia))
  refine wpAny_bind (wpAny_newList ?_ (by rw [sizeLine_eq]; lia))
  have hsz : ((s.heap.push (seqObj "list" #[] 0)).update s.heap.objs.size (Obj.mapSeq (· ++ vs.toArray))).objs.size = s.heap.objs.size + 1 := by
    rw [Heap.size_update, size_push']
  have hoL : (((s.heap.push (seqObj "list" #[] 0)).update s.heap.objs.size (Obj.mapSeq (· ++ vs.toArray))).push (seqObj "list" vs.toArray 0)).get? (s.heap.objs.size + 1) = some (seqObj "list" vs.toArray 0) := by
    rw [← hsz]; exact Heap.get?_push_size _ rfl
  have keep : ∀ b o, s.heap.get? b = some o → (((s.heap.push (seqObj "list" #[] 0)).update s.heap.objs.size (Obj.mapSeq (· ++ vs.toArray))).push (seqObj "list" vs.toArray 0)).get? b = some o := fun b o q => by
    have hlt : b < s.heap.objs.size := Heap.lt_size q
    rw [Heap.get?_push_ne _ _ _ (by rw [hsz]; exact Nat.ne_of_lt (Nat.lt_succ_of_lt hlt)), Heap.get?_update_ne _ _ _ _ (Nat.ne_of_lt hlt), Heap.get?_push_ne _ _ _ (Nat.ne_of_lt hlt)]
    exact q
  have hL : L < s.heap.objs.size := F.ns.lt
  show wpAny _ _ _ _ _ { s with heap := ((s.heap.push (seqObj "list" #[] 0)).update s.heap.objs.size (Obj.mapSeq (· ++ vs.toArray))).push (seqObj "list" vs.toArray 0) }
  rw [hsz]
  refine wpAny_bind (wpAny_holding (wpAny_call_entry slot_list_sort ⟨_, hoL, rfl⟩ entry_list_sort ?body (args_list_sort _)))
  refine list_sort_small (s := { s with heap := ((s.heap.push (seqObj "list" #[] 0)).update s.heap.objs.size (Obj.mapSeq (· ++ vs.toArray))).push (seqObj "list" vs.toArray 0) })
      (F.kept keep) (N.grown keep) hoL (Nat.ne_of_gt (Nat.lt_succ_of_lt hL)) (Heap.get?_none_of_le (Nat.le_trans F.above (Nat.le_succ_of_le (Nat.le_of_lt hL))))
      (fun p hp => Nat.ne_of_lt (Nat.lt_succ_of_lt (Heap.lt_size (N p hp).1))) h2 fun c h' F' N' => ?_
  exact ⟨_, rfl, wpAny_pure ⟨_, rfl, h _ c h' F' N' fun q hq => Nat.lt_succ_of_lt (Heap.lt_size (N q hq).1)⟩⟩
/-- a row: a tuple whose first item is an int -/
structure RowV where
  k : Int
  a : Addr
  t : Tok
  rest : List Value
noncomputable abbrev rowO (r : RowV) : Addr × Obj := (r.a, { cls := .type "tuple", data := .seq (.int r.k r.t :: r.rest).toArray })
noncomputable abbrev rowVs (rs : List RowV) : List Value := rs.map fun r => .ref r.a
theorem rows_tups {h : Heap} : ∀ rs : List RowV, (∀ r ∈ rs, h.get? r.a = some (rowO r).2) → KatTups h (rowVs rs) (rs.map fun r => .int r.k r.t)
  | [], _ => KatTups.nil
  | r :: rs, H => KatTups.cons (H r (.head _)) rfl rfl (by simp) (rows_tups rs fun x hx => H x (.tail _ hx))
theorem rowVs_getD {rs : List RowV} {d : RowV} {i : Nat} (hi : i < rs.length) : (rowVs rs).getD i Value.none = .ref (rs.getD i d).a := by
  unfold rowVs
  rw [List.getD_eq_getElem?_getD, List.getD_eq_getElem?_getD, List.getElem?_map, List.getElem?_eq_getElem hi]; rfl
theorem small_pw : ∀ l : List Int, l.length < 2 → l.Pairwise (· < ·)
  | [], _ => .nil
  | [_], _ => List.pairwise_singleton _ _
  | _ :: _ :: _, h => absurd h (by simp)
theorem sorted_rows {l : Addr} {rs : List RowV} {Q : Value → Shared → Prop} (F : Fr h₀ L s.heap m) (N : News h₀ L s.heap news) (hl : s.heap.IsList l (rowVs rs).toArray) (hm : ∀ r ∈ rs, rowO r ∈ news) (hk : (rs.map (·.k)).Nodup) (h64 : rs.length < 64)
    (h : ∀ D h' tk c rs', Fr h₀ L h' m → News h₀ L h' ((D, W.listOf (rowVs rs').toArray c) :: news) → (∀ q ∈ news, q.1 < D) → rs'.Perm rs → (rs'.map (·.k)).Pairwise (· < ·) → Q (.ref D) { s with heap := h', toks := tk }) :
    wpAny (model prog w) A (call (.builtin "sorted") [.ref l]) Q E s := by
  have hlen : (rowVs rs).length = rs.length := by unfold rowVs; rw [List.length_map]
  by_cases h2 : rs.length < 2
  · refine sorted_small F N hl (by lia) fun D c h' F' N' hlt => ?_
    exact h D h' s.toks c rs F' N' hlt (.refl _) (small_pw _ (by rw [List.length_map]; exact h2))
  · obtain ⟨d, hd⟩ : ∃ d, d ∈ rs := List.exists_mem_of_length_pos (by lia)
    have hkk : ∀ i j, i < rs.length → j < rs.length → (rs.getD i d).k = (rs.getD j d).k → i = j := by
      intro i j hi hj e
      have hi' : i < (rs.map (·.k)).length := by rw [List.length_map]; exact hi
      refine (List.getElem?_inj hi' hk).mp ?_
      rw [List.getElem?_map, List.getElem?_map, List.getElem?_eq_getElem hi, List.getElem?_eq_getElem hj]
      rw [List.getD_eq_getElem?_getD, List.getD_eq_getElem?_getD, List.getElem?_eq_getElem hi, List.getElem?_eq_getElem hj] at e
      exact congrArg some e
    refine kat_sorted F N hl (by lia) (by lia) fun D e1 h' F' N' hlt => ?_
    have hrow : ∀ r ∈ rs, h'.get? r.a = some (rowO r).2 := fun r hr => (N' _ (.tail _ (hm r hr))).1
    refine kat_kind (fs := rs.map fun r => .int r.k r.t) (T := .type "int") (rows_tups rs hrow) (by rw [List.length_map]; lia) (fun v hv => ?_) (by decide) ?_
    · obtain ⟨r, _, rfl⟩ := List.mem_map.mp hv
      exact Looks.now
    rw [hlen]
    refine sort_wp (key := fun i => (rs.getD i d).k) (I := fun s' => ∃ tk, s' = { s with heap := h', toks := tk }) ?_ hkk (by lia) ⟨s.toks, rfl⟩ fun p s' hP hU hI => ?_
    · rintro i j C s' hi hj hne ⟨tk, rfl⟩ hC
      unfold kas_ask
      rw [rowVs_getD (d := d) hi, rowVs_getD (d := d) hj]
      have mi : rs.getD i d ∈ rs := by rw [List.getD_eq_getElem?_getD, List.getElem?_eq_getElem hi]; exact List.getElem_mem hi
      have mj : rs.getD j d ∈ rs := by rw [List.getD_eq_getElem?_getD, List.getElem?_eq_getElem hj]; exact List.getElem_mem hj
      refine kat_lt (s := { s with heap := h', toks := tk }) (hrow _ mi) rfl (hrow _ mj) rfl ?_
      refine kat_cons (wpAny_eqBool_int ?_)
      have e : ((rs.getD i d).k == (rs.getD j d).k) = false := by simpa using hne
      rw [e]
      refine kat_no ?_
      exact oneLt_int (hC _ ⟨tk, rfl⟩)
    · obtain ⟨tk, rfl⟩ := hI
      refine KasFin.intro (s := { s with heap := h', toks := tk }) F' N' (.head fun p hp => Nat.ne_of_lt (hlt p hp)) fun h2 c F2 N2 => ?_
      have hlt2 : ∀ i ∈ p.toList, i < rs.length := fun i hi => List.mem_range.mp (hP.perm.mem_iff.mp hi)
      have e : (p.toList.map fun i => (rowVs rs).getD i Value.none) = rowVs (p.toList.map fun i => rs.getD i d) := by
        unfold rowVs
        rw [List.map_map]
        exact List.map_congr_left fun i hi => rowVs_getD (d := d) (hlt2 i hi)
      rw [e] at N2
      refine h D h2 tk c (p.toList.map fun i => rs.getD i d) F2 N2 hlt ?_ ?_
      · have := hP.perm.map (fun i => rs.getD i d)
        rwa [range_getD] at this
      · rw [List.map_map, List.pairwise_map, List.pairwise_iff_getElem]
        intro i j hi hj hij
        have := hU i j hij (by rw [Array.length_toList, hP.size] at hj; exact hj)
        unfold kv at this
        rw [Array.length_toList] at hi hj
        rw [getElem?_pos p i hi, getElem?_pos p j hj] at this
        simpa using this
end
end

section
open PySem PySem.Calls PySem.W PyProof.Rows
set_option Elab.async false
set_option maxRecDepth 100000
set_option maxHeartbeats 3000000
set_option pp.deepTerms false
set_option pp.maxSteps 20000
section
variable {w : World} {mean : ExcName → Option Value} {mg mb : Str → Option Value} {p : Program} {loose : List Str} {cn : Str} {cs : Scope} {a : Addr} {ccd : Value} {cl : List (Str × Addr)} {outer : List Env} {A₀ : Around} {base h₀ : Heap} {L : Addr} {m : Str → Option Value} {s : Shared}
    {Q E : Value → Shared → Prop}

section
variable {prog : Program} {w : World} {A : Around} {E : Value → Shared → Prop} {s : Shared} {h₀ : Heap} {L : Addr} {m : Str → Option Value} {news : List (Addr × Obj)}
theorem gd_values {K : Type} [DecidableEq K] {knd : KeyKind prog w K} {d : Addr} {kvs : List (K × Value)} {pl : Sem Bool} {Q : Value × List Value → Shared → Prop} (F : Fr h₀ L s.heap m) (hD : h₀.DictOf knd d kvs) (h : Q (.builtin "dict.values", [.ref d]) s) : wpAny (model prog w) A (getMethod (.ref d) "values" pl) Q E s :=
  have hD := g_dict F hD
  getMethod_builtin hD.typeIs PySem.F.plainAttrs_dict PySem.F.slot_dict_values PySem.F.type_dict_values hD.mapOf.noDict h
theorem gd_view {K : Type} [DecidableEq K] {knd : KeyKind prog w K} {d : Addr} {kvs : List (K × Value)} {Q : Value → Shared → Prop} (F : Fr h₀ L s.heap m) (N : News h₀ L s.heap news) (hD : h₀.DictOf knd d kvs) (lo : (d == sysModules) = false)
    (h : ∀ (D : Addr) h', Fr h₀ L h' m → News h₀ L h' ((D, { cls := .type "dict_values", data := .fields #[.ref d] }) :: news) → (∀ q ∈ news, q.1 < D) → Q (.ref D) { s with heap := h' }) :
    wpAny (model prog w) A (call (.builtin "dict.values") [.ref d]) Q E s :=
  have hD := g_dict F hD
  call_meetsIn PySem.F.slot_dict_values hD.typeIs PySem.F.entry_dict_values (PySem.F.args_dict_values_1 _) (meets_dict_values knd d lo) ⟨⟨kvs, hD⟩, h _ _ (F.push _) (News.push F N _) fun q hq => Heap.lt_size (N q hq).1⟩
theorem get_slotH {K : Frag} {x : Addr} {ox : Obj} {C p : Addr} {od : Obj} {i : Nat} {name : Str} {v : Value} {expr : Bool} {Q : Value → Shared → Prop} (X : K.In s.heap) (I : PySem.W.InstAt s.heap x ox C (some od)) (hg : plainGet K C name = true) (hc : isClsIn K C = true)
    (ha : findIn K (.ref C) name = some (some (.ref p))) (hn : specialIn K (.ref p) "__get__" = some (some (.builtin "member_descriptor.__get__"))) (ht : takesIn K (.ref p) = some true) (hp : slotIn K p C = some i)
    (hv : (ox.slots[i]?).join = some v) (hh : handedIn v = true) (h : Q v { s with toks := s.toks + 1 }) : wpAny (model prog w) A (getAttr (.ref x) name expr) Q E s :=
  get_bind X I (plainGet_of hg).1 (findObj_data hc ha hn ht) (plainGet_of hg).2 (wpAny_call (slot_get (s := { s with toks := s.toks + 1 }) X I hp hv (handed_on hh h)))
theorem GraphAt.keeps {w : World} {h h' : Heap} {nd : Addr} {keys : List Int} {ia da sa : Int → Addr} {u t : Int → Tok} {np : Int → Int} {su : Int → List Value} {sn : Int → Nat} {ch : Int → List Int} (G : GraphAt w h nd keys ia da sa u t np su sn ch) (k : ∀ b o, h.get? b = some o → h'.get? b = some o) : GraphAt w h' nd keys ia da sa u t np su sn ch := by
  refine ⟨?_, G.low, G.len, fun x hx => k _ _ (G.info x hx), fun x hx => k _ _ (G.dct x hx), fun x hx => k _ _ (G.suc x hx), G.kids, G.sulen⟩
  obtain ⟨o, ho, hd⟩ := Heap.dictOf_iff.mp G.dict
  exact Heap.dictOf_iff.mpr ⟨o, k _ _ ho, hd⟩
/-- [elt for x in d.values() if ..]: d of the ground -/
theorem comp_values {K : Type} [DecidableEq K] {knd : KeyKind prog w K} {d v : Addr} {kvs : List (K × Value)} {env : Env} {scope : Scope} {x : Str} {ifs : List Expr} {elt : Expr} {Q : Value → Shared → Prop} (pz : Value → Bool) (G : Value → Value → Prop) (hh : A.handled = none)
    (F : Fr h₀ L s.heap m) (N : News h₀ L s.heap news) (hv : (v, { cls := .type "dict_values", data := .fields #[.ref d] }) ∈ news) (hD : h₀.DictOf knd d kvs) (hl : kvs.length ≤ 900)
    (g1 : ∀ C (i : Nat) y s₃ m₃ E', (∃ k, kvs[i]? = some (k, y)) → s₃.heap.Ns C m₃ → m₃ x = some y → (∀ b o, h₀.get? b = some o → s₃.heap.get? b = some o) →
      wpAny (model prog w) A (forIn ifs true fun c r => if r = true then do let ok ← isTrue c (compEnv scope C env) (eval c (compEnv scope C env)); pure (ForInStep.yield ok) else pure (ForInStep.yield r))
        (fun ok s₄ => ok = pz y ∧ Keeps s₃ s₄) E' s₃)
    (g2 : ∀ C (i : Nat) y s₃ m₃ E', (∃ k, kvs[i]? = some (k, y)) → pz y = true → s₃.heap.Ns C m₃ → m₃ x = some y → (∀ b o, h₀.get? b = some o → s₃.heap.get? b = some o) →
      wpAny (model prog w) A (eval elt (compEnv scope C env)) (fun r s₄ => G y r ∧ Keeps s₃ s₄) E' s₃)
    (g3 : ∀ D (ys : List Value) h' tk c, Fr h₀ L h' m → News h₀ L h' ((D, W.listOf ys.toArray c) :: news) → (∀ p ∈ news, p.1 ≠ D) → s.heap.get? D = none → Paired G ((kvs.map (·.2)).filter pz) ys → Q (.ref D) { s with heap := h', toks := tk }) :
    wpAny (model prog w) A (pyIter (.ref v)) (CompPost prog w A env scope x ifs elt Q) E s := by
  have hDs := g_dict F hD
  obtain ⟨ep, hat⟩ := hDs.dictAt
  have hat0 := hat
  refine wpAny_pyIter_values ⟨_, (N _ hv).1, rfl, rfl⟩ hat ?_
  have hdl : d < s.heap.objs.size := hat.lt_size
  have up : ∀ (h' : Heap), (∀ b o', b ∉ [s.heap.objs.size] → (s.heap.push { cls := .type "dict_valueiterator", data := .fields #[.ref d, .int 0 0, .int kvs.length 0, .int ep 0] }).get? b = some o' → h'.get? b = some o') → ∀ b o', s.heap.get? b = some o' → h'.get? b = some o' :=
    fun h' hk b o' e => hk b o' (not_iter_of_old e) (Heap.get?_push_of_some _ e)
  refine ⟨pz, G, s.heap.objs.size, [s.heap.objs.size, d], [s.heap.objs.size], kvs.length, _, _, rfl, Walks.dictValues (knd := knd) hh _ d (Nat.ne_of_lt hdl) kvs ep, (by rw [sizeLine_eq]; lia), ⟨⟨_, Heap.get?_push_size _ rfl, rfl, rfl⟩, hat.push _⟩, ?_, ⟨?_, ?_⟩, ?_⟩
  · intro b hb
    show b < (s.heap.push _).objs.size
    rw [Heap.size_push]
    rcases List.mem_cons.mp hb with rfl | hb
    · exact Nat.lt_succ_self _
    · rw [List.mem_singleton.mp hb]; exact Nat.lt_succ_of_lt hdl
  · intro C i y s₃ m₃ E' hP hn hm hk _
    exact g1 C i y s₃ m₃ E' hP hn hm fun b o e => up s₃.heap hk b o (F.keep b o e)
  · intro C i y s₃ m₃ E' hP hp hn hm hk _
    exact g2 C i y s₃ m₃ E' hP hp hn hm fun b o e => up s₃.heap hk b o (F.keep b o e)
  · intro D h' tk ys vs hnew hlD hplD hlen hP hF hk
    have e' : vs = kvs.map (·.2) := kdl_vals_eq vs hlen hP
    subst e'
    have hDn : s.heap.get? D = none := by
      cases e : s.heap.get? D with
      | none => rfl
      | some o' => rw [Heap.get?_push_of_some _ e] at hnew; cases hnew
    have hDne : ∀ p ∈ news, p.1 ≠ D := fun p hp e => by have := (N p hp).1; rw [e, hDn] at this; cases this
    obtain ⟨c, hc⟩ := hplD
    refine g3 D ys.toList h' tk c (F.keeps (up h' hk)) (fun p hp => ?_) hDne hDn hF
    rcases List.mem_cons.mp hp with rfl | hp
    · refine ⟨by rw [Array.toArray_toList]; exact hc, fun e => ?_, ?_⟩
      · obtain ⟨o, _, _, ho, _⟩ := F.ns
        rw [show D = L from e, ho] at hDn; cases hDn
      · cases e : h₀.get? D with
        | none => rfl
        | some o' => rw [F.keep _ _ e] at hDn; cases hDn
    · exact N.grown (up h' hk) p hp
end
theorem pp_con {sx dx nd : Addr} {frs₀ : List (Addr × Obj)} {t1 t2 t3 t4 t5 t6 : Tok} {keys : List Int} {ia da sa : Int → Addr} {u t : Int → Tok} {npf : Int → Int} {su : Int → List Value} {snn : Int → Nat} {ch : Int → List Int}
    (B : Below A₀ base outer h₀) (F : Fr h₀ L s.heap m) (XB : (topo.heap_39 w.params).In base) (TB : Top p loose mean mg mb base) (N : News h₀ L s.heap [(sx, instObj 179 dx), (dx, sdict w.params nd .none 0 0 t1 t2 t3 t4 t5 t6 4)]) (hk : cs.kind = .function)
    (Fs : TI.Frs outer frs₀) (hfs : ∀ q ∈ frs₀, h₀.get? q.1 = some q.2 ∧ base.get? q.1 = none) (hsd : sx ≠ dx)
    (G : GraphAt w s.heap nd keys ia da sa u t npf su snn ch)
    (hnew : ∀ b, (b = nd ∨ ∃ k ∈ keys, b = ia k ∨ b = da k ∨ b = sa k) → b ≠ L ∧ b ∉ frs₀.map (·.1) ∧ b ≠ sx ∧ b ≠ dx)
    (hch : ∀ k ∈ keys, ∀ y ∈ ch k, y ∈ keys ∧ k < y)
    (ret : ∀ h' tk' oL frs' rl vs c, s.heap.get? L = some oL → TI.SameUp ((L, oL) :: frs₀) frs' → (∀ q ∈ frs', h'.get? q.1 = some q.2) → (∀ b o, s.heap.get? b = some o → b ≠ L → b ∉ frs₀.map (·.1) → b ≠ dx → h'.get? b = some o) →
      h'.get? dx = some (sdict w.params nd (.ref rl) 0 0 t1 t2 t3 t4 t5 t6 4) → h'.get? rl = some (W.listOf vs.toArray c) → s.heap.get? rl = none → IntsAre vs (keys.filter fun k => npf k = 0) → Q .none { s with heap := h', toks := tk' }) :
    wpAny (model PySem.Challenge.rw_nq0271_01.row.prog w) (AT 500 cn cs L a ccd cl outer) (call (.ref 134) [.ref sx]) Q E s := by
  revert XB TB hk
  k_fill
  w_on
  intro XB TB hk
  k_with_none
  refine wpAny_call ?_
  k_dflt (refine' enterD (binds := [(Str.ofString "self", Value.ref sx)]) ?k1 ?k2 (XB.keeps (Below.stays ?k1)) ?k4 (TB.keeps (Below.stays ?k1)) ?kA ?kF ?kK ?k6 ?k7 ?k8 ?k9 ?kB ?_ ?c2 ?c3 ?c4 ?c5; (case kA => exact rfl); (case kF => exact rfl); (case kK => assumption); (case k1 => k_asm); (case k2 => k_asm); (case k4 => k_asm); (case k6 => k_is); (case k7 => k_is); (case k8 => k_room); (case k9 => exact BindsTo.of_eq rfl); (case c5 => decide); (case kB => exact locs rfl); (case c2 => exact rfl); (case c3 => exact rfl); (case c4 => exact rfl); k_whole)
  intro g L' h₁ FG F' N' B' X' T' kp kb hl0
  (try dsimp only)
  refine wp_open fun Qf hQf => ?_
  have gd : ∀ b o, s.heap.get? b = some o → (b = nd ∨ ∃ k ∈ keys, b = ia k ∨ b = da k ∨ b = sa k) → g.get? b = some o := by
    intro b o hb hm
    obtain ⟨h1, h2, h3, h4⟩ := hnew b hm
    refine kp b o hb ?_
    simp only [List.map_cons, List.map_nil, List.mem_cons, List.not_mem_nil, or_false]
    rintro (e | e)
    · exact h3 e
    · exact h4 e
  have Gg : GraphAt w g nd keys ia da sa u t npf su snn ch := by
    refine ⟨?_, G.low, G.len, fun k hk => gd _ _ (G.info k hk) (.inr ⟨k, hk, .inl rfl⟩), fun k hk => gd _ _ (G.dct k hk) (.inr ⟨k, hk, .inr (.inl rfl)⟩), fun k hk => gd _ _ (G.suc k hk) (.inr ⟨k, hk, .inr (.inr rfl)⟩), G.kids, G.sulen⟩
    obtain ⟨o, ho, hd⟩ := Heap.dictOf_iff.mp G.dict
    exact Heap.dictOf_iff.mpr ⟨o, gd _ _ ho (.inl rfl), hd⟩
  k_with "getMethod ref" => k_dflt (refine' gd_values ?F Gg.dict ?_; (case F => k_asm))
  k_with "call builtin:dict.values" => k_dflt ((refine' gd_view ?F ?N Gg.dict Gg.low ?_; (case F => k_asm); (case N => k_asm)); intro v' h' F' N' lv)
  w_strict k_steps
  k_with_none
  rename Fr g L' _ _ => F2
  rename News g L' _ _ => N2
  have hinj : ∀ k ∈ keys, ∀ k' ∈ keys, ia k = ia k' → k = k' := by
    intro k hk k' hk' e
    have h1 := Gg.info k hk
    rw [e, Gg.info k' hk'] at h1
    have h2 := congrArg (fun o : Obj => o.slots) (Option.some.inj h1)
    have h3 : some (some (Value.int k' (u k'))) = some (some (Value.int k (u k))) := congrArg (fun a : Array (Option Value) => a.toList.head?) h2
    exact (Value.int.inj (Option.some.inj (Option.some.inj h3))).1.symm
  refine comp_values (knd := PySem.intKind _ _) (fun y => decide (∃ k ∈ keys, y = .ref (ia k) ∧ npf k = 0)) (fun y r => ∃ k ∈ keys, y = .ref (ia k) ∧ r = .int k (u k)) rfl F2 N2 (.head _) Gg.dict (by rw [List.length_map]; exact Gg.len) ?_ ?_ ?_
  · rintro C i y s₃ m₃ E' ⟨k, hk⟩ hn hm hkeep
    obtain ⟨k, hkk, rfl⟩ : ∃ k ∈ keys, y = Value.ref (ia k) := by
      obtain ⟨z, hx, e⟩ := List.mem_map.mp (List.mem_of_getElem? hk)
      exact ⟨z, hx, (congrArg (·.2) e).symm⟩
    have hpz : decide (∃ k' ∈ keys, Value.ref (ia k) = .ref (ia k') ∧ npf k' = 0) = decide (npf k = 0) := by
      apply decide_eq_decide.mpr
      constructor
      · rintro ⟨k', hk', e, h⟩
        rw [hinj k hkk k' hk' (Value.ref.inj e)]; exact h
      · exact fun h => ⟨k, hkk, rfl, h⟩
    simp only [List.forIn_cons, List.forIn_nil, if_true]
    refine wpAny_bind (wpAny_bind ?_)
    rw [hpz]
    refine wp_halt ?_
    k_with "getAttr ref" => k_dflt (refine' get_slotH (X'.keeps hkeep) ⟨hkeep _ _ (Gg.info k hkk), rfl, rfl, hkeep _ _ (Gg.dct k hkk)⟩ ?k4 ?k5 ?k6 ?k7 ?k8 ?k9 ?k10 ?k11 ?_; (case k4 => k_is); (case k5 => k_is); (case k6 => k_is); (case k7 => k_is); (case k8 => k_is); (case k9 => k_is); (case k10 => k_slotget); (case k11 => k_handed); k_whole)
    by_cases hz : npf k = 0
    · k_with "compareOp Eq int int" => k_dflt (refine eq_yes hz ?_)
      w_strict k_steps
      exact wpAny_pure (wpAny_pure ⟨(decide_eq_true hz).symm, _, _, rfl, fun b o e => e⟩)
    · k_with "compareOp Eq int int" => k_dflt (refine eq_no hz ?_)
      w_strict k_steps
      exact wpAny_pure (wpAny_pure ⟨(decide_eq_false hz).symm, _, _, rfl, fun b o e => e⟩)
  · rintro C i y s₃ m₃ E' ⟨k, hk⟩ _ hn hm hkeep
    obtain ⟨k, hkk, rfl⟩ : ∃ k ∈ keys, y = Value.ref (ia k) := by
      obtain ⟨z, hx, e⟩ := List.mem_map.mp (List.mem_of_getElem? hk)
      exact ⟨z, hx, (congrArg (·.2) e).symm⟩
    refine wp_halt ?_
    k_with "getAttr ref" => k_dflt (refine' get_slotH (X'.keeps hkeep) ⟨hkeep _ _ (Gg.info k hkk), rfl, rfl, hkeep _ _ (Gg.dct k hkk)⟩ ?k4 ?k5 ?k6 ?k7 ?k8 ?k9 ?k10 ?k11 ?_; (case k4 => k_is); (case k5 => k_is); (case k6 => k_is); (case k7 => k_is); (case k8 => k_is); (case k9 => k_is); (case k10 => k_slotget); (case k11 => k_handed); k_whole)
    w_strict k_steps
    exact ⟨⟨k, hkk, rfl, rfl⟩, _, _, rfl, fun b o e => e⟩
  · intro D ys h3 tk c F3 N3 lD hDn hP
    have r1 : Apart sx dx := hsd
    have r2 : Apart v' D := lD _ (.head _)
    have r3 : Apart sx D := lD _ (.tail _ (.head _))
    have r4 : Apart dx D := lD _ (.tail _ (.tail _ (.head _)))
    k_lt lv
    clear F2 N2
    k_with "call ref" => k_dflt (refine halt ?_)
    w_strict k_steps
    k_with_none
    rename Fr g L' _ _ => F4
    rename News g L' _ _ => N4

    obtain ⟨oL, es, ep, hoL, hoD, hoK, hoF⟩ := FG.ns
    have hLs : s.heap.get? L = some oL := kb _ _ hoL
    have hfr0 : ∀ q ∈ frs₀, g.get? q.1 = some q.2 ∧ base.get? q.1 = none := fun q hq => ⟨FG.keep _ _ (hfs q hq).1, (hfs q hq).2⟩
    have hLb : base.get? L = none := by
      cases e : base.get? L with
      | none => rfl
      | some o =>
        have := Heap.get?_none_of_le (h := h₀) (a := L) F.above
        rw [B.stays _ _ e] at this; cases this
    have hfr1 : ∀ q ∈ (L, oL) :: frs₀, g.get? q.1 = some q.2 ∧ base.get? q.1 = none := fun q hq => by
      rcases List.mem_cons.mp hq with rfl | hq
      · exact ⟨hoL, hLb⟩
      · exact hfr0 q hq
    have Fs1 : TI.Frs (envX cn cs L a ccd cl :: outer) ((L, oL) :: frs₀) := ⟨by show cs.kind ≠ _; rw [hk]; decide, rfl, ⟨es, ep, hoD⟩, Fs⟩
    show wpAny _ _ (call (.ref 169) [.ref sx]) _ _ _
    (refine' lower (fc_con (frs₀ := (L, oL) :: frs₀) B' F4 XB TB ?N ?hk Fs1 hfr1 hsd (Gg.keeps F4.keep) ?hnew hch ?_) ?d ?u ?hh ?hf ?hg; (case hf => exact rfl); (case hk => exact rfl); (case hh => exact rfl); (case hg => exact rfl); (case d => exact Nat.le_of_ble_eq_true rfl); (case u => exact Nat.le_of_ble_eq_true rfl))
    case N => exact fun q hq => N4 q (.tail _ (.tail _ hq))
    case hnew =>
      intro b hb
      obtain ⟨h1, h2, h3, h4⟩ := hnew b hb
      refine ⟨fun e => ?_, ?_, h3, h4⟩
      · have hbg : ∃ o, g.get? b = some o := by
          rcases hb with rfl | ⟨k, hk, rfl | rfl | rfl⟩
          · obtain ⟨o, ho, _⟩ := Heap.dictOf_iff.mp Gg.dict; exact ⟨o, ho⟩
          · exact ⟨_, Gg.info k hk⟩
          · exact ⟨_, Gg.dct k hk⟩
          · exact ⟨_, Gg.suc k hk⟩
        obtain ⟨o, ho⟩ := hbg
        rw [e] at ho
        have := Heap.get?_none_of_le (h := g) (a := L') F4.above
        rw [ho] at this; cases this
      · intro hm
        rcases List.mem_cons.mp hm with e | hm
        · exact h1 e
        · exact h2 hm
    intro h5 tk5 oL' frs5 hoL' SU hq5 keep5
    obtain ⟨g', oL2, frs6, rfl, F5, B5, SU5, Fs5, hfr5, hnn, hkk, hnn'⟩ := turnG B' F4 Fs1 hfr1 hoL' SU hq5 (fun b o e hb => keep5 b o (F4.keep _ _ e) (fun e' => by
        have := Heap.get?_none_of_le (h := g) (a := L') F4.above
        rw [← e', e] at this; cases this) hb)
    have hoff : ∀ b, g.get? b = none → b ∉ ((L, oL) :: frs₀).map (·.1) := fun b hb hm => by
      obtain ⟨q, hq, rfl⟩ := List.mem_map.mp hm
      rw [(hfr1 q hq).1] at hb; cases hb
    have N5 : News g' L' h5 _ := fun q hq => ⟨keep5 _ _ (N4 q hq).1 (N4 q hq).2.1 (hoff _ (N4 q hq).2.2), (N4 q hq).2.1, hnn _ (N4 q hq).2.2⟩
    have X5 : (topo.heap_39 w.params).In g' := XB.keeps B5.stays
    have T5 : Top p loose mean mg mb g' := TB.keeps B5.stays
    clear F4 N4
    w_strict k_steps
    rename Fr g' L' _ _ => F6
    rename News g' L' _ _ => N6
    have hy : IntsAre ys (keys.filter fun k => npf k = 0) := by
      have e : ∀ (l : List Int) (zs : List Value), (∀ k ∈ l, k ∈ keys) → Paired (fun y r => ∃ k, k ∈ keys ∧ y = Value.ref (ia k) ∧ r = Value.int k (u k)) (List.filter (fun y => decide (∃ k, k ∈ keys ∧ y = Value.ref (ia k) ∧ npf k = 0)) (List.map (fun x => x.snd) (List.map (fun k => (k, Value.ref (ia k))) l))) zs →
          IntsAre zs (l.filter fun k => npf k = 0) := by
        intro l
        induction l with
        | nil => intro zs _ hp; cases hp; exact .nil
        | cons k r ih =>
          intro zs hm hp
          have hkk := hm k (.head _)
          have hd : decide (∃ k', k' ∈ keys ∧ Value.ref (ia k) = Value.ref (ia k') ∧ npf k' = 0) = decide (npf k = 0) := by
            apply decide_eq_decide.mpr
            constructor
            · rintro ⟨k', hk', e, h⟩
              rw [hinj k hkk k' hk' (Value.ref.inj e)]; exact h
            · exact fun h => ⟨k, hkk, rfl, h⟩
          simp only [List.map_cons, List.filter_cons, hd] at hp ⊢
          by_cases hz : npf k = 0
          · simp only [hz, decide_true, if_true] at hp ⊢
            cases hp with
            | cons h1 h2 =>
              obtain ⟨k', hk', e1, rfl⟩ := h1
              have := hinj k hkk k' hk' (Value.ref.inj e1)
              subst this
              exact .cons _ _ (ih _ (fun x hx => hm x (.tail _ hx)) h2)
          · simp only [hz, decide_false, Bool.false_eq_true, if_false] at hp ⊢
            exact ih _ (fun x hx => hm x (.tail _ hx)) hp
      exact e keys ys (fun k hk => hk) hP
    refine hQf _ _ ?_
    refine ret _ _ oL frs6 D ys c hLs SU5 (fun q hq => F6.keep _ _ (hfr5 q hq).1) (fun b o hb h1 h2 h3 => ?_) (N6 (dx, _) (by first | k_clsL | simp)).1 (N6 (D, _) (by first | k_clsL | simp)).1 ?_ hy
    · by_cases e1 : b = sx
      · rw [e1, (N _ (.head _)).1] at hb
        rw [e1, ← hb]; exact (N6 (sx, _) (by first | k_clsL | simp)).1
      · refine F6.keep _ _ (hkk b o (kp b o hb ?_) ?_)
        · simp only [List.map_cons, List.map_nil, List.mem_cons, List.not_mem_nil, or_false]
          rintro (e | e)
          · exact e1 e
          · exact h3 e
        · intro hm
          rcases List.mem_cons.mp hm with e | hm
          · exact h1 e
          · exact h2 hm
    · cases e : s.heap.get? D with
      | none => rfl
      | some o =>
        have hDs : D ∉ [(sx, instObj 179 dx), (dx, sdict w.params nd Value.none 0 0 t1 t2 t3 t4 t5 t6 4)].map (·.1) := by
          simp only [List.map_cons, List.map_nil, List.mem_cons, List.not_mem_nil, or_false]
          rintro (e | e)
          · exact r3.ne e.symm
          · exact r4.ne e.symm
        have := hnn' D (N6 (D, W.listOf ys.toArray c) (by first | k_clsL | simp)).2.2
        rw [kp _ _ e hDs] at this; cases this
end
end

section
open PySem PySem.Calls PySem.W PyProof.Rows
set_option Elab.async false
set_option maxRecDepth 100000
set_option maxHeartbeats 3000000
theorem lowerC {M : Model} {A A' : Around} {c : Code} {R : Result → Shared → Prop} {s : Shared} (h : codeAny M A' c R s) (hd : A.depth ≤ A'.depth) (hu : A.units ≤ A'.units) (hh : A.handled = A'.handled) (hf : A.frames = A'.frames) (hg : A.guards = A'.guards) : codeAny M A c R s :=
  fun Γ p hc hΓ => h Γ p hc ⟨hh ▸ hΓ.1, Nat.le_trans hΓ.2.1 hd, fun l hl => hΓ.2.2.1 l (hf ▸ hl), fun g hg' => hΓ.2.2.2.1 g (hg ▸ hg'), Nat.le_trans hΓ.2.2.2.2 hu⟩
/-- a node with its list -/
structure Nf where
  d : Nd
  su : List Value
  n : Nat
noncomputable def nfL (f : Nf) : List (Addr × Obj) := [(f.d.ia, ndO f.d), (f.d.da, dictOf [] 0), (f.d.sa, W.listOf f.su.toArray f.n)]
noncomputable def nfA (f : Nf) : List Addr := [f.d.ia, f.d.da, f.d.sa]
noncomputable def gAll (G : List Nf) : List (Addr × Obj) := G.flatMap nfL
noncomputable def gAdr (G : List Nf) : List Addr := G.flatMap nfA
noncomputable def gK (G : List Nf) : List Int := G.map fun f => f.d.k
noncomputable def gKv (G : List Nf) : List (Int × Value) := G.map fun f => (f.d.k, Value.ref f.d.ia)
theorem gAll_adr (G : List Nf) : (gAll G).map (·.1) = gAdr G := by
  unfold gAll gAdr
  rw [List.map_flatMap]; rfl
theorem gAll_app (G H : List Nf) : gAll (G ++ H) = gAll G ++ gAll H := by unfold gAll; rw [List.flatMap_append]
theorem gAll_cons (f : Nf) (G : List Nf) : gAll (f :: G) = nfL f ++ gAll G := by unfold gAll; rw [List.flatMap_cons]
theorem gAll_nil : gAll [] = [] := rfl
theorem gAdr_app (G H : List Nf) : gAdr (G ++ H) = gAdr G ++ gAdr H := by unfold gAdr; rw [List.flatMap_append]
theorem gAdr_cons (f : Nf) (G : List Nf) : gAdr (f :: G) = nfA f ++ gAdr G := by unfold gAdr; rw [List.flatMap_cons]
theorem gK_app (G H : List Nf) : gK (G ++ H) = gK G ++ gK H := by unfold gK; rw [List.map_append]
theorem gKv_app (G H : List Nf) : gKv (G ++ H) = gKv G ++ gKv H := by unfold gKv; rw [List.map_append]
theorem gKv_len (G : List Nf) : (gKv G).length = (gK G).length := by unfold gKv gK; rw [List.length_map, List.length_map]
theorem gKv_keys (G : List Nf) : (gKv G).map (·.1) = gK G := by unfold gKv gK; rw [List.map_map]; rfl
noncomputable def kidsOf (P : List Int) (k : Int) : List Int := P.filter fun y => decide (y / 8 = k)
structure NOk (P : List Int) (f : Nf) : Prop where
  kids : IntsAre f.su (kidsOf P f.d.k)
  np : f.d.np = if f.d.k ∈ P ∧ 8 ≤ f.d.k then 1 else 0
structure GOk (P : List Int) (G : List Nf) : Prop where
  ok : ∀ f ∈ G, NOk P f
  nd : (gK G).Nodup
  pos : ∀ y ∈ gK G, 0 < y
  clo : ∀ y ∈ P, y / 8 = 0 ∨ y / 8 ∈ gK G
theorem kidsOf_snoc (P : List Int) (x k : Int) : kidsOf (P ++ [x]) k = kidsOf P k ++ if x / 8 = k then [x] else [] := by
  unfold kidsOf
  rw [List.filter_append]
  by_cases h : x / 8 = k
  · simp [h]
  · simp [h]
theorem kidsOf_nil {P : List Int} {k : Int} (h : ∀ y ∈ P, y / 8 ≠ k) : kidsOf P k = [] := by
  unfold kidsOf
  rw [List.filter_eq_nil_iff]
  intro y hy; simpa using h y hy
/-- a node that is neither x nor its quotient -/
theorem NOk.old {P : List Int} {x : Int} {f : Nf} (h : NOk P f) (h1 : f.d.k ≠ x) (h2 : x / 8 ≠ f.d.k) : NOk (P ++ [x]) f := by
  refine ⟨?_, ?_⟩
  · rw [kidsOf_snoc, if_neg h2, List.append_nil]; exact h.kids
  · rw [h.np]
    have : (f.d.k ∈ P ++ [x]) ↔ f.d.k ∈ P := by rw [List.mem_append, List.mem_singleton]; exact ⟨fun q => q.resolve_right h1, .inl⟩
    simp only [this]
section
variable {h₀ h h' : Heap} {L : Addr}
theorem led_off {Led A C : List (Addr × Obj)} {q : Addr × Obj} (ND : (Led.map (·.1)).Nodup) (e : Led = A ++ q :: C) : ∀ p ∈ A ++ C, p.1 ≠ q.1 := by
  subst e
  rw [List.map_append, List.map_cons, List.nodup_append] at ND
  obtain ⟨_, h2, h3⟩ := ND
  obtain ⟨h4, _⟩ := List.nodup_cons.mp h2
  intro p hp
  rcases List.mem_append.mp hp with hp | hp
  · exact h3 _ (List.mem_map_of_mem hp) _ (.head _)
  · exact fun e => h4 (e ▸ List.mem_map_of_mem hp)
theorem nodup_ins {A B C : List Addr} (h : (A ++ C).Nodup) (hB : B.Nodup) (hd : ∀ b ∈ B, b ∉ A ++ C) : (A ++ B ++ C).Nodup := by
  rw [List.nodup_append] at h
  obtain ⟨h1, h2, h3⟩ := h
  rw [List.nodup_append, List.nodup_append]
  refine ⟨⟨h1, hB, fun a ha b hb e => hd b hb (List.mem_append_left _ (e ▸ ha))⟩, h2, fun a ha b hb e => ?_⟩
  rcases List.mem_append.mp ha with ha | ha
  · exact h3 a ha b hb e
  · exact hd a ha (List.mem_append_right _ (e ▸ hb))
theorem fresh_off {Led : List (Addr × Obj)} {B : List Addr} (N : News h₀ L h Led) (fr : Fresh h B) : ∀ b ∈ B, b ∉ Led.map (·.1) := by
  intro b hb hm
  obtain ⟨p, hp, e⟩ := List.mem_map.mp hm
  have := (N p hp).1
  rw [e, fr b hb] at this; cases this
theorem nodup_ins2 {sx dx nd : Addr} {A B C : List Addr} (h : (sx :: dx :: nd :: (A ++ C)).Nodup) (hB : B.Nodup) (hd : ∀ b ∈ B, b ∉ sx :: dx :: nd :: (A ++ C)) : (sx :: dx :: nd :: (A ++ B ++ C)).Nodup := nodup_ins (A := sx :: dx :: nd :: A) h hB hd
end
theorem vA_none {G : List Nf} {k : Int} (h : k ∉ gK G) : valueAt (gKv G) k = none := valueAt_none (by rw [gKv_keys]; exact h)
theorem vA_some {G : List Nf} {f : Nf} (hn : (gK G).Nodup) (hf : f ∈ G) : valueAt (gKv G) f.d.k = some (.ref f.d.ia) := by
  have h1 : gKv G = gKvs (G.map (·.d)) := by unfold gKv gKvs; rw [List.map_map]; rfl
  rw [h1]
  refine valueAt_g (d := f.d) ?_ (List.mem_map_of_mem hf)
  rw [List.map_map]; exact hn
theorem gK_split {G : List Nf} {k : Int} (h : k ∈ gK G) : ∃ G1 f G2, G = G1 ++ f :: G2 ∧ f.d.k = k := by
  obtain ⟨f, hf, e⟩ := List.mem_map.mp h
  obtain ⟨G1, G2, e2⟩ := List.append_of_mem hf
  exact ⟨G1, f, G2, e2, e⟩
noncomputable abbrev adL (P : Params) (sx dx nd : Addr) (od : Obj) (t1 t2 t3 t4 t5 t6 : Tok) (G : List Nf) (rest : List (Addr × Obj)) : List (Addr × Obj) :=
  (sx, instObj 179 dx) :: (dx, sdict P nd .none 0 0 t1 t2 t3 t4 t5 t6 4) :: (nd, od) :: (gAll G ++ rest)
theorem adL_adr {P : Params} {sx dx nd : Addr} {od : Obj} {t1 t2 t3 t4 t5 t6 : Tok} {G : List Nf} {rest : List (Addr × Obj)} : (adL P sx dx nd od t1 t2 t3 t4 t5 t6 G rest).map (·.1) = sx :: dx :: nd :: (gAdr G ++ rest.map (·.1)) := by
  simp only [adL, List.map_cons, List.map_append, gAll_adr]
section
variable {h₀ h h' : Heap} {L : Addr}
theorem keep_led {Led sel keep : List (Addr × Obj)} {as : List Addr} (N : News h₀ L h Led) (ND : (Led.map (·.1)).Nodup) (K : Kept as h h') (pm : Led.Perm (sel ++ keep)) (hs : ∀ a ∈ as, a ∈ sel.map (·.1)) : News h₀ L h' keep := by
  intro p hp
  have hp' : p ∈ Led := pm.symm.subset (List.mem_append_right _ hp)
  refine ⟨K _ _ (N p hp').1 (fun ha => ?_), (N p hp').2⟩
  have hn := (pm.map (·.1)).nodup_iff.mp ND
  rw [List.map_append, List.nodup_append] at hn
  exact hn.2.2 _ (hs _ ha) _ (List.mem_map_of_mem hp) rfl
theorem nwC {a : Addr × Obj} {l : List (Addr × Obj)} (h1 : News h₀ L h [a]) (h2 : News h₀ L h l) : News h₀ L h (a :: l) := fun p hp => (List.mem_cons.mp hp).elim (fun e => h1 p (e ▸ .head _)) (h2 p)
theorem nwH {a : Addr × Obj} {l : List (Addr × Obj)} (h1 : News h₀ L h (a :: l)) : News h₀ L h [a] := fun p hp => h1 p (List.mem_singleton.mp hp ▸ .head _)
theorem nwL {l l' : List (Addr × Obj)} (h1 : News h₀ L h (l ++ l')) : News h₀ L h l := fun p hp => h1 p (List.mem_append_left _ hp)
variable {a b c c' i i' d s s' x x' y z n1 n2 n3 : Addr × Obj} {A B C R : List (Addr × Obj)}
theorem nm_new {as : List Addr} (N : News h₀ L h (a :: b :: c :: (A ++ R))) (ND : ((a :: b :: c :: (A ++ R)).map (·.1)).Nodup) (K : Kept as h h') (has : as = [c.1]) (N2 : News h₀ L h' (c' :: B)) : News h₀ L h' (a :: b :: c' :: ((A ++ B) ++ R)) := by
  subst has
  have k := keep_led (sel := [c]) (keep := a :: b :: (A ++ R)) N ND K ((List.Perm.cons a (.swap c b _)).trans (.swap c a _)) (fun _ h => h)
  exact nwC (nwH k) (nwC (nwH (News.tail' k)) (nwC (nwH N2) (News.append (News.append (nwL (News.tail' (News.tail' k))) (News.tail' N2)) (News.right (News.tail' (News.tail' k))))))
end
theorem gAdr_mid {f f' : Nf} (G1 G2 : List Nf) (e : nfA f' = nfA f) : gAdr (G1 ++ f' :: G2) = gAdr (G1 ++ f :: G2) := by
  rw [gAdr_app, gAdr_cons, gAdr_app, gAdr_cons, e]
theorem gKv_mid {f f' : Nf} (G1 G2 : List Nf) (e : f'.d.k = f.d.k) (e2 : f'.d.ia = f.d.ia) : gKv (G1 ++ f' :: G2) = gKv (G1 ++ f :: G2) := by
  rw [gKv_app, gKv_app]
  show gKv G1 ++ (f'.d.k, Value.ref f'.d.ia) :: gKv G2 = _
  rw [e, e2]; rfl
theorem gK_mid {f f' : Nf} (G1 G2 : List Nf) (e : f'.d.k = f.d.k) : gK (G1 ++ f' :: G2) = gK (G1 ++ f :: G2) := by
  rw [gK_app, gK_app]
  show gK G1 ++ f'.d.k :: gK G2 = _
  rw [e]; rfl
theorem gok_mk {P : List Int} {G G' : List Nf} {x : Int} (H : GOk P G) (hK : gK G = P ∨ gK G = P ++ [x]) (hx : 0 < x) (hxP : x ∉ P) (hall : ∀ f ∈ G', NOk (P ++ [x]) f)
    (hk : gK G' = P ++ [x] ∧ (x / 8 = 0 ∨ x / 8 ∈ P) ∨ gK G' = P ++ [x] ++ [x / 8] ∧ x / 8 ≠ 0 ∧ x / 8 ∉ P) : GOk (P ++ [x]) G' := by
  have hsub : ∀ y ∈ P, y ∈ gK G := fun y hy => by rcases hK with e | e <;> rw [e]; exact hy; exact List.mem_append_left _ hy
  have hPn : P.Nodup := by
    rcases hK with e | e
    · rw [← e]; exact H.nd
    · have := H.nd; rw [e] at this; exact (List.nodup_append.mp this).1
  have hPx : (P ++ [x]).Nodup := List.nodup_append.mpr ⟨hPn, by simp, fun a ha b hb e => hxP (by rw [← List.mem_singleton.mp hb, ← e]; exact ha)⟩
  have hpos : ∀ y ∈ P ++ [x], 0 < y := fun y hy => by
    rcases List.mem_append.mp hy with hy | hy
    · exact H.pos y (hsub y hy)
    · rw [List.mem_singleton.mp hy]; exact hx
  have hclo : ∀ y ∈ P, y / 8 = 0 ∨ y / 8 ∈ P ++ [x] := fun y hy => (H.clo y hy).imp id fun h => by
    rcases hK with e | e
    · rw [e] at h; exact List.mem_append_left _ h
    · rw [e] at h; exact h
  have h8 : x / 8 ≠ x := by lia
  rcases hk with ⟨e, hq⟩ | ⟨e, hq0, hqP⟩
  · refine ⟨hall, by rw [e]; exact hPx, by rw [e]; exact hpos, fun y hy => ?_⟩
    rw [e]
    rcases List.mem_append.mp hy with hy | hy
    · exact hclo y hy
    · rw [List.mem_singleton.mp hy]
      exact hq.imp id (List.mem_append_left _)
  · refine ⟨hall, ?_, ?_, fun y hy => ?_⟩
    · rw [e]
      refine List.nodup_append.mpr ⟨hPx, by simp, fun a ha b hb e => ?_⟩
      rw [List.mem_singleton.mp hb] at e
      rcases List.mem_append.mp ha with ha | ha
      · exact hqP (e ▸ ha)
      · exact h8 (by rw [← e]; exact List.mem_singleton.mp ha)
    · rw [e]
      intro y hy
      rcases List.mem_append.mp hy with hy | hy
      · exact hpos y hy
      · rw [List.mem_singleton.mp hy]; lia
    · rw [e]
      rcases List.mem_append.mp hy with hy | hy
      · exact (hclo y hy).imp id (List.mem_append_left _)
      · rw [List.mem_singleton.mp hy]; exact .inr (List.mem_append_right _ (.head _))
/-- x's own node -/
theorem NOk.own {P : List Int} {x : Int} {f : Nf} (hx : 0 < x) (hf : f.d.k = x) (hi : IntsAre f.su (kidsOf P x)) (hn : f.d.np = if 8 ≤ x then 1 else 0) : NOk (P ++ [x]) f := by
  refine ⟨?_, ?_⟩
  · rw [hf, kidsOf_snoc, if_neg (by lia), List.append_nil]; exact hi
  · rw [hn, hf]
    have : x ∈ P ++ [x] := by simp
    simp only [this, true_and]
/-- the quotient's node -/
theorem NOk.quo {P : List Int} {x : Int} {f : Nf} {su : List Value} {u : Tok} (hx : 0 < x) (hf : f.d.k = x / 8) (hs : f.su = su ++ [.int x u]) (hi : IntsAre su (kidsOf P (x / 8))) (hn : f.d.np = if f.d.k ∈ P ∧ 8 ≤ f.d.k then 1 else 0) : NOk (P ++ [x]) f := by
  refine ⟨?_, ?_⟩
  · rw [hf, kidsOf_snoc, if_pos rfl, hs]; exact ints_snoc hi x u
  · rw [hn]
    have : (f.d.k ∈ P ++ [x]) ↔ f.d.k ∈ P := by rw [List.mem_append, List.mem_singleton]; exact ⟨fun q => q.resolve_right (by lia), .inl⟩
    simp only [this]
theorem mem_mid {G1 G2 : List Nf} {f f' g : Nf} (h : g ∈ G1 ++ f' :: G2) : g = f' ∨ (g ∈ G1 ++ f :: G2 ∧ ((gK (G1 ++ f :: G2)).Nodup → g.d.k ≠ f.d.k)) := by
  have key : g ∈ G1 ∨ g ∈ G2 → g ∈ G1 ++ f :: G2 ∧ ((gK (G1 ++ f :: G2)).Nodup → g.d.k ≠ f.d.k) := by
    intro h
    refine ⟨by rcases h with h | h <;> simp [h], fun hn => ?_⟩
    rw [gK_app] at hn
    obtain ⟨_, h2, h3⟩ := List.nodup_append.mp hn
    rcases h with h | h
    · exact h3 _ (List.mem_map_of_mem h) _ (.head _)
    · exact fun e => (List.nodup_cons.mp h2).1 (by show f.d.k ∈ _; rw [← e]; exact List.mem_map_of_mem h)
  rcases List.mem_append.mp h with h | h
  · exact .inr (key (.inl h))
  · rcases List.mem_cons.mp h with h | h
    · exact .inl h
    · exact .inr (key (.inr h))
end

section
open PySem PySem.Calls PySem.W PyProof.Rows
section
variable {h₀ h h' : Heap} {L : Addr}
theorem news_perm {l l' : List (Addr × Obj)} (N : News h₀ L h l) (p : l.Perm l') : News h₀ L h l' := fun q hq => N q (p.mem_iff.mpr hq)
theorem nd_perm {l l' : List (Addr × Obj)} (N : (l.map (·.1)).Nodup) (p : l.Perm l') : (l'.map (·.1)).Nodup := (p.map _).nodup_iff.mp N
theorem perm_sel (a b c : Addr × Obj) (Ds R : List (Addr × Obj)) (G1 G2 : List Nf) (f : Nf) : (a :: b :: c :: (gAll (G1 ++ f :: G2) ++ (Ds ++ R))).Perm (Ds ++ (a :: b :: c :: (f.d.ia, ndO f.d) :: (f.d.da, dictOf [] 0) :: (f.d.sa, W.listOf f.su.toArray f.n) :: (gAll (G1 ++ G2) ++ R))) := by
  have h1 : (gAll (G1 ++ f :: G2) ++ (Ds ++ R)).Perm (Ds ++ (gAll (G1 ++ f :: G2) ++ R)) := List.perm_append_comm_assoc _ _ _
  have h2 : (gAll (G1 ++ f :: G2) ++ R).Perm (nfL f ++ (gAll (G1 ++ G2) ++ R)) := by
    rw [gAll_app, gAll_cons, List.append_assoc, List.append_assoc, gAll_app, List.append_assoc]
    exact List.perm_append_comm_assoc _ _ _
  exact (List.Perm.cons a (.cons b (.cons c (h1.trans (h2.append_left Ds))))).trans (List.perm_append_comm_assoc [a, b, c] Ds _)
theorem perm_in (a b c : Addr × Obj) (Ds R : List (Addr × Obj)) (G : List Nf) : (a :: b :: c :: (gAll G ++ (Ds ++ R))).Perm (Ds ++ (a :: b :: c :: (gAll G ++ R))) := List.perm_append_comm_assoc (a :: b :: c :: gAll G) Ds R
theorem nd_head {I : Addr} {oI : Obj} {news : List (Addr × Obj)} (ND : (((I, oI) :: news).map (·.1)).Nodup) : ∀ p ∈ news, p.1 ≠ I := fun p hp e => (List.nodup_cons.mp ND).1 (by show I ∈ _; rw [← e]; exact List.mem_map_of_mem hp)
theorem upd_nd {d : Addr} {o o' : Obj} {pre post : List (Addr × Obj)} (ND : ((pre ++ (d, o) :: post).map (·.1)).Nodup) : Upd d o o' (pre ++ (d, o) :: post) (pre ++ (d, o') :: post) := by
  have h := led_off ND rfl
  exact Upd.mid (fun p hp => h p (List.mem_append_left _ hp)) (fun p hp => h p (List.mem_append_right _ hp))
end
theorem one_get {v w : Value} {i : Nat} (h : ([w] : List Value)[i]? = some v) : i = 0 ∧ v = w := by
  cases i with
  | zero => exact ⟨rfl, (Option.some.inj h).symm⟩
  | succ i => cases h
theorem after_x {P : List Int} {G G1 G2 : List Nf} {f : Nf} {x : Int} (H : GOk P G) (hK : gK G = P ∨ gK G = P ++ [x]) (hxP : x ∉ P) (hx : 0 < x) (hfk : f.d.k = x)
    (hG : G1 ++ f :: G2 = G ∨ x ∉ gK G ∧ G1 = G ∧ G2 = [] ∧ f.d.np = 0 ∧ f.su = []) :
    gK (G1 ++ f :: G2) = P ++ [x] ∧ IntsAre f.su (kidsOf P x) ∧ f.d.np = 0 ∧ ∀ g ∈ G1 ++ G2, NOk P g ∧ g.d.k ≠ x ∧ 0 < g.d.k := by
  rcases hG with rfl | ⟨hx', e1, e2, hnp, hsu⟩
  · have hm : f ∈ G1 ++ f :: G2 := List.mem_append_right _ (.head _)
    have hK' : gK (G1 ++ f :: G2) = P ++ [x] := hK.resolve_left fun e => hxP (by rw [← e, ← hfk]; exact List.mem_map_of_mem hm)
    refine ⟨hK', hfk ▸ (H.ok f hm).kids, by rw [(H.ok f hm).np, if_neg (fun h => hxP (by rw [← hfk]; exact h.1))], fun g hg => ?_⟩
    have hgm : g ∈ G1 ++ f :: G2 := by
      rcases List.mem_append.mp hg with h | h
      · exact List.mem_append_left _ h
      · exact List.mem_append_right _ (.tail _ h)
    refine ⟨H.ok g hgm, ?_, H.pos _ (List.mem_map_of_mem hgm)⟩
    have hn := H.nd
    rw [gK_app] at hn
    obtain ⟨_, h2, h3⟩ := List.nodup_append.mp hn
    rw [← hfk]
    rcases List.mem_append.mp hg with h | h
    · exact h3 _ (List.mem_map_of_mem h) _ (.head _)
    · exact fun e => (List.nodup_cons.mp h2).1 (by show f.d.k ∈ _; rw [← e]; exact List.mem_map_of_mem h)
  · subst e1 e2
    have hK' : gK G1 = P := hK.resolve_right fun e => hx' (by rw [e]; exact List.mem_append_right _ (.head _))
    have hkx : kidsOf P x = [] := kidsOf_nil fun y hy e => by
      rcases H.clo y hy with h | h
      · rw [e] at h; exact absurd hx (by rw [h]; decide)
      · exact hx' (e ▸ h)
    refine ⟨by rw [gK_app, hK', ← hfk]; rfl, by rw [hsu, hkx]; exact .nil, hnp, fun g hg => ?_⟩
    rw [List.append_nil] at hg
    exact ⟨H.ok g hg, fun e => hx' (e ▸ List.mem_map_of_mem hg), H.pos _ (List.mem_map_of_mem hg)⟩
theorem mem_two {G1 G2 : List Nf} {f g : Nf} (h : g ∈ G1 ++ f :: G2) : g = f ∨ g ∈ G1 ++ G2 := by
  rcases List.mem_append.mp h with h | h
  · exact .inr (List.mem_append_left _ h)
  · exact (List.mem_cons.mp h).imp id (List.mem_append_right _)
theorem fin_0 {P : List Int} {G G1 G2 : List Nf} {f' : Nf} {x : Int} (H : GOk P G) (hK : gK G = P ∨ gK G = P ++ [x]) (hxP : x ∉ P) (hx : 0 < x) (hq : x / 8 = 0) (hfk : f'.d.k = x)
    (h1 : gK (G1 ++ f' :: G2) = P ++ [x]) (h2 : IntsAre f'.su (kidsOf P x)) (h3 : f'.d.np = 0) (h4 : ∀ g ∈ G1 ++ G2, NOk P g ∧ g.d.k ≠ x ∧ 0 < g.d.k) : GOk (P ++ [x]) (G1 ++ f' :: G2) := by
  refine gok_mk H hK hx hxP (fun g hg => ?_) (.inl ⟨h1, .inl hq⟩)
  rcases mem_two hg with rfl | hg
  · exact NOk.own hx hfk h2 (by rw [h3, if_neg (by lia)])
  · obtain ⟨a, b, c⟩ := h4 g hg
    exact a.old b (fun e => absurd c (by rw [← e, hq]; decide))
theorem fin_1 {P : List Int} {G G1 G2 H1 H2 : List Nf} {f' e e' : Nf} {x : Int} {u : Tok} (H : GOk P G) (hK : gK G = P ∨ gK G = P ++ [x]) (hxP : x ∉ P) (hx : 0 < x) (hq : x / 8 ≠ 0) (hfk : f'.d.k = x)
    (h1 : gK (G1 ++ f' :: G2) = P ++ [x]) (h2 : IntsAre f'.su (kidsOf P x)) (h3 : f'.d.np = 1) (h4 : ∀ g ∈ G1 ++ G2, NOk P g ∧ g.d.k ≠ x ∧ 0 < g.d.k) (hek : e.d.k = x / 8)
    (hG : H1 ++ e :: H2 = G1 ++ f' :: G2 ∨ x / 8 ∉ gK (G1 ++ f' :: G2) ∧ H1 = G1 ++ f' :: G2 ∧ H2 = [] ∧ e.d.np = 0 ∧ e.su = []) (he1 : e'.d = e.d) (he2 : e'.su = e.su ++ [.int x u]) :
    GOk (P ++ [x]) (H1 ++ e' :: H2) ∧ (gK (H1 ++ e' :: H2) = P ++ [x] ∧ (x / 8 = 0 ∨ x / 8 ∈ P) ∨ gK (H1 ++ e' :: H2) = P ++ [x] ++ [x / 8] ∧ x / 8 ≠ 0 ∧ x / 8 ∉ P) := by
  have h8 : 8 ≤ x := by lia
  have hqx : x / 8 ≠ x := by lia
  have hall : ∀ g ∈ G1 ++ f' :: G2, g.d.k ≠ x / 8 → NOk (P ++ [x]) g := fun g hg hne => by
    rcases mem_two hg with rfl | hg
    · exact NOk.own hx hfk h2 (by rw [h3, if_pos h8])
    · obtain ⟨a, b, _⟩ := h4 g hg
      exact a.old b (fun e => hne e.symm)
  have hek' : e'.d.k = x / 8 := by rw [he1]; exact hek
  have hmk : gK (H1 ++ e' :: H2) = gK (H1 ++ e :: H2) := gK_mid H1 H2 (by rw [he1])
  have hnd : (P ++ [x]).Nodup := by
    have hPn : P.Nodup := by
      rcases hK with e | e
      · rw [← e]; exact H.nd
      · have := H.nd; rw [e] at this; exact (List.nodup_append.mp this).1
    exact List.nodup_append.mpr ⟨hPn, List.nodup_cons.mpr ⟨List.not_mem_nil, List.nodup_nil⟩, fun a ha b hb e => hxP (by rw [← List.mem_singleton.mp hb, ← e]; exact ha)⟩
  rcases hG with hG | ⟨hqn, e1, e2, hnp, hsu⟩
  · have hem : e ∈ G1 ++ f' :: G2 := hG ▸ List.mem_append_right _ (.head _)
    have heP : NOk P e := by
      rcases mem_two hem with rfl | h
      · exact absurd (hfk.symm.trans hek) (Ne.symm hqx)
      · exact (h4 e h).1
    have hk1 : gK (H1 ++ e' :: H2) = P ++ [x] := by rw [hmk, hG, h1]
    have hqP : x / 8 ∈ P := by
      have : x / 8 ∈ P ++ [x] := by rw [← h1, ← hek]; exact List.mem_map_of_mem hem
      rcases List.mem_append.mp this with h | h
      · exact h
      · exact absurd (List.mem_singleton.mp h) hqx
    refine ⟨gok_mk H hK hx hxP (fun g hg => ?_) (.inl ⟨hk1, .inr hqP⟩), .inl ⟨hk1, .inr hqP⟩⟩
    rcases mem_mid (f := e) hg with rfl | ⟨hg, hne⟩
    · exact NOk.quo hx hek' he2 (hek ▸ heP.kids) (by rw [he1]; exact heP.np)
    · exact hall g (hG ▸ hg) (hek ▸ hne (by rw [hG, h1]; exact hnd))
  · subst e1 e2
    have hqP : x / 8 ∉ P := fun h => hqn (by rw [h1]; exact List.mem_append_left _ h)
    have hkq : kidsOf P (x / 8) = [] := kidsOf_nil fun y hy e => by
      rcases H.clo y hy with h | h
      · exact hq (e ▸ h)
      · rw [e] at h
        rcases hK with k | k
        · exact hqP (k ▸ h)
        · rw [k] at h
          rcases List.mem_append.mp h with h | h
          · exact hqP h
          · exact hqx (List.mem_singleton.mp h)
    have hk1 : gK (G1 ++ f' :: G2 ++ [e']) = P ++ [x] ++ [x / 8] := by
      rw [gK_app, h1, ← hek']; rfl
    refine ⟨gok_mk H hK hx hxP (fun g hg => ?_) (.inr ⟨hk1, hq, hqP⟩), .inr ⟨hk1, hq, hqP⟩⟩
    rcases List.mem_append.mp hg with hg | hg
    · exact hall g hg (fun e => hqn (e ▸ List.mem_map_of_mem hg))
    · rw [List.mem_singleton.mp hg]
      exact NOk.quo (su := []) hx hek' (by rw [he2, hsu]) (by rw [hkq]; exact .nil) (by rw [he1, hnp, hek, if_neg (fun h => hqP h.1)])
open PySem PySem.Calls PySem.W PyProof.Rows
set_option Elab.async false
set_option maxRecDepth 100000
set_option maxHeartbeats 3000000
set_option pp.deepTerms false
set_option pp.maxSteps 20000
section
variable {w : World} {mean : ExcName → Option Value} {mg mb : Str → Option Value} {p : Program} {loose : List Str} {cn : Str} {cs : Scope} {a : Addr} {ccd : Value} {cl : List (Str × Addr)} {outer : List Env} {A₀ : Around} {base h₀ : Heap} {L : Addr} {m : Str → Option Value} {s : Shared}
    {Q E : Value → Shared → Prop}

theorem gn_any {sx dx nd : Addr} {od : Obj} {G : List Nf} {rest : List (Addr × Obj)} {x : Int} {u t1 t2 t3 t4 t5 t6 : Tok}
    (B : Below A₀ base outer h₀) (F : Fr h₀ L s.heap m) (X : (topo.heap_39 w.params).In h₀) (N : News h₀ L s.heap (adL w.params sx dx nd od t1 t2 t3 t4 t5 t6 G rest)) (T : Top p loose mean mg mb h₀) (hk : cs.kind = .function)
    (ND : ((adL w.params sx dx nd od t1 t2 t3 t4 t5 t6 G rest).map (·.1)).Nodup) (hd : od.IsDictOf (IK w) (gKv G)) (hlow : (nd == sysModules) = false) (hn : (gK G).Nodup) (hl : (gK G).length ≤ 900)
    (ret : ∀ h' tk' od' G1 f G2, Fr h₀ L h' m → News h₀ L h' (adL w.params sx dx nd od' t1 t2 t3 t4 t5 t6 (G1 ++ f :: G2) rest) → ((adL w.params sx dx nd od' t1 t2 t3 t4 t5 t6 (G1 ++ f :: G2) rest).map (·.1)).Nodup → od'.IsDictOf (IK w) (gKv (G1 ++ f :: G2)) → f.d.k = x →
      (G1 ++ f :: G2 = G ∨ x ∉ gK G ∧ G1 = G ∧ G2 = [] ∧ f.d.np = 0 ∧ f.su = []) → Q (.ref f.d.ia) { s with heap := h', toks := tk' }) :
    wpAny (model PySem.Challenge.rw_nq0271_01.row.prog w) (AT 800 cn cs L a ccd cl outer) (call (.ref 122) [.ref sx, .int x u]) Q E s := by
  have hN3 : News h₀ L s.heap [(sx, instObj 179 dx), (dx, sdict w.params nd .none 0 0 t1 t2 t3 t4 t5 t6 4), (nd, od)] := nwC (nwH N) (nwC (nwH (News.tail' N)) (nwH (News.tail' (News.tail' N))))
  by_cases hx : x ∈ gK G
  · obtain ⟨G1, f, G2, rfl, rfl⟩ := gK_split hx
    exact gn_hit B F X hN3 T hk hd hlow (vA_some hn (List.mem_append_right _ (.head _))) fun h' tk' F' K => ret h' tk' od G1 f G2 F' (news_kept N K) ND hd rfl (.inl rfl)
  · have hadr := ND
    rw [adL_adr] at hadr
    have n1 : sx ≠ nd := fun e => (List.nodup_cons.mp hadr).1 (by rw [e]; exact .tail _ (.head _))
    have n2 : dx ≠ nd := fun e => (List.nodup_cons.mp (List.nodup_cons.mp hadr).2).1 (by rw [e]; exact .head _)
    refine gn_miss B F X hN3 T hk hd hlow (vA_none hx) (by rw [gKv_len]; exact Nat.le_trans hl (by decide)) n1 n2 fun h' tk' ia da sa o' t' F' K fr a1 a2 a3 N2 hd' => ?_
    have hfo := fresh_off N fr
    rw [adL_adr] at hfo
    refine ret h' tk' o' G ⟨⟨x, ia, da, sa, u, t', 0⟩, [], 0⟩ [] F' ?_ ?_ (by rw [gKv_app]; exact hd') rfl (.inr ⟨hx, rfl, rfl, rfl, rfl⟩)
    · rw [adL, gAll_app]; exact nm_new N ND K rfl N2
    · rw [adL_adr, gAdr_app]
      exact nodup_ins2 hadr (AllApart.nodup (l := [ia, da, sa]) ⟨List.forall_mem_cons.mpr ⟨a1, List.forall_mem_cons.mpr ⟨a2, List.forall_mem_nil _⟩⟩, List.forall_mem_cons.mpr ⟨a3, List.forall_mem_nil _⟩, List.forall_mem_nil _, trivial⟩) hfo
set_option maxHeartbeats 0 in
theorem add_any {sx dx nd : Addr} {od : Obj} {G : List Nf} {rest : List (Addr × Obj)} {P : List Int} {x : Int} {u uq t1 t2 t3 t4 t5 t6 : Tok}
    (B : Below A₀ base outer h₀) (F : Fr h₀ L s.heap m) (X : (topo.heap_39 w.params).In h₀) (N : News h₀ L s.heap (adL w.params sx dx nd od t1 t2 t3 t4 t5 t6 G rest)) (T : Top p loose mean mg mb h₀) (hk : cs.kind = .function)
    (ND : ((adL w.params sx dx nd od t1 t2 t3 t4 t5 t6 G rest).map (·.1)).Nodup) (hd : od.IsDictOf (IK w) (gKv G)) (hlow : (nd == sysModules) = false) (H : GOk P G) (hK : gK G = P ∨ gK G = P ++ [x]) (hx : 0 < x) (hxP : x ∉ P) (hlen : P.length ≤ 100)
    (ret : ∀ h' tk' od' G', Fr h₀ L h' m → News h₀ L h' (adL w.params sx dx nd od' t1 t2 t3 t4 t5 t6 G' rest) → ((adL w.params sx dx nd od' t1 t2 t3 t4 t5 t6 G' rest).map (·.1)).Nodup → od'.IsDictOf (IK w) (gKv G') → GOk (P ++ [x]) G' →
      (gK G' = P ++ [x] ∧ (x / 8 = 0 ∨ x / 8 ∈ P) ∨ gK G' = P ++ [x] ++ [x / 8] ∧ x / 8 ≠ 0 ∧ x / 8 ∉ P) → Q .none { s with heap := h', toks := tk' }) :
    codeAny (model PySem.Challenge.rw_nq0271_01.row.prog w) (AT 700 cn cs L a ccd cl outer) (.call (.ref 129) ⟨.ref sx :: .int x u :: (if x / 8 = 0 then [] else [.int (x / 8) uq]), []⟩) (fun r s' => match r with | .ok (.ret v) => Q v s' | .ok _ => False | .error e => E e s') s := by
  have hl1 : ∀ Q : List Int, Q = P ∨ Q = P ++ [x] → Q.length ≤ 900 := by
    rintro Q (rfl | rfl)
    · exact Nat.le_trans hlen (by decide)
    · rw [List.length_append]; exact Nat.le_trans (Nat.add_le_add_right hlen 1) (by decide)
  generalize hvs : (if x / 8 = 0 then [] else [Value.int (x / 8) uq]) = vs
  have hvl : vs.length ≤ 1 := by rw [← hvs]; split <;> exact Nat.le_of_ble_eq_true rfl
  revert X T hk
  k_fill
  w_on
  intro X T hk
  k_with_none
  k_dflt (refine' enterRb (vs := vs) (binds := fun D => [(Str.ofString "self", Value.ref sx), (Str.ofString "node", Value.int x u), (Str.ofString "predecessors", Value.ref D)]) ?k1 ?k2 ?k3 ?k4 ?k5 ?kA ?kF ?kK ?k6 ?k7 ?k8 ?kP ?kB ?_ ?c2 ?c3 ?c4 ?c5; (case kA => exact rfl); (case kF => exact rfl); (case kK => assumption); (case k1 => k_asm); (case k2 => k_asm); (case k3 => k_asm); (case k4 => k_asm); (case k5 => k_asm); (case k6 => k_is); (case k7 => k_is); (case k8 => k_room); (case kP => (intro Q1 A1 E1 hq; refine wp_cast (t' := newTuple vs >>= fun t => pure [(Str.ofString "self", Value.ref sx), (Str.ofString "node", Value.int x u), (Str.ofString "predecessors", t)]) (by cases vs <;> rfl) (wpAny_bind (wpAny_newTuple (wpAny_pure hq) (by rw [PySem.sizeLine_eq]; (clear hq hk T X hvs hl1 ret hlen hxP hx hK H hlow hd ND N F B; lia)))))); (case kB => exact fun _ => locs rfl); (case c5 => decide); (case c2 => exact rfl); (case c3 => exact rfl); (case c4 => exact rfl); k_whole)
  intro D g L' h₁ FG F' N' B' X' T' kp hD l1 l2
  refine wp_open fun Qf hQf => ?_
  k_with "call ref" => k_dflt (refine halt ?_)
  w_strict k_steps
  show wpAny _ _ (call (.ref 122) [.ref sx, .int x u]) _ _ _
  rename Fr g L' _ _ => F1
  rename News g L' _ _ => N1
  have ND1 : (((D, tupO vs) :: adL w.params sx dx nd od t1 t2 t3 t4 t5 t6 G rest).map (·.1)).Nodup := List.nodup_cons.mpr ⟨fun hm => by
      obtain ⟨p, hp, e⟩ := List.mem_map.mp hm
      exact Nat.lt_irrefl _ (e ▸ l1 p hp), ND⟩
  (refine' lower (gn_any (G := G) (rest := [(D, tupO vs)] ++ rest) (od := od) B' F1 X' (news_perm N1 (perm_in _ _ _ [_] rest G).symm) T' ?hk (nd_perm ND1 (perm_in _ _ _ [_] rest G).symm) hd hlow H.nd (hl1 _ hK) ?_) ?d ?u ?hh ?hf ?hg; (case hf => exact rfl); (case hk => exact rfl); (case hh => exact rfl); (case hg => exact rfl); (case d => exact Nat.le_of_ble_eq_true rfl); (case u => exact Nat.le_of_ble_eq_true rfl))
  intro h2 tk2 od2 G1 f G2 F2 N2 ND2 hd2 hfk hG
  obtain ⟨s1, s2, s3, s4⟩ := after_x H hK hxP hx hfk hG
  have N3 : News g L' h2 ((D, tupO vs) :: (sx, instObj 179 dx) :: (dx, sdict w.params nd .none 0 0 t1 t2 t3 t4 t5 t6 4) :: (nd, od2) :: (f.d.ia, ndO f.d) :: (f.d.da, dictOf [] 0) :: (f.d.sa, W.listOf f.su.toArray f.n) :: (gAll (G1 ++ G2) ++ rest)) := news_perm N2 (perm_sel _ _ _ [(D, tupO vs)] rest G1 G2 f)
  have ND3 := nd_perm ND2 (perm_sel _ _ _ [(D, tupO vs)] rest G1 G2 f)
  have U : ∀ v tt, Upd f.d.ia (ndO f.d) (infoO f.d.k f.d.u v tt f.d.da f.d.sa) _ _ := fun v tt => upd_nd (pre := [(D, tupO vs), (sx, instObj 179 dx), (dx, sdict w.params nd .none 0 0 t1 t2 t3 t4 t5 t6 4), (nd, od2)]) ND3
  clear F1 N1 N2
  k_with_none
  k_with "getAttr ref" => k_dflt (refine' get_slot ?k1 ?k2 (InstAt.of_news ?k3' (.tail _ (.tail _ (.tail _ (.tail _ (.head _))))) (.tail _ (.tail _ (.tail _ (.tail _ (.tail _ (.head _))))))) ?k4 ?k5 ?k6 ?k7 ?k8 ?k9 ?k10 ?k11 ?_; (case k1 => k_asm); (case k2 => k_asm); (case k3' => k_asm); (case k4 => k_is); (case k5 => k_is); (case k6 => k_is); (case k7 => k_is); (case k8 => k_is); (case k9 => k_is); (case k10 => k_slotget); (case k11 => k_handed); k_whole)
  k_with "setAttr ref" => k_dflt (refine' set_slot ?k1 ?k2 ?k3 (InstAt.of_news ?k3' (.tail _ (.tail _ (.tail _ (.tail _ (.head _))))) (.tail _ (.tail _ (.tail _ (.tail _ (.tail _ (.head _))))))) ?k5 ?k6 ?k7 ?k8 ?k9 ?k10 ?k11 ?k12 (U _ _) ?_; (case k1 => k_asm); (case k2 => k_asm); (case k3 => k_asm); (case k3' => k_asm); (case k5 => k_is); (case k6 => k_is); (case k7 => k_is); (case k8 => k_is); (case k9 => k_is); (case k10 => decide); (case k11 => exact rfl); (case k12 => exact rfl); k_whole; intro h' F' N')
  k_with "call builtin:len cons nil" => k_dflt (refine' len_tuple (News.isTup (by k_asm) (List.Mem.head _)) ?fit ?_; (case fit => (rw [List.size_toArray]; (clear U ND3 s4 s3 s2 s1 hG hfk hd2 ND2 ND1 hQf l2 l1 hD kp T' X' B' FG hk T X hvs hl1 ret hlen hxP hx hK H hlow hd ND N F B; lia))))
  k_with "exec For Name Name cons nil" => k_dflt (refine halt ?_)
  w_strict k_steps
  show wpAny _ _ _ _ _ _
  k_with_none
  rename Fr g L' _ _ => F3
  rename News g L' _ _ => N4
  rw [s3, Int.zero_add, List.size_toArray] at N4
  obtain ⟨f', e1, e2, e3, N5⟩ : ∃ f' : Nf, f'.d.k = x ∧ (nfA f' = nfA f ∧ f'.su = f.su ∧ f'.d.ia = f.d.ia) ∧ f'.d.np = (vs.length : Int) ∧ News g L' _ ((D, tupO vs) :: adL w.params sx dx nd od2 t1 t2 t3 t4 t5 t6 (G1 ++ f' :: G2) rest) :=
    ⟨⟨{ f.d with np := (vs.length : Int), t := _ }, f.su, f.n⟩, hfk, ⟨rfl, rfl, rfl⟩, rfl, nwC (nwH N4) (news_perm (News.tail' N4) (perm_sel _ _ _ [] rest G1 G2 ⟨{ f.d with np := (vs.length : Int), t := _ }, f.su, f.n⟩).symm)⟩
  have s1' : gK (G1 ++ f' :: G2) = P ++ [x] := by rw [gK_mid G1 G2 (e1.trans hfk.symm)]; exact s1
  have hd3 : od2.IsDictOf (IK w) (gKv (G1 ++ f' :: G2)) := by rw [gKv_mid G1 G2 (e1.trans hfk.symm) e2.2.2]; exact hd2
  have ND5 : (((D, tupO vs) :: adL w.params sx dx nd od2 t1 t2 t3 t4 t5 t6 (G1 ++ f' :: G2) rest).map (·.1)).Nodup := by
    refine nd_perm ?_ (perm_in _ _ _ [(D, tupO vs)] rest (G1 ++ f' :: G2))
    rw [adL_adr] at ND2
    rw [adL_adr, gAdr_mid G1 G2 e2.1]
    exact ND2
  have hPx : (P ++ [x]).Nodup := by
    have hPn : P.Nodup := by
      rcases hK with e | e
      · rw [← e]; exact H.nd
      · have := H.nd; rw [e] at this; exact (List.nodup_append.mp this).1
    exact List.nodup_append.mpr ⟨hPn, List.nodup_cons.mpr ⟨List.not_mem_nil, List.nodup_nil⟩, fun a ha b hb e => hxP (by rw [← List.mem_singleton.mp hb, ← e]; exact ha)⟩
  clear N4 ND1 ND2 ND3 U hd2
  with_unfolding_all refine For_invVF (by assumption) rfl rfl ?_
  w_strict k_steps
  rename Fr g L' _ _ => F6
  refine tupLoopV (vs := vs) (fun i m₁ news₁ => ∀ Z : Prop, (∀ od' G', m₁ (Str.ofString "self") = some (Value.ref sx) → m₁ (Str.ofString "node") = some (Value.int x u) → news₁ = adL w.params sx dx nd od' t1 t2 t3 t4 t5 t6 G' rest →
    (((D, tupO vs) :: news₁).map (·.1)).Nodup → od'.IsDictOf (IK w) (gKv G') → (i = 0 → od' = od2 ∧ G' = G1 ++ f' :: G2) → (i ≠ 0 → GOk (P ++ [x]) G' ∧ (gK G' = P ++ [x] ∧ (x / 8 = 0 ∨ x / 8 ∈ P) ∨ gK G' = P ++ [x] ++ [x / 8] ∧ x / 8 ≠ 0 ∧ x / 8 ∉ P)) → Z) → Z) rfl F6 N5 (nd_head ND5)
    (fun Zz KZ => KZ od2 _ rfl rfl rfl ND5 hd3 (fun _ => ⟨rfl, rfl⟩) (fun h => absurd rfl h)) ?_ ?_
  · intro i v m₁ news₁ h tk I oI hvi hI F7 N7 o1 o2 o3 QJ hQJ _ _ _
    refine hI _ ?_
    clear hI
    rintro od' G' hm1 hm2 rfl ND7 hd7 hG0 _
    have hq : x / 8 ≠ 0 := fun e => by rw [if_pos e] at hvs; rw [← hvs] at hvi; cases hvi
    rw [if_neg hq] at hvs
    rw [← hvs] at hvi
    obtain ⟨rfl, rfl⟩ := one_get hvi
    obtain ⟨rfl, rfl⟩ := hG0 rfl
    rw [mkeep2 hm1 hm2] at F7
    k_with "call ref" => k_dflt (refine halt ?_)
    w_strict k_steps
    show wpAny _ _ (call (.ref 122) [.ref sx, .int (x / 8) uq]) _ _ _
    rename Fr g L' _ _ => F8
    rename News g L' _ _ => N8
    have ND8 : (((I, oI) :: (D, tupO vs) :: adL w.params sx dx nd od' t1 t2 t3 t4 t5 t6 (G1 ++ f' :: G2) rest).map (·.1)).Nodup := List.nodup_cons.mpr ⟨fun hm => by
      obtain ⟨p, hp, e⟩ := List.mem_map.mp hm
      rcases List.mem_cons.mp hp with rfl | hp
      · exact o3 e.symm
      · exact o1 p hp e, ND7⟩
    (refine' lower (gn_any (G := G1 ++ f' :: G2) (rest := [(I, oI), (D, tupO vs)] ++ rest) (od := od') B' F8 X' (news_perm N8 (perm_in _ _ _ [_, _] rest _).symm) T' ?hk (nd_perm ND8 (perm_in _ _ _ [_, _] rest _).symm) hd7 hlow (s1' ▸ hPx) (hl1 _ (.inr s1')) ?_) ?d ?u ?hh ?hf ?hg; (case hf => exact rfl); (case hk => exact rfl); (case hh => exact rfl); (case hg => exact rfl); (case d => exact Nat.le_of_ble_eq_true rfl); (case u => exact Nat.le_of_ble_eq_true rfl))
    intro h9 tk9 od9 H1 e H2 F9 N9 ND9 hd9 hek hH
    have hsu : e.su.length ≤ 900 := by
      rcases hH with hH | ⟨_, _, _, _, hsu⟩
      · rcases mem_two (show e ∈ G1 ++ f' :: G2 from hH ▸ List.mem_append_right _ (.head _)) with rfl | hm
        · rw [e2.2.1, s2.length]; exact Nat.le_trans (List.length_filter_le _ _) (Nat.le_trans hlen (by decide))
        · rw [(s4 e hm).1.kids.length]; exact Nat.le_trans (List.length_filter_le _ _) (Nat.le_trans hlen (by decide))
      · rw [hsu]; exact Nat.zero_le _
    have NA : News g L' h9 ((I, oI) :: (D, tupO vs) :: (sx, instObj 179 dx) :: (dx, sdict w.params nd .none 0 0 t1 t2 t3 t4 t5 t6 4) :: (nd, od9) :: (e.d.ia, ndO e.d) :: (e.d.da, dictOf [] 0) :: (e.d.sa, W.listOf e.su.toArray e.n) :: (gAll (H1 ++ H2) ++ rest)) := news_perm N9 (perm_sel _ _ _ [_, _] rest H1 H2 e)
    have U : Upd e.d.sa (W.listOf e.su.toArray e.n) (W.listOf (e.su.toArray.push (.int x u)) (e.n + 1)) _ _ := upd_nd (pre := [(I, oI), (D, tupO vs), (sx, instObj 179 dx), (dx, sdict w.params nd .none 0 0 t1 t2 t3 t4 t5 t6 4), (nd, od9), (e.d.ia, ndO e.d), (e.d.da, dictOf [] 0)]) (nd_perm ND9 (perm_sel _ _ _ [_, _] rest H1 H2 e))
    have NDA : (((I, oI) :: (D, tupO vs) :: adL w.params sx dx nd od9 t1 t2 t3 t4 t5 t6 (H1 ++ (⟨e.d, e.su ++ [Value.int x u], e.n + 1⟩ : Nf) :: H2) rest).map (·.1)).Nodup := by
      refine nd_perm ?_ (perm_in _ _ _ [(I, oI), (D, tupO vs)] rest _)
      rw [adL_adr] at ND9
      rw [adL_adr, gAdr_mid (f := e) (f' := ⟨e.d, e.su ++ [Value.int x u], e.n + 1⟩) H1 H2 rfl]
      exact ND9
    (try clear F7); (try clear N7); (try clear F8); (try clear N8); (try clear N9); (try clear ND9); (try clear ND8)
    k_with_none
    k_with "getAttr ref" => k_dflt (refine' get_slot ?k1 ?k2 (InstAt.of_news ?k3' (.tail _ (.tail _ (.tail _ (.tail _ (.tail _ (.head _)))))) (.tail _ (.tail _ (.tail _ (.tail _ (.tail _ (.tail _ (.head _)))))))) ?k4 ?k5 ?k6 ?k7 ?k8 ?k9 ?k10 ?k11 ?_; (case k1 => k_asm); (case k2 => k_asm); (case k3' => k_asm); (case k4 => k_is); (case k5 => k_is); (case k6 => k_is); (case k7 => k_is); (case k8 => k_is); (case k9 => k_is); (case k10 => k_slotget); (case k11 => k_handed); k_whole)
    k_with "call builtin:list.append" => k_dflt (refine' append_K ?k1 ?k2 U ?_ ?z; (case k1 => k_asm); (case k2 => k_asm); (case z => (rw [List.size_toArray, PySem.sizeLine_eq]; (clear NDA U hH hek hd9 F9 hG0 hd7 ND7 o2 o1 hQJ ND5 hd3 hvi hq hm2 hm1 o3 hPx s1' e3 e2 e1 s4 s3 s2 s1 hG hfk hQf l2 l1 hD kp T' X' B' FG hk T X hvl hvs hl1 ret hlen hxP hx hK H hlow hd ND N F B; lia))); intro h' F' N')
    w_strict k_steps
    rename Fr g L' _ _ => FA
    rename News g L' _ _ => NB
    rw [List.push_toArray] at NB
    exact hQJ _ _ _ _ FA (nwC (nwH NB) (nwC (nwH (News.tail' NB)) (news_perm (News.tail' (News.tail' NB)) (perm_sel _ _ _ [] rest H1 H2 ⟨e.d, e.su ++ [Value.int x u], e.n + 1⟩).symm))) (fun p hp => nd_head NDA p (.tail _ hp)) (nd_head (List.nodup_cons.mp NDA).2)
      (fun Zz KZ => KZ od9 (H1 ++ (⟨e.d, e.su ++ [Value.int x u], e.n + 1⟩ : Nf) :: H2) rfl rfl rfl (List.nodup_cons.mp NDA).2 (by rw [gKv_mid (f := e) (f' := ⟨e.d, e.su ++ [Value.int x u], e.n + 1⟩) H1 H2 rfl rfl]; exact hd9) (fun h => absurd h (Nat.succ_ne_zero _))
        (fun _ => fin_1 H hK hxP hx hq e1 s1' (by rw [e2.2.1]; exact s2) (by rw [e3, ← hvs]; rfl) s4 hek hH rfl rfl))
  · intro m₁ news₁ h tk hI F7 N7 o1
    refine hI _ ?_
    clear hI
    rintro od' G' hm1 hm2 rfl ND7 hd7 hG0 hG1
    have hfin : GOk (P ++ [x]) G' ∧ (gK G' = P ++ [x] ∧ (x / 8 = 0 ∨ x / 8 ∈ P) ∨ gK G' = P ++ [x] ++ [x / 8] ∧ x / 8 ≠ 0 ∧ x / 8 ∉ P) := by
      by_cases hq : x / 8 = 0
      · rw [if_pos hq] at hvs
        obtain ⟨_, rfl⟩ := hG0 (by rw [← hvs]; rfl)
        exact ⟨fin_0 H hK hxP hx hq e1 s1' (by rw [e2.2.1]; exact s2) (by rw [e3, ← hvs]; rfl) s4, .inl ⟨s1', .inl hq⟩⟩
      · rw [if_neg hq] at hvs
        exact hG1 (by rw [← hvs]; exact Nat.one_ne_zero)
    k_with_none
    w_strict k_steps
    refine hQf _ _ ?_
    w_strict k_steps
    rename Fr h₀ L _ _ => kF
    rename News h₀ L _ _ => kN
    exact ret _ _ od' G' kF (fun q hq => kN q (.tail _ hq)) (List.nodup_cons.mp ND7).2 hd7 hfin.1 hfin.2
end
end

section
open PySem PySem.Calls PySem.W PyProof.Rows
set_option Elab.async false
set_option maxRecDepth 100000
set_option maxHeartbeats 3000000

structure Pt where
  k : Int
  D : Addr
  t1 : Tok
  t2 : Tok
noncomputable def ptL (q : Pt) : Addr × Obj := (q.D, tupO [.int (q.k / 8) q.t1, .int (q.k % 8) q.t2])
noncomputable def tKv (T : List Pt) : List (Int × Value) := T.map fun q => (q.k, Value.ref q.D)
/-- a number met -/
noncomputable def Met (ns : List Int) (y : Int) : Prop := ∃ n ∈ ns, ∃ k : Nat, k < 4 ∧ y = n / 8 ^ k
structure ToSt (w : World) (ns : List Int) (P : List Int) (G : List Nf) (T : List Pt) (od op : Obj) : Prop where
  od : od.IsDictOf (IK w) (gKv G)
  op : op.IsDictOf (IK w) (tKv T)
  tk : T.map (·.k) = P
  gok : GOk P G
  lt : ∀ y ∈ P, y < 4096
  met : ∀ y ∈ P, Met ns y
noncomputable abbrev toL (P : Params) (sx dx nd pd : Addr) (od op : Obj) (t1 t2 t3 t4 t5 t6 : Tok) (G : List Nf) (T : List Pt) (rest : List (Addr × Obj)) : List (Addr × Obj) :=
  adL P sx dx nd od t1 t2 t3 t4 t5 t6 G ((pd, op) :: (T.map ptL ++ rest))
theorem nodup5 {sx dx nd pd L' : Nat} {l : List Nat} (h1 : dx < sx) (h2 : sx < nd) (h3 : dx < nd) (h4 : nd < pd) (h5 : sx < pd) (h6 : dx < pd) (h7 : L' + 1 < nd) (h8 : L' + 1 < pd) (h9 : L' + 1 < dx) (hl : ∀ b ∈ l, b < L') (hn : l.Nodup) : (sx :: dx :: nd :: pd :: (L' + 1) :: l).Nodup := by
  have off : ∀ z, L' < z → z ∉ l := fun z hz hm => by have := hl z hm; lia
  refine List.nodup_cons.mpr ⟨?_, List.nodup_cons.mpr ⟨?_, List.nodup_cons.mpr ⟨?_, List.nodup_cons.mpr ⟨?_, List.nodup_cons.mpr ⟨off _ (by lia), hn⟩⟩⟩⟩⟩
  all_goals (simp only [List.mem_cons, not_or])
  · exact ⟨by lia, by lia, by lia, by lia, off _ (by lia)⟩
  · exact ⟨by lia, by lia, by lia, off _ (by lia)⟩
  · exact ⟨by lia, by lia, off _ (by lia)⟩
  · exact ⟨by lia, off _ (by omega)⟩
theorem tb_nodup {qual : Str} {ln co : Nat} {P : Addr} {ld : List (Addr × Obj)} (h : TbS qual ln co P ld) : (ld.map (·.1)).Nodup := by
  rcases h with rfl | ⟨c, oc, vs, t, rfl, _, _, ha⟩
  · simp
  · simp only [List.map_cons, List.map_nil]
    exact List.nodup_cons.mpr ⟨fun hm => ha.ne (List.mem_singleton.mp hm), by simp⟩
theorem tbs_nodup {ld4 ld7 : List (Addr × Obj)} (h4 : TbS q4 50 4 44 ld4) (h7 : TbS q7 35 4 37 ld7) (hd : ∀ q ∈ ld4, ∀ r ∈ ld7, q.1 ≠ r.1) : ((ld4 ++ ld7).map (·.1)).Nodup := by
  rw [List.map_append]
  refine List.nodup_append.mpr ⟨tb_nodup h4, tb_nodup h7, fun a ha b hb => ?_⟩
  obtain ⟨q, hq, rfl⟩ := List.mem_map.mp ha
  obtain ⟨r, hr, rfl⟩ := List.mem_map.mp hb
  exact hd q hq r hr
theorem news_to {P : Params} {g h : Heap} {L' sx dx nd pd cc : Addr} {od op oC : Obj} {t1 t2 t3 t4 t5 t6 : Tok} {rest : List (Addr × Obj)} (N1 : News g L' h ((pd, op) :: (nd, od) :: (sx, instObj 179 dx) :: (dx, sdict P nd .none 0 0 t1 t2 t3 t4 t5 t6 4) :: (cc, oC) :: rest)) :
    News g L' h (toL P sx dx nd pd od op t1 t2 t3 t4 t5 t6 [] [] ((cc, oC) :: rest)) := by
  intro q hq
  refine N1 q ?_
  simp only [toL, adL, gAll_nil, List.map_nil, List.nil_append, List.mem_cons] at hq ⊢
  rcases hq with h | h | h | h | h | h
  · exact .inr (.inr (.inl h))
  · exact .inr (.inr (.inr (.inl h)))
  · exact .inr (.inl h)
  · exact .inl h
  · exact .inr (.inr (.inr (.inr (.inl h))))
  · exact .inr (.inr (.inr (.inr (.inr h))))
theorem gt_no {prog : Program} {w : World} {A : Around} {E : Value → Shared → Prop} {s : Shared} {a b : Int} {t u : Tok} {Q : Value → Shared → Prop} (e : ¬ b < a) (h : Q (.bool false) s) : wpAny (model prog w) A (compareOp .Gt (.int a t) (.int b u)) Q E s := PyProof.Rows.gt_int (by rw [decide_eq_false e]; exact h)
theorem gt_yes {prog : Program} {w : World} {A : Around} {E : Value → Shared → Prop} {s : Shared} {a b : Int} {t u : Tok} {Q : Value → Shared → Prop} (e : b < a) (h : Q (.bool true) s) : wpAny (model prog w) A (compareOp .Gt (.int a t) (.int b u)) Q E s := PyProof.Rows.gt_int (by rw [decide_eq_true e]; exact h)
theorem ne_no {prog : Program} {w : World} {A : Around} {E : Value → Shared → Prop} {s : Shared} {a b : Int} {t u : Tok} {Q : Value → Shared → Prop} (e : a = b) (h : Q (.bool false) s) : wpAny (model prog w) A (compareOp .NotEq (.int a t) (.int b u)) Q E s := PyProof.Rows.ne_int (by rw [bne_eq_false_iff_eq.mpr e]; exact h)
theorem ne_yes {prog : Program} {w : World} {A : Around} {E : Value → Shared → Prop} {s : Shared} {a b : Int} {t u : Tok} {Q : Value → Shared → Prop} (e : ¬ a = b) (h : Q (.bool true) s) : wpAny (model prog w) A (compareOp .NotEq (.int a t) (.int b u)) Q E s := PyProof.Rows.ne_int (by rw [bne_iff_ne.mpr e]; exact h)
theorem ediv8 (n : Int) (k : Nat) : n / 8 ^ k / 8 = n / 8 ^ (k+1) := by
  have h : (0 : Int) < 8 ^ k := Int.pow_pos (by decide)
  rw [Int.pow_succ, Int.ediv_ediv, if_neg (fun q => by lia)]; lia
theorem wp_state {α : Type} {M : Model} {A : Around} {t : Sem α} {Q : α → Shared → Prop} {E : Value → Shared → Prop} {s : Shared} (P : Shared → Prop) (h1 : P s) (h2 : ∀ s', P s' → wpAny M A t Q E s') : wpAny M A t Q E s := h2 _ h1
theorem updF_mid {d : Addr} {o : Obj} : ∀ {pre post : List (Addr × Obj)}, (∀ p ∈ pre, p.1 ≠ d) → (∀ p ∈ post, p.1 ≠ d) → UpdF d o (pre ++ (d, o) :: post) (fun o' => pre ++ (d, o') :: post)
  | [], _, _, h => .head h
  | p :: pre, post, h1, h2 => .tail (h1 p (.head _)) (updF_mid (fun q hq => h1 q (.tail _ hq)) h2)
theorem updF_nd {Led : List (Addr × Obj)} {d : Addr} {o : Obj} {pre post : List (Addr × Obj)} (ND : (Led.map (·.1)).Nodup) (e : Led = pre ++ (d, o) :: post) : UpdF d o Led (fun o' => pre ++ (d, o') :: post) := by
  have h := led_off ND e
  subst e
  exact updF_mid (fun p hp => h p (List.mem_append_left _ hp)) (fun p hp => h p (List.mem_append_right _ hp))
/-- behind int_divmod -/
theorem to_dm {g h h2 : Heap} {L' I : Addr} {oI : Obj} {P : Params} {sx dx nd pd : Addr} {od op : Obj} {t1 t2 t3 t4 t5 t6 : Tok} {G : List Nf} {T : List Pt} {c : Addr × Obj} {ld ld' : List (Addr × Obj)} {q : Pt}
    (N : News g L' h ((I, oI) :: toL P sx dx nd pd od op t1 t2 t3 t4 t5 t6 G T (c :: ld))) (ND : (((I, oI) :: toL P sx dx nd pd od op t1 t2 t3 t4 t5 t6 G T (c :: ld)).map (·.1)).Nodup)
    (K : Kept (ld.map (·.1)) h h2) (fr : Fresh h [q.D]) (N2 : News g L' h2 (ptL q :: ld')) (hn : ∀ r ∈ ld', r.1 ∈ ld.map (·.1) ∨ h.get? r.1 = none) (hD : ∀ r ∈ ld', r.1 ≠ q.D) (nd' : (ld'.map (·.1)).Nodup) :
    News g L' h2 ((I, oI) :: toL P sx dx nd pd od op t1 t2 t3 t4 t5 t6 G (T ++ [q]) (c :: ld')) ∧ (((I, oI) :: toL P sx dx nd pd od op t1 t2 t3 t4 t5 t6 G (T ++ [q]) (c :: ld')).map (·.1)).Nodup := by
  obtain ⟨X, hX⟩ : ∃ X, X = (I, oI) :: adL P sx dx nd od t1 t2 t3 t4 t5 t6 G ((pd, op) :: (T.map ptL ++ [c])) := ⟨_, rfl⟩
  have e1 : (I, oI) :: toL P sx dx nd pd od op t1 t2 t3 t4 t5 t6 G T (c :: ld) = X ++ ld := by rw [hX]; simp [toL, adL]
  have e2 : ((I, oI) :: toL P sx dx nd pd od op t1 t2 t3 t4 t5 t6 G (T ++ [q]) (c :: ld')).Perm (ptL q :: (X ++ ld')) := by
    rw [hX]
    simp only [toL, adL, List.map_append, List.map_cons, List.map_nil]
    have : ∀ A B C : List (Addr × Obj), (A ++ (B ++ [ptL q] ++ C)).Perm (ptL q :: (A ++ (B ++ C))) := fun A B C => by
      rw [show A ++ (B ++ [ptL q] ++ C) = (A ++ B) ++ ptL q :: C by simp, show A ++ (B ++ C) = (A ++ B) ++ C by simp]
      exact List.perm_middle
    have := this ((I, oI) :: (sx, instObj 179 dx) :: (dx, sdict P nd .none 0 0 t1 t2 t3 t4 t5 t6 4) :: (nd, od) :: (gAll G ++ [(pd, op)])) (T.map ptL) (c :: ld')
    simpa using this
  rw [e1] at N ND
  have hXl : ∀ p ∈ X, p.1 ∉ ld.map (·.1) := by
    rw [List.map_append, List.nodup_append] at ND
    exact fun p hp hm => ND.2.2 _ (List.mem_map_of_mem hp) _ hm rfl
  have hXs : ∀ p ∈ X, h.get? p.1 = some p.2 := fun p hp => (N p (List.mem_append_left _ hp)).1
  have NX : News g L' h2 (ptL q :: (X ++ ld')) := by
    intro p hp
    rcases List.mem_cons.mp hp with rfl | hp
    · exact N2 _ (.head _)
    · rcases List.mem_append.mp hp with hp | hp
      · exact ⟨K _ _ (hXs p hp) (hXl p hp), (N p (List.mem_append_left _ hp)).2⟩
      · exact N2 p (.tail _ hp)
  refine ⟨fun p hp => NX p (e2.mem_iff.mp hp), ?_⟩
  refine ((e2.map (·.1)).nodup_iff).mpr ?_
  rw [List.map_cons, List.map_append]
  refine List.nodup_cons.mpr ⟨fun hm => ?_, List.nodup_append.mpr ⟨?_, nd', fun a ha b hb e => ?_⟩⟩
  · rcases List.mem_append.mp hm with hm | hm
    · obtain ⟨p, hp, e⟩ := List.mem_map.mp hm
      have := hXs p hp
      rw [show p.1 = q.D from e, fr q.D (.head _)] at this; cases this
    · obtain ⟨p, hp, e⟩ := List.mem_map.mp hm
      exact hD p hp e
  · rw [List.map_append, List.nodup_append] at ND
    exact ND.1
  · obtain ⟨p, hp, rfl⟩ := List.mem_map.mp ha
    obtain ⟨r, hr, rfl⟩ := List.mem_map.mp hb
    rcases hn r hr with h1 | h1
    · exact hXl p hp (e ▸ h1)
    · have := hXs p hp
      rw [e, h1] at this; cases this
end

section
open PySem PySem.Calls PySem.W PyProof.Rows
set_option Elab.async false
set_option maxRecDepth 100000
set_option maxHeartbeats 3000000
section
variable {M : Model} {A : Around} {E : Value → Shared → Prop} {s : Shared} {env : Env}
/-- o.name(.., *args) -/
theorem MethodCallStar_ {o : Expr} {name : Str} {apos pos : Pos} {args : List Expr} {Q : Value → Shared → Prop}
    (h : wpAny M A (eval o env) (fun ov s₁ => wpAny M A (getAttr ov name true) (fun f s₂ => wpAny M A (callWith pos f [] (backTo pos (starEach args env)) []) Q E s₂) E s₁) E s)
    (he : eval (.Call (.Attribute o name apos) args [] pos) env = (do
      let ov ← eval o env
      standAt apos.atName
      let fx ← holding [ov] (do pure (← getAttr ov name true, ([] : List Value)))
      callWith pos fx.1 fx.2 (backTo pos (starEach args env)) []) := by rfl) :
    wpAny M A (eval (.Call (.Attribute o name apos) args [] pos) env) Q E s := by
  rw [he]
  refine wpAny_bind (wpAny_mono h (fun ov s₁ h₁ => wpAny_bind (wpAny_standAt (wpAny_bind (wpAny_holding (wpAny_bind (wpAny_mono h₁ (fun f s₂ h₂ => wpAny_pure ?_) fun _ _ x => x)))))) fun _ _ x => x)
  exact h₂
theorem callWith_SM {K : Frag} {pos : Pos} {first : List Value} {Q : Value → Shared → Prop} {q g : Addr} {self : Value} {e : Expr} {rest : List Expr} (hf : fnIn K g = true)
    (h : wpAny M A (spliced (backTo pos (starEach (e :: rest) env))) (fun vs s₁ => MethP K q g self s₁.heap ∧ wpAny M A (call (.ref q) (first ++ vs)) Q E s₁) E s)
    (he : starEach (e :: rest) env = (false, eval e env) :: starEach rest env := by rfl) (hst : (backTo pos (starEach rest env)).any (·.1) = true := by rfl) :
    wpAny M A (callWith pos (.ref q) first (backTo pos (starEach (e :: rest) env)) []) Q E s := by
  rw [he] at h ⊢
  exact ks_call (by show (false || (backTo pos (starEach rest env)).any (·.1)) = true; rw [hst]; rfl) (keeps_M hf) (evalArgs_plain h)
end
section
variable {prog : Program} {w : World} {A : Around} {E : Value → Shared → Prop} {s : Shared} {h₀ : Heap} {L : Addr} {m : Str → Option Value} {news : List (Addr × Obj)}
theorem sliceApplied_1 {sl : Addr} {u : Tok} {Q : Int × Int × Nat → Shared → Prop} (hs : s.heap.IsSliceOf sl .none (.int 1 u) .none) (h : Q (0, 1, 1) s) :
    wpAny (model prog w) A (Builtin.Slice.sliceApplied (.ref sl) (pure ((2 : Nat) : Int))) Q E s := by
  obtain ⟨os, hos, hcs, hds⟩ := id hs
  have f3 : wpAny (model prog w) A (Builtin.Slice.sliceFields (.ref sl)) (fun r s' => r = (.none, .int 1 u, .none) ∧ s' = s) E s :=
    wpAny_bind (wpAny_field hos hds rfl (wpAny_bind (wpAny_field hos hds rfl (wpAny_bind (wpAny_field hos hds rfl (wpAny_pure ⟨rfl, rfl⟩))))))
  refine wpAny_bind (wpAny_mono f3 (fun r s' hr => ?_) fun _ _ e => e)
  obtain ⟨rfl, rfl⟩ := hr
  exact wpAny_bind (slicePart_none (wpAny_bind (slicePart_none (wpAny_bind (slicePart_int (wpAny_bind (wpAny_pure (wpAny_pure h))))))))
theorem getItem_tup1 {t sl : Addr} {a b : Value} {u : Tok} {Q : Value → Shared → Prop} (ht : IsTup s.heap t [a, b].toArray) (hs : s.heap.IsSliceOf sl .none (.int 1 u) .none)
    (h : Q (.ref s.heap.objs.size) { s with heap := s.heap.push { cls := .type "tuple", data := .seq [a].toArray } }) : wpAny (model prog w) A (getItem (.ref t) (.ref sl)) Q E s := by
  have hT := ht.typeIs
  have hz : sizeOk (.seq [a].toArray) := Nat.le_of_ble_eq_true (by rw [sizeLine_eq]; rfl)
  have hI : s.TypeIs (.ref sl) "slice" := let ⟨o, ho, hc, _⟩ := hs; ⟨o, ho, hc⟩
  have hb : wpAny (model prog w) A.in1 (Builtin.«tuple.__getitem__» ⟨[.ref t, .ref sl], []⟩) (fun fin s' => ∃ v, fin = .done (.ret v) ∧ Q v s') E s := by
    show wpAny _ _ (Builtin.Tuple.tupleItemsOf (.ref t) >>= _) _ _ s
    refine wpAny_bind (tupleItemsOf_ ht (wpAny_bind (wpAny_typeOf hI ?_)))
    rw [if_pos (by decide)]
    refine wpAny_bind (sliceApplied_1 hs ?_)
    exact wpAny_bind (m := Builtin.Tuple.tupleExact _) (wpAny_newObj_type (wpAny_pure ⟨_, rfl, h⟩) hz)
  unfold getItem
  refine wpAny_holding (wpAny_bind (wpAny_sequenceKey hT (by decide) ?_))
  refine wpAny_bind (wpAny_callSpecial?_slot (name := Str.ofString "__getitem__") hT slot_tuple_getitem (wpAny_call_entry slot_tuple_getitem hT entry_tuple_getitem ?_ (args_tuple_getitem _ _)))
  exact wpAny_mono hb (fun _ _ ⟨v, e, q⟩ => ⟨v, e, wpAny_pure q⟩) fun _ _ e => e
/-- t[:1] of a pair -/
theorem slice_tup1 {value slice : Expr} {t : Addr} {a b : Value} {u : Tok} {Q : Value → Shared → Prop}
    (F : Fr h₀ L s.heap m) (N : News h₀ L s.heap news) (ht : (t, tupO [a, b]) ∈ news)
    (h : ∀ D h', Fr h₀ L h' m → News h₀ L h' ((D, tupO [a]) :: news) → (∀ p ∈ news, p.1 < D) → Q (.ref D) { s with heap := h' })
    (hs : subscripted slice false (.ref t) (.ref s.heap.objs.size) = operate [.ref s.heap.objs.size, .ref t] (getItem (.ref t) (.ref s.heap.objs.size)) := by with_unfolding_all rfl)
    (hg : ∀ r, letTemporaryGo value (.ref t) r = pure () := by intro _; with_unfolding_all rfl) :
    wpAny (model prog w) A (subscriptTail value slice (.ref t) (.ref s.heap.objs.size)) Q E { s with heap := s.heap.push { cls := .type "slice", data := .fields #[.none, .int 1 u, .none] } } := by
  have ht0 : IsTup s.heap t [a, b].toArray := ⟨_, (N _ ht).1, rfl, _, rfl⟩
  have ht' : IsTup (s.heap.push { cls := .type "slice", data := .fields #[.none, .int 1 u, .none] }) t [a, b].toArray := ht0.keeps fun _ _ e => Heap.get?_push_of_some _ e
  refine subscriptTail_ops (s := { s with heap := s.heap.push { cls := .type "slice", data := .fields #[.none, .int 1 u, .none] } }) ht'.typeIs slot_tuple_getitem.lookup
    (getItem_tup1 ht' (Heap.IsSliceOf.new ..) ?_) hs hg
  have N1 := News.push (F.push { cls := .type "slice", data := .fields #[.none, .int 1 u, .none] }) (N.grown fun _ _ e => Heap.get?_push_of_some _ e) (tupO [a])
  rw [Heap.size_push] at N1
  show Q (.ref (s.heap.push _).objs.size) _
  rw [Heap.size_push]
  exact h _ _ ((F.push _).push _) N1 fun p hp => Nat.lt_succ_of_lt (Heap.lt_size (N p hp).1)
/-- [x for x in t if ..]: t of the ledger, a tuple -/
theorem comp_tup {d : Addr} {vs : List Value} {env : Env} {scope : Scope} {x : Str} {ifs : List Expr} {elt : Expr} {Q : Value → Shared → Prop} (pz : Value → Bool) (G : Value → Value → Prop) (hh : A.handled = none)
    (F : Fr h₀ L s.heap m) (N : News h₀ L s.heap news) (hv : (d, tupO vs) ∈ news) (hl : vs.length ≤ 900)
    (g1 : ∀ C (i : Nat) y s₃ m₃ E', vs[i]? = some y → s₃.heap.Ns C m₃ → m₃ x = some y → (∀ b o, s.heap.get? b = some o → s₃.heap.get? b = some o) →
      wpAny (model prog w) A (forIn ifs true fun c r => if r = true then do let ok ← isTrue c (compEnv scope C env) (eval c (compEnv scope C env)); pure (ForInStep.yield ok) else pure (ForInStep.yield r))
        (fun ok s₄ => ok = pz y ∧ Keeps s₃ s₄) E' s₃)
    (g2 : ∀ C (i : Nat) y s₃ m₃ E', vs[i]? = some y → pz y = true → s₃.heap.Ns C m₃ → m₃ x = some y → (∀ b o, s.heap.get? b = some o → s₃.heap.get? b = some o) →
      wpAny (model prog w) A (eval elt (compEnv scope C env)) (fun r s₄ => G y r ∧ Keeps s₃ s₄) E' s₃)
    (g3 : ∀ D (ys : List Value) h' tk c, Fr h₀ L h' m → News h₀ L h' ((D, W.listOf ys.toArray c) :: news) → (∀ p ∈ news, p.1 ≠ D) → s.heap.get? D = none → Paired G (vs.filter pz) ys → Q (.ref D) { s with heap := h', toks := tk }) :
    wpAny (model prog w) A (pyIter (.ref d)) (CompPost prog w A env scope x ifs elt Q) E s := by
  have hD := (N _ hv).1
  have ht : s.heap.IsTuple d vs.toArray := ⟨_, hD, rfl, _, rfl⟩
  have hdl : d < s.heap.objs.size := Heap.lt_size hD
  refine wpAny_pyIter_tuple ht ?_
  have up : ∀ (h' : Heap), (∀ b o', b ∉ [s.heap.objs.size] → (s.heap.push { cls := .type "tuple_iterator", data := .fields #[.ref d, .int 0 0] }).get? b = some o' → h'.get? b = some o') → ∀ b o', s.heap.get? b = some o' → h'.get? b = some o' :=
    fun h' hk b o' e => hk b o' (not_iter_of_old e) (Heap.get?_push_of_some _ e)
  refine ⟨pz, G, s.heap.objs.size, [s.heap.objs.size, d], [s.heap.objs.size], vs.toArray.size, _, _, rfl, Walks.tuple hh _ d (Nat.ne_of_lt hdl) vs.toArray, (by rw [List.size_toArray, sizeLine_eq]; omega), ⟨⟨_, Heap.get?_push_size _ rfl, rfl, rfl⟩, ht.push _⟩, ?_, ⟨?_, ?_⟩, ?_⟩
  · intro b hb
    show b < (s.heap.push _).objs.size
    rw [Heap.size_push]
    rcases List.mem_cons.mp hb with rfl | hb
    · exact Nat.lt_succ_self _
    · rw [List.mem_singleton.mp hb]; exact Nat.lt_succ_of_lt hdl
  · intro C i y s₃ m₃ E' hP hn hm hk _
    exact g1 C i y s₃ m₃ E' (by simpa using hP) hn hm (up s₃.heap hk)
  · intro C i y s₃ m₃ E' hP hp hn hm hk _
    exact g2 C i y s₃ m₃ E' (by simpa using hP) hp hn hm (up s₃.heap hk)
  · intro D h' tk ys vs' hnew hlD hplD hlen hP hF hk
    have e' : vs' = vs := by simpa using walked_is hlen hP
    subst e'
    have hDn : s.heap.get? D = none := by
      cases e : s.heap.get? D with
      | none => rfl
      | some o' => rw [Heap.get?_push_of_some _ e] at hnew; cases hnew
    have hDne : ∀ p ∈ news, p.1 ≠ D := fun p hp e => by have := (N p hp).1; rw [e, hDn] at this; cases this
    obtain ⟨c, hc⟩ := hplD
    refine g3 D ys.toList h' tk c (F.keeps (up h' hk)) (fun p hp => ?_) hDne hDn hF
    rcases List.mem_cons.mp hp with rfl | hp
    · refine ⟨by rw [Array.toArray_toList]; exact hc, fun e => ?_, ?_⟩
      · obtain ⟨o, _, _, ho, _⟩ := F.ns
        rw [show D = L from e, ho] at hDn; cases hDn
      · cases e : h₀.get? D with
        | none => rfl
        | some o' => rw [F.keep _ _ e] at hDn; cases hDn
    · exact N.grown (up h' hk) p hp
end
end

section
open PySem PySem.Calls PySem.W PyProof.Rows
set_option Elab.async false
set_option maxRecDepth 100000
set_option maxHeartbeats 3000000
/-- a figure's three signs, as codes -/
noncomputable def digC (d : Int) : List Nat := [if 4 ≤ d then 114 else 45, if d / 2 % 2 = 1 then 119 else 45, if d % 2 = 1 then 120 else 45]
noncomputable def digS (d : Int) : Str := ⟨(digC d).toArray⟩
noncomputable def sgnC : Nat → Int → List Nat
  | 0, _ => []
  | n + 1, x => if x = 0 then [] else sgnC n (x / 8) ++ digC (x % 8)
noncomputable def sgn (x : Int) : Str := ⟨(sgnC 4 x).toArray⟩
theorem sgnC_up : ∀ (n : Nat) (x : Int), 0 ≤ x → x < 8 ^ n → sgnC (n + 1) x = sgnC n x
  | 0, x, h0, h1 => by
    have : x = 0 := by simp at h1; lia
    subst this; rfl
  | n + 1, x, h0, h1 => by
    show (if x = 0 then [] else sgnC (n + 1) (x / 8) ++ digC (x % 8)) = if x = 0 then [] else sgnC n (x / 8) ++ digC (x % 8)
    by_cases e : x = 0
    · rw [if_pos e, if_pos e]
    · have hp8 : (8 : Int) ^ (n + 1) = 8 ^ n * 8 := Int.pow_succ _ _
      rw [if_neg e, if_neg e, sgnC_up n (x / 8) (by (clear hp8 e h1; lia)) (by (clear hp8 e h0; lia))]
theorem sgn_zero : sgn 0 = Str.ofString "" := by decide
theorem sgn_step {x : Int} (h0 : 0 < x) (h1 : x < 4096) : sgn x = sgn (x / 8) ++ digS (x % 8) := by
  apply str_of_list
  rw [cps_toList_append]
  show sgnC 4 x = sgnC 4 (x / 8) ++ digC (x % 8)
  rw [sgnC_up 3 (x / 8) (by lia) (by show x / 8 < 8 ^ 3; lia)]
  show (if x = 0 then [] else sgnC 3 (x / 8) ++ digC (x % 8)) = _
  rw [if_neg (by lia)]
theorem sgn_len : ∀ (n : Nat) (x : Int), 0 ≤ x → x < 8 ^ n → (sgnC n x).length ≤ 3 * n
  | 0, x, _, _ => Nat.le_refl _
  | n + 1, x, h0, h1 => by
    show (if x = 0 then [] else sgnC n (x / 8) ++ digC (x % 8)).length ≤ _
    split
    · exact Nat.zero_le _
    · have hp8 : (8 : Int) ^ (n + 1) = 8 ^ n * 8 := Int.pow_succ _ _
      rw [List.length_append]
      have := sgn_len n (x / 8) (by lia) (by (clear hp8 h0; lia))
      have h3 : (digC (x % 8)).length = 3 := rfl
      lia
theorem sgn_len12 {x : Int} (h0 : 0 ≤ x) (h1 : x < 4096) : (sgn x).length ≤ 12 := by
  show (sgnC 4 x).toArray.size ≤ 12
  rw [List.size_toArray]
  exact sgn_len 4 x h0 (by show x < 8 ^ 4; assumption)
theorem sgn_9 {x : Int} (h0 : 64 ≤ x) (h1 : x < 512) : sgn x = ⟨(digC (x / 64) ++ digC (x / 8 % 8) ++ digC (x % 8)).toArray⟩ := by
  apply str_of_list
  show sgnC 4 x = _
  rw [sgnC_up 3 x (by lia) (by show x < 8 ^ 3; assumption)]
  have h2 : x / 8 ≠ 0 := by lia
  have h3 : x / 8 / 8 ≠ 0 := by lia
  simp only [sgnC, if_neg (show x ≠ 0 by lia), if_neg h2, if_neg h3]
  rw [show x / 8 / 8 % 8 = x / 64 by (clear h3 h2; lia)]
  simp
theorem sgn_len_lev : ∀ (n : Nat) (x : Int), 8 ^ n ≤ x → x < 8 ^ (n + 1) → (sgnC (n + 1) x).length = 3 * (n + 1)
  | 0, x, h0, h1 => by
    have h0 : (1 : Int) ≤ x := by simpa using h0
    show (if x = 0 then [] else sgnC 0 (x / 8) ++ digC (x % 8)).length = _
    rw [if_neg (by lia)]; rfl
  | n + 1, x, h0, h1 => by
    have hp8 : (8 : Int) ^ (n + 1) = 8 ^ n * 8 := Int.pow_succ _ _
    have hp9 : (8 : Int) ^ (n + 1 + 1) = 8 ^ (n + 1) * 8 := Int.pow_succ _ _
    have hpp : (0 : Int) < 8 ^ n := Int.pow_pos (by decide)
    show (if x = 0 then [] else sgnC (n + 1) (x / 8) ++ digC (x % 8)).length = _
    rw [if_neg (by lia), List.length_append, sgn_len_lev n (x / 8) (by lia) (by omega)]
    rfl
theorem join_cps : ∀ l : List Str, (Str.join ⟨#[]⟩ l).cps.toList = l.flatMap fun s => s.cps.toList
  | [] => rfl
  | a :: r => by
    rw [PyProof.Rows.join_nil_cons, cps_toList_append, join_cps r, List.flatMap_cons]
theorem fm_cps (x : Int) : (fmStr x).cps.toList = (fmSigns x).flatMap fun s => s.cps.toList := by
  have h : Txt.join (Str.ofString "") (fmSigns x) = Str.join ⟨#[]⟩ (fmSigns x) := eq_of_beq (join_closes (by decide))
  unfold fmStr
  rw [h, join_cps]
theorem fm_digs : ∀ i ∈ List.range 512, ((fmSigns (i : Nat)).flatMap fun s => s.cps.toList) = 63 :: (digC ((i : Nat) / 64) ++ digC ((i : Nat) / 8 % 8) ++ digC ((i : Nat) % 8)) := by decide +kernel
theorem fm_codes {x : Int} (h0 : 0 ≤ x) (h1 : x < 512) : (fmStr x).cps.toList = 63 :: (digC (x / 64) ++ digC (x / 8 % 8) ++ digC (x % 8)) := by
  obtain ⟨n, rfl⟩ := Int.eq_ofNat_of_zero_le h0
  rw [fm_cps]
  exact fm_digs n (List.mem_range.mpr (by lia))
theorem fm_len {x : Int} (h0 : 0 ≤ x) (h1 : x < 512) : (fmStr x).length = 10 := by
  show (fmStr x).cps.size = 10
  rw [← Array.length_toList, fm_codes h0 h1]; rfl
theorem fm_drop7 {x : Int} (h0 : 0 ≤ x) (h1 : x < 8) : Txt.slice (fmStr x) (some 7) none = digS x := by
  have hl := fm_len h0 (by lia : x < 512)
  rw [slice_from_eq (b := 10) (by decide) (by lia) (by lia), fm_codes h0 (by lia)]
  rw [show x / 64 = 0 by lia, show x / 8 % 8 = 0 by lia, show x % 8 = x by lia]
  rfl
theorem fm_drop1 {x : Int} (h0 : 64 ≤ x) (h1 : x < 512) : Txt.slice (fmStr x) (some 1) none = sgn x := by
  have hl := fm_len (by lia : 0 ≤ x) h1
  rw [slice_from_eq (b := 10) (by decide) (by lia) (by lia), fm_codes (by lia) h1, sgn_9 h0 h1]
  rfl
end

section
open PySem PySem.Calls PySem.W PyProof.Rows
set_option Elab.async false
set_option maxRecDepth 100000
set_option maxHeartbeats 3000000
noncomputable def Lev (i : Nat) (x : Int) : Prop := 8 ^ i ≤ x ∧ x < 8 ^ (i + 1)
noncomputable def rowOf (ns : List Int) (i : Nat) : List Int := ((List.range 4096).map Int.ofNat).filter fun x => @decide (Met ns x ∧ Lev i x) (Classical.propDecidable _)
noncomputable def lawRows (ns : List Int) : List (List Int) := ((List.range 4).map (rowOf ns)).filter fun r => !r.isEmpty
noncomputable def rowData (r : List Int) : PyData := .list (r.map fun x => .tuple [.int x, .str (sgn x), .bool true])
noncomputable def lawData (ns : List Int) : PyData := .list ((lawRows ns).map rowData)
theorem lt_ext : ∀ {a b : List Int}, a.Pairwise (· < ·) → b.Pairwise (· < ·) → (∀ x, x ∈ a ↔ x ∈ b) → a = b
  | [], [], _, _, _ => rfl
  | [], y :: b, _, _, h => absurd ((h y).mpr (.head _)) (by first | k_clsL | simp)
  | x :: a, [], _, _, h => absurd ((h x).mp (.head _)) (by first | k_clsL | simp)
  | x :: a, y :: b, ha, hb, h => by
    obtain ⟨ha1, ha2⟩ := List.pairwise_cons.mp ha
    obtain ⟨hb1, hb2⟩ := List.pairwise_cons.mp hb
    have e : x = y := by
      rcases List.mem_cons.mp ((h x).mp (.head _)) with e | e
      · exact e
      · rcases List.mem_cons.mp ((h y).mpr (.head _)) with e' | e'
        · exact e'.symm
        · have := hb1 _ e; have := ha1 _ e'; lia
    subst e
    congr 1
    refine lt_ext ha2 hb2 fun z => ⟨fun hz => ?_, fun hz => ?_⟩
    · rcases List.mem_cons.mp ((h z).mp (.tail _ hz)) with e | e
      · have := ha1 _ hz; lia
      · exact e
    · rcases List.mem_cons.mp ((h z).mpr (.tail _ hz)) with e | e
      · have := hb1 _ hz; lia
      · exact e
theorem row_mem {ns : List Int} {i : Nat} (hi : i < 4) (x : Int) : x ∈ rowOf ns i ↔ Met ns x ∧ Lev i x := by
  unfold rowOf
  rw [List.mem_filter]
  constructor
  · rintro ⟨_, h⟩; exact @of_decide_eq_true _ (Classical.propDecidable _) h
  · intro h
    refine ⟨?_, @decide_eq_true _ (Classical.propDecidable _) h⟩
    have h1 : (0 : Int) < 8 ^ i := Int.pow_pos (by decide)
    have h2 : x < 4096 := by
      refine Int.lt_of_lt_of_le h.2.2 ?_
      have : i = 0 ∨ i = 1 ∨ i = 2 ∨ i = 3 := by lia
      rcases this with rfl | rfl | rfl | rfl <;> decide
    have h3 := h.2.1
    exact List.mem_map.mpr ⟨x.toNat, List.mem_range.mpr (by lia), by show ((x.toNat : Nat) : Int) = x; lia⟩
theorem row_up (ns : List Int) (i : Nat) : (rowOf ns i).Pairwise (· < ·) := by
  unfold rowOf
  refine List.Pairwise.filter _ ?_
  rw [List.pairwise_map]
  exact List.Pairwise.imp (fun h => by show (_ : Int) < _; exact Int.ofNat_lt.mpr h) List.pairwise_lt_range
theorem row_uniq {ns : List Int} {i : Nat} {l : List Int} (hi : i < 4) (hp : l.Pairwise (· < ·)) (hm : ∀ x, x ∈ l ↔ Met ns x ∧ Lev i x) : l = rowOf ns i :=
  lt_ext hp (row_up ns i) fun x => (hm x).trans (row_mem hi x).symm
theorem lawRows_of {ns : List Int} {j : Nat} (hj : j ≤ 4) (h1 : ∀ i, i < j → rowOf ns i ≠ []) (h2 : ∀ i, j ≤ i → i < 4 → rowOf ns i = []) : lawRows ns = (List.range j).map (rowOf ns) := by
  have e : (List.range 4) = List.range j ++ (List.range (4 - j)).map (j + ·) := by
    have : 4 = j + (4 - j) := by lia
    rw [this, List.range_add, show j + (4 - j) - j = 4 - j by lia]
  unfold lawRows
  rw [e, List.map_append, List.filter_append]
  have a : ((List.range j).map (rowOf ns)).filter (fun r => !r.isEmpty) = (List.range j).map (rowOf ns) := by
    rw [List.filter_eq_self]
    intro r hr
    obtain ⟨i, hi, rfl⟩ := List.mem_map.mp hr
    have := h1 i (List.mem_range.mp hi)
    simp [this]
  have b : (((List.range (4 - j)).map (j + ·)).map (rowOf ns)).filter (fun r => !r.isEmpty) = [] := by
    rw [List.filter_eq_nil_iff]
    intro r hr
    obtain ⟨k, hk, rfl⟩ := List.mem_map.mp hr
    obtain ⟨i, hi, rfl⟩ := List.mem_map.mp hk
    have := List.mem_range.mp hi
    simp [h2 (j + i) (by lia) (by lia)]
  rw [a, b, List.append_nil]
/-- the node of a key -/
noncomputable def fOf (G : List Nf) (k : Int) : Nf := (G.find? fun f => decide (f.d.k = k)).getD ⟨⟨k, 0, 0, 0, 0, 0, 0⟩, [], 0⟩
theorem fOf_mem : ∀ {G : List Nf} {f : Nf}, (gK G).Nodup → f ∈ G → fOf G f.d.k = f
  | [], _, _, h => nomatch h
  | x :: r, f, hn, h => by
    obtain ⟨h1, h2⟩ := List.nodup_cons.mp hn
    unfold fOf
    rw [List.find?_cons]
    rcases List.mem_cons.mp h with rfl | h
    · simp
    · have : decide (x.d.k = f.d.k) = false := decide_eq_false fun e => h1 (by show x.d.k ∈ _; rw [e]; exact List.mem_map_of_mem h)
      rw [this]
      exact fOf_mem h2 h
theorem graph_of {w : World} {g h : Heap} {L' nd : Addr} {od : Obj} {G : List Nf} {P : List Int} {led : List (Addr × Obj)} (N : News g L' h led) (hsub : ∀ p ∈ (nd, od) :: gAll G, p ∈ led) (hod : od.IsDictOf (IK w) (gKv G)) (hn : (gK G).Nodup) (low : (nd == sysModules) = false)
    (hlen : (gK G).length ≤ 900) (hok : ∀ f ∈ G, IntsAre f.su (kidsOf P f.d.k)) (hP : P.length ≤ 900) :
    GraphAt w h nd (gK G) (fun k => (fOf G k).d.ia) (fun k => (fOf G k).d.da) (fun k => (fOf G k).d.sa) (fun k => (fOf G k).d.u) (fun k => (fOf G k).d.t) (fun k => (fOf G k).d.np) (fun k => (fOf G k).su) (fun k => (fOf G k).n) (kidsOf P) := by
  have at_ : ∀ f ∈ G, ∀ p ∈ nfL f, h.get? p.1 = some p.2 := fun f hf p hp => (N p (hsub p (.tail _ (List.mem_flatMap.mpr ⟨f, hf, hp⟩)))).1
  have key : ∀ {p : Int → Prop}, (∀ f ∈ G, p f.d.k) → ∀ k ∈ gK G, p k := fun hp k hk => by
    obtain ⟨f, hf, rfl⟩ := List.mem_map.mp hk; exact hp f hf
  refine ⟨Heap.dictOf_iff.mpr ⟨od, (N _ (hsub _ (.head _))).1, ?_⟩, low, hlen, key fun f hf => ?_, key fun f hf => ?_, key fun f hf => ?_, key fun f hf => ?_, key fun f hf => ?_⟩
  · have e : (gK G).map (fun k => (k, Value.ref (fOf G k).d.ia)) = gKv G := by
      unfold gK gKv
      rw [List.map_map]
      exact List.map_congr_left fun f hf => by show (f.d.k, Value.ref (fOf G f.d.k).d.ia) = _; rw [fOf_mem hn hf]
    rw [e]; exact hod
  · show h.get? (fOf G f.d.k).d.ia = some (infoO f.d.k (fOf G f.d.k).d.u (fOf G f.d.k).d.np (fOf G f.d.k).d.t (fOf G f.d.k).d.da (fOf G f.d.k).d.sa)
    rw [fOf_mem hn hf]; exact at_ f hf (f.d.ia, ndO f.d) (by first | k_clsL | simp [nfL])
  · show h.get? (fOf G f.d.k).d.da = _
    rw [fOf_mem hn hf]; exact at_ f hf (f.d.da, _) (by first | k_clsL | simp [nfL])
  · show h.get? (fOf G f.d.k).d.sa = some (W.listOf (fOf G f.d.k).su.toArray (fOf G f.d.k).n)
    rw [fOf_mem hn hf]; exact at_ f hf (f.d.sa, _) (by first | k_clsL | simp [nfL])
  · show IntsAre (fOf G f.d.k).su _
    rw [fOf_mem hn hf]; exact hok f hf
  · show (fOf G f.d.k).su.length ≤ 900
    rw [fOf_mem hn hf, (hok f hf).length]
    exact Nat.le_trans (List.length_filter_le _ _) hP
theorem graph_adr {nd : Addr} {G : List Nf} (hn : (gK G).Nodup) {b : Addr} (h : b = nd ∨ ∃ k ∈ gK G, b = (fOf G k).d.ia ∨ b = (fOf G k).d.da ∨ b = (fOf G k).d.sa) : b ∈ nd :: gAdr G := by
  rcases h with rfl | ⟨k, hk, h⟩
  · exact .head _
  · obtain ⟨f, hf, rfl⟩ := List.mem_map.mp hk
    rw [fOf_mem hn hf] at h
    refine .tail _ (List.mem_flatMap.mpr ⟨f, hf, ?_⟩)
    simp only [nfA, List.mem_cons, List.not_mem_nil, or_false]
    exact h
theorem kids_up {P : List Int} (hpos : ∀ y ∈ P, 0 < y) : ∀ k ∈ P, ∀ y ∈ kidsOf P k, y ∈ P ∧ k < y := by
  intro k hk y hy
  obtain ⟨h1, h2⟩ := List.mem_filter.mp hy
  have := of_decide_eq_true h2
  have := hpos k hk
  exact ⟨h1, by lia⟩
/-- the static half of the nodes -/
noncomputable def nfS (f : Nf) : List (Addr × Obj) := [(f.d.da, dictOf [] 0), (f.d.sa, W.listOf f.su.toArray f.n)]
noncomputable abbrev rdH (P : Params) (sx dx nd rl : Addr) (np nf : Int) (t1 t2 t3 t4 t5 t6 : Tok) (vs : List Value) (c : Nat) (Gd : List Nd) : List (Addr × Obj) :=
  (sx, instObj 179 dx) :: (dx, sdict P nd (.ref rl) np nf t1 t2 t3 t4 t5 t6 4) :: (rl, W.listOf vs.toArray c) :: gI Gd
theorem rdH_adr {P : Params} {sx dx nd rl : Addr} {np nf : Int} {t1 t2 t3 t4 t5 t6 : Tok} {vs : List Value} {c : Nat} {Gd : List Nd} : (rdH P sx dx nd rl np nf t1 t2 t3 t4 t5 t6 vs c Gd).map (·.1) = sx :: dx :: rl :: Gd.map (·.ia) := by
  simp only [rdH, List.map_cons, gI_ias]
theorem rd_turn {g h h2 : Heap} {L' : Addr} {H H' rest new : List (Addr × Obj)} {as : List Addr} (N : News g L' h (H ++ rest)) (ND : ((H ++ rest).map (·.1)).Nodup) (K : Kept as h h2) (has : ∀ b ∈ as, b ∈ H.map (·.1)) (N2 : News g L' h2 new) (hs : ∀ p ∈ H', p ∈ new) : News g L' h2 (H' ++ rest) := by
  intro p hp
  rcases List.mem_append.mp hp with hp | hp
  · exact N2 p (hs p hp)
  · refine ⟨K _ _ (N p (List.mem_append_right _ hp)).1 fun hm => ?_, (N p (List.mem_append_right _ hp)).2⟩
    rw [List.map_append, List.nodup_append] at ND
    exact ND.2.2 _ (has _ hm) _ (List.mem_map_of_mem hp) rfl
theorem toL_gr {P : Params} {sx dx nd pd : Addr} {od op : Obj} {t1 t2 t3 t4 t5 t6 : Tok} {G : List Nf} {T : List Pt} {rest : List (Addr × Obj)} {p : Addr × Obj} (h : p ∈ (nd, od) :: gAll G) : p ∈ toL P sx dx nd pd od op t1 t2 t3 t4 t5 t6 G T rest := by
  refine .tail _ (.tail _ ?_)
  rcases List.mem_cons.mp h with rfl | h
  · exact .head _
  · exact .tail _ (List.mem_append_left _ h)
theorem toL_two {P : Params} {sx dx nd pd : Addr} {od op : Obj} {t1 t2 t3 t4 t5 t6 : Tok} {G : List Nf} {T : List Pt} {rest : List (Addr × Obj)} {p : Addr × Obj} (h : p ∈ [(sx, instObj 179 dx), (dx, sdict P nd .none 0 0 t1 t2 t3 t4 t5 t6 4)]) : p ∈ toL P sx dx nd pd od op t1 t2 t3 t4 t5 t6 G T rest := by
  rcases List.mem_cons.mp h with rfl | h
  · exact .head _
  · rw [List.mem_singleton.mp h]; exact .tail _ (.head _)
noncomputable def stL (nd pd : Addr) (od op : Obj) (G : List Nf) (T : List Pt) : List (Addr × Obj) := (nd, od) :: (pd, op) :: (T.map ptL ++ G.flatMap nfS)
theorem gAdr_perm : ∀ G : List Nf, (gAdr G).Perm (G.map (fun f => f.d.ia) ++ (G.flatMap nfS).map (·.1))
  | [] => .refl _
  | f :: G => by
    rw [gAdr_cons, List.flatMap_cons, List.map_append, List.map_cons]
    have ih := gAdr_perm G
    have h2 : (nfA f ++ gAdr G).Perm (nfA f ++ (G.map (fun f => f.d.ia) ++ (G.flatMap nfS).map (·.1))) := ih.append_left _
    refine h2.trans ?_
    rw [List.perm_iff_count]
    intro a
    simp only [nfA, nfS, List.map_cons, List.map_nil, List.count_append, List.count_cons, List.count_nil]
    lia
/-- what prepare leaves -/
theorem rd_news {P : Params} {g g2 h h2 : Heap} {L' sx dx nd pd rl : Addr} {od op : Obj} {t1 t2 t3 t4 t5 t6 : Tok} {G : List Nf} {T : List Pt} {c : Addr × Obj} {ld : List (Addr × Obj)} {vs : List Value} {rc : Nat}
    (N : News g L' h (toL P sx dx nd pd od op t1 t2 t3 t4 t5 t6 G T (c :: ld))) (ND : ((toL P sx dx nd pd od op t1 t2 t3 t4 t5 t6 G T (c :: ld)).map (·.1)).Nodup)
    (keep : ∀ p ∈ toL P sx dx nd pd od op t1 t2 t3 t4 t5 t6 G T (c :: ld), p.1 ≠ dx → h2.get? p.1 = some p.2) (hg : ∀ b, g.get? b = none → g2.get? b = none)
    (hdx : h2.get? dx = some (sdict P nd (.ref rl) 0 0 t1 t2 t3 t4 t5 t6 4)) (hrl : h2.get? rl = some (W.listOf vs.toArray rc)) (hrL : rl ≠ L') (hrg : g2.get? rl = none) :
    News g2 L' h2 (rdH P sx dx nd rl 0 0 t1 t2 t3 t4 t5 t6 vs rc (G.map (·.d)) ++ (c :: stL nd pd od op G T)) := by
  have nx := led_off ND (A := [(sx, instObj 179 dx)]) (q := (dx, sdict P nd .none 0 0 t1 t2 t3 t4 t5 t6 4)) (C := (nd, od) :: (gAll G ++ ((pd, op) :: (T.map ptL ++ (c :: ld))))) rfl
  have old : ∀ p ∈ [(sx, instObj 179 dx)] ++ ((nd, od) :: (gAll G ++ ((pd, op) :: (T.map ptL ++ (c :: ld))))), h2.get? p.1 = some p.2 ∧ p.1 ≠ L' ∧ g2.get? p.1 = none := by
    intro p hp
    have hm : p ∈ toL P sx dx nd pd od op t1 t2 t3 t4 t5 t6 G T (c :: ld) := by
      simp only [toL, adL, List.mem_cons, List.mem_append, List.not_mem_nil, or_false] at hp ⊢
      rcases hp with h | h
      · exact .inl h
      · exact .inr (.inr h)
    exact ⟨keep p hm (nx p hp), (N p hm).2.1, hg _ (N p hm).2.2⟩
  have hmx := N (dx, sdict P nd .none 0 0 t1 t2 t3 t4 t5 t6 4) (by first | k_clsL | simp [toL, adL])
  intro p hp
  simp only [rdH, stL, List.cons_append, List.mem_cons, List.mem_append] at hp
  rcases hp with rfl | rfl | rfl | hp | rfl | rfl | rfl | hp | hp
  · exact old _ (by first | k_clsL | simp)
  · exact ⟨hdx, hmx.2.1, hg _ hmx.2.2⟩
  · exact ⟨hrl, hrL, hrg⟩
  · obtain ⟨d, hd, rfl⟩ := List.mem_map.mp hp
    obtain ⟨f, hf, rfl⟩ := List.mem_map.mp hd
    refine old (f.d.ia, ndO f.d) ?_
    have : (f.d.ia, ndO f.d) ∈ gAll G := List.mem_flatMap.mpr ⟨f, hf, by first | k_clsL | simp [nfL]⟩
    simp [this]
  · exact old _ (by first | k_clsL | simp)
  · exact old _ (by first | k_clsL | simp)
  · exact old _ (by first | k_clsL | simp)
  · exact old p (by simp only [List.mem_cons, List.mem_append, hp, true_or, or_true])
  · obtain ⟨f, hf, hq⟩ := List.mem_flatMap.mp hp
    have : p ∈ gAll G := List.mem_flatMap.mpr ⟨f, hf, by simp only [nfS, nfL, List.mem_cons, List.not_mem_nil, or_false] at hq ⊢; exact .inr hq⟩
    exact old p (by simp only [List.mem_cons, List.mem_append, this, true_or, or_true])
end

section
open PySem PySem.Calls PySem.W PyProof.Rows
set_option Elab.async false
set_option maxRecDepth 100000
set_option maxHeartbeats 3000000
structure KsOk (P : List Int) (j : Nat) (ks : List Int) : Prop where
  nd : ks.Nodup
  mem : ∀ x, x ∈ ks ↔ x ∈ P ∧ Lev j x
noncomputable def Fj (j : Nat) (k : Int) : Int := if k < 8 ^ j then -2 else if k < 8 ^ (j + 1) then 0 else 1
theorem pw8 (j : Nat) : (8 : Int) ^ (j + 1) = 8 ^ j * 8 ∧ (0 : Int) < 8 ^ j := ⟨Int.pow_succ _ _, Int.pow_pos (by decide)⟩
theorem lev_div {j : Nat} {y : Int} : Lev (j + 1) y ↔ Lev j (y / 8) := by
  have h1 := pw8 j
  have h2 := pw8 (j + 1)
  unfold Lev
  constructor
  · rintro ⟨a, b⟩; exact ⟨by omega, by omega⟩
  · rintro ⟨a, b⟩; exact ⟨by omega, by omega⟩
theorem kids_mem {P : List Int} {k y : Int} : y ∈ kidsOf P k ↔ y ∈ P ∧ y / 8 = k := by
  unfold kidsOf
  rw [List.mem_filter]
  exact ⟨fun h => ⟨h.1, of_decide_eq_true h.2⟩, fun h => ⟨h.1, decide_eq_true h.2⟩⟩
theorem flat_nodup {P : List Int} (hn : P.Nodup) : ∀ {ks : List Int}, ks.Nodup → (ks.flatMap (kidsOf P)).Nodup
  | [], _ => .nil
  | k :: ks, h => by
    obtain ⟨h1, h2⟩ := List.nodup_cons.mp h
    rw [List.flatMap_cons]
    refine List.nodup_append.mpr ⟨hn.sublist List.filter_sublist, flat_nodup hn h2, fun a ha b hb e => ?_⟩
    obtain ⟨q, hq, hy⟩ := List.mem_flatMap.mp hb
    have e1 := (kids_mem.mp ha).2
    have e2 := (kids_mem.mp hy).2
    rw [← e, e1] at e2
    exact h1 (e2 ▸ hq)
theorem flat_mem {P ks : List Int} {y : Int} : y ∈ ks.flatMap (kidsOf P) ↔ y ∈ P ∧ y / 8 ∈ ks := by
  rw [List.mem_flatMap]
  constructor
  · rintro ⟨k, hk, h⟩
    obtain ⟨h1, h2⟩ := kids_mem.mp h
    exact ⟨h1, h2 ▸ hk⟩
  · rintro ⟨h1, h2⟩
    exact ⟨_, h2, kids_mem.mpr ⟨h1, rfl⟩⟩
theorem ks_next {P : List Int} {j : Nat} {ks : List Int} (hn : P.Nodup) (hclo : ∀ y ∈ P, y / 8 = 0 ∨ y / 8 ∈ P) (h : KsOk P j ks) : KsOk P (j + 1) (ks.flatMap (kidsOf P)) := by
  refine ⟨flat_nodup hn h.nd, fun y => flat_mem.trans ?_⟩
  constructor
  · rintro ⟨h1, h2⟩
    exact ⟨h1, lev_div.mpr ((h.mem _).mp h2).2⟩
  · rintro ⟨h1, h2⟩
    have hl := lev_div.mp h2
    refine ⟨h1, (h.mem _).mpr ⟨?_, hl⟩⟩
    rcases hclo y h1 with e | e
    · have := (pw8 j).2; have := hl.1; lia
    · exact e
theorem sub_len : ∀ {l l' : List Int}, l.Nodup → (∀ x ∈ l, x ∈ l') → l.length ≤ l'.length
  | [], _, _, _ => Nat.zero_le _
  | x :: l, l', hn, h => by
    obtain ⟨h1, h2⟩ := List.nodup_cons.mp hn
    obtain ⟨A, B, e⟩ := List.append_of_mem (h x (.head _))
    subst e
    have := sub_len (l' := A ++ B) h2 fun y hy => by
      have := h y (.tail _ hy)
      rcases List.mem_append.mp this with q | q
      · exact List.mem_append_left _ q
      · rcases List.mem_cons.mp q with q | q
        · exact absurd (q ▸ hy) h1
        · exact List.mem_append_right _ q
    simp only [List.length_append, List.length_cons] at this ⊢
    lia
theorem KsOk.len {P : List Int} {j : Nat} {ks : List Int} (h : KsOk P j ks) : ks.length ≤ P.length := sub_len h.nd fun x hx => ((h.mem x).mp hx).1
theorem F_done {P : List Int} {j : Nat} {ks : List Int} (hn : P.Nodup) (hclo : ∀ y ∈ P, y / 8 = 0 ∨ y / 8 ∈ P) (h : KsOk P j ks) {k : Int} (hk : k ∈ P) :
    (if k ∈ ks then -2 else if k ∈ ks.flatMap (kidsOf P) then 0 else if k ∈ ks then -1 else Fj j k) = Fj (j + 1) k := by
  have h1 := pw8 j
  have h2 := pw8 (j + 1)
  unfold Fj
  by_cases a : k ∈ ks
  · have := ((h.mem k).mp a).2
    rw [if_pos a, if_pos this.2]
  · rw [if_neg a]
    have a' : ¬ Lev j k := fun q => a ((h.mem k).mpr ⟨hk, q⟩)
    unfold Lev at a'
    by_cases b : k ∈ ks.flatMap (kidsOf P)
    · have := (((ks_next hn hclo h).mem k).mp b).2
      unfold Lev at this
      rw [if_pos b, if_neg (by omega), if_pos this.2]
    · have b' : ¬ Lev (j + 1) k := fun q => b (((ks_next hn hclo h).mem k).mpr ⟨hk, q⟩)
      unfold Lev at b'
      rw [if_neg b, if_neg a]
      by_cases c : k < 8 ^ j
      · rw [if_pos c, if_pos (by omega)]
      · rw [if_neg c, if_neg (by omega), if_neg (by omega), if_neg (by omega)]
theorem F_kids {P : List Int} {j : Nat} {ks : List Int} (h : KsOk P j ks) {k y : Int} (hk : k ∈ ks) (hy : y ∈ kidsOf P k) : (if y ∈ ks then -1 else Fj j y) = 1 := by
  obtain ⟨h1, h2⟩ := kids_mem.mp hy
  have hl : Lev (j + 1) y := lev_div.mpr (by rw [h2]; exact ((h.mem k).mp hk).2)
  have p1 := pw8 j
  have p2 := pw8 (j + 1)
  have hy' : y ∉ ks := fun q => by
    have := ((h.mem y).mp q).2
    unfold Lev at this hl; omega
  unfold Lev at hl
  rw [if_neg hy']
  unfold Fj
  rw [if_neg (by omega), if_neg (by omega)]
theorem ks_zero {P : List Int} {G : List Nf} (H : GOk P G) (hGP : gK G = P) : KsOk P 0 ((gK G).filter fun k => decide ((fOf G k).d.np = 0)) := by
  have key : ∀ k ∈ gK G, ((fOf G k).d.np = 0 ↔ k < 8) := fun k hk => by
    obtain ⟨f, hf, rfl⟩ := List.mem_map.mp hk
    show (fOf G f.d.k).d.np = 0 ↔ f.d.k < 8
    rw [fOf_mem H.nd hf, (H.ok f hf).np]
    have hm : f.d.k ∈ P := by rw [← hGP]; exact List.mem_map_of_mem hf
    by_cases h : 8 ≤ f.d.k
    · rw [if_pos ⟨hm, h⟩]; lia
    · rw [if_neg (fun q => h q.2)]; lia
  refine ⟨H.nd.sublist List.filter_sublist, fun x => ?_⟩
  rw [List.mem_filter]
  constructor
  · rintro ⟨h1, h2⟩
    have := (key x h1).mp (of_decide_eq_true h2)
    have h0 := H.pos x h1
    exact ⟨hGP ▸ h1, by show (8 : Int) ^ 0 ≤ x; simp; lia, by show x < (8 : Int) ^ 1; simpa using this⟩
  · rintro ⟨h1, h2, h3⟩
    have h1' : x ∈ gK G := hGP ▸ h1
    exact ⟨h1', decide_eq_true ((key x h1').mpr (by have : x < (8 : Int) ^ 1 := h3; simpa using this))⟩
theorem F_zero {P : List Int} {G : List Nf} (H : GOk P G) (hGP : gK G = P) (hlt : ∀ y ∈ P, y < 4096) : ∀ d ∈ G.map (·.d), d.np = Fj 0 d.k := by
  intro d hd
  obtain ⟨f, hf, rfl⟩ := List.mem_map.mp hd
  have hm : f.d.k ∈ P := by rw [← hGP]; exact List.mem_map_of_mem hf
  have h0 := H.pos f.d.k (List.mem_map_of_mem hf)
  have e : Fj 0 f.d.k = if f.d.k < 8 then 0 else 1 := by
    unfold Fj
    rw [show (8 : Int) ^ (0 + 1) = 8 from rfl, show (8 : Int) ^ 0 = 1 from rfl, if_neg (by lia)]
  rw [(H.ok f hf).np, e]
  by_cases h : 8 ≤ f.d.k
  · rw [if_pos ⟨hm, h⟩, if_neg (by lia)]
  · rw [if_neg (fun q => h q.2), if_pos (by lia)]
/-- the keys are the numbers met -/
theorem P_met {ns P : List Int} (hmet : ∀ y ∈ P, Met ns y) (hpos : ∀ y ∈ P, 0 < y) (hclo : ∀ y ∈ P, y / 8 = 0 ∨ y / 8 ∈ P) (hdone : ∀ n ∈ ns, n = 0 ∨ n ∈ P) : ∀ y, y ∈ P ↔ Met ns y ∧ 0 < y := by
  intro y
  refine ⟨fun h => ⟨hmet y h, hpos y h⟩, ?_⟩
  rintro ⟨⟨n, hn, k, hk, rfl⟩, h0⟩
  have key : ∀ k : Nat, n / 8 ^ k = 0 ∨ n / 8 ^ k ∈ P := by
    intro k
    induction k with
    | zero => simpa using hdone n hn
    | succ k ih =>
      rw [← ediv8]
      rcases ih with e | e
      · rw [e]; exact .inl rfl
      · exact hclo _ e
  rcases key k with e | e
  · lia
  · exact e
theorem ks_row {ns P : List Int} {j : Nat} {ks l : List Int} (hP : ∀ y, y ∈ P ↔ Met ns y ∧ 0 < y) (hj : j < 4) (h : KsOk P j ks) (hp : l.Perm ks) (hs : l.Pairwise (· < ·)) : l = rowOf ns j := by
  refine row_uniq hj hs fun x => ?_
  rw [hp.mem_iff, h.mem, hP]
  constructor
  · rintro ⟨⟨h1, _⟩, h2⟩; exact ⟨h1, h2⟩
  · rintro ⟨h1, h2⟩; exact ⟨⟨h1, by have := (pw8 j).2; have := h2.1; omega⟩, h2⟩
theorem row_nil {ns P : List Int} (hP : ∀ y, y ∈ P ↔ Met ns y ∧ 0 < y) (hclo : ∀ y ∈ P, y / 8 = 0 ∨ y / 8 ∈ P) {j : Nat} (h : KsOk P j []) : ∀ i, j ≤ i → i < 4 → rowOf ns i = [] := by
  have hj : ∀ i, j ≤ i → ∀ y ∈ P, ¬ Lev i y := by
    intro i
    induction i with
    | zero => intro hi y hy hl; have : j = 0 := by lia
              subst this; exact absurd ((h.mem y).mpr ⟨hy, hl⟩) (by simp)
    | succ i ih =>
      intro hi y hy hl
      by_cases e : j = i + 1
      · subst e; exact absurd ((h.mem y).mpr ⟨hy, hl⟩) (by simp)
      · have hl' := lev_div.mp hl
        rcases hclo y hy with q | q
        · have := (pw8 i).2; have := hl'.1; lia
        · exact ih (by lia) _ q hl'
  intro i hi hi4
  rw [List.eq_nil_iff_forall_not_mem]
  intro x hx
  obtain ⟨h1, h2⟩ := (row_mem hi4 x).mp hx
  exact hj i hi x ((hP x).mpr ⟨h1, by have := (pw8 i).2; have := h2.1; lia⟩) h2
noncomputable def SgOk (P : List Int) (j : Nat) (skv : List (Int × Value)) : Prop := ∀ x, (x = 0 ∨ x ∈ P ∧ x < 8 ^ j) → ∃ t, valueAt skv x = some (.str (sgn x) t)
/-- a row of told -/
structure RowAt (ns : List Int) (st : List (Addr × Obj)) (i : Nat) (R : Addr) (rs : List RowV) (c : Nat) : Prop where
  list : (R, W.listOf (rowVs rs).toArray c) ∈ st
  rows : ∀ r ∈ rs, rowO r ∈ st ∧ ∃ t, r.rest = [.str (sgn r.k) t, .bool true]
  keys : rs.map (·.k) = rowOf ns i
noncomputable def RowsOk (ns : List Int) (st : List (Addr × Obj)) (j : Nat) (Rs : List Addr) : Prop := Rs.length = j ∧ ∀ i R, Rs[i]? = some R → ∃ rs c, RowAt ns st i R rs c
end

section
open PySem PySem.Calls PySem.W PyProof.Rows
set_option Elab.async false
set_option maxRecDepth 100000
set_option maxHeartbeats 3000000
section
variable {prog : Program} {w : World} {A : Around} {E : Value → Shared → Prop} {s : Shared} {h₀ : Heap} {L : Addr} {m : Str → Option Value} {news : List (Addr × Obj)}
theorem sorted_tupI {l : Addr} {vs : List Value} {ns : List Int} {Q : Value → Shared → Prop} (F : Fr h₀ L s.heap m) (N : News h₀ L s.heap news) (hl : (l, tupO vs) ∈ news) (hI : IntsAre vs ns) (h64 : vs.length < 64)
    (h : ∀ D h' vs' ns' e, Fr h₀ L h' m → News h₀ L h' ((D, W.listOf vs'.toArray e) :: news) → (∀ q ∈ news, q.1 < D) → IntsAre vs' ns' → ns'.Perm ns → ns'.Pairwise (· ≤ ·) → Q (.ref D) { s with heap := h' }) :
    wpAny (model prog w) A (call (.builtin "sorted") [.ref l]) Q E s := by
  have hz : vs.toArray.size ≤ sizeLine := by rw [List.size_toArray, sizeLine_eq]; lia
  refine Calls.call_function_entry kind_sorted plain_sorted entry_sorted (args_sorted1 _) ?_
  unfold Builtin.«sorted»
  refine wpAny_bind (m := checkCount "sorted" 1 1 _) (wpAny_pure ?_)
  refine wpAny_bind (wpAny_collect_seq l (.inr rfl) (N _ hl).1 rfl rfl (fun h1 hk1 => ?_) hz)
  refine wpAny_bind (wpAny_newList ?_ (by rw [sizeLine_eq]; show vs.length ≤ _; lia))
  have F1 : Fr h₀ L h1 m := F.keeps hk1
  have N1 : News h₀ L h1 news := N.grown hk1
  have hoL : (h1.push (seqObj "list" vs.toArray 0)).get? h1.objs.size = some (seqObj "list" vs.toArray 0) := Heap.get?_push_size _ rfl
  have hlt : ∀ q ∈ news, q.1 < h1.objs.size := fun q hq => Heap.lt_size (N1 q hq).1
  show wpAny _ _ _ _ _ { s with heap := h1.push (seqObj "list" vs.toArray 0) }
  refine wpAny_bind (wpAny_holding (wpAny_call_entry slot_list_sort ⟨_, hoL, rfl⟩ entry_list_sort (list_sort_tree hoL hI h64 fun out ns' a1 a2 a3 => ⟨_, rfl, ?_⟩) (args_list_sort _)))
  obtain ⟨e, he⟩ := sortedHeap_at (out := out) hoL
  have old : ∀ b o, h1.get? b = some o → (sortedHeap (h1.push (seqObj "list" vs.toArray 0)) h1.objs.size vs out).get? b = some o := fun b o e => by
    have hb := Heap.lt_size e
    rw [sortedHeap_old (Nat.ne_of_lt hb) (by rw [size_push']; exact Nat.lt_succ_of_lt hb)]
    exact Heap.get?_push_of_some _ e
  refine wpAny_pure ⟨_, rfl, h h1.objs.size _ out.toList ns' e (F1.keeps old) (News.cons1 ⟨he, Nat.ne_of_gt F1.ns.lt, ?_⟩ (N1.grown old)) hlt a1 a2 a3⟩
  exact Heap.get?_none_of_le F1.above |> fun _ => by
    cases q : h₀.get? h1.objs.size with
    | none => rfl
    | some o => exact absurd (Heap.lt_size (F1.keep _ _ q)) (Nat.lt_irrefl _)
end
theorem callWith_SM1 {M : Model} {A : Around} {E : Value → Shared → Prop} {s : Shared} {env : Env} {K : Frag} {pos p : Pos} {first : List Value} {Q : Value → Shared → Prop} {q g : Addr} {self : Value} {e : Expr} (hf : fnIn K g = true)
    (h : wpAny M A (eval e env) (fun v s₁ => StarOf M A E v (fun vs s₂ => MethP K q g self s₂.heap ∧ wpAny M A (call (.ref q) (first ++ vs)) Q E s₂) s₁) E s)
    (he : starEach [.Starred e p] env = [(true, eval e env)] := by rfl) :
    wpAny M A (callWith pos (.ref q) first (backTo pos (starEach [.Starred e p] env)) []) Q E s := by
  rw [he]
  exact ks_call rfl (keeps_M hf) (ks_lone h)
noncomputable abbrev rdL (P : Params) (sx dx nd rl sd tl cc : Addr) (oc os : Obj) (np nf : Int) (t1 t2 t3 t4 t5 t6 : Tok) (vs : List Value) (c : Nat) (Gd : List Nd) (Rs : List Addr) (ct : Nat) (st : List (Addr × Obj)) : List (Addr × Obj) :=
  rdH P sx dx nd rl np nf t1 t2 t3 t4 t5 t6 vs c Gd ++ ((cc, oc) :: (sd, os) :: (tl, W.listOf (Rs.map Value.ref).toArray ct) :: st)
/-- between two rounds -/
structure RdSt (w : World) (ns P : List Int) (sd : Addr) (G0 Gd : List Nd) (S0 st : List (Addr × Obj)) (oc os : Obj) (j : Nat) (vs : List Value) (ks : List Int) (skv : List (Int × Value)) (Rs : List Addr) : Prop where
  cell : oc.data = .cell (some (.ref sd))
  dict : os.IsDictOf (IK w) skv
  slen : skv.length ≤ 1 + 40 * j
  sgo : SgOk P j skv
  sho : Gd.map ndSh = G0.map ndSh
  npo : ∀ d ∈ Gd, d.np = Fj j d.k
  vso : IntsAre vs ks
  kso : KsOk P j ks
  sto : ∀ p ∈ S0, p ∈ st
  rows : RowsOk ns st j Rs
  neo : ∀ i, i < j → rowOf ns i ≠ []
  j4 : j ≤ 4
theorem adr_lt {l l' : List (Addr × Obj)} {a : Nat} (h : ∀ q ∈ l', @LT.lt Nat _ q.1 a) (e : l.map (·.1) = l'.map (·.1)) : ∀ p ∈ l, @LT.lt Nat _ p.1 a := by
  intro p hp
  have : p.1 ∈ l'.map (·.1) := e ▸ List.mem_map_of_mem hp
  obtain ⟨q, hq, e'⟩ := List.mem_map.mp this
  rw [← e']; exact h q hq
theorem rdL_nodup {P : Params} {sx dx nd rl sd tl cc : Addr} {oc oc' os : Obj} {np nf : Int} {t1 t2 t3 t4 t5 t6 : Tok} {vs : List Value} {c : Nat} {Gd : List Nd} {Rs : List Addr} {ct : Nat} {st : List (Addr × Obj)}
    (ND : ((rdH P sx dx nd rl np nf t1 t2 t3 t4 t5 t6 vs c Gd ++ ((cc, oc') :: st)).map (·.1)).Nodup) (h1 : ∀ p ∈ rdH P sx dx nd rl np nf t1 t2 t3 t4 t5 t6 vs c Gd ++ ((cc, oc') :: st), p.1 ≠ sd) (h2 : ∀ p ∈ rdH P sx dx nd rl np nf t1 t2 t3 t4 t5 t6 vs c Gd ++ ((cc, oc') :: st), p.1 ≠ tl) (h3 : sd ≠ tl) :
    ((rdL P sx dx nd rl sd tl cc oc os np nf t1 t2 t3 t4 t5 t6 vs c Gd Rs ct st).map (·.1)).Nodup := by
  have a1 : (tl :: sd :: (rdH P sx dx nd rl np nf t1 t2 t3 t4 t5 t6 vs c Gd ++ ((cc, oc') :: st)).map (·.1)).Nodup := by
    refine List.nodup_cons.mpr ⟨fun hm => ?_, List.nodup_cons.mpr ⟨fun hm => ?_, ND⟩⟩
    · rcases List.mem_cons.mp hm with e | hm
      · exact h3 e.symm
      · obtain ⟨p, hp, e⟩ := List.mem_map.mp hm; exact h2 p hp e
    · obtain ⟨p, hp, e⟩ := List.mem_map.mp hm; exact h1 p hp e
  refine (List.Perm.nodup_iff ?_).mp a1
  rw [List.perm_iff_count]
  intro a
  simp only [rdL, List.map_append, List.map_cons, List.count_append, List.count_cons]
  lia
theorem rows_reads {h : Heap} {st : List (Addr × Obj)} (hs : ∀ p ∈ st, h.get? p.1 = some p.2) : ∀ rs : List RowV, (∀ r ∈ rs, rowO r ∈ st ∧ ∃ t, r.rest = [.str (sgn r.k) t, .bool true]) →
    ∃ as, ReadsAll h (rowVs rs) ((rs.map (·.k)).map fun x => .tuple [.int x, .str (sgn x), .bool true]) as
  | [], _ => ⟨[], .nil⟩
  | r :: rs, H => by
    obtain ⟨as, ih⟩ := rows_reads hs rs fun x hx => H x (.tail _ hx)
    obtain ⟨h1, t, h2⟩ := H r (.head _)
    have h3 := hs _ h1
    have h4 : ReadsAll h (.int r.k r.t :: r.rest) [.int r.k, .str (sgn r.k), .bool true] ([] ++ ([] ++ ([] ++ []))) := by
      rw [h2]
      exact .cons (.int _ _) (.cons (.str _ _) (.cons (.bool _) .nil))
    exact ⟨_, .cons (reads_tuple_at h3 rfl rfl h4) ih⟩
theorem told_reads {ns : List Int} {h : Heap} {st : List (Addr × Obj)} {j : Nat} {Rs : List Addr} {tl : Addr} {ct : Nat} (hs : ∀ p ∈ st, h.get? p.1 = some p.2) (ht : h.get? tl = some (W.listOf (Rs.map Value.ref).toArray ct)) (hR : RowsOk ns st j Rs) (hrows : lawRows ns = (List.range j).map (rowOf ns)) :
    ∃ as, Reads h (.ref tl) (lawData ns) as := by
  have key : ∀ (l : List Addr) (i0 : Nat), (∀ i R, l[i]? = some R → ∃ rs c, RowAt ns st (i0 + i) R rs c) → ∃ as, ReadsAll h (l.map Value.ref) (((List.range' i0 l.length).map (rowOf ns)).map rowData) as := by
    intro l
    induction l with
    | nil => intro i0 _; exact ⟨[], .nil⟩
    | cons R l ih =>
      intro i0 H
      obtain ⟨as, hl⟩ := ih (i0 + 1) fun i R' hi => by
        have := H (i + 1) R' (by simpa using hi)
        rwa [show i0 + (i + 1) = i0 + 1 + i by lia] at this
      obtain ⟨rs, c, hr⟩ := H 0 R rfl
      obtain ⟨bs, hb⟩ := rows_reads hs rs hr.rows
      rw [hr.keys] at hb
      exact ⟨_, .cons (reads_list_at (hs _ hr.list) rfl rfl hb) hl⟩
  obtain ⟨as, ha⟩ := key Rs 0 fun i R hi => by rw [Nat.zero_add]; exact hR.2 i R hi
  rw [hR.1, ← List.range_eq_range', ← hrows] at ha
  exact ⟨_, reads_list_at ht rfl rfl ha⟩
theorem rdL_three {P : Params} {sx dx nd rl sd tl cc : Addr} {oc os : Obj} {np nf : Int} {t1 t2 t3 t4 t5 t6 : Tok} {vs : List Value} {c : Nat} {Gd : List Nd} {Rs : List Addr} {ct : Nat} {st : List (Addr × Obj)} {p : Addr × Obj}
    (h : p ∈ [(sx, instObj 179 dx), (dx, sdict P nd (.ref rl) np nf t1 t2 t3 t4 t5 t6 4), (rl, W.listOf vs.toArray c)]) : p ∈ rdL P sx dx nd rl sd tl cc oc os np nf t1 t2 t3 t4 t5 t6 vs c Gd Rs ct st := by
  refine List.mem_append_left _ ?_
  simp only [List.mem_cons, List.not_mem_nil, or_false] at h
  rcases h with rfl | rfl | rfl
  · exact .head _
  · exact .tail _ (.head _)
  · exact .tail _ (.tail _ (.head _))
theorem st_node {nd pd : Addr} {od op : Obj} {G : List Nf} {T : List Pt} {Gd : List Nd} {st : List (Addr × Obj)} (hn : (gK G).Nodup) (hsh : Gd.map ndSh = (G.map (·.d)).map ndSh) (hst : ∀ p ∈ stL nd pd od op G T, p ∈ st) {d : Nd} (hd : d ∈ Gd) :
    (d.da, dictOf [] 0) ∈ st ∧ (d.sa, W.listOf (fOf G d.k).su.toArray (fOf G d.k).n) ∈ st := by
  obtain ⟨e, he, q⟩ := sh_mem hsh hd
  obtain ⟨f, hf, rfl⟩ := List.mem_map.mp he
  have h1 : f.d.da = d.da := congrArg (fun x => x.2.2.1) q
  have h2 : f.d.sa = d.sa := congrArg (fun x => x.2.2.2.1) q
  have h3 : f.d.k = d.k := congrArg (fun x => x.1) q
  rw [← h1, ← h2, ← h3, fOf_mem hn hf]
  have hm : ∀ p ∈ nfS f, p ∈ st := fun p hp => hst p (by
    unfold stL
    exact .tail _ (.tail _ (List.mem_append_right _ (List.mem_flatMap.mpr ⟨f, hf, hp⟩))))
  exact ⟨hm _ (.head _), hm _ (.tail _ (.head _))⟩
theorem rdL_off {P : Params} {sx dx nd rl sd tl cc : Addr} {oc os : Obj} {np nf : Int} {t1 t2 t3 t4 t5 t6 : Tok} {vs : List Value} {c : Nat} {Gd : List Nd} {Rs : List Addr} {ct : Nat} {st : List (Addr × Obj)}
    (ND : ((rdL P sx dx nd rl sd tl cc oc os np nf t1 t2 t3 t4 t5 t6 vs c Gd Rs ct st).map (·.1)).Nodup) : (sx :: dx :: rl :: Gd.map (·.ia)).Nodup ∧ ∀ p ∈ st, p.1 ∉ sx :: dx :: rl :: Gd.map (·.ia) := by
  unfold rdL at ND
  rw [List.map_append, rdH_adr, List.nodup_append] at ND
  refine ⟨ND.1, fun p hp hm => ND.2.2 _ hm _ ?_ rfl⟩
  exact List.mem_map_of_mem (.tail _ (.tail _ (.tail _ hp)))
theorem rdL_st {P : Params} {sx dx nd rl sd tl cc : Addr} {oc os : Obj} {np nf : Int} {t1 t2 t3 t4 t5 t6 : Tok} {vs : List Value} {c : Nat} {Gd : List Nd} {Rs : List Addr} {ct : Nat} {st : List (Addr × Obj)} {p : Addr × Obj} (h : p ∈ st) : p ∈ rdL P sx dx nd rl sd tl cc oc os np nf t1 t2 t3 t4 t5 t6 vs c Gd Rs ct st :=
  List.mem_append_right _ (.tail _ (.tail _ (.tail _ h)))
theorem rdL_adr {P : Params} {sx dx nd rl sd tl cc : Addr} {oc os : Obj} {np nf : Int} {t1 t2 t3 t4 t5 t6 : Tok} {vs : List Value} {c : Nat} {Gd : List Nd} {Rs : List Addr} {ct : Nat} {st : List (Addr × Obj)} :
    (rdL P sx dx nd rl sd tl cc oc os np nf t1 t2 t3 t4 t5 t6 vs c Gd Rs ct st).map (·.1) = sx :: dx :: rl :: (Gd.map (·.ia) ++ (cc :: sd :: tl :: st.map (·.1))) := by
  unfold rdL
  rw [List.map_append, rdH_adr]; rfl
theorem rdL_fresh {g h : Heap} {L' b : Addr} {l l' : List (Addr × Obj)} (N : News g L' h l) (e : l'.map (·.1) = l.map (·.1)) (fr : h.get? b = none) : ∀ p ∈ l', p.1 ≠ b := by
  intro p hp e2
  have : p.1 ∈ l.map (·.1) := e ▸ List.mem_map_of_mem hp
  obtain ⟨q, hq, e'⟩ := List.mem_map.mp this
  have := (N q hq).1
  rw [e', e2, fr] at this; cases this
theorem tKv_at {T : List Pt} {P : List Int} (htk : T.map (·.k) = P) (hn : P.Nodup) {x : Int} (hx : x ∈ P) : ∃ q ∈ T, q.k = x ∧ valueAt (tKv T) x = some (.ref q.D) := by
  subst htk
  obtain ⟨q, hq, rfl⟩ := List.mem_map.mp hx
  refine ⟨q, hq, rfl, ?_⟩
  clear hx
  induction T with
  | nil => cases hq
  | cons y r ih =>
    obtain ⟨h1, h2⟩ := List.nodup_cons.mp hn
    unfold valueAt tKv
    rw [List.map_cons, List.find?_cons]
    rcases List.mem_cons.mp hq with rfl | hq
    · simp
    · have : decide ((y.k, Value.ref y.D).1 = q.k) = false := decide_eq_false fun e => h1 (by show y.k ∈ _; rw [show y.k = q.k from e]; exact List.mem_map_of_mem hq)
      rw [this]
      exact ih h2 hq
theorem valueAt_put {k x : Int} {v : Value} : ∀ kvs : List (Int × Value), x ≠ k → valueAt (kvs.map fun kv => if kv.1 = k then (kv.1, v) else kv) x = valueAt kvs x
  | [], _ => rfl
  | y :: r, h => by
    have ih := valueAt_put (v := v) r h
    unfold valueAt at ih ⊢
    rw [List.map_cons, List.find?_cons, List.find?_cons]
    by_cases e : y.1 = k
    · have e2 : decide (y.1 = x) = false := decide_eq_false fun q => h (q.symm.trans e)
      rw [if_pos e]
      simp only [e2]
      exact ih
    · rw [if_neg e]
      by_cases e3 : y.1 = x
      · simp [e3]
      · have e2 : decide (y.1 = x) = false := decide_eq_false e3
        simp only [e2]
        exact ih
theorem valueAt_put_self {k : Int} {v : Value} : ∀ kvs : List (Int × Value), (kvs.any fun kv => decide (kv.1 = k)) = true → valueAt (kvs.map fun kv => if kv.1 = k then (kv.1, v) else kv) k = some v
  | [], h => by simp at h
  | y :: r, h => by
    unfold valueAt
    rw [List.map_cons, List.find?_cons]
    by_cases e : y.1 = k
    · rw [if_pos e]; simp [e]
    · rw [if_neg e]
      have e2 : decide (y.1 = k) = false := decide_eq_false e
      simp only [e2]
      refine valueAt_put_self r ?_
      simpa [List.any_cons, e2] using h
theorem valueAt_stored {kvs : List (Int × Value)} {k x : Int} {v : Value} : valueAt (stored kvs k v) x = if x = k then some v else valueAt kvs x := by
  unfold stored
  by_cases h : (kvs.any fun kv => decide (kv.1 = k)) = true
  · rw [if_pos h]
    by_cases e : x = k
    · subst e; rw [if_pos rfl]; exact valueAt_put_self kvs h
    · rw [if_neg e]; exact valueAt_put kvs e
  · rw [if_neg h]
    by_cases e : x = k
    · subst e
      rw [if_pos rfl]
      refine valueAt_snoc_self ?_
      have : (valueAt kvs x).isSome = false := by rw [valueAt_isSome_eq_any]; exact Bool.eq_false_iff.mpr h
      cases q : valueAt kvs x with
      | none => rfl
      | some _ => rw [q] at this; cases this
    · rw [if_neg e]; exact valueAt_snoc_ne e
theorem ifmt0 : ∀ i ∈ List.range 512, Builtin.bitAnd ((i : Nat) : Int) 61440 = 0 := by decide +kernel
theorem ifmt {x : Int} (h0 : 0 ≤ x) (h1 : x < 512) : Builtin.bitAnd x 61440 = 0 := by
  obtain ⟨n, rfl⟩ := Int.eq_ofNat_of_zero_le h0
  exact ifmt0 n (List.mem_range.mpr (by lia))
theorem rdL_sd {P : Params} {sx dx nd rl sd tl cc : Addr} {oc os : Obj} {np nf : Int} {t1 t2 t3 t4 t5 t6 : Tok} {vs : List Value} {c : Nat} {Gd : List Nd} {Rs : List Addr} {ct : Nat} {st : List (Addr × Obj)} {pr : List (Addr × Obj)}
    (ND : ((pr ++ rdL P sx dx nd rl sd tl cc oc os np nf t1 t2 t3 t4 t5 t6 vs c Gd Rs ct st).map (·.1)).Nodup) :
    ∃ g, UpdF sd os (pr ++ rdL P sx dx nd rl sd tl cc oc os np nf t1 t2 t3 t4 t5 t6 vs c Gd Rs ct st) g ∧ ∀ o', g o' = pr ++ rdL P sx dx nd rl sd tl cc oc o' np nf t1 t2 t3 t4 t5 t6 vs c Gd Rs ct st := by
  refine ⟨_, updF_nd (pre := pr ++ (rdH P sx dx nd rl np nf t1 t2 t3 t4 t5 t6 vs c Gd ++ [(cc, oc)])) (post := (tl, W.listOf (Rs.map Value.ref).toArray ct) :: st) ND (by simp [rdL]), fun o' => by simp [rdL]⟩
theorem add_strV {prog : Program} {w : World} {A : Around} {E : Value → Shared → Prop} {s : Shared} {x y z : Str} {t u : Tok} {Q : Value → Shared → Prop} (e : x ++ y = z) (hz : x.length + y.length ≤ sizeLine) (h : ∀ t' tk, Q (.str z t') { s with toks := tk }) : wpAny (model prog w) A (binaryOp .Add (.str x t) (.str y u)) Q E s := by
  subst e; exact add_str h hz
end

section
open PySem PySem.Spec PySem.Calls PySem.W PyProof.Rows
set_option Elab.async false
set_option maxRecDepth 100000
set_option maxHeartbeats 3000000
section
variable {prog : Program} {w : World} {A : Around} {E : Value → Shared → Prop} {s : Shared} {h₀ : Heap} {L : Addr} {m : Str → Option Value} {env : Env}
theorem CompEnd_mono {L I C D : Addr} {oI oC oD : Obj} {S : List (Addr × Obj) → Prop} {r r' : Value → List (Addr × Obj) → Prop} {y : Value} {s₂ : Shared} (h : LCg.CompEnd h₀ L m s I oI C oC D oD S r y s₂) (hr : ∀ y nw, r y nw → r' y nw) :
    LCg.CompEnd h₀ L m s I oI C oC D oD S r' y s₂ := by
  obtain ⟨h', tk, nw, e, F, N, o, hS, q⟩ := h
  exact ⟨h', tk, nw, e, F, N, o, hS, hr _ _ q⟩
theorem comp_ind {elt : Expr} {x : Str} {scope : Scope} {cl : List (Str × Addr)} {S : List (Addr × Obj) → Prop} {P : Nat → Value → Prop} {Fin : List Value → List (Addr × Obj) → Prop} {n : Nat}
    (J : Nat → List Value → List (Addr × Obj) → Prop) {news₀ : List (Addr × Obj)} (h0 : J 0 [] news₀)
    (step : ∀ i ys news, i < n → J i ys news → ∀ v I oI C oC D m₂ h tk (E' : Value → Shared → Prop), P i v → LCg.NsObj oC m₂ → m₂ x = some v → Fr h₀ L h m → News h₀ L h ((I, oI) :: (C, oC) :: (D, LCg.lst ys) :: news) → LCg.Off3 I C D news → ((@Ne Nat I C) ∧ (@Ne Nat I D) ∧ (@Ne Nat C D)) →
      wpAny (model prog w) A (eval elt (compEnvC scope cl C env)) (LCg.CompEnd h₀ L m { s with heap := h, toks := tk } I oI C oC D (LCg.lst ys) S (fun y news' => J (i + 1) (ys ++ [y]) news')) E' { s with heap := h, toks := tk })
    (fin : ∀ ys news, J n ys news → Fin ys news) :
    LCg.CompRest prog w A h₀ L m env elt x scope cl s S P Fin n 0 [] news₀ := by
  have key : ∀ k i ys news, i + k = n → J i ys news → LCg.CompRest prog w A h₀ L m env elt x scope cl s S P Fin k i ys news := by
    intro k
    induction k with
    | zero => intro i ys news e hJ; exact LCg.CompRest.zero (fin _ _ (by rw [← e]; exact hJ))
    | succ k ih =>
      intro i ys news e hJ
      refine LCg.CompRest.succ ?_
      intro v I oI C oC D m₂ h tk E' h1 h2 h3 h4 h5 h6 h7
      exact wpAny_mono (step i ys news (by lia) hJ v I oI C oC D m₂ h tk E' h1 h2 h3 h4 h5 h6 h7) (fun y s₂ he => CompEnd_mono he fun y nw hj => ih _ _ _ (by lia) hj) fun _ _ q => q
  exact key n 0 [] news₀ (by lia) h0
end
theorem sgn_lenJ {j : Nat} {x : Int} (hj : j < 4) (h : Lev j x) : (sgn x).length = 3 * (j + 1) := by
  unfold Lev at h
  have key : ∀ d, sgnC (j + 1 + d) x = sgnC (j + 1) x := by
    intro d
    induction d with
    | zero => rfl
    | succ d ih =>
      have h0 : (0 : Int) < 8 ^ j := (pw8 j).2
      have h1 : (8 : Int) ^ (j + 1) ≤ 8 ^ (j + 1 + d) := by
        have : (8 : Nat) ^ (j + 1) ≤ 8 ^ (j + 1 + d) := Nat.pow_le_pow_right (by decide) (Nat.le_add_right _ _)
        exact_mod_cast this
      rw [show j + 1 + (d + 1) = j + 1 + d + 1 by lia, sgnC_up (j + 1 + d) x (by lia) (by omega), ih]
  show (sgnC 4 x).toArray.size = _
  rw [List.size_toArray, show (4 : Nat) = j + 1 + (3 - j) by lia, key, sgn_len_lev j x h.1 h.2]
theorem rdL_mem {P : Params} {sx dx nd rl sd tl cc : Addr} {oc os : Obj} {np nf : Int} {t1 t2 t3 t4 t5 t6 : Tok} {vs : List Value} {c : Nat} {Gd : List Nd} {Rs : List Addr} {ct : Nat} {st : List (Addr × Obj)} {q a p : Addr × Obj} :
    p ∈ q :: rdL P sx dx nd rl sd tl cc oc os np nf t1 t2 t3 t4 t5 t6 vs c Gd Rs ct (a :: st) → p = a ∨ p ∈ q :: rdL P sx dx nd rl sd tl cc oc os np nf t1 t2 t3 t4 t5 t6 vs c Gd Rs ct st := by
  intro h
  simp only [rdL, List.mem_cons, List.mem_append] at h ⊢
  rcases h with h | h | h | h | h | h | h
  · exact .inr (.inl h)
  · exact .inr (.inr (.inl h))
  · exact .inr (.inr (.inr (.inl h)))
  · exact .inr (.inr (.inr (.inr (.inl h))))
  · exact .inr (.inr (.inr (.inr (.inr (.inl h)))))
  · exact .inl h
  · exact .inr (.inr (.inr (.inr (.inr (.inr h)))))
theorem rdL_grow {P : Params} {sx dx nd rl sd tl cc : Addr} {oc os : Obj} {np nf : Int} {t1 t2 t3 t4 t5 t6 : Tok} {vs : List Value} {c : Nat} {Gd : List Nd} {Rs : List Addr} {ct : Nat} {st : List (Addr × Obj)} {q a : Addr × Obj}
    (ND : ((q :: rdL P sx dx nd rl sd tl cc oc os np nf t1 t2 t3 t4 t5 t6 vs c Gd Rs ct st).map (·.1)).Nodup) (h : ∀ p ∈ q :: rdL P sx dx nd rl sd tl cc oc os np nf t1 t2 t3 t4 t5 t6 vs c Gd Rs ct st, p.1 ≠ a.1) :
    ((q :: rdL P sx dx nd rl sd tl cc oc os np nf t1 t2 t3 t4 t5 t6 vs c Gd Rs ct (a :: st)).map (·.1)).Nodup := by
  have a1 : (a.1 :: (q :: rdL P sx dx nd rl sd tl cc oc os np nf t1 t2 t3 t4 t5 t6 vs c Gd Rs ct st).map (·.1)).Nodup :=
    List.nodup_cons.mpr ⟨fun hm => by obtain ⟨p, hp, e⟩ := List.mem_map.mp hm; exact h p hp e, ND⟩
  refine (List.Perm.nodup_iff ?_).mp a1
  rw [List.perm_iff_count]
  intro b
  simp only [rdL, List.map_append, List.map_cons, List.count_append, List.count_cons]
  lia
theorem eq_strY {prog : Program} {w : World} {A : Around} {E : Value → Shared → Prop} {s : Shared} {a b : Str} {t u : Tok} {Q : Value → Shared → Prop} (e : a = b) (h : Q (.bool true) s) : wpAny (model prog w) A (compareOp .Eq (.str a t) (.str b u)) Q E s :=
  PyProof.Rows.eq_str (by rw [beq_iff_eq.mpr e]; exact h)
end

section
open PySem PySem.Spec PySem.Calls PySem.W PyProof.Rows
set_option Elab.async false
set_option maxRecDepth 100000
set_option maxHeartbeats 3000000
theorem upd_mid {d : Addr} {o o' : Obj} : ∀ {pre post : List (Addr × Obj)}, (∀ p ∈ pre, p.1 ≠ d) → (∀ p ∈ post, p.1 ≠ d) → Upd d o o' (pre ++ (d, o) :: post) (pre ++ (d, o') :: post)
  | [], _, _, h => .head h
  | p :: pre, post, h1, h2 => .tail (h1 p (.head _)) (upd_mid (fun q hq => h1 q (.tail _ hq)) h2)
theorem to_swap {P : Params} {I sx dx nd pd : Addr} {oI od op op' : Obj} {t1 t2 t3 t4 t5 t6 : Tok} {G : List Nf} {T : List Pt} {rest : List (Addr × Obj)} :
    (((I, oI) :: toL P sx dx nd pd od op t1 t2 t3 t4 t5 t6 G T rest).map (·.1)).Nodup ↔ ((adL P sx dx nd od t1 t2 t3 t4 t5 t6 G ((I, oI) :: (pd, op') :: (T.map ptL ++ rest))).map (·.1)).Nodup := by
  refine List.Perm.nodup_iff ?_
  rw [List.perm_iff_count]
  intro a
  simp only [toL, adL, List.map_append, List.map_cons, List.count_append, List.count_cons]
  lia
theorem off1_mem {D : Addr} : ∀ {l : List (Addr × Obj)}, LCg.Off1 D l → ∀ p ∈ l, p.1 ≠ D
  | [], _, _, h => nomatch h
  | _ :: _, x, p, h => by
    rcases List.mem_cons.mp h with rfl | h
    · exact x.1
    · exact off1_mem x.2 p h
theorem rdL_app {P : Params} {sx dx nd rl sd tl cc : Addr} {oc os : Obj} {np nf : Int} {t1 t2 t3 t4 t5 t6 : Tok} {vs : List Value} {c : Nat} {Gd : List Nd} {Rs Rs' : List Addr} {ct ct' : Nat} {st : List (Addr × Obj)} {pr : List (Addr × Obj)}
    (ND : ((pr ++ rdL P sx dx nd rl sd tl cc oc os np nf t1 t2 t3 t4 t5 t6 vs c Gd Rs ct st).map (·.1)).Nodup) :
    Upd tl (W.listOf (Rs.map Value.ref).toArray ct) (W.listOf (Rs'.map Value.ref).toArray ct') (pr ++ rdL P sx dx nd rl sd tl cc oc os np nf t1 t2 t3 t4 t5 t6 vs c Gd Rs ct st) (pr ++ rdL P sx dx nd rl sd tl cc oc os np nf t1 t2 t3 t4 t5 t6 vs c Gd Rs' ct' st) := by
  have e : ∀ R n, pr ++ rdL P sx dx nd rl sd tl cc oc os np nf t1 t2 t3 t4 t5 t6 vs c Gd R n st = (pr ++ (rdH P sx dx nd rl np nf t1 t2 t3 t4 t5 t6 vs c Gd ++ [(cc, oc), (sd, os)])) ++ (tl, W.listOf (R.map Value.ref).toArray n) :: st := fun R n => by simp [rdL]
  have h := led_off ND (e _ _)
  rw [e, e]
  exact upd_mid (fun p hp => h p (List.mem_append_left _ hp)) (fun p hp => h p (List.mem_append_right _ hp))
theorem lt_of_le {l : List Int} (hn : l.Nodup) (h : l.Pairwise (· ≤ ·)) : l.Pairwise (· < ·) :=
  (List.pairwise_and_iff.mpr ⟨h, hn⟩).imp fun ⟨a, b⟩ => by lia
theorem rd_next {w : World} {ns P : List Int} {sd : Addr} {G0 Gd Gd2 : List Nd} {S0 st st' : List (Addr × Obj)} {oc os₀ os : Obj} {j : Nat} {vs rvs : List Value} {ks ns7 : List Int} {skv₀ skv : List (Int × Value)} {Rs : List Addr} {DR : Addr} {rows : List RowV}
    (R : RdSt w ns P sd G0 Gd S0 st oc os₀ j vs ks skv₀ Rs) (hjlt : j < 4) (hv0 : vs ≠ []) (hvl : vs.length ≤ 40) (hPn : P.Nodup) (hclo : ∀ y ∈ P, y / 8 = 0 ∨ y / 8 ∈ P) (hPM : ∀ y, y ∈ P ↔ Met ns y ∧ 0 < y)
    (hos : os.IsDictOf (IK w) skv) (hsl : skv.length ≤ 1 + 40 * j + vs.length) (hsg : SgOk P j skv) (hsk : ∀ x ∈ ks, ∃ t, valueAt skv x = some (.str (sgn x) t))
    (hsh : Gd2.map ndSh = G0.map ndSh) (hG0 : G0.map (·.k) = P)
    (hnp : ∀ d ∈ Gd2, d.np = if d.k ∈ ks then -2 else if d.k ∈ ks.flatMap (kidsOf P) then 0 else if d.k ∈ ks then -1 else Fj j d.k)
    (hrs : IntsAre rvs (ks.flatMap (kidsOf P))) (hst : ∀ p ∈ st, p ∈ st') (hrr : ∀ r ∈ rows, rowO r ∈ st' ∧ ∃ t, r.rest = [.str (sgn r.k) t, .bool true])
    (hrk : rows.map (·.k) = ns7) (p7 : ns7.Perm ks) (s7 : ns7.Pairwise (· ≤ ·)) :
    RdSt w ns P sd G0 Gd2 S0 ((DR, LCg.lst (rowVs rows)) :: st') oc os (j + 1) rvs (ks.flatMap (kidsOf P)) skv (Rs ++ [DR]) := by
  have hrow : ns7 = rowOf ns j := ks_row hPM hjlt R.kso p7 (lt_of_le (p7.nodup_iff.mpr R.kso.nd) s7)
  have hks0 : ks ≠ [] := fun e => hv0 (by have := R.vso.length; rw [e] at this; exact List.length_eq_zero_iff.mp this)
  have hrowne : rowOf ns j ≠ [] := fun e => by
    rw [← hrow] at e
    rw [e] at p7
    exact hks0 (List.Perm.eq_nil p7.symm)
  refine ⟨R.cell, hos, by lia, ?_, hsh, ?_, hrs, ks_next hPn hclo R.kso, fun p hp => .tail _ (hst p (R.sto p hp)), ?_, ?_, by lia⟩
  · intro x hx
    have p8 := pw8 j
    rcases hx with rfl | ⟨h1, h2⟩
    · exact hsg 0 (.inl rfl)
    · by_cases q : x < 8 ^ j
      · exact hsg x (.inr ⟨h1, q⟩)
      · exact hsk x ((R.kso.mem x).mpr ⟨h1, by unfold Lev; omega⟩)
  · intro d hd
    rw [hnp d hd]
    refine F_done hPn hclo R.kso ?_
    rw [← hG0, ← keys_sh hsh]
    exact List.mem_map_of_mem hd
  · refine ⟨by rw [List.length_append, R.rows.1]; rfl, fun i Q hQ => ?_⟩
    by_cases q : i < Rs.length
    · rw [List.getElem?_append_left q] at hQ
      obtain ⟨rs, c, x⟩ := R.rows.2 i Q hQ
      exact ⟨rs, c, .tail _ (hst _ x.list), fun r hr => ⟨.tail _ (hst _ (x.rows r hr).1), (x.rows r hr).2⟩, x.keys⟩
    · rw [List.getElem?_append_right (by lia)] at hQ
      have h0 : i - Rs.length = 0 := by
        cases h : i - Rs.length with
        | zero => rfl
        | succ k => rw [h] at hQ; simp at hQ
      rw [h0] at hQ
      obtain rfl : DR = Q := by simpa using hQ
      have hi : i = j := by have := R.rows.1; lia
      subst hi
      exact ⟨rows, (rowVs rows).length, .head _, fun r hr => ⟨.tail _ (hrr r hr).1, (hrr r hr).2⟩, hrk.trans hrow⟩
  · intro i hi
    by_cases q : i < j
    · exact R.neo i q
    · obtain rfl : i = j := by lia
      exact hrowne
noncomputable abbrev stX (nd pd : Addr) (od op : Obj) (G : List Nf) (T : List Pt) (ld : List (Addr × Obj)) : List (Addr × Obj) := stL nd pd od op G T ++ ld
theorem rd_nodupL {P Q : Params} {sx dx nd pd rl : Addr} {od op : Obj} {np nf : Int} {t1 t2 t3 t4 t5 t6 : Tok} {G : List Nf} {T : List Pt} {c : Addr × Obj} {ld : List (Addr × Obj)} {vs : List Value} {rc : Nat}
    (ND : ((toL P sx dx nd pd od op t1 t2 t3 t4 t5 t6 G T (c :: ld)).map (·.1)).Nodup) (hrl : rl ∉ (toL P sx dx nd pd od op t1 t2 t3 t4 t5 t6 G T (c :: ld)).map (·.1)) :
    ((rdH Q sx dx nd rl np nf t1 t2 t3 t4 t5 t6 vs rc (G.map (·.d)) ++ (c :: stX nd pd od op G T ld)).map (·.1)).Nodup := by
  have h1 := List.nodup_cons.mpr ⟨hrl, ND⟩
  have hp : (rl :: (toL P sx dx nd pd od op t1 t2 t3 t4 t5 t6 G T (c :: ld)).map (·.1)).Perm ((rdH Q sx dx nd rl np nf t1 t2 t3 t4 t5 t6 vs rc (G.map (·.d)) ++ (c :: stX nd pd od op G T ld)).map (·.1)) := by
    have hg := gAdr_perm G
    rw [List.perm_iff_count] at hg ⊢
    intro a
    have := hg a
    rw [List.map_append, rdH_adr]
    simp only [toL, adL, stX, stL, List.cons_append, List.map_cons, List.map_append, gAll_adr, List.count_append, List.count_cons, List.map_map] at this ⊢
    have e : (fun x => x.ia) ∘ (fun x : Nf => x.d) = fun f : Nf => f.d.ia := rfl
    rw [e]
    lia
  exact hp.nodup_iff.mp h1
theorem rd_newsL {P : Params} {g g2 h h2 : Heap} {L' sx dx nd pd rl : Addr} {od op : Obj} {t1 t2 t3 t4 t5 t6 : Tok} {G : List Nf} {T : List Pt} {c : Addr × Obj} {ld : List (Addr × Obj)} {vs : List Value} {rc : Nat}
    (N : News g L' h (toL P sx dx nd pd od op t1 t2 t3 t4 t5 t6 G T (c :: ld))) (ND : ((toL P sx dx nd pd od op t1 t2 t3 t4 t5 t6 G T (c :: ld)).map (·.1)).Nodup)
    (keep : ∀ p ∈ toL P sx dx nd pd od op t1 t2 t3 t4 t5 t6 G T (c :: ld), p.1 ≠ dx → h2.get? p.1 = some p.2) (hg : ∀ b, g.get? b = none → g2.get? b = none)
    (hdx : h2.get? dx = some (sdict P nd (.ref rl) 0 0 t1 t2 t3 t4 t5 t6 4)) (hrl : h2.get? rl = some (W.listOf vs.toArray rc)) (hrL : rl ≠ L') (hrg : g2.get? rl = none) :
    News g2 L' h2 (rdH P sx dx nd rl 0 0 t1 t2 t3 t4 t5 t6 vs rc (G.map (·.d)) ++ (c :: stX nd pd od op G T ld)) := by
  have N1 := rd_news N ND keep hg hdx hrl hrL hrg
  have nx := led_off ND (A := [(sx, instObj 179 dx)]) (q := (dx, sdict P nd .none 0 0 t1 t2 t3 t4 t5 t6 4)) (C := (nd, od) :: (gAll G ++ ((pd, op) :: (T.map ptL ++ (c :: ld))))) rfl
  intro p hp
  rw [show rdH P sx dx nd rl 0 0 t1 t2 t3 t4 t5 t6 vs rc (G.map (·.d)) ++ (c :: stX nd pd od op G T ld) = (rdH P sx dx nd rl 0 0 t1 t2 t3 t4 t5 t6 vs rc (G.map (·.d)) ++ (c :: stL nd pd od op G T)) ++ ld by simp [stX]] at hp
  rcases List.mem_append.mp hp with hp | hp
  · exact N1 p hp
  · have hm : p ∈ [(sx, instObj 179 dx)] ++ ((nd, od) :: (gAll G ++ ((pd, op) :: (T.map ptL ++ (c :: ld))))) := by
      simp only [List.mem_append, List.mem_cons, hp, or_true]
    have hm2 : p ∈ toL P sx dx nd pd od op t1 t2 t3 t4 t5 t6 G T (c :: ld) := by
      simp only [toL, adL, List.mem_append, List.mem_cons, hp, or_true]
    exact ⟨keep p hm2 (nx p hm), (N p hm2).2.1, hg _ (N p hm2).2.2⟩
theorem tb_grown {h : Heap} {qual : Str} {ln co : Nat} {P : Addr} {ld : List (Addr × Obj)} (H : TbS qual ln co P ld) (hs : ∀ q ∈ ld, h.get? q.1 = some q.2) : GrownAt P h := by
  rcases H with rfl | ⟨c, oc, vs, t, rfl, _⟩
  · exact ⟨_, hs _ (.head _)⟩
  · exact ⟨_, hs _ (.head _)⟩
end

section
open PySem PySem.Calls PySem.W PyProof.Rows
set_option Elab.async false
set_option maxRecDepth 100000
set_option maxHeartbeats 3000000
set_option pp.deepTerms false
set_option pp.maxSteps 20000
section
variable {w : World} {mean : ExcName → Option Value} {mg mb : Str → Option Value} {p : Program} {loose : List Str} {cn : Str} {cs : Scope} {a : Addr} {ccd : Value} {cl : List (Str × Addr)} {outer : List Env} {A₀ : Around} {base h₀ : Heap} {L : Addr} {m : Str → Option Value} {s : Shared}
    {Q E : Value → Shared → Prop}

set_option maxHeartbeats 0 in
theorem to_con {dl : Addr} {vs : List Value} {ns : List Int} {c : Nat} {frs₀ ld4 ld7 : List (Addr × Obj)}
    (B : Below A₀ base outer h₀) (F : Fr h₀ L s.heap m) (XB : (topo.heap_39 w.params).In base) (TB : Top p loose mean mg mb base) (N : News h₀ L s.heap (ld4 ++ ld7)) (hk : cs.kind = .function)
    (Fs : TI.Frs outer frs₀) (hfs : ∀ q ∈ frs₀, h₀.get? q.1 = some q.2 ∧ base.get? q.1 = none) (hc4 : CodeHd base 48 44) (hc7 : CodeHd base 41 37)
    (hT4 : TbS q4 50 4 44 ld4) (hT7 : TbS q7 35 4 37 ld7) (hdis : ∀ q ∈ ld4, ∀ r ∈ ld7, q.1 ≠ r.1)
    (hdl : s.heap.get? dl = some (W.listOf vs.toArray c)) (hvs : IntsAre vs ns) (hns : ns.length ≤ 10) (hn0 : ∀ n ∈ ns, 0 ≤ n ∧ n < 4096) (hdo : dl ∉ (ld4 ++ ld7).map (·.1))
    (ret : ∀ h' tk' oL frs' R as, s.heap.get? L = some oL → TI.SameUp ((L, oL) :: frs₀) frs' → (∀ q ∈ frs', h'.get? q.1 = some q.2) → (∀ b o, s.heap.get? b = some o → b ≠ L → b ∉ frs₀.map (·.1) → b ∉ (ld4 ++ ld7).map (·.1) → h'.get? b = some o) →
      GrownAt 44 h' → GrownAt 37 h' → Reads h' (.ref R) (lawData ns) as → Q (.ref R) { s with heap := h', toks := tk' }) :
    wpAny (model PySem.Challenge.rw_nq0271_01.row.prog w) (AT 400 cn cs L a ccd cl outer) (call (.ref 235) [.ref dl]) Q E s := by
  revert XB TB hk
  k_fill
  w_on
  intro XB TB hk
  k_with_none
  refine wpAny_call ?_
  k_dflt (refine' enterCD (binds := [(Str.ofString "numbers", Value.ref dl)]) ?k1 ?k2 (XB.keeps (Below.stays ?k1)) ?k4 (TB.keeps (Below.stays ?k1)) ?kA ?kF ?kK ?k6 ?k7 ?k8 ?k9 ?kB ?kN ?_ ?c2 ?c3 ?c4; (case kA => exact rfl); (case kF => exact rfl); (case kK => assumption); (case k1 => k_asm); (case k2 => k_asm); (case k4 => k_asm); (case k6 => k_is); (case k7 => k_is); (case k8 => k_room); (case k9 => exact BindsTo.of_eq rfl); (case kB => exact rfl); (case kN => decide); (case c2 => exact rfl); (case c3 => exact rfl); (case c4 => exact rfl); k_whole)
  intro g L' h₁ tk cells FG F' N' CC B' X' T' kp kb hl0
  k_cells CC
  (try simp only [List.cons_append, List.nil_append] at N')
  (try dsimp only)
  refine wp_open fun Qf hQf => ?_
  k_with "exec For Name Name cons nil" => k_dflt (refine halt ?_)
  w_strict k_steps
  k_with_none
  rename Fr g L' _ _ => F1
  rename News g L' _ _ => N1
  rename _ = Data.cell _ => dC
  rename _ < _ ∧ _ < _ ∧ _ < _ ∧ _ < _ ∧ AllLt _ _ => lp
  rename _ < _ ∧ _ < _ ∧ _ < _ ∧ AllLt _ _ => ln
  rename _ < _ ∧ AllLt _ _ => ld
  rename @LT.lt Nat _ _ _ => lsx
  have gdl : g.get? dl = some (W.listOf vs.toArray c) := kp _ _ hdl hdo
  have hvl : vs.length = ns.length := hvs.length
  refine wp_state (P := fun s' =>  ∀ Z : Prop, (∀ sx dx nd pd od op oC t1 t2 t3 t4 t5 t6 hh tk m1, s' = { s with heap := hh, toks := tk } → m1 (Str.ofString "sorter") = some (Value.ref sx) → m1 (Str.ofString "parted") = some (Value.ref pd) → m1 (Str.ofString "numbers") = some (Value.ref dl) → Fr g L' hh m1 → News g L' hh (toL w.params sx dx nd pd od op t1 t2 t3 t4 t5 t6 [] [] ((L' + 1, oC) :: (ld4 ++ ld7))) → ((toL w.params sx dx nd pd od op t1 t2 t3 t4 t5 t6 [] [] ((L' + 1, oC) :: (ld4 ++ ld7))).map (·.1)).Nodup → oC.data = .cell none → (nd == sysModules) = false → (pd == sysModules) = false → ToSt w ns [] [] [] od op → Z) → Z) ?_ ?_
  · refine fun Zz KZ => KZ _ _ _ _ _ _ _ _ _ _ _ _ _ _ _ _ rfl rfl rfl rfl F1 (news_to N1) ?_ dC (by assumption) (by assumption) ⟨by assumption, by assumption, rfl, ⟨(fun _ h => nomatch h), .nil, (fun _ h => nomatch h), (fun _ h => nomatch h)⟩, (fun _ h => nomatch h), (fun _ h => nomatch h)⟩
    · have hlt : ∀ b ∈ (ld4 ++ ld7).map (·.1), b < L' := fun b hb => by
        obtain ⟨q, hq, rfl⟩ := List.mem_map.mp hb
        exact hl0 q hq
      simp only [toL, adL, gAll_nil, List.map_nil, List.nil_append, List.map_cons]
      exact nodup5 lsx ln.1 ln.2.1 lp.1 lp.2.1 lp.2.2.1 ln.2.2.1 lp.2.2.2.1 ld.1 hlt (tbs_nodup hT4 hT7 hdis)
  intro s1 hI
  refine hI _ ?_
  clear hI
  rintro sx dx nd pd od op oC t1 t2 t3 t4 t5 t6 h tk m1 rfl hm1 hm2 hm3 F1 N1 ND hoC lod lop S
  clear dC ld lsx ln lp qk ek
  rename_i j1 j2 j3 j4 j5 j6 j7 j8 j9 j10 j11 j12 j13 j14 j15 j16 j17 j18 j19 j20 j21 j22 j23 j24 j25 j26 j27 j28 j29 j30 j31 j32 j33 j34 j35 j36 j37 j38 j39 j40 j41
  clear j1 j2 j3 j4 j5 j6 j7 j8 j9 j10 j11 j12 j13 j14 j15 j16 j17 j18 j19 j20 j21 j22 j23 j24 j25 j26 j27 j28 j29 j30 j31 j32 j33 j34 j35 j36 j37 j38 j39 j40 j41
  rw [mkeep3 hm1 hm2 hm3] at F1
  with_unfolding_all refine For_invVF (by assumption) rfl rfl ?_
  w_strict k_steps
  k_with_none
  rename Fr g L' _ _ => F2
  rename News g L' _ _ => N2
  (try clear F1); (try clear N1)
  refine listLoopV (vs := vs) (c := c) (fun i m₁ news₁ => ∀ Z : Prop, (∀ P G T od op ld4 ld7, m₁ (Str.ofString "sorter") = some (Value.ref sx) → m₁ (Str.ofString "parted") = some (Value.ref pd) → news₁ = toL w.params sx dx nd pd od op t1 t2 t3 t4 t5 t6 G T ((L' + 1, oC) :: (ld4 ++ ld7)) → (news₁.map (·.1)).Nodup → TbS q4 50 4 44 ld4 → TbS q7 35 4 37 ld7 → (∀ q ∈ ld4, ∀ r ∈ ld7, q.1 ≠ r.1) → ToSt w ns P G T od op → gK G = P → P.length ≤ 4 * i → (∀ n ∈ ns.take i, n = 0 ∨ n ∈ P) → Z) → Z) rfl gdl F2 N2
    (fun Zz KZ => KZ [] [] [] od op ld4 ld7 rfl rfl rfl ND hT4 hT7 hdis S rfl (Nat.zero_le _) (fun n hn => by simp at hn)) ?_ ?_
  · clear hT4 hT7 hdis hdo S F2 N2 ND hm1 hm2 hm3
    intro i v m₁ news₁ h tk I oI hvi hI F1 N1 o1 QJ hQJ _ _ _
    refine hI _ ?_
    clear hI
    rintro P G T od op ld4 ld7 hm1 hm2 rfl ND hT4 hT7 hdis S hGP hPl hdone
    obtain ⟨n, tn, hni, rfl⟩ := ints_get hvs hvi
    have F1 : Fr g L' h (fun y => if y = Str.ofString "x" then some (Value.int n tn) else m₁ y) := F1
    have N1 : News g L' h ((I, oI) :: toL w.params sx dx nd pd od op t1 t2 t3 t4 t5 t6 G T ((L' + 1, oC) :: (ld4 ++ ld7))) := N1
    have hnn := hn0 n (List.mem_of_getElem? hni)
    k_with "exec While BoolOp cons nil" => k_dflt (refine halt ?_)
    w_strict k_steps
    k_with_none
    refine whileV (fun j s' =>  ∀ Z : Prop, (∀ h tk x tx k P G T od op ld4 ld7 m', s' = { s with heap := h, toks := tk } → m' (Str.ofString "sorter") = some (Value.ref sx) → m' (Str.ofString "parted") = some (Value.ref pd) → Fr g L' h (fun y => if y = Str.ofString "x" then some (Value.int x tx) else m' y) → News g L' h ((I, oI) :: toL w.params sx dx nd pd od op t1 t2 t3 t4 t5 t6 G T ((L' + 1, oC) :: (ld4 ++ ld7))) → (((I, oI) :: toL w.params sx dx nd pd od op t1 t2 t3 t4 t5 t6 G T ((L' + 1, oC) :: (ld4 ++ ld7))).map (·.1)).Nodup → TbS q4 50 4 44 ld4 → TbS q7 35 4 37 ld7 → (∀ q ∈ ld4, ∀ r ∈ ld7, q.1 ≠ r.1) → ToSt w ns P G T od op → (gK G = P ∨ gK G = P ++ [x] ∧ x ∉ P ∧ 0 < x) → P.length + j ≤ 4 * (i + 1) → (∀ n ∈ ns.take i, n = 0 ∨ n ∈ P) → (x = n ∨ n ∈ P) → x = n / 8 ^ k → k + j = 4 → 0 ≤ x → x < 8 ^ j → Z) → Z) PassesOwn.never 4
      (fun Zz KZ => KZ h _ n tn 0 P G T od op ld4 ld7 m₁ rfl hm1 hm2 F1 N1 ?_ hT4 hT7 hdis S (.inl hGP) (by lia) hdone (.inl rfl) (by first | k_clsL | simp) rfl hnn.1 (by simpa using hnn.2)) ?_
    · rw [List.map_cons]
      exact List.nodup_cons.mpr ⟨fun hm => by obtain ⟨q, hq, e⟩ := List.mem_map.mp hm; exact o1 q hq e, ND⟩
    clear F1 N1 ND hT4 hT7 hdis S hGP hPl hdone hm1 hm2 o1
    intro j s' hI QB hQB _ _
    refine hI _ ?_
    clear hI
    rintro h tk x tx k P G T od op ld4 ld7 m' rfl hm1 hm2 F1 N1 ND hT4 hT7 hdis S hGP hPl hdone hxn hxk hkj hx0 hxj
    have hfin : gK G = P → (x = 0 ∨ x ∈ P) → ∀ n ∈ ns.take (i + 1), n = 0 ∨ n ∈ P := by
      intro hG hx n' hn'
      rw [List.take_add_one, hni] at hn'
      rcases List.mem_append.mp hn' with hn' | hn'
      · exact hdone n' hn'
      · have e : n' = n := by simpa using hn'
        subst e
        rcases hxn with rfl | h
        · exact hx
        · exact .inr h
    have hi10 : i < 10 := by have := (List.getElem?_eq_some_iff.mp hni).1; lia
    have hP40 : P.length ≤ 40 := by lia
    have hTl : (tKv T).length = P.length := by unfold tKv; rw [← S.tk, List.length_map, List.length_map]
    rw [mkeep2 hm1 hm2] at F1
    by_cases hx1 : 0 < x
    · by_cases hxP : x ∈ P
      · have hva : (valueAt (tKv T) x).isSome = true := valueAt_some (by unfold tKv; rw [List.map_map]; show x ∈ T.map (·.k); rw [S.tk]; exact hxP)
        have hGP' : gK G = P := hGP.resolve_right fun h => h.2.1 hxP
        refine wp_halt ?_
        k_with "compareOp Gt int int" => k_dflt (refine gt_yes hx1 ?_)
        k_with "compareOp NotIn int ref" => k_dflt (refine kdg_notin (knd := PySem.intKind _ _) N1 (o := op) (by first | k_clsL | simp [toL, adL]) S.op lop (intKind_is _ _ _ _) true hva ?_)
        w_strict k_steps
        refine wpAny_execs_nil ?_
        refine wpAny_execs_nil ?_
        exact hQJ _ _ _ _ F1 N1 (nd_head ND) (fun Zz KZ => KZ P G T od op ld4 ld7 rfl rfl rfl ((List.nodup_cons.mp ND).2) hT4 hT7 hdis S hGP' (by lia) (hfin hGP' (.inr hxP)))
      · have hvn : (valueAt (tKv T) x).isSome = false := by
          rw [valueAt_none (by unfold tKv; rw [List.map_map]; show x ∉ T.map (·.k); rw [S.tk]; exact hxP)]; rfl
        refine wp_halt ?_
        k_with "compareOp Gt int int" => k_dflt (refine gt_yes hx1 ?_)
        k_with "compareOp NotIn int ref" => k_dflt (refine kdg_notin (knd := PySem.intKind _ _) N1 (o := op) (by first | k_clsL | simp [toL, adL]) S.op lop (intKind_is _ _ _ _) false hvn ?_)
        w_strict k_steps
        k_with "call ref" => k_dflt (refine halt ?_)
        refine wp_halt ?_
        w_strict k_steps
        have hx4 : x < 4096 := by
          refine Int.lt_of_lt_of_le hxj ?_
          obtain ⟨r, rfl⟩ : ∃ r : Nat, r = j := ⟨j, rfl⟩
          have hj : r ≤ 4 := by lia
          rcases hj' : r with _ | _ | _ | _ | _ | r <;> first | decide | lia
        (refine' lower (dm_con (ld4 := ld4) (ld7 := ld7) B' F1 X' (fun q hq => N1 q (by simp only [toL, adL, List.mem_cons, List.mem_append] at hq ⊢; rcases hq with h | h <;> simp [h])) T' ?hk hc4 hc7 hT4 hT7 hdis hx1 hx4 ?_) ?d ?u ?hh ?hf ?hg; (case hf => exact rfl); (case hk => exact rfl); (case hh => exact rfl); (case hg => exact rfl); (case d => exact Nat.le_of_ble_eq_true rfl); (case u => exact Nat.le_of_ble_eq_true rfl))
        intro h2 tk2 D u1 u2 ld4' ld7' F2 K2 fr2 N2 hT4' hT7' hdis' hn' hD'
        obtain ⟨N3, ND3⟩ := to_dm (q := ⟨x, D, u1, u2⟩) (ld := ld4 ++ ld7) (ld' := ld4' ++ ld7') N1 ND K2 fr2 N2 hn' hD' (tbs_nodup hT4' hT7' hdis')
        have hUS := updF_nd (d := pd) (o := op) (pre := (I, oI) :: (sx, instObj 179 dx) :: (dx, sdict w.params nd .none 0 0 t1 t2 t3 t4 t5 t6 4) :: (nd, od) :: gAll G) (post := (T ++ [(⟨x, D, u1, u2⟩ : Pt)]).map ptL ++ ((L' + 1, oC) :: (ld4' ++ ld7'))) ND3 rfl
        have hvN : valueAt (tKv T) x = none := valueAt_none (by unfold tKv; rw [List.map_map]; show x ∉ T.map (·.k); rw [S.tk]; exact hxP)
        clear F1 N1 ND N2 K2 hn' hD' fr2 hT4 hT7 hdis
        k_with "setItem ref int" => k_dflt ((refine' kda_set (knd := PySem.intKind _ _) ?F N3 hUS S.op (intKind_is _ _ _ _) ?z ?_; (case F => k_asm); (case z => (rw [sizeLine_eq]; lia))); intro h3 op' F3 N4 hop'; (try dsimp only at N4); (rw [stored_absent hvN] at hop'); (have N5 := News.cons1 (N4 (D, tupO [.int (x / 8) u1, .int (x % 8) u2]) (by first | k_clsL | simp [ptL])) N4); clear N4)
        have hvI : valueAt (tKv T ++ [(x, Value.ref D)]) x = some (.ref D) := valueAt_snoc_self hvN
        k_with "subscriptTail Name Name ref int" => k_dflt (refine' kda_item (knd := PySem.intKind _ _) ?N ?m hop' (intKind_is _ _ _ _) hvI ?_; (case N => k_asm); (case m => simp))
        w_strict k_steps
        k_with "subscriptTail Name Slice ref ref" => k_dflt ((refine' slice_tup1 (a := Value.int (x / 8) u1) (b := Value.int (x % 8) u2) ?F ?N ?m ?_ ?sb ?tb; (case F => k_asm); (case N => k_asm); (case m => simp); (case sb => with_unfolding_all rfl); (case tb => intro _; with_unfolding_all rfl)); intro D2 h4 F4 N6 l4)
        refine MethodCallStar_ ?_
        k_with "callWith ref" => k_dflt (refine' callWith_SM (K := topo.heap_39 w.params) (g := 129) (self := .ref sx) ?k2 ?_; (case k2 => k_is))
        w_strict k_steps
        k_with_none
        refine comp_tup (vs := [Value.int (x / 8) u1]) (fun y => match y with | .int n _ => decide (n ≠ 0) | _ => false) (fun y r => r = y) rfl F4 N6 (.head _) (by first | k_clsL | simp) ?_ ?_ ?_
        · rintro C i' y s₃ m₃ E' hy hn hm hkeep
          obtain rfl : y = Value.int (x / 8) u1 := by
            rcases i' with _ | i'
            · exact (Option.some.inj hy).symm
            · simp at hy
          simp only [List.forIn_cons, List.forIn_nil, if_true]
          refine wpAny_bind (wpAny_bind ?_)
          refine wp_halt ?_
          by_cases hz : x / 8 = 0
          · k_with "compareOp NotEq int int" => k_dflt (refine ne_no hz ?_)
            w_strict k_steps
            exact wpAny_pure (wpAny_pure ⟨by first | k_clsL | simp [hz], _, _, rfl, fun b o e => e⟩)
          · k_with "compareOp NotEq int int" => k_dflt (refine ne_yes hz ?_)
            w_strict k_steps
            exact wpAny_pure (wpAny_pure ⟨by first | k_clsL | simp [hz], _, _, rfl, fun b o e => e⟩)
        · rintro C i' y s₃ m₃ E' hy hpy hn hm hkeep
          refine wp_halt ?_
          w_strict k_steps
          exact ⟨rfl, _, _, rfl, fun b o e => e⟩
        · intro D3 ys h5 tk5 c5 F5 N7 lD3 hD3 hP
          obtain rfl : ys = if x / 8 = 0 then [] else [Value.int (x / 8) u1] := by
            by_cases hz : x / 8 = 0
            · simp only [hz, List.filter_cons, List.filter_nil, ne_eq, not_true, decide_false, Bool.false_eq_true, if_false, if_true] at hP ⊢
              cases hP; rfl
            · simp only [hz, List.filter_cons, List.filter_nil, ne_eq, not_false_iff, decide_true, if_true, if_false] at hP ⊢
              cases hP with
              | cons h1 h2 => cases h2; rw [h1]
          k_with "call ref" => k_dflt (refine halt ?_)
          w_strict k_steps
          refine star_seq (its := (if x / 8 = 0 then [] else [Value.int (x / 8) u1]).toArray) (T := "list") F5 N7 (.head _) rfl rfl (.inl rfl) rfl (by split <;> exact Nat.le_of_ble_eq_true rfl) fun h6 F6 N8 => ?_
          w_strict k_steps
          k_with_none
          rw [show ([] ++ Value.int x tx :: ((if x / 8 = 0 then [] else [Value.int (x / 8) u1]).toArray.toList ++ [])) = Value.int x tx :: (if x / 8 = 0 then [] else [Value.int (x / 8) u1]) by first | k_clsL | simp]
          refine call_meth (f := .ref 129) (self := .ref sx) N8 (by first | k_clsL | simp) ?_
          have ND4 := to_swap (op' := op').mp ND3
          (refine' lowerC (add_any (P := P) B' F6 X' (fun q hq => N8 q (by simp only [adL, List.mem_cons, List.mem_append] at hq ⊢; grind)) T' ?hk ND4 S.od lod S.gok ?hK hx1 hxP (by lia) ?_) ?d ?u ?hh ?hf ?hg; (case hf => exact rfl); (case hk => exact rfl); (case hh => exact rfl); (case hg => exact rfl); (case d => exact Nat.le_of_ble_eq_true rfl); (case u => exact Nat.le_of_ble_eq_true rfl))
          case hK => exact hGP.imp id (·.1)
          intro h7 tk7 od' G' F7 N9 ND9 hod' HG' hK'
          have N10 := News.cons1 (N9 (D, tupO [.int (x / 8) u1, .int (x % 8) u2]) (by first | k_clsL | simp [adL, ptL])) N9
          clear F6 N8 F5 N7 F4 N6 hP hD3 lD3
          k_with "subscriptTail Name Name ref int" => k_dflt (refine' kda_item (knd := PySem.intKind _ _) ?N ?m hop' (intKind_is _ _ _ _) hvI ?_; (case N => k_asm); (case m => simp [adL]))
          w_strict k_steps
          rename Fr g L' _ _ => F9
          rename News g L' _ _ => N11
          obtain ⟨j, rfl⟩ : ∃ r, j = r + 1 := ⟨j - 1, by
            rcases j with _ | j
            · simp at hxj; lia
            · lia⟩
          have hp8 : (8 : Int) ^ (j + 1) = 8 ^ j * 8 := Int.pow_succ _ _
          refine hQB _ ⟨j, Nat.lt_succ_self _, fun Zz KZ => KZ _ _ (x / 8) u1 (k + 1) (P ++ [x]) G' (T ++ [⟨x, D, u1, u2⟩]) od' op' ld4' ld7' _ rfl ?_ ?_ F9 (fun q hq => N11 q ?_) (to_swap.mpr ND9) hT4' hT7' hdis' ⟨hod', ?_, ?_, HG', ?_, ?_⟩ ?_ ?_ ?_ ?_ ?_ (by lia) (by lia) ?_⟩
          · rfl
          · rfl
          · simp only [toL, adL, List.mem_cons, List.mem_append] at hq ⊢
            grind
          · have : tKv (T ++ [⟨x, D, u1, u2⟩]) = tKv T ++ [(x, Value.ref D)] := by unfold tKv; rw [List.map_append]; rfl
            rw [this]; exact hop'
          · rw [List.map_append, S.tk]; rfl
          · intro y hy
            rcases List.mem_append.mp hy with hy | hy
            · exact S.lt y hy
            · rw [List.mem_singleton.mp hy]; exact hx4
          · intro y hy
            rcases List.mem_append.mp hy with hy | hy
            · exact S.met y hy
            · rw [List.mem_singleton.mp hy]; exact ⟨n, List.mem_of_getElem? hni, k, by lia, hxk⟩
          · rcases hK' with ⟨h1, _⟩ | ⟨h1, h2, h3⟩
            · exact .inl h1
            · refine .inr ⟨h1, fun hm => ?_, by lia⟩
              rcases List.mem_append.mp hm with hm | hm
              · exact h3 hm
              · have := List.mem_singleton.mp hm; lia
          · rw [List.length_append, List.length_singleton]; lia
          · intro n' hn'
            exact (hdone n' hn').imp id (List.mem_append_left _)
          · refine .inr ?_
            rcases hxn with h | h
            · rw [← h]; simp
            · exact List.mem_append_left _ h
          · rw [hxk]; exact ediv8 n k
          · rw [hp8] at hxj; lia
    · have hx00 : x = 0 := by lia
      have hGP' : gK G = P := hGP.resolve_right fun h => hx1 h.2.2
      refine wp_halt ?_
      k_with "compareOp Gt int int" => k_dflt (refine gt_no hx1 ?_)
      w_strict k_steps
      refine wpAny_execs_nil ?_
      refine wpAny_execs_nil ?_
      exact hQJ _ _ _ _ F1 N1 (nd_head ND) (fun Zz KZ => KZ P G T od op ld4 ld7 rfl rfl rfl ((List.nodup_cons.mp ND).2) hT4 hT7 hdis S hGP' (by lia) (hfin hGP' (.inl hx00)))
  · clear hT4 hT7 hdis hdo S F2 N2 ND hm1 hm2 hm3
    intro m₁ news₁ h tk hI F1 N1
    refine hI _ ?_
    clear hI
    rintro P G T od op ld4 ld7 hm1 hm2 rfl ND hT4 hT7 _ S hGP hPl hdone
    have hdone : ∀ n ∈ ns, n = 0 ∨ n ∈ P := by rw [hvl, List.take_length] at hdone; exact hdone
    have hP40 : P.length ≤ 40 := by rw [hvl] at hPl; lia
    have F1 : Fr g L' h m₁ := F1
    have N1 : News g L' h (toL w.params sx dx nd pd od op t1 t2 t3 t4 t5 t6 G T ((L' + 1, oC) :: (ld4 ++ ld7))) := N1
    rw [mkeep2 hm1 hm2] at F1
    k_with "call ref" => k_dflt (refine halt ?_)
    w_strict k_steps
    k_with_none
    show wpAny _ _ (call (.ref 134) [.ref sx]) _ _ _
    obtain ⟨oL, es, ep, hoL, hoD, hoK, hoF⟩ := FG.ns
    have hLs : s.heap.get? L = some oL := kb _ _ hoL
    have hLb : base.get? L = none := by
      cases e : base.get? L with
      | none => rfl
      | some o =>
        have := Heap.get?_none_of_le (h := h₀) (a := L) F.above
        rw [B.stays _ _ e] at this; cases this
    have hfr1 : ∀ q ∈ (L, oL) :: frs₀, g.get? q.1 = some q.2 ∧ base.get? q.1 = none := fun q hq => by
      rcases List.mem_cons.mp hq with rfl | hq
      · exact ⟨hoL, hLb⟩
      · exact ⟨FG.keep _ _ (hfs q hq).1, (hfs q hq).2⟩
    have Fs1 : TI.Frs (envX cn cs L a ccd cl :: outer) ((L, oL) :: frs₀) := ⟨by show cs.kind ≠ _; rw [hk]; decide, rfl, ⟨es, ep, hoD⟩, Fs⟩
    have hoff : ∀ b, g.get? b = none → b ∉ ((L, oL) :: frs₀).map (·.1) := fun b hb hm => by
      obtain ⟨q, hq, rfl⟩ := List.mem_map.mp hm
      rw [(hfr1 q hq).1] at hb; cases hb
    have hposP : ∀ y ∈ P, 0 < y := fun y hy => S.gok.pos y (by rw [hGP]; exact hy)
    have Gr := graph_of (P := P) N1 (fun p hp => toL_gr hp) S.od S.gok.nd lod (by rw [hGP]; lia) (fun f hf => (S.gok.ok f hf).kids) (by lia)
    have hA := ND
    simp only [toL, adL, List.map_cons, List.map_append, gAll_adr] at hA
    have hsd : sx ≠ dx := fun e => (List.nodup_cons.mp hA).1 (by rw [e]; exact .head _)
    have hnA : ∀ b ∈ nd :: gAdr G, b ≠ L' ∧ b ∉ ((L, oL) :: frs₀).map (·.1) ∧ b ≠ sx ∧ b ≠ dx := by
      intro b hb
      have hm : ∃ o, (b, o) ∈ (nd, od) :: gAll G := by
        rcases List.mem_cons.mp hb with rfl | hb
        · exact ⟨_, .head _⟩
        · rw [← gAll_adr] at hb
          obtain ⟨q, hq, rfl⟩ := List.mem_map.mp hb
          exact ⟨_, .tail _ hq⟩
      obtain ⟨o, ho⟩ := hm
      have hN := N1 (b, o) (toL_gr ho)
      obtain ⟨x1, x2⟩ := List.nodup_cons.mp hA
      obtain ⟨x3, _⟩ := List.nodup_cons.mp x2
      refine ⟨hN.2.1, hoff b hN.2.2, fun e => x1 ?_, fun e => x3 ?_⟩
      · rw [← e]; refine .tail _ ?_
        rcases List.mem_cons.mp hb with rfl | hb
        · exact .head _
        · exact .tail _ (List.mem_append_left _ hb)
      · rw [← e]
        rcases List.mem_cons.mp hb with rfl | hb
        · exact .head _
        · exact .tail _ (List.mem_append_left _ hb)
    (refine' lower (pp_con (frs₀ := (L, oL) :: frs₀) B' F1 XB TB ?N ?hk Fs1 hfr1 hsd Gr (fun b hb => hnA b (graph_adr S.gok.nd hb)) ?hch ?_) ?d ?u ?hh ?hf ?hg; (case hf => exact rfl); (case hk => exact rfl); (case hh => exact rfl); (case hg => exact rfl); (case d => exact Nat.le_of_ble_eq_true rfl); (case u => exact Nat.le_of_ble_eq_true rfl); (case N => exact fun q hq => N1 q (toL_two hq)))
    case hch => rw [hGP]; exact kids_up hposP
    intro h2 tk2 oL2 frs2 rl rvs rc hoL2 SU hq2 keep2 hdx hrl hrln hrvs
    have hgL : ∀ b o, g.get? b = some o → b ≠ L' := fun b o e e' => by
      have := Heap.get?_none_of_le (h := g) (a := L') F1.above
      rw [← e', e] at this; cases this
    have hNg : ∀ p ∈ toL w.params sx dx nd pd od op t1 t2 t3 t4 t5 t6 G T ((L' + 1, oC) :: (ld4 ++ ld7)), g.get? p.1 = none := fun p hp => (N1 p hp).2.2
    obtain ⟨g2, oL3, frs3, rfl, F2, B2, SU3, Fs3, hfr3, hnn, hkk, hnn'⟩ := turnG B' F1 Fs1 hfr1 hoL2 SU hq2 (fun b o e hb => keep2 b o (F1.keep _ _ e) (hgL b o e) hb (fun e' => by
        have := hNg (dx, sdict w.params nd .none 0 0 t1 t2 t3 t4 t5 t6 4) (.tail _ (.head _)); rw [← e', e] at this; cases this))
    have hrl1 : rl ∉ (toL w.params sx dx nd pd od op t1 t2 t3 t4 t5 t6 G T ((L' + 1, oC) :: (ld4 ++ ld7))).map (·.1) := fun hm => by
      obtain ⟨q, hq, e⟩ := List.mem_map.mp hm
      have := (N1 q hq).1
      rw [e, hrln] at this; cases this
    have ND2 := rd_nodupL (Q := w.params) (np := 0) (nf := 0) (vs := rvs) (rc := rc) ND hrl1
    have hrL : rl ≠ L' := fun e => by rw [e, hoL2] at hrln; cases hrln
    have hrg : g.get? rl = none := by
      cases e : g.get? rl with
      | none => rfl
      | some o => rw [F1.keep _ _ e] at hrln; cases hrln
    have N2 := rd_newsL (vs := rvs) (rc := rc) N1 ND (fun p hp hne => keep2 _ _ (N1 p hp).1 (N1 p hp).2.1 (hoff _ (N1 p hp).2.2) hne) hnn hdx hrl hrL (hnn _ hrg)
    have X2 : (topo.heap_39 w.params).In g2 := XB.keeps B2.stays
    have T2 : Top p loose mean mg mb g2 := TB.keeps B2.stays
    clear F1 N1 keep2 hdx hrl hNg hgL hnA hA ND hrl1 hoff hoL2 SU hnn hrg
    k_with "exec While Call cons nil" => k_dflt (refine halt ?_)
    w_strict k_steps
    k_with_none
    rename Fr g2 L' _ _ => F3
    rename News g2 L' _ _ => N3
    rename Obj.IsDictOf (intKind _ _) _ _ => hsg
    rename (_ == sysModules) = false => losd
    have apsd : ∀ p ∈ rdH w.params sx dx nd rl 0 0 t1 t2 t3 t4 t5 t6 rvs rc (G.map (·.d)) ++ (L' + 1, oC) :: stX nd pd od op G T (ld4 ++ ld7), p.1 ≠ h2.objs.size := by assumption
    have oCl := led_off ND2 (A := rdH w.params sx dx nd rl 0 0 t1 t2 t3 t4 t5 t6 rvs rc (G.map (·.d))) (q := (L' + 1, oC)) (C := stX nd pd od op G T (ld4 ++ ld7)) rfl
    refine storeX_C (v₀ := none) F3 N3 rfl (updF_mid (pre := _ :: rdH w.params sx dx nd rl 0 0 t1 t2 t3 t4 t5 t6 rvs rc (G.map (·.d))) ?_ (fun p hp => oCl p (List.mem_append_right _ hp))) hoC (fun h4 oc F4 N4 hoc => ?_) rfl rfl
    · intro p hp
      rcases List.mem_cons.mp hp with rfl | hp
      · exact (apsd (L' + 1, oC) (by first | k_clsL | simp)).symm
      · exact oCl p (List.mem_append_left _ hp)
    clear F3 N3 F2 N2
    k_with "exec While Call cons nil" => k_dflt (refine halt ?_)
    w_strict k_steps
    k_with_none
    rename Fr g2 L' _ _ => F3
    rename News g2 L' _ _ => N3
    rename AllLt _ _ => ltl
    have all1 := allLt_mem ltl
    have apl := adr_lt (l := rdH w.params sx dx nd rl 0 0 t1 t2 t3 t4 t5 t6 rvs rc (G.map (·.d)) ++ (L' + 1, oC) :: stX nd pd od op G T (ld4 ++ ld7)) (l' := rdH w.params sx dx nd rl 0 0 t1 t2 t3 t4 t5 t6 rvs rc (G.map (·.d)) ++ (L' + 1, oc) :: stX nd pd od op G T (ld4 ++ ld7)) (fun q hq => all1 q (.tail _ hq)) (by simp only [List.map_append, List.map_cons])
    have hsl := all1 _ (.head _)
    refine wp_state (P := fun s' =>   ∀ Z : Prop, (∀ sd tl os oc hh tk tsg m2, s' = { s with heap := hh, toks := tk } → m2 (Str.ofString "sorter") = some (Value.ref sx) → m2 (Str.ofString "parted") = some (Value.ref pd) → m2 (Str.ofString "told") = some (Value.ref tl) → Fr g2 L' hh m2 → News g2 L' hh (rdL w.params sx dx nd rl sd tl (L' + 1) oc os 0 0 t1 t2 t3 t4 t5 t6 rvs rc (G.map (·.d)) [] 0 (stX nd pd od op G T (ld4 ++ ld7))) → ((rdL w.params sx dx nd rl sd tl (L' + 1) oc os 0 0 t1 t2 t3 t4 t5 t6 rvs rc (G.map (·.d)) [] 0 (stX nd pd od op G T (ld4 ++ ld7))).map (·.1)).Nodup → (sd == sysModules) = false → oc.data = .cell (some (.ref sd)) → os.IsDictOf (IK w) [(0, .str (Str.ofString "") tsg)] → Z) → Z) (fun Zz KZ => KZ _ _ _ _ _ _ _ _ rfl rfl rfl rfl F3 (fun q hq => N3 q ?_) ?_ losd hoc hsg) ?_
    · simp only [rdL, List.mem_cons, List.mem_append] at hq ⊢
      rcases hq with h | h | h | h | h
      · exact .inr (.inl (.inr h))
      · exact .inr (.inr (.inl h))
      · exact .inr (.inl (.inl h))
      · exact .inl h
      · exact .inr (.inr (.inr h))
    · exact rdL_nodup ND2 apsd (fun p hp => Nat.ne_of_lt (apl p hp)) (Nat.ne_of_lt hsl)
    clear F3 N3 all1 apl hsl ltl apsd oCl ND2 hsg losd hoc hm1 hm2
    intro s1 hI
    refine hI _ ?_
    clear hI
    rintro sd tl os oc h3 tk3 tsg m2 rfl hm1 hm2 hm3 F1 N1 ND losd hoc hsg
    have hclo : ∀ y ∈ P, y / 8 = 0 ∨ y / 8 ∈ P := fun y hy => by have := S.gok.clo y hy; rwa [hGP] at this
    have hPn : P.Nodup := hGP ▸ S.gok.nd
    have hPM := P_met S.met hposP hclo hdone
    have hkv : gKvs (G.map (·.d)) = gKv G := by unfold gKvs gKv; rw [List.map_map]; rfl
    have Bt : Below (AT 400 cn cs L a ccd cl outer) base (envX cn cs L a ccd cl :: outer) g2 := B2
    refine whileV (fun n s' => ∀ Z : Prop, (∀ j hh tk c t5 t6 vs rc Gd oc os ks skv Rs ct st m', s' = { s with heap := hh, toks := tk } → m' (Str.ofString "sorter") = some (Value.ref sx) → m' (Str.ofString "parted") = some (Value.ref pd) → m' (Str.ofString "told") = some (Value.ref tl) → Fr g2 L' hh m' → News g2 L' hh (rdL w.params sx dx nd rl sd tl (L' + 1) oc os c c t1 t2 t3 t4 t5 t6 vs rc Gd Rs ct st) → ((rdL w.params sx dx nd rl sd tl (L' + 1) oc os c c t1 t2 t3 t4 t5 t6 vs rc Gd Rs ct st).map (·.1)).Nodup → RdSt w ns P sd (G.map (·.d)) Gd (stX nd pd od op G T (ld4 ++ ld7)) st oc os j vs ks skv Rs → n = 4 - j → Z) → Z) PassesOwn.never 4
      (fun Zz KZ => KZ 0 h3 tk3 0 t5 t6 rvs rc (G.map (·.d)) oc os _ _ [] 0 _ m2 rfl hm1 hm2 hm3 F1 N1 ND ⟨hoc, hsg, by first | k_clsL | simp, ?_, rfl, F_zero S.gok hGP S.lt, hrvs, ks_zero S.gok hGP, fun p hp => hp, ⟨rfl, fun i R h => by simp at h⟩, fun i hi => absurd hi (Nat.not_lt_zero _), Nat.zero_le _⟩ rfl) ?_
    · intro x hx
      have : x = 0 := by
        rcases hx with h | ⟨h, h'⟩
        · exact h
        · have := hposP x h; simp at h'; lia
      subst this
      exact ⟨tsg, by rw [sgn_zero]; rfl⟩
    clear F1 N1 ND hoc hsg hm1 hm2 hm3 hrvs
    intro n s' hI QB hQB _ _
    refine hI _ ?_
    clear hI
    rintro j hh tk c t5 t6 vs rc Gd oc os ks skv Rs ct st m' rfl hm1 hm2 hm3 F1 N1 ND R rfl
    have hS : ∀ p ∈ stL nd pd od op G T, p ∈ st := fun p hp => R.sto p (List.mem_append_left _ hp)
    rw [mkeep3 hm1 hm2 hm3] at F1
    refine wp_halt ?_
    k_with "call ref" => k_dflt (refine halt ?_)
    w_strict k_steps
    k_with_none
    show wpAny _ _ (call (.ref 148) [.ref sx]) _ _ _
    have hvl40 : vs.length ≤ 40 := by rw [R.vso.length]; exact Nat.le_trans R.kso.len hP40
    (refine' lower (ia_con (vs := vs) Bt F1 X2 (fun q hq => N1 q (rdL_three hq)) T2 ?hk (by lia) ?_) ?d ?u ?hh ?hf ?hg; (case hf => exact rfl); (case hk => exact rfl); (case hh => exact rfl); (case hg => exact rfl); (case d => exact Nat.le_of_ble_eq_true rfl); (case u => exact Nat.le_of_ble_eq_true rfl))
    intro h4 tk4 F2 K2
    have N2 := news_kept N1 K2
    clear F1 N1 K2
    rw [show (decide (c < c) || !vs.isEmpty) = !vs.isEmpty by first | k_clsL | simp]
    by_cases hv0 : vs = []
    · subst hv0
      w_strict k_steps
      refine wpAny_execs_nil ?_
      w_strict k_steps
      rename Fr g2 L' _ _ => F3
      rename News g2 L' _ _ => N3
      have hk0 : ks = [] := by have := R.vso; cases this; rfl
      have hkso := R.kso
      rw [hk0] at hkso
      have hrows := lawRows_of R.j4 R.neo (row_nil hPM hclo hkso)
      obtain ⟨as, hr⟩ := told_reads (h := _) (fun p hp => (N3 p (rdL_st hp)).1) (N3 (tl, W.listOf (Rs.map Value.ref).toArray ct) (by first | k_clsL | simp [rdL])).1 R.rows hrows
      exact hQf _ _ (ret _ _ oL frs3 tl as hLs SU3 (fun q hq => F3.keep _ _ (hfr3 q hq).1) (fun b o hb h1 h2 h3 => F3.keep _ _ (hkk b o (kp b o hb h3) (fun hm => by
        rcases List.mem_cons.mp hm with e | hm
        · exact h1 e
        · exact h2 hm))) (tb_grown hT4 fun q hq => (N3 q (rdL_st (R.sto _ (List.mem_append_right _ (List.mem_append_left _ hq))))).1) (tb_grown hT7 fun q hq => (N3 q (rdL_st (R.sto _ (List.mem_append_right _ (List.mem_append_right _ hq))))).1) hr)
    · rw [show (!vs.isEmpty) = true by simpa using hv0]
      w_strict k_steps
      refine wp_halt ?_
      k_with "call ref" => k_dflt (refine halt ?_)
      w_strict k_steps
      k_with_none
      show wpAny _ _ (call (.ref 141) [.ref sx]) _ _ _
      obtain ⟨NDh, NDs⟩ := rdL_off ND
      have hGdk : Gd.map (·.k) = P := by rw [keys_sh R.sho, List.map_map]; exact hGP
      have hmN : (nd, od) ∈ st := hS _ (.head _)
      (refine' lower (gr_con (vs := vs) (ks := ks) Bt F2 X2 (fun q hq => N2 q (List.mem_append_left _ hq)) T2 ?hk R.vso (by lia) hv0 (fun k hk => by rw [hGdk]; exact ((R.kso.mem k).mp hk).1) (by rw [hGdk]; exact hPn) NDh ?hd ?hda ?hoff ?_) ?d ?u ?hh ?hf ?hg; (case hf => exact rfl); (case hk => exact rfl); (case hh => exact rfl); (case hg => exact rfl); (case d => exact Nat.le_of_ble_eq_true rfl); (case u => exact Nat.le_of_ble_eq_true rfl))
      case hd => exact Heap.dictOf_iff.mpr ⟨od, (N2 _ (rdL_st hmN)).1, by rw [gKvs_sh R.sho, hkv]; exact S.od⟩
      case hda => exact fun d hd => (N2 _ (rdL_st (st_node S.gok.nd R.sho hS hd).1)).1
      case hoff =>
        intro b hb
        rcases hb with rfl | ⟨d, hd, rfl⟩
        · exact NDs _ hmN
        · exact NDs _ (st_node S.gok.nd R.sho hS hd).1
      intro h5 tk5 ta t5' c' Gd' F3 K3 fr3 N3 hsh3 hnp3
      have NA := rd_turn (H' := (ta, tupO vs) :: rdH w.params sx dx nd rl (c + ks.length) c t1 t2 t3 t4 t5' t6 [] c' Gd') N2 ND K3 (fun b hb => by rw [rdH_adr]; exact .tail _ hb) N3 (fun p hp => hp)
      have hta : ∀ p ∈ rdL w.params sx dx nd rl sd tl (L' + 1) oc os (c + ks.length) c t1 t2 t3 t4 t5' t6 [] c' Gd' Rs ct st, p.1 ≠ ta := rdL_fresh N2 (by rw [rdL_adr, rdL_adr, ias_sh hsh3]) (fr3 ta (.head _))
      k_with "exec For Name Name cons nil" => k_dflt (refine halt ?_)
      w_strict k_steps
      k_with_none
      rename Fr g2 L' _ _ => F4
      rename News g2 L' _ _ => N4
      (try clear F2); (try clear F3); (try clear K3); (try clear N3); (try clear NA); (try clear N2)
      have NDa : ((rdL w.params sx dx nd rl sd tl (L' + 1) oc os (c + ks.length) c t1 t2 t3 t4 t5' t6 [] c' Gd' Rs ct st).map (·.1)).Nodup := by
        have := ND
        rw [rdL_adr] at this ⊢
        rw [ias_sh hsh3]; exact this
      with_unfolding_all refine For_invVF (by assumption) rfl rfl ?_
      w_strict k_steps
      refine tupLoopV (vs := vs) (fun i m₁ news₁ => ∀ Z : Prop, (∀ os skv, m₁ (Str.ofString "sorter") = some (Value.ref sx) → m₁ (Str.ofString "parted") = some (Value.ref pd) → m₁ (Str.ofString "told") = some (Value.ref tl) → m₁ (Str.ofString "ready") = some (Value.ref ta) → news₁ = rdL w.params sx dx nd rl sd tl (L' + 1) oc os (c + ks.length) c t1 t2 t3 t4 t5' t6 [] c' Gd' Rs ct st → os.IsDictOf (IK w) skv → skv.length ≤ 1 + 40 * j + i → SgOk P j skv → (∀ x ∈ ks.take i, ∃ t, valueAt skv x = some (.str (sgn x) t)) → Z) → Z) rfl F4 N4 hta
        (fun Zz KZ => KZ os skv rfl rfl rfl rfl rfl R.dict R.slen R.sgo (fun x hx => by simp at hx)) ?_ ?_
      · intro i v m₁ news₁ h6 tk6 I oI hvi hI F1 N1 o1 o2 o3 QJ hQJ _ _ _
        refine hI _ ?_
        clear hI
        rintro os skv hm1 hm2 hm3 hm4 rfl hos hsl hsg hsk
        obtain ⟨x, tx, hxi, rfl⟩ := ints_get R.vso hvi
        have hxP := (R.kso.mem x).mp (List.mem_of_getElem? hxi)
        obtain ⟨q, hqT, hqk, hqv⟩ := tKv_at S.tk hPn hxP.1
        rw [mkeep2 hm1 hm2, mkeep2 hm3 hm4] at F1
        have F1 : Fr g2 L' h6 _ := F1
        have N1 : News g2 L' h6 _ := N1
        have hst := fun p hp => N1 p (.tail _ (.tail _ (rdL_st (p := p) hp)))
        have N5 := News.cons1 (p := (L' + 1, oc)) (N1 _ (by first | k_clsL | simp [rdL])) (News.cons1 (p := (q.D, tupO [.int (x / 8) q.t1, .int (x % 8) q.t2])) (by have := hst (ptL q) (hS _ (by unfold stL; exact .tail _ (.tail _ (List.mem_append_left _ (List.mem_map_of_mem hqT))))); rw [ptL, hqk] at this; exact this) N1)
        have hpd : (pd, op) ∈ st := hS _ (.tail _ (.head _))
        have hcell := R.cell
        k_with "subscriptTail Name Name ref int" => k_dflt (refine' kda_item (knd := PySem.intKind _ _) ?N (o := op) ?m S.op (intKind_is _ _ _ _) hqv ?_; (case N => k_asm); (case m => exact .tail _ (.tail _ (.tail _ (.tail _ (rdL_st hpd))))))
        k_with "call ref" => k_dflt (refine halt ?_)
        obtain ⟨tg, htg⟩ := hsg (x / 8) (by
          have p8 := pw8 j
          have hl := hxP.2
          unfold Lev at hl
          rcases hclo x hxP.1 with e | e
          · exact .inl e
          · exact .inr ⟨e, by lia⟩)
        k_with "subscriptTail Name Subscript ref int" => k_dflt (refine' kda_item (knd := PySem.intKind _ _) ?N (o := os) ?m hos (intKind_is _ _ _ _) htg ?_; (case N => k_asm); (case m => simp [rdL]))
        refine wp_halt ?_
        w_strict k_steps
        k_with_none
        have p8 := pw8 j
        have hl := hxP.2
        unfold Lev at hl
        have hx0 : 0 < x := hposP x hxP.1
        have hx4 : x < 4096 := S.lt x hxP.1
        (refine' lower (fm_con (x := x % 8) Bt ?F X2 News.nil T2 ?hk (by lia) (by lia) (ifmt (by lia) (by lia)) ?_) ?d ?u ?hh ?hf ?hg; (case hf => exact rfl); (case hk => exact rfl); (case hh => exact rfl); (case hg => exact rfl); (case d => exact Nat.le_of_ble_eq_true rfl); (case u => exact Nat.le_of_ble_eq_true rfl); (case F => k_asm))
        intro h7 tk7 t7 F6 K6
        rename News g2 L' _ _ => N6
        have N7 := news_kept (old := (L' + 1, oc) :: ([(I, oI), (ta, tupO vs)] ++ rdL w.params sx dx nd rl sd tl (L' + 1) oc os (c + ks.length) c t1 t2 t3 t4 t5' t6 [] c' Gd' Rs ct st)) (fun q hq => by
          rcases List.mem_cons.mp hq with rfl | hq
          · exact N6 _ (.head _)
          · exact N6 q (.tail _ (.tail _ hq))) K6
        have NDb : (([(I, oI), (ta, tupO vs)] ++ rdL w.params sx dx nd rl sd tl (L' + 1) oc os (c + ks.length) c t1 t2 t3 t4 t5' t6 [] c' Gd' Rs ct st).map (·.1)).Nodup := by
          refine List.nodup_cons.mpr ⟨fun hm => ?_, List.nodup_cons.mpr ⟨fun hm => ?_, (show ((rdL w.params sx dx nd rl sd tl (L' + 1) oc os (c + ks.length) c t1 t2 t3 t4 t5' t6 [] c' Gd' Rs ct st).map (·.1)).Nodup by rw [rdL_adr] at NDa ⊢; exact NDa)⟩⟩
          · rcases List.mem_cons.mp hm with e | hm
            · exact o3 e
            · obtain ⟨r, hr, e⟩ := List.mem_map.mp hm; exact o1 r hr e
          · obtain ⟨r, hr, e⟩ := List.mem_map.mp hm; exact o2 r hr e
        obtain ⟨gu, hU, hgu⟩ := rdL_sd (pr := [(I, oI), (ta, tupO vs)]) NDb
        have hi40 : i ≤ 40 := by have := (List.getElem?_eq_some_iff.mp hvi).1; lia
        have hj4 := R.j4
        have hl12 := sgn_len12 (x := x / 8) (by lia) (by lia)
        have h10 := fm_len (x := x % 8) (by lia) (by lia)
        (try clear N6); (try clear N5); (try clear F1)
        have heq : sgn (x / 8) ++ Txt.slice (fmStr (x % 8)) (some 7) none = sgn x := by rw [fm_drop7 (x := x % 8) (by lia) (by lia), ← sgn_step hx0 hx4]
        have hz3 : (sgn (x / 8)).length + (Txt.slice (fmStr (x % 8)) (some 7) none).length ≤ sizeLine := by
          rw [fm_drop7 (x := x % 8) (by lia) (by lia), sizeLine_eq]
          show (sgn (x / 8)).length + 3 ≤ _
          lia
        k_with "binaryOp Add str str" => k_dflt ((refine add_strV heq hz3 ?_); intro t9 k9)
        k_with "setItem ref int" => k_dflt ((rename News _ _ _ _ => lN'); (refine' kda_set (knd := PySem.intKind _ _) ?F (fun q hq => lN' q (.tail _ hq)) hU hos (intKind_is _ _ _ _) ?z ?_; (case F => k_asm); (case z => (rw [sizeLine_eq]; lia))); intro h9 os' F9 N9 hos'; (rw [hgu] at N9))
        w_strict k_steps
        have oA : ∀ {b : Addr}, (∀ p ∈ rdL w.params sx dx nd rl sd tl (L' + 1) oc os (c + ks.length) c t1 t2 t3 t4 t5' t6 [] c' Gd' Rs ct st, p.1 ≠ b) → ∀ p ∈ rdL w.params sx dx nd rl sd tl (L' + 1) oc os' (c + ks.length) c t1 t2 t3 t4 t5' t6 [] c' Gd' Rs ct st, p.1 ≠ b := by
          intro b hb p hp e
          have h1 : p.1 ∈ (rdL w.params sx dx nd rl sd tl (L' + 1) oc os (c + ks.length) c t1 t2 t3 t4 t5' t6 [] c' Gd' Rs ct st).map (·.1) := by
            have := List.mem_map_of_mem (f := (·.1)) hp
            rw [rdL_adr] at this ⊢; exact this
          obtain ⟨r, hr, e2⟩ := List.mem_map.mp h1
          exact hb r hr (e2.trans e)
        refine hQJ h9 _ _ (rdL w.params sx dx nd rl sd tl (L' + 1) oc os' (c + ks.length) c t1 t2 t3 t4 t5' t6 [] c' Gd' Rs ct st) F9 N9 (oA o1) (oA o2) (fun Zz KZ => KZ os' _ rfl rfl rfl rfl rfl hos' ?_ ?_ ?_)
        · have := stored_length_le skv x (Value.str (sgn x) t9); lia
        · intro y hy
          rw [valueAt_stored]
          by_cases e : y = x
          · rw [if_pos e, e]; exact ⟨_, rfl⟩
          · rw [if_neg e]; exact hsg y hy
        · intro y hy
          rw [List.take_add_one, hxi] at hy
          rw [valueAt_stored]
          by_cases e : y = x
          · rw [if_pos e, e]; exact ⟨_, rfl⟩
          · rw [if_neg e]
            rcases List.mem_append.mp hy with hy | hy
            · exact hsk y hy
            · exact absurd (by simpa using hy) e
      · intro m₁ news₁ h6 tk6 hI F1 N1 o1
        refine hI _ ?_
        clear hI
        rintro os skv hm1 hm2 hm3 hm4 rfl hos hsl hsg hsk
        have htk : ks.take vs.length = ks := by rw [R.vso.length]; exact List.take_length
        rw [htk] at hsk
        rw [mkeep2 hm1 hm2, mkeep2 hm3 hm4] at F1
        have F1 : Fr g2 L' h6 _ := F1
        have N1 : News g2 L' h6 _ := N1
        have N2 := News.cons1 (p := (tl, W.listOf (Rs.map Value.ref).toArray ct)) (N1 _ (by first | k_clsL | simp [rdL])) (News.cons1 (p := (L' + 1, oc)) (N1 _ (by first | k_clsL | simp [rdL])) N1)
        (try clear N1)
        have NDa' : ((rdL w.params sx dx nd rl sd tl (L' + 1) oc os (c + ks.length) c t1 t2 t3 t4 t5' t6 [] c' Gd' Rs ct st).map (·.1)).Nodup := by rw [rdL_adr] at NDa ⊢; exact NDa
        have hcell := R.cell
        k_with "call builtin:sorted" => k_dflt ((refine' sorted_tupI (l := ta) (vs := vs) ?F ?N ?m R.vso (by lia) ?_; (case F => k_asm); (case N => k_asm); (case m => exact .tail _ (.tail _ (.head _)))); intro D7 h7 vs7 ns7 e7 F7 N7 l7 i7 p7 s7)
        k_with "call ref" => k_dflt (refine halt ?_)
        k_with "eval ListComp" => k_dflt (refine halt ?_)
        w_strict k_steps
        refine wp_halt ?_
        k_dflt (refine LCg.ListComp_U (F₀ := by k_asm) (by with_unfolding_all rfl) (by decide) (by rfl) (by decide) (by rfl) ?_)
        w_strict k_steps
        rename News g2 L' _ _ => N8
        rename Fr g2 L' _ _ => F8
        have hjlt : j < 4 := by
          cases ks with
          | nil => exact absurd (by have := R.vso; cases this; rfl) hv0
          | cons k _ =>
            have hk := (R.kso.mem k).mp (.head _)
            have h1 := hk.2.1
            have h2 := S.lt k hk.1
            rcases Nat.lt_or_ge j 4 with q | q
            · exact q
            · have : j = 4 := by have := R.j4; lia
              subst this; simp at h1; lia
        have hlen7 : vs7.length = ks.length := by rw [i7.length]; exact p7.length_eq
        have hND7 : (((D7, W.listOf vs7.toArray e7) :: rdL w.params sx dx nd rl sd tl (L' + 1) oc os (c + ks.length) c t1 t2 t3 t4 t5' t6 [] c' Gd' Rs ct st).map (·.1)).Nodup := by
          refine List.nodup_cons.mpr ⟨fun hm => ?_, NDa'⟩
          obtain ⟨r, hr, e⟩ := List.mem_map.mp hm
          exact Nat.ne_of_lt (l7 r (.tail _ (.tail _ (.tail _ hr)))) e
        obtain ⟨stX, hstX⟩ : ∃ y, y = (ta, tupO vs) :: st := ⟨_, rfl⟩
        have hNDX : (((D7, W.listOf vs7.toArray e7) :: rdL w.params sx dx nd rl sd tl (L' + 1) oc os (c + ks.length) c t1 t2 t3 t4 t5' t6 [] c' Gd' Rs ct stX).map (·.1)).Nodup := by
          rw [hstX]
          exact rdL_grow hND7 fun p hp => by
            rcases List.mem_cons.mp hp with rfl | hp
            · exact Nat.ne_of_gt (l7 (ta, tupO vs) (.tail _ (.tail _ (.head _))))
            · exact o1 p hp
        refine LCg.CompSrc.ledger (news := (D7, W.listOf vs7.toArray e7) :: rdL w.params sx dx nd rl sd tl (L' + 1) oc os (c + ks.length) c t1 t2 t3 t4 t5' t6 [] c' Gd' Rs ct stX) rfl F8 (fun q hq => N8 q (by
          rw [hstX] at hq
          rcases rdL_mem hq with rfl | hq
          · exact .tail _ (.tail _ (.tail _ (.head _)))
          rcases List.mem_cons.mp hq with rfl | hq
          · exact .head _
          · exact .tail _ (.tail _ (.tail _ (.tail _ hq))))) (.head _) (by have := R.vso.length; rw [List.size_toArray, sizeLine_eq]; lia) (fun g' => ?_)
        refine comp_ind (fun i ys nw => ∀ Z : Prop, (∀ rs st', nw = (D7, W.listOf vs7.toArray e7) :: rdL w.params sx dx nd rl sd tl (L' + 1) oc os (c + ks.length) c t1 t2 t3 t4 t5' t6 [] c' Gd' Rs ct st' → ys = rowVs rs → rs.map (·.k) = ns7.take i → (∀ p ∈ stX, p ∈ st') → (∀ r ∈ rs, rowO r ∈ st' ∧ ∃ t, r.rest = [.str (sgn r.k) t, .bool true]) → (nw.map (·.1)).Nodup → Z) → Z) (fun Zz KZ => KZ [] stX rfl rfl rfl (fun _ h => h) (fun _ h => nomatch h) hNDX) ?_ ?_
        · intro i ys nw hi hI v I oI C oC D m₂ h8 tk8 E8 hv hC hx F9 N9 off9 ne9
          refine hI _ ?_
          clear hI
          rintro rs st' rfl rfl hrk hst hrr hnd
          refine wp_var fun Qc hQc => ?_
          obtain ⟨x, tx, hxi, rfl⟩ := ints_get i7 (show vs7[i]? = some v by simpa using hv)
          have hxk : x ∈ ks := p7.mem_iff.mp (List.mem_of_getElem? hxi)
          have hxP := (R.kso.mem x).mp hxk
          have hx0 : 0 < x := hposP x hxP.1
          have hx4 : x < 4096 := S.lt x hxP.1
          obtain ⟨tg, htg⟩ := hsk x hxk
          have N10 := News.cons1 (p := (C, oC)) (N9 _ (by first | k_clsL | simp)) (News.cons1 (p := (L' + 1, oc)) (N9 _ (by first | k_clsL | simp [rdL])) (News.cons1 (p := (sd, os)) (N9 _ (by first | k_clsL | simp [rdL])) N9))
          (try clear N9); (try clear N8); (try clear F8); (try clear N7); (try clear F7); (try clear F1); (try clear N2)
          have hcell := R.cell
          k_with "subscriptTail Name Name ref int" => k_dflt (refine' kda_item (knd := PySem.intKind _ _) ?N (o := os) ?m hos (intKind_is _ _ _ _) htg ?_; (case N => k_asm); (case m => exact .tail _ (.tail _ (.head _))))
          have hln := sgn_lenJ hjlt hxP.2
          have hj4' := hjlt
          have hl := hxP.2
          unfold Lev at hl
          k_with "call builtin:len" => k_dflt (refine len_str ?fit ?_; (case fit => lia))
          k_with "call ref" => k_dflt (refine halt ?_)
          by_cases hj2 : j = 2
          · subst hj2
            have hx64 : 64 ≤ x := by have := hl.1; simpa using this
            have hx512 : x < 512 := by have := hl.2; simpa using this
            k_with "compareOp NotEq int int" => k_dflt (refine ne_no (by lia) ?_)
            refine wp_halt ?_
            w_strict k_steps
            k_with_none
            (refine' lower (fm_con (x := x) Bt ?F X2 News.nil T2 ?hk (by lia) hx512 (ifmt (by lia) hx512) ?_) ?d ?u ?hh ?hf ?hg; (case hf => exact rfl); (case hk => exact rfl); (case hh => exact rfl); (case hg => exact rfl); (case d => exact Nat.le_of_ble_eq_true rfl); (case u => exact Nat.le_of_ble_eq_true rfl); (case F => k_asm))
            intro h9 tk9 t9 F9 K9
            rename News g2 L' h8 _ => N11
            have N15 := news_kept N11 K9
            (try clear N11)
            have h10 := fm_len (x := x) (by lia) hx512
            have hdr := fm_drop1 hx64 hx512
            k_with "subscriptTail Call Name cons nil Slice str ref" => k_dflt ((refine slice_strN_sn (s := ⟨_, _, _, _, _⟩) (x := fmStr x) (by k_asm) (by k_asm) ?_ (hsz := ?hsz)); (case hsz => (rw [h10, sizeLine_eq]; lia)); intro h11 t11 k11 F11 N11; (try dsimp only))
            k_with "compareOp Eq str str" => k_dflt (refine eq_strY hdr.symm ?_)
            w_strict k_steps
            rename News g2 L' h11 _ => N12
            rename News g2 L' _ _ => N13
            rename Fr g2 L' _ _ => F13
            obtain ⟨T, hT⟩ : ∃ T, T = h11.objs.size := ⟨_, rfl⟩
            have hTl : ∀ p ∈ (I, oI) :: (C, oC) :: (D, LCg.lst (rowVs rs)) :: (D7, W.listOf vs7.toArray e7) :: rdL w.params sx dx nd rl sd tl (L' + 1) oc os (c + ks.length) c t1 t2 t3 t4 t5' t6 [] c' Gd' Rs ct st', p.1 ≠ T := fun p hp => by
              rw [hT]; exact Nat.ne_of_lt (Heap.lt_size (N12 p (.tail _ (.tail _ (.tail _ hp)))).1)
            refine hQc _ _ ?_
            show LCg.CompEnd _ _ _ _ _ _ _ _ _ _ _ _ _ _
            refine LCg.CompEnd.intro F13 N13 ((D7, W.listOf vs7.toArray e7) :: rdL w.params sx dx nd rl sd tl (L' + 1) oc os (c + ks.length) c t1 t2 t3 t4 t5' t6 [] c' Gd' Rs ct ((T, tupO [.int x tx, .str (sgn x) tg, .bool true]) :: st')) ?_ (.of fun p hp => ?_) (.inr ⟨_, .head _, rfl, _, rfl⟩) (fun Zz KZ => KZ (rs ++ [⟨x, T, tx, [.str (sgn x) tg, .bool true]⟩]) _ rfl (by rw [hT]; simp only [rowVs, List.map_append, List.map_cons, List.map_nil]) ?_ (fun p hp => .tail _ (hst p hp)) ?_ (rdL_grow hnd fun p hp => hTl p (.tail _ (.tail _ (.tail _ hp)))))
            · intro p hp
              rw [hT] at hp
              rcases List.mem_cons.mp hp with rfl | hp
              · exact .tail _ (.tail _ (.tail _ (.tail _ (.head _))))
              rcases List.mem_cons.mp hp with rfl | hp
              · exact .tail _ (.head _)
              rcases List.mem_cons.mp hp with rfl | hp
              · exact .tail _ (.tail _ (.tail _ (.tail _ (.tail _ (.tail _ (.head _))))))
              rcases rdL_mem hp with rfl | hp
              · exact .head _
              · exact .tail _ (.tail _ (.tail _ (.tail _ (.tail _ (.tail _ (.tail _ hp))))))
            · rcases rdL_mem hp with rfl | hp
              · exact ⟨fun e => hTl _ (.head _) e.symm, fun e => hTl _ (.tail _ (.head _)) e.symm, fun e => hTl _ (.tail _ (.tail _ (.head _))) e.symm⟩
              · exact off9.mem p hp
            · rw [List.map_append, hrk, List.take_add_one, hxi]; rfl
            · intro r hr
              rcases List.mem_append.mp hr with hr | hr
              · exact ⟨.tail _ (hrr r hr).1, (hrr r hr).2⟩
              · obtain rfl := List.mem_singleton.mp hr
                exact ⟨.head _, tg, rfl⟩
          · k_with "subscriptTail Name Name ref int" => k_dflt (refine' kda_item (knd := PySem.intKind _ _) ?N (o := os) ?m hos (intKind_is _ _ _ _) htg ?_; (case N => k_asm); (case m => exact .tail _ (.tail _ (.head _))))
            k_with "call builtin:len" => k_dflt (refine len_str ?fit ?_; (case fit => lia))
            k_with "compareOp NotEq int int" => k_dflt (refine ne_yes (by lia) ?_)
            refine wp_halt ?_
            w_strict k_steps
            rename News g2 L' h8 _ => N12
            rename News g2 L' _ _ => N13
            rename Fr g2 L' _ _ => F13
            obtain ⟨T, hT⟩ : ∃ T, T = h8.objs.size := ⟨_, rfl⟩
            have hTl : ∀ p ∈ (I, oI) :: (C, oC) :: (D, LCg.lst (rowVs rs)) :: (D7, W.listOf vs7.toArray e7) :: rdL w.params sx dx nd rl sd tl (L' + 1) oc os (c + ks.length) c t1 t2 t3 t4 t5' t6 [] c' Gd' Rs ct st', p.1 ≠ T := fun p hp => by
              rw [hT]; exact Nat.ne_of_lt (Heap.lt_size (N12 p (.tail _ (.tail _ (.tail _ hp)))).1)
            refine hQc _ _ ?_
            show LCg.CompEnd _ _ _ _ _ _ _ _ _ _ _ _ _ _
            refine LCg.CompEnd.intro F13 N13 ((D7, W.listOf vs7.toArray e7) :: rdL w.params sx dx nd rl sd tl (L' + 1) oc os (c + ks.length) c t1 t2 t3 t4 t5' t6 [] c' Gd' Rs ct ((T, tupO [.int x tx, .str (sgn x) tg, .bool true]) :: st')) ?_ (.of fun p hp => ?_) (.inr ⟨_, .head _, rfl, _, rfl⟩) (fun Zz KZ => KZ (rs ++ [⟨x, T, tx, [.str (sgn x) tg, .bool true]⟩]) _ rfl (by rw [hT]; simp only [rowVs, List.map_append, List.map_cons, List.map_nil]) ?_ (fun p hp => .tail _ (hst p hp)) ?_ (rdL_grow hnd fun p hp => hTl p (.tail _ (.tail _ (.tail _ hp)))))
            · intro p hp
              rw [hT] at hp
              rcases List.mem_cons.mp hp with rfl | hp
              · exact .tail _ (.tail _ (.tail _ (.tail _ (.head _))))
              rcases List.mem_cons.mp hp with rfl | hp
              · exact .tail _ (.head _)
              rcases List.mem_cons.mp hp with rfl | hp
              · exact .tail _ (.tail _ (.tail _ (.tail _ (.tail _ (.tail _ (.head _))))))
              rcases rdL_mem hp with rfl | hp
              · exact .head _
              · exact .tail _ (.tail _ (.tail _ (.tail _ (.tail _ (.tail _ (.tail _ hp))))))
            · rcases rdL_mem hp with rfl | hp
              · exact ⟨fun e => hTl _ (.head _) e.symm, fun e => hTl _ (.tail _ (.head _)) e.symm, fun e => hTl _ (.tail _ (.tail _ (.head _))) e.symm⟩
              · exact off9.mem p hp
            · rw [List.map_append, hrk, List.take_add_one, hxi]; rfl
            · intro r hr
              rcases List.mem_append.mp hr with hr | hr
              · exact ⟨.tail _ (hrr r hr).1, (hrr r hr).2⟩
              · obtain rfl := List.mem_singleton.mp hr
                exact ⟨.head _, tg, rfl⟩
        · intro ys nw hI
          refine hI _ ?_
          clear hI
          rintro rs st' rfl rfl hrk hst hrr hnd
          unfold LCg.FinE
          intro DR h9 tk9 F9 N9 o9
          (try dsimp only)
          k_with_none
          have hj4' := hjlt
          have ND9 : (([(DR, LCg.lst (rowVs rs)), (D7, W.listOf vs7.toArray e7)] ++ rdL w.params sx dx nd rl sd tl (L' + 1) oc os (c + ks.length) c t1 t2 t3 t4 t5' t6 [] c' Gd' Rs ct st').map (·.1)).Nodup := by
            refine List.nodup_cons.mpr ⟨fun hm => ?_, hnd⟩
            obtain ⟨r, hr, e⟩ := List.mem_map.mp hm
            exact off1_mem o9 r hr e
          have hRl : Rs.length = j := R.rows.1
          have hU := rdL_app (Rs' := Rs ++ [DR]) (ct' := ct + 1) ND9
          rw [show ((Rs ++ [DR]).map Value.ref).toArray = (Rs.map Value.ref).toArray.push (.ref DR) by first | k_clsL | simp] at hU
          (try clear F8); (try clear N8); (try clear F7); (try clear N7); (try clear N2); (try clear F1)
          show wpAny _ _ _ _ _ _
          k_with "call builtin:list.append" => k_dflt ((refine' append_K ?F N9 hU ?_ ?z; (case F => k_asm); (case z => (rw [List.size_toArray, List.length_map, hRl, sizeLine_eq]; lia))); intro h10 F10 N10)
          w_strict k_steps
          refine MethodCallStar_ ?_
          k_with "callWith ref" => k_dflt (refine' callWith_SM1 (K := topo.heap_39 w.params) (g := 162) (self := .ref sx) ?k2 ?_; (case k2 => k_is))
          w_strict k_steps
          k_with_none
          rename Fr g2 L' _ _ => F11
          rename News g2 L' _ _ => N11
          have hX : ∀ p ∈ st, p ∈ st' := fun p hp => hst p (by rw [hstX]; exact .tail _ hp)
          have hmT : (ta, tupO vs) ∈ st' := hst _ (by rw [hstX]; exact .head _)
          (try clear hU)
          refine star_seq (o := tupO vs) (its := vs.toArray) (T := "tuple") F11 N11 (.tail _ (.tail _ (.tail _ (rdL_st hmT)))) rfl rfl (.inr rfl) rfl (by rw [List.size_toArray, sizeLine_eq]; lia) fun h12 F12 N12 => ?_
          refine ⟨⟨(N12 _ (.head _)).1, X2.keeps F12.keep⟩, ?_⟩
          refine call_meth (f := .ref 162) (self := .ref sx) N12 (.head _) ?_
          have hshN : Gd'.map ndSh = (G.map (·.d)).map ndSh := hsh3.trans R.sho
          have hGk' : Gd'.map (·.k) = P := (keys_sh hsh3).trans hGdk
          have NDi : (sx :: dx :: rl :: Gd'.map (·.ia)).Nodup := by rw [ias_sh hsh3]; exact NDh
          have hstS : ∀ p ∈ stL nd pd od op G T, p ∈ st' := fun p hp => hX p (hS p hp)
          have hnd2 : (((D7, W.listOf vs7.toArray e7) :: rdL w.params sx dx nd rl sd tl (L' + 1) oc os (c + ks.length) c t1 t2 t3 t4 t5' t6 [] c' Gd' (Rs ++ [DR]) (ct + 1) st').map (·.1)).Nodup := by
            have := hnd
            rw [List.map_cons, rdL_adr] at this ⊢; exact this
          have hDR : ∀ p ∈ (D7, W.listOf vs7.toArray e7) :: rdL w.params sx dx nd rl sd tl (L' + 1) oc os (c + ks.length) c t1 t2 t3 t4 t5' t6 [] c' Gd' (Rs ++ [DR]) (ct + 1) st', p.1 ≠ DR := by
            intro p hp e
            have h1 := List.mem_map_of_mem (f := (·.1)) hp
            rw [List.map_cons, rdL_adr] at h1
            have h2 : p.1 ∈ ((D7, W.listOf vs7.toArray e7) :: rdL w.params sx dx nd rl sd tl (L' + 1) oc os (c + ks.length) c t1 t2 t3 t4 t5' t6 [] c' Gd' Rs ct st').map (·.1) := by rw [List.map_cons, rdL_adr]; exact h1
            obtain ⟨r, hr, e2⟩ := List.mem_map.mp h2
            exact off1_mem o9 r hr (e2.trans e)
          have ND12 := (List.nodup_cons.mp (rdL_grow (a := (DR, LCg.lst (rowVs rs))) hnd2 hDR)).2
          obtain ⟨_, NDs'⟩ := rdL_off ND12
          have N12' : News g2 L' h12 (rdL w.params sx dx nd rl sd tl (L' + 1) oc os (c + ks.length) c t1 t2 t3 t4 t5' t6 [] c' Gd' (Rs ++ [DR]) (ct + 1) ((DR, LCg.lst (rowVs rs)) :: st')) := fun p hp => by
            rcases rdL_mem (q := (D7, W.listOf vs7.toArray e7)) (.tail _ hp) with rfl | hp
            · exact N12 _ (.tail _ (.head _))
            · exact N12 p (.tail _ (.tail _ hp))
          (refine' lowerC (dn_con (vs := vs) (ks := ks) (su := fun k => (fOf G k).su) (sn := fun k => (fOf G k).n) (ch := kidsOf P) (F0 := fun k => if k ∈ ks then -1 else Fj j k) Bt F12 X2 (fun q hq => N12' q (List.mem_append_left _ hq)) T2 ?hk R.vso (by lia) ?hks ?hnk NDi ?hd lod ?hda ?hsa ?hoff ?hch ?hcn ?hcl ?hcm R.kso.nd ?hF0 ?hFk ?hFc ?_) ?d ?u ?hh ?hf ?hg; (case hf => exact rfl); (case hk => exact rfl); (case hh => exact rfl); (case hg => exact rfl); (case d => exact Nat.le_of_ble_eq_true rfl); (case u => exact Nat.le_of_ble_eq_true rfl))
          case hks => intro k hk; rw [hGk']; exact ((R.kso.mem k).mp hk).1
          case hnk => rw [hGk']; exact hPn
          case hd => exact Heap.dictOf_iff.mpr ⟨od, (N12' _ (rdL_st (.tail _ (hstS _ (.head _))))).1, by rw [gKvs_sh hshN, hkv]; exact S.od⟩
          case hda => exact fun d hd => (N12' _ (rdL_st (.tail _ (st_node S.gok.nd hshN hstS hd).1))).1
          case hsa => exact fun d hd => (N12' _ (rdL_st (.tail _ (st_node S.gok.nd hshN hstS hd).2))).1
          case hoff =>
            intro b hb
            rcases hb with rfl | ⟨d, hd, rfl | rfl⟩
            · exact NDs' _ (.tail _ (hstS _ (.head _)))
            · exact NDs' _ (.tail _ (st_node S.gok.nd hshN hstS hd).1)
            · exact NDs' _ (.tail _ (st_node S.gok.nd hshN hstS hd).2)
          case hch =>
            intro k hk
            have hkG : k ∈ gK G := by rw [hGP]; exact ((R.kso.mem k).mp hk).1
            obtain ⟨f, hf, rfl⟩ := List.mem_map.mp hkG
            show IntsAre (fOf G f.d.k).su _
            rw [fOf_mem S.gok.nd hf]; exact (S.gok.ok f hf).kids
          case hcn => exact flat_nodup hPn R.kso.nd
          case hcl => have := (ks_next hPn hclo R.kso).len; lia
          case hcm => intro k hk y hy; rw [hGk']; exact (kids_mem.mp hy).1
          case hF0 => exact hnp3 (Fj j) R.npo
          case hFk => intro k hk; exact if_pos hk
          case hFc => intro k hk y hy; exact F_kids R.kso hk hy
          intro h13 tk13 t6' c2 Gd2 rvs2 F13 K13 N13 hrs2 hsh2 hnp2
          have N14 := rd_turn (H' := rdH w.params sx dx nd rl (c + ks.length) (c + ks.length) t1 t2 t3 t4 t5' t6' rvs2 c2 Gd2) N12' ND12 K13 (fun b hb => by rw [rdH_adr]; exact .tail _ hb) N13 (fun p hp => hp)
          (try clear N13); (try clear K13); (try clear N12'); (try clear F12); (try clear N12); (try clear F11); (try clear N11)
          w_strict k_steps
          have ND15 : ((rdL w.params sx dx nd rl sd tl (L' + 1) oc os (c + ks.length) (c + ks.length) t1 t2 t3 t4 t5' t6' rvs2 c2 Gd2 (Rs ++ [DR]) (ct + 1) ((DR, LCg.lst (rowVs rs)) :: st')).map (·.1)).Nodup := by
            have := ND12
            rw [rdL_adr] at this ⊢
            rw [ias_sh hsh2]; exact this
          have htk7 : ns7.take vs7.toArray.size = ns7 := by rw [List.size_toArray, i7.length]; exact List.take_length
          rw [htk7] at hrk
          exact hQB _ ⟨4 - (j + 1), by lia, fun Zz KZ => KZ (j + 1) _ _ (c + ks.length) t5' t6' rvs2 c2 Gd2 oc os _ skv (Rs ++ [DR]) (ct + 1) ((DR, LCg.lst (rowVs rs)) :: st') _ rfl rfl rfl rfl F13 N14 ND15 (rd_next R hjlt hv0 hvl40 hPn hclo hPM hos hsl hsg hsk (hsh2.trans hshN) ((List.map_map ..).trans hGP) hnp2 hrs2 hX hrr hrk p7 s7) rfl⟩
end
end

section
open PySem PySem.Spec PySem.Calls PySem.W PyProof.Rows
set_option Elab.async false
set_option maxRecDepth 100000
set_option maxHeartbeats 3000000
section
variable {prog : Program} {w : World} {A : Around} {E : Value → Shared → Prop} {s : Shared} {R : Result → Shared → Prop} {env : Env}
noncomputable abbrev lc2 (elt : Expr) (x y : Str) (px py : Pos) (iter iter2 : Expr) (scope : Scope) (pos : Pos) : Expr := .ListComp elt [⟨.Name x px, iter, [], 0⟩, ⟨.Name y py, iter2, [], 0⟩] scope pos
theorem compTurn_two (elt iter iter2 : Expr) (x y : Str) (px py : Pos) (scope : Scope) (pos : Pos) (it acc : Value) (env : Env) :
    compTurn (lc2 elt x y px py iter iter2 scope pos) 0 it acc env = (do
      standAt iter.pos
      match ← pyNext it with
      | none => pure (.done .next)
      | some v =>
        letOwnedTupleGo (.Name x px) it v
        assign (.Name x px) env v
        let xv ← eval iter2 env
        standAt iter2.pos
        let xv ← foldedSetIterable iter2 env xv
        let it2 ← holding [xv] (pyIter xv)
        let _ ← runOwn (.compStart (lc2 elt x y px py iter iter2 scope pos) 1 it2 acc env) env
        again (.compLoop (lc2 elt x y px py iter iter2 scope pos) 0 it acc env)) := by rfl
theorem compTurn_in (elt iter iter2 : Expr) (x y : Str) (px py : Pos) (scope : Scope) (pos : Pos) (it acc : Value) (env : Env) :
    compTurn (lc2 elt x y px py iter iter2 scope pos) 1 it acc env = (do
      standAt iter2.pos
      match ← pyNext it with
      | none => pure (.done .next)
      | some v =>
        letOwnedTupleGo (.Name y py) it v
        assign (.Name y py) env v
        (do let _ ← call (.builtin "list.append") [acc, ← eval elt env])
        again (.compLoop (lc2 elt x y px py iter iter2 scope pos) 1 it acc env)) := by rfl
theorem compLoop_in {elt iter iter2 : Expr} {x y : Str} {px py : Pos} {scope : Scope} {pos : Pos} {it acc : Value} (I : Nat → Shared → Prop)
    (turn : ∀ n s, I n s → ∀ (QB : Shared → Prop) (EE : Value → Shared → Prop), (∀ m s', m < n → I m s' → QB s') → wpAny (model prog w) A (pyNext it) (fun r s₁ => match r with
      | none => R (.ok .next) s₁
      | some v => wpAny (model prog w) A (assign (.Name y py) env v) (fun _ s₂ =>
          wpAny (model prog w) A (eval elt env) (fun r s₄ =>
              wpAny (model prog w) A (call (.builtin "list.append") [acc, r]) (fun _ s₅ => QB s₅) EE s₄) EE s₂) EE s₁) EE s)
    (n : Nat) (h : I n s) : codeAny (model prog w) A (.compLoop (lc2 elt x y px py iter iter2 scope pos) 1 it acc env) R s := by
  refine codeAny_loop rfl I (fun n s hI => ?_) n h
  show wpAny _ A ((compTurn (lc2 elt x y px py iter iter2 scope pos) 1 it acc env).onRaise (fun x => do noteFrame x env; theTreesLotGoes x)) _ _ s
  refine wpAny_noted ?_
  rw [compTurn_in]
  refine wpAny_bind (wpAny_standAt (wpAny_bind (wpAny_mono (turn n s hI (fun s' => ∃ m, m < n ∧ I m s') _ fun m s' hm hi => ⟨m, hm, hi⟩) (fun r s₁ h₁ => ?_) fun _ _ h' => h')))
  cases r with
  | none => exact wpAny_pure h₁
  | some v =>
    refine wpAny_bind (wpAny_of_eq (by rfl : letOwnedTupleGo (.Name y py) it v = pure ()) ?_)
    refine wpAny_bind (wpAny_mono h₁ (fun _ s₂ h₂ => ?_) fun _ _ h' => h')
    exact wpAny_bind (wpAny_bind (wpAny_mono h₂ (fun r s₄ h₄ => wpAny_bind (wpAny_mono h₄ (fun _ s₅ h₅ => wpAny_pure (wpAny_pure ⟨rfl, h₅⟩)) fun _ _ h' => h')) fun _ _ h' => h'))
theorem compLoop_out {elt iter iter2 : Expr} {x y : Str} {px py : Pos} {scope : Scope} {pos : Pos} {it acc : Value} (I : Nat → Shared → Prop) (hs : ∀ x, foldedSetIterable iter2 env x = pure x)
    (turn : ∀ n s, I n s → ∀ (QB : Shared → Prop) (EE : Value → Shared → Prop), (∀ m s', m < n → I m s' → QB s') → wpAny (model prog w) A (pyNext it) (fun r s₁ => match r with
      | none => R (.ok .next) s₁
      | some v => wpAny (model prog w) A (assign (.Name x px) env v) (fun _ s₂ =>
          wpAny (model prog w) A (eval iter2 env) (fun xv s₃ => wpAny (model prog w) A (pyIter xv) (fun it2 s₄ =>
              codeAny (model prog w) A (.compStart (lc2 elt x y px py iter iter2 scope pos) 1 it2 acc env) (fun r s' => match r with | .ok _ => QB s' | .error e => cameBackBy (model prog w) A env EE e s') s₄) EE s₃) EE s₂) EE s₁) EE s)
    (n : Nat) (h : I n s) : codeAny (model prog w) A (.compLoop (lc2 elt x y px py iter iter2 scope pos) 0 it acc env) R s := by
  refine codeAny_loop rfl I (fun n s hI => ?_) n h
  show wpAny _ A ((compTurn (lc2 elt x y px py iter iter2 scope pos) 0 it acc env).onRaise (fun x => do noteFrame x env; theTreesLotGoes x)) _ _ s
  refine wpAny_noted ?_
  rw [compTurn_two]
  refine wpAny_bind (wpAny_standAt (wpAny_bind (wpAny_mono (turn n s hI (fun s' => ∃ m, m < n ∧ I m s') _ fun m s' hm hi => ⟨m, hm, hi⟩) (fun r s₁ h₁ => ?_) fun _ _ h' => h')))
  cases r with
  | none => exact wpAny_pure h₁
  | some v =>
    refine wpAny_bind (wpAny_of_eq (by rfl : letOwnedTupleGo (.Name x px) it v = pure ()) ?_)
    refine wpAny_bind (wpAny_mono h₁ (fun _ s₂ h₂ => wpAny_bind (wpAny_mono h₂ (fun xv s₃ h₃ => wpAny_bind (wpAny_standAt (wpAny_bind (wpAny_of_eq (hs xv) (wpAny_bind (wpAny_holding (wpAny_mono h₃ (fun it2 s₄ h₄ => ?_) fun _ _ h' => h'))))))) fun _ _ h' => h')) fun _ _ h' => h')
    refine wpAny_bind (wpAny_runOwn (codeAny_mono h₄ fun r s' hr => ?_))
    cases r with
    | ok f => exact wpAny_pure ⟨rfl, hr⟩
    | error e => exact hr
theorem compStart_in {elt iter iter2 : Expr} {x y : Str} {px py : Pos} {scope : Scope} {pos : Pos} {it acc : Value}
    (h0 : codeAny (model prog w) A (.compLoop (lc2 elt x y px py iter iter2 scope pos) 1 it acc env) R s)
    (h : wpAny (model prog w) A (pyIter it) (fun it' s' => codeAny (model prog w) A (.compLoop (lc2 elt x y px py iter iter2 scope pos) 1 it' acc env) R s')
      (notedBy (model prog w) A env fun x s' => R (.error x) s') s) :
    codeAny (model prog w) A (.compStart (lc2 elt x y px py iter iter2 scope pos) 1 it acc env) R s := by
  refine codeAny_of_tree ?_
  show wpAny _ _ ((compStart (lc2 elt x y px py iter iter2 scope pos) 1 it acc env).onRaise (fun x => do noteFrame x env; standAt theWindowsPlace)) _ _ s
  refine wpAny_notedAt ?_
  unfold compStart
  show wpAny _ _ (ask >>= _) _ _ s
  refine wpAny_bind (wpAny_askSetting (wpAny_ite ?_))
  split
  · first
      | exact wpAny_bind (wpAny_pure (wpAny_pure (And.intro rfl h0)))
      | exact wpAny_pure (And.intro rfl h0)
  · first
      | exact wpAny_bind (wpAny_rule (wpAny_bind (wpAny_standAt (wpAny_bind (wpAny_mono h (fun it' s' h' => wpAny_pure (And.intro rfl h')) fun _ _ x => x)))))
      | (refine wpAny_bind (wpAny_rule ?_); show wpAny _ _ (standAt iter2.pos >>= _) _ _ s; exact wpAny_bind (wpAny_standAt (wpAny_bind (wpAny_mono h (fun it' s' h' => wpAny_pure (And.intro rfl h')) fun _ _ x => x))))
end
noncomputable def two (f : Int → Int → Int) (ns : List Int) : List Int := ns.flatMap fun n => (List.range 4).map fun (k : Nat) => f n k
theorem two_len (f : Int → Int → Int) : ∀ ns : List Int, (two f ns).length = 4 * ns.length
  | [] => rfl
  | n :: r => by
    have := two_len f r
    unfold two at this ⊢
    rw [List.flatMap_cons, List.length_append, this, List.length_map, List.length_range, List.length_cons]; lia
theorem two_snoc (f : Int → Int → Int) (ns : List Int) (n : Int) : two f (ns ++ [n]) = two f ns ++ (List.range 4).map fun (k : Nat) => f n k := by
  unfold two
  rw [List.flatMap_append]; simp
section
variable {prog : Program} {w : World} {A : Around} {E : Value → Shared → Prop} {s : Shared} {env : Env} {h₀ : Heap} {L : Addr} {m : Str → Option Value} {news : List (Addr × Obj)}
theorem two_loop {elt iter iter2 : Expr} {x y : Str} {px py : Pos} {scope : Scope} {pos : Pos} {cl : List (Str × Addr)} {ax I D C : Addr} {vs : List Value} {ns : List Int} {f : Int → Int → Int} {R : Result → Shared → Prop} {h : Heap} {tk : Nat} {m' : Str → Option Value}
    (hh : A.handled = none) (hkind : scope.kind = .function) (hx : scope.names.lookup x = some .local) (hy : scope.names.lookup y = some .local) (hxy : x ≠ y) (hs2 : ∀ x, foldedSetIterable iter2 (compEnvC scope cl C env) x = pure x)
    (hl : h₀.IsList ax vs.toArray) (hI : IntsAre vs ns) (hsz : ns.length ≤ 100)
    (hIC : I ≠ C) (hID : I ≠ D) (hDC : D ≠ C) (hLI : L ≠ I) (hLC : L ≠ C) (hLD : L ≠ D) (hI0 : h₀.get? I = none) (hC0 : h₀.get? C = none) (hD0 : h₀.get? D = none) (off : ∀ p ∈ news, p.1 ≠ I ∧ p.1 ≠ C ∧ p.1 ≠ D)
    (hit2 : ∀ h tk (Q' : Value → Shared → Prop) (E' : Value → Shared → Prop), Fr h₀ L h m → News h₀ L h news →
      (∀ r h' tk' t u v, IsRange h' r 0 4 1 t u v → (∀ b o, h.get? b = some o → h'.get? b = some o) → Q' (.ref r) { s with heap := h', toks := tk' }) →
      wpAny (model prog w) A (eval iter2 (compEnvC scope cl C env)) Q' E' { s with heap := h, toks := tk })
    (helt : ∀ m₂ h tk (Q' : Value → Shared → Prop) (E' : Value → Shared → Prop) n k tn tk', n ∈ ns → 0 ≤ k → k < 4 → h.Ns C m₂ → m₂ x = some (.int n tn) → m₂ y = some (.int k tk') → (∀ tk2 t, Q' (.int (f n k) t) { s with heap := h, toks := tk2 }) →
      wpAny (model prog w) A (eval elt (compEnvC scope cl C env)) Q' E' { s with heap := h, toks := tk })
    (hit : h.IsListIter I ax 0) (F : Fr h₀ L h m) (hn : h.Ns C m') (N : News h₀ L h ((D, LCg.lst []) :: news))
    (fin : ∀ h' tk' m' ys, Fr h₀ L h' m → h'.Ns C m' → News h₀ L h' ((D, LCg.lst ys) :: news) → IntsAre ys (two f ns) → R (.ok .next) { s with heap := h', toks := tk' }) :
    codeAny (model prog w) A (.compLoop (lc2 elt x y px py iter iter2 scope pos) 0 (.ref I) (.ref D) (compEnvC scope cl C env)) R { s with heap := h, toks := tk } := by
  have hlen : vs.length = ns.length := hI.length
  obtain ⟨oax, hoax, _⟩ := id hl
  have haxI : ax ≠ I := fun e => by rw [e, hI0] at hoax; cases hoax
  have W := Walks.list (prog := prog) (w := w) (A := A) hh I ax haxI vs.toArray
  refine compLoop_out (fun k s' => ∀ Z : Prop, (∀ h' tk i ys m', s' = { s with heap := h', toks := tk } → i ≤ vs.length → k = vs.length + 1 - i → h'.IsListIter I ax i → Fr h₀ L h' m → h'.Ns C m' → News h₀ L h' ((D, LCg.lst ys) :: news) → IntsAre ys (two f (ns.take i)) → Z) → Z) hs2 ?_ (vs.length + 1)
    (fun Zz KZ => KZ h tk 0 [] m' rfl (Nat.zero_le _) rfl hit F hn N .nil)
  intro k s' hI QB EE hQB
  refine hI _ ?_
  clear hI
  rintro h' tk i ys m' rfl hi rfl hit' F' hn' N' hys
  have hls : h'.IsList ax vs.toArray := hl.at fun o e => F'.keep ax o e
  have offI : ∀ {ys : List Value}, ∀ p ∈ (D, LCg.lst ys) :: news, p.1 ≠ I := fun p hp => by
    rcases List.mem_cons.mp hp with rfl | hp
    · exact hID.symm
    · exact (off p hp).1
  have offC : ∀ {ys : List Value}, ∀ p ∈ (D, LCg.lst ys) :: news, p.1 ≠ C := fun p hp => by
    rcases List.mem_cons.mp hp with rfl | hp
    · exact hDC
    · exact (off p hp).2.1
  have hst : ∀ z : Str, scope.names.lookup z = some .local → (compEnvC scope cl C env).kindOf z = some .local := fun z hz => lookup_relabel_local hz
  have hcls : ((compEnvC scope cl C env).scope.kind == .class || ((compEnvC scope cl C env).scope.kind == .module && (compEnvC scope cl C env).locals != (compEnvC scope cl C env).globals)) = false := by simp [compEnvC, relabel, hkind]
  by_cases hlt : i < vs.length
  · refine W.item i _ _ _ (by rw [List.size_toArray]; exact hlt) ⟨hit', hls⟩ fun v h₂ tk₂ hPv hst₂ hk₂ => ?_
    obtain ⟨n, tn, hni, rfl⟩ := ints_get hI (show vs[i]? = some v by simpa using hPv)
    have hnm : n ∈ ns := List.mem_of_getElem? hni
    have htk : ns.take (i + 1) = ns.take i ++ [n] := by rw [List.take_add_one, hni]; rfl
    have F₂ : Fr h₀ L h₂ m := LCg.fr_but F' hk₂ hLI hI0
    have N₂ : News h₀ L h₂ ((D, LCg.lst ys) :: news) := LCg.news_but N' hk₂ offI
    refine wpAny_assign_Name (wpAny_storeName_local (hst x hx) (hn'.at' fun o e => hk₂ _ o (by simpa using hIC.symm) e) (fun h₃ hn₃ hs₃ => ?_) hcls)
    replace hs₃ : Heap.SameBut C h₂ h₃ := hs₃
    have F₃ : Fr h₀ L h₃ m := F₂.change hs₃ hLC.symm hC0
    have N₃ : News h₀ L h₃ ((D, LCg.lst ys) :: news) := fun p hp => ⟨hs₃.extBut _ _ (offC p hp) (N₂ p hp).1, (N₂ p hp).2⟩
    have hit₃ : h₃.IsListIter I ax (i + 1) := hst₂.1.extBut hs₃.extBut hIC
    refine hit2 h₃ _ _ _ F₃ (fun p hp => N₃ p (.tail _ hp)) fun r h₄ tk₄ t u v hr hk₄ => ?_
    have F₄ := F₃.keeps hk₄
    have N₄ := N₃.grown hk₄
    have hn₄ := hn₃.keeps hk₄
    have hit₄ : h₄.IsListIter I ax (i + 1) := hit₃.at fun o e => hk₄ _ o e
    refine wpAny_pyIter_range hr (by decide) ?_
    have hIlt : I < h₄.objs.size := by obtain ⟨o, e, _⟩ := hit₄; exact Heap.lt_size e
    have hClt : C < h₄.objs.size := by obtain ⟨o, _, _, e, _⟩ := hn₄; exact Heap.lt_size e
    have hNlt : ∀ p ∈ (D, LCg.lst ys) :: news, p.1 < h₄.objs.size := fun p hp => Heap.lt_size (N₄ p hp).1
    have hDlt : D < h₄.objs.size := hNlt (D, LCg.lst ys) (.head _)
    have hLlt : L < h₄.objs.size := F₄.ns.lt
    have hI20 : h₀.get? h₄.objs.size = none := next_is_new F₄
    show codeAny _ _ _ _ { s with heap := h₄.push _, toks := tk₄ }
    have up : ∀ b o, h₄.get? b = some o → (h₄.push { cls := .type "range_iterator", data := .fields #[rawInt 0, rawInt (Builtin.Range.rangeSize 0 4 1), rawInt 1] }).get? b = some o := fun b o e => Heap.get?_push_of_some _ e
    have hI2 : IsRangeIter (h₄.push { cls := .type "range_iterator", data := .fields #[rawInt 0, rawInt (Builtin.Range.rangeSize 0 4 1), rawInt 1] }) h₄.objs.size (0 + ((0 : Nat) : Int) * 1) (((4 : Nat) : Int) - ((0 : Nat) : Int)) 1 := Heap.get?_push_size _ rfl
    have F₅ := F₄.keeps up
    have N₅ := N₄.grown up
    have hn₅ := hn₄.keeps up
    have hit₅ : Heap.IsListIter _ I ax (i + 1) := hit₄.at fun o e => up _ o e
    generalize hgI : h₄.objs.size = I2 at hIlt hClt hNlt hDlt hLlt hI20 hI2 ⊢
    generalize hg5 : h₄.push { cls := .type "range_iterator", data := .fields #[rawInt 0, rawInt (Builtin.Range.rangeSize 0 4 1), rawInt 1] } = h₅ at hI2 F₅ N₅ hn₅ hit₅ ⊢
    have W2 := LCg.range_walks (prog := prog) (w := w) (A := A) (I := I2) hh 0 4
    have hCI2 : C ≠ I2 := Nat.ne_of_lt hClt
    have hDI2 : D ≠ I2 := Nat.ne_of_lt hDlt
    have hII2 : I ≠ I2 := Nat.ne_of_lt hIlt
    have hLI2 : L ≠ I2 := Nat.ne_of_lt hLlt
    have offI2 : ∀ {ys : List Value}, ∀ p ∈ (D, LCg.lst ys) :: news, p.1 ≠ I2 := fun {ys} p hp => by
      rcases List.mem_cons.mp hp with rfl | hp
      · exact hDI2
      · exact Nat.ne_of_lt (hNlt p (.tail _ hp))
    have inner : ∀ R' : Result → Shared → Prop, (∀ s'', QB s'' → R' (.ok .next) s'') →
        codeAny (model prog w) A (.compLoop (lc2 elt x y px py iter iter2 scope pos) 1 (.ref I2) (.ref D) (compEnvC scope cl C env)) R' { s with heap := h₅, toks := tk₄ } := by
      intro R' hR'
      refine compLoop_in (fun k s' => ∀ Z : Prop, (∀ h' tk j ys' m', s' = { s with heap := h', toks := tk } → j ≤ 4 → k = 5 - j → IsRangeIter h' I2 (0 + ((j : Nat) : Int) * 1) (((4 : Nat) : Int) - ((j : Nat) : Int)) 1 → Fr h₀ L h' m → h'.Ns C m' → m' x = some (.int n tn) → News h₀ L h' ((D, LCg.lst ys') :: news) → h'.IsListIter I ax (i + 1) → IntsAre ys' (two f (ns.take i) ++ (List.range j).map fun (k : Nat) => f n k) → Z) → Z) ?_ 5
        (fun Zz KZ => KZ h₅ tk₄ 0 ys _ rfl (by decide) rfl hI2 F₅ hn₅ (if_pos rfl) N₅ hit₅ (by rw [List.range_zero, List.map_nil, List.append_nil]; exact hys))
      intro k s' hI QK EE' hQK
      refine hI _ ?_
      clear hI
      rintro h6 tk6 j ys' m6 rfl hj rfl hst6 F6 hn6 hm6 N6 hit6 hys6
      by_cases hj4 : j < 4
      · refine W2.item j _ _ _ hj4 hst6 fun v h7 tk7 hP hst7 hk7 => ?_
        obtain ⟨ty, rfl⟩ := hP
        have F7 : Fr h₀ L h7 m := LCg.fr_but F6 hk7 hLI2 hI20
        have N7 : News h₀ L h7 ((D, LCg.lst ys') :: news) := LCg.news_but N6 hk7 offI2
        have hit7 : h7.IsListIter I ax (i + 1) := hit6.at fun o e => hk7 _ o (by simpa using hII2) e
        refine wpAny_assign_Name (wpAny_storeName_local (hst y hy) (hn6.at' fun o e => hk7 _ o (by simpa using hCI2) e) (fun h8 hn8 hs8 => ?_) hcls)
        replace hs8 : Heap.SameBut C h7 h8 := hs8
        have F8 : Fr h₀ L h8 m := F7.change hs8 hLC.symm hC0
        have N8 : News h₀ L h8 ((D, LCg.lst ys') :: news) := fun p hp => ⟨hs8.extBut _ _ (offC p hp) (N7 p hp).1, (N7 p hp).2⟩
        have hit8 : h8.IsListIter I ax (i + 1) := hit7.extBut hs8.extBut hIC
        refine helt _ h8 _ _ _ n j tn ty hnm (Int.natCast_nonneg j) (by lia) hn8 (by simp [hxy, hm6]) (by simp) fun tk9 t9 => ?_
        have hylen : ys'.length ≤ 500 := by
          have h1 := hys6.length
          rw [List.length_append, two_len, List.length_map, List.length_range] at h1
          have h2 : (ns.take i).length ≤ ns.length := by rw [List.length_take]; exact Nat.min_le_right _ _
          lia
        refine append_at (hsz := by rw [List.size_toArray, sizeLine_eq]; lia) (N8 (D, LCg.lst ys') (.head _)).1 fun h9 hs9 hD9 => ?_
        refine hQK (5 - (j + 1)) _ (by (clear hD9 hs9 hylen hit8 N8 F8 hs8 hn8 hit7 N7 F7 hk7 hst7 hys6 hit6 N6 hm6 hn6 F6 hst6 hQK hR' offI2 hLI2 hII2 hDI2 hCI2 W2 hit₅ hn₅ N₅ F₅ hI2 hg5 hI20 hLlt hDlt hNlt hClt hIlt hgI up hit₄ hn₄ N₄ F₄ hk₄ hr hit₃ N₃ F₃ hs₃ hn₃ N₂ F₂ htk hnm hPv hni hk₂ hst₂ hlt hcls hst offC offI hls hys N' hn' F' hit' hQB hi W haxI hoax hlen fin N hn F hit helt hit2 off hD0 hC0 hI0 hLD hLC hLI hDC hID hIC hsz hI hl hs2 hxy hy hx hkind hh; lia)) (fun Zz KZ => KZ h9 tk9 (j + 1) (ys' ++ [.int (f n j) t9]) _ rfl hj4 rfl ?_ (F8.change hs9 hLD.symm hD0) (hn8.sameBut hs9 hDC.symm) ((if_neg hxy).trans hm6) (fun p hp => ?_) (hit8.extBut hs9.extBut hID) ?_)
        · have h71 : h7.get? I2 = some _ := hst7
          exact hs9.extBut _ _ hDI2.symm (hs8.extBut _ _ hCI2.symm h71)
        · rcases List.mem_cons.mp hp with rfl | hp
          · exact ⟨hD9.trans (congrArg some (LCg.lst_snoc ys' _)), hLD.symm, hD0⟩
          · exact ⟨hs9.extBut _ _ (off p hp).2.2 (N8 p (.tail _ hp)).1, (N8 p (.tail _ hp)).2⟩
        · rw [List.range_succ, List.map_append, ← List.append_assoc]
          exact ints_snoc hys6 _ _
      · obtain rfl : j = 4 := by lia
        refine W2.done _ _ _ hst6 fun h7 tk7 hk7 => hR' _ (hQB (vs.length + 1 - (i + 1)) _ (by (clear hk7 hj4 hys6 hst6 hQK hj hit6 N6 hm6 hn6 F6 hR' offI2 hLI2 hII2 hDI2 hCI2 W2 hit₅ hn₅ N₅ F₅ hI2 hg5 hI20 hLlt hDlt hNlt hClt hIlt hgI up hit₄ hn₄ N₄ F₄ hk₄ hr hit₃ N₃ F₃ hs₃ hn₃ N₂ F₂ htk hnm hPv hni hk₂ hst₂ hcls hst offC offI hls hys N' hn' F' hit' hQB hi W haxI hoax hlen fin N hn F hit helt hit2 off hD0 hC0 hI0 hLD hLC hLI hDC hID hIC hsz hI hl hs2 hxy hy hx hkind hh; omega)) (fun Zz KZ => KZ h7 tk7 (i + 1) ys' m6 rfl hlt rfl (hit6.at fun o e => hk7 _ o (by simpa using hII2) e) (LCg.fr_but F6 hk7 hLI2 hI20) (hn6.at' fun o e => hk7 _ o (by simpa using hCI2) e) (LCg.news_but N6 hk7 offI2) ?_))
        rw [htk, two_snoc]; exact hys6
    exact compStart_in (inner _ fun s'' h => h) (W2.self 0 _ _ _ hI2 (inner _ fun s'' h => h))
  · obtain rfl : i = vs.length := by (clear hcls hst offC offI hls hys N' hn' F' hit' hQB W haxI hoax hlen fin N hn F hit helt hit2 off hD0 hC0 hI0 hLD hLC hLI hDC hID hIC hsz hI hl hs2 hxy hy hx hkind hh; lia)
    refine W.done _ _ _ ⟨by rw [List.size_toArray]; exact hit', hls⟩ fun h₂ tk₂ hk₂ => ?_
    rw [hlen, List.take_length] at hys
    exact fin h₂ tk₂ m' ys (LCg.fr_but F' hk₂ hLI hI0) (hn'.at' fun o e => hk₂ _ o (by simpa using hIC.symm) e) (LCg.news_but N' hk₂ offI) hys
end
section
variable {prog : Program} {w : World} {A : Around} {E : Value → Shared → Prop} {s : Shared} {env : Env} {h₀ : Heap} {L : Addr} {m : Str → Option Value} {news : List (Addr × Obj)}
theorem comp_two {elt iter iter2 : Expr} {x y : Str} {px py : Pos} {scope : Scope} {pos : Pos} {cl : List (Str × Addr)} {ax : Addr} {vs : List Value} {ns : List Int} (f : Int → Int → Int) {Q : Value → Shared → Prop}
    (hh : A.handled = none) (F : Fr h₀ L s.heap m) (N : News h₀ L s.heap news) (hl : h₀.IsList ax vs.toArray) (hI : IntsAre vs ns) (hsz : ns.length ≤ 100)
    (hit : ∀ Q' : Value → Shared → Prop, Q' (.ref ax) s → wpAny (model prog w) A (eval iter env) Q' E s)
    (hit2 : ∀ C h tk (Q' : Value → Shared → Prop) (E' : Value → Shared → Prop), Fr h₀ L h m → News h₀ L h news →
      (∀ r h' tk' t u v, IsRange h' r 0 4 1 t u v → (∀ b o, h.get? b = some o → h'.get? b = some o) → Q' (.ref r) { s with heap := h', toks := tk' }) →
      wpAny (model prog w) A (eval iter2 (compEnvC scope cl C env)) Q' E' { s with heap := h, toks := tk })
    (helt : ∀ C m₂ h tk (Q' : Value → Shared → Prop) (E' : Value → Shared → Prop) n k tn tk', n ∈ ns → 0 ≤ k → k < 4 → h.Ns C m₂ → m₂ x = some (.int n tn) → m₂ y = some (.int k tk') → (∀ tk2 t, Q' (.int (f n k) t) { s with heap := h, toks := tk2 }) →
      wpAny (model prog w) A (eval elt (compEnvC scope cl C env)) Q' E' { s with heap := h, toks := tk })
    (fin : ∀ D h tk ys, Fr h₀ L h m → News h₀ L h ((D, LCg.lst ys) :: news) → (∀ p ∈ news, p.1 ≠ D) → IntsAre ys (two f ns) → Q (.ref D) { s with heap := h, toks := tk })
    (hclos : closureFor scope env = pure cl) (hcell : ∀ y ∈ scope.names, y.2 ≠ .cell) (hkind : scope.kind = .function)
    (hnames : ∀ y ∈ scope.names, y.2 = .local → scope.names.lookup y.1 = some .local) (hx : scope.names.lookup x = some .local) (hy : scope.names.lookup y = some .local) (hxy : x ≠ y)
    (hs : ∀ x, foldedSetIterable iter env x = pure x) (hs2 : ∀ C x, foldedSetIterable iter2 (compEnvC scope cl C env) x = pure x) :
    wpAny (model prog w) A (eval (lc2 elt x y px py iter iter2 scope pos) env) Q E s := by
  rw [eval_ListComp]
  refine wpAny_comprehension_free (use := none) rfl hs hclos hkind hnames (hit _ ?_)
  have hls : s.heap.IsList ax vs.toArray := hl.at fun o e => F.keep ax o e
  refine wpAny_pyIter_list hls ?_
  have fresh : ∀ a, s.heap.objs.size ≤ a → s.heap.get? a = none := fun a ha => by
    cases e : s.heap.get? a with
    | none => rfl
    | some o' => exact absurd (Heap.lt_size e) (Nat.not_lt.mpr ha)
  have fresh₀ : ∀ a, s.heap.objs.size ≤ a → h₀.get? a = none := fun a ha => by
    cases e : h₀.get? a with
    | none => rfl
    | some o' => have := F.keep a o' e; rw [fresh a ha] at this; cases this
  have hLlt : L < s.heap.objs.size := F.ns.lt
  have hNlt : ∀ p ∈ news, p.1 < s.heap.objs.size := fun p hp => Heap.lt_size (N p hp).1
  have up1 : ∀ b o, s.heap.get? b = some o → (s.heap.push { cls := .type "list_iterator", data := .fields #[.ref ax, .int 0 0] }).get? b = some o := fun b o e => Heap.get?_push_of_some _ e
  have it1 : (s.heap.push { cls := .type "list_iterator", data := .fields #[.ref ax, .int 0 0] }).IsListIter s.heap.objs.size ax 0 := ⟨_, Heap.get?_push_size _ rfl, rfl, rfl⟩
  have sz1 : (s.heap.push { cls := .type "list_iterator", data := .fields #[.ref ax, .int 0 0] }).objs.size = s.heap.objs.size + 1 := Heap.size_push _ _
  show wpAny _ _ _ _ _ { s with heap := s.heap.push { cls := .type "list_iterator", data := .fields #[.ref ax, .int 0 0] } }
  generalize hH1 : s.heap.push { cls := .type "list_iterator", data := .fields #[.ref ax, .int 0 0] } = H1 at up1 it1 sz1 ⊢
  refine wpAny_newObj_type (wpAny_newFunctionEnv hcell (by intro y hy; simp at hy) (fun h₁ hns₁ hsb₁ => ?_) hkind)
  dsimp only at hns₁ hsb₁ ⊢
  generalize hH2 : H1.push { cls := .type "list", dict := none, data := .seq ([] : List Value).toArray } = H2 at hns₁ hsb₁ ⊢
  have hC : @Eq Nat H2.objs.size (s.heap.objs.size + 2) := by rw [← hH2, Heap.size_push, sz1]
  have sz1 : @Eq Nat H1.objs.size (s.heap.objs.size + 1) := sz1
  have hLlt : @LT.lt Nat _ L s.heap.objs.size := hLlt
  have hNlt : ∀ p ∈ news, @LT.lt Nat _ p.1 s.heap.objs.size := hNlt
  have nSC : @Ne Nat s.heap.objs.size H2.objs.size := by lia
  have nSD : @Ne Nat s.heap.objs.size H1.objs.size := by lia
  have nDC : @Ne Nat H1.objs.size H2.objs.size := by lia
  have nLS : @Ne Nat L s.heap.objs.size := by lia
  have nLD : @Ne Nat L H1.objs.size := by lia
  have nLC : @Ne Nat L H2.objs.size := by lia
  have nN : ∀ p ∈ news, @Ne Nat p.1 s.heap.objs.size ∧ @Ne Nat p.1 H2.objs.size ∧ @Ne Nat p.1 H1.objs.size := fun p hp => by have := hNlt p hp; lia
  have old : ∀ b o, s.heap.get? b = some o → h₁.get? b = some o := fun b o e => by
    have hb : @LT.lt Nat _ b s.heap.objs.size := Heap.lt_size e
    have hb' : @Ne Nat b H2.objs.size := by lia
    exact hsb₁.extBut b o hb' (Heap.get?_push_of_some _ (by rw [← hH2]; exact Heap.get?_push_of_some _ (up1 b o e)))
  have hacc : h₁.get? H1.objs.size = some (LCg.lst []) := hsb₁.extBut _ _ nDC (Heap.get?_push_of_some _ (hH2 ▸ Heap.get?_push_size _ rfl))
  have hit₁ : h₁.IsListIter s.heap.objs.size ax 0 := it1.at fun o e => hsb₁.extBut _ o nSC (Heap.get?_push_of_some _ (by rw [← hH2]; exact Heap.get?_push_of_some _ e))
  have hC0 : h₀.get? H2.objs.size = none := fresh₀ _ (by lia)
  have hD0 : h₀.get? H1.objs.size = none := fresh₀ _ (by lia)
  have loop : ∀ s₃ : Shared, s₃ = { s with heap := h₁, toks := s.toks + ([] : List (Str × Value)).length } →
      codeAny (model prog w) A (.compLoop (lc2 elt x y px py iter iter2 scope pos) 0 (.ref s.heap.objs.size) (.ref H1.objs.size) (compEnvC scope cl H2.objs.size env))
        (compPost (model prog w) A E none Q (.ref H1.objs.size) H2.objs.size) s₃ := by
    rintro s₃ rfl
    refine two_loop (f := f) hh hkind hx hy hxy (hs2 _) hl hI hsz nSC nSD nDC nLS nLC nLD (fresh₀ _ (Nat.le_refl _)) hC0 hD0
      nN (hit2 _) (helt _) hit₁ (F.keeps old) hns₁ (fun p hp => ?_) fun h' tk' m' ys F' hn' N' hys => ?_
    · rcases List.mem_cons.mp hp with rfl | hp
      · exact ⟨hacc, nLD.symm, hD0⟩
      · exact ⟨old _ _ (N p hp).1, (N p hp).2⟩
    · refine ⟨m', hn', fun h'' hs'' => fin _ h'' tk' ys (F'.change hs'' nLC.symm hC0) (fun p hp => ⟨hs''.extBut _ _ ?_ (N' p hp).1, (N' p hp).2⟩) (fun p hp => (nN p hp).2.2) hys⟩
      rcases List.mem_cons.mp hp with rfl | hp
      · exact nDC
      · exact (nN p hp).2.1
  exact codeAny_compStart_list (loop _ rfl) ((Walks.list (prog := prog) (w := w) (A := A) hh s.heap.objs.size ax (fun e => by obtain ⟨o, ho, _⟩ := id hls; exact absurd (Heap.lt_size ho) (by rw [e]; exact Nat.lt_irrefl _)) vs.toArray).self 0 _ _ _ ⟨hit₁, hls.at fun o e => old _ o e⟩ (loop _ rfl))
end
end

section
open PySem PySem.Spec PySem.Calls PySem.W PyProof.Rows
set_option Elab.async false
set_option maxRecDepth 100000
set_option maxHeartbeats 3000000
section
variable {prog : Program} {w : World} {A : Around} {E : Value → Shared → Prop} {s : Shared} {Q : Value → Shared → Prop}
theorem powV {k z : Int} {t u : Tok} (h0 : 0 ≤ k) (h1 : k ≤ 100) (e : (8 : Int) ^ k.toNat = z) (h : ∀ t tk, Q (.int z t) { s with toks := tk }) : wpAny (model prog w) A (binaryOp .Pow (.int 8 t) (.int k u)) Q E s :=
  pow_int_small h0 (by lia) (by decide) (by rw [e]; exact h _ _)
theorem fdivV {a b z : Int} {t u : Tok} (hb : 0 < b) (ha : 0 ≤ a) (ha2 : a < 100000) (hb2 : b < 100000) (e : a / b = z) (h : ∀ t tk, Q (.int z t) { s with toks := tk }) : wpAny (model prog w) A (binaryOp .FloorDiv (.int a t) (.int b u)) Q E s :=
  floordiv_int (by lia) (by rw [Int.fdiv_eq_ediv_of_nonneg _ (by lia), e]; exact h _ _) (Or.inl (PyProof.noPylong_small (by omega)))
theorem fmodV {a b z : Int} {t u : Tok} (hb : 0 < b) (e : a % b = z) (h : ∀ t tk, Q (.int z t) { s with toks := tk }) : wpAny (model prog w) A (binaryOp .Mod (.int a t) (.int b u)) Q E s :=
  mod_int' (by lia) (by rw [Int.fmod_eq_emod_of_nonneg _ (by lia), e]; exact h _ _)
end
section
variable {prog : Program} {w : World} {A : Around} {E : Value → Shared → Prop} {s : Shared} {env : Env} {h₀ : Heap} {x : Str} {body : List Stmt} {Q : Flow → Shared → Prop} {m₀ : Str → Option Value} {news : List (Addr × Obj)}
theorem rangeLoopV {r : Addr} {a b : Int} {n : Nat} {t u v : Tok} (J : Nat → (Str → Option Value) → List (Addr × Obj) → Prop) (hh : A.handled = none)
    (hr : IsRange s.heap r a b 1 t u v) (hsm : Builtin.Range.small a b 1 = true) (hn : Builtin.Range.rangeSize a b 1 = ((n : Nat) : Int))
    (F : Fr h₀ env.locals s.heap m₀) (N : News h₀ env.locals s.heap news) (h0 : J 0 m₀ news)
    (turn : ∀ i ti m₁ news₁ h tk I oI, i < n → J i m₁ news₁ → Fr h₀ env.locals h (fun y => if y = x then some (.int (a + ((i : Nat) : Int)) ti) else m₁ y) → News h₀ env.locals h ((I, oI) :: news₁) → (∀ p ∈ news₁, p.1 ≠ I) →
      ∀ QJ : Flow → Shared → Prop, (∀ h' tk' m' news', Fr h₀ env.locals h' m' → News h₀ env.locals h' ((I, oI) :: news') → (∀ p ∈ news', p.1 ≠ I) → J (i + 1) m' news' → QJ .next { s with heap := h', toks := tk' }) → (∀ v s, Q (.ret v) s → QJ (.ret v) s) → (∀ s, Q .next s → QJ .brk s) → (∀ s, QJ .next s → QJ .cont s) →
      wpAny (model prog w) A (execs body env) QJ E { s with heap := h, toks := tk })
    (done : ∀ m₁ news₁ h tk, J n m₁ news₁ → Fr h₀ env.locals h m₁ → News h₀ env.locals h news₁ → Q .next { s with heap := h, toks := tk }) :
    wpAny (model prog w) A (pyIter (.ref r)) (fun it s₂ => LoopAtV prog w A h₀ env x body Q E it s₂) E s := by
  refine wpAny_pyIter_range hr hsm ?_
  have W := LCg.range_walks (prog := prog) (w := w) (A := A) (I := s.heap.objs.size) hh a n
  refine ⟨s.heap.objs.size, _, _, n, _, _, m₀, news, J, rfl, W, ?_, ?_, ?_, ?_, F.push _, (fun p hp => ⟨Heap.get?_push_of_some _ (N p hp).1, (N p hp).2⟩), h0, ?_, ?_⟩
  · intro hm
    exact absurd F.ns.lt (List.mem_singleton.mp hm ▸ Nat.lt_irrefl _)
  · intro b hb
    rw [List.mem_singleton.mp hb]
    exact next_is_new F
  · intro p hp hI
    exact absurd (Heap.lt_size (N p hp).1) ((List.mem_singleton.mp hI) ▸ Nat.lt_irrefl _)
  · show IsRangeIter _ _ _ _ _
    rw [hn]
    simpa using Heap.get?_push_size _ rfl
  · rintro i v m₁ news₁ s₁ own ⟨hh', tk', rfl⟩ hin hP hJ hoff hown hget hall hst' F₁ N₁
    obtain ⟨ti, rfl⟩ := hP
    have hoI : hh'.get? s.heap.objs.size = some _ := hst'
    have hmem := hall s.heap.objs.size (List.mem_cons_self) (next_is_new F) _ hoI
    generalize ({ cls := .type "range_iterator", dict := none, data := .fields #[rawInt (a + ((i + 1 : Nat) : Int) * 1), rawInt ((n : Int) - ((i + 1 : Nat) : Int)), rawInt 1], slots := #[] } : Obj) = oI at hoI hmem
    have hsub : ∀ p ∈ own, p = (s.heap.objs.size, oI) := by
      intro p hp
      have hpg := hget p hp
      have e := List.mem_singleton.mp (hown p hp)
      obtain ⟨a, o⟩ := p
      simp only at e hpg
      subst e
      rw [hoI] at hpg; cases hpg; rfl
    refine turn i ti m₁ news₁ hh' tk' s.heap.objs.size oI hin hJ F₁ (fun p hp => ?_) (fun p hp e => hoff p hp (by rw [e]; exact List.mem_singleton.mpr rfl)) _ (fun h' tk m' news' F' N' hn hm => ?_) (fun _ _ q => .ret q) (fun _ q => .brk q) (fun _ q => q)
    · rcases List.mem_cons.mp hp with rfl | hp
      · exact N₁ _ (List.mem_append_left _ hmem)
      · exact N₁ _ (List.mem_append_right _ hp)
    · refine .next ⟨rfl, h', tk, m', news', rfl, F', fun p hp => ?_, fun p hp hI => hn p hp (List.mem_singleton.mp hI), hm⟩
      rcases List.mem_append.mp hp with hp | hp
      · rw [hsub p hp]; exact N' _ (List.mem_cons_self)
      · exact N' _ (List.mem_cons_of_mem _ hp)
  · rintro h' tk m' news' F' N' _ hJ
    exact done m' news' h' tk hJ F' N'
end
section
variable {prog : Program} {w : World} {A : Around} {E : Value → Shared → Prop} {s : Shared} {h₀ : Heap} {x : Str} {px : Pos} {body : List Stmt} {Q : Flow → Shared → Prop} {m₀ : Str → Option Value} {news : List (Addr × Obj)}
  {cn : Str} {cs : Scope} {L f : Addr} {ccd : Value} {cl : List (Str × Addr)}
/-- for i in range(..): i a name that a comprehension takes -/
theorem rangeLoopCV {r cc : Addr} {oc : Obj} {a b : Int} {n : Nat} {t u v : Tok} (J : Nat → (Str → Option Value) → List (Addr × Obj) → Prop) (hh : A.handled = none)
    (hr : IsRange s.heap r a b 1 t u v) (hsm : Builtin.Range.small a b 1 = true) (hn : Builtin.Range.rangeSize a b 1 = ((n : Nat) : Int))
    (hc : cl.lookup x = some cc) (hcd : ∃ v, oc.data = .cell v) (hk : cs.kind = .function) (hx : (envX cn cs L f ccd cl).kindOf x = some .cell)
    (F : Fr h₀ L s.heap m₀) (N : News h₀ L s.heap ((cc, oc) :: news)) (hnc : ∀ p ∈ news, p.1 ≠ cc) (h0 : J 0 m₀ news)
    (turn : ∀ i ti m₁ news₁ (s₁ : Shared) h I oI oc', i < n → J i m₁ news₁ → Fr h₀ L h m₁ → News h₀ L h ((I, oI) :: (cc, oc') :: news₁) → oc'.data = .cell (some (.int (a + ((i : Nat) : Int)) ti)) → (∀ p ∈ news₁, p.1 ≠ I) → (∀ p ∈ news₁, p.1 ≠ cc) → I ≠ cc →
      ∀ QJ : Flow → Shared → Prop, (∀ h' tk' m' news', Fr h₀ L h' m' → News h₀ L h' ((I, oI) :: (cc, oc') :: news') → (∀ p ∈ news', p.1 ≠ I) → (∀ p ∈ news', p.1 ≠ cc) → J (i + 1) m' news' → QJ .next { s₁ with heap := h', toks := tk' }) →
      wpAny (model prog w) A (execs body (envX cn cs L f ccd cl)) QJ E { s₁ with heap := h })
    (done : ∀ m₁ news₁ h tk oc', J n m₁ news₁ → Fr h₀ L h m₁ → News h₀ L h ((cc, oc') :: news₁) → (∃ v, oc'.data = .cell v) → (∀ p ∈ news₁, p.1 ≠ cc) → Q .next { s with heap := h, toks := tk }) :
    wpAny (model prog w) A (pyIter (.ref r)) (fun it s₂ => LoopAtT prog w A h₀ (envX cn cs L f ccd cl) (.Name x px) body Q E it s₂) E s := by
  refine wpAny_pyIter_range hr hsm ?_
  have W := LCg.range_walks (prog := prog) (w := w) (A := A) (I := s.heap.objs.size) hh a n
  have hIc : s.heap.objs.size ≠ cc := Nat.ne_of_gt (Heap.lt_size (N (cc, oc) (.head _)).1)
  refine ⟨s.heap.objs.size, _, _, n, _, _, m₀, (cc, oc) :: news, fun i m₁ l => ∀ Z : Prop, (∀ oc' news₁, l = (cc, oc') :: news₁ → (∃ v, oc'.data = .cell v) → (∀ p ∈ news₁, p.1 ≠ cc) → J i m₁ news₁ → Z) → Z, rfl, W, ?_, ?_, ?_, ?_, F.push _, (fun p hp => ⟨Heap.get?_push_of_some _ (N p hp).1, (N p hp).2⟩), ?_, (fun Zz KZ => KZ oc news rfl hcd hnc h0), ?_, ?_⟩
  · intro hm
    exact absurd F.ns.lt (List.mem_singleton.mp hm ▸ Nat.lt_irrefl _)
  · intro b hb
    rw [List.mem_singleton.mp hb]
    exact next_is_new F
  · intro p hp hI
    exact absurd (Heap.lt_size (N p hp).1) ((List.mem_singleton.mp hI) ▸ Nat.lt_irrefl _)
  · show IsRangeIter _ _ _ _ _
    rw [hn]
    simpa using Heap.get?_push_size _ rfl
  · intro i s' v Q' _ hQ
    exact wpAny_of_eq (by rfl : letOwnedTupleGo (.Name x px) (.ref s.heap.objs.size) v = pure ()) hQ
  · rintro i v m₁ l₁ s₁ own hin hP hI hoff hown hget hall hst' F₁ N₁
    refine hI _ ?_
    clear hI
    rintro oc' news₁ rfl ⟨v₀, hd'⟩ hnc₁ hJ
    obtain ⟨ti, rfl⟩ := hP
    have hoI : s₁.heap.get? s.heap.objs.size = some _ := hst'
    have hmem := hall s.heap.objs.size (List.mem_cons_self) (next_is_new F) _ hoI
    generalize ({ cls := .type "range_iterator", dict := none, data := .fields #[rawInt (a + ((i + 1 : Nat) : Int) * 1), rawInt ((n : Int) - ((i + 1 : Nat) : Int)), rawInt 1], slots := #[] } : Obj) = oI at hoI hmem
    have hsub : ∀ p ∈ own, p = (s.heap.objs.size, oI) := by
      intro p hp
      have hpg := hget p hp
      have e := List.mem_singleton.mp (hown p hp)
      obtain ⟨a, o⟩ := p
      simp only at e hpg
      subst e
      rw [hoI] at hpg; cases hpg; rfl
    have N2 : News h₀ L s₁.heap ((s.heap.objs.size, oI) :: (cc, oc') :: news₁) := fun p hp => by
      rcases List.mem_cons.mp hp with rfl | hp
      · exact N₁ _ (List.mem_append_left _ hmem)
      · exact N₁ _ (List.mem_append_right _ hp)
    have hoffI : ∀ p ∈ (cc, oc') :: news₁, p.1 ≠ s.heap.objs.size := fun p hp e => hoff p hp (by rw [e]; exact List.mem_singleton.mpr rfl)
    refine wpAny_assign_Name (storeX_C F₁ N2 hc (.tail hIc (.head hnc₁)) hd' (fun h' o' F' N' hd2 => ?_) hk hx)
    refine turn i ti m₁ news₁ s₁ h' s.heap.objs.size oI o' hin hJ F' N' hd2 (fun p hp => hoffI p (.tail _ hp)) hnc₁ hIc _ (fun h6 tk6 m6 news6 F6 N6 o1 o2 hJ6 => ?_)
    refine ⟨rfl, h6, tk6, m6, (cc, o') :: news6, rfl, F6, fun p hp => ?_, fun p hp hI => ?_, fun Zz KZ => KZ o' news6 rfl ⟨_, hd2⟩ o2 hJ6⟩
    · rcases List.mem_append.mp hp with hp | hp
      · rw [hsub p hp]; exact N6 _ (List.mem_cons_self)
      · exact N6 _ (List.mem_cons_of_mem _ hp)
    · rcases List.mem_cons.mp hp with rfl | hp
      · exact hIc.symm (List.mem_singleton.mp hI)
      · exact o1 p hp (List.mem_singleton.mp hI)
  · intro h' tk m' l' F' N' _ hI
    refine hI _ ?_
    rintro oc' news₁ rfl hd' hnc₁ hJ
    exact done m' news₁ h' tk oc' hJ F' N' hd' hnc₁
end
section
variable {prog : Program} {w : World} {A : Around} {E : Value → Shared → Prop} {s : Shared} {Q : Value → Shared → Prop} {h₀ : Heap} {L : Addr} {news : List (Addr × Obj)}
theorem leV {a b : Int} {t u : Tok} (v : Bool) (e : decide (a ≤ b) = v) (h : Q (.bool v) s) : wpAny (model prog w) A (compareOp .LtE (.int a t) (.int b u)) Q E s := le_int (by rw [e]; exact h)
theorem ltV {a b : Int} {t u : Tok} (v : Bool) (e : decide (a < b) = v) (h : Q (.bool v) s) : wpAny (model prog w) A (compareOp .Lt (.int a t) (.int b u)) Q E s := lt_int (by rw [e]; exact h)
theorem item_led {value slice : Expr} {D : Addr} {vs : List Value} {c : Nat} {k : Int} {u : Tok} {v : Value} (N : News h₀ L s.heap news) (hm : (D, W.listOf vs.toArray c) ∈ news) (h0 : 0 ≤ k) (hk : k < 1000) (hv : vs[k.toNat]? = some v) (h : Q v s)
    (hs : subscripted slice false (.ref D) (.int k u) = operate [.ref D, .int k u] (getItem (.ref D) (.int k u)) := by with_unfolding_all rfl) (hg : ∀ r, letTemporaryGo value (.ref D) r = pure () := by intro _; with_unfolding_all rfl) :
    wpAny (model prog w) A (subscriptTail value slice (.ref D) (.int k u)) Q E s := by
  have hl : s.heap.IsList D vs.toArray := ⟨_, (N _ hm).1, rfl, c, rfl⟩
  exact subscriptTail_ops hl.typeIs slot_list_getitem.lookup (wpAny_getItem_list hl h0 (by lia) (by simpa using hv) h) hs hg
theorem len_led {D : Addr} {vs : List Value} {c : Nat} {z : Int} (N : News h₀ L s.heap news) (hm : (D, W.listOf vs.toArray c) ∈ news) (hz : vs.length ≤ 1000) (e : ((vs.length : Nat) : Int) = z) (h : ∀ t tk, Q (.int z t) { s with toks := tk }) :
    wpAny (model prog w) A (call (.builtin "len") [.ref D]) Q E s :=
  Calls.call_len_list (l := D) (items := vs.toArray) ⟨_, (N _ hm).1, rfl, c, rfl⟩ (by rw [List.size_toArray]; lia) (by rw [List.size_toArray, e]; exact h _ _)
theorem notinV {D : Addr} {vs : List Value} {ns : List Int} {c : Nat} {k : Int} {t : Tok} (v : Bool) (N : News h₀ L s.heap news) (hm : (D, W.listOf vs.toArray c) ∈ news) (hi : IntsAre vs ns) (e : decide (k ∈ ns) = !v) (h : Q (.bool v) s) :
    wpAny (model prog w) A (compareOp .NotIn (.int k t) (.ref D)) Q E s :=
  notin_list_ints ⟨_, (N _ hm).1, rfl, c, rfl⟩ hi (by
    have : (ns.any (· == k)) = decide (k ∈ ns) := by rw [List.any_beq']; simp
    rw [this, e, Bool.not_not]; exact h)
theorem slice_upV {value slice : Expr} {D : Addr} {vs : List Value} {c : Nat} {k : Int} {u : Tok} {m : Str → Option Value} (F : Fr h₀ L s.heap m) (N : News h₀ L s.heap news) (hm : (D, W.listOf vs.toArray c) ∈ news) (h0 : 0 ≤ k) (hz : vs.length ≤ 1000)
    (h : ∀ D2 h', Fr h₀ L h' m → News h₀ L h' ((D2, W.listOf (vs.take k.toNat).toArray 0) :: news) → (∀ p ∈ news, @LT.lt Nat _ p.1 D2) → Q (.ref D2) { s with heap := h' })
    (hs : subscripted slice false (.ref D) (.ref s.heap.objs.size) = operate [.ref s.heap.objs.size, .ref D] (getItem (.ref D) (.ref s.heap.objs.size)) := by with_unfolding_all rfl)
    (ht : ∀ r, letTemporaryGo value (.ref D) r = pure () := by intro _; with_unfolding_all rfl) :
    wpAny (model prog w) A (subscriptTail value slice (.ref D) (.ref s.heap.objs.size)) Q E { s with heap := s.heap.push { cls := .type "slice", data := .fields #[.none, .int k u, .none] } } := by
  have hl : s.heap.IsList D vs.toArray := ⟨_, (N _ hm).1, rfl, c, rfl⟩
  refine slice_list (lo := none) (hi := some k) F N hl (by first | exact IsPart.none | exact .none) (by first | exact IsPart.int | exact .int | exact .int _ _) (fun h' F' N' => ?_) hs ht (by rw [List.size_toArray, sizeLine_eq]; lia)
  obtain ⟨n, rfl⟩ := Int.eq_ofNat_of_zero_le h0
  rw [slicePick_upto'] at N'
  exact h _ h' F' (by simpa using N') fun p hp => Nat.lt_succ_of_lt (Heap.lt_size (N p hp).1)
end
end

section
open PySem PySem.Spec PySem.Calls PySem.W PyProof.Rows
set_option Elab.async false
set_option maxRecDepth 100000
set_option maxHeartbeats 3000000
noncomputable abbrev fmet (n k : Int) : Int := n / 8 ^ k.toNat
theorem two_met {ns : List Int} {x : Int} : x ∈ two fmet ns ↔ Met ns x := by
  unfold two Met
  rw [List.mem_flatMap]
  constructor
  · rintro ⟨n, hn, h⟩
    obtain ⟨k, hk, rfl⟩ := List.mem_map.mp h
    exact ⟨n, hn, k, List.mem_range.mp hk, by show n / 8 ^ ((k : Int)).toNat = _; rw [Int.toNat_natCast]⟩
  · rintro ⟨n, hn, k, hk, rfl⟩
    exact ⟨n, hn, List.mem_map.mpr ⟨k, List.mem_range.mpr hk, by show n / 8 ^ ((k : Int)).toNat = _; rw [Int.toNat_natCast]⟩⟩
theorem two_lt {ns : List Int} (h : ∀ n ∈ ns, 0 ≤ n ∧ n < 4096) : ∀ x ∈ two fmet ns, 0 ≤ x ∧ x < 4096 := by
  intro x hx
  obtain ⟨n, hn, k, hk, rfl⟩ := two_met.mp hx
  obtain ⟨h0, h1⟩ := h n hn
  have hp : (0 : Int) < 8 ^ k := Int.pow_pos (by decide)
  have h2 : n / 8 ^ k ≤ n := Int.ediv_le_self _ h0
  have h3 : 0 ≤ n / 8 ^ k := Int.ediv_nonneg h0 (by lia)
  lia
noncomputable def RowX (st : List (Addr × Obj)) (R : Addr) (xs : List Int) : Prop :=
  ∃ rs c, (R, W.listOf (rowVs rs).toArray c) ∈ st ∧ (∀ r ∈ rs, rowO r ∈ st ∧ ∃ t, r.rest = [.str (sgn r.k) t, .bool true]) ∧ rs.map (·.k) = xs
theorem RowX.mono {st st' : List (Addr × Obj)} {R : Addr} {xs : List Int} (h : RowX st R xs) (hs : ∀ p ∈ st, p ∈ st') : RowX st' R xs := by
  obtain ⟨rs, c, h1, h2, h3⟩ := h
  exact ⟨rs, c, hs _ h1, fun r hr => ⟨hs _ (h2 r hr).1, (h2 r hr).2⟩, h3⟩
noncomputable def upto (ns : List Int) (j : Nat) : List (List Int) := ((List.range j).map (rowOf ns)).filter fun r => !r.isEmpty
theorem upto_no {ns : List Int} {j : Nat} (h : rowOf ns j = []) : upto ns (j + 1) = upto ns j := by
  unfold upto
  rw [List.range_succ, List.map_append, List.filter_append]
  simp [h]
theorem upto_yes {ns : List Int} {j : Nat} (h : rowOf ns j ≠ []) : upto ns (j + 1) = upto ns j ++ [rowOf ns j] := by
  unfold upto
  rw [List.range_succ, List.map_append, List.filter_append]
  simp [h]
structure DueOk (ns : List Int) (st : List (Addr × Obj)) (j : Nat) (Rs : List Addr) : Prop where
  len : Rs.length = (upto ns j).length
  at_ : ∀ (i : Nat) (R : Addr), Rs[i]? = some R → ∃ xs, (upto ns j)[i]? = some xs ∧ RowX st R xs
theorem due_zero {ns : List Int} {st : List (Addr × Obj)} : DueOk ns st 0 [] := ⟨rfl, fun i R h => by simp at h⟩
theorem due_no {ns : List Int} {st st' : List (Addr × Obj)} {j : Nat} {Rs : List Addr} (H : DueOk ns st j Rs) (hs : ∀ p ∈ st, p ∈ st') (h : rowOf ns j = []) : DueOk ns st' (j + 1) Rs := by
  refine ⟨by rw [upto_no h]; exact H.len, fun i R hR => ?_⟩
  obtain ⟨xs, h1, h2⟩ := H.at_ i R hR
  exact ⟨xs, by rw [upto_no h]; exact h1, h2.mono hs⟩
theorem due_yes {ns : List Int} {st st' : List (Addr × Obj)} {j : Nat} {Rs : List Addr} {R : Addr} (H : DueOk ns st j Rs) (hs : ∀ p ∈ st, p ∈ st') (h : rowOf ns j ≠ []) (hR : RowX st' R (rowOf ns j)) : DueOk ns st' (j + 1) (Rs ++ [R]) := by
  refine ⟨by rw [upto_yes h, List.length_append, List.length_append, H.len]; rfl, fun i R' hR' => ?_⟩
  rw [upto_yes h]
  by_cases q : i < Rs.length
  · rw [List.getElem?_append_left q] at hR'
    obtain ⟨xs, h1, h2⟩ := H.at_ i R' hR'
    exact ⟨xs, by rw [List.getElem?_append_left (by rw [← H.len]; exact q)]; exact h1, h2.mono hs⟩
  · rw [List.getElem?_append_right (by lia)] at hR'
    have h0 : i - Rs.length = 0 := by
      cases e : i - Rs.length with
      | zero => rfl
      | succ k => rw [e] at hR'; simp at hR'
    rw [h0] at hR'
    obtain rfl : R = R' := by simpa using hR'
    refine ⟨rowOf ns j, ?_, hR⟩
    rw [List.getElem?_append_right (by rw [← H.len]; lia), ← H.len, h0]; rfl
theorem due_reads {ns : List Int} {h : Heap} {st : List (Addr × Obj)} {Rs : List Addr} {du : Addr} {ct : Nat} (hs : ∀ p ∈ st, h.get? p.1 = some p.2) (hd : h.get? du = some (W.listOf (Rs.map Value.ref).toArray ct)) (H : DueOk ns st 4 Rs) :
    ∃ as, Reads h (.ref du) (lawData ns) as := by
  have key : ∀ (l : List Addr) (xss : List (List Int)), l.length = xss.length → (∀ (i : Nat) (R : Addr), l[i]? = some R → ∃ xs, xss[i]? = some xs ∧ RowX st R xs) → ∃ as, ReadsAll h (l.map Value.ref) (xss.map rowData) as := by
    intro l
    induction l with
    | nil => intro xss hl _; cases xss with
      | nil => exact ⟨[], .nil⟩
      | cons _ _ => simp at hl
    | cons R l ih =>
      intro xss hl Hl
      cases xss with
      | nil => simp at hl
      | cons xs xss =>
        obtain ⟨as, ha⟩ := ih xss (by simpa using hl) fun i R' hi => by simpa using Hl (i + 1) R' (by simpa using hi)
        obtain ⟨ys, hy, rs, c, h1, h2, h3⟩ := Hl 0 R rfl
        obtain rfl : xs = ys := by simpa using hy
        obtain ⟨bs, hb⟩ := rows_reads hs rs h2
        rw [h3] at hb
        exact ⟨_, .cons (reads_list_at (hs _ h1) rfl rfl hb) ha⟩
  obtain ⟨as, ha⟩ := key Rs (upto ns 4) H.len H.at_
  exact ⟨_, reads_list_at hd rfl rfl ha⟩
/-- the row so far -/
structure RwOk (j : Nat) (pre : List Int) (st : List (Addr × Obj)) (rs : List RowV) : Prop where
  nd : (rs.map (·.k)).Nodup
  mem : ∀ x, x ∈ rs.map (·.k) ↔ x ∈ pre ∧ Lev j x
  rows : ∀ r ∈ rs, rowO r ∈ st ∧ ∃ t, r.rest = [.str (sgn r.k) t, .bool true]
theorem rw_zero {j : Nat} {st : List (Addr × Obj)} : RwOk j [] st [] := ⟨.nil, fun x => by simp, fun _ h => nomatch h⟩
theorem rw_no {j : Nat} {pre : List Int} {st : List (Addr × Obj)} {rs : List RowV} {x : Int} (H : RwOk j pre st rs) (h : ¬ Lev j x ∨ x ∈ pre) : RwOk j (pre ++ [x]) st rs := by
  refine ⟨H.nd, fun y => (H.mem y).trans ?_, H.rows⟩
  rw [List.mem_append, List.mem_singleton]
  constructor
  · rintro ⟨a, b⟩; exact ⟨.inl a, b⟩
  · rintro ⟨a | rfl, b⟩
    · exact ⟨a, b⟩
    · rcases h with h | h
      · exact absurd b h
      · exact ⟨h, b⟩
theorem rw_yes {j : Nat} {pre : List Int} {st st' : List (Addr × Obj)} {rs : List RowV} {r : RowV} (H : RwOk j pre st rs) (hl : Lev j r.k) (hn : r.k ∉ pre) (hs : ∀ p ∈ st, p ∈ st') (hr : rowO r ∈ st') (ht : ∃ t, r.rest = [.str (sgn r.k) t, .bool true]) : RwOk j (pre ++ [r.k]) st' (rs ++ [r]) := by
  refine ⟨?_, fun y => ?_, fun q hq => ?_⟩
  · rw [List.map_append]
    refine List.nodup_append.mpr ⟨H.nd, by simp, fun a ha b hb e => ?_⟩
    obtain rfl : b = r.k := by simpa using hb
    exact hn (((H.mem a).mp ha).1 |> fun h => e ▸ h)
  · rw [List.map_append, List.mem_append, H.mem y, List.mem_append]
    simp only [List.map_cons, List.map_nil, List.mem_singleton]
    constructor
    · rintro (⟨a, b⟩ | rfl)
      · exact ⟨.inl a, b⟩
      · exact ⟨.inr rfl, hl⟩
    · rintro ⟨a | rfl, b⟩
      · exact .inl ⟨a, b⟩
      · exact .inr rfl
  · rcases List.mem_append.mp hq with hq | hq
    · exact ⟨hs _ (H.rows q hq).1, (H.rows q hq).2⟩
    · obtain rfl := List.mem_singleton.mp hq
      exact ⟨hr, ht⟩
theorem RwOk.len {j : Nat} {pre : List Int} {st : List (Addr × Obj)} {rs : List RowV} (H : RwOk j pre st rs) : rs.length ≤ pre.length := by
  rw [← List.length_map (f := (·.k))]
  exact sub_len H.nd fun x hx => ((H.mem x).mp hx).1
theorem rw_row {ns : List Int} {j : Nat} {st : List (Addr × Obj)} {rs rs' : List RowV} (hj : j < 4) (H : RwOk j (two fmet ns) st rs) (hp : rs'.Perm rs) (hs : (rs'.map (·.k)).Pairwise (· < ·)) : rs'.map (·.k) = rowOf ns j := by
  refine row_uniq hj hs fun x => ?_
  rw [(hp.map (·.k)).mem_iff, H.mem, two_met]
noncomputable abbrev duL (L' D du : Addr) (om oi : Obj) (ys : List Value) (Rs : List Addr) (ct : Nat) (st : List (Addr × Obj)) : List (Addr × Obj) :=
  (L' + 1, om) :: (L' + 1 + 1, oi) :: (D, W.listOf ys.toArray ys.length) :: (du, W.listOf (Rs.map Value.ref).toArray ct) :: st
theorem duL_nodup {L' D du : Nat} (h1 : L' + 1 + 1 ≠ D) (h2 : L' + 1 ≠ D) (h3 : D < du) (h4 : L' + 1 + 1 < du) (h5 : L' + 1 < du) : ((L' + 1) :: (L' + 1 + 1) :: D :: du :: ([] : List Nat)).Nodup := by
  simp only [List.nodup_cons, List.mem_cons, List.not_mem_nil, or_false, not_or, List.nodup_nil, not_false_eq_true, and_true]
  lia
noncomputable abbrev rwL (L' D du rw I : Addr) (oI om : Obj) (ys : List Value) (Rs : List Addr) (ct : Nat) (rs : List RowV) (c : Nat) (st : List (Addr × Obj)) : List (Addr × Obj) :=
  (rw, W.listOf (rowVs rs).toArray c) :: (I, oI) :: (L' + 1, om) :: (D, W.listOf ys.toArray ys.length) :: (du, W.listOf (Rs.map Value.ref).toArray ct) :: st
theorem ints_take : ∀ {vs : List Value} {ns : List Int} (k : Nat), IntsAre vs ns → IntsAre (vs.take k) (ns.take k)
  | _, _, 0, _ => by simp; exact .nil
  | _, _, k + 1, .nil => .nil
  | _, _, k + 1, .cons n t h => .cons n t (ints_take k h)
theorem duL_rw {L' D du I rw : Addr} {oI om oi : Obj} {ys : List Value} {Rs : List Addr} {ct c : Nat} {rs : List RowV} {st : List (Addr × Obj)} (ND : ((duL L' D du om oi ys Rs ct st).map (·.1)).Nodup) (o1 : ∀ p ∈ duL L' D du om oi ys Rs ct st, p.1 ≠ I)
    (o2 : ∀ p ∈ (I, oI) :: duL L' D du om oi ys Rs ct st, p.1 ≠ rw) : ((rwL L' D du rw I oI om ys Rs ct rs c st).map (·.1)).Nodup ∧ ∀ p ∈ rwL L' D du rw I oI om ys Rs ct rs c st, p.1 ≠ L' + 1 + 1 := by
  have a1 : (rw :: I :: (duL L' D du om oi ys Rs ct st).map (·.1)).Nodup := by
    refine List.nodup_cons.mpr ⟨fun hm => ?_, List.nodup_cons.mpr ⟨fun hm => ?_, ND⟩⟩
    · rcases List.mem_cons.mp hm with e | hm
      · exact o2 (I, oI) (.head _) e.symm
      · obtain ⟨p, hp, e⟩ := List.mem_map.mp hm; exact o2 p (.tail _ hp) e
    · obtain ⟨p, hp, e⟩ := List.mem_map.mp hm; exact o1 p hp e
  have hp : (rw :: I :: (duL L' D du om oi ys Rs ct st).map (·.1)).Perm ((L' + 1 + 1) :: (rwL L' D du rw I oI om ys Rs ct rs c st).map (·.1)) := by
    rw [List.perm_iff_count]
    intro a
    simp only [duL, rwL, List.map_cons, List.count_cons]
    lia
  obtain ⟨h1, h2⟩ := List.nodup_cons.mp (hp.nodup_iff.mp a1)
  exact ⟨h2, fun p hp e => h1 (by rw [← e]; exact List.mem_map_of_mem hp)⟩
end

section
open PySem PySem.Spec PySem.Calls PySem.W PyProof.Rows
set_option Elab.async false
set_option maxRecDepth 100000
set_option maxHeartbeats 3000000
section
variable {prog : Program} {w : World} {A : Around} {E : Value → Shared → Prop} {s : Shared} {env : Env} {h₀ : Heap} {m : Str → Option Value}
theorem paired_at {α β : Type} {F : α → β → Prop} {l₁ : List α} {l₂ : List β} (H : Paired F l₁ l₂) : ∀ (i : Nat) b, l₂[i]? = some b → ∃ a, l₁[i]? = some a ∧ F a b := by
  induction H with
  | nil => intro i b h; cases h
  | cons h t ih =>
    intro i b e
    cases i with
    | zero => exact ⟨_, rfl, by rw [← Option.some.inj e]; exact h⟩
    | succ i => exact ih i b e
/-- y = [.. for x in range(a, -1, -1)] -/
theorem asg_down {elt iter : Expr} {x y : Str} {px py : Pos} {scope : Scope} {cl : List (Str × Addr)} {pos spos : Pos} {Q : Flow → Shared → Prop} (G : Int → Value → Prop) (_F : Fr h₀ env.locals s.heap m) (hh : A.handled = none)
    (hsw : swapsWith (.ListComp elt [⟨.Name x px, iter, [], 0⟩] scope pos) (some (.Name y py)) spos.line env = pure true)
    (hclos : closureFor scope env = pure cl) (hcell : ∀ z ∈ scope.names, z.2 ≠ .cell) (hkind : scope.kind = .function)
    (hnames : ∀ z ∈ scope.names, z.2 = .local → scope.names.lookup z.1 = some .local) (hx : scope.names.lookup x = some .local)
    (hy : env.kindOf y = some .local) (hp : (env.scope.kind == .class || (env.scope.kind == .module && env.locals != env.globals)) = false)
    (hs : ∀ x, foldedSetIterable iter env x = pure x)
    (h : wpAny (model prog w) A (eval iter env) (fun xv s₁ => ∃ r a t u v n news, xv = .ref r ∧ IsRange s₁.heap r a (-1) (-1) t u v ∧ a + 1 = ((n : Nat) : Int) ∧ n ≤ 100 ∧ Fr h₀ env.locals s₁.heap m ∧ News h₀ env.locals s₁.heap news ∧
      (∀ C i s₃ m₃ E' ti, i < n → s₃.heap.Ns C m₃ → m₃ x = some (.int (a - ((i : Nat) : Int)) ti) → (∀ b o, s₁.heap.get? b = some o → s₃.heap.get? b = some o) → wpAny (model prog w) A (eval elt (compEnvC scope cl C env)) (fun y s₄ => G (a - ((i : Nat) : Int)) y ∧ Keeps s₃ s₄) E' s₃) ∧
      (∀ D h' tk ys c, Fr h₀ env.locals h' (fun z => if z = y then some (.ref D) else m z) → News h₀ env.locals h' ((D, W.listOf (List.toArray ys) c) :: news) → (∀ p ∈ news, p.1 ≠ D) → ys.length = n → (∀ (i : Nat) y, ys[i]? = some y → G (a - ((i : Nat) : Int)) y) → Q .next { s₁ with heap := h', toks := tk })) E s) :
    wpAny (model prog w) A (exec (.Assign [.Name y py] (.ListComp elt [⟨.Name x px, iter, [], 0⟩] scope pos) spos) env) Q E s := by
  refine wpAny_Assign_ListComp_free (fun _ => true) (fun v y => ∃ k t, v = .int k t ∧ G k y) hsw hclos hcell hkind hnames hx hy hp (wpAny_mono h (fun xv s₁ h₁ => ?_) fun _ _ e => e) hs
  obtain ⟨r, a, t, u, v, n, news, rfl, hr, han, hn, F, N, hel, fin⟩ := h₁
  have hsm := small_down (a := a) (b := -1) (by lia) (by lia) (by decide) (by decide)
  have hsz : Builtin.Range.rangeSize a (-1) (-1) = ((n : Nat) : Int) := by rw [rangeSize_downNat, show a - (-1) = ((n : Nat) : Int) by lia]; simp
  refine wpAny_pyIter_range hr hsm ?_
  have W := (Walks.range (prog := prog) (w := w) (A := A) hh s₁.heap.objs.size a (-1) n).bound
  have hLlt : env.locals < s₁.heap.objs.size := F.ns.lt
  have up : ∀ b o, s₁.heap.get? b = some o → (s₁.heap.push { cls := .type "range_iterator", data := .fields #[rawInt a, rawInt (Builtin.Range.rangeSize a (-1) (-1)), rawInt (-1)] }).get? b = some o := fun b o e => Heap.get?_push_of_some _ e
  have upk : ∀ (h' : Heap), (∀ b o, b ∉ [s₁.heap.objs.size] → (s₁.heap.push { cls := .type "range_iterator", data := .fields #[rawInt a, rawInt (Builtin.Range.rangeSize a (-1) (-1)), rawInt (-1)] }).get? b = some o → h'.get? b = some o) → ∀ b o, s₁.heap.get? b = some o → h'.get? b = some o :=
    fun h' hk b o e => hk b o (not_iter_of_old e) (up b o e)
  refine ⟨s₁.heap.objs.size, _, _, n, _, _, m, rfl, W, by rw [sizeLine_eq]; lia, ?_, fun b hb => ?_, fun hm => ?_, F.ns.keeps up, ⟨?_, ?_⟩, ?_⟩
  · show IsRangeIter _ _ _ _ _
    rw [hsz]
    simpa using Heap.get?_push_size _ rfl
  · rw [List.mem_singleton.mp hb]
    show s₁.heap.objs.size < (s₁.heap.push _).objs.size
    rw [Heap.size_push]; exact Nat.lt_succ_self _
  · exact absurd hLlt (List.mem_singleton.mp hm ▸ Nat.lt_irrefl _)
  · intro C i v s₃ m₃ E' _ _ _ _ _ _
    exact wpAny_tests_nil ⟨rfl, s₃.heap, s₃.toks, rfl, fun b o e => e⟩
  · rintro C i v s₃ m₃ E' _ ⟨hi, t, rfl⟩ _ hns hm hk _
    have ea : a + (i : Int) * -1 = a - ((i : Nat) : Int) := by lia
    rw [ea] at hm ⊢
    exact wpAny_mono (hel C i s₃ m₃ E' t hi hns hm (upk _ hk)) (fun y s₄ q => ⟨⟨_, _, rfl, q.1⟩, q.2⟩) fun _ _ e => e
  · intro D h' tk ys vs hD _ hpl hlen hP hF hN hk
    obtain ⟨c, hc⟩ := hpl
    have hf : vs.filter (fun _ => true) = vs := by simp
    rw [hf] at hF
    have hDn : s₁.heap.get? D = none := by
      cases e : s₁.heap.get? D with
      | none => rfl
      | some o' => rw [up _ _ e] at hD; cases hD
    have hDL : D ≠ env.locals := fun e => by
      obtain ⟨o, _, _, ho, _⟩ := F.ns
      rw [← e, hDn] at ho; cases ho
    have hDne : ∀ p ∈ news, p.1 ≠ D := fun p hp e => by have := (N p hp).1; rw [e, hDn] at this; cases this
    have hD0 : h₀.get? D = none := by
      cases e : h₀.get? D with
      | none => rfl
      | some o' => rw [F.keep _ _ e] at hDn; cases hDn
    have hk' : ∀ b o, b ≠ env.locals → s₁.heap.get? b = some o → h'.get? b = some o := fun b o hb e => hk b o hb (not_iter_of_old e) (up b o e)
    have hL0 : h₀.get? env.locals = none := Heap.get?_none_of_le F.above
    refine fin D h' tk ys.toList c ⟨hN, fun b o e => hk' b o (fun q => by rw [q, hL0] at e; cases e) (F.keep b o e), F.above⟩ (fun p hp => ?_) hDne ?_ fun i y hy => ?_
    · rcases List.mem_cons.mp hp with rfl | hp
      · exact ⟨by rw [Array.toArray_toList]; exact hc, hDL, hD0⟩
      · exact ⟨hk' _ _ (N p hp).2.1 (N p hp).1, (N p hp).2⟩
    · rw [← hF.length, hlen]
    · obtain ⟨v, hv, k, t, rfl, hG⟩ := paired_at hF i y hy
      obtain ⟨_, t', e⟩ := hP i _ hv
      have ea : a + (i : Int) * -1 = a - ((i : Nat) : Int) := by lia
      cases e
      rw [← ea]; exact hG
theorem lc_quiet {L : Addr} {elt iter : Expr} {x : Str} {px : Pos} {scope : Scope} {cl : List (Str × Addr)} {pos : Pos} {Q : Value → Shared → Prop} (G : Value → Value → Prop) (_F : Fr h₀ L s.heap m) (hh : A.handled = none)
    (hclos : closureFor scope env = pure cl) (hcell : ∀ z ∈ scope.names, z.2 ≠ .cell) (hkind : scope.kind = .function)
    (hnames : ∀ z ∈ scope.names, z.2 = .local → scope.names.lookup z.1 = some .local) (hx : scope.names.lookup x = some .local)
    (hs : ∀ x, foldedSetIterable iter env x = pure x)
    (h : wpAny (model prog w) A (eval iter env) (fun xv s₁ => ∃ d vs c news, xv = .ref d ∧ Fr h₀ L s₁.heap m ∧ News h₀ L s₁.heap news ∧ (d, W.listOf (List.toArray vs) c) ∈ news ∧ vs.length ≤ 100 ∧
      (∀ C (i : Nat) v s₃ m₃ E', vs[i]? = some v → s₃.heap.Ns C m₃ → m₃ x = some v → (∀ b o, s₁.heap.get? b = some o → s₃.heap.get? b = some o) → wpAny (model prog w) A (eval elt (compEnvC scope cl C env)) (fun y s₄ => G v y ∧ Keeps s₃ s₄) E' s₃) ∧
      (∀ D h' tk ys c, Fr h₀ L h' m → News h₀ L h' ((D, W.listOf (List.toArray ys) c) :: news) → (∀ p ∈ news, p.1 ≠ D) → ys.length = vs.length → (∀ (i : Nat) y, ys[i]? = some y → ∃ v, vs[i]? = some v ∧ G v y) → Q (.ref D) { s₁ with heap := h', toks := tk })) E s) :
    wpAny (model prog w) A (eval (.ListComp elt [⟨.Name x px, iter, [], 0⟩] scope pos) env) Q E s := by
  refine wpAny_ListComp_free (fun _ => true) G hclos hcell hkind hnames hx (wpAny_mono h (fun xv s₁ h₁ => ?_) fun _ _ e => e) hs
  obtain ⟨d, vs, c, news, rfl, F, N, hm, hn, hel, fin⟩ := h₁
  have hd : s₁.heap.get? d = some (W.listOf vs.toArray c) := (N _ hm).1
  have hl : s₁.heap.IsList d vs.toArray := ⟨_, hd, rfl, c, rfl⟩
  have hdl : d < s₁.heap.objs.size := Heap.lt_size hd
  refine wpAny_pyIter_list hl ?_
  have up : ∀ b o, s₁.heap.get? b = some o → (s₁.heap.push { cls := .type "list_iterator", data := .fields #[.ref d, .int 0 0] }).get? b = some o := fun b o e => Heap.get?_push_of_some _ e
  have upk : ∀ (h' : Heap), (∀ b o, b ∉ [s₁.heap.objs.size] → (s₁.heap.push { cls := .type "list_iterator", data := .fields #[.ref d, .int 0 0] }).get? b = some o → h'.get? b = some o) → ∀ b o, s₁.heap.get? b = some o → h'.get? b = some o :=
    fun h' hk b o e => hk b o (not_iter_of_old e) (up b o e)
  refine ⟨s₁.heap.objs.size, _, _, vs.toArray.size, _, _, rfl, Walks.list hh s₁.heap.objs.size d (Nat.ne_of_lt hdl) vs.toArray, by rw [List.size_toArray, sizeLine_eq]; lia, ⟨⟨_, Heap.get?_push_size _ rfl, rfl, rfl⟩, hl.push _⟩, fun b hb => ?_, ⟨?_, ?_⟩, ?_⟩
  · show b < (s₁.heap.push _).objs.size
    rw [Heap.size_push]
    rcases List.mem_cons.mp hb with rfl | hb
    · exact Nat.lt_succ_self _
    · rw [List.mem_singleton.mp hb]; exact Nat.lt_succ_of_lt hdl
  · intro C i v s₃ m₃ E' _ _ _ _ _ _
    exact wpAny_tests_nil ⟨rfl, s₃.heap, s₃.toks, rfl, fun b o e => e⟩
  · rintro C i v s₃ m₃ E' _ hi _ hns hmx hk _
    exact hel C i v s₃ m₃ E' (by simpa using hi) hns hmx (upk _ hk)
  · intro D h' tk ys vs' hD _ hpl hlen hP hF hk
    obtain ⟨c', hc⟩ := hpl
    have hf : vs'.filter (fun _ => true) = vs' := by simp
    rw [hf] at hF
    have e' : vs' = vs := by simpa using walked_is hlen hP
    subst e'
    have hDn : s₁.heap.get? D = none := by
      cases e : s₁.heap.get? D with
      | none => rfl
      | some o' => rw [up _ _ e] at hD; cases hD
    have hDL : D ≠ L := fun e => by
      obtain ⟨o, _, _, ho, _⟩ := F.ns
      rw [← e, hDn] at ho; cases ho
    have hDne : ∀ p ∈ news, p.1 ≠ D := fun p hp e => by have := (N p hp).1; rw [e, hDn] at this; cases this
    have hD0 : h₀.get? D = none := by
      cases e : h₀.get? D with
      | none => rfl
      | some o' => rw [F.keep _ _ e] at hDn; cases hDn
    refine fin D h' tk ys.toList c' (F.keeps (upk h' hk)) (fun p hp => ?_) hDne (by rw [hF.length]) fun i y hy => paired_at hF i y hy
    rcases List.mem_cons.mp hp with rfl | hp
    · exact ⟨by rw [Array.toArray_toList]; exact hc, hDL, hD0⟩
    · exact N.grown (upk h' hk) p hp
end
end

section
open PySem PySem.Spec PySem.Calls PySem.W PyProof.Rows
set_option Elab.async false
set_option maxRecDepth 100000
set_option maxHeartbeats 3000000
noncomputable def sR (d : Int) : Str := ⟨#[if 4 ≤ d then 114 else 45]⟩
noncomputable def sW (d : Int) : Str := ⟨#[if d / 2 % 2 = 1 then 119 else 45]⟩
noncomputable def sX (d : Int) : Str := ⟨#[if d % 2 = 1 then 120 else 45]⟩
noncomputable def sRW (d : Int) : Str := ⟨#[if 4 ≤ d then 114 else 45, if d / 2 % 2 = 1 then 119 else 45]⟩
theorem rw_app (d : Int) : sR d ++ sW d = sRW d := str_of_list (by rw [cps_toList_append]; rfl)
theorem rwx_app (d : Int) : sRW d ++ sX d = digS d := str_of_list (by rw [cps_toList_append]; rfl)
theorem it_R {d : Int} (h0 : 0 ≤ d) (h8 : d < 8) : Txt.item (Str.ofString "-r") (d / 4) = sR d := by
  unfold sR
  by_cases h : 4 ≤ d
  · rw [if_pos h, show d / 4 = 1 by lia]; decide
  · rw [if_neg h, show d / 4 = 0 by lia]; decide
theorem it_W {d : Int} (h0 : 0 ≤ d) (h8 : d < 8) : Txt.item (Str.ofString "-w") (d / 2 % 2) = sW d := by
  unfold sW
  by_cases h : d / 2 % 2 = 1
  · rw [if_pos h, h]; decide
  · rw [if_neg h, show d / 2 % 2 = 0 by lia]; decide
theorem it_X {d : Int} (h0 : 0 ≤ d) (h8 : d < 8) : Txt.item (Str.ofString "-x") (d % 2) = sX d := by
  unfold sX
  by_cases h : d % 2 = 1
  · rw [if_pos h, h]; decide
  · rw [if_neg h, show d % 2 = 0 by lia]; decide
section
variable {prog : Program} {w : World} {A : Around} {E : Value → Shared → Prop} {s : Shared} {Q : Value → Shared → Prop}
end
theorem p8_bd {k : Int} (h0 : 0 ≤ k) (h4 : k ≤ 4) : 0 < (8 : Int) ^ k.toNat ∧ (8 : Int) ^ k.toNat < 5000 := by
  have : k = 0 ∨ k = 1 ∨ k = 2 ∨ k = 3 ∨ k = 4 := by lia
  rcases this with rfl | rfl | rfl | rfl | rfl <;> decide
noncomputable def figs (j : Nat) (x : Int) : List Int := (List.range (j + 1)).map fun i => x / 8 ^ (j - i) % 8
theorem figs_succ (j : Nat) (x : Int) : figs (j + 1) x = figs j (x / 8) ++ [x % 8] := by
  unfold figs
  rw [List.range_succ, List.map_append]
  congr 1
  · refine List.map_congr_left fun i hi => ?_
    have hi := List.mem_range.mp hi
    rw [show j + 1 - i = (j - i) + 1 by lia, ← ediv8, ediv_swap]
  · simp
where
  ediv_swap {x : Int} {k : Nat} : x / 8 ^ k / 8 % 8 = x / 8 / 8 ^ k % 8 := by
    rw [Int.ediv_ediv, Int.ediv_ediv, Int.mul_comm]
    have h : (0 : Int) < 8 ^ k := Int.pow_pos (by decide)
    rw [if_neg (fun q => by lia), if_neg (fun q => by lia)]
theorem figs_sgn : ∀ (j : Nat) (x : Int), Lev j x → (figs j x).flatMap digC = sgnC (j + 1) x
  | 0, x, h => by
    have h1 : (8 : Int) ^ 0 ≤ x := h.1
    have h2 : x < (8 : Int) ^ (0 + 1) := h.2
    simp at h1 h2
    show (figs 0 x).flatMap digC = if x = 0 then [] else sgnC 0 (x / 8) ++ digC (x % 8)
    rw [if_neg (by lia)]
    simp [figs, sgnC]
  | j + 1, x, h => by
    have hl := lev_div.mp h
    have h0 : 0 < x := by have := (pw8 (j + 1)).2; have := h.1; omega
    show (figs (j + 1) x).flatMap digC = if x = 0 then [] else sgnC (j + 1) (x / 8) ++ digC (x % 8)
    rw [if_neg (by omega), figs_succ, List.flatMap_append, figs_sgn j (x / 8) hl]
    simp
theorem sgnC4 {j : Nat} {x : Int} (hj : j < 4) (h : Lev j x) : sgnC 4 x = sgnC (j + 1) x := by
  have key : ∀ d, sgnC (j + 1 + d) x = sgnC (j + 1) x := by
    intro d
    induction d with
    | zero => rfl
    | succ d ih =>
      have h0 : (0 : Int) < 8 ^ j := (pw8 j).2
      have h1 : (8 : Int) ^ (j + 1) ≤ 8 ^ (j + 1 + d) := by
        have : (8 : Nat) ^ (j + 1) ≤ 8 ^ (j + 1 + d) := Nat.pow_le_pow_right (by decide) (Nat.le_add_right _ _)
        exact_mod_cast this
      have := h.1; have := h.2
      rw [show j + 1 + (d + 1) = j + 1 + d + 1 by lia, sgnC_up (j + 1 + d) x (by lia) (by omega), ih]
  rw [show (4 : Nat) = j + 1 + (3 - j) by lia, key]
theorem figs_join {j : Nat} {x : Int} (hj : j < 4) (h : Lev j x) : Txt.join (Str.ofString "") ((figs j x).map digS) = sgn x := by
  have e : Txt.join (Str.ofString "") ((figs j x).map digS) = Str.join ⟨#[]⟩ ((figs j x).map digS) := eq_of_beq (join_closes (by decide))
  rw [e]
  apply str_of_list
  rw [join_cps]
  show _ = sgnC 4 x
  rw [sgnC4 hj h, ← figs_sgn j x h, List.flatMap_map]
  rfl
theorem ints_of_at : ∀ {vs : List Value} {l : List Int}, vs.length = l.length → (∀ (i : Nat) v k, vs[i]? = some v → l[i]? = some k → ∃ t, v = .int k t) → IntsAre vs l
  | [], [], _, _ => .nil
  | [], _ :: _, h, _ => by simp at h
  | _ :: _, [], h, _ => by simp at h
  | v :: vs, k :: l, h, H => by
    obtain ⟨t, rfl⟩ := H 0 v k rfl rfl
    exact .cons k t (ints_of_at (by simpa using h) fun i v k hv hk => H (i + 1) v k (by simpa using hv) (by simpa using hk))
theorem strs_of_at : ∀ {vs : List Value} {l : List Str}, vs.length = l.length → (∀ (i : Nat) v k, vs[i]? = some v → l[i]? = some k → ∃ t, v = .str k t) → StrsAre vs l
  | [], [], _, _ => .nil
  | [], _ :: _, h, _ => by simp at h
  | _ :: _, [], h, _ => by simp at h
  | v :: vs, k :: l, h, H => by
    obtain ⟨t, rfl⟩ := H 0 v k rfl rfl
    exact .cons k t (strs_of_at (by simpa using h) fun i v k hv hk => H (i + 1) v k (by simpa using hv) (by simpa using hk))
theorem figs_w : ∀ l : List Int, ((l.map digS).map (·.length)).sum = 3 * l.length
  | [] => rfl
  | d :: l => by
    have := figs_w l
    have h3 : (digS d).length = 3 := rfl
    simp only [List.map_cons, List.sum_cons, List.length_cons] at this ⊢
    lia
theorem figs_len (j : Nat) (x : Int) : (figs j x).length = j + 1 := by simp [figs]
theorem digs_strs {fs ss : List Value} {l : List Int} (hf : IntsAre fs l) (hl : ss.length = fs.length) (hss : ∀ (i : Nat) y, ss[i]? = some y → ∃ v, fs[i]? = some v ∧ ∃ d t t', v = .int d t ∧ y = .str (digS d) t') : StrsAre ss (l.map digS) := by
  refine strs_of_at (by rw [hl, hf.length, List.length_map]) fun i v k hv hk => ?_
  obtain ⟨u, hu, d, t, t', rfl, rfl⟩ := hss i v hv
  obtain ⟨n, tn, hn, e⟩ := ints_get hf hu
  cases e
  rw [List.getElem?_map, hn] at hk
  cases hk
  exact ⟨t', rfl⟩
theorem rwL_new {L' D du rw I : Addr} {oI om : Obj} {ys : List Value} {Rs : List Addr} {ct c c' : Nat} {rs rs' : List RowV} {st : List (Addr × Obj)} {a p : Addr × Obj} (h : p ∈ rwL L' D du rw I oI om ys Rs ct rs' c' (a :: st)) :
    p = a ∨ ∃ q ∈ rwL L' D du rw I oI om ys Rs ct rs c st, q.1 = p.1 := by
  simp only [rwL, List.mem_cons] at h
  rcases h with rfl | rfl | rfl | rfl | rfl | rfl | h
  · exact .inr ⟨_, .head _, rfl⟩
  · exact .inr ⟨_, .tail _ (.head _), rfl⟩
  · exact .inr ⟨_, .tail _ (.tail _ (.head _)), rfl⟩
  · exact .inr ⟨_, .tail _ (.tail _ (.tail _ (.head _))), rfl⟩
  · exact .inr ⟨_, .tail _ (.tail _ (.tail _ (.tail _ (.head _)))), rfl⟩
  · exact .inl rfl
  · exact .inr ⟨p, .tail _ (.tail _ (.tail _ (.tail _ (.tail _ h)))), rfl⟩
theorem rwL_off {L' D du rw I b : Addr} {oI om : Obj} {ys : List Value} {Rs : List Addr} {ct c c' : Nat} {rs rs' : List RowV} {st : List (Addr × Obj)} {a : Addr × Obj} (h : ∀ p ∈ rwL L' D du rw I oI om ys Rs ct rs c st, p.1 ≠ b) (ha : a.1 ≠ b) :
    ∀ p ∈ rwL L' D du rw I oI om ys Rs ct rs' c' (a :: st), p.1 ≠ b := fun p hp => by
  rcases rwL_new (rs := rs) (c := c) hp with rfl | ⟨q, hq, e⟩
  · exact ha
  · rw [← e]; exact h q hq
theorem rwL_grow {L' D du rw I : Addr} {oI om : Obj} {ys : List Value} {Rs : List Addr} {ct c c' : Nat} {rs rs' : List RowV} {st : List (Addr × Obj)} {a : Addr × Obj} (ND : ((rwL L' D du rw I oI om ys Rs ct rs c st).map (·.1)).Nodup)
    (h : ∀ p ∈ rwL L' D du rw I oI om ys Rs ct rs c st, p.1 ≠ a.1) : ((rwL L' D du rw I oI om ys Rs ct rs' c' (a :: st)).map (·.1)).Nodup := by
  have a1 : (a.1 :: (rwL L' D du rw I oI om ys Rs ct rs c st).map (·.1)).Nodup :=
    List.nodup_cons.mpr ⟨fun hm => by obtain ⟨p, hp, e⟩ := List.mem_map.mp hm; exact h p hp e, ND⟩
  refine (List.Perm.nodup_iff ?_).mp a1
  rw [List.perm_iff_count]
  intro b
  simp only [rwL, List.map_cons, List.count_cons]
  lia
theorem rwL_app {L' D du rw I : Addr} {oI om : Obj} {ys : List Value} {Rs : List Addr} {ct c : Nat} {rs : List RowV} {r : RowV} {st pr : List (Addr × Obj)} (hpr : ∀ p ∈ pr, p.1 ≠ rw) (ND : ((rwL L' D du rw I oI om ys Rs ct rs c st).map (·.1)).Nodup) :
    Upd rw (W.listOf (rowVs rs).toArray c) (W.listOf ((rowVs rs).toArray.push (.ref r.a)) (c + 1)) (pr ++ rwL L' D du rw I oI om ys Rs ct rs c st) (pr ++ rwL L' D du rw I oI om ys Rs ct (rs ++ [r]) (c + 1) st) := by
  have e : (rowVs rs).toArray.push (.ref r.a) = (rowVs (rs ++ [r])).toArray := by simp [rowVs]
  rw [e]
  exact upd_mid hpr fun p hp e => (List.nodup_cons.mp ND).1 (List.mem_map.mpr ⟨p, hp, e⟩)
theorem rw_duL {L' D du rw I : Addr} {oI om oc : Obj} {ys : List Value} {Rs Rs' : List Addr} {ct ct' c : Nat} {rs : List RowV} {st : List (Addr × Obj)} {a : Addr × Obj} (ND : ((rwL L' D du rw I oI om ys Rs ct rs c st).map (·.1)).Nodup)
    (o2 : ∀ p ∈ rwL L' D du rw I oI om ys Rs ct rs c st, p.1 ≠ L' + 1 + 1) (ha : ∀ p ∈ (L' + 1 + 1, oc) :: rwL L' D du rw I oI om ys Rs ct rs c st, p.1 ≠ a.1) :
    ((duL L' D du om oc ys Rs' ct' (a :: st)).map (·.1)).Nodup ∧ ∀ p ∈ duL L' D du om oc ys Rs' ct' (a :: st), p.1 ≠ I := by
  have a1 : (a.1 :: (L' + 1 + 1) :: (rwL L' D du rw I oI om ys Rs ct rs c st).map (·.1)).Nodup := by
    refine List.nodup_cons.mpr ⟨fun hm => ?_, List.nodup_cons.mpr ⟨fun hm => ?_, ND⟩⟩
    · rcases List.mem_cons.mp hm with e | hm
      · exact ha (L' + 1 + 1, oc) (.head _) e.symm
      · obtain ⟨p, hp, e⟩ := List.mem_map.mp hm; exact ha p (.tail _ hp) e
    · obtain ⟨p, hp, e⟩ := List.mem_map.mp hm; exact o2 p hp e
  have hp : (a.1 :: (L' + 1 + 1) :: (rwL L' D du rw I oI om ys Rs ct rs c st).map (·.1)).Perm (rw :: I :: (duL L' D du om oc ys Rs' ct' (a :: st)).map (·.1)) := by
    rw [List.perm_iff_count]
    intro b
    simp only [duL, rwL, List.map_cons, List.count_cons]
    lia
  obtain ⟨_, h2⟩ := List.nodup_cons.mp (hp.nodup_iff.mp a1)
  obtain ⟨h3, h4⟩ := List.nodup_cons.mp h2
  exact ⟨h4, fun p hp e => h3 (by rw [← e]; exact List.mem_map_of_mem hp)⟩
theorem duL_app {L' D du : Addr} {om oi : Obj} {ys : List Value} {Rs Rs' : List Addr} {ct ct' : Nat} {st pr : List (Addr × Obj)} (hpr : ∀ p ∈ pr, p.1 ≠ du) (ND : ((duL L' D du om oi ys Rs ct st).map (·.1)).Nodup) :
    Upd du (W.listOf (Rs.map Value.ref).toArray ct) (W.listOf (Rs'.map Value.ref).toArray ct') (pr ++ duL L' D du om oi ys Rs ct st) (pr ++ duL L' D du om oi ys Rs' ct' st) := by
  have e : ∀ R n, pr ++ duL L' D du om oi ys R n st = (pr ++ [(L' + 1, om), (L' + 1 + 1, oi), (D, W.listOf ys.toArray ys.length)]) ++ (du, W.listOf (R.map Value.ref).toArray n) :: st := fun R n => by simp [duL]
  have e2 : duL L' D du om oi ys Rs ct st = [(L' + 1, om), (L' + 1 + 1, oi), (D, W.listOf ys.toArray ys.length)] ++ (du, W.listOf (Rs.map Value.ref).toArray ct) :: st := rfl
  have h := led_off ND e2
  rw [e, e]
  refine upd_mid (fun p hp => ?_) (fun p hp => h p (List.mem_append_right _ hp))
  rcases List.mem_append.mp hp with hp | hp
  · exact hpr p hp
  · exact h p (List.mem_append_left _ hp)
theorem due_end {ns : List Int} {st st' : List (Addr × Obj)} {j : Nat} {rs rs' : List RowV} {D : Addr} {c : Nat} (hj : j < 4) (RW : RwOk j (two fmet ns) st rs) (hp : rs'.Perm rs) (hs : (rs'.map (·.k)).Pairwise (· < ·)) (hst : ∀ p ∈ st, p ∈ st') (hm : (D, W.listOf (rowVs rs').toArray c) ∈ st') :
    RowX st' D (rowOf ns j) ∧ (rs = [] ↔ rowOf ns j = []) := by
  have h := rw_row hj RW hp hs
  refine ⟨⟨rs', c, hm, fun r hr => ⟨hst _ (RW.rows r (hp.mem_iff.mp hr)).1, (RW.rows r (hp.mem_iff.mp hr)).2⟩, h⟩, ?_⟩
  rw [← h, List.map_eq_nil_iff]
  constructor
  · intro e; rw [e] at hp; exact hp.eq_nil
  · intro e; rw [e] at hp; exact hp.symm.eq_nil
section
variable {prog : Program} {w : World} {A : Around} {E : Value → Shared → Prop} {s : Shared} {Q : Value → Shared → Prop} {h₀ : Heap} {L : Addr} {m : Str → Option Value} {sub : List (Addr × Obj)}
theorem ext_row {b du D7 : Addr} {n c ct : Nat} {Rs : List Addr} {sub' : List Addr → Nat → List (Addr × Obj)} (F : Fr h₀ L s.heap m) (N : News h₀ L s.heap ((b, W.listOf (([Value.ref D7] : List Value).take n).toArray c) :: sub)) (hb : b ≠ du)
    (U : ∀ Rs' ct', Upd du (W.listOf (Rs.map Value.ref).toArray ct) (W.listOf (Rs'.map Value.ref).toArray ct') sub (sub' Rs' ct')) (hRl : Rs.length ≤ 4)
    (h0 : n = 0 → ∀ h', Fr h₀ L h' m → News h₀ L h' (sub' Rs ct) → Q .none { s with heap := h' })
    (h1 : n ≠ 0 → ∀ h', Fr h₀ L h' m → News h₀ L h' (sub' (Rs ++ [D7]) (ct + 1)) → Q .none { s with heap := h' }) :
    wpAny (model prog w) A (call (.builtin "list.extend") [.ref du, .ref b]) Q E s := by
  have hz : ((Rs.map Value.ref).toArray).size ≤ 4 := by rw [List.size_toArray, List.length_map]; exact hRl
  have hz1 : (([Value.ref D7] : List Value).take n).toArray.size ≤ 1 := by rw [List.size_toArray, List.length_take]; exact Nat.min_le_right _ _
  have hd : ∀ its2 : Array Value, its2.size ≤ 1 → ¬(!((Rs.map Value.ref).toArray).isEmpty && Builtin.List.listTooLong (((Rs.map Value.ref).toArray).size + its2.size)) = true := fun its2 h2 => extend_door (by rw [sizeLine_eq]; lia)
  by_cases hn : n = 0
  · subst hn
    refine kxn_extend (its2 := #[]) (n2 := c) F N (.head _) rfl (.tail hb (U Rs ct)) (hd #[] (by decide)) ?_ ?_ fun h' F' N' => h0 rfl h' F' fun p hp => N' p (.tail _ hp)
    · rw [Array.length_toList, sizeLine_eq]; lia
    · rw [sizeLine_eq]; show _ + 0 ≤ _; lia
  · have ht : ([Value.ref D7] : List Value).take n = [.ref D7] := by
      obtain ⟨k, rfl⟩ : ∃ k, n = k + 1 := ⟨n - 1, by lia⟩
      simp
    rw [ht] at N
    refine kl_extend (its2 := #[.ref D7]) (n2 := c) (l := (Rs ++ [D7]).map Value.ref) F N (.head _) (by simp) (by simp) (.tail hb (U (Rs ++ [D7]) (ct + 1))) (hd _ (Nat.le_refl 1)) ?_ ?_ fun h' F' N' => h1 hn h' F' fun p hp => N' p (.tail _ hp)
    · rw [Array.length_toList, sizeLine_eq]; lia
    · rw [sizeLine_eq]; show _ + 1 ≤ _; lia
end
end

section
open PySem PySem.Calls PySem.W PyProof.Rows
set_option Elab.async false
set_option maxRecDepth 100000
set_option maxHeartbeats 3000000
set_option pp.deepTerms false
set_option pp.maxSteps 20000
section
variable {w : World} {mean : ExcName → Option Value} {mg mb : Str → Option Value} {p : Program} {loose : List Str} {cn : Str} {cs : Scope} {a : Addr} {ccd : Value} {cl : List (Str × Addr)} {outer : List Env} {A₀ : Around} {base h₀ : Heap} {L : Addr} {m : Str → Option Value} {s : Shared}
    {Q E : Value → Shared → Prop}

set_option maxHeartbeats 0 in
theorem du_con {dl : Addr} {vs : List Value} {ns : List Int} {c : Nat}
    (B : Below A₀ base outer h₀) (F : Fr h₀ L s.heap m) (X : (topo.heap_39 w.params).In h₀) (T : Top p loose mean mg mb h₀) (hk : cs.kind = .function)
    (hdl : s.heap.get? dl = some (W.listOf vs.toArray c)) (hvs : IntsAre vs ns) (hns : ns.length ≤ 10) (hn0 : ∀ n ∈ ns, 0 ≤ n ∧ n < 4096)
    (ret : ∀ h' tk' R as, Fr h₀ L h' m → Kept [] s.heap h' → Reads h' (.ref R) (lawData ns) as → Q (.ref R) { s with heap := h', toks := tk' }) :
    wpAny (model PySem.Challenge.rw_nq0271_01.row.prog w) (AT 400 cn cs L a ccd cl outer) (call (.ref 240) [.ref dl]) Q E s := by
  have N : News h₀ L s.heap [] := News.nil
  revert X T hk
  k_fill
  w_on
  intro X T hk
  k_with_none
  refine wpAny_call ?_
  k_dflt (refine' enterC (binds := [(Str.ofString "numbers", Value.ref dl)]) ?k1 ?k2 ?k3 ?k4 ?k5 ?kA ?kF ?kK ?k6 ?k7 ?k8 ?k9 ?kB ?kN ?_ ?c2 ?c3 ?c4; (case kA => exact rfl); (case kF => exact rfl); (case kK => assumption); (case k1 => k_asm); (case k2 => k_asm); (case k3 => k_asm); (case k4 => k_asm); (case k5 => k_asm); (case k6 => k_is); (case k7 => k_is); (case k8 => k_room); (case k9 => exact BindsTo.of_eq rfl); (case kB => exact rfl); (case kN => decide); (case c2 => exact rfl); (case c3 => exact rfl); (case c4 => exact rfl); k_whole)
  intro g L' h₁ tk cells FG F' N' CC B' X' T' kp kb l1
  k_cells CC
  rename_i oi0 om0 doi0 dom0
  (try simp only [List.cons_append, List.nil_append] at N')
  (try dsimp only)
  refine wpAny_mono (E := fun _ _ => False) ?_ (fun _ _ h => h) (fun _ _ h => h.elim)
  refine wp_var fun Qf hQf => ?_
  w_strict k_steps
  have hgl : g.IsList dl vs.toArray := ⟨_, kp _ _ hdl (by simp), rfl, c, rfl⟩
  rename News g L' h₁ _ => N1
  refine comp_two (x := Str.ofString "n") (y := Str.ofString "k") fmet rfl F' N1 hgl hvs (by lia) ?i1 ?i2 ?i3 ?i4 (by with_unfolding_all rfl) (by decide) (by rfl) (by decide) (by rfl) (by rfl) (by decide) (by intro _; rfl) (by intro _ _; rfl)
  case i1 => intro Q' hQ; w_strict k_steps; exact hQ
  case i2 =>
    intro C h2 tk2 Q2 E2 F2 N2 hQ
    clear F' N1
    w_strict k_steps
    exact hQ _ _ _ _ _ _ (by assumption) (by assumption)
  case i3 =>
    intro C m₂ h2 tk2 Q2 E2 n k tn tk' hn hk0 hk4 hns hm1 hm2 hQ
    clear F' N1
    obtain ⟨hn1, hn2⟩ := hn0 n hn
    obtain ⟨z, hz⟩ : ∃ z, (8 : Int) ^ k.toNat = z := ⟨_, rfl⟩
    have hz1 : 0 < z := by rw [← hz]; exact Int.pow_pos (by decide)
    have hz2 : z < 5000 := by
      rw [← hz]
      have : k = 0 ∨ k = 1 ∨ k = 2 ∨ k = 3 := by lia
      rcases this with rfl | rfl | rfl | rfl <;> decide
    have hzm : n / z = fmet n k := by rw [← hz]
    k_with "binaryOp Pow int int" => k_dflt (refine powV hk0 (by lia) hz (fun t3 k3 => ?_))
    k_with "binaryOp FloorDiv int int" => k_dflt (refine fdivV hz1 hn1 (by lia) (by lia) hzm (fun t3 k3 => ?_))
    w_strict k_steps
    exact hQ _ _
  case i4 =>
    intro D h2 tk2 ys F2 N2 hne hys
    clear F' N1
    have hylen : ys.length = (two fmet ns).length := hys.length
    have hmlen : (two fmet ns).length ≤ 40 := by rw [two_len]; lia
    have hm0 := two_lt hn0
    k_with_none
    k_with "exec For Name Call cons cons" => k_dflt (refine halt ?_)
    k_with "exec For Name Call cons nil" => k_dflt (refine halt ?_)
    w_strict k_steps
    rename Fr g L' _ _ => F3
    rename News g L' _ _ => N3
    rename _ = Data.cell (some (Value.ref D)) => dom
    rename ∀ p ∈ [(D, LCg.lst ys), _] ++ [_], _ => l3
    have l31 := l3 _ (.head _)
    have l32 := l3 _ (.tail _ (.head _))
    have l33 := l3 _ (.tail _ (.tail _ (.head _)))
    show wpAny _ _ _ _ _ _
    refine wp_state (P := fun s' => ∀ Z : Prop, (∀ du om oi hh tk m1, s' = { s with heap := hh, toks := tk } → m1 (Str.ofString "due") = some (Value.ref du) → Fr g L' hh m1 → News g L' hh (duL L' D du om oi ys [] 0 []) → ((duL L' D du om oi ys [] 0 []).map (·.1)).Nodup → om.data = .cell (some (.ref D)) → (∃ v, oi.data = .cell v) → Z) → Z)
      (fun Zz KZ => KZ _ _ oi0 _ _ _ rfl rfl F3 (fun q hq => N3 q ?nn) ?nd dom ?dd) ?_
    case nn =>
      simp only [duL, List.mem_cons, List.not_mem_nil, or_false, List.cons_append, List.nil_append] at hq ⊢
      rcases hq with h | h | h | h
      rotate_left
      · exact .inr (.inr (.inl h))
      · exact .inr (.inl h)
      · exact .inl h
      · exact .inr (.inr (.inr h))
    case dd => exact ⟨_, doi0⟩
    case nd => simp only [duL, List.map_cons, List.map_nil]; exact duL_nodup (hne _ (.head _)) (hne _ (.tail _ (.head _))) l31 l32 l33
    (try clear F3); (try clear N3); (try clear dom); (try clear l3); (try clear l31); (try clear l32); (try clear l33); (try clear F2); (try clear N2); (try clear hne)
    intro s1 hI
    refine hI _ ?_
    clear hI
    rintro du om oi h3 tk3 m1 rfl hm1 F3 N3 ND dom doi
    rw [mkeep hm1] at F3
    k_with_none
    k_with "pyIter ref" => k_dflt (refine halt ?_)
    with_unfolding_all refine For_invVF (by assumption) rfl rfl ?_
    w_strict k_steps
    show wpAny _ _ _ _ _ _
    k_with_none
    rename IsRange _ _ 1 5 1 _ _ _ => hr
    rename Fr g L' _ _ => F4
    rename News g L' _ _ => N4
    refine rangeLoopV (n := 4) (fun j m₁ l => ∀ Z : Prop, (∀ om oi Rs ct st, m₁ (Str.ofString "due") = some (.ref du) → l = duL L' D du om oi ys Rs ct st → om.data = .cell (some (.ref D)) → (∃ v, oi.data = .cell v) → (l.map (·.1)).Nodup → DueOk ns st j Rs → Z) → Z) rfl hr (by decide) (by decide) F4 N4
      (fun Zz KZ => KZ om oi [] 0 [] rfl rfl dom doi ND due_zero) ?_ ?_
    · clear F4 N4 ND dom doi hr hm1
      intro j tj m₁ news₁ h5 tk5 I oI hj hI F1 N1 o1 QJ hQJ _ _ _
      refine hI _ ?_
      clear hI
      rintro om oi Rs ct st hm1 rfl dom doi ND HD
      rw [mkeep hm1] at F1
      k_with "exec For Name Call cons nil" => k_dflt (refine halt ?_)
      w_strict k_steps
      show wpAny _ _ _ _ _ _
      rename_i rw0 q1 q2 q3 q4 q5 q6 q7
      clear q2 q3
      k_with_none
      k_with "pyIter ref" => k_dflt (refine halt ?_)
      have hml : ((two fmet ns).length : Int) = ((ys.length : Nat) : Int) := by rw [hylen]
      k_with "call builtin:len cons nil" => k_dflt (refine' len_led (c := ys.length) (vs := ys) (z := ((two fmet ns).length : Int)) ?N ?m (by lia) (by rw [hylen]) (fun t3 k3 => ?_); (case N => k_asm); (case m => k_mem))
      refine For_invTF (by assumption) ?_ (by intro _; rfl)
      w_strict k_steps
      show wpAny _ _ _ _ _ _
      k_with_none
      rename IsRange _ _ 0 _ 1 _ _ _ => hr
      rename Fr g L' _ _ => F4
      rename News g L' _ _ => N4
      have hI0 := q4.1
      obtain ⟨NDr, offr⟩ := duL_rw (rw := rw0) (c := 0) (rs := []) ND o1 (fun p hp => Nat.ne_of_lt (allLt_mem (show AllLt rw0 ((I, oI) :: duL L' D du om oi ys Rs ct st) from q4) p hp))
      have N5 : News g L' _ ((L' + 1 + 1, oi) :: rwL L' D du rw0 I oI om ys Rs ct [] 0 st) := fun p hp => N4 p (by
        simp only [rwL, duL, List.mem_cons] at hp ⊢
        rcases hp with h | h | h | h | h | h | h
        · exact .inr (.inr (.inr (.inl h)))
        · exact .inl h
        · exact .inr (.inl h)
        · exact .inr (.inr (.inl h))
        · exact .inr (.inr (.inr (.inr (.inl h))))
        · exact .inr (.inr (.inr (.inr (.inr (.inl h)))))
        · exact .inr (.inr (.inr (.inr (.inr (.inr h))))))
      refine rangeLoopCV (n := (two fmet ns).length) (fun i m₁ l => ∀ Z : Prop, (∀ rs c st', m₁ (Str.ofString "due") = some (.ref du) → m₁ (Str.ofString "row") = some (.ref rw0) → m₁ (Str.ofString "size") = some (.int (1 + ((j : Nat) : Int)) tj) → l = rwL L' D du rw0 I oI om ys Rs ct rs c st' → (l.map (·.1)).Nodup → (∀ p ∈ st, p ∈ st') → RwOk j ((two fmet ns).take i) st' rs → Z) → Z) rfl hr (small_one (by decide) (by decide) (by lia) (by lia)) (by rw [rangeSize_nat]; simp) (by rfl) doi rfl (by rfl) F4 N5 offr
        (fun Zz KZ => KZ [] 0 st rfl rfl rfl rfl NDr (fun _ h => h) rw_zero) ?_ ?_
      · clear N5 F4 N4 offr NDr o1 q4 hI0
        intro i ti m₁ news₁ s₁ h6 I2 oI2 oc hi hI F1 N1 doc o1 o2 o3 QK hQK
        refine hI _ ?_
        clear hI
        rintro rs c0 st' hm1 hm2 hm3 rfl ND6 hst RW
        rw [mkeep3 hm1 hm2 hm3] at F1
        rename IntsAre ys _ => hys
        obtain ⟨v, hv⟩ : ∃ v, ys[i]? = some v := ⟨_, List.getElem?_eq_getElem (by lia)⟩
        obtain ⟨x, tx, hxi, rfl⟩ := ints_get hys hv
        obtain ⟨hx0, hx4⟩ := hm0 x (List.mem_of_getElem? hxi)
        have htk : (two fmet ns).take (i + 1) = (two fmet ns).take i ++ [x] := by rw [List.take_add_one, hxi]; rfl
        have e1 : (8 : Int) ^ (1 + ((j : Nat) : Int) - 1).toNat = 8 ^ j := by rw [show (1 + ((j : Nat) : Int) - 1).toNat = j by lia]
        have e2 : (8 : Int) ^ (1 + ((j : Nat) : Int)).toNat = 8 ^ (j + 1) := by rw [show (1 + ((j : Nat) : Int)).toNat = j + 1 by lia]
        have hv' : ys[(0 + ((i : Nat) : Int)).toNat]? = some (.int x tx) := by rw [show (0 + ((i : Nat) : Int)).toNat = i by lia]; exact hv
        have hi40 : i < 40 := by lia
        have hj4 := hj
        have hrl := RW.len
        rw [List.length_take] at hrl
        k_with "binaryOp Pow int int" => k_dflt (first | refine powV (z := 8 ^ j) (by lia) (by lia) e1 (fun t3 k3 => ?_) | refine powV (z := 8 ^ (j + 1)) (by lia) (by lia) e2 (fun t3 k3 => ?_))
        k_with "subscriptTail Name Name ref int" => k_dflt (refine' item_led (c := ys.length) (vs := ys) ?N ?m (by lia) (by lia) hv' ?_; (case N => k_asm); (case m => k_mem))
        by_cases hle : ¬ (8 : Int) ^ j ≤ x
        · k_with "compareOp LtE int int" => k_dflt (refine leV false (decide_eq_false hle) ?_)
          w_strict k_steps
          rename Fr g L' _ _ => F2
          rename News g L' _ _ => N2
          exact hQK _ _ _ _ F2 N2 o1 o2 (fun Zz KZ => KZ rs c0 st' rfl rfl rfl rfl ND6 hst (htk ▸ rw_no RW (.inl fun h => hle h.1)))
        have hle := Decidable.not_not.mp hle
        k_with "compareOp LtE int int" => k_dflt (refine leV true (decide_eq_true hle) ?_)
        by_cases hlt : ¬ x < (8 : Int) ^ (j + 1)
        · k_with "compareOp Lt int int" => k_dflt (refine ltV false (decide_eq_false hlt) ?_)
          w_strict k_steps
          rename Fr g L' _ _ => F2
          rename News g L' _ _ => N2
          exact hQK _ _ _ _ F2 N2 o1 o2 (fun Zz KZ => KZ rs c0 st' rfl rfl rfl rfl ND6 hst (htk ▸ rw_no RW (.inl fun h => hlt h.2)))
        have hlt := Decidable.not_not.mp hlt
        have hLev : Lev j x := ⟨hle, hlt⟩
        k_with "compareOp Lt int int" => k_dflt (refine ltV true (decide_eq_true hlt) ?_)
        k_with "subscriptTail Name Slice ref ref" => k_dflt ((refine' slice_upV (vs := ys) (c := ys.length) ?F ?N ?m (by lia) (by lia) ?_ ?sb ?tb; (case F => k_asm); (case N => k_asm); (case m => k_mem); (case sb => with_unfolding_all rfl); (case tb => intro _; with_unfolding_all rfl)); intro D2 h4 F4 N6 l4)
        have hyt : IntsAre (ys.take (0 + ((i : Nat) : Int)).toNat) ((two fmet ns).take i) := by rw [show (0 + ((i : Nat) : Int)).toNat = i by lia]; exact ints_take i hys
        by_cases hin : x ∈ (two fmet ns).take i
        · k_with "compareOp NotIn int ref" => k_dflt (refine' notinV (c := 0) false ?N ?m hyt (decide_eq_true hin) ?_; (case N => k_asm); (case m => k_mem))
          w_strict k_steps
          rename Fr g L' _ _ => F2
          rename News g L' _ _ => N2
          exact hQK _ _ _ _ F2 (fun p hp => N2 p (.tail _ hp)) o1 o2 (fun Zz KZ => KZ rs c0 st' rfl rfl rfl rfl ND6 hst (htk ▸ rw_no RW (.inr hin)))
        k_with "compareOp NotIn int ref" => k_dflt (refine' notinV (c := 0) true ?N ?m hyt (decide_eq_false hin) ?_; (case N => k_asm); (case m => k_mem))
        k_with "exec Assign cons ListComp BinOp" => k_dflt (refine halt ?_)
        k_with "exec Assign cons ListComp" => k_dflt (refine halt ?_)
        w_strict k_steps
        show wpAny _ _ _ _ _ _
        k_with_none
        rename Fr g L' _ _ => F2
        rename News g L' _ _ => N2
        refine asg_down (x := Str.ofString "k") (y := Str.ofString "figures") (fun k y => ∃ t, y = .int (x / 8 ^ k.toNat % 8) t) F2 rfl (by with_unfolding_all rfl) (by with_unfolding_all rfl) (by decide) (by rfl) (by decide) (by rfl) (by rfl) (by rfl) (by intro _; rfl) ?_
        refine wp_halt ?_
        w_strict k_steps
        rename IsRange _ _ _ _ _ _ _ _ => hr
        rename Fr g L' _ _ => F3
        rename News g L' _ _ => N3
        refine ⟨_, _, _, _, _, j + 1, _, rfl, hr, by lia, by lia, F3, N3, ?_, ?_⟩
        · intro C i3 s3 m3 E3 t3 hi3 hns3 hm3' hk3
          have F5 := F3.keeps hk3
          have N5 := N3.grown hk3
          (try clear F2); (try clear N2); (try clear F3); (try clear N3)
          obtain ⟨K, hK⟩ : ∃ K, K = 1 + ((j : Nat) : Int) - 1 - ((i3 : Nat) : Int) := ⟨_, rfl⟩
          rw [← hK] at hm3' ⊢
          have hK0 : 0 ≤ K := by lia
          have hK3 : K ≤ 3 := by lia
          obtain ⟨hz1, hz2⟩ := p8_bd hK0 (by lia)
          obtain ⟨z, hz⟩ : ∃ z, (8 : Int) ^ K.toNat = z := ⟨_, rfl⟩
          rw [hz] at hz1 hz2 ⊢
          k_with "subscriptTail Name Name ref int" => k_dflt (refine' item_led (c := ys.length) (vs := ys) ?N ?m (by lia) (by lia) hv' ?_; (case N => k_asm); (case m => k_mem))
          k_with "binaryOp Pow int int" => k_dflt (refine powV hK0 (by lia) hz (fun t3 k3 => ?_))
          k_with "binaryOp FloorDiv int int" => k_dflt (refine fdivV hz1 hx0 (by lia) (by lia) rfl (fun t3 k3 => ?_))
          k_with "binaryOp Mod int int" => k_dflt (refine fmodV (by decide) rfl (fun t3 k3 => ?_))
          refine wp_halt ?_
          w_strict k_steps
          exact ⟨⟨_, rfl⟩, _, _, rfl, fun b o e => e⟩
        · intro D3 h7 tk7 fs c3 F7 N7 hne7 hfl hfs
          have hfI : IntsAre fs (figs j x) := ints_of_at (by rw [hfl]; simp [figs]) fun i3 v k3 hv3 hk3 => by
            obtain ⟨t, rfl⟩ := hfs i3 v hv3
            have hi3 : i3 < j + 1 := by rw [← hfl]; exact (List.getElem?_eq_some_iff.mp hv3).1
            have : k3 = x / 8 ^ (j - i3) % 8 := by
              unfold figs at hk3
              rw [List.getElem?_map, List.getElem?_range hi3] at hk3
              exact (Option.some.inj hk3).symm
            rw [this, show (1 + ((j : Nat) : Int) - 1 - ((i3 : Nat) : Int)).toNat = j - i3 by lia]
            exact ⟨_, rfl⟩
          have F7 : Fr g L' h7 _ := F7
          have N7 : News g L' h7 _ := N7
          clear hfs
          (try clear F2); (try clear N2); (try clear F3); (try clear N3)
          k_with_none
          k_with "subscriptTail Name Name ref int" => k_dflt (refine' item_led (c := ys.length) (vs := ys) ?N ?m (by lia) (by lia) hv' ?_; (case N => k_asm); (case m => k_mem))
          k_with "eval ListComp BinOp cons" => k_dflt (refine halt ?_)
          k_with "eval ListComp" => k_dflt (refine halt ?_)
          show wpAny _ _ (execs _ _) _ _ _
          w_strict k_steps
          show wpAny _ _ _ _ _ _
          k_with_none
          rename Fr g L' _ _ => F8
          rename News g L' _ _ => N8
          refine lc_quiet (x := Str.ofString "one") (fun v y => ∃ d t t', v = .int d t ∧ y = .str (digS d) t') F8 rfl (by with_unfolding_all rfl) (by decide) (by rfl) (by decide) (by rfl) (by intro _; rfl) ?_
          refine wp_halt ?_
          w_strict k_steps
          rename Fr g L' _ _ => F9
          rename News g L' _ _ => N9
          have hmF : (D3, W.listOf fs.toArray c3) ∈ (D3, W.listOf fs.toArray c3) :: (D2, W.listOf (List.take (0 + ((i : Nat) : Int)).toNat ys).toArray 0) :: (I2, oI2) :: (L' + 1 + 1, oc) :: rwL L' D du rw0 I oI om ys Rs ct rs c0 st' := .head _
          refine ⟨_, fs, c3, _, rfl, F9, N9, hmF, by lia, ?_, ?_⟩
          · intro C i5 v5 s5 m5 E5 hv5 hns5 hm5 hk5
            obtain ⟨d, td, hd, rfl⟩ := ints_get hfI hv5
            have hd8 : 0 ≤ d ∧ d < 8 := by
              unfold figs at hd
              rw [List.getElem?_map] at hd
              obtain ⟨q, _, rfl⟩ := Option.map_eq_some_iff.mp hd
              lia
            obtain ⟨hd0, hd8⟩ := hd8
            (try clear F8); (try clear N8); (try clear F9); (try clear N9)
            k_with "binaryOp FloorDiv int int" => k_dflt (refine fdivV (by decide) hd0 (by lia) (by decide) rfl (fun t3 k3 => ?_))
            k_with "binaryOp Mod int int" => k_dflt (refine fmodV (by decide) rfl (fun t3 k3 => ?_))
            refine wp_halt ?_
            w_strict k_steps
            exact ⟨⟨d, _, _, rfl, congrArg (fun z => Value.str z _) (by rw [it_R hd0 hd8, it_W hd0 hd8, it_X hd0 hd8, rw_app, rwx_app])⟩, _, _, rfl, fun b o e => e⟩
          · intro D5 h8 tk8 ss c5 F10 N10 hne10 hsl hss
            have hsI := digs_strs hfI hsl hss
            have hjoin := figs_join hj hLev
            (try clear F8); (try clear N8); (try clear F9); (try clear N9); (try clear F7); (try clear N7)
            clear hss
            k_with "call builtin:str.join" => k_dflt ((refine' join_listW (led_list ?N (List.Mem.head _)) (ys := (figs j x).map digS) hsI ?k1 ?k2 ?_; (case N => k_asm); (case k1 => decide); (case k2 => (rw [figs_w, List.length_map, figs_len]; lia))); intro t9 k9; (rw [hjoin]))
            k_with "call builtin:list.append" => k_dflt (refine halt ?_)
            w_strict k_steps
            rename_i T q1 F11 N11 lT
            show wpAny _ _ _ _ _ _
            have hTl : ∀ p ∈ (I2, oI2) :: (L' + 1 + 1, oc) :: rwL L' D du rw0 I oI om ys Rs ct rs c0 st', @LT.lt Nat _ p.1 T := fun p hp => allLt_mem (show AllLt T ((D5, W.listOf ss.toArray c5) :: (D3, W.listOf fs.toArray c3) :: (D2, W.listOf (List.take (0 + ((i : Nat) : Int)).toNat ys).toArray 0) :: (I2, oI2) :: (L' + 1 + 1, oc) :: rwL L' D du rw0 I oI om ys Rs ct rs c0 st') from lT) p (.tail _ (.tail _ (.tail _ hp)))
            have hTr : ∀ p ∈ rwL L' D du rw0 I oI om ys Rs ct rs c0 st', p.1 ≠ T := fun p hp => Nat.ne_of_lt (hTl p (.tail _ (.tail _ hp)))
            have hTI : T ≠ I2 := Nat.ne_of_gt (hTl (I2, oI2) (.head _))
            have hTc : T ≠ L' + 1 + 1 := Nat.ne_of_gt (hTl (L' + 1 + 1, oc) (.tail _ (.head _)))
            obtain ⟨r, hr'⟩ : ∃ r : RowV, r = ⟨x, T, tx, [.str (sgn x) t9, .bool true]⟩ := ⟨_, rfl⟩
            have hra : r.a = T := by rw [hr']
            have hrk : r.k = x := by rw [hr']
            have NN : News g L' _ ([(I2, oI2), (L' + 1 + 1, oc)] ++ rwL L' D du rw0 I oI om ys Rs ct rs c0 (rowO r :: st')) := fun p hp => N11 p (by
              rw [hr'] at hp
              simp only [rwL, List.mem_cons, List.mem_append, List.not_mem_nil, or_false] at hp ⊢
              rcases hp with (h | h) | h | h | h | h | h | h | h
              · exact .inr (.inr (.inr (.inr (.inl h))))
              · exact .inr (.inr (.inr (.inr (.inr (.inl h)))))
              · exact .inr (.inr (.inr (.inr (.inr (.inr (.inl h))))))
              · exact .inr (.inr (.inr (.inr (.inr (.inr (.inr (.inl h)))))))
              · exact .inr (.inr (.inr (.inr (.inr (.inr (.inr (.inr (.inl h))))))))
              · exact .inr (.inr (.inr (.inr (.inr (.inr (.inr (.inr (.inr (.inl h)))))))))
              · exact .inr (.inr (.inr (.inr (.inr (.inr (.inr (.inr (.inr (.inr (.inl h))))))))))
              · exact .inl h
              · exact .inr (.inr (.inr (.inr (.inr (.inr (.inr (.inr (.inr (.inr (.inr h)))))))))))
            have ND8 : ((rwL L' D du rw0 I oI om ys Rs ct rs c0 (rowO r :: st')).map (·.1)).Nodup := rwL_grow ND6 (by rw [show (rowO r).1 = T from hra]; exact hTr)
            have hU := rwL_app (r := r) (pr := [(I2, oI2), (L' + 1 + 1, oc)]) (fun p hp => by
              simp only [List.mem_cons, List.not_mem_nil, or_false] at hp
              rcases hp with rfl | rfl
              · exact (o1 _ (.head _)).symm
              · exact (o2 _ (.head _)).symm) ND8
            rw [hra] at hU
            refine append_K F11 NN hU (fun h12 F12 N12 => ?_) (by rw [List.size_toArray, List.length_map, sizeLine_eq]; lia)
            w_strict k_steps
            exact hQK _ _ _ _ F12 N12 (rwL_off o1 (by rw [show (rowO r).1 = T from hra]; exact hTI)) (rwL_off o2 (by rw [show (rowO r).1 = T from hra]; exact hTc)) (fun Zz KZ => KZ (rs ++ [r]) (c0 + 1) (rowO r :: st') rfl rfl rfl rfl (rwL_grow ND6 (by rw [show (rowO r).1 = T from hra]; exact hTr)) (fun p hp => .tail _ (hst p hp)) (by rw [htk, ← hrk]; exact rw_yes RW (by rw [hrk]; exact hLev) (by rw [hrk]; exact hin) (fun p hp => .tail _ hp) (.head _) ⟨t9, by rw [hr']⟩))
      · clear N5 F4 N4 offr NDr o1 q4 hI0
        intro m₁ news₁ h6 tk6 oc hI F1 N1 doc o2
        refine hI _ ?_
        clear hI
        rintro rs c0 st' hm1 hm2 hm3 rfl ND6 hst RW
        rw [mkeep2 hm1 hm2] at F1
        have RW : RwOk j (two fmet ns) st' rs := by rw [List.take_length] at RW; exact RW
        have hrl := RW.len
        have hj4 := hj
        k_with "call builtin:sorted" => k_dflt ((refine' sorted_rows (rs := rs) ?F ?N ?l ?m RW.nd (by lia) ?_; (case F => k_asm); (case N => exact N1); (case l => exact ⟨_, (N1 _ (.tail _ (.head _))).1, rfl, _, rfl⟩); (case m => exact fun r hr => .tail _ (.tail _ (.tail _ (.tail _ (.tail _ (.tail _ (RW.rows r hr).1))))))); intro D7 h7 k7 c7 rs7 F7 N7 l7 p7 s7)
        k_with "call builtin:len" => k_dflt (refine' len_led (c := c0) (vs := rowVs rs) (z := ((rs.length : Nat) : Int)) ?N ?m (by simp only [rowVs, List.length_map]; lia) (by simp [rowVs]) (fun t3 k3 => ?_); (case N => k_asm); (case m => k_mem))
        k_with "subscriptTail Name Slice ref ref" => k_dflt ((refine' slice_upV (vs := [Value.ref D7]) (c := 0) ?F ?N ?m (by lia) (Nat.le_of_ble_eq_true rfl) ?_ ?sb ?tb; (case F => k_asm); (case N => k_asm); (case m => k_mem); (case sb => with_unfolding_all rfl); (case tb => intro _; with_unfolding_all rfl)); intro D8 h8 F8 N8 l8)
        k_with "call builtin:list.extend" => k_dflt (refine halt ?_)
        w_strict k_steps
        rename Fr g L' _ _ => F9
        rename News g L' _ _ => N9
        show wpAny _ _ (call (.builtin "list.extend") [.ref du, .ref D8]) _ _ _
        have hRl : Rs.length ≤ 4 := by rw [HD.len]; unfold upto; exact Nat.le_trans (List.length_filter_le _ _) (by rw [List.length_map, List.length_range]; lia)
        obtain ⟨hrx, hiff⟩ := due_end (st' := (D7, W.listOf (rowVs rs7).toArray c7) :: st') hj RW p7 s7 (fun p hp => .tail _ hp) (.head _)
        have hnd := fun Rs' ct' => rw_duL (Rs' := Rs') (ct' := ct') (a := (D7, W.listOf (rowVs rs7).toArray c7)) ND6 o2 (fun p hp => Nat.ne_of_lt (l7 p hp))
        have NN : News g L' h8 ((D8, W.listOf (([Value.ref D7] : List Value).take ((rs.length : Nat) : Int).toNat).toArray 0) :: ([(I, oI)] ++ duL L' D du om oc ys Rs ct ((D7, W.listOf (rowVs rs7).toArray c7) :: st'))) := fun p hp => N9 p (by
          simp only [rwL, duL, List.mem_cons, List.mem_append, List.not_mem_nil, or_false] at hp ⊢
          rcases hp with h | h | h | h | h | h | h | h
          · exact .inl h
          · exact .inr (.inr (.inr (.inr (.inr (.inl h)))))
          · exact .inr (.inr (.inr (.inr (.inr (.inr (.inl h))))))
          · exact .inr (.inr (.inr (.inl h)))
          · exact .inr (.inr (.inr (.inr (.inr (.inr (.inr (.inl h)))))))
          · exact .inr (.inr (.inr (.inr (.inr (.inr (.inr (.inr (.inl h))))))))
          · exact .inr (.inr (.inl h))
          · exact .inr (.inr (.inr (.inr (.inr (.inr (.inr (.inr (.inr h)))))))))
        have hD8 : D8 ≠ du := Nat.ne_of_gt (l8 (du, W.listOf (Rs.map Value.ref).toArray ct) (.tail _ (.tail _ (.tail _ (.tail _ (.tail _ (.tail _ (.tail _ (.head _)))))))))
        refine ext_row (sub' := fun Rs' ct' => [(I, oI)] ++ duL L' D du om oc ys Rs' ct' ((D7, W.listOf (rowVs rs7).toArray c7) :: st')) F9 NN hD8 (fun Rs' ct' => duL_app (fun p hp => ?_) (hnd Rs ct).1) hRl (fun hn h12 F12 N12 => ?_) (fun hn h12 F12 N12 => ?_)
        · rw [List.mem_singleton.mp hp]
          exact fun e => (hnd Rs ct).2 (du, W.listOf (Rs.map Value.ref).toArray ct) (.tail _ (.tail _ (.tail _ (.head _)))) e.symm
        · have hr0 : rs = [] := List.length_eq_zero_iff.mp (by lia)
          w_strict k_steps
          exact hQJ _ _ _ _ F12 N12 ((hnd Rs ct).2) (fun Zz KZ => KZ om oc Rs ct _ rfl rfl dom doc ((hnd Rs ct).1) (due_no HD (fun p hp => .tail _ (hst p hp)) (hiff.mp hr0)))
        · have hr0 : rs ≠ [] := fun e => hn (by rw [e]; rfl)
          w_strict k_steps
          exact hQJ _ _ _ _ F12 N12 ((hnd _ _).2) (fun Zz KZ => KZ om oc (Rs ++ [D7]) (ct + 1) _ rfl rfl dom doc ((hnd _ _).1) (due_yes HD (fun p hp => .tail _ (hst p hp)) (fun e => hr0 (hiff.mpr e)) hrx))
    · clear F4 N4 ND dom doi hr hm1
      intro m₁ news₁ h6 tk6 hI F1 N1
      refine hI _ ?_
      clear hI
      rintro om oi Rs ct st hm1 rfl dom doi ND HD
      rw [mkeep hm1] at F1
      w_strict k_steps
      refine hQf _ _ ?_
      w_strict k_steps
      obtain ⟨as, hr⟩ := due_reads (h := h6) (fun p hp => (N1 p (.tail _ (.tail _ (.tail _ (.tail _ hp))))).1) (N1 _ (.tail _ (.tail _ (.tail _ (.head _))))).1 HD
      exact ret _ _ du as (by assumption) (kept_of N F1 N1 kp (fun _ h => nomatch h)) hr
end
end

section
open PySem PySem.Spec PySem.Calls PySem.W PyProof.Rows
set_option Elab.async false
set_option maxRecDepth 100000
set_option maxHeartbeats 3000000
theorem lay_map {α : Type} (f : α → PyData) (h : ∀ x, (f x).canLay0 = true) : ∀ l : List α, PyData.canLayAll0 (l.map f) = true
  | [] => rfl
  | x :: l => by rw [List.map_cons, PyData.canLayAll0, h x, lay_map f h l]; rfl
theorem depth_map {α : Type} (f : α → PyData) {d : Nat} (h : ∀ x, (f x).depth ≤ d) : ∀ l : List α, PyData.depthAll (l.map f) ≤ d
  | [] => Nat.zero_le _
  | x :: l => by rw [List.map_cons, PyData.depthAll]; exact Nat.max_le.mpr ⟨h x, depth_map f h l⟩
theorem dig_lt (d : Int) : ∀ c ∈ digC d, c < 0x110000 := by
  intro c hc
  unfold digC at hc
  simp only [List.mem_cons, List.not_mem_nil, or_false] at hc
  rcases hc with rfl | rfl | rfl <;> (split <;> decide)
theorem sgnC_lt : ∀ (n : Nat) (x : Int), ∀ c ∈ sgnC n x, c < 0x110000
  | 0, _, _, h => nomatch h
  | n + 1, x, c, h => by
    rw [show sgnC (n + 1) x = if x = 0 then [] else sgnC n (x / 8) ++ digC (x % 8) from rfl] at h
    split at h
    · cases h
    · rcases List.mem_append.mp h with h | h
      · exact sgnC_lt n _ c h
      · exact dig_lt _ c h
theorem sgn_ok (x : Int) : PyData.strOk (sgn x) = true := by
  unfold PyData.strOk sgn
  rw [List.all_toArray, List.all_eq_true]
  intro c hc
  exact decide_eq_true (sgnC_lt 4 x c hc)
theorem row_lay (r : List Int) : (rowData r).canLay0 = true := by
  unfold rowData
  rw [PyData.canLay0]
  exact lay_map _ (fun x => by simp [PyData.canLay0, PyData.canLayAll0, sgn_ok]) r
theorem row_depth (r : List Int) : (rowData r).depth ≤ 2 := by
  unfold rowData
  rw [PyData.depth]
  exact Nat.succ_le_succ (depth_map _ (fun x => by simp [PyData.depth, PyData.depthAll]) r)
theorem law_lay (ns : List Int) : (lawData ns).canLay0 = true := by
  unfold lawData
  rw [PyData.canLay0]
  exact lay_map _ row_lay _
theorem law_shaped (ns : List Int) : SeqAt.shaped (lawData ns) = true := by
  unfold SeqAt.shaped
  rw [law_lay, Bool.true_and, decide_eq_true_iff]
  unfold lawData
  rw [PyData.depth]
  exact Nat.le_trans (Nat.succ_le_succ (depth_map _ row_depth _)) (by decide)
theorem ints_carried (f : Int → Int) : ∀ {l : List Int} {vs : List Value}, CarriedAll vs (l.map fun a => PyData.int (f a)) → IntsAre vs (l.map f)
  | [], [], _ => .nil
  | a :: l, v :: vs, h => by
    cases h with
    | cons h1 h2 => cases h1; exact .cons _ _ (ints_carried f h2)
theorem drawn_ok (l : List Int) : ∀ n ∈ [420, 65, 8, 7, 509] ++ l.map (fun a => a.fmod 4096), 0 ≤ n ∧ n < 4096 := by
  intro n hn
  rcases List.mem_append.mp hn with hn | hn
  · simp only [List.mem_cons, List.not_mem_nil, or_false] at hn
    lia
  · obtain ⟨a, _, rfl⟩ := List.mem_map.mp hn
    rw [Int.fmod_eq_emod_of_nonneg _ (by decide)]
    lia
/-- behind _law_told: the law's own frame -/
theorem fr_back {g h h' : Heap} {L : Addr} {m : Str → Option Value} {oL : Obj} {frs' ld : List (Addr × Obj)} (F : Fr g L h m) (N : News g L h ld) (hL : h.get? L = some oL) (SU : TI.SameUp ((L, oL) :: []) frs') (hq : ∀ q ∈ frs', h'.get? q.1 = some q.2)
    (keep : ∀ b o, h.get? b = some o → b ≠ L → b ∉ ld.map (·.1) → h'.get? b = some o) : Fr g L h' m := by
  cases frs' with
  | nil => exact SU.elim
  | cons q frs₁ =>
    obtain ⟨e1, ⟨sl, e2⟩, _⟩ := SU
    obtain ⟨q1, q2⟩ := q
    simp only at e1 e2
    subst e1
    subst e2
    obtain ⟨o, es, ep, ho, hd, hk, hf⟩ := F.ns
    rw [hL] at ho; cases ho
    have hL0 : g.get? q1 = none := Heap.get?_none_of_le F.above
    refine ⟨⟨_, es, ep, hq _ (.head _), hd, hk, hf⟩, fun b o e => keep b o (F.keep b o e) (fun q => by rw [q, hL0] at e; cases e) (fun hm => ?_), F.above⟩
    obtain ⟨p, hp, e'⟩ := List.mem_map.mp hm
    rw [← e', (N p hp).2.2] at e; cases e
theorem add_ll {prog : Program} {w : World} {A : Around} {E : Value → Shared → Prop} {s : Shared} {Q : Value → Shared → Prop} {h₀ : Heap} {L l b : Addr} {m : Str → Option Value} {news : List (Addr × Obj)} {vs ws : List Value} {ns ms : List Int}
    (F : Fr h₀ L s.heap m) (N : News h₀ L s.heap news) (hl : s.heap.IsList l vs.toArray) (hb : s.heap.IsList b ws.toArray) (hi : IntsAre vs ns) (hj : IntsAre ws ms) (hz : ns.length + ms.length ≤ 10)
    (h : ∀ D h' zs, Fr h₀ L h' m → News h₀ L h' ((D, W.listOf (List.toArray zs) 0) :: news) → (∀ p ∈ news, @LT.lt Nat _ p.1 D) → IntsAre zs (ns ++ ms) → Q (.ref D) { s with heap := h' }) :
    wpAny (model prog w) A (binaryOp .Add (.ref l) (.ref b)) Q E s :=
  add_lists_ints F N hl hb hi hj (fun h' F' N' hI => h _ h' _ F' N' (fun p hp => Heap.lt_size (N p hp).1) hI) (by rw [sizeLine_eq]; lia)
theorem drawn_len (l : List Int) : (l.filter fun _ => true).length = l.length := by simp
theorem nilN {g h : Heap} {L : Addr} {m : Str → Option Value} (_F : Fr g L h m) : News g L h [] := News.nil
theorem law_post (args args' : List WData) : PySem.Challenge.rw_nq0271_01.row.claim.post args (.bool true) args' = true := by
  show (WShape.has [] (.bool true) .bool && (WTm.eq .res (.lit (.bool true))).holds [] _) = true
  have h : ∀ e : WCtx, e.res = some (.bool true) → (WTm.eq .res (.lit (.bool true))).holds [] e = true := fun e he => by
    unfold WTm.holds
    have hs : PySem.W.same (.bool true) (.bool true) = true := by simp [PySem.W.same]
    rw [w_eq (w_res he) w_lit, hs]
  rw [h _ rfl]
  simp [WShape.has, WShape.arms]
end

section
open PySem PySem.Calls PySem.W PyProof.Rows
set_option Elab.async false
set_option maxRecDepth 100000
set_option maxHeartbeats 3000000
set_option pp.deepTerms false
set_option pp.maxSteps 20000
section
variable {w : World} {mean : ExcName → Option Value} {mg mb : Str → Option Value} {p : Program} {loose : List Str} {cn : Str} {cs : Scope} {a : Addr} {ccd : Value} {cl : List (Str × Addr)} {outer : List Env} {A₀ : Around} {base h₀ : Heap} {L : Addr} {m : Str → Option Value} {s : Shared}
    {Q E : Value → Shared → Prop}

theorem lw_try : PySem.Challenge.rw_nq0271_01.Holds := by
  k_with_none
  refine topo ?_
  k_with "binaryOp Add ref ref" => k_dflt (refine halt ?_)
  w_strict (
    k_go0
    (all_goals try k_fold)
    k_steps
    rename_i D1 ws1 h1 F1 N1 hI1 hC1 hL1 l1 D2 ys h2 tk2 F2 N2 hD2 hl2 hp2 hc2
    show wpAny _ _ _ _ _ _
    rename Below _ _ _ _ => K'
    rename (topo.heap_39 _).In _ => X'
    rename Top topProg _ _ _ _ _ => T'
    rename CodeHd _ (48, 44).1 _ => hcA
    rename CodeHd _ (41, 37).1 _ => hcB
    k_with_none
    refine add_ll F2 N2 (ns := [420, 65, 8, 7, 509]) ⟨_, (N2 _ (.tail _ (.head _))).1, rfl, _, rfl⟩ hl2 (.cons _ _ (.cons _ _ (.cons _ _ (.cons _ _ (.cons _ _ .nil))))) (ints_carried _ hc2) (by simp only [List.length_map, drawn_len, hC1, List.length_cons, List.length_nil]; omega) (fun dl h3 zs F3 N3 l3 hI3 => ?_)
    obtain ⟨ns, hzs, hnl, hn0⟩ : ∃ ns, IntsAre zs ns ∧ ns.length ≤ 10 ∧ ∀ n ∈ ns, 0 ≤ n ∧ n < 4096 := ⟨_, hI3, by simp only [List.length_append, List.length_map, drawn_len, hC1, List.length_cons, List.length_nil]; omega, drawn_ok _⟩
    clear hI3 F2 N2 F1 N1 hc2 hp2 hl2 hD2 hI1 hC1 hL1
    k_with "call ref" => k_dflt (refine halt ?_)
    k_steps
    show wpAny _ _ (call (.ref 235) [.ref dl]) _ _ _
    rename Fr _ _ _ _ => F4
    rename News _ _ _ _ => N4
    have h44 : (44 : Nat) < dl := l3 (44, tabObj #[]) (.tail _ (.tail _ (.head _)))
    have h37 : (37 : Nat) < dl := l3 (37, tabObj #[]) (.tail _ (.tail _ (.tail _ (.head _))))
    have hdo : dl ∉ ([(44, tabObj #[])] ++ [(37, tabObj #[])] : List (Addr × Obj)).map (·.1) := fun hm => by
      have hm : dl = 44 ∨ dl = 37 := by simpa using hm
      rcases hm with e | e
      · exact absurd h44 (by rw [e]; exact Nat.lt_irrefl _)
      · exact absurd h37 (by rw [e]; exact Nat.lt_irrefl _)
    have NT : News _ _ _ ([(44, tabObj #[])] ++ [(37, tabObj #[])]) := fun q hq => N4 q (by
      simp only [List.mem_append, List.mem_singleton] at hq
      rcases hq with rfl | rfl
      · exact .tail _ (.tail _ (.tail _ (.head _)))
      · exact .tail _ (.tail _ (.tail _ (.tail _ (.head _)))))
    have hgd := (N4 _ (.head _)).1
    (refine' lower (to_con (outer := []) (frs₀ := []) (ld4 := [(44, tabObj #[])]) (ld7 := [(37, tabObj #[])]) K' F4 X' T' NT ?hk trivial ?hfs hcA hcB (.inl rfl) (.inl rfl) ?hdis hgd hzs hnl hn0 hdo ?_) ?d ?u ?hh ?hf ?hg; (case hf => exact rfl); (case hk => exact rfl); (case hh => exact rfl); (case hg => exact rfl); (case d => exact Nat.le_of_ble_eq_true rfl); (case u => exact Nat.le_of_ble_eq_true rfl))
    case hfs => exact fun q hq => nomatch hq
    case hdis =>
      intro q hq r hr
      rw [List.mem_singleton.mp hq, List.mem_singleton.mp hr]
      decide
    intro h5 tk5 oL frs5 R1 as1 hL5 SU5 hq5 keep5 g44 g37 hr1
    have F5 := fr_back F4 NT hL5 SU5 hq5 (fun b o e h1 h2 => keep5 b o e h1 (fun hm => nomatch hm) h2)
    have hgd5 := keep5 _ _ hgd (N4 _ (.head _)).2.1 (fun hm => nomatch hm) hdo
    clear F4 N4 NT keep5 hgd hL5 SU5 hq5 l3
    have N5 := nilN F5
    k_with "call ref" => k_dflt (refine halt ?_)
    k_steps
    show wpAny _ _ (call (.ref 240) [.ref dl]) _ _ _
    rename Fr _ _ _ _ => F6
    (refine' lower (du_con (outer := []) K' F6 X' T' ?hk hgd5 hzs hnl hn0 ?_) ?d ?u ?hh ?hf ?hg; (case hf => exact rfl); (case hk => exact rfl); (case hh => exact rfl); (case hg => exact rfl); (case d => exact Nat.le_of_ble_eq_true rfl); (case u => exact Nat.le_of_ble_eq_true rfl))
    intro h7 tk7 R2 as2 F7 K7 hr2
    have hr1' : Reads h7 (.ref R1) (lawData ns) as1 := Reads.keeps (fun b o e => K7 b o e (fun hm => nomatch hm)) hr1
    obtain ⟨ps4, e44⟩ := g44
    obtain ⟨ps7, e37⟩ := g37
    have g44' : GrownAt 44 h7 := ⟨ps4, K7 _ _ e44 (fun hm => nomatch hm)⟩
    have g37' : GrownAt 37 h7 := ⟨ps7, K7 _ _ e37 (fun hm => nomatch hm)⟩
    have heq : PyData.eqv (lawData ns) (lawData ns) = true := PySem.SeqAt.eqv_refl _ (law_lay ns)
    k_with "compareOp Eq ref ref" => k_dflt (refine halt ?_)
    k_steps
    show wpAny _ _ (compareOp _ _ _) _ _ _
    k_with_none
    refine eq_dataH hr1' hr2 (law_shaped ns) (law_shaped ns) (Nat.le_of_ble_eq_true rfl) ?_
    rw [heq]
    rename Shared.gens _ = #[] => hgens
    refine ⟨goodW_bool F7 hgens (fun cls => ?r1) ?r2 ?r3, g44', g37', trivial⟩
    case r1 => rfl
    case r2 => exact law_post _ _
    case r3 => rfl)
end
end

end Mine
theorem PySem.Challenge.cw_nq0271_01_holds : PySem.Challenge.rw_nq0271_01.Holds := by
  exact Mine.lw_try
