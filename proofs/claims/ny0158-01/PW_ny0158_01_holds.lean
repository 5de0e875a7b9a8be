import PyProof.Rows.All
import Wide.All
import OpenK.AllK
import Wide.FinOn
import PySem.Challenge.RW_ny0158_01
set_option Elab.async false

section
open PySem PySem.W PyProof.Rows
set_option Elab.async false
set_option maxRecDepth 100000 
set_option maxHeartbeats 8000000 
namespace Mine
noncomputable def hd.view_39 : Program := PySem.W.view PySem.Challenge.pw_ny0158_01 [1, 2, 3, 4, 5, 6, 7, 8, 9, 10, 11, 12, 13, 14, 15, 16, 17, 18, 19, 20, 21, 22, 23, 24, 25, 26, 27, 28, 29, 30, 32, 33, 36, 37, 38, 39, 40, 41, 42, 43, 44, 45, 46]
noncomputable def loose : List Str := [Str.ofString "_filemode_table", Str.ofString "_initial_missing", Str.ofString "reduce"]
theorem top39 (H : Hook) {d : DefRec} {kwd : List (Str × PySem.Expr)} (said : PySem.Challenge.rw_ny0158_01.row.wellSaid = true)
    (hdef : defOf hd.view_39 (OpenRow.toRowW PySem.Challenge.rw_ny0158_01.row).name = some (d, kwd)) (hp : (OpenRow.toRowW PySem.Challenge.rw_ny0158_01.row).prog.theDef (OpenRow.toRowW PySem.Challenge.rw_ny0158_01.row).name = some (d.params, d.body, d.scope)) (hk : kwWritten? d.params.kwonlyargs d.params.kw_defaults = some kwd)
    (hl : LeftO (OpenRow.toRowW PySem.Challenge.rw_ny0158_01.row).prog hd.view_39 loose (fun s => xlAt hd.view_39 [] s && recOk (RowW.records (OpenRow.toRowW PySem.Challenge.rw_ny0158_01.row)) s) H.obs H.val 2276)
    (hw : (OpenRow.toRowW PySem.Challenge.rw_ny0158_01.row).promised)
    (hc : WalkO hd.view_39 loose (XL hd.view_39 []) H.says (OpenRow.toRowW PySem.Challenge.rw_ny0158_01.row) d kwd fun f vs => PySem.call f vs) : PySem.Challenge.rw_ny0158_01.row.Holds :=
  holds_open (q := hd.view_39) (loose := loose) (Xt := fun s => xlAt hd.view_39 [] s && recOk (RowW.records (OpenRow.toRowW PySem.Challenge.rw_ny0158_01.row)) s) (XP := XL hd.view_39 []) (Yf := Hook.obs H) (Ya := Hook.val H) (YP := Hook.says H) (N := 2276) hl (Hook.of H) (Hook.keeps H) (fun s e => xl_of s (Bool.and_eq_true_iff.mp e).1) XL.keeps hdef hp hk (fun s e => recFacts_of (Bool.and_eq_true_iff.mp e).2) (by rfl) said (by decide +kernel) ⟨rfl, rfl, rfl, rfl, rfl, by decide +kernel⟩ hw hc
/-- the top's run, by the library's twins -/
noncomputable def ran (w : World) : Option Shared := ((PySem.W.Fast.tw10274390034422433532 PySem.W.Fast.tw14364793385576792824 (opening (OpenRow.toRowW PySem.Challenge.rw_ny0158_01.row).prog) w 2276 (start (opening (OpenRow.toRowW PySem.Challenge.rw_ny0158_01.row).prog)).1 (start (opening (OpenRow.toRowW PySem.Challenge.rw_ny0158_01.row).prog)).2).bind (fenceModules? (OpenRow.toRowW PySem.Challenge.rw_ny0158_01.row).prog)).bind fun s₀ => match s₀.heap.isNs mainGlobals && s₀.gens.size == 0 with
    | true => (PySem.W.Fast.tw14082659384304107361 PySem.W.Fast.tw14364793385576792824 (OpenRow.toRowW PySem.Challenge.rw_ny0158_01.row).prog w s₀.heap.objs.size (s₀.heap.nsMap mainGlobals "__annotations__") 2276 s₀ (topStub (OpenRow.toRowW PySem.Challenge.rw_ny0158_01.row).prog)).bind fun s₁ => match staticsOk (importedModules (OpenRow.toRowW PySem.Challenge.rw_ny0158_01.row).prog.main.body) s₀.heap s₁.heap && namesBound (OpenRow.toRowW PySem.Challenge.rw_ny0158_01.row).prog s₁.heap && gensDone s₁ && laidKept s₀.heap s₁.heap with
      | true => some s₁
      | false => none
    | false => none
theorem ran_of {tr : _} {ie : _} {tb : _} (e1 : @topRun = tr) (e2 : @importEnds = ie) (e4 : treeTable = tb) (w : World) : openEnds treeTable (OpenRow.toRowW PySem.Challenge.rw_ny0158_01.row).prog w 2276 = (((ie tb (opening (OpenRow.toRowW PySem.Challenge.rw_ny0158_01.row).prog) w 2276 (start (opening (OpenRow.toRowW PySem.Challenge.rw_ny0158_01.row).prog)).1 (start (opening (OpenRow.toRowW PySem.Challenge.rw_ny0158_01.row).prog)).2).bind (fenceModules? (OpenRow.toRowW PySem.Challenge.rw_ny0158_01.row).prog)).bind fun s₀ => match s₀.heap.isNs mainGlobals && s₀.gens.size == 0 with
    | true => (tr tb (OpenRow.toRowW PySem.Challenge.rw_ny0158_01.row).prog w s₀.heap.objs.size (s₀.heap.nsMap mainGlobals "__annotations__") 2276 s₀ (topStub (OpenRow.toRowW PySem.Challenge.rw_ny0158_01.row).prog)).bind fun s₁ => match staticsOk (importedModules (OpenRow.toRowW PySem.Challenge.rw_ny0158_01.row).prog.main.body) s₀.heap s₁.heap && namesBound (OpenRow.toRowW PySem.Challenge.rw_ny0158_01.row).prog s₁.heap && gensDone s₁ && laidKept s₀.heap s₁.heap with
      | true => some s₁
      | false => none
    | false => none) := by
  subst e1 e2 e4
  rfl
theorem ran_is (w : World) : openEnds treeTable (OpenRow.toRowW PySem.Challenge.rw_ny0158_01.row).prog w 2276 = ran w := ran_of PySem.W.Fast.te14082659384304107361 PySem.W.Fast.te10274390034422433532 PySem.W.Fast.te14364793385576792824 w
theorem top_a (w : World) : (ran w).map (fun s => (seen ((recsOf hd.view_39).map (·.name)) (ownsOf hd.view_39) [] { s with gens := #[] }, s.heap.bltView, s.heap.accountedOkI (importedModules (OpenRow.toRowW PySem.Challenge.rw_ny0158_01.row).prog.main.body), s.heap.isNs mainGlobals, s.heap.isNs builtinsNs)) = some (expectedOf hd.view_39, bltViewBooted, true, true, true) := by kernel_rfl
theorem top_b (w : World) : (ran w).map (fun s => (s.heap.keysOk (looseW hd.view_39 loose) ((recsOf hd.view_39).map (·.name)) ((litsOf hd.view_39).map (·.1)) ((clssOf hd.view_39 (looseW hd.view_39 loose)).map (·.name)), tablesOk hd.view_39 s.heap, (xlAt hd.view_39 [] s && recOk (RowW.records (OpenRow.toRowW PySem.Challenge.rw_ny0158_01.row)) s), s.gens.size == 0)) = some (true, true, true, true) := by kernel_rfl
theorem top_c (w : World) : (ran w).map (fun s => (tabsOk hd.view_39 s, pinSeenD hd.view_39 (drecsOf hd.view_39) s, plainSeenE hd.view_39 (looseW hd.view_39 loose) s, plainSeenD hd.view_39 loose s, wideSeen hd.view_39 s, clsSeenW hd.view_39 loose s)) = some (true, pinGoodD (drecsOf hd.view_39), plainGoodE hd.view_39 (looseW hd.view_39 loose), plainGoodD hd.view_39 loose, wideGood hd.view_39, clsGoodW hd.view_39 loose) := by kernel_rfl
theorem left39 (H : Hook) (h : ∀ w, (ran w).map H.obs = some (H.val w)) : LeftO (OpenRow.toRowW PySem.Challenge.rw_ny0158_01.row).prog hd.view_39 loose (fun s => (xlAt hd.view_39 [] s && recOk (RowW.records (OpenRow.toRowW PySem.Challenge.rw_ny0158_01.row)) s)) H.obs H.val 2276 := fun w => by
  rw [ran_is w]
  obtain ⟨s, hs, o⟩ := Option.map_eq_some_iff.mp (h w)
  have a := top_a w
  have b := top_b w
  have c := top_c w
  rw [hs] at a b c ⊢
  obtain ⟨a0, a⟩ := Prod.mk.inj (Option.some.inj a)
  obtain ⟨a1, a⟩ := Prod.mk.inj a
  obtain ⟨a3, a⟩ := Prod.mk.inj a
  obtain ⟨a4, a5⟩ := Prod.mk.inj a
  obtain ⟨b2, b⟩ := Prod.mk.inj (Option.some.inj b)
  obtain ⟨b6, b⟩ := Prod.mk.inj b
  obtain ⟨b7, b8⟩ := Prod.mk.inj b
  obtain ⟨c0, c⟩ := Prod.mk.inj (Option.some.inj c)
  obtain ⟨c1, c⟩ := Prod.mk.inj c
  obtain ⟨c2, c⟩ := Prod.mk.inj c
  obtain ⟨c3, c⟩ := Prod.mk.inj c
  obtain ⟨c4, c5⟩ := Prod.mk.inj c
  show some (openSeen hd.view_39 loose (importedModules (OpenRow.toRowW PySem.Challenge.rw_ny0158_01.row).prog.main.body) (fun s => (xlAt hd.view_39 [] s && recOk (RowW.records (OpenRow.toRowW PySem.Challenge.rw_ny0158_01.row)) s)) true s, H.obs s) = _
  rw [o]
  unfold openSeen openGood
  rw [show ((fun s => xlAt hd.view_39 [] s && recOk (RowW.records (OpenRow.toRowW PySem.Challenge.rw_ny0158_01.row)) s) : Shared → Bool) s = true from b7]
  rw [a0, a1, a3, a4, a5, b2, b6, if_pos rfl, b8, c0, c1, c2, c3, c4, c5]
  rfl
local macro_rules | `(tactic| k_head) => `(tactic| x_head)
local macro_rules | `(tactic| o_head $H) => `(tactic| refine top39 $H (by assumption) (by rfl) (by rfl) (by rfl) (left39 _ (fun w => by kernel_rfl)) ?hw ?hc)
open_top hd for PySem.Challenge.rw_ny0158_01
end Mine
end

section
open PySem PySem.W PySem.W.X PyProof.Rows
set_option Elab.async false
set_option maxRecDepth 100000 
namespace Mine
noncomputable abbrev prog := PySem.Challenge.pw_ny0158_01
/-- what stands around a call, level by level -/
noncomputable abbrev AL (k : Nat) : Around := { handled := none, depth := 600 - 10 * k, frames := none, guards := none, units := 2000 - 50 * k }
noncomputable abbrev A0 : Around := AL 0
/-- all the old stays -/
noncomputable def Keeps (h h' : Heap) : Prop := ∀ b o, h.get? b = some o → h'.get? b = some o
theorem Keeps.refl (h : Heap) : Keeps h h := fun _ _ e => e
theorem Keeps.trans {h h' h'' : Heap} (a : Keeps h h') (b : Keeps h' h'') : Keeps h h'' := fun x o e => b x o (a x o e)
theorem keeps_of_mem {h₀ h : Heap} {news : List (Addr × Obj)} (D : Mem h₀ h [] news) : Keeps h₀ h := fun b o e => D.keep b o e (by simp [away])
/-- what a call without harm gives back -/
noncomputable def Back (s : Shared) (P : Value → Heap → Prop) (v : Value) (s' : Shared) : Prop := ∃ h' tk, s' = { s with heap := h', toks := tk } ∧ Keeps s.heap h' ∧ P v h'
noncomputable def isI (n : Int) (v : Value) (_ : Heap) : Prop := ∃ t, v = .int n t
noncomputable def isB (b : Bool) (v : Value) (_ : Heap) : Prop := v = .bool b
noncomputable def isS (x : Str) (v : Value) (_ : Heap) : Prop := ∃ t, v = .str x t
noncomputable abbrev NoE : Value → Shared → Prop := fun _ _ => False
theorem in_AL {k : Nat} {Γ : Ctx} {A : Around} (h : Γ.In A) (h1 : A.handled = none) (h2 : A.depth ≤ 600 - 10 * k) (h3 : A.units ≤ 2000 - 50 * k) : Γ.In (AL k) :=
  ⟨h.1.trans h1, Nat.le_trans h.2.1 h2, (fun l e => (nomatch e)), (fun l e => (nomatch e)), Nat.le_trans h.2.2.2.2 h3⟩
theorem fit {k : Nat} {α : Type} {M : Model} {A : Around} {t : Sem α} {Q : α → Shared → Prop} {E : Value → Shared → Prop} {s : Shared} (h : wpAny M (AL k) t Q E s) (h1 : A.handled = none) (h2 : A.depth ≤ 600 - 10 * k) (h3 : A.units ≤ 2000 - 50 * k) : wpAny M A t Q E s :=
  fun Γ p hΓ => h Γ p (in_AL hΓ h1 h2 h3)
section
variable {w : World} {A : Around} {E : Value → Shared → Prop} {s : Shared} {K : Frag} {Q : Value → Shared → Prop}
/-- a def of the text is entered: its frame stands on the heap at the call -/
theorem enter {name qual : Str} {params : Arguments} {body : List Stmt} {scope : Scope} {dV kV doc pm cdv ct oc : Value} {an od : Option Addr} {osl : Array (Option Value)} {f : Addr} {args : List Value} {binds : List (Str × Value)}
    (X : K.In s.heap) (lim : s.heap.NoLimit)
    (ho : K.lookup f = some ⟨oc, od, .func (fnOf name qual params body scope dV kV doc pm an cdv ct), osl⟩) (hcd : codeIn K cdv qual = true) (hroom : A.depth < recursionLimit)
    (hbind : BindsTo s (fnOf name qual params body scope dV kV doc pm an cdv ct) ⟨args, []⟩ binds) (hloc : ∀ y ∈ binds, scope.names.lookup y.1 = some .local)
    (hcell : ∀ x ∈ scope.names, x.2 ≠ .cell)
    (h : ∀ L h₁, Fr s.heap L h₁ (fun y => binds.reverse.lookup y) → News s.heap L h₁ [] →
      wpAny (model prog w) (A.deeper (envOf qual scope L f cdv)) (execs body (envOf qual scope L f cdv)) (fun fl s' => Q (match fl with | .ret v => v | _ => .none) s') NoE
        { s with heap := h₁, toks := s.toks + binds.length })
    (hco : scope.isCoroutine = false := by rfl) (hgen : scope.isGenerator = false := by rfl) (hk : scope.kind = .function := by rfl) :
    wpAny (model prog w) A (call (.ref f) args) Q E s := by
  refine wpAny_call (codeAny_call_def (fd := fnOf name qual params body scope dV kV doc pm an cdv ct) (body := body) (binds := binds) hroom (X _ _ ho) rfl lim (codeRec_of X hcd) rfl hbind hcell hloc (fun h₁ hns hk₁ => ?_) hco hgen hk)
  exact wpAny_mono (h s.heap.objs.size h₁ ⟨hns, hk₁, Nat.le_refl _⟩ News.nil) (fun fl s' hl => hl) fun _ _ y => y.elim
/-- a proved call in a frame -/
theorem line {k : Nat} {h₀ : Heap} {L : Addr} {m : Str → Option Value} {news : List (Addr × Obj)} {t : Sem Value} {P : Value → Heap → Prop} (C : wpAny (model prog w) (AL k) t (Back s P) NoE s)
    (h1 : A.handled = none) (h2 : A.depth ≤ 600 - 10 * k) (h3 : A.units ≤ 2000 - 50 * k) (F : Fr h₀ L s.heap m) (N : News h₀ L s.heap news)
    (h : ∀ v h' tk, P v h' → Keeps s.heap h' → Fr h₀ L h' m → News h₀ L h' news → Q v { s with heap := h', toks := tk }) : wpAny (model prog w) A t Q E s := by
  refine wpAny_mono (fit C h1 h2 h3) (fun v s' hv => ?_) fun _ _ e => e.elim
  obtain ⟨h', tk, rfl, kp, hp⟩ := hv
  exact h v h' tk hp kp (F.kept kp) fun p hp => ⟨kp _ _ (N p hp).1, (N p hp).2⟩
theorem line_i {k : Nat} {h₀ : Heap} {L : Addr} {m : Str → Option Value} {news : List (Addr × Obj)} {t : Sem Value} {n : Int} (C : wpAny (model prog w) (AL k) t (Back s (isI n)) NoE s)
    (h1 : A.handled = none) (h2 : A.depth ≤ 600 - 10 * k) (h3 : A.units ≤ 2000 - 50 * k) (F : Fr h₀ L s.heap m) (N : News h₀ L s.heap news)
    (h : ∀ t' h' tk, Fr h₀ L h' m → News h₀ L h' news → Q (.int n t') { s with heap := h', toks := tk }) : wpAny (model prog w) A t Q E s :=
  line C h1 h2 h3 F N fun v h' tk hp _ F' N' => by obtain ⟨t', rfl⟩ := hp; exact h t' h' tk F' N'
theorem line_b {k : Nat} {h₀ : Heap} {L : Addr} {m : Str → Option Value} {news : List (Addr × Obj)} {t : Sem Value} {b : Bool} (C : wpAny (model prog w) (AL k) t (Back s (isB b)) NoE s)
    (h1 : A.handled = none) (h2 : A.depth ≤ 600 - 10 * k) (h3 : A.units ≤ 2000 - 50 * k) (F : Fr h₀ L s.heap m) (N : News h₀ L s.heap news)
    (h : ∀ h' tk, Fr h₀ L h' m → News h₀ L h' news → Q (.bool b) { s with heap := h', toks := tk }) : wpAny (model prog w) A t Q E s :=
  line C h1 h2 h3 F N fun v h' tk hp _ F' N' => by obtain rfl := hp; exact h h' tk F' N'
theorem line_s {k : Nat} {h₀ : Heap} {L : Addr} {m : Str → Option Value} {news : List (Addr × Obj)} {t : Sem Value} {x : Str} (C : wpAny (model prog w) (AL k) t (Back s (isS x)) NoE s)
    (h1 : A.handled = none) (h2 : A.depth ≤ 600 - 10 * k) (h3 : A.units ≤ 2000 - 50 * k) (F : Fr h₀ L s.heap m) (N : News h₀ L s.heap news)
    (h : ∀ t' h' tk, Fr h₀ L h' m → News h₀ L h' news → Q (.str x t') { s with heap := h', toks := tk }) : wpAny (model prog w) A t Q E s :=
  line C h1 h2 h3 F N fun v h' tk hp _ F' N' => by obtain ⟨t', rfl⟩ := hp; exact h t' h' tk F' N'
end
end Mine
end

section
open PySem PySem.W PyProof.Rows
set_option Elab.async false
set_option maxRecDepth 100000
set_option maxHeartbeats 1000000
set_option linter.unusedVariables false
namespace Mine
/-- a plain expression of whole numbers, and what it comes to -/
inductive EvI (env : Env) (m : Str → Option Value) : PySem.Expr → Int → Prop
  | name {x : Str} {p : Pos} {i : Int} : env.kindOf x = some .local → (x == ("__debug__" : Str)) = false → (∃ t, m x = some (.int i t)) → EvI env m (.Name x p) i
  | const {i : Int} {k : Nat} {p : Pos} : EvI env m (.Constant (.int i) k p) i
  | add {a b : PySem.Expr} {i j : Int} {p : Pos} : EvI env m a i → EvI env m b j → EvI env m (.BinOp a .Add b p) (i + j)
  | mul {a b : PySem.Expr} {i j : Int} {p : Pos} : EvI env m a i → EvI env m b j → IntMulOk i j → EvI env m (.BinOp a .Mult b p) (i * j)
  | fdiv {a b : PySem.Expr} {i j : Int} {p : Pos} : EvI env m a i → EvI env m b j → j ≠ 0 → j.natAbs < 1073741824 → EvI env m (.BinOp a .FloorDiv b p) (i.fdiv j)
  | fmod {a b : PySem.Expr} {i j : Int} {p : Pos} : EvI env m a i → EvI env m b j → j ≠ 0 → EvI env m (.BinOp a .Mod b p) (i.fmod j)
  | pow {a b : PySem.Expr} {i j : Int} {p : Pos} : EvI env m a i → EvI env m b j → 0 ≤ j → j ≤ 1000000 → i.natAbs < 2 ^ 64 → EvI env m (.BinOp a .Pow b p) (i ^ j.toNat)
section
variable {w : World} {A : Around} {E : Value → Shared → Prop} {s : Shared} {env : Env} {m : Str → Option Value} {h₀ : Heap} {news : List (Addr × Obj)}
theorem EvI.eval (hk : env.scope.kind = .function) {e : PySem.Expr} {i : Int} (ev : EvI env m e i) : ∀ {s : Shared} {Q : Value → Shared → Prop}, s.heap.Ns env.locals m → (∀ t tk, Q (.int i t) { s with toks := tk }) → wpAny (model prog w) A (PySem.eval e env) Q E s := by
  induction ev with
  | name hx hd hv =>
    intro s Q n h
    obtain ⟨t, hv⟩ := hv
    exact wpAny_Name (wpAny_loadName_local hk hx n hv (h _ _)) hd
  | const => intro s Q n h; exact wpAny_Constant_int (h _ _)
  | add _ _ ih1 ih2 => intro s Q n h; exact wpAny_BinOp (ih1 n fun t tk => ih2 (s := { s with toks := tk }) n fun u tk2 => PyProof.Rows.add_int (h _ _))
  | mul _ _ hm ih1 ih2 => intro s Q n h; exact wpAny_BinOp (ih1 n fun t tk => ih2 (s := { s with toks := tk }) n fun u tk2 => P.mul_int (h _ _) hm)
  | fdiv _ _ h1 h2 ih1 ih2 => intro s Q n h; exact wpAny_BinOp (ih1 n fun t tk => ih2 (s := { s with toks := tk }) n fun u tk2 => PyProof.Rows.floordiv_int h1 (h _ _) (.inl (PyProof.noPylong_small h2)))
  | fmod _ _ h1 ih1 ih2 => intro s Q n h; exact wpAny_BinOp (ih1 n fun t tk => ih2 (s := { s with toks := tk }) n fun u tk2 => PyProof.Rows.mod_int h1 (h _ _))
  | pow _ _ h1 h2 h3 ih1 ih2 => intro s Q n h; exact wpAny_BinOp (ih1 n fun t tk => ih2 (s := { s with toks := tk }) n fun u tk2 => PyProof.Rows.pow_int_small h1 h2 h3 (h _ _))
/-- a name is stored -/
theorem store_fr {x : Str} {v : Value} {Q : Unit → Shared → Prop} (hk : env.scope.kind = .function) (hx : env.kindOf x = some .local) (F : Fr h₀ env.locals s.heap m) (N : News h₀ env.locals s.heap news)
    (h : ∀ h' tk, Fr h₀ env.locals h' (fun y => if y = x then some v else m y) → News h₀ env.locals h' news → Q () { s with heap := h', toks := tk }) : wpAny (model prog w) A (storeName env x v) Q E s := by
  have hp : (env.scope.kind == .class || (env.scope.kind == .module && env.locals != env.globals)) = false := by rw [hk]; rfl
  exact wpAny_storeName_local hx F.ns (fun h' n' sb => h h' _ (F.set n' sb) fun p hp => ⟨(sb.2 _ (N p hp).2.1).trans (N p hp).1, (N p hp).2⟩) hp
theorem assign_int {x : Str} {px pos : Pos} {e : PySem.Expr} {i : Int} {Q : Flow → Shared → Prop} (hk : env.scope.kind = .function) (hx : env.kindOf x = some .local) (ev : EvI env m e i) (F : Fr h₀ env.locals s.heap m) (N : News h₀ env.locals s.heap news)
    (hs : swapsWith e (some (.Name x px)) pos.line env = pure false)
    (h : ∀ h' t tk, Fr h₀ env.locals h' (fun y => if y = x then some (.int i t) else m y) → News h₀ env.locals h' news → Q .next { s with heap := h', toks := tk }) : wpAny (model prog w) A (exec (.Assign [.Name x px] e pos) env) Q E s :=
  wpAny_Assign_Name (ev.eval hk F.ns fun t tk => store_fr (s := { s with toks := tk }) hk hx F N fun h' tk2 F' N' => h h' t tk2 F' N') hs
theorem assign_at {s₀ : Shared} {hp : Heap} {tk : Nat} {x : Str} {px pos : Pos} {e : PySem.Expr} {rest : List Stmt} {i : Int} {Q : Flow → Shared → Prop} (hk : env.scope.kind = .function) (hx : env.kindOf x = some .local) (ev : EvI env m e i) (F : Fr h₀ env.locals hp m) (N : News h₀ env.locals hp news)
    (hs : swapsWith e (some (.Name x px)) pos.line env = pure false)
    (h : ∀ h' t tk, Fr h₀ env.locals h' (fun y => if y = x then some (.int i t) else m y) → News h₀ env.locals h' news → wpAny (model prog w) A (execs rest env) Q E { s₀ with heap := h', toks := tk }) : wpAny (model prog w) A (execs (.Assign [.Name x px] e pos :: rest) env) Q E { s₀ with heap := hp, toks := tk } :=
  wpAny_execs_cons (assign_int (s := { s₀ with heap := hp, toks := tk }) hk hx ev F N hs fun h' t tk' F' N' => h h' t tk' F' N')
end
end Mine
end

section
open PySem PySem.W PyProof.Rows
set_option Elab.async false
set_option maxRecDepth 100000 
set_option maxHeartbeats 4000000
namespace Mine
/-- the number of a mode -/
noncomputable def lawNumber (m : Int) : Int :=
  ((([1, 6, 3, 1, 4, 1, 2, 1, 0, 1, 5, 1, 7, 1, 1, 1].getD (m.fdiv 4096).toNat 0 * 16 + ((m.fdiv 64).fmod 8).fdiv 4 * 8 + (((m.fdiv 64).fmod 8).fdiv 2).fmod 2 * 4 + ((m.fdiv 64).fmod 8).fmod 2 * 2 +
      ((m.fdiv 64).fmod 8 + ((m.fdiv 512).fdiv 4).fmod 2).fmod 2) * 16 + ((m.fdiv 8).fmod 8).fdiv 4 * 8 + (((m.fdiv 8).fmod 8).fdiv 2).fmod 2 * 4 + ((m.fdiv 8).fmod 8).fmod 2 * 2 +
      ((m.fdiv 8).fmod 8 + ((m.fdiv 512).fdiv 2).fmod 2).fmod 2) * 16 + ((m.fdiv 1).fmod 8).fdiv 4 * 8 + (((m.fdiv 1).fmod 8).fdiv 2).fmod 2 * 4 + ((m.fdiv 1).fmod 8).fmod 2 * 2 +
      ((m.fdiv 1).fmod 8 + ((m.fdiv 512).fdiv 1).fmod 2).fmod 2)
/-- the twelve bits out of the number -/
noncomputable def lawRights (k : Int) : Int :=
  (((0 * 2 + (((k.fdiv 256).fmod 16) + ((((k.fdiv 256).fmod 16).fdiv 2).fmod 2)).fmod 2) * 2 + (((k.fdiv 16).fmod 16) + ((((k.fdiv 16).fmod 16).fdiv 2).fmod 2)).fmod 2) * 2 + (((k.fdiv 1).fmod 16) + ((((k.fdiv 1).fmod 16).fdiv 2).fmod 2)).fmod 2) * 512 + (((0 * 8 + ((k.fdiv 256).fmod 16).fdiv 8 * 4 + (((k.fdiv 256).fmod 16).fdiv 4).fmod 2 * 2 + ((((k.fdiv 256).fmod 16).fdiv 2).fmod 2)) * 8 + ((k.fdiv 16).fmod 16).fdiv 8 * 4 + (((k.fdiv 16).fmod 16).fdiv 4).fmod 2 * 2 + ((((k.fdiv 16).fmod 16).fdiv 2).fmod 2)) * 8 + ((k.fdiv 1).fmod 16).fdiv 8 * 4 + (((k.fdiv 1).fmod 16).fdiv 4).fmod 2 * 2 + ((((k.fdiv 1).fmod 16).fdiv 2).fmod 2))
section
variable {w : World} {s : Shared} {mean : ExcName → Option Value} {mg mb : Str → Option Value}
theorem back_i {h' : Heap} {tk : Nat} {t : Tok} {n k : Int} (e : n = k) (F : Keeps s.heap h') : Back s (isI k) (.int n t) { s with heap := h', toks := tk } := ⟨_, _, rfl, F, t, by rw [e]⟩
noncomputable def Held0 (P : Prop) : Prop := P
theorem held0_of {P : Prop} (h : Held0 P) : P := h
theorem c_number (X : (hd.heap_39 w.params).In s.heap) (T : Top hd.view_39 loose mean mg mb s.heap) {m : Int} {t : Tok} (h0 : 0 ≤ m) (h1 : m < 65536) :
    wpAny (model prog w) A0 (call (.ref 147) [.int m t]) (Back s (isI (lawNumber m))) NoE s := by
  have _ : (fun (_ : OpenLaw) (_ : Params → Frag) => True) PySem.Challenge.rw_ny0158_01 hd.heap_39 := by w_top off; k_fill; trivial
  refine enter X T.nolimit (by k_is) (by k_is) (by decide) (BindsTo.of_eq rfl) (locs rfl) (by decide) ?_
  intro L' h' F' N'
  k_with_none
  k_with "whole numbers" => (
    refine' assign_at (s₀ := s) ?k1 ?k2 ?k3 ?k4 ?k5 ?k6 ?_
    (case k4 => assumption)
    (case k5 => assumption)
    (case k1 => rfl)
    (case k2 => rfl)
    (case k3 => repeat' (first
      | exact EvI.const
      | exact EvI.name rfl rfl ⟨_, rfl⟩
      | refine' EvI.add ?_ ?_
      | refine' EvI.mul ?_ ?_ ?_
      | refine' EvI.fdiv ?_ ?_ ?_ ?_
      | refine' EvI.fmod ?_ ?_ ?_
      | refine' EvI.pow ?_ ?_ ?_ ?_ ?_
      | exact IntMulOk.of_right (by decide)
      | decide))
    (case k6 => with_unfolding_all rfl)
    intro h' t' tk' F' N')
  k_with "execs cons" => ((show wpAny _ _ (execs (Stmt.Assign [Expr.Name (Str.ofString "digit") _] _ _ :: _) _) _ _ _); refine held0_of ?_)
  k_steps
  (unfold Held0; k_extra "whole numbers"; k_extra "whole numbers"; k_extra "whole numbers"; k_steps)
  (unfold Held0; k_extra "whole numbers"; k_extra "whole numbers"; k_extra "whole numbers"; k_steps)
  (unfold Held0; k_extra "whole numbers"; k_extra "whole numbers"; k_extra "whole numbers"; k_steps)
  refine back_i ?_ (Fr.keep (by assumption))
  rfl
theorem c_rights (X : (hd.heap_39 w.params).In s.heap) (T : Top hd.view_39 loose mean mg mb s.heap) {k : Int} {t : Tok} (h0 : 0 ≤ k) (h1 : k < 32768) :
    wpAny (model prog w) A0 (call (.ref 168) [.int k t]) (Back s (isI (lawRights k))) NoE s := by
  refine enter X T.nolimit (by k_is) (by k_is) (by decide) (BindsTo.of_eq rfl) (locs rfl) (by decide) ?_
  intro L' h' F' N'
  k_with_none
  k_with "whole numbers" => (
    refine' assign_at (s₀ := s) ?k1 ?k2 ?k3 ?k4 ?k5 ?k6 ?_
    (case k4 => assumption)
    (case k5 => assumption)
    (case k1 => rfl)
    (case k2 => rfl)
    (case k3 => repeat' (first
      | exact EvI.const
      | exact EvI.name rfl rfl ⟨_, rfl⟩
      | refine' EvI.add ?_ ?_
      | refine' EvI.mul ?_ ?_ ?_
      | refine' EvI.fdiv ?_ ?_ ?_ ?_
      | refine' EvI.fmod ?_ ?_ ?_
      | refine' EvI.pow ?_ ?_ ?_ ?_ ?_
      | exact IntMulOk.of_right (by decide)
      | decide))
    (case k6 => with_unfolding_all rfl)
    intro h' t' tk' F' N')
  k_with "execs cons" => ((show wpAny _ _ (execs (Stmt.Assign [Expr.Name (Str.ofString "part") _] _ _ :: _) _) _ _ _); refine held0_of ?_)
  k_steps
  (unfold Held0; k_extra "whole numbers"; k_extra "whole numbers"; k_extra "whole numbers"; k_extra "whole numbers"; k_steps)
  (unfold Held0; k_extra "whole numbers"; k_extra "whole numbers"; k_extra "whole numbers"; k_extra "whole numbers"; k_steps)
  (unfold Held0; k_extra "whole numbers"; k_extra "whole numbers"; k_extra "whole numbers"; k_extra "whole numbers"; k_steps)
  refine back_i ?_ (Fr.keep (by assumption))
  rfl
theorem c_imode (X : (hd.heap_39 w.params).In s.heap) (T : Top hd.view_39 loose mean mg mb s.heap) {m : Int} {t : Tok} :
    wpAny (model prog w) A0 (call (.ref 21) [.int m t]) (Back s (isI (Builtin.bitAnd m 4095))) NoE s := by
  refine enter X T.nolimit (by k_is) (by k_is) (by decide) (BindsTo.of_eq rfl) (locs rfl) (by decide) ?_
  intro L' h' F' N'
  k_with_none
  k_steps
  exact back_i rfl (Fr.keep (by assumption))
theorem c_ifmt (X : (hd.heap_39 w.params).In s.heap) (T : Top hd.view_39 loose mean mg mb s.heap) {m : Int} {t : Tok} :
    wpAny (model prog w) A0 (call (.ref 28) [.int m t]) (Back s (isI (Builtin.bitAnd m 61440))) NoE s := by
  refine enter X T.nolimit (by k_is) (by k_is) (by decide) (BindsTo.of_eq rfl) (locs rfl) (by decide) ?_
  intro L' h' F' N'
  k_steps
  exact back_i rfl (Fr.keep (by assumption))
end
end Mine
end

section
open PySem PySem.W PyProof.Rows
set_option Elab.async false
set_option maxRecDepth 100000 
set_option maxHeartbeats 4000000
namespace Mine
section
variable {w : World} {s : Shared} {mean : ExcName → Option Value} {mg mb : Str → Option Value}
theorem back_b {h' : Heap} {tk : Nat} {b c : Bool} (e : b = c) (F : Keeps s.heap h') : Back s (isB c) (.bool b) { s with heap := h', toks := tk } := ⟨_, _, rfl, F, by rw [e]; rfl⟩
theorem fill9 : (fun (_ : OpenLaw) (_ : Params → Frag) => True) PySem.Challenge.rw_ny0158_01 hd.heap_39 := by w_top off; k_fill; trivial
theorem c_isdir (X : (hd.heap_39 w.params).In s.heap) (T : Top hd.view_39 loose mean mg mb s.heap) {m : Int} {t : Tok} :
    wpAny (model prog w) (AL 1) (call (.ref 35) [.int m t]) (Back s (isB (Builtin.bitAnd m 61440 == 16384))) NoE s := by
  refine enter X T.nolimit (by k_is) (by k_is) (by decide) (BindsTo.of_eq rfl) (locs rfl) (by decide) ?_
  intro L' h' F' N'
  k_with_none
  k_with "call ref" => (((with_reducible show wpAny _ _ (call (Value.ref 28) [Value.int _ _]) _ _ _); refine' line_i (c_ifmt ?k1 ?k2) rfl (Nat.le_of_ble_eq_true rfl) (Nat.le_of_ble_eq_true rfl) ?k3 ?k4 ?_; (case k1 => exact Frag.In.keeps (by assumption) (Fr.keep (by assumption))); (case k2 => exact Top.keeps (by assumption) (Fr.keep (by assumption))); (case k3 => assumption); (case k4 => assumption); intro t' h' tk' F' N'))
  k_steps
  exact back_b rfl (Fr.keep (by assumption))
theorem c_ischr (X : (hd.heap_39 w.params).In s.heap) (T : Top hd.view_39 loose mean mg mb s.heap) {m : Int} {t : Tok} :
    wpAny (model prog w) (AL 1) (call (.ref 42) [.int m t]) (Back s (isB (Builtin.bitAnd m 61440 == 8192))) NoE s := by
  refine enter X T.nolimit (by k_is) (by k_is) (by decide) (BindsTo.of_eq rfl) (locs rfl) (by decide) ?_
  intro L' h' F' N'
  k_with_none
  k_with "call ref" => (((with_reducible show wpAny _ _ (call (Value.ref 28) [Value.int _ _]) _ _ _); refine' line_i (c_ifmt ?k1 ?k2) rfl (Nat.le_of_ble_eq_true rfl) (Nat.le_of_ble_eq_true rfl) ?k3 ?k4 ?_; (case k1 => exact Frag.In.keeps (by assumption) (Fr.keep (by assumption))); (case k2 => exact Top.keeps (by assumption) (Fr.keep (by assumption))); (case k3 => assumption); (case k4 => assumption); intro t' h' tk' F' N'))
  k_steps
  exact back_b rfl (Fr.keep (by assumption))
theorem c_isblk (X : (hd.heap_39 w.params).In s.heap) (T : Top hd.view_39 loose mean mg mb s.heap) {m : Int} {t : Tok} :
    wpAny (model prog w) (AL 1) (call (.ref 49) [.int m t]) (Back s (isB (Builtin.bitAnd m 61440 == 24576))) NoE s := by
  refine enter X T.nolimit (by k_is) (by k_is) (by decide) (BindsTo.of_eq rfl) (locs rfl) (by decide) ?_
  intro L' h' F' N'
  k_with_none
  k_with "call ref" => (((with_reducible show wpAny _ _ (call (Value.ref 28) [Value.int _ _]) _ _ _); refine' line_i (c_ifmt ?k1 ?k2) rfl (Nat.le_of_ble_eq_true rfl) (Nat.le_of_ble_eq_true rfl) ?k3 ?k4 ?_; (case k1 => exact Frag.In.keeps (by assumption) (Fr.keep (by assumption))); (case k2 => exact Top.keeps (by assumption) (Fr.keep (by assumption))); (case k3 => assumption); (case k4 => assumption); intro t' h' tk' F' N'))
  k_steps
  exact back_b rfl (Fr.keep (by assumption))
theorem c_isreg (X : (hd.heap_39 w.params).In s.heap) (T : Top hd.view_39 loose mean mg mb s.heap) {m : Int} {t : Tok} :
    wpAny (model prog w) (AL 1) (call (.ref 56) [.int m t]) (Back s (isB (Builtin.bitAnd m 61440 == 32768))) NoE s := by
  refine enter X T.nolimit (by k_is) (by k_is) (by decide) (BindsTo.of_eq rfl) (locs rfl) (by decide) ?_
  intro L' h' F' N'
  k_with_none
  k_with "call ref" => (((with_reducible show wpAny _ _ (call (Value.ref 28) [Value.int _ _]) _ _ _); refine' line_i (c_ifmt ?k1 ?k2) rfl (Nat.le_of_ble_eq_true rfl) (Nat.le_of_ble_eq_true rfl) ?k3 ?k4 ?_; (case k1 => exact Frag.In.keeps (by assumption) (Fr.keep (by assumption))); (case k2 => exact Top.keeps (by assumption) (Fr.keep (by assumption))); (case k3 => assumption); (case k4 => assumption); intro t' h' tk' F' N'))
  k_steps
  exact back_b rfl (Fr.keep (by assumption))
theorem c_isfifo (X : (hd.heap_39 w.params).In s.heap) (T : Top hd.view_39 loose mean mg mb s.heap) {m : Int} {t : Tok} :
    wpAny (model prog w) (AL 1) (call (.ref 63) [.int m t]) (Back s (isB (Builtin.bitAnd m 61440 == 4096))) NoE s := by
  refine enter X T.nolimit (by k_is) (by k_is) (by decide) (BindsTo.of_eq rfl) (locs rfl) (by decide) ?_
  intro L' h' F' N'
  k_with_none
  k_with "call ref" => (((with_reducible show wpAny _ _ (call (Value.ref 28) [Value.int _ _]) _ _ _); refine' line_i (c_ifmt ?k1 ?k2) rfl (Nat.le_of_ble_eq_true rfl) (Nat.le_of_ble_eq_true rfl) ?k3 ?k4 ?_; (case k1 => exact Frag.In.keeps (by assumption) (Fr.keep (by assumption))); (case k2 => exact Top.keeps (by assumption) (Fr.keep (by assumption))); (case k3 => assumption); (case k4 => assumption); intro t' h' tk' F' N'))
  k_steps
  exact back_b rfl (Fr.keep (by assumption))
theorem c_islnk (X : (hd.heap_39 w.params).In s.heap) (T : Top hd.view_39 loose mean mg mb s.heap) {m : Int} {t : Tok} :
    wpAny (model prog w) (AL 1) (call (.ref 70) [.int m t]) (Back s (isB (Builtin.bitAnd m 61440 == 40960))) NoE s := by
  refine enter X T.nolimit (by k_is) (by k_is) (by decide) (BindsTo.of_eq rfl) (locs rfl) (by decide) ?_
  intro L' h' F' N'
  k_with_none
  k_with "call ref" => (((with_reducible show wpAny _ _ (call (Value.ref 28) [Value.int _ _]) _ _ _); refine' line_i (c_ifmt ?k1 ?k2) rfl (Nat.le_of_ble_eq_true rfl) (Nat.le_of_ble_eq_true rfl) ?k3 ?k4 ?_; (case k1 => exact Frag.In.keeps (by assumption) (Fr.keep (by assumption))); (case k2 => exact Top.keeps (by assumption) (Fr.keep (by assumption))); (case k3 => assumption); (case k4 => assumption); intro t' h' tk' F' N'))
  k_steps
  exact back_b rfl (Fr.keep (by assumption))
theorem c_issock (X : (hd.heap_39 w.params).In s.heap) (T : Top hd.view_39 loose mean mg mb s.heap) {m : Int} {t : Tok} :
    wpAny (model prog w) (AL 1) (call (.ref 77) [.int m t]) (Back s (isB (Builtin.bitAnd m 61440 == 49152))) NoE s := by
  refine enter X T.nolimit (by k_is) (by k_is) (by decide) (BindsTo.of_eq rfl) (locs rfl) (by decide) ?_
  intro L' h' F' N'
  k_with_none
  k_with "call ref" => (((with_reducible show wpAny _ _ (call (Value.ref 28) [Value.int _ _]) _ _ _); refine' line_i (c_ifmt ?k1 ?k2) rfl (Nat.le_of_ble_eq_true rfl) (Nat.le_of_ble_eq_true rfl) ?k3 ?k4 ?_; (case k1 => exact Frag.In.keeps (by assumption) (Fr.keep (by assumption))); (case k2 => exact Top.keeps (by assumption) (Fr.keep (by assumption))); (case k3 => assumption); (case k4 => assumption); intro t' h' tk' F' N'))
  k_steps
  exact back_b rfl (Fr.keep (by assumption))
/-- a new list -/
noncomputable def isL (s : Shared) (items : List Value) (v : Value) (h' : Heap) : Prop := ∃ D n, v = .ref D ∧ h'.get? D = some (listOf items.toArray n) ∧ s.heap.get? D = none
end
section
variable {w : World} {s : Shared} {mean : ExcName → Option Value} {mg mb : Str → Option Value}
theorem back_l {h' : Heap} {tk D n : Nat} {L : Addr} {m : Str → Option Value} {items : List Value} (F : Fr s.heap L h' m) (N : News s.heap L h' [(D, listOf items.toArray n)]) : Back s (isL s items) (.ref D) { s with heap := h', toks := tk } :=
  ⟨_, _, rfl, F.keep, D, n, rfl, (N _ (.head _)).1, (N _ (.head _)).2.2⟩
noncomputable def fmtIs (m c : Int) : Value := .bool (Builtin.bitAnd m 61440 == c)
theorem c_asked (X : (hd.heap_39 w.params).In s.heap) (T : Top hd.view_39 loose mean mg mb s.heap) {m : Int} {t : Tok} :
    wpAny (model prog w) (AL 2) (call (.ref 196) [.int m t]) (Back s (isL s [fmtIs m 32768, fmtIs m 24576, fmtIs m 8192, fmtIs m 16384, fmtIs m 40960, fmtIs m 4096, fmtIs m 49152])) NoE s := by
  refine enter X T.nolimit (by k_is) (by k_is) (by decide) (BindsTo.of_eq rfl) (locs rfl) (by decide) ?_
  intro L' h' F' N'
  k_with_none
  k_with "call ref" => (((with_reducible show wpAny _ _ (call (Value.ref 28) [Value.int _ _]) _ _ _); refine' line_i (c_ifmt ?k1 ?k2) rfl (Nat.le_of_ble_eq_true rfl) (Nat.le_of_ble_eq_true rfl) ?k3 ?k4 ?_; (case k1 => exact Frag.In.keeps (by assumption) (Fr.keep (by assumption))); (case k2 => exact Top.keeps (by assumption) (Fr.keep (by assumption))); (case k3 => assumption); (case k4 => assumption); intro t' h' tk' F' N'))
  k_with "call ref" => (((with_reducible show wpAny _ _ (call (Value.ref 35) [Value.int _ _]) _ _ _); refine' line_b (c_isdir ?k1 ?k2) rfl (Nat.le_of_ble_eq_true rfl) (Nat.le_of_ble_eq_true rfl) ?k3 ?k4 ?_; (case k1 => exact Frag.In.keeps (by assumption) (Fr.keep (by assumption))); (case k2 => exact Top.keeps (by assumption) (Fr.keep (by assumption))); (case k3 => assumption); (case k4 => assumption); intro h' tk' F' N'))
  k_with "call ref" => (((with_reducible show wpAny _ _ (call (Value.ref 42) [Value.int _ _]) _ _ _); refine' line_b (c_ischr ?k1 ?k2) rfl (Nat.le_of_ble_eq_true rfl) (Nat.le_of_ble_eq_true rfl) ?k3 ?k4 ?_; (case k1 => exact Frag.In.keeps (by assumption) (Fr.keep (by assumption))); (case k2 => exact Top.keeps (by assumption) (Fr.keep (by assumption))); (case k3 => assumption); (case k4 => assumption); intro h' tk' F' N'))
  k_with "call ref" => (((with_reducible show wpAny _ _ (call (Value.ref 49) [Value.int _ _]) _ _ _); refine' line_b (c_isblk ?k1 ?k2) rfl (Nat.le_of_ble_eq_true rfl) (Nat.le_of_ble_eq_true rfl) ?k3 ?k4 ?_; (case k1 => exact Frag.In.keeps (by assumption) (Fr.keep (by assumption))); (case k2 => exact Top.keeps (by assumption) (Fr.keep (by assumption))); (case k3 => assumption); (case k4 => assumption); intro h' tk' F' N'))
  k_with "call ref" => (((with_reducible show wpAny _ _ (call (Value.ref 56) [Value.int _ _]) _ _ _); refine' line_b (c_isreg ?k1 ?k2) rfl (Nat.le_of_ble_eq_true rfl) (Nat.le_of_ble_eq_true rfl) ?k3 ?k4 ?_; (case k1 => exact Frag.In.keeps (by assumption) (Fr.keep (by assumption))); (case k2 => exact Top.keeps (by assumption) (Fr.keep (by assumption))); (case k3 => assumption); (case k4 => assumption); intro h' tk' F' N'))
  k_with "call ref" => (((with_reducible show wpAny _ _ (call (Value.ref 63) [Value.int _ _]) _ _ _); refine' line_b (c_isfifo ?k1 ?k2) rfl (Nat.le_of_ble_eq_true rfl) (Nat.le_of_ble_eq_true rfl) ?k3 ?k4 ?_; (case k1 => exact Frag.In.keeps (by assumption) (Fr.keep (by assumption))); (case k2 => exact Top.keeps (by assumption) (Fr.keep (by assumption))); (case k3 => assumption); (case k4 => assumption); intro h' tk' F' N'))
  k_with "call ref" => (((with_reducible show wpAny _ _ (call (Value.ref 70) [Value.int _ _]) _ _ _); refine' line_b (c_islnk ?k1 ?k2) rfl (Nat.le_of_ble_eq_true rfl) (Nat.le_of_ble_eq_true rfl) ?k3 ?k4 ?_; (case k1 => exact Frag.In.keeps (by assumption) (Fr.keep (by assumption))); (case k2 => exact Top.keeps (by assumption) (Fr.keep (by assumption))); (case k3 => assumption); (case k4 => assumption); intro h' tk' F' N'))
  k_with "call ref" => (((with_reducible show wpAny _ _ (call (Value.ref 77) [Value.int _ _]) _ _ _); refine' line_b (c_issock ?k1 ?k2) rfl (Nat.le_of_ble_eq_true rfl) (Nat.le_of_ble_eq_true rfl) ?k3 ?k4 ?_; (case k1 => exact Frag.In.keeps (by assumption) (Fr.keep (by assumption))); (case k2 => exact Top.keeps (by assumption) (Fr.keep (by assumption))); (case k3 => assumption); (case k4 => assumption); intro h' tk' F' N'))
  k_steps
  exact back_l (by assumption) (by assumption)
noncomputable def signsL : List Str := [Str.ofString "-?bcdlps", Str.ofString "-r", Str.ofString "-w", Str.ofString "-Ssx", Str.ofString "-r", Str.ofString "-w", Str.ofString "-Ssx", Str.ofString "-r", Str.ofString "-w", Str.ofString "-Ttx"]
noncomputable def strOf : Value → Str
  | .str x _ => x
  | _ => ⟨#[]⟩
/-- texts, whatever their tokens -/
noncomputable def StrsAre (vs : List Value) (xs : List Str) : Prop := ∃ ts : List Tok, vs = (xs.zip ts).map (fun p => Value.str p.1 p.2) ∧ ts.length = xs.length
theorem c_signs (X : (hd.heap_39 w.params).In s.heap) (T : Top hd.view_39 loose mean mg mb s.heap) :
    wpAny (model prog w) A0 (call (.ref 140) []) (Back s (fun v h' => ∃ vs : List Value, StrsAre vs signsL ∧ isL s vs v h')) NoE s := by
  refine enter X T.nolimit (by k_is) (by k_is) (by decide) (BindsTo.of_eq rfl) (locs rfl) (by decide) ?_
  intro L' h' F' N'
  k_with_none
  k_with "call ref" => (((with_reducible show wpAny _ _ (call (Value.ref 28) [Value.int _ _]) _ _ _); refine' line_i (c_ifmt ?k1 ?k2) rfl (Nat.le_of_ble_eq_true rfl) (Nat.le_of_ble_eq_true rfl) ?k3 ?k4 ?_; (case k1 => exact Frag.In.keeps (by assumption) (Fr.keep (by assumption))); (case k2 => exact Top.keeps (by assumption) (Fr.keep (by assumption))); (case k3 => assumption); (case k4 => assumption); intro t' h' tk' F' N'))
  k_with "call ref" => (((with_reducible show wpAny _ _ (call (Value.ref 35) [Value.int _ _]) _ _ _); refine' line_b (c_isdir ?k1 ?k2) rfl (Nat.le_of_ble_eq_true rfl) (Nat.le_of_ble_eq_true rfl) ?k3 ?k4 ?_; (case k1 => exact Frag.In.keeps (by assumption) (Fr.keep (by assumption))); (case k2 => exact Top.keeps (by assumption) (Fr.keep (by assumption))); (case k3 => assumption); (case k4 => assumption); intro h' tk' F' N'))
  k_with "call ref" => (((with_reducible show wpAny _ _ (call (Value.ref 42) [Value.int _ _]) _ _ _); refine' line_b (c_ischr ?k1 ?k2) rfl (Nat.le_of_ble_eq_true rfl) (Nat.le_of_ble_eq_true rfl) ?k3 ?k4 ?_; (case k1 => exact Frag.In.keeps (by assumption) (Fr.keep (by assumption))); (case k2 => exact Top.keeps (by assumption) (Fr.keep (by assumption))); (case k3 => assumption); (case k4 => assumption); intro h' tk' F' N'))
  k_with "call ref" => (((with_reducible show wpAny _ _ (call (Value.ref 49) [Value.int _ _]) _ _ _); refine' line_b (c_isblk ?k1 ?k2) rfl (Nat.le_of_ble_eq_true rfl) (Nat.le_of_ble_eq_true rfl) ?k3 ?k4 ?_; (case k1 => exact Frag.In.keeps (by assumption) (Fr.keep (by assumption))); (case k2 => exact Top.keeps (by assumption) (Fr.keep (by assumption))); (case k3 => assumption); (case k4 => assumption); intro h' tk' F' N'))
  k_with "call ref" => (((with_reducible show wpAny _ _ (call (Value.ref 56) [Value.int _ _]) _ _ _); refine' line_b (c_isreg ?k1 ?k2) rfl (Nat.le_of_ble_eq_true rfl) (Nat.le_of_ble_eq_true rfl) ?k3 ?k4 ?_; (case k1 => exact Frag.In.keeps (by assumption) (Fr.keep (by assumption))); (case k2 => exact Top.keeps (by assumption) (Fr.keep (by assumption))); (case k3 => assumption); (case k4 => assumption); intro h' tk' F' N'))
  k_with "call ref" => (((with_reducible show wpAny _ _ (call (Value.ref 63) [Value.int _ _]) _ _ _); refine' line_b (c_isfifo ?k1 ?k2) rfl (Nat.le_of_ble_eq_true rfl) (Nat.le_of_ble_eq_true rfl) ?k3 ?k4 ?_; (case k1 => exact Frag.In.keeps (by assumption) (Fr.keep (by assumption))); (case k2 => exact Top.keeps (by assumption) (Fr.keep (by assumption))); (case k3 => assumption); (case k4 => assumption); intro h' tk' F' N'))
  k_with "call ref" => (((with_reducible show wpAny _ _ (call (Value.ref 70) [Value.int _ _]) _ _ _); refine' line_b (c_islnk ?k1 ?k2) rfl (Nat.le_of_ble_eq_true rfl) (Nat.le_of_ble_eq_true rfl) ?k3 ?k4 ?_; (case k1 => exact Frag.In.keeps (by assumption) (Fr.keep (by assumption))); (case k2 => exact Top.keeps (by assumption) (Fr.keep (by assumption))); (case k3 => assumption); (case k4 => assumption); intro h' tk' F' N'))
  k_with "call ref" => (((with_reducible show wpAny _ _ (call (Value.ref 77) [Value.int _ _]) _ _ _); refine' line_b (c_issock ?k1 ?k2) rfl (Nat.le_of_ble_eq_true rfl) (Nat.le_of_ble_eq_true rfl) ?k3 ?k4 ?_; (case k1 => exact Frag.In.keeps (by assumption) (Fr.keep (by assumption))); (case k2 => exact Top.keeps (by assumption) (Fr.keep (by assumption))); (case k3 => assumption); (case k4 => assumption); intro h' tk' F' N'))
  k_steps
  exact ⟨_, _, rfl, Fr.keep (by assumption), _, ⟨[_, _, _, _, _, _, _, _, _, _], rfl, rfl⟩, _, _, rfl, (‹News _ _ _ _› _ (.head _)).1, (‹News _ _ _ _› _ (.head _)).2.2⟩
end
end Mine
end

section
open PySem PySem.W PyProof.Rows
set_option Elab.async false
set_option maxRecDepth 100000
set_option linter.unusedVariables false
namespace Mine
noncomputable def KeepsBut (l : List Addr) (h h' : Heap) : Prop := ∀ b o, b ∉ l → h.get? b = some o → h'.get? b = some o
noncomputable abbrev ZipAt (h : Heap) (z TI TO : Addr) (f0 : Value) (f1 : Bool) : Prop :=
  h.get? z = some { cls := .type "zip", dict := none, data := .fields #[f0, .bool f1, .bool false, .ref TI, .ref TO], slots := #[] }
noncomputable abbrev TupAt (h : Heap) (T : Addr) (vs : Array Value) : Prop := h.get? T = some { cls := .type "tuple", data := .seq vs }
section
variable {w : World} {A : Around} {E : Value → Shared → Prop} {s : Shared}
theorem upd_tup {T : Addr} {vs : Array Value} {x : Value} {k : Nat} {Q : Unit → Shared → Prop} (hT : TupAt s.heap T vs)
    (hv : vs.size ≤ 10) (h : ∀ h', TupAt h' T (vs.setIfInBounds k x) → Heap.SameBut T s.heap h' → Q () { s with heap := h' }) :
    wpAny (model prog w) A (updateSeq T (·.setIfInBounds k x)) Q E s := by
  refine wpAny_updateSeq hT rfl (h _ ?_ (Heap.SameBut.update ..)) (by rw [sizeLine_eq]; omega) (by rw [Array.size_setIfInBounds, sizeLine_eq]; omega)
  show (s.heap.update T _).get? T = _
  rw [Heap.get?_update_self _ hT rfl]
  simp [Obj.mapSeq]
theorem zip2_free {z TI TO i1 i2 : Addr} {fp1 fp2 : List Addr} {n1 n2 i : Nat} {P1 P2 : Nat → Value → Prop} {St1 St2 : Nat → Heap → Prop} {f1 : Bool} {a b : Value} {Q : Value → Shared → Prop}
    (D1 : Draws prog w A i1 fp1 n1 P1 St1) (D2 : Draws prog w A i2 fp2 n2 P2 St2) (hz1 : z ∉ fp1) (hz2 : z ∉ fp2) (ho1 : TO ∉ fp1) (ho2 : TO ∉ fp2) (h12 : i1 ∉ fp2) (h21 : i2 ∉ fp1)
    (z1 : z ≠ i1) (z2 : z ≠ i2) (zO : z ≠ TO) (O1 : TO ≠ i1) (O2 : TO ≠ i2)
    (hz : ZipAt s.heap z TI TO .none f1) (hTI : TupAt s.heap TI #[.ref i1, .ref i2]) (hTO : TupAt s.heap TO #[a, b]) (h1 : St1 i s.heap) (h2 : St2 i s.heap) (l1 : i < n1) (l2 : i < n2)
    (hQ : ∀ T x y h' tk, P1 i x → P2 i y → ZipAt h' z TI TO (rawInt (T : Nat)) false → TupAt h' TO #[x, y] → St1 (i + 1) h' → St2 (i + 1) h' → TupAt h' T #[x, y] → s.heap.get? T = none →
      KeepsBut [z, TO, i1, i2] s.heap h' → Q (.ref T) { s with heap := h', toks := tk }) :
    wpAny (model prog w) A (Builtin.«zip.__next__» ⟨[.ref z], []⟩) (fun fin s' => ∃ v, fin = .done (.ret v) ∧ Q v s') E s := by
  show wpAny _ _ (field (.ref z) 2 >>= _) _ _ _
  refine wpAny_bind (wpAny_field hz rfl (x := .bool false) rfl ?_)
  show wpAny _ _ (field (.ref z) 3 >>= _) _ _ _
  refine wpAny_bind (wpAny_field hz rfl (x := .ref TI) rfl ?_)
  refine wpAny_bind (wpAny_seqItems hTI rfl ?_)
  show wpAny _ _ (Builtin.SmallTypes.ownedTupleIsFree (.ref z) >>= _) _ _ _
  refine wpAny_bind ?_
  unfold Builtin.SmallTypes.ownedTupleIsFree
  refine wpAny_bind (wpAny_field hz rfl (x := .none) rfl (wpAny_pure ?_))
  simp only [if_true]
  refine wpAny_bind (wpAny_rule ?_)
  refine wpAny_bind (wpAny_field hz rfl (x := .ref TO) rfl ?_)
  refine wpAny_bind (wpAny_setField_rec hz (by simp) fun g1 hz₁ s1 => ?_)
  replace hz₁ : ZipAt g1 z TI TO .ellipsis f1 := hz₁
  refine wpAny_bind ?_
  simp only [List.zipIdx_cons, List.zipIdx_nil, List.forIn_cons, List.forIn_nil]
  have k1 : ∀ b o, b ≠ z → s.heap.get? b = some o → g1.get? b = some o := fun b o hb e => s1.extBut b o hb e
  refine wpAny_bind (wpAny_bind (wpAny_onRaise ?_))
  show wpAny _ _ (Builtin.SmallTypes.nextOf (.ref i1) >>= _) _ _ _
  refine wpAny_bind (D1.item i _ _ _ l1 (D1.frame _ _ _ h1 fun b hb o e => k1 b o (fun q => hz1 (q ▸ hb)) e) fun x g2 tk2 hx st1 s2 => wpAny_pure ?_)
  have k2 : ∀ b o, b ≠ z → b ≠ i1 → s.heap.get? b = some o → g2.get? b = some o := fun b o hb hb1 e => s2.extBut b o hb1 (k1 b o hb e)
  have hTO2 : TupAt g2 TO #[a, b] := k2 _ _ zO.symm O1 hTO
  have hz2' : ZipAt g2 z TI TO .ellipsis f1 := s2.extBut _ _ z1 hz₁
  refine wpAny_bind (wpAny_seqItems hTO2 rfl ?_)
  refine wpAny_bind (upd_tup hTO2 (by simp) fun g3 hTO3 s3 => ?_)
  replace hTO3 : TupAt g3 TO #[x, b] := hTO3
  refine wpAny_bind (wpAny_letGo (wpAny_pure ?_))
  have k3 : ∀ b o, b ≠ z → b ≠ i1 → b ≠ TO → s.heap.get? b = some o → g3.get? b = some o := fun b o hb hb1 hb2 e => s3.extBut b o hb2 (k2 b o hb hb1 e)
  have hz3 : ZipAt g3 z TI TO .ellipsis f1 := s3.extBut _ _ zO hz2'
  have st1' : St1 (i + 1) g3 := D1.frame _ _ _ st1 fun b hb o e => s3.extBut b o (fun q => ho1 (q ▸ hb)) e
  refine wpAny_bind (wpAny_bind (wpAny_onRaise ?_))
  show wpAny _ _ (Builtin.SmallTypes.nextOf (.ref i2) >>= _) _ _ _
  refine wpAny_bind (D2.item i _ _ _ l2 (D2.frame _ _ _ h2 fun b hb o e => k3 b o (fun q => hz2 (q ▸ hb)) (fun q => h12 (q ▸ hb)) (fun q => ho2 (q ▸ hb)) e) fun y g4 tk4 hy st2 s4 => wpAny_pure ?_)
  have hTO4 : TupAt g4 TO #[x, b] := s4.extBut _ _ O2 hTO3
  refine wpAny_bind (wpAny_seqItems hTO4 rfl ?_)
  refine wpAny_bind (upd_tup hTO4 (by simp) fun g5 hTO5 s5 => ?_)
  replace hTO5 : TupAt g5 TO #[x, y] := hTO5
  refine wpAny_bind (wpAny_letGo (wpAny_pure (wpAny_pure ?_)))
  have k5 : ∀ b o, b ≠ z → b ≠ i1 → b ≠ i2 → b ≠ TO → s.heap.get? b = some o → g5.get? b = some o := fun b o hb hb1 hb2 hb3 e => s5.extBut b o hb3 (s4.extBut b o hb2 (k3 b o hb hb1 hb3 e))
  have hz5 : ZipAt g5 z TI TO .ellipsis f1 := s5.extBut _ _ zO (s4.extBut _ _ z2 hz3)
  have st1'' : St1 (i + 1) g5 := D1.frame _ _ _ st1' fun b hb o e => s5.extBut b o (fun q => ho1 (q ▸ hb)) (s4.extBut b o (fun q => h21 (q ▸ hb)) e)
  have st2' : St2 (i + 1) g5 := D2.frame _ _ _ st2 fun b hb o e => s5.extBut b o (fun q => ho2 (q ▸ hb)) e
  have hsz : g5.objs.size = s.heap.objs.size := by rw [s5.1, s4.1, s3.1, s2.1, s1.1]
  refine wpAny_bind (wpAny_seqItems hTO5 rfl ?_)
  refine wpAny_bind (wpAny_newTuple ?_)
  show wpAny _ _ (Builtin.SmallTypes.ownedTupleHandOut (.ref z) (.ref g5.objs.size) >>= _) _ _ _
  refine wpAny_bind ?_
  unfold Builtin.SmallTypes.ownedTupleHandOut
  have hz6 : ZipAt (g5.push { cls := .type "tuple", data := .seq #[x, y] }) z TI TO .ellipsis f1 := Heap.get?_push_of_some _ hz5
  refine wpAny_bind (wpAny_setField_rec hz6 (by simp) fun g7 hz7 s7 => ?_)
  replace hz7 : ZipAt g7 z TI TO (rawInt g5.objs.size) f1 := hz7
  refine wpAny_setField_rec hz7 (by simp) fun g8 hz8 s8 => ?_
  replace hz8 : ZipAt g8 z TI TO (rawInt g5.objs.size) false := hz8
  have zlt : z < g5.objs.size := Heap.lt_size hz5
  have up : ∀ b o, b ≠ z → g5.get? b = some o → g8.get? b = some o := fun b o hb e => s8.extBut _ _ hb (s7.extBut _ _ hb (Heap.get?_push_of_some _ e))
  have hT8 : TupAt g8 g5.objs.size #[x, y] := s8.extBut _ _ (Nat.ne_of_gt zlt) (s7.extBut _ _ (Nat.ne_of_gt zlt) (Heap.get?_push_size _ rfl))
  refine wpAny_pure ⟨_, rfl, ?_⟩
  show Q (.ref g5.objs.size) _
  refine hQ g5.objs.size x y g8 _ hx hy hz8 (up _ _ zO.symm hTO5) (D1.frame _ _ _ st1'' fun b hb o e => up b o (fun q => hz1 (q ▸ hb)) e) (D2.frame _ _ _ st2' fun b hb o e => up b o (fun q => hz2 (q ▸ hb)) e) hT8
    (by rw [hsz]; exact Heap.get?_none_of_le (Nat.le_refl _)) fun b o hb e => ?_
  simp only [List.mem_cons, List.not_mem_nil, or_false, not_or] at hb
  exact up b o hb.1 (k5 b o hb.1 hb.2.2.1 hb.2.2.2 hb.2.1 e)
theorem alive_ {a : Addr} {o : Obj} {Q : Option Obj → Shared → Prop} (ho : s.heap.get? a = some o) (h : Q (some o) s) : wpAny (model prog w) A (loadIfAlive a) Q E s := fun Γ p _ => by
  show Q (s.heap.get? a) s
  rw [ho]; exact h
theorem busy_ {z TI TO T : Addr} {oT : Obj} {f1 : Bool} {Q : Bool → Shared → Prop} (hz : ZipAt s.heap z TI TO (rawInt T) f1) (hT : s.heap.get? T = some oT)
    (h : ∀ g1, ZipAt g1 z TI TO (rawInt T) true → Heap.SameBut z s.heap g1 → Q false { s with heap := g1 }) : wpAny (model prog w) A (Builtin.SmallTypes.ownedTupleIsFree (.ref z)) Q E s := by
  unfold Builtin.SmallTypes.ownedTupleIsFree
  refine wpAny_bind (wpAny_field hz rfl (x := rawInt T) rfl ?_)
  show wpAny _ _ (loadIfAlive T >>= _) _ _ _
  refine wpAny_bind (alive_ hT ?_)
  simp only [Option.isNone_some, Bool.false_eq_true, if_false]
  refine wpAny_bind (wpAny_field hz rfl (x := .bool f1) rfl ?_)
  cases f1 with
  | true => exact wpAny_pure (h s.heap hz (Heap.SameBut.refl ..))
  | false =>
    show wpAny _ _ (setField (.ref z) 1 (.bool true) >>= _) _ _ _
    exact wpAny_bind (wpAny_setField_rec hz (by simp) fun g1 hz1 s1 => wpAny_pure (h g1 hz1 s1))
theorem zip2_busy {z TI TO i1 i2 T : Addr} {oT : Obj} {fp1 fp2 : List Addr} {n1 n2 i : Nat} {P1 P2 : Nat → Value → Prop} {St1 St2 : Nat → Heap → Prop} {f1 : Bool} {Q : Value → Shared → Prop}
    (D1 : Draws prog w A i1 fp1 n1 P1 St1) (D2 : Draws prog w A i2 fp2 n2 P2 St2) (hz1 : z ∉ fp1) (hz2 : z ∉ fp2) (h12 : i1 ∉ fp2) (h21 : i2 ∉ fp1) (z1 : z ≠ i1) (z2 : z ≠ i2)
    (hz : ZipAt s.heap z TI TO (rawInt T) f1) (hT : s.heap.get? T = some oT) (hTI : TupAt s.heap TI #[.ref i1, .ref i2]) (h1 : St1 i s.heap) (h2 : St2 i s.heap) (l1 : i < n1) (l2 : i < n2)
    (hQ : ∀ T' x y h' tk, P1 i x → P2 i y → ZipAt h' z TI TO (rawInt T) true → St1 (i + 1) h' → St2 (i + 1) h' → TupAt h' T' #[x, y] → s.heap.get? T' = none →
      KeepsBut [z, i1, i2] s.heap h' → Q (.ref T') { s with heap := h', toks := tk }) :
    wpAny (model prog w) A (Builtin.«zip.__next__» ⟨[.ref z], []⟩) (fun fin s' => ∃ v, fin = .done (.ret v) ∧ Q v s') E s := by
  show wpAny _ _ (field (.ref z) 2 >>= _) _ _ _
  refine wpAny_bind (wpAny_field hz rfl (x := .bool false) rfl ?_)
  show wpAny _ _ (field (.ref z) 3 >>= _) _ _ _
  refine wpAny_bind (wpAny_field hz rfl (x := .ref TI) rfl ?_)
  refine wpAny_bind (wpAny_seqItems hTI rfl ?_)
  show wpAny _ _ (Builtin.SmallTypes.ownedTupleIsFree (.ref z) >>= _) _ _ _
  refine wpAny_bind ?_
  refine busy_ hz hT fun g1 hz₁ s1 => ?_
  have k1 : ∀ b o, b ≠ z → s.heap.get? b = some o → g1.get? b = some o := fun b o hb e => s1.extBut b o hb e
  simp only [Bool.false_eq_true, if_false]
  refine wpAny_bind ?_
  rw [← Array.forIn_toList]
  simp only [List.forIn_cons, List.forIn_nil]
  refine wpAny_bind (wpAny_bind (wpAny_holding ?_))
  show wpAny _ _ (Builtin.SmallTypes.nextOf (.ref i1) >>= _) _ _ _
  refine wpAny_bind (D1.item i _ _ _ l1 (D1.frame _ _ _ h1 fun b hb o e => k1 b o (fun q => hz1 (q ▸ hb)) e) fun x g2 tk2 hx st1 s2 => wpAny_pure (wpAny_pure ?_))
  have k2 : ∀ b o, b ≠ z → b ≠ i1 → s.heap.get? b = some o → g2.get? b = some o := fun b o hb hb1 e => s2.extBut b o hb1 (k1 b o hb e)
  have hz2' : ZipAt g2 z TI TO (rawInt T) true := s2.extBut _ _ z1 hz₁
  refine wpAny_bind (wpAny_bind (wpAny_holding ?_))
  show wpAny _ _ (Builtin.SmallTypes.nextOf (.ref i2) >>= _) _ _ _
  refine wpAny_bind (D2.item i _ _ _ l2 (D2.frame _ _ _ h2 fun b hb o e => k2 b o (fun q => hz2 (q ▸ hb)) (fun q => h12 (q ▸ hb)) e) fun y g4 tk4 hy st2 s4 => wpAny_pure (wpAny_pure (wpAny_pure ?_)))
  have hz4 : ZipAt g4 z TI TO (rawInt T) true := s4.extBut _ _ z2 hz2'
  have st1' : St1 (i + 1) g4 := D1.frame _ _ _ st1 fun b hb o e => s4.extBut b o (fun q => h21 (q ▸ hb)) e
  have hsz : g4.objs.size = s.heap.objs.size := by rw [s4.1, s2.1, s1.1]
  refine wpAny_bind (wpAny_newTuple (wpAny_pure ⟨_, rfl, ?_⟩) (by show 2 ≤ sizeLine; rw [sizeLine_eq]; omega))
  refine hQ g4.objs.size x y _ _ hx hy (Heap.get?_push_of_some _ hz4) (D1.frame _ _ _ st1' fun b hb o e => Heap.get?_push_of_some _ e) (D2.frame _ _ _ st2 fun b hb o e => Heap.get?_push_of_some _ e) (Heap.get?_push_size _ rfl)
    (by rw [hsz]; exact Heap.get?_none_of_le (Nat.le_refl _)) fun b o hb e => ?_
  simp only [List.mem_cons, List.not_mem_nil, or_false, not_or] at hb
  exact Heap.get?_push_of_some _ (s4.extBut b o hb.2.2 (k2 b o hb.1 hb.2.1 e))
theorem zip2_busy_end {z TI TO i1 i2 T : Addr} {oT : Obj} {fp1 : List Addr} {n1 : Nat} {P1 : Nat → Value → Prop} {St1 : Nat → Heap → Prop} {f1 : Bool} {Q : PySem.Fin → Shared → Prop}
    (D1 : Draws prog w A i1 fp1 n1 P1 St1) (hz1 : z ∉ fp1) (hz : ZipAt s.heap z TI TO (rawInt T) f1) (hT : s.heap.get? T = some oT) (hTI : TupAt s.heap TI #[.ref i1, .ref i2]) (h1 : St1 n1 s.heap)
    (hE : ∀ h' e, KeepsBut [z, i1] s.heap h' → (∃ o, h'.get? e = some o ∧ o.cls = .type "StopIteration") → E (.ref e) { s with heap := h' }) :
    wpAny (model prog w) A (Builtin.«zip.__next__» ⟨[.ref z], []⟩) Q E s := by
  show wpAny _ _ (field (.ref z) 2 >>= _) _ _ _
  refine wpAny_bind (wpAny_field hz rfl (x := .bool false) rfl ?_)
  show wpAny _ _ (field (.ref z) 3 >>= _) _ _ _
  refine wpAny_bind (wpAny_field hz rfl (x := .ref TI) rfl ?_)
  refine wpAny_bind (wpAny_seqItems hTI rfl ?_)
  show wpAny _ _ (Builtin.SmallTypes.ownedTupleIsFree (.ref z) >>= _) _ _ _
  refine wpAny_bind ?_
  refine busy_ hz hT fun g1 hz₁ s1 => ?_
  have k1 : ∀ b o, b ≠ z → s.heap.get? b = some o → g1.get? b = some o := fun b o hb e => s1.extBut b o hb e
  simp only [Bool.false_eq_true, if_false]
  refine wpAny_bind ?_
  rw [← Array.forIn_toList]
  simp only [List.forIn_cons, List.forIn_nil]
  refine wpAny_bind (wpAny_bind (wpAny_holding ?_))
  show wpAny _ _ (Builtin.SmallTypes.nextOf (.ref i1) >>= _) _ _ _
  refine wpAny_bind (D1.done _ _ _ (D1.frame _ _ _ h1 fun b hb o e => k1 b o (fun q => hz1 (q ▸ hb)) e) fun h' e hx hs => hE h' e (fun b o hb x => ?_) hs)
  simp only [List.mem_cons, List.not_mem_nil, or_false, not_or] at hb
  exact hx b o hb.2 (k1 b o hb.1 x)
theorem zip3_free {z TI TO i1 i2 i3 : Addr} {fp1 fp2 fp3 : List Addr} {n1 n2 n3 i : Nat} {P1 P2 P3 : Nat → Value → Prop} {St1 St2 St3 : Nat → Heap → Prop} {f1 : Bool} {a b c : Value} {Q : Value → Shared → Prop}
    (D1 : Draws prog w A i1 fp1 n1 P1 St1) (D2 : Draws prog w A i2 fp2 n2 P2 St2) (D3 : Draws prog w A i3 fp3 n3 P3 St3) (hz1 : z ∉ fp1) (hz2 : z ∉ fp2) (hz3 : z ∉ fp3) (ho1 : TO ∉ fp1) (ho2 : TO ∉ fp2) (ho3 : TO ∉ fp3)
    (h12 : i1 ∉ fp2) (h13 : i1 ∉ fp3) (h21 : i2 ∉ fp1) (h23 : i2 ∉ fp3) (h31 : i3 ∉ fp1) (h32 : i3 ∉ fp2)
    (z1 : z ≠ i1) (z2 : z ≠ i2) (z3 : z ≠ i3) (zO : z ≠ TO) (O1 : TO ≠ i1) (O2 : TO ≠ i2) (O3 : TO ≠ i3)
    (hz : ZipAt s.heap z TI TO .none f1) (hTI : TupAt s.heap TI #[.ref i1, .ref i2, .ref i3]) (hTO : TupAt s.heap TO #[a, b, c]) (h1 : St1 i s.heap) (h2 : St2 i s.heap) (h3 : St3 i s.heap) (l1 : i < n1) (l2 : i < n2) (l3 : i < n3)
    (hQ : ∀ T x y u h' tk, P1 i x → P2 i y → P3 i u → ZipAt h' z TI TO (rawInt (T : Nat)) false → TupAt h' TO #[x, y, u] → St1 (i + 1) h' → St2 (i + 1) h' → St3 (i + 1) h' → TupAt h' T #[x, y, u] → s.heap.get? T = none →
      KeepsBut [z, TO, i1, i2, i3] s.heap h' → Q (.ref T) { s with heap := h', toks := tk }) :
    wpAny (model prog w) A (Builtin.«zip.__next__» ⟨[.ref z], []⟩) (fun fin s' => ∃ v, fin = .done (.ret v) ∧ Q v s') E s := by
  show wpAny _ _ (field (.ref z) 2 >>= _) _ _ _
  refine wpAny_bind (wpAny_field hz rfl (x := .bool false) rfl ?_)
  show wpAny _ _ (field (.ref z) 3 >>= _) _ _ _
  refine wpAny_bind (wpAny_field hz rfl (x := .ref TI) rfl ?_)
  refine wpAny_bind (wpAny_seqItems hTI rfl ?_)
  show wpAny _ _ (Builtin.SmallTypes.ownedTupleIsFree (.ref z) >>= _) _ _ _
  refine wpAny_bind ?_
  unfold Builtin.SmallTypes.ownedTupleIsFree
  refine wpAny_bind (wpAny_field hz rfl (x := .none) rfl (wpAny_pure ?_))
  simp only [if_true]
  refine wpAny_bind (wpAny_rule ?_)
  refine wpAny_bind (wpAny_field hz rfl (x := .ref TO) rfl ?_)
  refine wpAny_bind (wpAny_setField_rec hz (by simp) fun g1 hz₁ s1 => ?_)
  replace hz₁ : ZipAt g1 z TI TO .ellipsis f1 := hz₁
  refine wpAny_bind ?_
  simp only [List.zipIdx_cons, List.zipIdx_nil, List.forIn_cons, List.forIn_nil]
  have k1 : ∀ b o, b ≠ z → s.heap.get? b = some o → g1.get? b = some o := fun b o hb e => s1.extBut b o hb e
  refine wpAny_bind (wpAny_bind (wpAny_onRaise ?_))
  show wpAny _ _ (Builtin.SmallTypes.nextOf (.ref i1) >>= _) _ _ _
  refine wpAny_bind (D1.item i _ _ _ l1 (D1.frame _ _ _ h1 fun b hb o e => k1 b o (fun q => hz1 (q ▸ hb)) e) fun x g2 tk2 hx st1 s2 => wpAny_pure ?_)
  have k2 : ∀ b o, b ≠ z → b ≠ i1 → s.heap.get? b = some o → g2.get? b = some o := fun b o hb hb1 e => s2.extBut b o hb1 (k1 b o hb e)
  have hTO2 : TupAt g2 TO #[a, b, c] := k2 _ _ zO.symm O1 hTO
  have hz2' : ZipAt g2 z TI TO .ellipsis f1 := s2.extBut _ _ z1 hz₁
  refine wpAny_bind (wpAny_seqItems hTO2 rfl ?_)
  refine wpAny_bind (upd_tup hTO2 (by simp) fun g3 hTO3 s3 => ?_)
  replace hTO3 : TupAt g3 TO #[x, b, c] := hTO3
  refine wpAny_bind (wpAny_letGo (wpAny_pure ?_))
  have k3 : ∀ b o, b ≠ z → b ≠ i1 → b ≠ TO → s.heap.get? b = some o → g3.get? b = some o := fun b o hb hb1 hb2 e => s3.extBut b o hb2 (k2 b o hb hb1 e)
  have hz3' : ZipAt g3 z TI TO .ellipsis f1 := s3.extBut _ _ zO hz2'
  have st1' : St1 (i + 1) g3 := D1.frame _ _ _ st1 fun b hb o e => s3.extBut b o (fun q => ho1 (q ▸ hb)) e
  refine wpAny_bind (wpAny_bind (wpAny_onRaise ?_))
  show wpAny _ _ (Builtin.SmallTypes.nextOf (.ref i2) >>= _) _ _ _
  refine wpAny_bind (D2.item i _ _ _ l2 (D2.frame _ _ _ h2 fun b hb o e => k3 b o (fun q => hz2 (q ▸ hb)) (fun q => h12 (q ▸ hb)) (fun q => ho2 (q ▸ hb)) e) fun y g4 tk4 hy st2 s4 => wpAny_pure ?_)
  have hTO4 : TupAt g4 TO #[x, b, c] := s4.extBut _ _ O2 hTO3
  refine wpAny_bind (wpAny_seqItems hTO4 rfl ?_)
  refine wpAny_bind (upd_tup hTO4 (by simp) fun g5 hTO5 s5 => ?_)
  replace hTO5 : TupAt g5 TO #[x, y, c] := hTO5
  refine wpAny_bind (wpAny_letGo (wpAny_pure ?_))
  have k5 : ∀ b o, b ≠ z → b ≠ i1 → b ≠ i2 → b ≠ TO → s.heap.get? b = some o → g5.get? b = some o := fun b o hb hb1 hb2 hb3 e => s5.extBut b o hb3 (s4.extBut b o hb2 (k3 b o hb hb1 hb3 e))
  have hz5 : ZipAt g5 z TI TO .ellipsis f1 := s5.extBut _ _ zO (s4.extBut _ _ z2 hz3')
  have st1'' : St1 (i + 1) g5 := D1.frame _ _ _ st1' fun b hb o e => s5.extBut b o (fun q => ho1 (q ▸ hb)) (s4.extBut b o (fun q => h21 (q ▸ hb)) e)
  have st2' : St2 (i + 1) g5 := D2.frame _ _ _ st2 fun b hb o e => s5.extBut b o (fun q => ho2 (q ▸ hb)) e
  refine wpAny_bind (wpAny_bind (wpAny_onRaise ?_))
  show wpAny _ _ (Builtin.SmallTypes.nextOf (.ref i3) >>= _) _ _ _
  refine wpAny_bind (D3.item i _ _ _ l3 (D3.frame _ _ _ h3 fun b hb o e => k5 b o (fun q => hz3 (q ▸ hb)) (fun q => h13 (q ▸ hb)) (fun q => h23 (q ▸ hb)) (fun q => ho3 (q ▸ hb)) e) fun u g6 tk6 hu st3 s6 => wpAny_pure ?_)
  have hTO6 : TupAt g6 TO #[x, y, c] := s6.extBut _ _ O3 hTO5
  refine wpAny_bind (wpAny_seqItems hTO6 rfl ?_)
  refine wpAny_bind (upd_tup hTO6 (by simp) fun g9 hTO9 s9 => ?_)
  replace hTO9 : TupAt g9 TO #[x, y, u] := hTO9
  refine wpAny_bind (wpAny_letGo (wpAny_pure (wpAny_pure ?_)))
  have k9 : ∀ b o, b ≠ z → b ≠ i1 → b ≠ i2 → b ≠ i3 → b ≠ TO → s.heap.get? b = some o → g9.get? b = some o := fun b o hb hb1 hb2 hb4 hb3 e => s9.extBut b o hb3 (s6.extBut b o hb4 (k5 b o hb hb1 hb2 hb3 e))
  have hz9 : ZipAt g9 z TI TO .ellipsis f1 := s9.extBut _ _ zO (s6.extBut _ _ z3 hz5)
  have st1' : St1 (i + 1) g9 := D1.frame _ _ _ st1'' fun b hb o e => s9.extBut b o (fun q => ho1 (q ▸ hb)) (s6.extBut b o (fun q => h31 (q ▸ hb)) e)
  have st2'' : St2 (i + 1) g9 := D2.frame _ _ _ st2' fun b hb o e => s9.extBut b o (fun q => ho2 (q ▸ hb)) (s6.extBut b o (fun q => h32 (q ▸ hb)) e)
  have st3' : St3 (i + 1) g9 := D3.frame _ _ _ st3 fun b hb o e => s9.extBut b o (fun q => ho3 (q ▸ hb)) e
  have hsz : g9.objs.size = s.heap.objs.size := by rw [s9.1, s6.1, s5.1, s4.1, s3.1, s2.1, s1.1]
  refine wpAny_bind (wpAny_seqItems hTO9 rfl ?_)
  refine wpAny_bind (wpAny_newTuple ?_)
  show wpAny _ _ (Builtin.SmallTypes.ownedTupleHandOut (.ref z) (.ref g9.objs.size) >>= _) _ _ _
  refine wpAny_bind ?_
  unfold Builtin.SmallTypes.ownedTupleHandOut
  have hz10 : ZipAt (g9.push { cls := .type "tuple", data := .seq #[x, y, u] }) z TI TO .ellipsis f1 := Heap.get?_push_of_some _ hz9
  refine wpAny_bind (wpAny_setField_rec hz10 (by simp) fun g7 hz7 s7 => ?_)
  replace hz7 : ZipAt g7 z TI TO (rawInt g9.objs.size) f1 := hz7
  refine wpAny_setField_rec hz7 (by simp) fun g8 hz8 s8 => ?_
  replace hz8 : ZipAt g8 z TI TO (rawInt g9.objs.size) false := hz8
  have zlt : z < g9.objs.size := Heap.lt_size hz9
  have up : ∀ b o, b ≠ z → g9.get? b = some o → g8.get? b = some o := fun b o hb e => s8.extBut _ _ hb (s7.extBut _ _ hb (Heap.get?_push_of_some _ e))
  have hT8 : TupAt g8 g9.objs.size #[x, y, u] := s8.extBut _ _ (Nat.ne_of_gt zlt) (s7.extBut _ _ (Nat.ne_of_gt zlt) (Heap.get?_push_size _ rfl))
  refine wpAny_pure ⟨_, rfl, ?_⟩
  show Q (.ref g9.objs.size) _
  refine hQ g9.objs.size x y u g8 _ hx hy hu hz8 (up _ _ zO.symm hTO9) (D1.frame _ _ _ st1' fun b hb o e => up b o (fun q => hz1 (q ▸ hb)) e) (D2.frame _ _ _ st2'' fun b hb o e => up b o (fun q => hz2 (q ▸ hb)) e) (D3.frame _ _ _ st3' fun b hb o e => up b o (fun q => hz3 (q ▸ hb)) e) hT8
    (by rw [hsz]; exact Heap.get?_none_of_le (Nat.le_refl _)) fun b o hb e => ?_
  simp only [List.mem_cons, List.not_mem_nil, or_false, not_or] at hb
  exact up b o hb.1 (k9 b o hb.1 hb.2.2.1 hb.2.2.2.1 hb.2.2.2.2 hb.2.1 e)
theorem zip3_free_end {z TI TO i1 i2 i3 : Addr} {fp1 : List Addr} {n1 : Nat} {P1 : Nat → Value → Prop} {St1 : Nat → Heap → Prop} {f1 : Bool} {Q : PySem.Fin → Shared → Prop}
    (D1 : Draws prog w A i1 fp1 n1 P1 St1) (hz1 : z ∉ fp1) (z1 : z ≠ i1) (hz : ZipAt s.heap z TI TO .none f1) (hTI : TupAt s.heap TI #[.ref i1, .ref i2, .ref i3]) (h1 : St1 n1 s.heap)
    (hE : ∀ h' e, KeepsBut [z, i1] s.heap h' → (∃ o, h'.get? e = some o ∧ o.cls = .type "StopIteration") → E (.ref e) { s with heap := h' }) :
    wpAny (model prog w) A (Builtin.«zip.__next__» ⟨[.ref z], []⟩) Q E s := by
  show wpAny _ _ (field (.ref z) 2 >>= _) _ _ _
  refine wpAny_bind (wpAny_field hz rfl (x := .bool false) rfl ?_)
  show wpAny _ _ (field (.ref z) 3 >>= _) _ _ _
  refine wpAny_bind (wpAny_field hz rfl (x := .ref TI) rfl ?_)
  refine wpAny_bind (wpAny_seqItems hTI rfl ?_)
  show wpAny _ _ (Builtin.SmallTypes.ownedTupleIsFree (.ref z) >>= _) _ _ _
  refine wpAny_bind ?_
  unfold Builtin.SmallTypes.ownedTupleIsFree
  refine wpAny_bind (wpAny_field hz rfl (x := .none) rfl (wpAny_pure ?_))
  simp only [if_true]
  refine wpAny_bind (wpAny_rule ?_)
  refine wpAny_bind (wpAny_field hz rfl (x := .ref TO) rfl ?_)
  refine wpAny_bind (wpAny_setField_rec hz (by simp) fun g1 hz₁ s1 => ?_)
  replace hz₁ : ZipAt g1 z TI TO .ellipsis f1 := hz₁
  refine wpAny_bind ?_
  simp only [List.zipIdx_cons, List.zipIdx_nil, List.forIn_cons, List.forIn_nil]
  have k1 : ∀ b o, b ≠ z → s.heap.get? b = some o → g1.get? b = some o := fun b o hb e => s1.extBut b o hb e
  refine wpAny_bind (wpAny_bind (wpAny_onRaise ?_))
  show wpAny _ _ (Builtin.SmallTypes.nextOf (.ref i1) >>= _) _ _ _
  refine wpAny_bind (D1.done _ _ _ (D1.frame _ _ _ h1 fun b hb o e => k1 b o (fun q => hz1 (q ▸ hb)) e) fun h' e hx hs => ?_)
  obtain ⟨oe, hoe, hce⟩ := hs
  have hz2 : ZipAt h' z TI TO .ellipsis f1 := hx _ _ z1 hz₁
  have hez : e ≠ z := fun q => by subst q; rw [hz2] at hoe; cases hoe; simp at hce
  refine wpAny_setField_rec hz2 (by simp) fun g3 _ s3 => hE g3 e (fun b o hb x => ?_) ⟨oe, s3.extBut _ _ hez hoe, hce⟩
  simp only [List.mem_cons, List.not_mem_nil, or_false, not_or] at hb
  exact s3.extBut _ _ hb.1 (hx b o hb.2 (k1 b o hb.1 x))
/-- a step of an iterator out of its built-in's body -/
theorem next_zip_item {z : Addr} {o : Obj} {Q : Option Value → Shared → Prop} (ho : s.heap.get? z = some o) (hc : o.cls = .type "zip")
    (h : wpAny (model prog w) A.in1 (Builtin.«zip.__next__» ⟨[.ref z], []⟩) (fun fin s' => ∃ v, fin = .done (.ret v) ∧ Q (some v) s') NoE s) : wpAny (model prog w) A (pyNext (.ref z)) Q E s := by
  have hT : s.TypeIs (.ref z) "zip" := ⟨_, ho, hc⟩
  unfold pyNext
  refine wpAny_bind (wpAny_attempt (wpAny_callSpecial?_slot (name := Str.ofString "__next__") hT F.slot_zip_next (wpAny_call_entry F.slot_zip_next hT F.entry_zip_next (wpAny_mono h (fun fin s' h' => ?_) fun _ _ e => e.elim) (F.args_zip_next_1 _))))
  obtain ⟨v, rfl, hq⟩ := h'
  exact ⟨v, rfl, wpAny_pure hq⟩
theorem next_zip_end {z : Addr} {o : Obj} {Q : Option Value → Shared → Prop} (ho : s.heap.get? z = some o) (hc : o.cls = .type "zip")
    (h : wpAny (model prog w) A.in1 (Builtin.«zip.__next__» ⟨[.ref z], []⟩) (fun _ _ => False) (fun e s' => ∃ a, e = .ref a ∧ (∃ o, s'.heap.get? a = some o ∧ o.cls = .type "StopIteration") ∧ Q none s') s) : wpAny (model prog w) A (pyNext (.ref z)) Q E s := by
  have hT : s.TypeIs (.ref z) "zip" := ⟨_, ho, hc⟩
  unfold pyNext
  refine wpAny_bind (wpAny_attempt (wpAny_callSpecial?_slot (name := Str.ofString "__next__") hT F.slot_zip_next (wpAny_call_entry F.slot_zip_next hT F.entry_zip_next (wpAny_mono h (fun fin s' h' => h'.elim) fun e s' h' => ?_) (F.args_zip_next_1 _))))
  obtain ⟨a, rfl, ⟨o, ho, hc⟩, hq⟩ := h'
  refine wpAny_bind (wpAny_isInstance (T := "StopIteration") (b := true) ⟨o, ho, hc⟩ isSubtype_stop ?_)
  exact wpAny_pure hq
end
/-- all stays but dicts (frames) -/
noncomputable def KD (h h' : Heap) : Prop := ∀ b o, h.get? b = some o → (∀ es ep, o.data ≠ .dict es ep) → h'.get? b = some o
theorem Keeps.kd {h h' : Heap} (k : Keeps h h') : KD h h' := fun b o e _ => k b o e
theorem KD.refl (h : Heap) : KD h h := fun _ _ e _ => e
theorem KD.trans {h h' h'' : Heap} (a : KD h h') (b : KD h' h'') : KD h h'' := fun x o e q => b x o (a x o e q) q
theorem KD.of_same {h h' : Heap} {L : Addr} {m : Str → Option Value} (n : h.Ns L m) (hs : Heap.SameBut L h h') : KD h h' := fun b o e q => by
  by_cases hb : b = L
  · obtain ⟨o', es, ep, ho, hd, _⟩ := n
    rw [hb, ho] at e; cases e
    exact absurd hd (q es ep)
  · exact hs.extBut b o hb e
structure Iter (w : World) (A : Around) (I : Addr) (n : Nat) (wr : List Addr) (P : Nat → Value → Heap → Prop) (St : Nat → Heap → Prop) : Prop where
  kd : ∀ i h h', St i h → KD h h' → St i h'
  item : ∀ i (s : Shared) (Q : Option Value → Shared → Prop) (E : Value → Shared → Prop), i < n → St i s.heap → (∀ v h' tk, P i v h' → St (i + 1) h' → KeepsBut wr s.heap h' → Q (some v) { s with heap := h', toks := tk }) → wpAny (model prog w) A (pyNext (.ref I)) Q E s
  done : ∀ (s : Shared) (Q : Option Value → Shared → Prop) (E : Value → Shared → Prop), St n s.heap → (∀ h' tk, KeepsBut wr s.heap h' → Q none { s with heap := h', toks := tk }) → wpAny (model prog w) A (pyNext (.ref I)) Q E s
  self : ∀ i (s : Shared) (Q : Value → Shared → Prop) (E : Value → Shared → Prop), St i s.heap → Q (.ref I) s → wpAny (model prog w) A (pyIter (.ref I)) Q E s
  pkd : ∀ i v h h', P i v h → KD h h' → P i v h'
section
variable {w : World} {A : Around}
theorem kd_list {h h' : Heap} {l : Addr} {xs : Array Value} (x : h.IsList l xs) (k : KD h h') : h'.IsList l xs := by
  obtain ⟨o, ho, hc, n, hd⟩ := x
  exact ⟨o, k _ _ ho (fun es ep => by rw [hd]; exact fun e => nomatch e), hc, n, hd⟩
theorem kd_listIter {h h' : Heap} {i l : Addr} {k : Nat} (x : h.IsListIter i l k) (q : KD h h') : h'.IsListIter i l k := by
  obtain ⟨o, ho, hc, hd⟩ := x
  exact ⟨o, q _ _ ho (fun es ep => by rw [hd]; exact fun e => nomatch e), hc, hd⟩
theorem kd_strIter {h h' : Heap} {i : Addr} {T : String} {x : Str} {t : Tok} {k : Nat} (y : h.IsStrIter i T x t k) (q : KD h h') : h'.IsStrIter i T x t k := by
  obtain ⟨o, ho, hc, hd⟩ := y
  exact ⟨o, q _ _ ho (fun es ep => by rw [hd]; exact fun e => nomatch e), hc, hd⟩
theorem kd_tup {h h' : Heap} {T : Addr} {vs : Array Value} (x : TupAt h T vs) (q : KD h h') : TupAt h' T vs := q _ _ x (fun es ep e => nomatch e)
theorem kd_zip {h h' : Heap} {z TI TO : Addr} {f0 : Value} {f1 : Bool} (x : ZipAt h z TI TO f0 f1) (q : KD h h') : ZipAt h' z TI TO f0 f1 := q _ _ x (fun es ep e => nomatch e)
theorem Iter.list (hh : A.handled = none) {I l : Addr} (hne : l ≠ I) (xs : Array Value) : Iter w A I xs.size [I] (fun i v _ => xs[i]? = some v) (fun i h => h.IsListIter I l i ∧ h.IsList l xs) where
  kd := fun i h h' st k => ⟨kd_listIter st.1 k, kd_list st.2 k⟩
  item := fun i s Q E hi st hQ => by
    refine wpAny_pyNext_list_item st.1 st.2 (x := xs[i]) (by simp [hi]) fun h' hit' hs' => ?_
    exact hQ _ h' s.toks (by simp [hi]) ⟨hit', st.2.extBut hs'.extBut hne⟩ fun b o hb e => hs'.extBut b o (fun q => hb (by simp [q])) e
  done := fun s Q E st hQ => wpAny_pyNext_list_end hh st.1 st.2 (by simp) fun h' he' => hQ h' s.toks fun b o hb e => he' b o (fun q => hb (by simp [q])) e
  self := fun _ _ _ _ st hQ => wpAny_pyIter_listiter st.1 hQ
  pkd := fun _ _ _ _ p _ => p
theorem iter_zip {E : Value → Shared → Prop} {s : Shared} {z TI TO : Addr} {f0 : Value} {f1 : Bool} {Q : Value → Shared → Prop} (hz : ZipAt s.heap z TI TO f0 f1) (h : Q (.ref z) s) : wpAny (model prog w) A (pyIter (.ref z)) Q E s := by
  have hT : s.TypeIs (.ref z) "zip" := ⟨_, hz, rfl⟩
  refine wpAny_pyIter_slot hT F.slot_zip_iter (wpAny_call_entry F.slot_zip_iter hT F.entry_zip_iter ?_ (F.args_zip_iter_1 _))
  show wpAny _ _ (ret (.ref z)) _ _ s
  exact wpAny_pure ⟨_, rfl, "zip", _, hT, F.slot_zip_next.lookup, h⟩
noncomputable def Zip2St (z TI TO i1 i2 : Addr) (St1 St2 : Nat → Heap → Prop) (i : Nat) (h : Heap) : Prop :=
  (∃ f0 f1, ZipAt h z TI TO f0 f1 ∧ (i = 0 → f0 = .none) ∧ (0 < i → ∃ T vs, f0 = rawInt (T : Nat) ∧ TupAt h T vs)) ∧ TupAt h TI #[.ref i1, .ref i2] ∧ (∃ a b, TupAt h TO #[a, b]) ∧ St1 i h ∧ St2 i h
theorem Iter.zip2 {z TI TO i1 i2 : Addr} {fp1 fp2 : List Addr} {n : Nat} {P1 P2 : Nat → Value → Prop} {St1 St2 : Nat → Heap → Prop} (hn : 0 < n)
    (D1 : Draws prog w A.in1 i1 fp1 n P1 St1) (D2 : Draws prog w A.in1 i2 fp2 n P2 St2) (kd1 : ∀ i h h', St1 i h → KD h h' → St1 i h') (kd2 : ∀ i h h', St2 i h → KD h h' → St2 i h')
    (c1 : ∀ i h o, St1 i h → h.get? i1 = some o → o.cls ≠ .type "tuple") (c2 : ∀ i h o, St2 i h → h.get? i2 = some o → o.cls ≠ .type "tuple")
    (hz1 : z ∉ fp1) (hz2 : z ∉ fp2) (ho1 : TO ∉ fp1) (ho2 : TO ∉ fp2) (h12 : i1 ∉ fp2) (h21 : i2 ∉ fp1)
    (z1 : z ≠ i1) (z2 : z ≠ i2) (zO : z ≠ TO) (O1 : TO ≠ i1) (O2 : TO ≠ i2) (zI : z ≠ TI) (OI : TO ≠ TI) (I1 : TI ≠ i1) (I2 : TI ≠ i2) :
    Iter w A z n [z, TO, i1, i2] (fun i v h => ∃ T x y, v = .ref T ∧ TupAt h T #[x, y] ∧ P1 i x ∧ P2 i y) (Zip2St z TI TO i1 i2 St1 St2) where
  kd := fun i h h' st k => by
    obtain ⟨⟨f0, f1, hz, e0, e1⟩, hI, ⟨a, b, hO⟩, s1, s2⟩ := st
    refine ⟨⟨f0, f1, kd_zip hz k, e0, fun hi => ?_⟩, kd_tup hI k, ⟨a, b, kd_tup hO k⟩, kd1 _ _ _ s1 k, kd2 _ _ _ s2 k⟩
    obtain ⟨T, vs, e, hT⟩ := e1 hi
    exact ⟨T, vs, e, kd_tup hT k⟩
  item := fun i s Q E hi st hQ => by
    obtain ⟨⟨f0, f1, hz, e0, e1⟩, hI, ⟨a, b, hO⟩, s1, s2⟩ := st
    refine next_zip_item hz rfl ?_
    by_cases h0 : i = 0
    · obtain rfl := e0 h0
      refine zip2_free D1 D2 hz1 hz2 ho1 ho2 h12 h21 z1 z2 zO O1 O2 hz hI hO s1 s2 hi hi fun T x y h' tk hx hy hz' hO' s1' s2' hT hn' hk => ?_
      refine hQ (.ref T) h' tk ⟨T, x, y, rfl, hT, hx, hy⟩ ⟨⟨_, _, hz', fun q => absurd q (Nat.succ_ne_zero _), fun _ => ⟨T, _, rfl, hT⟩⟩, hk _ _ (by simp [zI.symm, OI.symm, I1, I2]) hI, ⟨x, y, hO'⟩, s1', s2'⟩ hk
    · obtain ⟨T, vs, rfl, hT⟩ := e1 (Nat.pos_of_ne_zero h0)
      refine zip2_busy D1 D2 hz1 hz2 h12 h21 z1 z2 hz hT hI s1 s2 hi hi fun T' x y h' tk hx hy hz' s1' s2' hT' hn' hk => ?_
      have hTk : TupAt h' T vs := hk _ _ (by
        simp only [List.mem_cons, List.not_mem_nil, or_false, not_or]
        refine ⟨fun q => ?_, fun q => ?_, fun q => ?_⟩
        · rw [q] at hT; exact absurd (congrArg Obj.cls (Option.some.inj (hT.symm.trans hz))) (by simp)
        · rw [q] at hT; exact c1 _ _ _ s1 hT rfl
        · rw [q] at hT; exact c2 _ _ _ s2 hT rfl) hT
      refine hQ (.ref T') h' tk ⟨T', x, y, rfl, hT', hx, hy⟩ ⟨⟨_, _, hz', fun q => absurd q (Nat.succ_ne_zero _), fun _ => ⟨T, _, rfl, hTk⟩⟩, hk _ _ (by simp [zI.symm, I1, I2]) hI, ⟨a, b, hk _ _ (by simp [zO.symm, O1, O2]) hO⟩, s1', s2'⟩ fun b' o hb e => hk b' o (fun q => hb ?_) e
      simp only [List.mem_cons, List.not_mem_nil, or_false] at q ⊢
      rcases q with q | q | q <;> simp [q]
  done := fun s Q E st hQ => by
    obtain ⟨⟨f0, f1, hz, e0, e1⟩, hI, ⟨a, b, hO⟩, s1, s2⟩ := st
    obtain ⟨T, vs, rfl, hT⟩ := e1 hn
    refine next_zip_end hz rfl (zip2_busy_end D1 hz1 hz hT hI s1 fun h' e hk he => ⟨e, rfl, he, hQ h' s.toks fun b' o hb x => hk b' o (fun q => hb ?_) x⟩)
    simp only [List.mem_cons, List.not_mem_nil, or_false] at q ⊢
    rcases q with q | q <;> simp [q]
  self := fun i s Q E st hQ => by
    obtain ⟨⟨f0, f1, hz, e0, e1⟩, _⟩ := st
    exact iter_zip hz hQ
  pkd := fun i v h h' p k => by
    obtain ⟨T, x, y, e, hT, r⟩ := p
    exact ⟨T, x, y, e, kd_tup hT k, r⟩
end
end Mine
end

section
open PySem PySem.W PyProof.Rows
set_option Elab.async false
set_option maxRecDepth 100000
set_option maxHeartbeats 4000000
namespace Mine
noncomputable def objAt (P : Params) (a : Addr) : Obj := ((hd.heap_39 P).lookup a).getD default
noncomputable def K2 (P : Params) : Frag := [((nat_lit 2), objAt P (nat_lit 2)), ((nat_lit 3), objAt P (nat_lit 3)), ((nat_lit 125), objAt P (nat_lit 125)), ((nat_lit 126), objAt P (nat_lit 126)), ((nat_lit 132), objAt P (nat_lit 132)), ((nat_lit 133), objAt P (nat_lit 133)), ((nat_lit 160), objAt P (nat_lit 160)), ((nat_lit 161), objAt P (nat_lit 161)), ((nat_lit 174), objAt P (nat_lit 174)), ((nat_lit 175), objAt P (nat_lit 175)), ((nat_lit 181), objAt P (nat_lit 181)), ((nat_lit 182), objAt P (nat_lit 182)), ((nat_lit 188), objAt P (nat_lit 188)), ((nat_lit 189), objAt P (nat_lit 189))]
theorem look_K (P : Params) : ∀ p ∈ K2 P, (hd.heap_39 P).lookup p.1 = some p.2 := by
  intro p hp
  simp only [K2, List.mem_cons, List.not_mem_nil, or_false] at hp
  rcases hp with rfl | rfl | rfl | rfl | rfl | rfl | rfl | rfl | rfl | rfl | rfl | rfl | rfl | rfl <;> rfl
theorem lookup_mem {l : Frag} {a : Addr} {o : Obj} (h : l.lookup a = some o) : (a, o) ∈ l := by
  induction l with
  | nil => cases h
  | cons p r ih =>
    rw [List.lookup_cons] at h
    split at h
    · rename_i e
      cases h
      rw [show a = p.1 from by simpa using e]
      exact .head _
    · exact .tail _ (ih h)
theorem K2_of {w : World} {h : Heap} (X : (hd.heap_39 w.params).In h) : (K2 w.params).In h := fun a o e => X a o (look_K _ _ (lookup_mem e))
theorem K2_low {P : Params} {a : Addr} {o : Obj} (h : (K2 P).lookup a = some o) : a < 207 := by
  have := lookup_mem h
  simp only [K2, List.mem_cons, List.not_mem_nil, or_false, Prod.mk.injEq] at this
  rcases this with ⟨e, _⟩ | ⟨e, _⟩ | ⟨e, _⟩ | ⟨e, _⟩ | ⟨e, _⟩ | ⟨e, _⟩ | ⟨e, _⟩ | ⟨e, _⟩ | ⟨e, _⟩ | ⟨e, _⟩ | ⟨e, _⟩ | ⟨e, _⟩ | ⟨e, _⟩ | ⟨e, _⟩ <;> (rw [e]; decide)
/-- the ground that outlives cmp_to_key -/
structure Gw (w : World) (mg mb : Str → Option Value) (h : Heap) : Prop where
  X : (K2 w.params).In h
  T : TopRead hd.view_39 loose mg mb h
  alive : ∀ a, a < 207 → ∃ o, h.get? a = some o
section
variable {w : World} {mg mb : Str → Option Value} {h h' : Heap}
theorem Gw.high (G : Gw w mg mb h) {a : Addr} (e : h.get? a = none) : 207 ≤ a := by
  cases Nat.lt_or_ge a 207 with
  | inl q => obtain ⟨o, ho⟩ := G.alive a q; rw [ho] at e; cases e
  | inr q => exact q
theorem Gw.size (G : Gw w mg mb h) : 207 ≤ h.objs.size := by
  obtain ⟨o, ho⟩ := G.alive 206 (by decide)
  exact Heap.lt_size ho
theorem Gw.but (G : Gw w mg mb h) {l : List Addr} (hl : ∀ a ∈ l, 207 ≤ a) (k : KeepsBut l h h') : Gw w mg mb h' := by
  have kk : ∀ b o, b < 207 → h.get? b = some o → h'.get? b = some o := fun b o hb e => k b o (fun q => absurd hb (Nat.not_lt.mpr (hl b q))) e
  have kn : ∀ b m, b < 207 → h.Ns b m → h'.Ns b m := fun b m hb n => by obtain ⟨o, es, ep, ho, r⟩ := n; exact ⟨o, es, ep, kk _ _ hb ho, r⟩
  refine ⟨fun a o e => kk a o (K2_low e) (G.X a o e), ⟨kn _ _ (by decide) G.T.g, kn _ _ (by decide) G.T.b, ?_, G.T.builtins, G.T.free⟩, fun a ha => ?_⟩
  · obtain ⟨mc, n, e⟩ := G.T.nolimit
    exact ⟨mc, kn _ _ (by decide) n, e⟩
  · obtain ⟨o, ho⟩ := G.alive a ha
    exact ⟨o, kk a o ha ho⟩
theorem Gw.keeps (G : Gw w mg mb h) (k : Keeps h h') : Gw w mg mb h' := G.but (l := []) (fun _ q => nomatch q) fun b o _ e => k b o e
end
section
variable {w : World} {A : Around} {E : Value → Shared → Prop} {s : Shared}
theorem isTup_of {h h₁ : Heap} {p : Addr} {l : List Value} (hp : TupAt h p l.toArray) (k : ∀ b o, h.get? b = some o → h₁.get? b = some o) : IsTup h₁ p l.toArray := ⟨_, k _ _ hp, rfl, _, rfl⟩
theorem item0 {value slice : PySem.Expr} {p : Addr} {h : Heap} {x y : Value} {u : Tok} {Q : Value → Shared → Prop} (hp : TupAt h p #[x, y]) (k : ∀ b o, h.get? b = some o → s.heap.get? b = some o) (hq : Q x s)
    (hs : subscripted slice false (.ref p) (.int 0 u) = operate [.ref p, .int 0 u] (getItem (.ref p) (.int 0 u)) := by with_unfolding_all rfl) :
    wpAny (model prog w) A (subscriptTail value slice (.ref p) (.int 0 u)) Q E s :=
  item_tupleT (l := [x, y]) (j := 0) (isTup_of hp k) (by decide) (by decide) rfl rfl hq hs
theorem item1 {value slice : PySem.Expr} {p : Addr} {h : Heap} {x y : Value} {u : Tok} {Q : Value → Shared → Prop} (hp : TupAt h p #[x, y]) (k : ∀ b o, h.get? b = some o → s.heap.get? b = some o) (hq : Q y s)
    (hs : subscripted slice false (.ref p) (.int 1 u) = operate [.ref p, .int 1 u] (getItem (.ref p) (.int 1 u)) := by with_unfolding_all rfl) :
    wpAny (model prog w) A (subscriptTail value slice (.ref p) (.int 1 u)) Q E s :=
  item_tupleT (l := [x, y]) (j := 1) (isTup_of hp k) (by decide) (by decide) rfl rfl hq hs
end
end Mine
end

section
open PySem PySem.W PyProof.Rows
set_option Elab.async false
set_option maxRecDepth 100000
set_option maxHeartbeats 4000000
namespace Mine
theorem fillFig : (fun (_ : OpenLaw) (_ : Params → Frag) => True) PySem.Challenge.rw_ny0158_01 K2 := by w_top off; k_fill; trivial
section
variable {w : World} {s : Shared} {mg mb : Str → Option Value}
theorem c_unequal (G : Gw w mg mb s.heap) {k : Int} {t : Tok} {p : Addr} {a b : Nat} {t1 t2 : Tok} (hp : TupAt s.heap p #[.str ⟨#[a]⟩ t1, .str ⟨#[b]⟩ t2]) :
    wpAny (model prog w) A0 (call (.ref 175) [.int k t, .ref p]) (Back s (isI (if k = 0 then (a : Int) - b else k))) NoE s := by
  have X := G.X
  have T := G.T
  refine enter X T.nolimit (by k_is) (by k_is) (by decide) (BindsTo.of_eq rfl) (locs rfl) (by decide) ?_
  intro L' h' F' N'
  k_with_none
  k_with "subscriptTail" => ((first | refine item0 (by assumption) (Fr.keep (by assumption)) ?_ | refine item1 (by assumption) (Fr.keep (by assumption)) ?_))
  k_steps
  · refine back_i ?_ (Fr.keep (by assumption))
    simp_all
  · refine back_i ?_ (Fr.keep (by assumption))
    simp_all
theorem c_figure (G : Gw w mg mb s.heap) {k : Int} {t : Tok} {p : Addr} {x y : Str} {t1 t2 : Tok} (hp : TupAt s.heap p #[.str x t1, .str y t2]) (h0 : 0 ≤ k) (h1 : k < 32768) (hx : x.length ≤ 8) :
    wpAny (model prog w) A0 (call (.ref 161) [.int k t, .ref p]) (Back s (isI (k * x.length + Txt.find x y))) NoE s := by
  have X := G.X
  have T := G.T
  refine enter X T.nolimit (by k_is) (by k_is) (by decide) (BindsTo.of_eq rfl) (locs rfl) (by decide) ?_
  intro L' h' F' N'
  k_with_none
  k_with "subscriptTail" => ((first | refine item0 (by assumption) (Fr.keep (by assumption)) ?_ | refine item1 (by assumption) (Fr.keep (by assumption)) ?_))
  k_steps
  exact back_i rfl (Fr.keep (by assumption))
end
end Mine
end

section
open PySem PySem.W PySem.Calls PyProof.Rows
set_option Elab.async false
set_option maxRecDepth 100000
set_option maxHeartbeats 4000000
set_option linter.unusedVariables false
namespace Mine
theorem fillRed : (fun (_ : OpenLaw) (_ : Params → Frag) => True) PySem.Challenge.rw_ny0158_01 K2 := by w_top off; k_fill; trivial
theorem KeepsBut.trans {l : List Addr} {h h' h'' : Heap} (a : KeepsBut l h h') (b : KeepsBut l h' h'') : KeepsBut l h h'' := fun x o q e => b x o q (a x o q e)
theorem KeepsBut.mono {l l' : List Addr} {h h' : Heap} (a : KeepsBut l h h') (hl : ∀ x ∈ l, x ∈ l') : KeepsBut l' h h' := fun x o q e => a x o (fun z => q (hl x z)) e
theorem KeepsBut.refl {l : List Addr} (h : Heap) : KeepsBut l h h := fun _ _ _ e => e
theorem KeepsBut.of_same {h h' : Heap} {L : Addr} (hs : Heap.SameBut L h h') : KeepsBut [L] h h' := fun b o q e => hs.extBut b o (fun z => q (by simp [z])) e
theorem Keeps.but {l : List Addr} {h h' : Heap} (a : Keeps h h') : KeepsBut l h h' := fun x o _ e => a x o e
theorem ns_keep {h h' : Heap} {L : Addr} {m : Str → Option Value} (n : h.Ns L m) (k : ∀ o, h.get? L = some o → h'.get? L = some o) : h'.Ns L m := by
  obtain ⟨o, es, ep, ho, r⟩ := n
  exact ⟨o, es, ep, k _ ho, r⟩
section
variable {w : World} {A : Around} {E : Value → Shared → Prop} {s : Shared} {env : Env}
theorem ev_local {x : Str} {pos : Pos} {m : Str → Option Value} {v : Value} {Q : Value → Shared → Prop} (hk : env.scope.kind = .function) (hl : env.kindOf x = some .local) (hn : s.heap.Ns env.locals m) (hv : m x = some v) (h : Q v s)
    (hd : (x == ("__debug__" : Str)) = false := by decide) : wpAny (model prog w) A (eval (.Name x pos) env) Q E s := wpAny_Name (wpAny_loadName_local hk hl hn hv h) hd
/-- the loop of reduce -/
theorem red_for {I : Addr} {n : Nat} {wr : List Addr} {P : Nat → Value → Heap → Prop} {St : Nat → Heap → Prop} (IT : Iter w A I n wr P St) (hk : env.scope.kind = .function)
    (kE : env.kindOf "element" = some .local) (kV : env.kindOf "value" = some .local) (kF : env.kindOf "function" = some .local) (kI : env.kindOf "it" = some .local)
    {m : Str → Option Value} {f : Addr} {fo : Obj} {fd : FuncData} {v0 : Value} {p1 p2 p3 p4 p5 p6 p7 p8 p9 : Pos} {Q : Flow → Shared → Prop}
    (hn : s.heap.Ns env.locals m) (mF : m "function" = some (.ref f)) (mI : m "it" = some (.ref I)) (mV : m "value" = some v0)
    (hLw : env.locals ∉ wr) (hfo : s.heap.get? f = some fo) (hfd : fo.data = .func fd) (hfw : f ∉ wr) (hfL : f ≠ env.locals) (hst : St 0 s.heap)
    (Rl : Nat → Value → Prop) (h0 : Rl 0 v0)
    (fc : ∀ i v el (s' : Shared), i < n → Rl i v → P i el s'.heap → KeepsBut (env.locals :: wr) s.heap s'.heap → wpAny (model prog w) A (call (.ref f) [v, el]) (Back s' (fun v' _ => Rl (i + 1) v')) NoE s')
    (done : ∀ v h' tk m', h'.Ns env.locals m' → m' "value" = some v → Rl n v → KeepsBut (env.locals :: wr) s.heap h' → Q .next { s with heap := h', toks := tk }) :
    wpAny (model prog w) A (exec (.For (.Name "element" p1) (.Name "it" p2) [.Assign [.Name "value" p3] (.Call (.Name "function" p4) [.Name "value" p5, .Name "element" p6] [] p7) p8] [] p9) env) Q E s := by
  have hp : (env.scope.kind == .class || (env.scope.kind == .module && env.locals != env.globals)) = false := by rw [hk]; rfl
  refine wpAny_For (ev_local hk kI hn mI (IT.self 0 _ _ _ hst ?_))
  refine codeAny_forLoop (fun k s' => ∃ i h tk m' v, k = n - i ∧ i ≤ n ∧ s' = { s with heap := h, toks := tk } ∧ h.Ns env.locals m' ∧ m' "function" = some (.ref f) ∧ m' "value" = some v ∧ Rl i v ∧ St i h ∧ KeepsBut (env.locals :: wr) s.heap h) ?_ n
    ⟨0, s.heap, s.toks, m, v0, rfl, Nat.zero_le _, rfl, hn, mF, mV, h0, hst, KeepsBut.refl _⟩
  rintro k s' ⟨i, h, tk, m', v, rfl, hi, rfl, hn', mF', mV', hR, hst', hk'⟩
  by_cases hin : i < n
  · refine IT.item i _ _ _ hin hst' fun el h2 tk2 hP st2 k2 => ?_
    have n2 : h2.Ns env.locals m' := ns_keep hn' fun o e => k2 _ _ hLw e
    have kk2 : KeepsBut (env.locals :: wr) s.heap h2 := hk'.trans (k2.mono fun x q => .tail _ q)
    refine wpAny_assign_Name (wpAny_storeName_local kE n2 (fun h3 n3 s3 => ?_) hp)
    have d3 := KD.of_same n2 s3
    have kk3 : KeepsBut (env.locals :: wr) s.heap h3 := kk2.trans ((KeepsBut.of_same s3).mono fun x q => by simp at q; simp [q])
    refine wpAny_execs_cons (wpAny_Assign_Name (Call_ (ev_local hk kF n3 (v := .ref f) ((if_neg (by decide)).trans mF') ?_)))
    have hf3 : h3.get? f = some fo := kk3 _ _ (by simp [hfw, hfL]) hfo
    refine callWith_def_at hf3 hfd (args_cons (ev_local hk kV n3 (v := v) ((if_neg (by decide)).trans mV') (args_cons (ev_local hk kE n3 (v := el) (by simp) (args_nil ⟨hf3, ?_⟩)))))
    refine wpAny_mono (fc i v el _ hin hR (IT.pkd _ _ _ _ hP d3) kk3) (fun v' s5 hb => ?_) fun _ _ e => e.elim
    obtain ⟨h5, tk5, rfl, k5, hR'⟩ := hb
    have n5 : h5.Ns env.locals _ := ns_keep n3 fun o e => k5 _ _ e
    refine wpAny_storeName_local kV n5 (fun h6 n6 s6 => ?_) hp
    refine wpAny_execs_nil ⟨n - (i + 1), by omega, i + 1, h6, _, _, v', rfl, hin, rfl, n6, (if_neg (by decide)).trans ((if_neg (by decide)).trans mF'), by simp, hR', ?_, ?_⟩
    · exact IT.kd _ _ _ (IT.kd _ _ _ (IT.kd _ _ _ st2 d3) k5.kd) (KD.of_same n5 s6)
    · exact kk3.trans (k5.but.trans ((KeepsBut.of_same s6).mono fun x q => by simp at q; simp [q]))
  · have e : i = n := by omega
    subst e
    refine IT.done _ _ _ hst' fun h2 tk2 k2 => wpAny_execs_nil ?_
    exact done v h2 tk2 m' (ns_keep hn' fun o e => k2 _ _ hLw e) mV' hR (hk'.trans (k2.mono fun x q => .tail _ q))
end
section
variable {w : World} {A : Around} {E : Value → Shared → Prop} {s : Shared} {K : Frag} {Q : Value → Shared → Prop}
theorem call_iter {v : Value} (h : wpAny (model prog w) A.in1 (pyIter v) Q E s) : wpAny (model prog w) A (call (.builtin "iter") [v]) Q E s := by
  refine call_function_entry (by decide +kernel) (by decide +kernel) kdk_entry_iter (kdk_args_iter _) ?_
  unfold Builtin.«iter»
  refine wpAny_bind (m := someArgs "iter" 1 2 _) (wpAny_of_eq (a := [v]) (by first | rfl | kernel_rfl!) ?_)
  show wpAny _ _ (pyIter v >>= _) _ _ _
  exact wpAny_bind (wpAny_mono h (fun v s' hq => wpAny_pure ⟨_, rfl, hq⟩) fun _ _ e => e)
/-- a def of the text is entered; what the call may change is kept apart in the ledger -/
theorem enterG {name qual : Str} {params : Arguments} {body : List Stmt} {scope : Scope} {dV kV doc pm cdv ct oc : Value} {an od : Option Addr} {osl : Array (Option Value)} {f : Addr} {args : List Value} {binds : List (Str × Value)} (zs : List (Addr × Obj))
    (X : K.In s.heap) (lim : s.heap.NoLimit) (hzs : ∀ p ∈ zs, s.heap.get? p.1 = some p.2)
    (ho : K.lookup f = some ⟨oc, od, .func (fnOf name qual params body scope dV kV doc pm an cdv ct), osl⟩) (hcd : codeIn K cdv qual = true) (hroom : A.depth < recursionLimit)
    (hbind : BindsTo s (fnOf name qual params body scope dV kV doc pm an cdv ct) ⟨args, []⟩ binds) (hloc : ∀ y ∈ binds, scope.names.lookup y.1 = some .local)
    (hcell : ∀ x ∈ scope.names, x.2 ≠ .cell)
    (h : ∀ g L h₁, g = hideAll s.heap (zs.map (·.1)) → L = s.heap.objs.size → Keeps s.heap h₁ → Fr g L h₁ (fun y => binds.reverse.lookup y) → News g L h₁ zs →
      wpAny (model prog w) (A.deeper (envOf qual scope L f cdv)) (execs body (envOf qual scope L f cdv)) (fun fl s' => Q (match fl with | .ret v => v | _ => .none) s') NoE
        { s with heap := h₁, toks := s.toks + binds.length })
    (hco : scope.isCoroutine = false := by rfl) (hgen : scope.isGenerator = false := by rfl) (hk : scope.kind = .function := by rfl) :
    wpAny (model prog w) A (call (.ref f) args) Q E s := by
  refine wpAny_call (codeAny_call_def (fd := fnOf name qual params body scope dV kV doc pm an cdv ct) (body := body) (binds := binds) hroom (X _ _ ho) rfl lim (codeRec_of X hcd) rfl hbind hcell hloc (fun h₁ hns hk₁ => ?_) hco hgen hk)
  refine wpAny_mono (h _ s.heap.objs.size h₁ rfl rfl hk₁ ⟨hns, fun b o e => hk₁ b o (of_hideAll _ e), Nat.le_of_eq (hideAll_size _ _)⟩ fun p hp => ⟨hk₁ _ _ (hzs p hp), Nat.ne_of_lt (Heap.lt_size (hzs p hp)), hideAll_none _ (List.mem_map_of_mem hp)⟩) (fun fl s' hl => hl) fun _ _ y => y.elim
theorem Gw.hide {mg mb : Str → Option Value} {h : Heap} (G : Gw w mg mb h) {l : List Addr} (hl : ∀ a ∈ l, 207 ≤ a) : Gw w mg mb (hideAll h l) := G.but hl fun b o q e => hideAll_get _ e q
end
/-- a goal set aside -/
noncomputable def Held (P : Prop) : Prop := P
theorem held_of {P : Prop} (h : Held P) : P := h
noncomputable def SelfIt (w : World) (z : Addr) (zs : List (Addr × Obj)) : Prop := ∀ (A : Around) (s : Shared) (Q : Value → Shared → Prop) (E : Value → Shared → Prop), (∀ p ∈ zs, s.heap.get? p.1 = some p.2) → Q (.ref z) s → wpAny (model prog w) A (pyIter (.ref z)) Q E s
theorem line_iter {w : World} {A : Around} {E : Value → Shared → Prop} {s : Shared} {Q : Value → Shared → Prop} {z L : Addr} {zs : List (Addr × Obj)} {g : Heap} (S : SelfIt w z zs) (N : News g L s.heap zs) (h : Q (.ref z) s) : wpAny (model prog w) A (call (.builtin "iter") [.ref z]) Q E s :=
  call_iter (S _ _ _ _ (fun p hp => (N p hp).1) h)
theorem is_int_ref {w : World} {A : Around} {E : Value → Shared → Prop} {s : Shared} {Q : Value → Shared → Prop} {k : Int} {t : Tok} {a : Addr} (h : Q (.bool false) s) : wpAny (model prog w) A (compareOp .Is (.int k t) (.ref a)) Q E s := by
  refine wpAny_of_eq (a := Value.bool false) ?_ h
  rfl
section
variable {w : World} {s : Shared} {mg mb : Str → Option Value}
theorem keeps_hide {h hS g : Heap} {L : Addr} {m : Str → Option Value} {zs : List (Addr × Obj)} (hzs : ∀ p ∈ zs, h.get? p.1 = some p.2) (hg : g = hideAll h (zs.map (·.1))) (F : Fr g L hS m) (N : News g L hS zs) : Keeps h hS := by
  intro b o e
  by_cases hb : b ∈ zs.map (·.1)
  · obtain ⟨p, hp, rfl⟩ := List.mem_map.mp hb
    rw [hzs p hp] at e
    cases e
    exact (N p hp).1
  · exact F.keep b o (by rw [hg]; exact hideAll_get _ e hb)
/-- reduce with a first value: what it takes changes, all else stays -/
theorem c_reduce {k : Nat} (hk : k ≤ 10) (G : Gw w mg mb s.heap) {f z : Addr} {k0 : Int} {t0 : Tok} {zs : List (Addr × Obj)} (hzs : ∀ p ∈ zs, s.heap.get? p.1 = some p.2) (hzl : ∀ a ∈ zs.map (·.1), 207 ≤ a) (self : SelfIt w z zs)
    {n : Nat} {wr : List Addr} {P : Nat → Value → Heap → Prop} {St : Nat → Heap → Prop} (IT : ∀ A : Around, A.handled = none → Iter w A z n wr P St) (hwr : ∀ a ∈ wr, a ∈ zs.map (·.1)) (hst : ∀ h : Heap, (∀ p ∈ zs, h.get? p.1 = some p.2) → St 0 h)
    {fo : Obj} {fd : FuncData} (hfK : (K2 w.params).lookup f = some fo) (hfd : fo.data = .func fd) (Rl : Nat → Value → Prop) (h0 : ∀ t, Rl 0 (.int k0 t))
    (fc : ∀ i v el (s' : Shared), i < n → Rl i v → P i el s'.heap → KeepsBut wr s.heap s'.heap → Gw w mg mb s'.heap → wpAny (model prog w) (AL k) (call (.ref f) [v, el]) (Back s' (fun v' _ => Rl (i + 1) v')) NoE s') :
    wpAny (model prog w) (AL (k + 1)) (call (.ref 133) [.ref f, .ref z, .int k0 t0]) (fun v s' => ∃ h' tk, s' = { s with heap := h', toks := tk } ∧ KeepsBut wr s.heap h' ∧ Rl n v) NoE s := by
  refine enterG zs G.X G.T.nolimit hzs (by k_is) (by k_is) (by show 600 - 10 * (k + 1) < 1000; omega) (binds_K G.X rfl (by k_is) rfl rfl rfl) (locs rfl) (by decide) ?_
  intro g L' h' hg hL' hk' F' N'
  have GH := G.hide hzl
  rw [← hg] at GH
  have X := GH.X
  have T := GH.T
  k_with_none
  k_with "compareOp Is int ref" => ((refine is_int_ref ?_))
  k_with "call builtin:iter" => ((refine line_iter (by assumption) (by assumption) ?_))
  k_with "exec For Name Name cons nil" => ((refine held_of ?_))
  k_steps
  rename Fr _ _ _ _ => F2
  rename News _ _ _ _ => N2
  unfold Held
  have kS := keeps_hide hzs hg F2 N2
  have hlt : ∀ a ∈ zs.map (·.1), a < L' := fun a ha => by
    obtain ⟨p, hp, rfl⟩ := List.mem_map.mp ha
    rw [hL']; exact Heap.lt_size (hzs p hp)
  have hLw : L' ∉ wr := fun q => Nat.lt_irrefl _ (hlt _ (hwr _ q))
  have hf7 := K2_low hfK
  have hLs : 207 ≤ L' := by rw [hL']; exact G.size
  have hfo := GH.X.keeps F2.keep _ _ hfK
  refine red_for (IT _ rfl) rfl rfl rfl rfl rfl F2.ns rfl rfl rfl hLw hfo hfd (fun q => Nat.lt_irrefl _ (Nat.lt_of_lt_of_le hf7 (hzl _ (hwr _ q)))) (fun q => Nat.lt_irrefl _ (Nat.lt_of_lt_of_le hf7 (q ▸ hLs))) (hst _ fun p hp => (N2 p hp).1) Rl (h0 _) ?_ ?_
  · intro i v el s' hi hR hP hk2
    have k3 : KeepsBut (L' :: wr) s.heap s'.heap := kS.but.trans hk2
    have k4 : KeepsBut wr s.heap s'.heap := fun b o q e => k3 b o (fun z => by
      rcases List.mem_cons.mp z with z | z
      · rw [z, hL'] at e; exact absurd (Heap.lt_size e) (Nat.lt_irrefl _)
      · exact q z) e
    exact fit (fc i v el s' hi hR hP k4 (G.but (fun a q => hzl _ (hwr _ q)) k4)) rfl (by show 600 - 10 * (k + 1) + 1 ≤ 600 - 10 * k; omega) (by show 2000 - 50 * (k + 1) + 3 ≤ 2000 - 50 * k; omega)
  · intro v h3 tk3 m3 n3 mV hR hk3
    refine wpAny_execs_cons (wpAny_Return_some (ev_local rfl rfl n3 mV ?_))
    refine ⟨h3, tk3, rfl, fun b o q e => ?_, hR⟩
    have k3 : KeepsBut (L' :: wr) s.heap h3 := kS.but.trans hk3
    exact k3 b o (fun z => by
      rcases List.mem_cons.mp z with z | z
      · rw [z, hL'] at e; exact absurd (Heap.lt_size e) (Nat.lt_irrefl _)
      · exact q z) e
end
end Mine
end

section
open PySem PySem.W PySem.Calls PyProof.Rows
set_option Elab.async false
set_option maxRecDepth 100000
set_option maxHeartbeats 4000000
set_option linter.unusedVariables false
namespace Mine
/-- what iter makes of a value -/
noncomputable abbrev MakesIt (v : Value) (o : Obj) (pre : Heap → Prop) : Prop :=
  ∀ (prog : Program) (w : World) (A : Around) (s : Shared) (Q : Value → Shared → Prop) (E : Value → Shared → Prop), pre s.heap → Q (.ref s.heap.objs.size) { s with heap := s.heap.push o } → wpAny (model prog w) A (pyIter v) Q E s
noncomputable def strIt (x : Str) (t : Tok) : Obj := { cls := .type (strIterType x), data := .fields #[.str x t, .int 0 0] }
noncomputable def listIt (l : Addr) : Obj := { cls := .type "list_iterator", data := .fields #[.ref l, .int 0 0] }
theorem makes_str (x : Str) (t : Tok) : MakesIt (.str x t) (strIt x t) (fun _ => True) := fun _ _ _ _ _ _ _ hQ => wpAny_pyIter_strU hQ
theorem makes_list (l : Addr) (xs : Array Value) : MakesIt (.ref l) (listIt l) (fun h => h.IsList l xs) := fun _ _ _ _ _ _ hl hQ => wpAny_pyIter_list hl hQ
noncomputable abbrev zH1 (h : Heap) (o1 : Obj) : Heap := h.push o1
noncomputable abbrev zH2 (h : Heap) (o1 o2 : Obj) : Heap := (zH1 h o1).push o2
noncomputable abbrev zH3 (h : Heap) (o1 o2 : Obj) : Heap := (zH2 h o1 o2).push { cls := .type "tuple", data := .seq #[.ref h.objs.size, .ref (zH1 h o1).objs.size] }
noncomputable abbrev zH4 (h : Heap) (o1 o2 : Obj) : Heap := (zH3 h o1 o2).push { cls := .type "tuple", data := .seq #[.none, .none] }
noncomputable abbrev zH5 (h : Heap) (o1 o2 : Obj) : Heap := (zH4 h o1 o2).push { cls := .type "zip", data := .fields #[.none, .bool false, .bool false, .ref (zH2 h o1 o2).objs.size, .ref (zH3 h o1 o2).objs.size] }
theorem meets_zip2 {v1 v2 : Value} {o1 o2 : Obj} {p1 p2 : Heap → Prop} (m1 : MakesIt v1 o1 p1) (m2 : MakesIt v2 o2 p2) (st : ∀ h o, p2 h → p2 (h.push o)) :
    Meets (Builtin.«zip.__new__» ⟨[.type "zip", v1, v2], []⟩) (fun _ R s => p1 s.heap ∧ p2 s.heap ∧
      R (.ok (.ret (.ref (zH4 s.heap o1 o2).objs.size))) { s with heap := zH5 s.heap o1 o2 }) :=
  .of_wp fun prog w A R s h => by
    obtain ⟨hp, g, d, tk, os⟩ := s; obtain ⟨hl1, hl2, h⟩ := h
    have hsub := sub_zip
    have q2 := st _ o1 hl2
    wp_walk using m1 _ _ _ _ _ _ hl1, m2 _ _ _ _ _ _ q2
    exact ⟨_, rfl, h⟩
section
variable {w : World} {A : Around} {E : Value → Shared → Prop} {s : Shared}
theorem call_zip2 {v1 v2 : Value} {o1 o2 : Obj} {p1 p2 : Heap → Prop} {Q : Value → Shared → Prop} (m1 : MakesIt v1 o1 p1) (m2 : MakesIt v2 o2 p2) (st : ∀ h o, p2 h → p2 (h.push o)) (f1 : o1.isFreed = false) (f2 : o2.isFreed = false) (hp1 : p1 s.heap) (hp2 : p2 s.heap)
    (h : ∀ h', ZipAt h' (s.heap.objs.size + 4) (s.heap.objs.size + 2) (s.heap.objs.size + 3) .none false → TupAt h' (s.heap.objs.size + 2) #[.ref s.heap.objs.size, .ref (s.heap.objs.size + 1)] →
      TupAt h' (s.heap.objs.size + 3) #[.none, .none] → h'.get? s.heap.objs.size = some o1 → h'.get? (s.heap.objs.size + 1) = some o2 → Keeps s.heap h' → Q (.ref (s.heap.objs.size + 4)) { s with heap := h' }) :
    wpAny (model prog w) A (call (.type "zip") [v1, v2]) Q E s := by
  refine callType_new F.called_zip (by decide) (F.typeCall_zip_2 _ _) (F.newCall_zip_2 _ _) (fun obj => F.args_object_init_3 obj _ _) F.entry_zip_new (meets_zip2 m1 m2 st) ⟨hp1, hp2, ?_⟩
  have z1 : (zH1 s.heap o1).objs.size = s.heap.objs.size + 1 := Heap.size_push ..
  have z2 : (zH2 s.heap o1 o2).objs.size = s.heap.objs.size + 2 := by rw [Heap.size_push, z1]
  have z3 : (zH3 s.heap o1 o2).objs.size = s.heap.objs.size + 3 := by rw [Heap.size_push, z2]
  have z4 : (zH4 s.heap o1 o2).objs.size = s.heap.objs.size + 4 := by rw [Heap.size_push, z3]
  have g5 : (zH5 s.heap o1 o2).get? (zH4 s.heap o1 o2).objs.size = some _ := Heap.get?_push_size _ rfl
  have g4 : (zH5 s.heap o1 o2).get? (zH3 s.heap o1 o2).objs.size = some _ := Heap.get?_push_of_some _ (Heap.get?_push_size _ rfl)
  have g3 : (zH5 s.heap o1 o2).get? (zH2 s.heap o1 o2).objs.size = some _ := Heap.get?_push_of_some _ (Heap.get?_push_of_some _ (Heap.get?_push_size _ rfl))
  have g2 : (zH5 s.heap o1 o2).get? (zH1 s.heap o1).objs.size = some _ := Heap.get?_push_of_some _ (Heap.get?_push_of_some _ (Heap.get?_push_of_some _ (Heap.get?_push_size _ f2)))
  have g1 : (zH5 s.heap o1 o2).get? s.heap.objs.size = some _ := Heap.get?_push_of_some _ (Heap.get?_push_of_some _ (Heap.get?_push_of_some _ (Heap.get?_push_of_some _ (Heap.get?_push_size _ f1))))
  show _ ∧ _
  rw [z2, z3, z4] at g5
  rw [z1, z2] at g3
  rw [z3] at g4
  rw [z1] at g2
  rw [z4]
  exact ⟨⟨_, g5, rfl⟩, h _ g5 g3 g4 g1 g2 fun c o x =>
    Heap.get?_push_of_some _ (Heap.get?_push_of_some _ (Heap.get?_push_of_some _ (Heap.get?_push_of_some _ (Heap.get?_push_of_some _ x))))⟩
end
noncomputable abbrev yH3 (h : Heap) (o1 o2 o3 : Obj) : Heap := (zH2 h o1 o2).push o3
noncomputable abbrev yH4 (h : Heap) (o1 o2 o3 : Obj) : Heap := (yH3 h o1 o2 o3).push { cls := .type "tuple", data := .seq #[.ref h.objs.size, .ref (zH1 h o1).objs.size, .ref (zH2 h o1 o2).objs.size] }
noncomputable abbrev yH5 (h : Heap) (o1 o2 o3 : Obj) : Heap := (yH4 h o1 o2 o3).push { cls := .type "tuple", data := .seq #[.none, .none, .none] }
noncomputable abbrev yH6 (h : Heap) (o1 o2 o3 : Obj) : Heap := (yH5 h o1 o2 o3).push { cls := .type "zip", data := .fields #[.none, .bool false, .bool false, .ref (yH3 h o1 o2 o3).objs.size, .ref (yH4 h o1 o2 o3).objs.size] }
theorem typeCall_zip_3 (a b c : Value) : checkTypeCall "zip" ⟨[a, b, c], []⟩ = pure () := by kernel_rfl
theorem newCall_zip_3 (a b c : Value) : checkBuiltinCall "zip.__new__" ⟨[.type "zip", a, b, c], []⟩ = pure () := by kernel_rfl
theorem args_object_init_4 (a b c d : Value) : argsOk "object.__init__" ⟨[a, b, c, d], []⟩ := by unfold argsOk; kernel_rfl
theorem meets_zip3 {v1 v2 v3 : Value} {o1 o2 o3 : Obj} {p1 p2 p3 : Heap → Prop} (m1 : MakesIt v1 o1 p1) (m2 : MakesIt v2 o2 p2) (m3 : MakesIt v3 o3 p3) (st : ∀ h o, p2 h → p2 (h.push o)) (st3 : ∀ h o, p3 h → p3 (h.push o)) :
    Meets (Builtin.«zip.__new__» ⟨[.type "zip", v1, v2, v3], []⟩) (fun _ R s => p1 s.heap ∧ p2 s.heap ∧ p3 s.heap ∧
      R (.ok (.ret (.ref (yH5 s.heap o1 o2 o3).objs.size))) { s with heap := yH6 s.heap o1 o2 o3 }) :=
  .of_wp fun prog w A R s h => by
    obtain ⟨hp, g, d, tk, os⟩ := s; obtain ⟨hl1, hl2, hl3, h⟩ := h
    have hsub := sub_zip
    have q2 := st _ o1 hl2
    have q3 := st3 _ o2 (st3 _ o1 hl3)
    wp_walk using m1 _ _ _ _ _ _ hl1, m2 _ _ _ _ _ _ q2, m3 _ _ _ _ _ _ q3
    exact ⟨_, rfl, h⟩
section
variable {w : World} {A : Around} {E : Value → Shared → Prop} {s : Shared}
theorem call_zip3 {v1 v2 v3 : Value} {o1 o2 o3 : Obj} {p1 p2 p3 : Heap → Prop} {Q : Value → Shared → Prop} (m1 : MakesIt v1 o1 p1) (m2 : MakesIt v2 o2 p2) (m3 : MakesIt v3 o3 p3) (st : ∀ h o, p2 h → p2 (h.push o)) (st3 : ∀ h o, p3 h → p3 (h.push o))
    (f1 : o1.isFreed = false) (f2 : o2.isFreed = false) (f3 : o3.isFreed = false) (hp1 : p1 s.heap) (hp2 : p2 s.heap) (hp3 : p3 s.heap)
    (h : ∀ h', ZipAt h' (s.heap.objs.size + 5) (s.heap.objs.size + 3) (s.heap.objs.size + 4) .none false → TupAt h' (s.heap.objs.size + 3) #[.ref s.heap.objs.size, .ref (s.heap.objs.size + 1), .ref (s.heap.objs.size + 2)] →
      TupAt h' (s.heap.objs.size + 4) #[.none, .none, .none] → h'.get? s.heap.objs.size = some o1 → h'.get? (s.heap.objs.size + 1) = some o2 → h'.get? (s.heap.objs.size + 2) = some o3 → h'.objs.size = s.heap.objs.size + 6 → Keeps s.heap h' → Q (.ref (s.heap.objs.size + 5)) { s with heap := h' }) :
    wpAny (model prog w) A (call (.type "zip") [v1, v2, v3]) Q E s := by
  refine callType_new F.called_zip (by decide) (typeCall_zip_3 _ _ _) (newCall_zip_3 _ _ _) (fun obj => args_object_init_4 obj _ _ _) F.entry_zip_new (meets_zip3 m1 m2 m3 st st3) ⟨hp1, hp2, hp3, ?_⟩
  have z1 : (zH1 s.heap o1).objs.size = s.heap.objs.size + 1 := Heap.size_push ..
  have z2 : (zH2 s.heap o1 o2).objs.size = s.heap.objs.size + 2 := by rw [Heap.size_push, z1]
  have z3 : (yH3 s.heap o1 o2 o3).objs.size = s.heap.objs.size + 3 := by rw [Heap.size_push, z2]
  have z4 : (yH4 s.heap o1 o2 o3).objs.size = s.heap.objs.size + 4 := by rw [Heap.size_push, z3]
  have z5 : (yH5 s.heap o1 o2 o3).objs.size = s.heap.objs.size + 5 := by rw [Heap.size_push, z4]
  have z6 : (yH6 s.heap o1 o2 o3).objs.size = s.heap.objs.size + 6 := by rw [Heap.size_push, z5]
  have g6 : (yH6 s.heap o1 o2 o3).get? (yH5 s.heap o1 o2 o3).objs.size = some _ := Heap.get?_push_size _ rfl
  have g5 : (yH6 s.heap o1 o2 o3).get? (yH4 s.heap o1 o2 o3).objs.size = some _ := Heap.get?_push_of_some _ (Heap.get?_push_size _ rfl)
  have g4 : (yH6 s.heap o1 o2 o3).get? (yH3 s.heap o1 o2 o3).objs.size = some _ := Heap.get?_push_of_some _ (Heap.get?_push_of_some _ (Heap.get?_push_size _ rfl))
  have g3 : (yH6 s.heap o1 o2 o3).get? (zH2 s.heap o1 o2).objs.size = some _ := Heap.get?_push_of_some _ (Heap.get?_push_of_some _ (Heap.get?_push_of_some _ (Heap.get?_push_size _ f3)))
  have g2 : (yH6 s.heap o1 o2 o3).get? (zH1 s.heap o1).objs.size = some _ := Heap.get?_push_of_some _ (Heap.get?_push_of_some _ (Heap.get?_push_of_some _ (Heap.get?_push_of_some _ (Heap.get?_push_size _ f2))))
  have g1 : (yH6 s.heap o1 o2 o3).get? s.heap.objs.size = some _ := Heap.get?_push_of_some _ (Heap.get?_push_of_some _ (Heap.get?_push_of_some _ (Heap.get?_push_of_some _ (Heap.get?_push_of_some _ (Heap.get?_push_size _ f1)))))
  show _ ∧ _
  rw [z3, z4, z5] at g6
  rw [z1, z2, z3] at g4
  rw [z4] at g5
  rw [z1] at g2
  rw [z2] at g3
  rw [z5]
  exact ⟨⟨_, g6, rfl⟩, h _ g6 g4 g5 g1 g2 g3 z6 fun c o x =>
    Heap.get?_push_of_some _ (Heap.get?_push_of_some _ (Heap.get?_push_of_some _ (Heap.get?_push_of_some _ (Heap.get?_push_of_some _ (Heap.get?_push_of_some _ x)))))⟩
end
end Mine
end

section
open PySem PySem.W PySem.Calls PyProof.Rows
set_option Elab.async false
set_option maxRecDepth 100000
set_option maxHeartbeats 4000000
set_option linter.unusedVariables false
namespace Mine
theorem fillRule : (fun (_ : OpenLaw) (_ : Params → Frag) => True) PySem.Challenge.rw_ny0158_01 K2 := by w_top off; k_fill; trivial
noncomputable def cpAt (x : Str) (i : Nat) : Nat := x.cps[i]?.getD 0
/-- the rule's number after i signs -/
noncomputable def cmpTo (x y : Str) : Nat → Int
  | 0 => 0
  | i + 1 => if cmpTo x y i = 0 then (cpAt x i : Int) - cpAt y i else cmpTo x y i
section
variable {w : World} {A : Around}
theorem drawsStr (hh : A.handled = none) (it : Addr) (x : Str) (t : Tok) :
    Draws prog w A it [it] x.cps.size (fun i v => ∃ c u, x.cps[i]? = some c ∧ v = .str ⟨#[c]⟩ u) (fun i h => h.IsStrIter it (strIterType x) x t i) := by
  unfold strIterType
  split
  · exact Draws.strAscii hh it x t
  · exact Draws.strWide hh it x t
theorem strIt_at {h : Heap} {i : Addr} {x : Str} {t : Tok} (e : h.get? i = some (strIt x t)) : h.IsStrIter i (strIterType x) x t 0 := ⟨_, e, rfl, rfl⟩
theorem strIt_noTup {h : Heap} {i : Addr} {x : Str} {t : Tok} {k : Nat} {o : Obj} (s : h.IsStrIter i (strIterType x) x t k) (e : h.get? i = some o) : o.cls ≠ .type "tuple" := by
  obtain ⟨o', ho, hc, _⟩ := s
  rw [ho] at e; cases e
  rw [hc]
  unfold strIterType
  split <;> simp
end
noncomputable def zipObj (n : Nat) : Obj := { cls := .type "zip", dict := none, data := .fields #[.none, .bool false, .bool false, .ref (n + 2), .ref (n + 3)], slots := #[] }
section
variable {w : World} {A : Around} {E : Value → Shared → Prop} {s : Shared} {mg mb : Str → Option Value} {Q : Value → Shared → Prop}
theorem self_zip {n : Nat} {zs : List (Addr × Obj)} (h : (n + 4, zipObj n) ∈ zs) : SelfIt w (n + 4) zs := fun A s Q E hz hQ => iter_zip (hz _ h) hQ
theorem rule_reduce {h₀ : Heap} {L n : Nat} {m : Str → Option Value} {x y : Str} {tx ty t0 : Tok} (G : Gw w mg mb s.heap) (F : Fr h₀ L s.heap m) (hLn : L < n)
    (hz : ZipAt s.heap (n + 4) (n + 2) (n + 3) .none false) (hI : TupAt s.heap (n + 2) #[.ref n, .ref (n + 1)]) (hO : TupAt s.heap (n + 3) #[.none, .none]) (h1 : s.heap.get? n = some (strIt x tx)) (h2 : s.heap.get? (n + 1) = some (strIt y ty))
    (hx : x.cps.size = 10) (hy : y.cps.size = 10) (a1 : A.handled = none) (a2 : A.depth ≤ 600 - 10 * 1) (a3 : A.units ≤ 2000 - 50 * 1) (hn7 : 207 ≤ n)
    (h : ∀ t' h' tk, Fr h₀ L h' m → Q (.int (cmpTo x y 10) t') { s with heap := h', toks := tk }) : wpAny (model prog w) A (call (.ref 133) [.ref 175, .ref (n + 4), .int 0 t0]) Q E s := by
  have hI' : ∀ A : Around, A.handled = none → Iter w A (n + 4) 10 [n + 4, n + 3, n, n + 1] _ (Zip2St (n + 4) (n + 2) (n + 3) n (n + 1) (fun i h => h.IsStrIter n (strIterType x) x tx i) (fun i h => h.IsStrIter (n + 1) (strIterType y) y ty i)) := fun A hh => by
    have D1 := drawsStr (w := w) (A := A.in1) hh n x tx
    have D2 := drawsStr (w := w) (A := A.in1) hh (n + 1) y ty
    rw [hx] at D1
    rw [hy] at D2
    exact Iter.zip2 (by lia) D1 D2 (fun i h h' st k => kd_strIter st k) (fun i h h' st k => kd_strIter st k) (fun i h o st e => strIt_noTup st e) (fun i h o st e => strIt_noTup st e)
      (by simp) (by simp) (by simp) (by simp) (by simp) (by simp) (neN (by lia)) (neN (by lia)) (neN (by lia)) (neN (by lia)) (neN (by lia)) (neN (by lia)) (neN (by lia)) (neN (by lia)) (neN (by lia))
  have C := c_reduce (s := s) (k := 0) (by lia) G (f := 175) (z := n + 4) (k0 := 0) (t0 := t0) (zs := [(n + 4, zipObj n), (n + 2, { cls := .type "tuple", data := .seq #[.ref n, .ref (n + 1)] }), (n + 3, { cls := .type "tuple", data := .seq #[.none, .none] }), (n, strIt x tx), (n + 1, strIt y ty)])
    (by
      intro p hp
      simp only [List.mem_cons, List.not_mem_nil, or_false] at hp
      rcases hp with rfl | rfl | rfl | rfl | rfl
      · exact hz
      · exact hI
      · exact hO
      · exact h1
      · exact h2)
    (by intro a ha; simp at ha; rcases ha with rfl | rfl | rfl | rfl | rfl <;> first | exact hn7 | exact Nat.le_trans hn7 (Nat.le_add_right _ _)) (self_zip (.head _)) hI' (by intro a ha; simp at ha; rcases ha with rfl | rfl | rfl | rfl <;> simp)
    (fun h hp => ⟨⟨_, _, hp _ (.head _), fun _ => rfl, fun q => absurd q (by lia)⟩, hp _ (.tail _ (.head _)), ⟨_, _, hp _ (.tail _ (.tail _ (.head _)))⟩, strIt_at (hp _ (.tail _ (.tail _ (.tail _ (.head _))))), strIt_at (hp _ (.tail _ (.tail _ (.tail _ (.tail _ (.head _))))))⟩)
    (by k_is) rfl (fun i v => ∃ t, v = .int (cmpTo x y i) t) (fun t => ⟨t, rfl⟩)
    (by
      rintro i v el s' hi ⟨t, rfl⟩ ⟨T, a, b, rfl, hT, ⟨c, u, hc, rfl⟩, ⟨d, u', hd, rfl⟩⟩ hk G'
      refine wpAny_mono (c_unequal G' hT) (fun v s2 hb => ?_) fun _ _ e => e
      obtain ⟨h', tk, e, kp, t', rfl⟩ := hb
      refine ⟨h', tk, e, kp, t', ?_⟩
      have e1 : cpAt x i = c := by unfold cpAt; rw [hc]; rfl
      have e2 : cpAt y i = d := by unfold cpAt; rw [hd]; rfl
      show Value.int _ _ = Value.int (if cmpTo x y i = 0 then (cpAt x i : Int) - cpAt y i else cmpTo x y i) _
      rw [e1, e2])
  refine wpAny_mono (fit C a1 a2 a3) (fun v s' hb => ?_) fun _ _ e => e.elim
  obtain ⟨h', tk, rfl, hk, t', rfl⟩ := hb
  have hw : ∀ b, b ≤ L → b ∉ [n + 4, n + 3, n, n + 1] := fun b hb q => by simp at q; lia
  refine h t' h' tk ⟨ns_keep F.ns fun o e => hk _ _ (hw _ (Nat.le_refl _)) e, fun b o e => hk b o (hw b (Nat.le_of_lt (Nat.lt_of_lt_of_le (Heap.lt_size e) F.above))) (F.keep b o e), F.above⟩
end
section
variable {w : World} {A : Around} {E : Value → Shared → Prop} {s : Shared} {mg mb : Str → Option Value} {Q : Value → Shared → Prop}
/-- a zip of two texts, made in a frame -/
structure ZipHere (h : Heap) (n : Nat) (x y : Str) (tx ty : Tok) : Prop where
  hz : ZipAt h (n + 4) (n + 2) (n + 3) .none false
  hI : TupAt h (n + 2) #[.ref n, .ref (n + 1)]
  hO : TupAt h (n + 3) #[.none, .none]
  h1 : h.get? n = some (strIt x tx)
  h2 : h.get? (n + 1) = some (strIt y ty)
theorem line_zip {h₀ : Heap} {L : Nat} {m : Str → Option Value} {news : List (Addr × Obj)} {x y : Str} {tx ty : Tok} (F : Fr h₀ L s.heap m) (N : News h₀ L s.heap news)
    (h : ∀ n h', L < n → ZipHere h' n x y tx ty → Fr h₀ L h' m → News h₀ L h' news → Q (.ref (n + 4)) { s with heap := h' }) : wpAny (model prog w) A (call (.type "zip") [.str x tx, .str y ty]) Q E s := by
  refine call_zip2 (makes_str x tx) (makes_str y ty) (fun _ _ h => h) rfl rfl trivial trivial fun h' hz hI hO h1 h2 kp => ?_
  exact h _ h' F.ns.lt ⟨hz, hI, hO, h1, h2⟩ (F.kept kp) fun p hp => ⟨kp _ _ (N p hp).1, (N p hp).2⟩
theorem line_rule {h₀ : Heap} {L n : Nat} {m : Str → Option Value} {x y : Str} {tx ty t0 : Tok} (G : Gw w mg mb h₀) (F : Fr h₀ L s.heap m) (hLn : L < n) (Z : ZipHere s.heap n x y tx ty)
    (hx : x.cps.size = 10 ∧ y.cps.size = 10) (a1 : A.handled = none) (a2 : A.depth ≤ 600 - 10 * 1) (a3 : A.units ≤ 2000 - 50 * 1)
    (h : ∀ t' h' tk, Fr h₀ L h' m → News h₀ L h' [] → Q (.int (cmpTo x y 10) t') { s with heap := h', toks := tk }) : wpAny (model prog w) A (call (.ref 133) [.ref 175, .ref (n + 4), .int 0 t0]) Q E s :=
  rule_reduce (G.keeps F.keep) F hLn Z.hz Z.hI Z.hO Z.h1 Z.h2 hx.1 hx.2 a1 a2 a3 (Nat.le_trans G.size (Nat.le_trans F.above (Nat.le_of_lt hLn))) fun t' h' tk F' => h t' h' tk F' News.nil
end
section
variable {w : World} {s : Shared} {mg mb : Str → Option Value}
theorem c_rule (G : Gw w mg mb s.heap) {p q : Addr} {x y : Str} {tx ty : Tok} {u v : Value} (hp : TupAt s.heap p #[.str x tx, u]) (hq : TupAt s.heap q #[.str y ty, v]) (hxy : x.cps.size = 10 ∧ y.cps.size = 10) :
    wpAny (model prog w) (AL 2) (call (.ref 182) [.ref p, .ref q]) (Back s (isI (cmpTo x y 10))) NoE s := by
  have X := G.X
  have T := G.T
  refine enter X T.nolimit (by k_is) (by k_is) (by decide) (BindsTo.of_eq rfl) (locs rfl) (by decide) ?_
  intro L' h' F' N'
  k_with_none
  k_with "subscriptTail" => ((first | refine item0 (by assumption) (Fr.keep (by assumption)) ?_ | refine item1 (by assumption) (Fr.keep (by assumption)) ?_))
  k_with "call type:zip" => (((show wpAny _ _ (call (Value.type "zip") [Value.str _ _, Value.str _ _]) _ _ _); refine line_zip (by assumption) (by assumption) ?_; intro n' h' hLn' Z' F' N'))
  k_with "call ref" => (((show wpAny _ _ (call (Value.ref 133) [Value.ref 175, Value.ref _, Value.int _ _]) _ _ _); refine line_rule (by assumption) (by assumption) (by assumption) (by assumption) (by assumption) rfl (Nat.le_of_ble_eq_true rfl) (Nat.le_of_ble_eq_true rfl) ?_; intro t' h' tk' F' N'))
  k_steps
  exact back_i rfl (Fr.keep (by assumption))
end
end Mine
end

section
open PySem PySem.W PySem.Calls PyProof.Rows
set_option Elab.async false
set_option maxRecDepth 100000
set_option maxHeartbeats 4000000
set_option linter.unusedVariables false
namespace Mine
theorem fillLess : (fun (_ : OpenLaw) (_ : Params → Frag) => True) PySem.Challenge.rw_ny0158_01 K2 := by w_top off; k_fill; trivial
section
variable {w : World} {A : Around} {E : Value → Shared → Prop} {s : Shared} {mg mb : Str → Option Value} {Q : Value → Shared → Prop}
/-- a row of the listing: a text of ten signs and its place -/
noncomputable def RowAt (h : Heap) (p : Addr) (x : Str) (i : Int) : Prop := ∃ tx ti, TupAt h p #[.str x tx, .int i ti] ∧ x.cps.size = 10
theorem RowAt.keeps {h h' : Heap} {p : Addr} {x : Str} {i : Int} (r : RowAt h p x i) (k : Keeps h h') : RowAt h' p x i := by
  obtain ⟨tx, ti, e, z⟩ := r
  exact ⟨tx, ti, k _ _ e, z⟩
theorem c_ruleR (G : Gw w mg mb s.heap) {p q : Addr} {x y : Str} {i j : Int} (hp : RowAt s.heap p x i) (hq : RowAt s.heap q y j) :
    wpAny (model prog w) (AL 2) (call (.ref 182) [.ref p, .ref q]) (Back s (isI (cmpTo x y 10))) NoE s := by
  obtain ⟨tx, ti, e, z⟩ := hp
  obtain ⟨ty, tj, e', z'⟩ := hq
  exact c_rule G e e' ⟨z, z'⟩
theorem line_ruleR {h₀ : Heap} {L : Addr} {m : Str → Option Value} {news : List (Addr × Obj)} {p q : Addr} {x y : Str} {i j : Int} (G : Gw w mg mb h₀) (hp : RowAt h₀ p x i) (hq : RowAt h₀ q y j)
    (h1 : A.handled = none) (h2 : A.depth ≤ 600 - 10 * 2) (h3 : A.units ≤ 2000 - 50 * 2) (F : Fr h₀ L s.heap m) (N : News h₀ L s.heap news)
    (h : ∀ t' h' tk, Fr h₀ L h' m → News h₀ L h' news → Q (.int (cmpTo x y 10) t') { s with heap := h', toks := tk }) : wpAny (model prog w) A (call (.ref 182) [.ref p, .ref q]) Q E s :=
  line_i (c_ruleR (G.keeps F.keep) (hp.keeps F.keep) (hq.keeps F.keep)) h1 h2 h3 F N h
end
section
variable {w : World} {s : Shared} {mg mb : Str → Option Value}
theorem back_r {h' : Heap} {tk : Nat} {a b : Addr} (e : a = b) (F : Keeps s.heap h') : Back s (fun v _ => v = .ref b) (.ref a) { s with heap := h', toks := tk } := ⟨_, _, rfl, F, by rw [e]⟩
theorem c_lesser (G : Gw w mg mb s.heap) {p q : Addr} {x y : Str} {i j : Int} (hp : RowAt s.heap p x i) (hq : RowAt s.heap q y j) :
    wpAny (model prog w) (AL 3) (call (.ref 189) [.ref p, .ref q]) (Back s (fun v _ => v = .ref (if cmpTo y x 10 < 0 then q else p))) NoE s := by
  have X := G.X
  have T := G.T
  refine enter X T.nolimit (by k_is) (by k_is) (by decide) (BindsTo.of_eq rfl) (locs rfl) (by decide) ?_
  intro L' h' F' N'
  k_with_none
  k_with "call ref" => (((show wpAny _ _ (call (Value.ref 182) [Value.ref _, Value.ref _]) _ _ _); refine line_ruleR (by assumption) (by assumption) (by assumption) rfl (Nat.le_of_ble_eq_true rfl) (Nat.le_of_ble_eq_true rfl) (by assumption) (by assumption) ?_; intro t' h' tk' F' N'))
  k_steps
  · refine back_r ?_ (Fr.keep (by assumption))
    split <;> first | rfl | omega
  · refine back_r ?_ (Fr.keep (by assumption))
    split <;> first | rfl | omega
end
end Mine
end

section
open PySem PySem.W PySem.Calls PyProof.Rows
set_option Elab.async false
set_option maxRecDepth 100000
set_option maxHeartbeats 4000000
set_option linter.unusedVariables false
namespace Mine
theorem fillRedL : (fun (_ : OpenLaw) (_ : Params → Frag) => True) PySem.Challenge.rw_ny0158_01 K2 := by w_top off; k_fill; trivial
section
variable {w : World} {A : Around} {E : Value → Shared → Prop} {s : Shared} {mg mb : Str → Option Value} {Q : Value → Shared → Prop}
theorem line_iterL {h₀ : Heap} {L D : Addr} {m : Str → Option Value} {news : List (Addr × Obj)} {xs : Array Value} (hl : h₀.IsList D xs) (F : Fr h₀ L s.heap m) (N : News h₀ L s.heap news)
    (h : ∀ I h', (∀ p ∈ news, p.1 < I) → Fr h₀ L h' m → News h₀ L h' ((I, listIt D) :: news) → Q (.ref I) { s with heap := h' }) : wpAny (model prog w) A (call (.builtin "iter") [.ref D]) Q E s :=
  call_iter (wpAny_pyIter_list (hl.at fun o e => F.keep _ _ e) (h _ _ (fun p hp => Heap.lt_size (N p hp).1) (F.push _) (News.push F N _ rfl)))
theorem special_list {it l : Addr} {i : Nat} {items : Array Value} {x : Value} {Q : Option Value → Shared → Prop} (hit : s.heap.IsListIter it l i) (hl : s.heap.IsList l items) (hx : items[i]? = some x)
    (hQ : ∀ h', h'.get? it = some { cls := .type "list_iterator", data := .fields #[.ref l, .int (i + 1 : Nat) 0] } → Heap.SameBut it s.heap h' → Q (some x) { s with heap := h' }) (hpl : s.heap.get? it = some { cls := .type "list_iterator", data := .fields #[.ref l, .int i 0] }) :
    wpAny (model prog w) A (callSpecial? (.ref it) (Str.ofString "__next__")) Q E s := by
  obtain ⟨o, ho, hc, hd⟩ := id hit
  obtain ⟨ol, hol, _, nl, hdl⟩ := hl
  refine wpAny_callSpecial?_slot (name := Str.ofString "__next__") hit.typeIs slot_listiter_next (wpAny_call_entry slot_listiter_next hit.typeIs entry_listiter_next ?_ (args_listiter_next _))
  show wpAny _ _ (field (.ref it) 0 >>= _) _ _ s
  refine wpAny_bind (wpAny_field ho hd (x := .ref l) rfl ?_)
  show wpAny _ _ (if (Value.ref l == Value.none) = true then _ else _) _ _ s
  rw [if_neg (show ¬ ((Value.ref l == Value.none) = true) from Bool.false_ne_true)]
  show wpAny _ _ (field (.ref it) 1 >>= _) _ _ s
  refine wpAny_bind (wpAny_field ho hd (x := .int i 0) rfl ?_)
  show wpAny _ _ (seqItems? (.ref l) >>= _) _ _ s
  refine wpAny_bind (wpAny_seqItems hol hdl ?_)
  simp only [Int.toNat_natCast, hx]
  refine wpAny_bind (wpAny_setField_rec hpl (by simp) fun h' hit' hs' => wpAny_pure ⟨x, rfl, hQ h' ?_ hs'⟩)
  rw [hit']
  simp [rawInt]
theorem call_nextL {it l : Addr} {i : Nat} {items : Array Value} {x : Value} {Q : Value → Shared → Prop} (hl : s.heap.IsList l items) (hx : items[i]? = some x)
    (hQ : ∀ h', h'.get? it = some { cls := .type "list_iterator", data := .fields #[.ref l, .int (i + 1 : Nat) 0] } → Heap.SameBut it s.heap h' → Q x { s with heap := h' }) (hpl : s.heap.get? it = some { cls := .type "list_iterator", data := .fields #[.ref l, .int i 0] }) :
    wpAny (model prog w) A (call (.builtin "next") [.ref it]) Q E s := by
  have hit : s.heap.IsListIter it l i := ⟨_, hpl, rfl, rfl⟩
  refine call_function_entry (by decide +kernel) (by decide +kernel) kdk_entry_next (kdk_args_next _) ?_
  unfold Builtin.«next»
  refine wpAny_bind (m := someArgs "next" 1 2 _) (wpAny_of_eq (a := [Value.ref it]) (by first | rfl | kernel_rfl!) ?_)
  dsimp only
  refine wpAny_bind (wpAny_specialOf (name := Str.ofString "__next__") hit.typeIs slot_listiter_next.lookup ?_)
  refine wpAny_ite_split (fun hab => absurd hab (by decide)) (fun _ => ?_)
  exact wpAny_bind (special_list hit hl hx (fun h' h1 h2 => wpAny_pure ⟨_, rfl, hQ h' h1 h2⟩) hpl)
theorem line_nextL {h₀ : Heap} {L D I : Addr} {m : Str → Option Value} {xs : Array Value} {x : Value} (hl : h₀.IsList D xs) (hx : xs[0]? = some x) (F : Fr h₀ L s.heap m) (N : News h₀ L s.heap [(I, listIt D)])
    (h : ∀ h', Fr h₀ L h' m → News h₀ L h' [(I, { cls := .type "list_iterator", data := .fields #[.ref D, .int 1 0] })] → Q x { s with heap := h' }) : wpAny (model prog w) A (call (.builtin "next") [.ref I]) Q E s := by
  have hI := N _ (.head _)
  refine call_nextL (i := 0) (hl.at fun o e => F.keep _ _ e) hx (fun h' h1 h2 => ?_) hI.1
  refine h h' (F.change h2 hI.2.1 hI.2.2) fun p hp => ?_
  rw [List.mem_singleton] at hp
  subst hp
  exact ⟨h1, hI.2⟩
theorem Iter.tail {I : Addr} {n : Nat} {wr : List Addr} {P : Nat → Value → Heap → Prop} {St : Nat → Heap → Prop} (IT : Iter w A I (n + 1) wr P St) : Iter w A I n wr (fun i => P (i + 1)) (fun i => St (i + 1)) where
  kd := fun i => IT.kd (i + 1)
  item := fun i s Q E hi => IT.item (i + 1) s Q E (by omega)
  done := IT.done
  self := fun i => IT.self (i + 1)
  pkd := fun i => IT.pkd (i + 1)
end
section
variable {w : World} {s : Shared} {mg mb : Str → Option Value}
/-- reduce without a first value, over a list -/
theorem c_reduceL (G : Gw w mg mb s.heap) {D : Addr} {xs : Array Value} {x0 : Value} {n : Nat} (hl : s.heap.IsList D xs) (hx0 : xs[0]? = some x0) (hsz : xs.size = n + 1) (Rl : Nat → Value → Prop) (h0 : Rl 0 x0)
    (fc : ∀ i v el (s' : Shared), i < n → Rl i v → xs[i + 1]? = some el → Keeps s.heap s'.heap → Gw w mg mb s'.heap → wpAny (model prog w) (AL 3) (call (.ref 189) [v, el]) (Back s' (fun v' _ => Rl (i + 1) v')) NoE s') :
    wpAny (model prog w) (AL 4) (call (.ref 133) [.ref 189, .ref D]) (Back s (fun v _ => Rl n v)) NoE s := by
  have X := G.X
  have T := G.T
  refine enterG [] X T.nolimit (fun _ q => nomatch q) (by k_is) (by k_is) (by decide) (binds_K G.X rfl (by k_is) rfl rfl rfl) (locs rfl) (by decide) ?_
  intro g L' h' hg hL' hk' F' N'
  have hg' : g = s.heap := hg
  subst hg'
  k_with_none
  k_with "call builtin:iter" => ((refine line_iterL (by assumption) (by assumption) (by assumption) ?_; intro I' h' l1' F' N'))
  k_with "call builtin:next" => ((refine line_nextL (by assumption) (by assumption) (by assumption) (by assumption) ?_; intro h' F' N'))
  k_with "exec For Name Name cons nil" => ((refine held_of ?_))
  k_steps
  rename Fr _ _ _ _ => F2
  rename News _ _ _ _ => N2
  unfold Held
  have hI := N2 _ (.head _)
  dsimp only at hI
  obtain ⟨oD, hoD, hcD, nD, hdD⟩ := id hl
  have hLs : 207 ≤ L' := by rw [hL']; exact G.size
  refine red_for (Iter.tail (w := w) (n := n) (hsz ▸ Iter.list (w := w) rfl (fun q => by rw [q, hI.2.2] at hoD; cases hoD) xs)) rfl rfl rfl rfl rfl F2.ns rfl rfl rfl ?_ (X.keeps F2.keep 189 _ (by k_is)) rfl ?_ ?_ ⟨⟨_, hI.1, rfl, rfl⟩, hl.at fun o e => F2.keep _ _ e⟩ Rl h0 ?_ ?_
  · intro q
    rw [List.mem_singleton] at q
    exact hI.2.1 q.symm
  · intro q
    rw [List.mem_singleton] at q
    obtain ⟨o, ho⟩ := G.alive 189 (by decide)
    rw [q, hI.2.2] at ho; cases ho
  · intro q
    exact absurd hLs (by rw [← show (189 : Nat) = L' from q]; decide)
  · intro i v el s' hi hR hP hk2
    have k3 : Keeps s.heap s'.heap := fun b o e => hk2 b o (fun z => by
      rcases List.mem_cons.mp z with z | z
      · rw [z] at e; exact absurd (Nat.lt_of_lt_of_le (Heap.lt_size e) F2.above) (Nat.lt_irrefl _)
      · rw [List.mem_singleton.mp z, hI.2.2] at e; cases e) (F2.keep b o e)
    exact fit (fc i v el s' hi hR hP k3 (G.keeps k3)) rfl (Nat.le_of_ble_eq_true rfl) (Nat.le_of_ble_eq_true rfl)
  · intro v h3 tk3 m3 n3 mV hR hk3
    refine wpAny_execs_cons (wpAny_Return_some (ev_local rfl rfl n3 mV ?_))
    refine ⟨h3, tk3, rfl, fun b o e => hk3 b o (fun z => ?_) (F2.keep b o e), hR⟩
    rcases List.mem_cons.mp z with z | z
    · rw [z] at e; exact absurd (Nat.lt_of_lt_of_le (Heap.lt_size e) F2.above) (Nat.lt_irrefl _)
    · rw [List.mem_singleton.mp z, hI.2.2] at e; cases e
end
end Mine
end

section
open PySem PySem.W PyProof.Rows
set_option Elab.async false
set_option maxRecDepth 100000 
set_option maxHeartbeats 4000000
namespace Mine
theorem fillWritten : (fun (_ : OpenLaw) (_ : Params → Frag) => True) PySem.Challenge.rw_ny0158_01 hd.heap_39 := by w_top off; k_fill; trivial
theorem len10 {α : Type} {ys : List α} (h : ys.length = 10) : ∃ a b c d e f g i j k, ys = [a, b, c, d, e, f, g, i, j, k] := by
  match ys, h with
  | [a, b, c, d, e, f, g, i, j, k], _ => exact ⟨a, b, c, d, e, f, g, i, j, k, rfl⟩
section
variable {w : World} {A : Around} {E : Value → Shared → Prop} {s : Shared} {mean : ExcName → Option Value} {mg mb : Str → Option Value} {Q : Value → Shared → Prop}
theorem news_cons {h₀ h : Heap} {L D : Addr} {m : Str → Option Value} {o : Obj} {news : List (Addr × Obj)} {s₀ : Heap} (F : Fr h₀ L s₀ m) (hn : s₀.get? D = none) (ho : h.get? D = some o) (N : News h₀ L h news) : News h₀ L h ((D, o) :: news) := by
  intro p hp
  rcases List.mem_cons.mp hp with rfl | hp
  · refine ⟨ho, fun e => ?_, ?_⟩
    · obtain ⟨oL, _, _, hL, _⟩ := F.ns
      rw [show D = L from e, hL] at hn; cases hn
    · cases q : h₀.get? D with
      | none => rfl
      | some o' => rw [F.keep _ _ q] at hn; cases hn
  · exact N p hp
theorem news_lt {h₀ h : Heap} {L D : Addr} {news : List (Addr × Obj)} (N : News h₀ L h news) (hn : h.get? D = none) : ∀ p ∈ news, p.1 ≠ D := fun p hp e => by
  have := (N p hp).1
  rw [e, hn] at this; cases this
theorem l_signs {h₀ : Heap} {L : Addr} {m : Str → Option Value} {news : List (Addr × Obj)} (X : (hd.heap_39 w.params).In s.heap) (T : Top hd.view_39 loose mean mg mb s.heap)
    (h1 : A.handled = none) (h2 : A.depth ≤ 600) (h3 : A.units ≤ 2000) (F : Fr h₀ L s.heap m) (N : News h₀ L s.heap news)
    (h : ∀ D t0 t1 t2 t3 t4 t5 t6 t7 t8 t9 n h' tk, Fr h₀ L h' m → News h₀ L h' ((D, listOf (List.toArray [.str (Str.ofString "-?bcdlps") t0, .str (Str.ofString "-r") t1, .str (Str.ofString "-w") t2, .str (Str.ofString "-Ssx") t3, .str (Str.ofString "-r") t4, .str (Str.ofString "-w") t5, .str (Str.ofString "-Ssx") t6, .str (Str.ofString "-r") t7, .str (Str.ofString "-w") t8, .str (Str.ofString "-Ttx") t9]) n) :: news) → (∀ p ∈ news, p.1 ≠ D) → Q (.ref D) { s with heap := h', toks := tk }) :
    wpAny (model prog w) A (call (.ref 140) []) Q E s := by
  refine line (c_signs X T) h1 h2 h3 F N ?_
  rintro v h' tk ⟨vs, ⟨ts, rfl, hl⟩, D, n, rfl, ho, hn⟩ kp F' N'
  obtain ⟨t0, t1, t2, t3, t4, t5, t6, t7, t8, t9, rfl⟩ := len10 hl
  exact h D t0 t1 t2 t3 t4 t5 t6 t7 t8 t9 n h' tk F' (news_cons F hn ho N') (news_lt N hn)
end
section
variable {w : World} {A : Around} {E : Value → Shared → Prop} {s : Shared} {env : Env} {h₀ : Heap} {x : Str} {body : List Stmt} {Q : Flow → Shared → Prop}
theorem iter_signs {D I : Addr} {n : Nat} {m₀ : Str → Option Value} {t0 t1 t2 t3 t4 t5 t6 t7 t8 t9 : Tok} (hh : A.handled = none) (F : Fr h₀ env.locals s.heap m₀)
    (N : News h₀ env.locals s.heap [(I, revObj D 9), (D, listOf (List.toArray [.str (Str.ofString "-?bcdlps") t0, .str (Str.ofString "-r") t1, .str (Str.ofString "-w") t2, .str (Str.ofString "-Ssx") t3, .str (Str.ofString "-r") t4, .str (Str.ofString "-w") t5, .str (Str.ofString "-Ssx") t6, .str (Str.ofString "-r") t7, .str (Str.ofString "-w") t8, .str (Str.ofString "-Ttx") t9]) n)])
    (rest : RevRest prog w A E h₀ env x body Q s I (D, listOf (List.toArray [.str (Str.ofString "-?bcdlps") t0, .str (Str.ofString "-r") t1, .str (Str.ofString "-w") t2, .str (Str.ofString "-Ssx") t3, .str (Str.ofString "-r") t4, .str (Str.ofString "-w") t5, .str (Str.ofString "-Ssx") t6, .str (Str.ofString "-r") t7, .str (Str.ofString "-w") t8, .str (Str.ofString "-Ttx") t9]) n)
      [.str (Str.ofString "-Ttx") t9, .str (Str.ofString "-w") t8, .str (Str.ofString "-r") t7, .str (Str.ofString "-Ssx") t6, .str (Str.ofString "-w") t5, .str (Str.ofString "-r") t4, .str (Str.ofString "-Ssx") t3, .str (Str.ofString "-w") t2, .str (Str.ofString "-r") t1, .str (Str.ofString "-?bcdlps") t0] m₀ [(D, listOf (List.toArray [.str (Str.ofString "-?bcdlps") t0, .str (Str.ofString "-r") t1, .str (Str.ofString "-w") t2, .str (Str.ofString "-Ssx") t3, .str (Str.ofString "-r") t4, .str (Str.ofString "-w") t5, .str (Str.ofString "-Ssx") t6, .str (Str.ofString "-r") t7, .str (Str.ofString "-w") t8, .str (Str.ofString "-Ttx") t9]) n)]) :
    wpAny (model prog w) A (pyIter (.ref I)) (fun it s₂ => LoopAtV prog w A h₀ env x body Q E it s₂) E s :=
  iter_revUnr (vs := [.str (Str.ofString "-?bcdlps") t0, .str (Str.ofString "-r") t1, .str (Str.ofString "-w") t2, .str (Str.ofString "-Ssx") t3, .str (Str.ofString "-r") t4, .str (Str.ofString "-w") t5, .str (Str.ofString "-Ssx") t6, .str (Str.ofString "-r") t7, .str (Str.ofString "-w") t8, .str (Str.ofString "-Ttx") t9]) (n := n) hh F N (by k_offL) (.head _) rfl rfl rest
end
/-- the text of a number -/
noncomputable def lawWritten (k : Int) : Str :=
  Txt.item (Str.ofString "-?bcdlps") ((((((((((k.fdiv ((4 : Nat) : Int)).fdiv ((2 : Nat) : Int)).fdiv ((2 : Nat) : Int)).fdiv ((4 : Nat) : Int)).fdiv ((2 : Nat) : Int)).fdiv ((2 : Nat) : Int)).fdiv ((4 : Nat) : Int)).fdiv ((2 : Nat) : Int)).fdiv ((2 : Nat) : Int)).fmod ((8 : Nat) : Int)) ++ (Txt.item (Str.ofString "-r") (((((((((k.fdiv ((4 : Nat) : Int)).fdiv ((2 : Nat) : Int)).fdiv ((2 : Nat) : Int)).fdiv ((4 : Nat) : Int)).fdiv ((2 : Nat) : Int)).fdiv ((2 : Nat) : Int)).fdiv ((4 : Nat) : Int)).fdiv ((2 : Nat) : Int)).fmod ((2 : Nat) : Int)) ++ (Txt.item (Str.ofString "-w") ((((((((k.fdiv ((4 : Nat) : Int)).fdiv ((2 : Nat) : Int)).fdiv ((2 : Nat) : Int)).fdiv ((4 : Nat) : Int)).fdiv ((2 : Nat) : Int)).fdiv ((2 : Nat) : Int)).fdiv ((4 : Nat) : Int)).fmod ((2 : Nat) : Int)) ++ (Txt.item (Str.ofString "-Ssx") (((((((k.fdiv ((4 : Nat) : Int)).fdiv ((2 : Nat) : Int)).fdiv ((2 : Nat) : Int)).fdiv ((4 : Nat) : Int)).fdiv ((2 : Nat) : Int)).fdiv ((2 : Nat) : Int)).fmod ((4 : Nat) : Int)) ++ (Txt.item (Str.ofString "-r") ((((((k.fdiv ((4 : Nat) : Int)).fdiv ((2 : Nat) : Int)).fdiv ((2 : Nat) : Int)).fdiv ((4 : Nat) : Int)).fdiv ((2 : Nat) : Int)).fmod ((2 : Nat) : Int)) ++ (Txt.item (Str.ofString "-w") (((((k.fdiv ((4 : Nat) : Int)).fdiv ((2 : Nat) : Int)).fdiv ((2 : Nat) : Int)).fdiv ((4 : Nat) : Int)).fmod ((2 : Nat) : Int)) ++ (Txt.item (Str.ofString "-Ssx") ((((k.fdiv ((4 : Nat) : Int)).fdiv ((2 : Nat) : Int)).fdiv ((2 : Nat) : Int)).fmod ((4 : Nat) : Int)) ++ (Txt.item (Str.ofString "-r") (((k.fdiv ((4 : Nat) : Int)).fdiv ((2 : Nat) : Int)).fmod ((2 : Nat) : Int)) ++ (Txt.item (Str.ofString "-w") ((k.fdiv ((4 : Nat) : Int)).fmod ((2 : Nat) : Int)) ++ (Txt.item (Str.ofString "-Ttx") (k.fmod ((4 : Nat) : Int)) ++ (Str.ofString ""))))))))))
section
variable {w : World} {A : Around} {E : Value → Shared → Prop} {env : Env} {h₀ : Heap} {mg mb m : Str → Option Value} {news : List (Addr × Obj)}
theorem ev_len {s : Shared} {x : Str} {tx : Tok} {n : Nat} {p1 p2 p3 : Pos} {Q : Value → Shared → Prop} (hk : env.scope.kind = .function) (kS : env.kindOf (Str.ofString "signs") = some .local) (kL : env.kindOf (Str.ofString "len") = some .globalImplicit) (hg : s.heap.Ns env.globals mg) (hb : s.heap.Ns env.builtins mb) (hl : mg (Str.ofString "len") = none) (hl2 : mb (Str.ofString "len") = some (.builtin "len")) (hn : s.heap.Ns env.locals m) (mS : m (Str.ofString "signs") = some (.str x tx)) (hx : x.length = n) (h8 : n ≤ 8)
    (h : ∀ t tk, Q (.int n t) { s with toks := tk }) : wpAny (model prog w) A (PySem.eval (.Call (.Name (Str.ofString "len") p1) [.Name (Str.ofString "signs") p2] [] p3) env) Q E s := by
  refine Call_ (wpAny_Name ?_ (by decide))
  unfold loadName Env.blockKind
  rw [hk, kL]
  refine wpAny_ite_false (by kernel_rfl) ?_
  unfold loadGlobal
  refine wpAny_bind (wpAny_nsGet hg ?_)
  rw [hl]
  refine wpAny_bind (wpAny_nsGet hb ?_)
  rw [hl2]
  refine wpAny_pure ?_
  refine PyProof.Rows.callWith_builtin1 (args_cons (wpAny_Name (wpAny_loadName_local hk kS hn mS (args_nil ?_)) (by decide)))
  refine P.len_str (by omega) ?_
  rw [hx]
  exact h _ _
/-- a turn of the loop -/
theorem written_turn {s₀ : Shared} {hp : Heap} {tk : Nat} {x y : Str} {tx ty tt : Tok} {k : Int} {n j : Nat} {p1 p2 p3 p4 p5 p6 p7 p8 p9 q1 q2 q3 q4 q5 q6 q7 q8 q9 : Pos} {rest : List Stmt} {Q : Flow → Shared → Prop} (hk : env.scope.kind = .function) (kS : env.kindOf (Str.ofString "signs") = some .local) (kT : env.kindOf (Str.ofString "text") = some .local) (kO : env.kindOf (Str.ofString "told") = some .local) (kL : env.kindOf (Str.ofString "len") = some .globalImplicit)
    (hg : h₀.Ns env.globals mg) (hb : h₀.Ns env.builtins mb) (hl : mg (Str.ofString "len") = none) (hl2 : mb (Str.ofString "len") = some (.builtin "len")) (F : Fr h₀ env.locals hp m) (N : News h₀ env.locals hp news) (mS : m (Str.ofString "signs") = some (.str x tx)) (mO : m (Str.ofString "told") = some (.int k tt)) (mT : m (Str.ofString "text") = some (.str y ty)) (hx : x.length = n) (h0 : n ≠ 0) (h8 : n ≤ 8) (hy : y.length ≤ j) (hj : j ≤ 50)
    (h : ∀ h' t1 t2 tk, (Txt.item x (k.fmod n) ++ y).length ≤ j + 1 → Fr h₀ env.locals h' (fun z => if z = Str.ofString "told" then some (.int (k.fdiv n) t2) else if z = Str.ofString "text" then some (.str (Txt.item x (k.fmod n) ++ y) t1) else m z) → News h₀ env.locals h' news → wpAny (model prog w) A (execs rest env) Q E { s₀ with heap := h', toks := tk }) :
    wpAny (model prog w) A (execs (.Assign [.Name (Str.ofString "text") p1] (.BinOp (.Subscript (.Name (Str.ofString "signs") p2) (.BinOp (.Name (Str.ofString "told") p3) .Mod (.Call (.Name (Str.ofString "len") p4) [.Name (Str.ofString "signs") p5] [] p6) p7) p8) .Add (.Name (Str.ofString "text") p9) q1) q2
      :: .Assign [.Name (Str.ofString "told") q3] (.BinOp (.Name (Str.ofString "told") q4) .FloorDiv (.Call (.Name (Str.ofString "len") q5) [.Name (Str.ofString "signs") q6] [] q7) q8) q9 :: rest) env) Q E { s₀ with heap := hp, toks := tk } := by
  have r1 : 0 ≤ k.fmod n := Int.fmod_nonneg_of_pos _ (by omega)
  have r2 : k.fmod n < n := Int.fmod_lt_of_pos _ (by omega)
  refine wpAny_execs_cons (wpAny_Assign_Name (wpAny_BinOp (Subscript_ (wpAny_Name (wpAny_loadName_local hk kS F.ns mS ?_) (by decide)))))
  refine wpAny_BinOp (wpAny_Name (wpAny_loadName_local hk kO F.ns mO ?_) (by decide))
  refine ev_len hk kS kL (hg.keeps F.keep) (hb.keeps F.keep) hl hl2 F.ns mS hx h8 fun t1 tk1 => ?_
  refine PyProof.Rows.mod_int (by omega) ?_
  refine tail_any (typeIs_str _ x _) PyProof.Rows.slot_str_getitem.lookup (SB.getItem (fitsSsize_of (N := 9223372036854775808) (by omega) (by omega) (Int.le_refl _)) (charAt_isSome (by omega) (by omega)) ?_) (by with_unfolding_all rfl)
  refine wpAny_Name (wpAny_loadName_local hk kT F.ns mT ?_) (by decide)
  have len : (Txt.item x (k.fmod n) ++ y).length ≤ j + 1 := by rw [Str.length_append, len_item]; omega
  refine SB.add (fun t2 tk2 => ?_) (by rw [len_item, sizeLine_eq]; omega)
  refine store_fr (s := { s₀ with heap := hp, toks := tk2 }) hk kT F N fun h1 tk3 F1 N1 => ?_
  refine wpAny_execs_cons (wpAny_Assign_Name (wpAny_BinOp (wpAny_Name (wpAny_loadName_local hk kO F1.ns ((if_neg (by decide)).trans mO) ?_) (by decide))))
  refine ev_len (s := { s₀ with heap := h1, toks := tk3 }) hk kS kL (hg.keeps F1.keep) (hb.keeps F1.keep) hl hl2 F1.ns ((if_neg (by decide)).trans mS) hx h8 fun t4 tk4 => ?_
  refine PyProof.Rows.floordiv_int (by omega) ?_ (.inl (PyProof.noPylong_small (by omega)))
  exact store_fr (s := { s₀ with heap := h1, toks := tk4 + 1 }) hk kO F1 N1 fun h2 tk5 F2 N2 => h h2 t2 _ tk5 len F2 N2
end
theorem back_s {s : Shared} {h' : Heap} {tk : Nat} {t : Tok} {x y : Str} (e : x = y) (F : Keeps s.heap h') : Back s (isS y) (.str x t) { s with heap := h', toks := tk } := ⟨_, _, rfl, F, t, by rw [e]⟩
section
variable {w : World} {s : Shared} {mean : ExcName → Option Value} {mg mb : Str → Option Value}
theorem c_written (X : (hd.heap_39 w.params).In s.heap) (T : Top hd.view_39 loose mean mg mb s.heap) {k : Int} {t : Tok} (h0 : 0 ≤ k) (h1 : k < 32768) :
    wpAny (model prog w) (AL 1) (call (.ref 154) [.int k t]) (Back s (isS (lawWritten k))) NoE s := by

  refine enter X T.nolimit (by k_is) (by k_is) (by decide) (BindsTo.of_eq rfl) (locs rfl) (by decide) ?_
  intro L' h' F' N'
  have len0 : (Str.ofString "").length ≤ 0 := by decide
  have mgl : mg (Str.ofString "len") = none := T.free _ (by decide +kernel) (by decide +kernel) (by decide +kernel) (by decide +kernel) (by decide +kernel)
  have mbl : mb (Str.ofString "len") = some (.builtin "len") := (T.builtins _ (by decide +kernel)).trans (by kernel_rfl)
  k_with_none
  k_with "call ref" => (((show wpAny _ _ (call (Value.ref 140) []) _ _ _); refine' l_signs ?k1 ?k2 rfl (Nat.le_of_ble_eq_true rfl) (Nat.le_of_ble_eq_true rfl) ?k3 ?k4 ?_; (case k1 => exact Frag.In.keeps (by assumption) (Fr.keep (by assumption))); (case k2 => exact Top.keeps (by assumption) (Fr.keep (by assumption))); (case k3 => assumption); (case k4 => assumption); intro D' t0' t1' t2' t3' t4' t5' t6' t7' t8' t9' n' h' tk' F' N' l1'))
  k_with "pyIter ref" => ((refine iter_signs rfl (by assumption) (by assumption) ?_))
  k_with "turn" => (
    unfold Held0
    refine' written_turn (s₀ := s) rfl rfl rfl rfl rfl T.g T.b mgl mbl ?k1 ?k2 ?k4 ?k5 ?k6 ?k7 ?k8 ?k9 ?k3 ?k10 ?_
    (case k1 => assumption)
    (case k2 => assumption)
    (case k4 => rfl)
    (case k5 => rfl)
    (case k6 => rfl)
    (case k7 => first | exact (show Str.length _ = 2 by decide) | exact (show Str.length _ = 4 by decide) | exact (show Str.length _ = 8 by decide))
    (case k8 => decide)
    (case k9 => decide)
    (case k3 => assumption)
    (case k10 => decide)
    intro h' t1 t2 tk' l1' F' N')
  k_with "execs cons" => ((show wpAny _ _ (execs (Stmt.Assign [Expr.Name (Str.ofString "text") _] (Expr.BinOp _ _ _ _) _ :: _) _) _ _ _); refine held0_of ?_)
  k_steps
  iterate 10 (k_extra "turn"; k_steps)
  exact back_s rfl (Fr.keep (by assumption))
end
end Mine
end

section
open PySem PySem.W PySem.Calls PyProof.Rows
set_option Elab.async false
set_option maxRecDepth 100000
set_option maxHeartbeats 4000000
set_option linter.unusedVariables false
namespace Mine
section
variable {w : World} {A : Around} {E : Value → Shared → Prop} {s : Shared} {env : Env}
theorem assign_pair {a b : Str} {pa pb pt : Pos} {x1 : Nat} {T : Addr} {v0 v1 : Value} {m : Str → Option Value} {Q : Unit → Shared → Prop} (hh : A.handled = none) (hT : s.heap.IsTuple T #[v0, v1]) (hk : env.scope.kind = .function)
    (ka : env.kindOf a = some .local) (kb : env.kindOf b = some .local) (hn : s.heap.Ns env.locals m)
    (h : ∀ h' tk, h'.Ns env.locals (fun y => if y = b then some v1 else if y = a then some v0 else m y) → KD s.heap h' → KeepsBut [env.locals] s.heap h' → Q () { s with heap := h', toks := tk }) :
    wpAny (model prog w) A (assign (.Tuple [.Name a pa, .Name b pb] x1 pt) env (.ref T)) Q E s := by
  have hp : (env.scope.kind == .class || (env.scope.kind == .module && env.locals != env.globals)) = false := by rw [hk]; rfl
  refine wpAny_assign_Tuple hh hT rfl rfl fun h3 x3 => ?_
  have up : Keeps s.heap h3 := fun b o x => x3 b o (Nat.ne_of_lt (Heap.lt_size x)) x
  show wpAny _ A (do holding [v1] (assign (.Name a pa) env v0); do holding [] (assign (.Name b pb) env v1); pure ()) _ _ _
  have n3 := ns_keep hn fun o e => up _ _ e
  refine wpAny_bind (wpAny_holding (wpAny_assign_Name (wpAny_storeName_local ka n3 (fun h4 n4 s4 => ?_) hp)))
  refine wpAny_bind (wpAny_holding (wpAny_assign_Name (wpAny_storeName_local kb n4 (fun h5 n5 s5 => wpAny_pure ?_) hp)))
  exact h h5 _ n5 (up.kd.trans ((KD.of_same n3 s4).trans (KD.of_same n4 s5))) (up.but.trans ((KeepsBut.of_same s4).trans (KeepsBut.of_same s5)))
/-- the turns of a loop over pairs that stand, with break and else -/
noncomputable def PRest (w : World) (A : Around) (h₀ : Heap) (env : Env) (a b : Str) (body orelse : List Stmt) (Q : Flow → Shared → Prop) (s : Shared) (news : List (Addr × Obj)) (I : Addr) : List (Value × Value) → (Str → Option Value) → Prop
  | [], m => ∀ h tk, Fr h₀ env.locals h m → News h₀ env.locals h news → wpAny (model prog w) A (execs orelse env) Q NoE { s with heap := h, toks := tk }
  | p :: r, m => ∀ h tk o, Fr h₀ env.locals h (fun y => if y = b then some p.2 else if y = a then some p.1 else m y) → News h₀ env.locals h (news ++ [(I, o)]) →
      wpAny (model prog w) A (execs body env) (fun f s' => match f with
        | .next => ∃ h' tk', s' = { s with heap := h', toks := tk' } ∧ Fr h₀ env.locals h' (fun y => if y = b then some p.2 else if y = a then some p.1 else m y) ∧ News h₀ env.locals h' (news ++ [(I, o)]) ∧
            PRest w A h₀ env a b body orelse Q s news I r (fun y => if y = b then some p.2 else if y = a then some p.1 else m y)
        | .cont => False
        | .brk => Q .next s'
        | .ret v => Q (.ret v) s') NoE { s with heap := h, toks := tk }
theorem inner_for {h₀ : Heap} {a b tn : Str} {pa pb pt pn pos : Pos} {x1 : Nat} {T : Addr} {its : List (Addr × Value × Value)} {body orelse : List Stmt} {m : Str → Option Value} {news : List (Addr × Obj)} {Q : Flow → Shared → Prop} (hh : A.handled = none)
    (hk : env.scope.kind = .function) (ka : env.kindOf a = some .local) (kb : env.kindOf b = some .local) (kt : env.kindOf tn = some .local) (htn : (tn == ("__debug__" : Str)) = false)
    (F : Fr h₀ env.locals s.heap m) (N : News h₀ env.locals s.heap news) (hv : m tn = some (.ref T)) (hT : h₀.IsTuple T (its.map fun p => Value.ref p.1).toArray) (hps : ∀ p ∈ its, h₀.IsTuple p.1 #[p.2.1, p.2.2])
    (rest : ∀ I, (∀ p ∈ news, p.1 < I) → PRest w A h₀ env a b body orelse Q s news I (its.map (·.2)) m) :
    wpAny (model prog w) A (exec (.For (.Tuple [.Name a pa, .Name b pb] x1 pt) (.Name tn pn) body orelse pos) env) Q E s := by
  refine wpAny_For (ev_local hk kt F.ns hv (wpAny_pyIter_tuple (hT.at fun o e => F.keep _ _ e) ?_) htn)
  have hI0 : h₀.get? s.heap.objs.size = none := next_is_new F
  have hIL : s.heap.objs.size ≠ env.locals := fun q => Nat.lt_irrefl _ (q ▸ F.ns.lt)
  have PI := rest s.heap.objs.size fun p hp => Heap.lt_size (N p hp).1
  have hlt0 : ∀ p ∈ news, p.1 < s.heap.objs.size := fun p hp => Heap.lt_size (N p hp).1
  have hgI : (s.heap.push { cls := .type "tuple_iterator", data := .fields #[.ref T, .int 0 0] }).get? s.heap.objs.size = some { cls := .type "tuple_iterator", data := .fields #[.ref T, .int 0 0] } := Heap.get?_push_size _ rfl
  have F0 : Fr h₀ env.locals (s.heap.push { cls := .type "tuple_iterator", data := .fields #[.ref T, .int 0 0] }) m := F.push _
  have N0 : ∀ p ∈ news, (s.heap.push { cls := .type "tuple_iterator", data := .fields #[.ref T, .int 0 0] }).get? p.1 = some p.2 := fun p hp => Heap.get?_push_of_some _ (N p hp).1
  generalize s.heap.push { cls := .type "tuple_iterator", data := .fields #[.ref T, .int 0 0] } = H0 at *
  generalize s.heap.objs.size = I at *
  refine codeAny_forLoop_any (fun k s' => ∃ j h tk m' o, k = its.length - j ∧ j ≤ its.length ∧ s' = { s with heap := h, toks := tk } ∧ Fr h₀ env.locals h m' ∧ News h₀ env.locals h (news ++ [(I, o)]) ∧ o.cls = .type "tuple_iterator" ∧ o.data = .fields #[.ref T, .int (j : Nat) 0] ∧
      PRest w A h₀ env a b body orelse Q s news I ((its.map (·.2)).drop j) m') ?_ its.length ?_
  · rintro k s' ⟨j, h, tk, m', o, rfl, hj, rfl, F', N', hc, hd, PR⟩
    have hI := N' _ (List.mem_append_right _ (.head _))
    have hTh : h.IsTuple T (its.map fun p => Value.ref p.1).toArray := hT.at fun o e => F'.keep _ _ e
    have hTI : T ≠ I := fun q => by obtain ⟨o', ho', _⟩ := hT; rw [q, hI0] at ho'; cases ho'
    by_cases hlt : j < its.length
    · have hdr : (its.map (·.2)).drop j = its[j].2 :: (its.map (·.2)).drop (j + 1) := by
        rw [List.drop_eq_getElem_cons (by simpa using hlt)]; simp
      rw [hdr] at PR
      have hx : (its.map fun p => Value.ref p.1).toArray[j]? = some (.ref its[j].1) := by simp [hlt]
      refine wpAny_pyNext_tuple_item ⟨o, hI.1, hc, hd⟩ hTh hx fun h1 hit1 s1 => ?_
      have F1 : Fr h₀ env.locals h1 m' := F'.change s1 hI.2.1 hI.2.2
      obtain ⟨o1, ho1, hc1, hd1⟩ := hit1
      have hlo : wpAny (model prog w) A (letOwnedTupleGo (.Tuple [.Name a pa, .Name b pb] x1 pt) (.ref I) (.ref its[j].1)) (fun _ s' => s' = { s with heap := h1, toks := tk }) NoE { s with heap := h1, toks := tk } := by
        unfold letOwnedTupleGo
        refine wpAny_bind (wpAny_load ho1 ?_)
        rw [hc1, hd1]
        exact wpAny_pure rfl
      refine wpAny_mono hlo (fun _ s2 e2 => ?_) fun _ _ e => e.elim
      subst e2
      have hpT : h1.IsTuple its[j].1 #[its[j].2.1, its[j].2.2] := (hps _ (List.getElem_mem hlt)).at fun o e => F1.keep _ _ e
      refine assign_pair hh hpT hk ka kb F1.ns fun h3 tk3 n3 d3 k3 => ?_
      have F3 : Fr h₀ env.locals h3 (fun y => if y = b then some its[j].2.2 else if y = a then some its[j].2.1 else m' y) := ⟨n3, fun b' o' e => k3 _ _ (fun q => by
        have := Heap.lt_size e
        rw [List.mem_singleton.mp q] at this
        exact Nat.lt_irrefl _ (Nat.lt_of_lt_of_le this F1.above)) (F1.keep b' o' e), F1.above⟩
      have N3 : News h₀ env.locals h3 (news ++ [(I, o1)]) := fun p hp => by
        have hL : p.1 ≠ env.locals := by
          rcases List.mem_append.mp hp with q | q
          · exact (N' p (List.mem_append_left _ q)).2.1
          · rw [List.mem_singleton.mp q]; exact hIL
        have h0' : h₀.get? p.1 = none := by
          rcases List.mem_append.mp hp with q | q
          · exact (N' p (List.mem_append_left _ q)).2.2
          · rw [List.mem_singleton.mp q]; exact hI0
        refine ⟨k3 _ _ (fun q => hL (List.mem_singleton.mp q)) ?_, hL, h0'⟩
        rcases List.mem_append.mp hp with q | q
        · exact (s1.2 _ (Nat.ne_of_lt (hlt0 p q))).trans (N' p (List.mem_append_left _ q)).1
        · rw [List.mem_singleton.mp q]; exact ho1
      refine wpAny_mono (PR h3 tk3 o1 F3 N3) (fun f s4 h4 => ?_) fun _ _ e => e.elim
      cases f with
      | next =>
        obtain ⟨h', tk', e, F5, N5, PR5⟩ := h4
        exact ⟨its.length - (j + 1), by omega, j + 1, h', tk', _, o1, rfl, hlt, e, F5, N5, hc1, hd1, PR5⟩
      | cont => exact h4.elim
      | brk => exact h4
      | ret v => exact h4
    · have hjn : j = its.length := by omega
      subst hjn
      rw [List.drop_of_length_le (by simp)] at PR
      refine wpAny_pyNext_tuple_end hh ⟨o, hI.1, hc, hd⟩ hTh (by simp) fun h1 x1' => ?_
      refine wpAny_mono (PR h1 tk ?_ ?_) (fun f s' q => q) fun _ _ e => e.elim
      · exact ⟨ns_keep F'.ns fun o e => x1' _ _ (fun q => hIL q.symm) e, fun b' o' e => x1' _ _ (fun q => by rw [q, hI0] at e; cases e) (F'.keep b' o' e), F'.above⟩
      · intro p hp
        exact ⟨x1' _ _ (Nat.ne_of_lt (hlt0 p hp)) (N' p (List.mem_append_left _ hp)).1, (N' p (List.mem_append_left _ hp)).2⟩
  · refine ⟨0, H0, s.toks, m, { cls := .type "tuple_iterator", data := .fields #[.ref T, .int 0 0] }, rfl, Nat.zero_le _, rfl, F0, fun p hp => ?_, rfl, rfl, PI⟩
    rcases List.mem_append.mp hp with q | q
    · exact ⟨N0 p q, (N p q).2⟩
    · rw [List.mem_singleton.mp q]; exact ⟨hgI, hIL, hI0⟩
end
end Mine
end

section
open PySem PySem.W PySem.W.X PySem.Calls PyProof.Rows
set_option Elab.async false
set_option maxRecDepth 100000
set_option maxHeartbeats 4000000
set_option linter.unusedVariables false
namespace Mine
section
variable {w : World} {A : Around} {E : Value → Shared → Prop} {s : Shared}
theorem nextOf_tuple_item {it l : Addr} {i : Nat} {items : Array Value} {x : Value} {Q : Value → Shared → Prop} (hit : s.heap.IsTupleIter it l i) (hl : s.heap.IsTuple l items) (hx : items[i]? = some x)
    (hQ : ∀ h', h'.IsTupleIter it l (i + 1) → Heap.SameBut it s.heap h' → Q x { s with heap := h' }) : wpAny (model prog w) A (Builtin.SmallTypes.nextOf (.ref it)) Q E s := by
  obtain ⟨o, ho, hc, hd⟩ := id hit
  obtain ⟨ol, hol, _, nl, hdl⟩ := hl
  unfold Builtin.SmallTypes.nextOf
  refine wpAny_bind (wpAny_callSpecial?_slot (name := Str.ofString "__next__") hit.typeIs F.slot_tuple_iterator_next (wpAny_call_entry F.slot_tuple_iterator_next hit.typeIs F.entry_tuple_iterator_next ?_ (F.args_tuple_iterator_next_1 _)))
  show wpAny _ _ (field (.ref it) 0 >>= _) _ _ s
  refine wpAny_bind (wpAny_field ho hd (x := .ref l) rfl ?_)
  show wpAny _ _ (if (Value.ref l == Value.none) = true then _ else _) _ _ s
  rw [if_neg (show ¬ ((Value.ref l == Value.none) = true) from Bool.false_ne_true)]
  show wpAny _ _ (field (.ref it) 1 >>= _) _ _ s
  refine wpAny_bind (wpAny_field ho hd (x := .int i 0) rfl ?_)
  show wpAny _ _ (seqItems? (.ref l) >>= _) _ _ s
  refine wpAny_bind (wpAny_seqItems hol hdl ?_)
  simp only [Int.toNat_natCast, hx]
  refine wpAny_bind (wpAny_setField ho hd (by simp) (wpAny_pure ⟨x, rfl, wpAny_pure (hQ _ ?_ (Heap.SameBut.update ..))⟩))
  exact ⟨_, Heap.get?_update_self _ ho (Obj.isFreed_of_fields (Obj.data_mapFields hd _)), (Obj.cls_mapFields ..).trans hc, by
    rw [Obj.data_mapFields hd]; simp [rawInt]⟩
theorem nextOf_tuple_end {it l : Addr} {i : Nat} {items : Array Value} {Q : Value → Shared → Prop} (hh : A.handled = none) (hit : s.heap.IsTupleIter it l i) (hl : s.heap.IsTuple l items) (hx : items[i]? = none)
    (hE : ∀ h' e, Heap.ExtBut it s.heap h' → (∃ o, h'.get? e = some o ∧ o.cls = .type "StopIteration") → E (.ref e) { s with heap := h' }) : wpAny (model prog w) A (Builtin.SmallTypes.nextOf (.ref it)) Q E s := by
  obtain ⟨o, ho, hc, hd⟩ := id hit
  obtain ⟨ol, hol, _, nl, hdl⟩ := hl
  unfold Builtin.SmallTypes.nextOf
  refine wpAny_bind (wpAny_callSpecial?_slot (name := Str.ofString "__next__") hit.typeIs F.slot_tuple_iterator_next (wpAny_call_entry F.slot_tuple_iterator_next hit.typeIs F.entry_tuple_iterator_next ?_ (F.args_tuple_iterator_next_1 _)))
  show wpAny _ _ (field (.ref it) 0 >>= _) _ _ s
  refine wpAny_bind (wpAny_field ho hd (x := .ref l) rfl ?_)
  show wpAny _ _ (if (Value.ref l == Value.none) = true then _ else _) _ _ s
  rw [if_neg (show ¬ ((Value.ref l == Value.none) = true) from Bool.false_ne_true)]
  show wpAny _ _ (field (.ref it) 1 >>= _) _ _ s
  refine wpAny_bind (wpAny_field ho hd (x := .int i 0) rfl ?_)
  show wpAny _ _ (seqItems? (.ref l) >>= _) _ _ s
  refine wpAny_bind (wpAny_seqItems hol hdl ?_)
  simp only [Int.toNat_natCast, hx]
  refine wpAny_bind (wpAny_rule (wpAny_bind (wpAny_setField ho hd (by simp) ?_)))
  show wpAny _ _ (newExc (.type "StopIteration") [] >>= _) _ _ _
  refine wpAny_bind ?_
  simp only [newExc, newTuple]
  refine wpAny_bind (wpAny_newObj_type ?_ (by size_fits))
  refine wpAny_bind (m := firstArgMember _ _) (wpAny_of_eq (a := Value.none) (by first | rfl | (simp only [firstArgMember]; rfl)) ?_)
  refine wpAny_newObj_type ?_ (by size_fits)
  simp only [raiseNew]
  refine wpAny_bind (wpAny_handled ?_)
  first | rw [show A.in1.handled = none from hh] | rw [hh]
  refine wpAny_bind (wpAny_pure (wpAny_throw ?_))
  exact hE _ _ (((Heap.SameBut.update ..).extBut.push _).push _) ⟨_, Heap.get?_push_size _ rfl, rfl⟩
theorem drawsTuple (hh : A.handled = none) (it l : Addr) (hne : l ≠ it) (items : Array Value) :
    Draws prog w A it [it, l] items.size (fun i v => items[i]? = some v) (fun i h => h.IsTupleIter it l i ∧ h.IsTuple l items) where
  live := fun _ _ st => let ⟨o, ho, _⟩ := st.1; ⟨o, ho⟩
  frame := fun _ _ _ st hk => ⟨st.1.at fun o e => hk it (by simp) o e, st.2.at fun o e => hk l (by simp) o e⟩
  item := fun i s Q E hi st hQ => by
    refine nextOf_tuple_item st.1 st.2 (x := items[i]) (by simp [hi]) fun h' hit' hs' => ?_
    exact hQ _ h' s.toks (by simp [hi]) ⟨hit', st.2.extBut hs'.extBut hne⟩ hs'
  done := fun s Q E st hE => nextOf_tuple_end hh st.1 st.2 (by simp) hE
end
local macro_rules | `(tactic| x_close) => `(tactic| k_extra "cl")
section
variable {w : World} {s : Shared}
theorem c_enum (X : (hd.heap_39 w.params).In s.heap) :
    wpAny (model prog w) A0 (call (.type "enumerate") [.ref 110]) (Back s (fun v h' => ∃ e it, v = .ref e ∧ IsEnum h' e it 0 .none ∧ h'.get? it = some { cls := .type "tuple_iterator", data := .fields #[.ref 110, .int 0 0] } ∧ s.heap.get? e = none ∧ s.heap.get? it = none ∧ e ≠ it)) NoE s := by
  k_with_none
  k_with "cl" => (exact ⟨_, _, rfl, keeps_of_mem ‹_›, _, _, rfl, (Mem.nw ‹_› _ (.head _)).1, (Mem.nw ‹_› _ (.tail _ (.head _))).1, (Mem.nw ‹_› _ (.head _)).2, (Mem.nw ‹_› _ (.tail _ (.head _))).2, Mem.ne ‹_› 0 1 _ _ _ _ rfl rfl rfl⟩)
  x_run
end
end Mine
end

section
open PySem PySem.W PySem.Calls PyProof.Rows
set_option Elab.async false
set_option maxRecDepth 100000
set_option maxHeartbeats 4000000
set_option linter.unusedVariables false
namespace Mine
section
variable {w : World} {A : Around} {E : Value → Shared → Prop} {s : Shared} {env : Env}
/-- a loop over enumerate of a tuple that stands, by an invariant -/
theorem outer_for {h₀ : Heap} {a b : Str} {pa pb pt : Pos} {x1 : Nat} {T e it : Addr} {items : Array Value} {body : List Stmt} {m : Str → Option Value} {news : List (Addr × Obj)} {R : Result → Shared → Prop} (hh : A.handled = none)
    (hk : env.scope.kind = .function) (ka : env.kindOf a = some .local) (kb : env.kindOf b = some .local)
    (F : Fr h₀ env.locals s.heap m) (N : News h₀ env.locals s.heap news) (hT : h₀.IsTuple T items) (he : IsEnum s.heap e it 0 .none) (hi : s.heap.IsTupleIter it T 0)
    (e0 : h₀.get? e = none) (i0 : h₀.get? it = none) (eL : e ≠ env.locals) (iL : it ≠ env.locals) (ei : e ≠ it) (en : ∀ p ∈ news, p.1 ≠ it ∧ p.1 ≠ e)
    (J : Nat → (Str → Option Value) → List (Addr × Obj) → Prop) (h0 : J 0 m news)
    (turn : ∀ i v t m₁ news₁ oe oi h tk, items[i]? = some v → J i m₁ news₁ → news₁.map (·.1) = news.map (·.1) → Fr h₀ env.locals h (fun y => if y = b then some v else if y = a then some (.int (i : Nat) t) else m₁ y) → News h₀ env.locals h (news₁ ++ [(e, oe), (it, oi)]) →
      wpAny (model prog w) A (execs body env) (fun f s' => match f with
        | .next => ∃ h' tk' m' news', s' = { s with heap := h', toks := tk' } ∧ Fr h₀ env.locals h' m' ∧ News h₀ env.locals h' (news' ++ [(e, oe), (it, oi)]) ∧ news'.map (·.1) = news.map (·.1) ∧ J (i + 1) m' news'
        | _ => False) NoE { s with heap := h, toks := tk })
    (done : ∀ m' news' h tk, J items.size m' news' → Fr h₀ env.locals h m' → News h₀ env.locals h news' → R (.ok .next) { s with heap := h, toks := tk }) :
    codeAny (model prog w) A (.forLoop (.Tuple [.Name a pa, .Name b pb] x1 pt) (.ref e) body [] env) R s := by
  have hTi : T ≠ it := fun q => by obtain ⟨o', ho', _⟩ := hT; rw [q, i0] at ho'; cases ho'
  have hTe : T ≠ e := fun q => by obtain ⟨o', ho', _⟩ := hT; rw [q, e0] at ho'; cases ho'
  have hTL : T ≠ env.locals := fun q => by obtain ⟨o', ho', _⟩ := hT; rw [q] at ho'; exact Nat.lt_irrefl _ (Nat.lt_of_lt_of_le (Heap.lt_size ho') F.above)
  have W := WalksT.enumerateD (drawsTuple (w := w) (A := A.in1) hh it T hTi items) e ei (by simp [ei, hTe.symm]) (by simp)
  have wr0 : ∀ b', b' ∈ [e, it] → h₀.get? b' = none := fun b' q => by
    simp only [List.mem_cons, List.not_mem_nil, or_false] at q
    rcases q with rfl | rfl
    · exact e0
    · exact i0
  have keepF : ∀ {h h1 : Heap} {m' : Str → Option Value}, Fr h₀ env.locals h m' → (∀ b o, b ∉ [e, it] → h.get? b = some o → h1.get? b = some o) → Fr h₀ env.locals h1 m' := fun {h h1 m'} F' k =>
    ⟨ns_keep F'.ns fun o x => k _ _ (by simp [eL.symm, iL.symm]) x, fun b' o x => k _ _ (fun q => by rw [wr0 _ q] at x; cases x) (F'.keep b' o x), F'.above⟩
  refine codeAny_forLoop_any (fun k s' => ∃ i h tk m' news', k = items.size - i ∧ i ≤ items.size ∧ s' = { s with heap := h, toks := tk } ∧ Fr h₀ env.locals h m' ∧ News h₀ env.locals h news' ∧ news'.map (·.1) = news.map (·.1) ∧ J i m' news' ∧
      ((∃ old, IsEnum h e it i old) ∧ h.IsTupleIter it T i ∧ h.IsTuple T items)) ?_ items.size
    ⟨0, s.heap, s.toks, m, news, rfl, Nat.zero_le _, rfl, F, N, rfl, h0, ⟨_, he⟩, hi, hT.at fun o x => F.keep _ _ x⟩
  rintro k s' ⟨i, h, tk, m', news', rfl, hile, rfl, F', N', ha', hJ, hst⟩
  have hn' : ∀ p ∈ news', p.1 ∉ [e, it] := fun p hp q => by
    have : p.1 ∈ news.map (·.1) := ha' ▸ List.mem_map_of_mem hp
    obtain ⟨p', hp', e'⟩ := List.mem_map.mp this
    have := en p' hp'
    rw [e'] at this
    simp only [List.mem_cons, List.not_mem_nil, or_false] at q
    rcases q with q | q
    · exact this.2 q
    · exact this.1 q
  by_cases hlt : i < items.size
  · refine W.item i _ _ _ hlt hst fun T' vals h1 tk1 hPt _ hT1 hMid k1 => ?_
    obtain ⟨t, v, hv, rfl⟩ := hPt
    refine W.go _ x1 pt i T' _ _ _ hMid fun h2 st2 k2 => ?_
    have hT2 : h2.IsTuple T' #[.int i t, v] := hT1.at fun o x => k2 T' o (W.apart i T' h1 hMid) x
    have F2 := keepF (keepF F' k1) k2
    refine assign_pair hh hT2 hk ka kb F2.ns fun h3 tk3 n3 d3 k3 => ?_
    have F3 : Fr h₀ env.locals h3 (fun y => if y = b then some v else if y = a then some (.int i t) else m' y) := ⟨n3, fun b' o' x => k3 _ _ (fun q => by
      have := Heap.lt_size x
      rw [List.mem_singleton.mp q] at this
      exact Nat.lt_irrefl _ (Nat.lt_of_lt_of_le this F2.above)) (F2.keep b' o' x), F2.above⟩
    have k3' : ∀ b' o, b' ≠ env.locals → h2.get? b' = some o → h3.get? b' = some o := fun b' o hb x => k3 b' o (fun q => hb (List.mem_singleton.mp q)) x
    obtain ⟨⟨old, he2⟩, hi2, hTT2⟩ := st2
    obtain ⟨oi, hoi, ri⟩ := id hi2
    have N3 : News h₀ env.locals h3 (news' ++ [(e, _), (it, oi)]) := fun p hp => by
      rcases List.mem_append.mp hp with q | q
      · exact ⟨k3' _ _ (N' p q).2.1 (k2 _ _ (hn' p q) (k1 _ _ (hn' p q) (N' p q).1)), (N' p q).2⟩
      · simp only [List.mem_cons, List.not_mem_nil, or_false] at q
        rcases q with rfl | rfl
        · exact ⟨k3' _ _ eL he2, eL, e0⟩
        · exact ⟨k3' _ _ iL hoi, iL, i0⟩
    refine wpAny_mono (turn i v t m' news' _ oi h3 tk3 hv hJ ha' F3 N3) (fun f s4 h4 => ?_) fun _ _ x => x.elim
    cases f with
    | next =>
      obtain ⟨h5, tk5, m5, news5, rfl, F5, N5, ha5, hJ5⟩ := h4
      refine ⟨items.size - (i + 1), by omega, i + 1, h5, tk5, m5, news5, rfl, hlt, rfl, F5, fun p hp => N5 p (List.mem_append_left _ hp), ha5, hJ5, ⟨old, (N5 _ (List.mem_append_right _ (.head _))).1⟩, ?_, hT.at fun o x => F5.keep _ _ x⟩
      exact ⟨oi, (N5 _ (List.mem_append_right _ (.tail _ (.head _)))).1, ri⟩
    | brk => exact h4.elim
    | cont => exact h4.elim
    | ret v => exact h4.elim
  · have hin : i = items.size := by omega
    subst hin
    refine W.done _ _ _ hst fun h1 tk1 k1 => wpAny_execs_nil ?_
    exact done m' news' h1 tk1 hJ (keepF F' k1) fun p hp => ⟨k1 _ _ (hn' p hp) (N' p hp).1, (N' p hp).2⟩
end
inductive All2 {α β : Type} (R : α → β → Prop) : List α → List β → Prop where
  | nil : All2 R [] []
  | cons {a : α} {b : β} {l : List α} {k : List β} : R a b → All2 R l k → All2 R (a :: l) (b :: k)
/-- the frame of filemode -/
noncomputable def fmMap (m : Int) (tm : Tok) (P : Addr) (vi vt vb vc : Option Value) : Str → Option Value := fun y =>
  if y = "char" then vc else if y = "bit" then vb else if y = "table" then vt else if y = "index" then vi else if y = "perm" then some (.ref P) else if y = "mode" then some (.int m tm) else none
theorem fmMap_outer (m : Int) (tm : Tok) (P : Addr) (vi vt vb vc : Option Value) (v w : Value) : (fun y => if y = ("table" : Str) then some v else if y = ("index" : Str) then some w else fmMap m tm P vi vt vb vc y) = fmMap m tm P (some w) (some v) vb vc := by
  funext y
  unfold fmMap
  by_cases h1 : y = ("table" : Str)
  · subst h1; rfl
  · by_cases h2 : y = ("index" : Str)
    · subst h2; rfl
    · simp only [h1, h2, if_false]
theorem fmMap_inner (m : Int) (tm : Tok) (P : Addr) (vi vt vb vc : Option Value) (v w : Value) : (fun y => if y = ("char" : Str) then some v else if y = ("bit" : Str) then some w else fmMap m tm P vi vt vb vc y) = fmMap m tm P vi vt (some w) (some v) := by
  funext y
  unfold fmMap
  by_cases h1 : y = ("char" : Str)
  · subst h1; rfl
  · by_cases h2 : y = ("bit" : Str)
    · subst h2; rfl
    · simp only [h1, h2, if_false]
noncomputable def fmCond (i : Nat) (m b : Int) : Bool := if i = 0 then Builtin.bitAnd m 61440 == b else Builtin.bitAnd m b == b
/-- the sign of a table -/
noncomputable def fmSign (i : Nat) (m : Int) : List (Int × Nat) → Nat
  | [] => if i = 0 then 63 else 45
  | p :: r => if fmCond i m p.1 then p.2 else fmSign i m r
section
variable {w : World}
noncomputable def BodyQ (h₀ : Heap) (env : Env) (m : Int) (tm : Tok) (P e it : Addr) (s : Shared) (i : Nat) (t tb tc : Tok) (vt : Option Value) (b : Int) (c : Nat) (vs : List Value) (n : Nat) (oe oi o : Obj) (I : Addr) (f : Flow) (s' : Shared) : Prop := match f with
  | .next => fmCond i m b = false ∧ ∃ h' tk', s' = { s with heap := h', toks := tk' } ∧ Fr h₀ env.locals h' (fmMap m tm P (some (.int i t)) vt (some (.int b tb)) (some (.str ⟨#[c]⟩ tc))) ∧ News h₀ env.locals h' [(P, listOf vs.toArray n), (e, oe), (it, oi), (I, o)]
  | .brk => fmCond i m b = true ∧ ∃ h' tk' n', s' = { s with heap := h', toks := tk' } ∧ Fr h₀ env.locals h' (fmMap m tm P (some (.int i t)) vt (some (.int b tb)) (some (.str ⟨#[c]⟩ tc))) ∧ News h₀ env.locals h' [(P, listOf (vs ++ [Value.str ⟨#[c]⟩ tc]).toArray n'), (e, oe), (it, oi), (I, o)]
  | _ => False
noncomputable abbrev BodyC (w : World) (A : Around) (h₀ : Heap) (env : Env) (m : Int) (tm : Tok) (P e it : Addr) (s : Shared) (ibody : List Stmt) : Prop :=
  ∀ (i : Nat) (t tb tc : Tok) (vt : Option Value) (b : Int) (c : Nat) (vs : List Value) (n : Nat) (oe oi o : Obj) (I : Addr) (h : Heap) (tk : Nat), vs.length ≤ 20 → @Ne Nat P e → @Ne Nat P it → @LT.lt Nat _ P I →
    Fr h₀ env.locals h (fmMap m tm P (some (.int i t)) vt (some (.int b tb)) (some (.str ⟨#[c]⟩ tc))) → News h₀ env.locals h [(P, listOf vs.toArray n), (e, oe), (it, oi), (I, o)] →
    wpAny (model prog w) A (execs ibody env) (BodyQ h₀ env m tm P e it s i t tb tc vt b c vs n oe oi o I) NoE { s with heap := h, toks := tk }
noncomputable def ElseQ (h₀ : Heap) (env : Env) (m : Int) (tm : Tok) (P e it : Addr) (s : Shared) (i : Nat) (t : Tok) (vt vb vc : Option Value) (vs : List Value) (oe oi : Obj) (f : Flow) (s' : Shared) : Prop :=
  f = .next ∧ ∃ h' tk' n' tc, s' = { s with heap := h', toks := tk' } ∧ Fr h₀ env.locals h' (fmMap m tm P (some (.int i t)) vt vb vc) ∧ News h₀ env.locals h' [(P, listOf (vs ++ [Value.str ⟨#[if i = 0 then 63 else 45]⟩ tc]).toArray n'), (e, oe), (it, oi)]
noncomputable abbrev ElseC (w : World) (A : Around) (h₀ : Heap) (env : Env) (m : Int) (tm : Tok) (P e it : Addr) (s : Shared) (orelse : List Stmt) : Prop :=
  ∀ (i : Nat) (t : Tok) (vt vb vc : Option Value) (vs : List Value) (n : Nat) (oe oi : Obj) (h : Heap) (tk : Nat), vs.length ≤ 20 → @Ne Nat P e → @Ne Nat P it →
    Fr h₀ env.locals h (fmMap m tm P (some (.int i t)) vt vb vc) → News h₀ env.locals h [(P, listOf vs.toArray n), (e, oe), (it, oi)] →
    wpAny (model prog w) A (execs orelse env) (ElseQ h₀ env m tm P e it s i t vt vb vc vs oe oi) NoE { s with heap := h, toks := tk }
theorem news_swap {h₀ h : Heap} {L : Addr} {n1 n2 : List (Addr × Obj)} (N : News h₀ L h n1) (hs : ∀ p ∈ n2, p ∈ n1) : News h₀ L h n2 := fun p hp => N p (hs p hp)
/-- one table of filemode -/
theorem inner_rest {A : Around} {h₀ : Heap} {env : Env} {m : Int} {tm : Tok} {P e it I : Addr} {s : Shared} {ibody orelse : List Stmt} {Q : Flow → Shared → Prop} (CB : BodyC w A h₀ env m tm P e it s ibody) (CE : ElseC w A h₀ env m tm P e it s orelse)
    {i : Nat} {t : Tok} {vt : Option Value} {vs : List Value} {n : Nat} {oe oi : Obj} (hvs : vs.length ≤ 20) (hPe : @Ne Nat P e) (hPi : @Ne Nat P it) (hPI : @LT.lt Nat _ P I) {hh : Heap} {tt : Nat} : ∀ (its : List (Value × Value)) (bcs : List (Int × Nat)) (vb vc : Option Value),
    All2 (fun p q => ∃ tb tc, p = (Value.int q.1 tb, Value.str ⟨#[q.2]⟩ tc)) its bcs →
    (∀ h' tk' n' tc vb' vc', Fr h₀ env.locals h' (fmMap m tm P (some (.int i t)) vt vb' vc') → News h₀ env.locals h' [(P, listOf (vs ++ [Value.str ⟨#[fmSign i m bcs]⟩ tc]).toArray n'), (e, oe), (it, oi)] → Q .next { s with heap := h', toks := tk' }) →
    PRest w A h₀ env "bit" "char" ibody orelse Q { s with heap := hh, toks := tt } [(P, listOf vs.toArray n), (e, oe), (it, oi)] I its (fmMap m tm P (some (.int i t)) vt vb vc) := by
  intro its
  induction its with
  | nil =>
    intro bcs vb vc ha hQ
    cases ha
    exact fun h tk F N => wpAny_mono (CE i t vt vb vc vs n oe oi h tk hvs hPe hPi F N) (fun f s' q => by
      obtain ⟨rfl, h', tk', n', tc, rfl, F', N'⟩ := q
      exact hQ h' tk' n' tc vb vc F' N') fun _ _ x => x
  | cons p r ih =>
    intro bcs vb vc ha hQ
    cases ha with
    | @cons _ q _ bcs hp hr =>
    intro h tk o F N
    obtain ⟨tb, tc, rfl⟩ := hp
    dsimp only at F
    rw [fmMap_inner] at F
    refine wpAny_mono (CB i t tb tc vt q.1 q.2 vs n oe oi o I h tk hvs hPe hPi hPI F N) (fun f s' z => ?_) fun _ _ x => x
    dsimp only
    rw [fmMap_inner]
    cases f with
    | next =>
      obtain ⟨hc, h', tk', rfl, F', N'⟩ := z
      refine ⟨h', tk', rfl, F', N', ih bcs _ _ hr fun h2 tk2 n2 tc2 vb2 vc2 F2 N2 => hQ h2 tk2 n2 tc2 vb2 vc2 F2 ?_⟩
      have e1 : fmSign i m (q :: bcs) = fmSign i m bcs := by show (if fmCond i m q.1 = true then _ else _) = _; rw [hc]; rfl
      rw [e1]; exact N2
    | brk =>
      obtain ⟨hc, h', tk', n', rfl, F', N'⟩ := z
      refine hQ h' tk' n' tc _ _ F' ?_
      have e1 : fmSign i m (q :: bcs) = q.2 := by show (if fmCond i m q.1 = true then _ else _) = _; rw [hc]; rfl
      rw [e1]
      exact news_swap N' fun p hp => by
        simp only [List.mem_cons, List.not_mem_nil, or_false] at hp ⊢
        rcases hp with rfl | rfl | rfl <;> simp
    | cont => exact z
    | ret v => exact z.elim
end
end Mine
end

section
open PySem PySem.W PySem.Calls PyProof.Rows
set_option Elab.async false
set_option maxRecDepth 100000
set_option maxHeartbeats 4000000
set_option linter.unusedVariables false
namespace Mine
theorem fillFm : (fun (_ : OpenLaw) (_ : Params → Frag) => True) PySem.Challenge.rw_ny0158_01 hd.heap_39 := by w_top off; k_fill; trivial
noncomputable def enumObj (it : Addr) : Obj := { cls := .type "enumerate", dict := none, data := .fields #[.none, .bool false, .ref it, rawInt 0, .none, .none], slots := #[] }
noncomputable def tupIt (T : Addr) : Obj := { cls := .type "tuple_iterator", data := .fields #[.ref T, .int 0 0] }
section
variable {w : World} {A : Around} {E : Value → Shared → Prop} {s : Shared} {Q : Value → Shared → Prop}
theorem line_enum {h₀ : Heap} {L : Addr} {m : Str → Option Value} {news : List (Addr × Obj)} (X : (hd.heap_39 w.params).In h₀) (h1 : A.handled = none) (h2 : A.depth ≤ 600) (h3 : A.units ≤ 2000) (F : Fr h₀ L s.heap m) (N : News h₀ L s.heap news)
    (h : ∀ e it h' tk, Fr h₀ L h' m → News h₀ L h' ((e, enumObj it) :: (it, tupIt 110) :: news) → e ≠ it → (∀ p ∈ news, p.1 ≠ it ∧ p.1 ≠ e) → Q (.ref e) { s with heap := h', toks := tk }) :
    wpAny (model prog w) A (call (.type "enumerate") [.ref 110]) Q E s := by
  refine line (c_enum (X.keeps F.keep)) h1 h2 h3 F N ?_
  rintro v h' tk ⟨e, it, rfl, he, hi, e0, i0, ei⟩ kp F' N'
  exact h e it h' tk F' (news_cons F e0 he (news_cons F i0 hi N')) ei fun p hp => ⟨news_lt N i0 p hp, news_lt N e0 p hp⟩
theorem line_pyEnum {h₀ : Heap} {L e it : Addr} {news : List (Addr × Obj)} (N : News h₀ L s.heap ((e, enumObj it) :: news)) (h : Held (Q (.ref e) s)) : wpAny (model prog w) A (pyIter (.ref e)) Q E s :=
  wpAny_pyIter_enum (N _ (.head _)).1 h
end
noncomputable def fmTabs : List (List (Int × Nat)) := [[(40960, 108), (49152, 115), (32768, 45), (24576, 98), (16384, 100), (8192, 99), (4096, 112)], [(256, 114)], [(128, 119)], [(2112, 115), (2048, 83), (64, 120)], [(32, 114)], [(16, 119)], [(1032, 115), (1024, 83), (8, 120)], [(4, 114)], [(2, 119)], [(513, 116), (512, 84), (1, 120)]]
noncomputable def fmItems : Array Value := #[.ref 85, .ref 87, .ref 89, .ref 93, .ref 95, .ref 97, .ref 101, .ref 103, .ref 105, .ref 109]
theorem fm_pairs {w : World} {h : Heap} (X : (hd.heap_39 w.params).In h) : ∀ (i : Nat) (v : Value), fmItems[i]? = some v → i < 10 ∧ ∃ (T : Addr) (its : List (Addr × Value × Value)), v = .ref T ∧ h.IsTuple T (its.map fun p : Addr × Value × Value => Value.ref p.1).toArray ∧ (∀ p ∈ its, h.IsTuple p.1 #[p.2.1, p.2.2]) ∧
    All2 (fun p q => ∃ tb tc, p = (Value.int q.1 tb, Value.str ⟨#[q.2]⟩ tc)) (its.map (·.2)) (fmTabs.getD i []) := by
  intro i v hv
  match i, hv with
  | 0, hv =>
    cases hv
    refine ⟨by lia, 85, [(78, .int 40960 213, .str ⟨#[108]⟩ 290), (79, .int 49152 215, .str ⟨#[115]⟩ 291), (80, .int 32768 209, .str ⟨#[45]⟩ 292), (81, .int 24576 207, .str ⟨#[98]⟩ 293), (82, .int 16384 203, .str ⟨#[100]⟩ 294), (83, .int 8192 205, .str ⟨#[99]⟩ 295), (84, .int 4096 211, .str ⟨#[112]⟩ 296)], rfl, ⟨_, X 85 _ (by k_is), rfl, _, rfl⟩, ?_, (.cons ⟨_, _, rfl⟩ (.cons ⟨_, _, rfl⟩ (.cons ⟨_, _, rfl⟩ (.cons ⟨_, _, rfl⟩ (.cons ⟨_, _, rfl⟩ (.cons ⟨_, _, rfl⟩ (.cons ⟨_, _, rfl⟩ .nil)))))))⟩
    intro p hp
    simp only [List.mem_cons, List.not_mem_nil, or_false] at hp
    rcases hp with rfl | rfl | rfl | rfl | rfl | rfl | rfl
    · exact ⟨_, X 78 _ (by k_is), rfl, _, rfl⟩
    · exact ⟨_, X 79 _ (by k_is), rfl, _, rfl⟩
    · exact ⟨_, X 80 _ (by k_is), rfl, _, rfl⟩
    · exact ⟨_, X 81 _ (by k_is), rfl, _, rfl⟩
    · exact ⟨_, X 82 _ (by k_is), rfl, _, rfl⟩
    · exact ⟨_, X 83 _ (by k_is), rfl, _, rfl⟩
    · exact ⟨_, X 84 _ (by k_is), rfl, _, rfl⟩
  | 1, hv =>
    cases hv
    refine ⟨by lia, 87, [(86, .int 256 272, .str ⟨#[114]⟩ 297)], rfl, ⟨_, X 87 _ (by k_is), rfl, _, rfl⟩, ?_, (.cons ⟨_, _, rfl⟩ .nil)⟩
    intro p hp
    simp only [List.mem_cons, List.not_mem_nil, or_false] at hp
    subst hp
    exact ⟨_, X 86 _ (by k_is), rfl, _, rfl⟩
  | 2, hv =>
    cases hv
    refine ⟨by lia, 89, [(88, .int 128 274, .str ⟨#[119]⟩ 298)], rfl, ⟨_, X 89 _ (by k_is), rfl, _, rfl⟩, ?_, (.cons ⟨_, _, rfl⟩ .nil)⟩
    intro p hp
    simp only [List.mem_cons, List.not_mem_nil, or_false] at hp
    subst hp
    exact ⟨_, X 88 _ (by k_is), rfl, _, rfl⟩
  | 3, hv =>
    cases hv
    refine ⟨by lia, 93, [(90, .int 2112 299, .str ⟨#[115]⟩ 300), (91, .int 2048 266, .str ⟨#[83]⟩ 301), (92, .int 64 276, .str ⟨#[120]⟩ 302)], rfl, ⟨_, X 93 _ (by k_is), rfl, _, rfl⟩, ?_, (.cons ⟨_, _, rfl⟩ (.cons ⟨_, _, rfl⟩ (.cons ⟨_, _, rfl⟩ .nil)))⟩
    intro p hp
    simp only [List.mem_cons, List.not_mem_nil, or_false] at hp
    rcases hp with rfl | rfl | rfl
    · exact ⟨_, X 90 _ (by k_is), rfl, _, rfl⟩
    · exact ⟨_, X 91 _ (by k_is), rfl, _, rfl⟩
    · exact ⟨_, X 92 _ (by k_is), rfl, _, rfl⟩
  | 4, hv =>
    cases hv
    refine ⟨by lia, 95, [(94, .int 32 278, .str ⟨#[114]⟩ 303)], rfl, ⟨_, X 95 _ (by k_is), rfl, _, rfl⟩, ?_, (.cons ⟨_, _, rfl⟩ .nil)⟩
    intro p hp
    simp only [List.mem_cons, List.not_mem_nil, or_false] at hp
    subst hp
    exact ⟨_, X 94 _ (by k_is), rfl, _, rfl⟩
  | 5, hv =>
    cases hv
    refine ⟨by lia, 97, [(96, .int 16 280, .str ⟨#[119]⟩ 304)], rfl, ⟨_, X 97 _ (by k_is), rfl, _, rfl⟩, ?_, (.cons ⟨_, _, rfl⟩ .nil)⟩
    intro p hp
    simp only [List.mem_cons, List.not_mem_nil, or_false] at hp
    subst hp
    exact ⟨_, X 96 _ (by k_is), rfl, _, rfl⟩
  | 6, hv =>
    cases hv
    refine ⟨by lia, 101, [(98, .int 1032 305, .str ⟨#[115]⟩ 306), (99, .int 1024 268, .str ⟨#[83]⟩ 307), (100, .int 8 282, .str ⟨#[120]⟩ 308)], rfl, ⟨_, X 101 _ (by k_is), rfl, _, rfl⟩, ?_, (.cons ⟨_, _, rfl⟩ (.cons ⟨_, _, rfl⟩ (.cons ⟨_, _, rfl⟩ .nil)))⟩
    intro p hp
    simp only [List.mem_cons, List.not_mem_nil, or_false] at hp
    rcases hp with rfl | rfl | rfl
    · exact ⟨_, X 98 _ (by k_is), rfl, _, rfl⟩
    · exact ⟨_, X 99 _ (by k_is), rfl, _, rfl⟩
    · exact ⟨_, X 100 _ (by k_is), rfl, _, rfl⟩
  | 7, hv =>
    cases hv
    refine ⟨by lia, 103, [(102, .int 4 284, .str ⟨#[114]⟩ 309)], rfl, ⟨_, X 103 _ (by k_is), rfl, _, rfl⟩, ?_, (.cons ⟨_, _, rfl⟩ .nil)⟩
    intro p hp
    simp only [List.mem_cons, List.not_mem_nil, or_false] at hp
    subst hp
    exact ⟨_, X 102 _ (by k_is), rfl, _, rfl⟩
  | 8, hv =>
    cases hv
    refine ⟨by lia, 105, [(104, .int 2 286, .str ⟨#[119]⟩ 310)], rfl, ⟨_, X 105 _ (by k_is), rfl, _, rfl⟩, ?_, (.cons ⟨_, _, rfl⟩ .nil)⟩
    intro p hp
    simp only [List.mem_cons, List.not_mem_nil, or_false] at hp
    subst hp
    exact ⟨_, X 104 _ (by k_is), rfl, _, rfl⟩
  | 9, hv =>
    cases hv
    refine ⟨by lia, 109, [(106, .int 513 311, .str ⟨#[116]⟩ 312), (107, .int 512 270, .str ⟨#[84]⟩ 313), (108, .int 1 288, .str ⟨#[120]⟩ 314)], rfl, ⟨_, X 109 _ (by k_is), rfl, _, rfl⟩, ?_, (.cons ⟨_, _, rfl⟩ (.cons ⟨_, _, rfl⟩ (.cons ⟨_, _, rfl⟩ .nil)))⟩
    intro p hp
    simp only [List.mem_cons, List.not_mem_nil, or_false] at hp
    rcases hp with rfl | rfl | rfl
    · exact ⟨_, X 106 _ (by k_is), rfl, _, rfl⟩
    · exact ⟨_, X 107 _ (by k_is), rfl, _, rfl⟩
    · exact ⟨_, X 108 _ (by k_is), rfl, _, rfl⟩
  | n + 10, hv => simp [fmItems] at hv
noncomputable def CharsAre (vs : List Value) (cs : List Nat) : Prop := All2 (fun v c => ∃ t, v = Value.str ⟨#[c]⟩ t) vs cs
theorem CharsAre.snoc {vs : List Value} {cs : List Nat} {c : Nat} {t : Tok} (h : CharsAre vs cs) : CharsAre (vs ++ [Value.str ⟨#[c]⟩ t]) (cs ++ [c]) := by
  unfold CharsAre at *
  induction h with
  | nil => exact .cons ⟨t, rfl⟩ .nil
  | cons a b ih => exact .cons a ih
theorem CharsAre.length {vs : List Value} {cs : List Nat} (h : CharsAre vs cs) : vs.length = cs.length := by
  unfold CharsAre at h
  induction h with
  | nil => rfl
  | cons _ _ ih => simp [ih]
/-- the first signs of a mode -/
noncomputable def fmFirst (m : Int) (i : Nat) : List Nat := (List.range i).map fun j => fmSign j m (fmTabs.getD j [])
theorem fmFirst_succ (m : Int) (i : Nat) : fmFirst m (i + 1) = fmFirst m i ++ [fmSign i m (fmTabs.getD i [])] := by
  unfold fmFirst; rw [List.range_succ, List.map_append]; rfl
theorem fmFirst_len (m : Int) (i : Nat) : (fmFirst m i).length = i := by unfold fmFirst; simp
section
variable {w : World} {A : Around} {s : Shared} {env : Env}
theorem fm_loop {h₀ : Heap} {m : Int} {tm : Tok} {P e it : Addr} {p1 p2 p3 p4 p5 p6 p7 p8 : Pos} {x1 x2 : Nat} {ibody orelse : List Stmt} {R : Result → Shared → Prop} (X : (hd.heap_39 w.params).In h₀) (hh : A.handled = none) (hk : env.scope.kind = .function)
    (ka : env.kindOf "index" = some .local) (kb : env.kindOf "table" = some .local) (kc : env.kindOf "bit" = some .local) (kd : env.kindOf "char" = some .local)
    (F : Fr h₀ env.locals s.heap (fmMap m tm P none none none none)) (N : News h₀ env.locals s.heap [(e, enumObj it), (it, tupIt 110), (P, listOf #[] 0)]) (ei : e ≠ it) (en : ∀ p ∈ [(P, listOf #[] 0)], p.1 ≠ it ∧ p.1 ≠ e)
    (CB : BodyC w A h₀ env m tm P e it s ibody) (CE : ElseC w A h₀ env m tm P e it s orelse)
    (done : ∀ vi vt vb vc vs n h tk, CharsAre vs (fmFirst m 10) → Fr h₀ env.locals h (fmMap m tm P vi vt vb vc) → News h₀ env.locals h [(P, listOf vs.toArray n)] → R (.ok .next) { s with heap := h, toks := tk }) :
    codeAny (model prog w) A (.forLoop (.Tuple [.Name "index" p1, .Name "table" p2] x1 p3) (.ref e) [.For (.Tuple [.Name "bit" p4, .Name "char" p5] x2 p6) (.Name "table" p7) ibody orelse p8] [] env) R s := by
  have hT : h₀.IsTuple 110 fmItems := ⟨_, X 110 _ (by k_is), rfl, _, rfl⟩
  have he := N _ (.head _)
  have hi := N _ (.tail _ (.head _))
  have hn := en _ (.head _)
  dsimp only at he hi hn
  refine outer_for (T := 110) (items := fmItems) hh hk ka kb F (news := [(P, listOf #[] 0)]) (news_swap N fun p hp => by simp only [List.mem_singleton] at hp; simp [hp]) hT he.1 ⟨_, hi.1, rfl, rfl⟩ he.2.2 hi.2.2 he.2.1 hi.2.1 ei en
    (fun i m' news' => ∃ vi vt vb vc vs n, m' = fmMap m tm P vi vt vb vc ∧ news' = [(P, listOf vs.toArray n)] ∧ CharsAre vs (fmFirst m i)) ⟨_, _, _, _, [], 0, rfl, rfl, .nil⟩ ?_ ?_
  · rintro i v t m₁ news₁ oe oi h tk hv ⟨vi, vt, vb, vc, vs, n, rfl, rfl, hvs⟩ ha F1 N1
    rw [fmMap_outer] at F1
    obtain ⟨hi10, T, its, rfl, hTT, hps, hall⟩ := fm_pairs X i v hv
    have hlen : vs.length ≤ 20 := by rw [hvs.length, fmFirst_len]; lia
    refine wpAny_execs_cons (inner_for hh hk kc kd kb (by decide) F1 N1 rfl hTT hps fun I hI => ?_)
    refine inner_rest CB CE hlen hn.2 hn.1 (hI _ (.head _)) _ _ _ _ hall fun h' tk' n' tc vb' vc' F' N' => ?_
    refine wpAny_execs_nil ⟨h', tk', _, [(P, listOf (vs ++ [Value.str ⟨#[fmSign i m (fmTabs.getD i [])]⟩ tc]).toArray n')], rfl, F', N', rfl, _, _, _, _, _, n', rfl, rfl, ?_⟩
    rw [fmFirst_succ]
    exact hvs.snoc
  · rintro m' news' h tk ⟨vi, vt, vb, vc, vs, n, rfl, rfl, hvs⟩ F' N'
    exact done vi vt vb vc vs n h tk hvs F' N'
end
theorem body_brk {h₀ h' : Heap} {env : Env} {m : Int} {tm : Tok} {P e it I : Addr} {s : Shared} {i : Nat} {t tb tc : Tok} {vt : Option Value} {b : Int} {c : Nat} {vs : List Value} {n n' : Nat} {oe oi o : Obj} {tk' : Nat} (hc : fmCond i m b = true)
    (F : Fr h₀ env.locals h' (fmMap m tm P (some (.int i t)) vt (some (.int b tb)) (some (.str ⟨#[c]⟩ tc)))) (N : News h₀ env.locals h' [(P, listOf (vs.toArray.push (Value.str ⟨#[c]⟩ tc)) n'), (e, oe), (it, oi), (I, o)]) :
    BodyQ h₀ env m tm P e it s i t tb tc vt b c vs n oe oi o I .brk { s with heap := h', toks := tk' } := ⟨hc, h', tk', n', rfl, F, by rw [show (vs ++ [Value.str ⟨#[c]⟩ tc]).toArray = vs.toArray.push (Value.str ⟨#[c]⟩ tc) by simp]; exact N⟩
theorem body_next {h₀ h' : Heap} {env : Env} {m : Int} {tm : Tok} {P e it I : Addr} {s : Shared} {i : Nat} {t tb tc : Tok} {vt : Option Value} {b : Int} {c : Nat} {vs : List Value} {n : Nat} {oe oi o : Obj} {tk' : Nat} (hc : fmCond i m b = false)
    (F : Fr h₀ env.locals h' (fmMap m tm P (some (.int i t)) vt (some (.int b tb)) (some (.str ⟨#[c]⟩ tc)))) (N : News h₀ env.locals h' [(P, listOf vs.toArray n), (e, oe), (it, oi), (I, o)]) :
    BodyQ h₀ env m tm P e it s i t tb tc vt b c vs n oe oi o I .next { s with heap := h', toks := tk' } := ⟨hc, h', tk', rfl, F, N⟩
theorem else_q {h₀ h' : Heap} {env : Env} {m : Int} {tm : Tok} {P e it : Addr} {s : Shared} {i : Nat} {t tc : Tok} {vt vb vc : Option Value} {vs : List Value} {x : Str} {n' : Nat} {oe oi : Obj} {tk' : Nat} (hx : x = ⟨#[if i = 0 then 63 else 45]⟩)
    (F : Fr h₀ env.locals h' (fmMap m tm P (some (.int i t)) vt vb vc)) (N : News h₀ env.locals h' [(P, listOf (vs.toArray.push (Value.str x tc)) n'), (e, oe), (it, oi)]) :
    ElseQ h₀ env m tm P e it s i t vt vb vc vs oe oi .next { s with heap := h', toks := tk' } := ⟨rfl, h', tk', n', tc, rfl, F, by rw [show (vs ++ [Value.str ⟨#[if i = 0 then 63 else 45]⟩ tc]).toArray = vs.toArray.push (Value.str x tc) by simp [hx]]; exact N⟩
theorem fmMap_start (m : Int) (tm : Tok) (P : Addr) : (fun y => if y = Str.ofString "perm" then some (Value.ref P) else List.lookup y [(Str.ofString "mode", Value.int m tm)]) = fmMap m tm P none none none none := by
  funext y
  unfold fmMap
  by_cases h1 : y = ("char" : Str)
  · subst h1; rfl
  · by_cases h2 : y = ("bit" : Str)
    · subst h2; rfl
    · by_cases h3 : y = ("table" : Str)
      · subst h3; rfl
      · by_cases h4 : y = ("index" : Str)
        · subst h4; rfl
        · by_cases h5 : y = ("perm" : Str)
          · subst h5; rfl
          · by_cases h6 : y = ("mode" : Str)
            · subst h6; rfl
            · simp only [h1, h2, h3, h4, h5, h6, if_false, List.lookup_cons, List.lookup_nil]
              have : (y == Str.ofString "mode") = false := by simpa using h6
              rw [this]
theorem chars_carried {vs : List Value} {cs : List Nat} (h : CharsAre vs cs) : CarriedAll vs (cs.map fun c => PyData.str ⟨#[c]⟩) := by
  unfold CharsAre at h
  induction h with
  | nil => exact .nil
  | cons a b ih => obtain ⟨t, rfl⟩ := a; exact .cons (.str _ _) ih
theorem glue_ones (cs : List Nat) : PySem.Txt.join (PySem.Str.ofString "") (cs.map fun c => (⟨#[c]⟩ : Str)) = ⟨cs.toArray⟩ := by
  have go : ∀ (r : List Nat) (acc : Array Nat), (r.map fun c => (⟨#[c]⟩ : Str)).foldl (fun acc p => acc ++ (PySem.Str.ofString "").cps ++ p.cps) acc = acc ++ r.toArray := by
    intro r
    induction r with
    | nil => intro acc; simp
    | cons a r ih =>
      intro acc
      rw [List.map_cons, List.foldl_cons, ih]
      have : (PySem.Str.ofString "").cps = #[] := rfl
      rw [this]
      simp
  cases cs with
  | nil => rfl
  | cons a r =>
    show (⟨((r.map fun c => (⟨#[c]⟩ : Str))).foldl (fun acc p => acc ++ (PySem.Str.ofString "").cps ++ p.cps) #[a]⟩ : Str) = _
    rw [go]
    simp
theorem line_join {w : World} {A : Around} {s : Shared} {E : Value → Shared → Prop} {Q : Value → Shared → Prop} {h₀ : Heap} {L P : Addr} {vs : List Value} {n : Nat} {cs : List Nat} {t : Tok} {news : List (Addr × Obj)} (hc : CharsAre vs cs) (hn : vs.length ≤ 1000) (N : News h₀ L s.heap ((P, listOf vs.toArray n) :: news))
    (h : ∀ t' k, Q (.str ⟨cs.toArray⟩ t') { s with toks := k }) : wpAny (model prog w) A (call (.builtin "str.join") [.str (Str.ofString "") t, .ref P]) Q E s :=
  KT.join_1 (l := cs) (g := fun c => (⟨#[c]⟩ : Str)) (ys := vs) ⟨_, (N _ (.head _)).1, rfl, _, rfl⟩ (chars_carried hc) (fun _ _ => rfl) (by have := hc.length; lia) fun t' k _ => by
    rw [glue_ones]; exact h t' k
section
variable {w : World} {s : Shared} {mean : ExcName → Option Value} {mg mb : Str → Option Value}
theorem c_filemode (X : (hd.heap_39 w.params).In s.heap) (T : Top hd.view_39 loose mean mg mb s.heap) {m : Int} {t : Tok} :
    wpAny (model prog w) (AL 2) (call (.ref 117) [.int m t]) (Back s (isS ⟨(fmFirst m 10).toArray⟩)) NoE s := by
  refine enter X T.nolimit (by k_is) (by k_is) (by decide) (BindsTo.of_eq rfl) (locs rfl) (by decide) ?_
  intro L' h' F' N'
  k_with_none
  k_with "call ref" => (((with_reducible show wpAny _ _ (call (Value.ref 28) [Value.int _ _]) _ _ _); refine' line_i (c_ifmt ?k1 ?k2) rfl (Nat.le_of_ble_eq_true rfl) (Nat.le_of_ble_eq_true rfl) ?k3 ?k4 ?_; (case k1 => exact Frag.In.keeps (by assumption) (Fr.keep (by assumption))); (case k2 => exact Top.keeps (by assumption) (Fr.keep (by assumption))); (case k3 => assumption); (case k4 => assumption); intro t' h' tk' F' N'))
  k_with "exec For Tuple Call" => ((refine' wpAny_For ?_ ?hs; (case hs => (intro _; with_unfolding_all rfl))))
  k_with "call type:enumerate" => (((show wpAny _ _ (call (Value.type "enumerate") [Value.ref 110]) _ _ _); refine' line_enum ?k1 rfl (Nat.le_of_ble_eq_true rfl) (Nat.le_of_ble_eq_true rfl) ?k2 ?k3 ?_; (case k1 => assumption); (case k2 => assumption); (case k3 => assumption); intro e' it' h' tk' F' N' ei' en'))
  k_with "call builtin:str.join" => ((refine' line_join ?k1 ?k2 ?k3 ?_; (case k1 => assumption); (case k2 => assumption); (case k3 => assumption); intro t' tk'))
  k_with "pyIter ref" => ((refine line_pyEnum (by assumption) ?_))
  k_steps
  rename Fr _ _ _ _ => F2
  rename News _ _ _ _ => N2
  unfold Held
  refine fm_loop (m := m) (tm := t) X rfl rfl rfl rfl rfl rfl (fmMap_start m t _ ▸ F2) N2 (by assumption) (by assumption) ?_ ?_ ?_
  · intro i t1 tb tc vt b c vs n oe oi o I h tk hvs hPe hPi hPI F N
    by_cases hi : i = 0
    · subst hi
      k_steps
      · refine body_brk ?_ (by assumption) (by assumption)
        simp_all [fmCond]
      · refine body_next ?_ (by assumption) (by assumption)
        simp_all [fmCond]
    · k_steps
      all_goals first
        | (exfalso; lia)
        | (refine body_brk ?_ (by assumption) (by assumption); simp_all [fmCond]; done)
        | (refine body_next ?_ (by assumption) (by assumption); simp_all [fmCond]; done)
  · intro i t1 vt vb vc vs n oe oi h tk hvs hPe hPi F N
    by_cases hi : i = 0
    · subst hi
      k_steps
      exact else_q (by rw [if_pos rfl]) (by assumption) (by assumption)
    · k_steps
      all_goals first
        | (exfalso; lia)
        | exact else_q (by rw [if_neg hi]) (by assumption) (by assumption)
  · intro vi vt vb vc vs n h tk hvs F N
    dsimp only
    have hlen : vs.length ≤ 1000 := by rw [hvs.length, fmFirst_len]; lia
    k_steps
    exact back_s rfl (Fr.keep (by assumption))
end
end Mine
end

section
open PySem PySem.W PySem.Calls PyProof.Rows
set_option Elab.async false
set_option maxRecDepth 100000
set_option maxHeartbeats 4000000
set_option linter.unusedVariables false
namespace Mine
/-- neither a frame nor a list -/
noncomputable def Solid (o : Obj) : Prop := (∀ es ep, o.data ≠ .dict es ep) ∧ o.cls ≠ .type "list"
/-- all below n stays, and above it all but frames and lists -/
noncomputable def KL (n : Nat) (h h' : Heap) : Prop := ∀ (b : Nat) o, h.get? b = some o → (Solid o ∨ b < n) → h'.get? b = some o
/-- all stays but frames and lists -/
noncomputable def KE (h h' : Heap) : Prop := ∀ (b : Nat) o, h.get? b = some o → Solid o → h'.get? b = some o
theorem KL.ke {n : Nat} {h h' : Heap} (k : KL n h h') : KE h h' := fun b o e q => k b o e (.inl q)
structure CompOK (w : World) (A : Around) (env : Env) (elt target : PySem.Expr) (scope : Scope) (cl : List (Str × Addr)) (I : Addr) (N : Nat) (wr : List Addr) (Jx : Nat → List Value → Heap → Prop) (Je : List Value → Heap → Prop) (s₂ : Shared) : Prop where
  low : ∀ b ∈ wr, @LT.lt Nat _ b s₂.heap.objs.size
  few : N ≤ 1000
  jkl : ∀ i ys h h', Jx i ys h → KL s₂.heap.objs.size h h' → Jx i ys h'
  jke : ∀ ys h h', Je ys h → KE h h' → Je ys h'
  start : Jx 0 [] s₂.heap
  self : ∀ (s : Shared) (Q : Value → Shared → Prop) (E : Value → Shared → Prop), Jx 0 [] s.heap → Q (.ref I) s → wpAny (model prog w) A (pyIter (.ref I)) Q E s
  turn : ∀ (C : Addr) (i : Nat) (ys : List Value) (h : Heap) (tk : Nat) (m' : Str → Option Value), @LE.le Nat _ s₂.heap.objs.size C → i < N → ys.length = i → KeepsBut wr s₂.heap h → Jx i ys h → h.Ns C m' →
    wpAny (model prog w) A (pyNext (.ref I)) (fun r s₁ => ∃ v, r = some v ∧ wpAny (model prog w) A (letOwnedTupleGo target (.ref I) v) (fun _ s₁' => wpAny (model prog w) A (assign target (compEnvC scope cl C env) v) (fun _ s₃ =>
      wpAny (model prog w) A (eval elt (compEnvC scope cl C env)) (fun x s₄ => ∃ h' tk' m'', s₄ = { s₂ with heap := h', toks := tk' } ∧ KeepsBut (C :: wr) h h' ∧ Jx (i + 1) (ys ++ [x]) h' ∧ h'.Ns C m'') NoE s₃) NoE s₁') NoE s₁) NoE { s₂ with heap := h, toks := tk }
  fin : ∀ (C : Addr) (ys : List Value) (h : Heap) (tk : Nat) (m' : Str → Option Value), @LE.le Nat _ s₂.heap.objs.size C → ys.length = N → KeepsBut wr s₂.heap h → Jx N ys h → h.Ns C m' →
    wpAny (model prog w) A (pyNext (.ref I)) (fun r s₁ => r = none ∧ ∃ h' tk', s₁ = { s₂ with heap := h', toks := tk' } ∧ KeepsBut wr h h' ∧ Je ys h') NoE { s₂ with heap := h, toks := tk }
/-- what is left of a comprehension at its iterator -/
noncomputable def CompGo (w : World) (A : Around) (env : Env) (elt target : PySem.Expr) (scope : Scope) (cl : List (Str × Addr)) (Q : Value → Shared → Prop) (it : Value) (s₂ : Shared) : Prop :=
  ∃ I N wr Jx Je, it = .ref I ∧ CompOK w A env elt target scope cl I N wr Jx Je s₂ ∧
    ∀ D ys h' tk c, s₂.heap.get? D = none → @LE.le Nat _ s₂.heap.objs.size D → ys.length = N → Je ys h' → KeepsBut wr s₂.heap h' → h'.get? D = some (listOf ys.toArray c) → Q (.ref D) { s₂ with heap := h', toks := tk }
noncomputable def CompStore (w : World) (A : Around) (env : Env) (elt target : PySem.Expr) (scope : Scope) (cl : List (Str × Addr)) (y : Str) (Q : Flow → Shared → Prop) (it : Value) (s₂ : Shared) : Prop :=
  ∃ I N wr Jx Je m, it = .ref I ∧ CompOK w A env elt target scope cl I N wr Jx Je s₂ ∧ env.locals ∉ wr ∧ s₂.heap.Ns env.locals m ∧
    ∀ D ys h' tk c, s₂.heap.get? D = none → @LE.le Nat _ s₂.heap.objs.size D → ys.length = N → Je ys h' → KeepsBut (env.locals :: wr) s₂.heap h' → h'.Ns env.locals (fun z => if z = y then some (.ref D) else m z) → h'.get? D = some (listOf ys.toArray c) → Q .next { s₂ with heap := h', toks := tk }
section
variable {w : World} {A : Around} {E : Value → Shared → Prop} {R : Result → Shared → Prop} {s : Shared} {env : Env}
theorem comp_loop {elt target iter : PySem.Expr} {scope : Scope} {pos : Pos} {it acc : Value} {env : Env} (I : Nat → Shared → Prop)
    (turn : ∀ n s, I n s → wpAny (model prog w) A (pyNext it) (fun r s₁ => match r with
      | none => R (.ok .next) s₁
      | some v => wpAny (model prog w) A (letOwnedTupleGo target it v) (fun _ s₁' => wpAny (model prog w) A (assign target env v) (fun _ s₂ =>
          wpAny (model prog w) A (eval elt env) (fun x s₄ =>
              wpAny (model prog w) A (call (.builtin "list.append") [acc, x]) (fun _ s₅ => ∃ m, m < n ∧ I m s₅) NoE s₄) NoE s₂)
          NoE s₁') NoE s₁) NoE s)
    (n : Nat) (h : I n s) : codeAny (model prog w) A (.compLoop (.ListComp elt [⟨target, iter, [], 0⟩] scope pos) 0 it acc env) R s := by
  refine codeAny_loop rfl I (fun n s hI => ?_) n h
  show wpAny _ A ((compTurn (.ListComp elt [⟨target, iter, [], 0⟩] scope pos) 0 it acc env).onRaise (fun x => do noteFrame x env; theTreesLotGoes x)) _ _ s
  refine wpAny_noted ?_
  rw [compTurn_list]
  refine wpAny_bind (wpAny_standAt (wpAny_bind (wpAny_mono (turn n s hI) (fun r s₁ h₁ => ?_) fun _ _ h' => h'.elim)))
  cases r with
  | none => exact wpAny_pure h₁
  | some v =>
    refine wpAny_bind (wpAny_mono h₁ (fun _ s₁' h₁' => ?_) fun _ _ h' => h'.elim)
    refine wpAny_bind (wpAny_mono h₁' (fun _ s₂ h₂ => wpAny_bind (wpAny_mono (wpAny_tests_nil (Q := fun ok s₃ => ok = true ∧ s₃ = s₂) ⟨rfl, rfl⟩) (fun ok s₃ h₃ => ?_) fun _ _ h' => h')) fun _ _ h' => h'.elim)
    obtain ⟨rfl, rfl⟩ := h₃
    exact wpAny_bind (wpAny_bind (wpAny_mono h₂ (fun x s₄ h₄ => wpAny_bind (wpAny_mono h₄ (fun _ s₅ h₅ => wpAny_pure (wpAny_pure ⟨rfl, h₅⟩)) fun _ _ h' => h'.elim)) fun _ _ h' => h'.elim))
theorem comp_block {elt target iter : PySem.Expr} {scope : Scope} {cl : List (Str × Addr)} {pos : Pos} {s₂ : Shared} {I : Addr} {N : Nat} {wr : List Addr} {Jx : Nat → List Value → Heap → Prop} {Je : List Value → Heap → Prop}
    (W : CompOK w A env elt target scope cl I N wr Jx Je s₂) {RR : Value → Addr → Result → Shared → Prop}
    (hcell : ∀ y ∈ scope.names, y.2 ≠ .cell) (hkind : scope.kind = .function)
    (hRR : ∀ D C h' tk m' ys c, s₂.heap.get? D = none → @LE.le Nat _ s₂.heap.objs.size D → s₂.heap.get? C = none → @LE.le Nat _ s₂.heap.objs.size C → D ≠ C → h'.Ns C m' → ys.length = N → Je ys h' → KeepsBut wr s₂.heap h' → h'.get? D = some (listOf ys.toArray c) →
      RR (.ref D) C (.ok .next) { s₂ with heap := h', toks := tk }) :
    wpAny (model prog w) A (newList []) (fun acc s₃ => wpAny (model prog w) A (newFunctionEnv scope env.globals cl [] env.qual none .none (some env)) (fun cenv s₄ =>
      codeAny (model prog w) A (.compStart (.ListComp elt [⟨target, iter, [], 0⟩] scope pos) 0 (.ref I) acc { cenv with scope := relabel scope env }) (RR acc cenv.locals) s₄) E s₃) E s₂ := by
  refine wpAny_newObj_type (wpAny_newFunctionEnv hcell (by intro y hy; simp at hy) (fun h₁ hns₁ hsb₁ => ?_) hkind)
  dsimp only at hns₁ hsb₁ ⊢
  generalize hH2 : s₂.heap.push { cls := .type "list", dict := none, data := .seq ([] : List Value).toArray } = H2 at hns₁ hsb₁ ⊢
  have hC : H2.objs.size = s₂.heap.objs.size + 1 := by rw [← hH2, Heap.size_push]
  have hDC : s₂.heap.objs.size ≠ H2.objs.size := by rw [hC]; exact Nat.ne_of_lt (Nat.lt_succ_self _)
  have hCle : s₂.heap.objs.size ≤ H2.objs.size := by rw [hC]; exact Nat.le_succ _
  have below : ∀ b, b < s₂.heap.objs.size → b ≠ H2.objs.size ∧ b ≠ s₂.heap.objs.size := fun b hb => ⟨by rw [hC]; exact Nat.ne_of_lt (Nat.lt_succ_of_lt hb), Nat.ne_of_lt hb⟩
  have old : Keeps s₂.heap h₁ := fun b o e => hsb₁.extBut b o (below b (Heap.lt_size e)).1 (Heap.get?_push_of_some _ (hH2 ▸ Heap.get?_push_of_some _ e))
  have hacc : h₁.PlainList s₂.heap.objs.size #[] := ⟨_, hsb₁.extBut _ _ hDC (Heap.get?_push_of_some _ (hH2 ▸ Heap.get?_push_size _ rfl))⟩
  have hst₁ : Jx 0 [] h₁ := W.jkl _ _ _ _ W.start fun b o e _ => old b o e
  have fresh : ∀ a, s₂.heap.objs.size ≤ a → s₂.heap.get? a = none := fun a ha => Heap.get?_none_of_le ha
  have hwD : s₂.heap.objs.size ∉ wr := fun q => Nat.lt_irrefl _ (W.low _ q)
  have hwC : H2.objs.size ∉ wr := fun q => Nat.lt_irrefl _ (Nat.lt_of_lt_of_le (W.low _ q) hCle)
  have loop : ∀ s₃ : Shared, s₃ = { s₂ with heap := h₁, toks := s₂.toks + ([] : List (Str × Value)).length } →
      codeAny (model prog w) A (.compLoop (.ListComp elt [⟨target, iter, [], 0⟩] scope pos) 0 (.ref I) (.ref s₂.heap.objs.size) (compEnvC scope cl H2.objs.size env))
        (RR (.ref s₂.heap.objs.size) H2.objs.size) s₃ := by
    rintro s₃ rfl
    refine comp_loop (fun k s' => ∃ i h tk m' ys, k = N - i ∧ i ≤ N ∧ ys.length = i ∧ s' = { s₂ with heap := h, toks := tk } ∧ KeepsBut wr s₂.heap h ∧ Jx i ys h ∧ h.Ns H2.objs.size m' ∧ h.PlainList s₂.heap.objs.size ys.toArray) ?_ N
      ⟨0, h₁, _, _, [], rfl, Nat.zero_le _, rfl, rfl, old.but, hst₁, hns₁, hacc⟩
    rintro k s' ⟨i, h, tk, m', ys, rfl, hiN, hlen, rfl, hkb, hJ, hns, hpl⟩
    by_cases hin : i < N
    · refine wpAny_mono (W.turn _ i ys h tk m' hCle hin hlen hkb hJ hns) (fun r s₁ hr => ?_) fun _ _ e => e
      obtain ⟨v, rfl, hv⟩ := hr
      refine wpAny_mono hv (fun _ s₁' h1 => wpAny_mono h1 (fun _ s₃ h3 => wpAny_mono h3 (fun x s₄ h4 => ?_) fun _ _ e => e) fun _ _ e => e) fun _ _ e => e
      obtain ⟨h', tk', m'', rfl, kb', hJ', hns'⟩ := h4
      have hpl' : h'.PlainList s₂.heap.objs.size ys.toArray := hpl.at fun o e => kb' _ _ (fun q => by
        rcases List.mem_cons.mp q with q | q
        · exact hDC q
        · exact hwD q) e
      refine wpAny_list_append_plain hpl' (fun h5 hp5 hs5 => ⟨N - (i + 1), by lia, i + 1, h5, _, m'', ys ++ [x], rfl, hin, by simp [hlen], rfl, ?_, ?_, ?_, ?_⟩) ?_
      · intro b o hb e
        have hlt := Heap.lt_size e
        exact hs5.extBut b o (below b hlt).2 (kb' b o (fun q => by
          rcases List.mem_cons.mp q with q | q
          · exact (below b hlt).1 q
          · exact hb q) (hkb b o hb e))
      · refine W.jkl _ _ _ _ hJ' fun b o e hso => hs5.extBut b o (fun q => ?_) e
        rcases hso with hso | hso
        · obtain ⟨c5, e5⟩ := hpl'
          rw [q, e5] at e
          cases e
          exact hso.2 rfl
        · exact Nat.lt_irrefl _ (q ▸ hso)
      · exact hns'.sameBut hs5 hDC.symm
      · have : (ys ++ [x]).toArray = ys.toArray.push x := by simp
        rw [this]; exact hp5
      · have := W.few
        rw [sizeLine_eq]; simp; lia
    · have hi : i = N := by lia
      subst hi
      refine wpAny_mono (W.fin _ ys h tk m' hCle hlen hkb hJ hns) (fun r s₁ hr => ?_) fun _ _ e => e
      obtain ⟨rfl, h', tk', rfl, kb', hJe⟩ := hr
      obtain ⟨c, hc⟩ := hpl
      exact hRR _ _ h' tk' m' ys c (fresh _ (Nat.le_refl _)) (Nat.le_refl _) (fresh _ hCle) hCle hDC (ns_keep hns fun o e => kb' _ _ hwC e) hlen hJe (hkb.trans kb') (kb' _ _ hwD hc)
  exact codeAny_compStart_list (loop _ rfl) (W.self _ _ _ hst₁ (loop _ rfl))
/-- a list comprehension that is evaluated -/
theorem comp_eval {elt target iter : PySem.Expr} {scope : Scope} {cl : List (Str × Addr)} {pos : Pos} {Q : Value → Shared → Prop}
    (hclos : closureFor scope env = pure cl) (hcell : ∀ y ∈ scope.names, y.2 ≠ .cell) (hkind : scope.kind = .function) (hnames : ∀ y ∈ scope.names, y.2 = .local → scope.names.lookup y.1 = some .local)
    (h : wpAny (model prog w) A (eval iter env) (fun xv s₁ => wpAny (model prog w) A (pyIter xv) (CompGo w A env elt target scope cl Q) E s₁) E s)
    (hs : ∀ x, foldedSetIterable iter env x = pure x) :
    wpAny (model prog w) A (eval (.ListComp elt [⟨target, iter, [], 0⟩] scope pos) env) Q E s := by
  rw [eval_ListComp]
  refine wpAny_comprehension_free (use := none) rfl hs hclos hkind hnames (wpAny_mono h (fun xv s₁ h₁ => wpAny_mono h₁ (fun it s₂ h₂ => ?_) fun _ _ e => e) fun _ _ e => e)
  obtain ⟨I, N, wr, Jx, Je, rfl, W, hQ⟩ := h₂
  refine comp_block (RR := fun acc C => compPost (model prog w) A E none Q acc C) W hcell hkind ?_
  intro D C h' tk m' ys c hD hDn hC hCn hDC hn hlen hJe kb hc
  refine ⟨m', hn, fun h'' hs'' => hQ D ys h'' tk c hD hDn hlen (W.jke _ _ _ hJe fun b o e hso => hs''.extBut b o (fun q => ?_) e) (fun b o hb e => hs''.extBut b o (fun q => ?_) (kb b o hb e)) (hs''.extBut _ _ hDC hc)⟩
  · obtain ⟨o', es, ep, ho', hd', _⟩ := hn
    rw [show b = C from q, ho'] at e; cases e
    exact hso.1 _ _ hd'
  · rw [q, hC] at e; cases e
/-- a list comprehension that is stored -/
theorem comp_assign {elt target iter : PySem.Expr} {y : Str} {py spos : Pos} {scope : Scope} {cl : List (Str × Addr)} {pos : Pos} {Q : Flow → Shared → Prop}
    (hsw : swapsWith (.ListComp elt [⟨target, iter, [], 0⟩] scope pos) (some (.Name y py)) spos.line env = pure true)
    (hclos : closureFor scope env = pure cl) (hcell : ∀ y ∈ scope.names, y.2 ≠ .cell) (hkind : scope.kind = .function) (hnames : ∀ y ∈ scope.names, y.2 = .local → scope.names.lookup y.1 = some .local)
    (hy : env.kindOf y = some .local) (hk : env.scope.kind = .function)
    (h : wpAny (model prog w) A (eval iter env) (fun xv s₁ => wpAny (model prog w) A (pyIter xv) (CompStore w A env elt target scope cl y Q) E s₁) E s)
    (hs : ∀ x, foldedSetIterable iter env x = pure x) :
    wpAny (model prog w) A (exec (.Assign [.Name y py] (.ListComp elt [⟨target, iter, [], 0⟩] scope pos) spos) env) Q E s := by
  have hp : (env.scope.kind == .class || (env.scope.kind == .module && env.locals != env.globals)) = false := by rw [hk]; rfl
  rw [exec_Assign_Name_used _ _ _ _ hsw]
  refine wpAny_bind (wpAny_standAt (wpAny_bind ?_))
  show wpAny _ A (do let _ ← comprehension (.ListComp elt [⟨target, iter, [], 0⟩] scope pos) scope env _ (newList []) false (eval iter env) (some (assign (.Name y py) env))) _ _ s
  refine wpAny_bind (wpAny_mono (wpAny_comprehension_free (use := some (assign (.Name y py) env)) (Q := fun _ s' => Q .next s') rfl hs hclos hkind hnames
    (wpAny_mono h (fun xv s₁ h₁ => wpAny_mono h₁ (fun it s₂ h₂ => ?_) fun _ _ e => e) fun _ _ e => e)) (fun _ s' hq => wpAny_pure (wpAny_pure hq)) fun _ _ e => e)
  obtain ⟨I, N, wr, Jx, Je, m, rfl, W, hLw, hn, hQ⟩ := h₂
  refine comp_block (RR := fun acc C => compPost (model prog w) A E (some (assign (.Name y py) env)) (fun _ s' => Q .next s') acc C) W hcell hkind ?_
  intro D C h' tk m' ys c hD hDn hC hCn hDC hnC hlen hJe kb hc
  have hLC : env.locals ≠ C := by rintro rfl; obtain ⟨o, _, _, ho, _⟩ := hn; rw [hC] at ho; cases ho
  have hLD : env.locals ≠ D := by rintro rfl; obtain ⟨o, _, _, ho, _⟩ := hn; rw [hD] at ho; cases ho
  have hnL : h'.Ns env.locals m := ns_keep hn fun o e => kb _ _ hLw e
  show wpAny _ A (assign (.Name y py) env (.ref D)) _ _ _
  refine wpAny_assign_Name (wpAny_storeName_local hy hnL (fun h₂ hn₂ hs₂ => ?_) hp)
  refine ⟨m', hnC.sameBut hs₂ (Ne.symm hLC), fun h₃ hs₃ => ?_⟩
  have hnC2 := hnC.sameBut hs₂ (Ne.symm hLC)
  refine hQ D ys h₃ _ c hD hDn hlen (W.jke _ _ _ (W.jke _ _ _ hJe fun b o e hso => hs₂.extBut b o (fun q => ?_) e) fun b o e hso => hs₃.extBut b o (fun q => ?_) e) (fun b o hb e => ?_) (hn₂.sameBut hs₃ hLC) (hs₃.extBut _ _ hDC (hs₂.extBut _ _ (Ne.symm hLD) hc))
  · obtain ⟨o', es, ep, ho', hd', _⟩ := hnL
    rw [show b = env.locals from q, ho'] at e; cases e
    exact hso.1 _ _ hd'
  · obtain ⟨o', es, ep, ho', hd', _⟩ := hnC2
    rw [show b = C from q, ho'] at e; cases e
    exact hso.1 _ _ hd'
  · simp only [List.mem_cons, not_or] at hb
    exact hs₃.extBut b o (fun q => by rw [q, hC] at e; cases e) (hs₂.extBut b o hb.1 (kb b o hb.2 e))
end
section
variable {w : World} {A : Around} {s₂ : Shared} {env : Env}
noncomputable def EltOK (w : World) (A : Around) (env : Env) (elt : PySem.Expr) (scope : Scope) (cl : List (Str × Addr)) (wr : List Addr) (s₂ : Shared) (S : Nat → (Str → Option Value) → Prop) (P : Nat → Value → Heap → Prop) : Prop :=
  ∀ (C : Addr) (i : Nat) (s : Shared) (m' : Str → Option Value), @LE.le Nat _ s₂.heap.objs.size C → KeepsBut wr s₂.heap s.heap → s.heap.Ns C m' → S i m' →
    wpAny (model prog w) A (eval elt (compEnvC scope cl C env)) (fun y s' => ∃ h' tk', s' = { s with heap := h', toks := tk' } ∧ Keeps s.heap h' ∧ P i y h') NoE s
noncomputable def Elts (P : Nat → Value → Heap → Prop) (ys : List Value) (h : Heap) : Prop := ∀ j y, ys[j]? = some y → P j y h
theorem Elts.snoc {P : Nat → Value → Heap → Prop} {ys : List Value} {h h' : Heap} {y : Value} (E : Elts P ys h) (hP : ∀ i v, P i v h → P i v h') (hy : P ys.length y h') : Elts P (ys ++ [y]) h' := by
  intro j z hz
  by_cases hj : j < ys.length
  · rw [List.getElem?_append_left hj] at hz
    exact hP _ _ (E j z hz)
  · rw [List.getElem?_append_right (by lia)] at hz
    have : j - ys.length = 0 := by
      cases q : j - ys.length with
      | zero => rfl
      | succ n => rw [q] at hz; simp at hz
    rw [this] at hz
    cases hz
    have : j = ys.length := by lia
    rw [this]; exact hy
theorem keepsBut_low {wr : List Addr} {h h' h'' : Heap} {C : Addr} (k : KeepsBut wr h h') (hC : @LE.le Nat _ h.objs.size C) (hs : KeepsBut (C :: wr) h' h'') : KeepsBut wr h h'' := fun b o hb e =>
  hs b o (fun q => by
    rcases List.mem_cons.mp q with q | q
    · exact Nat.lt_irrefl _ (Nat.lt_of_lt_of_le (Heap.lt_size e) (q ▸ hC))
    · exact hb q) (k b o hb e)
theorem KE.of_keeps {h h' : Heap} (k : Keeps h h') : KE h h' := fun b o e _ => k b o e
theorem KE.of_ns {h h' : Heap} {C : Addr} {m : Str → Option Value} (n : h.Ns C m) (hs : Heap.SameBut C h h') : KE h h' := fun b o e hso => hs.extBut b o (fun q => by
  obtain ⟨o', es, ep, ho', hd', _⟩ := n
  rw [show b = C from q, ho'] at e; cases e
  exact hso.1 _ _ hd') e
/-- a comprehension with one name over a list -/
theorem CompOK.list {elt : PySem.Expr} {x : Str} {px : Pos} {scope : Scope} {cl : List (Str × Addr)} {I l : Addr} {xs : Array Value} (hh : A.handled = none) (hI : s₂.heap.IsListIter I l 0) (hl : s₂.heap.IsList l xs) (hlI : l ≠ I) (hsz : xs.size ≤ 1000)
    (hx : scope.names.lookup x = some .local) (hkind : scope.kind = .function) {P : Nat → Value → Heap → Prop} (hP : ∀ i v h h', P i v h → KE h h' → P i v h')
    (hPI : ∀ j v i h h', P j v h → h.IsListIter I l i → KeepsBut [I] h h' → P j v h')
    (el : EltOK w A env elt scope cl [I] s₂ (fun i m' => i < xs.size ∧ ∃ v, xs[i]? = some v ∧ m' x = some v) P) :
    CompOK w A env elt (.Name x px) scope cl I xs.size [I] (fun i ys h => h.IsListIter I l i ∧ h.IsList l xs ∧ Elts P ys h) (Elts P) s₂ where
  low := fun b hb => by
    rw [List.mem_singleton] at hb; subst hb
    obtain ⟨o, ho, _⟩ := hI
    exact Heap.lt_size ho
  few := hsz
  jkl := fun i ys h h' st k => by
    obtain ⟨h1, h2, h3⟩ := st
    have lI : @LT.lt Nat _ I s₂.heap.objs.size := by obtain ⟨o, ho, _⟩ := hI; exact Heap.lt_size ho
    have ll : @LT.lt Nat _ l s₂.heap.objs.size := by obtain ⟨o, ho, _⟩ := hl; exact Heap.lt_size ho
    exact ⟨h1.at fun o e => k _ _ e (.inr lI), h2.at fun o e => k _ _ e (.inr ll), fun j y hj => hP _ _ _ _ (h3 j y hj) k.ke⟩
  jke := fun ys h h' st k j y hj => hP _ _ _ _ (st j y hj) k
  start := ⟨hI, hl, fun j y hj => by simp at hj⟩
  self := fun s Q E st hQ => wpAny_pyIter_listiter st.1 hQ
  turn := fun C i ys h tk m' hC hi hlen kb st hn => by
    obtain ⟨h1, h2, h3⟩ := st
    have lI : @LT.lt Nat _ I s₂.heap.objs.size := by obtain ⟨o, ho, _⟩ := hI; exact Heap.lt_size ho
    have hCI : C ≠ I := fun q => Nat.lt_irrefl _ (Nat.lt_of_lt_of_le lI (q ▸ hC))
    refine wpAny_pyNext_list_item h1 h2 (x := xs[i]) (by simp [hi]) fun h' hit' hs' => ⟨_, rfl, ?_⟩
    show wpAny _ _ (pure ()) _ _ _
    refine wpAny_pure (wpAny_assign_Name (wpAny_storeName_local (lookup_relabel_local hx) (hn.sameBut hs' hCI) (fun h2' n2 s2 => ?_) (by simp [compEnvC, relabel, hkind])))
    have hnC := hn.sameBut hs' hCI
    have kb1 : KeepsBut [I] h h' := KeepsBut.of_same hs'
    have kbC : KeepsBut [C] h' h2' := KeepsBut.of_same s2
    have kbT : KeepsBut [C, I] h h2' := (kb1.mono fun x q => .tail _ q).trans (kbC.mono fun x q => by rw [List.mem_singleton.mp q]; exact .head _)
    have kb2 : KeepsBut [I] s₂.heap h2' := keepsBut_low kb hC kbT
    refine wpAny_mono (el C i _ _ hC kb2 n2 ⟨hi, xs[i], by simp [hi], by simp⟩) (fun y s' hy => ?_) fun _ _ e => e
    obtain ⟨h3', tk3, rfl, k3, hPy⟩ := hy
    refine ⟨h3', tk3, _, rfl, kbT.trans k3.but, ⟨(hit'.at fun o e => s2.extBut _ _ hCI.symm e).at fun o e => k3 _ _ e, ?_, ?_⟩, ns_keep n2 fun o e => k3 _ _ e⟩
    · have ll : @LT.lt Nat _ l s₂.heap.objs.size := by obtain ⟨o, ho, _⟩ := hl; exact Heap.lt_size ho
      exact h2.at fun o e => k3 _ _ (kbT _ _ (fun q => by
        simp only [List.mem_cons, List.not_mem_nil, or_false] at q
        rcases q with q | q
        · exact Nat.lt_irrefl _ (Nat.lt_of_lt_of_le ll (q ▸ hC))
        · exact hlI q) e)
    · refine h3.snoc (fun j v hj => hP _ _ _ _ (hP _ _ _ _ (hPI _ _ _ _ _ hj h1 kb1) (KE.of_ns hnC s2)) (KE.of_keeps k3)) ?_
      rw [hlen]; exact hPy
  fin := fun C ys h tk m' hC hlen kb st hn => by
    obtain ⟨h1, h2, h3⟩ := st
    refine wpAny_pyNext_list_end hh h1 h2 (by simp) fun h' he' => ⟨rfl, h', _, rfl, fun b o hb e => he' b o (fun q => hb (by simp [q])) e, fun j y hj => hPI _ _ _ _ _ (h3 j y hj) h1 fun b o hb e => he' b o (fun q => hb (by simp [q])) e⟩
/-- a comprehension with one name over a tuple -/
theorem CompOK.tup {elt : PySem.Expr} {x : Str} {px : Pos} {scope : Scope} {cl : List (Str × Addr)} {I l : Addr} {xs : Array Value} (hh : A.handled = none) (hI : s₂.heap.IsTupleIter I l 0) (hl : s₂.heap.IsTuple l xs) (hlI : l ≠ I) (hsz : xs.size ≤ 1000)
    (hx : scope.names.lookup x = some .local) (hkind : scope.kind = .function) {P : Nat → Value → Heap → Prop} (hP : ∀ i v h h', P i v h → KE h h' → P i v h')
    (hPI : ∀ j v i h h', P j v h → h.IsTupleIter I l i → KeepsBut [I] h h' → P j v h')
    (el : EltOK w A env elt scope cl [I] s₂ (fun i m' => i < xs.size ∧ ∃ v, xs[i]? = some v ∧ m' x = some v) P) :
    CompOK w A env elt (.Name x px) scope cl I xs.size [I] (fun i ys h => h.IsTupleIter I l i ∧ h.IsTuple l xs ∧ Elts P ys h) (Elts P) s₂ where
  low := fun b hb => by
    rw [List.mem_singleton] at hb; subst hb
    obtain ⟨o, ho, _⟩ := hI
    exact Heap.lt_size ho
  few := hsz
  jkl := fun i ys h h' st k => by
    obtain ⟨h1, h2, h3⟩ := st
    have lI : @LT.lt Nat _ I s₂.heap.objs.size := by obtain ⟨o, ho, _⟩ := hI; exact Heap.lt_size ho
    have ll : @LT.lt Nat _ l s₂.heap.objs.size := by obtain ⟨o, ho, _⟩ := hl; exact Heap.lt_size ho
    exact ⟨h1.at fun o e => k _ _ e (.inr lI), h2.at fun o e => k _ _ e (.inr ll), fun j y hj => hP _ _ _ _ (h3 j y hj) k.ke⟩
  jke := fun ys h h' st k j y hj => hP _ _ _ _ (st j y hj) k
  start := ⟨hI, hl, fun j y hj => by simp at hj⟩
  self := fun s Q E st hQ => wpAny_pyIter_tupleiter st.1 hQ
  turn := fun C i ys h tk m' hC hi hlen kb st hn => by
    obtain ⟨h1, h2, h3⟩ := st
    have lI : @LT.lt Nat _ I s₂.heap.objs.size := by obtain ⟨o, ho, _⟩ := hI; exact Heap.lt_size ho
    have hCI : C ≠ I := fun q => Nat.lt_irrefl _ (Nat.lt_of_lt_of_le lI (q ▸ hC))
    refine wpAny_pyNext_tuple_item h1 h2 (x := xs[i]) (by simp [hi]) fun h' hit' hs' => ⟨_, rfl, ?_⟩
    show wpAny _ _ (pure ()) _ _ _
    refine wpAny_pure (wpAny_assign_Name (wpAny_storeName_local (lookup_relabel_local hx) (hn.sameBut hs' hCI) (fun h2' n2 s2 => ?_) (by simp [compEnvC, relabel, hkind])))
    have hnC := hn.sameBut hs' hCI
    have kb1 : KeepsBut [I] h h' := KeepsBut.of_same hs'
    have kbC : KeepsBut [C] h' h2' := KeepsBut.of_same s2
    have kbT : KeepsBut [C, I] h h2' := (kb1.mono fun x q => .tail _ q).trans (kbC.mono fun x q => by rw [List.mem_singleton.mp q]; exact .head _)
    have kb2 : KeepsBut [I] s₂.heap h2' := keepsBut_low kb hC kbT
    refine wpAny_mono (el C i _ _ hC kb2 n2 ⟨hi, xs[i], by simp [hi], by simp⟩) (fun y s' hy => ?_) fun _ _ e => e
    obtain ⟨h3', tk3, rfl, k3, hPy⟩ := hy
    refine ⟨h3', tk3, _, rfl, kbT.trans k3.but, ⟨(hit'.at fun o e => s2.extBut _ _ hCI.symm e).at fun o e => k3 _ _ e, ?_, ?_⟩, ns_keep n2 fun o e => k3 _ _ e⟩
    · have ll : @LT.lt Nat _ l s₂.heap.objs.size := by obtain ⟨o, ho, _⟩ := hl; exact Heap.lt_size ho
      exact h2.at fun o e => k3 _ _ (kbT _ _ (fun q => by
        simp only [List.mem_cons, List.not_mem_nil, or_false] at q
        rcases q with q | q
        · exact Nat.lt_irrefl _ (Nat.lt_of_lt_of_le ll (q ▸ hC))
        · exact hlI q) e)
    · refine h3.snoc (fun j v hj => hP _ _ _ _ (hP _ _ _ _ (hPI _ _ _ _ _ hj h1 kb1) (KE.of_ns hnC s2)) (KE.of_keeps k3)) ?_
      rw [hlen]; exact hPy
  fin := fun C ys h tk m' hC hlen kb st hn => by
    obtain ⟨h1, h2, h3⟩ := st
    refine wpAny_pyNext_tuple_end hh h1 h2 (by simp) fun h' he' => ⟨rfl, h', _, rfl, fun b o hb e => he' b o (fun q => hb (by simp [q])) e, fun j y hj => hPI _ _ _ _ _ (h3 j y hj) h1 fun b o hb e => he' b o (fun q => hb (by simp [q])) e⟩
end
end Mine
end

section
open PySem PySem.W PySem.Calls PyProof.Rows
set_option Elab.async false
set_option maxRecDepth 100000
set_option maxHeartbeats 4000000
set_option linter.unusedVariables false
namespace Mine
theorem fillWl : (fun (_ : OpenLaw) (_ : Params → Frag) => True) PySem.Challenge.rw_ny0158_01 K2 := by w_top off; k_fill; trivial
theorem alive_39 (P : Params) : (List.range 207).all (fun a => ((hd.heap_39 P).lookup a).isSome) = true := by rfl
theorem Gw.of {w : World} {h : Heap} {mean : ExcName → Option Value} {mg mb : Str → Option Value} (X : (hd.heap_39 w.params).In h) (T : Top hd.view_39 loose mean mg mb h) : Gw w mg mb h :=
  ⟨K2_of X, topRead_of T, fun a ha => by
    have := List.all_eq_true.mp (alive_39 w.params) a (List.mem_range.mpr ha)
    obtain ⟨o, ho⟩ := Option.isSome_iff_exists.mp this
    exact ⟨o, X a o ho⟩⟩
/-- what the first signs tell -/
noncomputable def toldTo (x : Str) : Nat → Int
  | 0 => 0
  | i + 1 => toldTo x i * (signsL.getD i ⟨#[]⟩).length + Txt.find (signsL.getD i ⟨#[]⟩) ⟨#[cpAt x i]⟩
structure ZipLHere (h : Heap) (n D : Nat) (x : Str) (tx : Tok) : Prop where
  hz : ZipAt h (n + 4) (n + 2) (n + 3) .none false
  hI : TupAt h (n + 2) #[.ref n, .ref (n + 1)]
  hO : TupAt h (n + 3) #[.none, .none]
  h1 : h.get? n = some (listIt D)
  h2 : h.get? (n + 1) = some (strIt x tx)
theorem notin2 {a b c : Addr} (h1 : @Ne Nat a b) (h2 : @Ne Nat a c) : a ∉ [b, c] := fun q => by
  rcases List.mem_cons.mp q with q | q
  · exact h1 q
  · exact h2 (List.mem_singleton.mp q)
theorem signs_len : ∀ x ∈ signsL, x.length ≤ 8 := by decide
section
variable {w : World} {A : Around} {E : Value → Shared → Prop} {s : Shared} {mg mb : Str → Option Value} {Q : Value → Shared → Prop}
theorem line_zipL {h₀ : Heap} {L D c : Nat} {m : Str → Option Value} {vs : List Value} {news : List (Addr × Obj)} {x : Str} {tx : Tok} (F : Fr h₀ L s.heap m) (N : News h₀ L s.heap ((D, listOf vs.toArray c) :: news))
    (h : ∀ n h', L < n → D < n → (∀ p ∈ news, p.1 < n) → ZipLHere h' n D x tx → Fr h₀ L h' m → News h₀ L h' ((D, listOf vs.toArray c) :: news) → Q (.ref (n + 4)) { s with heap := h' }) : wpAny (model prog w) A (call (.type "zip") [.ref D, .str x tx]) Q E s := by
  have hl : s.heap.IsList D vs.toArray := ⟨_, (N _ (.head _)).1, rfl, _, rfl⟩
  refine call_zip2 (makes_list D _) (makes_str x tx) (fun _ _ h => h) rfl rfl hl trivial fun h' hz hI hO h1 h2 kp => ?_
  exact h _ h' F.ns.lt (Heap.lt_size (N _ (.head _)).1) (fun p hp => Heap.lt_size (N p (.tail _ hp)).1) ⟨hz, hI, hO, h1, h2⟩ (F.kept kp) fun p hp => ⟨kp _ _ (N p hp).1, (N p hp).2⟩
theorem line_fig {h₀ : Heap} {L n D c : Nat} {news : List (Addr × Obj)} {m : Str → Option Value} {x : Str} {tx t0 t0' t1 t2 t3 t4 t5 t6 t7 t8 t9 : Tok} {k : Int} (G : Gw w mg mb h₀) (F : Fr h₀ L s.heap m) 
    (N : News h₀ L s.heap ((D, listOf (List.toArray [.str (Str.ofString "-?bcdlps") t0, .str (Str.ofString "-r") t1, .str (Str.ofString "-w") t2, .str (Str.ofString "-Ssx") t3, .str (Str.ofString "-r") t4, .str (Str.ofString "-w") t5, .str (Str.ofString "-Ssx") t6, .str (Str.ofString "-r") t7, .str (Str.ofString "-w") t8, .str (Str.ofString "-Ttx") t9]) c) :: news)) (hnews : ∀ p ∈ news, p.1 < n)
    (hLn : L < n) (hDn : D < n) (Z : ZipLHere s.heap n D x tx) (hx : x.cps.size = 10) (hb : ∀ i, i < 10 → 0 ≤ toldTo x i ∧ toldTo x i < 32768) (hk : toldTo x 10 = k)
    (a1 : A.handled = none) (a2 : A.depth ≤ 600 - 10 * 1) (a3 : A.units ≤ 2000 - 50 * 1)
    (h : ∀ t' h' tk, Fr h₀ L h' m → News h₀ L h' news → Q (.int k t') { s with heap := h', toks := tk }) : wpAny (model prog w) A (call (.ref 133) [.ref 161, .ref (n + 4), .int 0 t0']) Q E s := by
  have G' := G.keeps F.keep
  have hn7 : 207 ≤ n := Nat.le_trans G.size (Nat.le_trans F.above (Nat.le_of_lt hLn))
  have hD := N _ (.head _)
  dsimp only at hD
  have hD7 := G.high hD.2.2
  generalize hvs : [Value.str (Str.ofString "-?bcdlps") t0, .str (Str.ofString "-r") t1, .str (Str.ofString "-w") t2, .str (Str.ofString "-Ssx") t3, .str (Str.ofString "-r") t4, .str (Str.ofString "-w") t5, .str (Str.ofString "-Ssx") t6, .str (Str.ofString "-r") t7, .str (Str.ofString "-w") t8, .str (Str.ofString "-Ttx") t9] = vs at N hD
  have hsz : vs.toArray.size = 10 := by rw [← hvs]; rfl
  have hat : ∀ i v, i < 10 → vs.toArray[i]? = some v → ∃ t, v = .str (signsL.getD i ⟨#[]⟩) t := by
    intro i v hi hv
    rw [← hvs] at hv
    match i, hi with
    | 0, _ => cases hv; exact ⟨_, rfl⟩
    | 1, _ => cases hv; exact ⟨_, rfl⟩
    | 2, _ => cases hv; exact ⟨_, rfl⟩
    | 3, _ => cases hv; exact ⟨_, rfl⟩
    | 4, _ => cases hv; exact ⟨_, rfl⟩
    | 5, _ => cases hv; exact ⟨_, rfl⟩
    | 6, _ => cases hv; exact ⟨_, rfl⟩
    | 7, _ => cases hv; exact ⟨_, rfl⟩
    | 8, _ => cases hv; exact ⟨_, rfl⟩
    | 9, _ => cases hv; exact ⟨_, rfl⟩
  have hI' : ∀ A : Around, A.handled = none → Iter w A (n + 4) 10 [n + 4, n + 3, n, n + 1] _ (Zip2St (n + 4) (n + 2) (n + 3) n (n + 1) (fun i h => h.IsListIter n D i ∧ h.IsList D vs.toArray) (fun i h => h.IsStrIter (n + 1) (strIterType x) x tx i)) := fun A hh => by
    have D1 := Draws.list (prog := prog) (w := w) (A := A.in1) hh n D (neN (by lia)) vs.toArray
    have D2 := drawsStr (w := w) (A := A.in1) hh (n + 1) x tx
    rw [hsz] at D1
    rw [hx] at D2
    exact Iter.zip2 (by lia) D1 D2 (fun i h h' st k => ⟨kd_listIter st.1 k, kd_list st.2 k⟩) (fun i h h' st k => kd_strIter st k) (fun i h o st e => by
        obtain ⟨o', ho', hc', _⟩ := st.1
        rw [ho'] at e; cases e; rw [hc']; simp) (fun i h o st e => strIt_noTup st e)
      (notin2 (by lia) (by lia)) (by simp) (notin2 (by lia) (by lia)) (by simp) (by simp) (notin2 (by lia) (by lia)) (neN (by lia)) (neN (by lia)) (neN (by lia)) (neN (by lia)) (neN (by lia)) (neN (by lia)) (neN (by lia)) (neN (by lia)) (neN (by lia))
  have C := c_reduce (s := s) (k := 0) (by lia) G' (f := 161) (z := n + 4) (k0 := 0) (t0 := t0') (zs := [(n + 4, zipObj n), (n + 2, { cls := .type "tuple", data := .seq #[.ref n, .ref (n + 1)] }), (n + 3, { cls := .type "tuple", data := .seq #[.none, .none] }), (n, listIt D), (n + 1, strIt x tx), (D, listOf vs.toArray c)])
    (by
      intro p hp
      simp only [List.mem_cons, List.not_mem_nil, or_false] at hp
      rcases hp with rfl | rfl | rfl | rfl | rfl | rfl
      · exact Z.hz
      · exact Z.hI
      · exact Z.hO
      · exact Z.h1
      · exact Z.h2
      · exact hD.1)
    (by intro a ha; simp at ha; rcases ha with rfl | rfl | rfl | rfl | rfl | rfl <;> first | exact hn7 | exact hD7 | exact Nat.le_trans hn7 (Nat.le_add_right _ _)) (self_zip (.head _)) hI' (by intro a ha; simp at ha; rcases ha with rfl | rfl | rfl | rfl <;> simp)
    (fun h hp => ⟨⟨_, _, hp _ (.head _), fun _ => rfl, fun q => absurd q (by lia)⟩, hp _ (.tail _ (.head _)), ⟨_, _, hp _ (.tail _ (.tail _ (.head _)))⟩, ⟨⟨_, hp _ (.tail _ (.tail _ (.tail _ (.head _)))), rfl, rfl⟩, ⟨_, hp _ (.tail _ (.tail _ (.tail _ (.tail _ (.tail _ (.head _)))))), rfl, _, rfl⟩⟩, strIt_at (hp _ (.tail _ (.tail _ (.tail _ (.tail _ (.head _))))))⟩)
    (by k_is) rfl (fun i v => ∃ t, v = .int (toldTo x i) t) (fun t => ⟨t, rfl⟩)
    (by
      rintro i v el s' hi ⟨t, rfl⟩ ⟨T, a, b, rfl, hT, ha, ⟨d, u', hd, rfl⟩⟩ hk G'
      obtain ⟨ta, rfl⟩ := hat i a hi ha
      have hlen : (signsL.getD i ⟨#[]⟩).length ≤ 8 := by
        apply signs_len
        have : i < signsL.length := hi
        rw [List.getD_eq_getElem?_getD, List.getElem?_eq_getElem this]
        exact List.getElem_mem _
      refine wpAny_mono (c_figure G' hT (hb i hi).1 (hb i hi).2 hlen) (fun v s2 hb => ?_) fun _ _ e => e
      obtain ⟨h', tk, e, kp, t', rfl⟩ := hb
      refine ⟨h', tk, e, kp, t', ?_⟩
      have e2 : cpAt x i = d := by unfold cpAt; rw [hd]; rfl
      show Value.int _ _ = Value.int (toldTo x i * (signsL.getD i ⟨#[]⟩).length + Txt.find (signsL.getD i ⟨#[]⟩) ⟨#[cpAt x i]⟩) _
      rw [e2])
  refine wpAny_mono (fit C a1 a2 a3) (fun v s' hb => ?_) fun _ _ e => e.elim
  obtain ⟨h', tk, rfl, hk2, t', rfl⟩ := hb
  have hw : ∀ b, b ≤ L → b ∉ [n + 4, n + 3, n, n + 1] := fun b hb q => by simp at q; lia
  rw [hk]
  exact h t' h' tk ⟨ns_keep F.ns fun o e => hk2 _ _ (hw _ (Nat.le_refl _)) e, fun b o e => hk2 b o (hw b (Nat.le_of_lt (Nat.lt_of_lt_of_le (Heap.lt_size e) F.above))) (F.keep b o e), F.above⟩ fun p hp => ⟨hk2 _ _ (fun q => by have := hnews p hp; simp at q; rcases q with q | q | q | q <;> (rw [q] at this; exact absurd this (by simp))) (N p (.tail _ hp)).1, (N p (.tail _ hp)).2⟩
end

theorem fillWl2 : (fun (_ : OpenLaw) (_ : Params → Frag) => True) PySem.Challenge.rw_ny0158_01 hd.heap_39 := by w_top off; k_fill; trivial
section
variable {w : World} {A : Around} {E : Value → Shared → Prop} {s : Shared} {mean : ExcName → Option Value} {mg mb : Str → Option Value} {Q : Value → Shared → Prop}
theorem line_written {h₀ : Heap} {L : Addr} {m : Str → Option Value} {news : List (Addr × Obj)} {k : Int} {t : Tok} {x : Str} (X : (hd.heap_39 w.params).In s.heap) (T : Top hd.view_39 loose mean mg mb s.heap) (h0 : 0 ≤ k) (hk1 : k < 32768) (hx : lawWritten k = x)
    (h1 : A.handled = none) (h2 : A.depth ≤ 600 - 10 * 1) (h3 : A.units ≤ 2000 - 50 * 1) (F : Fr h₀ L s.heap m) (N : News h₀ L s.heap news)
    (h : ∀ t' h' tk, Fr h₀ L h' m → News h₀ L h' news → Q (.str x t') { s with heap := h', toks := tk }) : wpAny (model prog w) A (call (.ref 154) [.int k t]) Q E s :=
  line_s (hx ▸ c_written X T h0 hk1) h1 h2 h3 F N h
theorem line_rights {h₀ : Heap} {L : Addr} {m : Str → Option Value} {news : List (Addr × Obj)} {k r : Int} {t : Tok} (X : (hd.heap_39 w.params).In s.heap) (T : Top hd.view_39 loose mean mg mb s.heap) (h0 : 0 ≤ k) (hk1 : k < 32768) (hx : r = lawRights k)
    (h1 : A.handled = none) (h2 : A.depth ≤ 600) (h3 : A.units ≤ 2000) (F : Fr h₀ L s.heap m) (N : News h₀ L s.heap news)
    (h : ∀ t' h' tk, Fr h₀ L h' m → News h₀ L h' news → Q (.int r t') { s with heap := h', toks := tk }) : wpAny (model prog w) A (call (.ref 168) [.int k t]) Q E s :=
  line_i (hx ▸ c_rights X T h0 hk1) h1 h2 h3 F N h
noncomputable def sortIs (k c : Int) : Value := .bool (k.fdiv 4096 == c)
theorem line_asked {h₀ : Heap} {L : Addr} {m : Str → Option Value} {news : List (Addr × Obj)} {b k : Int} {t : Tok} (X : (hd.heap_39 w.params).In s.heap) (T : Top hd.view_39 loose mean mg mb s.heap)
    (hx : [fmtIs b 32768, fmtIs b 24576, fmtIs b 8192, fmtIs b 16384, fmtIs b 40960, fmtIs b 4096, fmtIs b 49152] = [sortIs k 0, sortIs k 2, sortIs k 3, sortIs k 4, sortIs k 5, sortIs k 6, sortIs k 7])
    (h1 : A.handled = none) (h2 : A.depth ≤ 600 - 10 * 2) (h3 : A.units ≤ 2000 - 50 * 2) (F : Fr h₀ L s.heap m) (N : News h₀ L s.heap news)
    (h : ∀ D n h' tk, Fr h₀ L h' m → News h₀ L h' ((D, listOf (List.toArray [.bool (k.fdiv 4096 == 0), .bool (k.fdiv 4096 == 2), .bool (k.fdiv 4096 == 3), .bool (k.fdiv 4096 == 4), .bool (k.fdiv 4096 == 5), .bool (k.fdiv 4096 == 6), .bool (k.fdiv 4096 == 7)]) n) :: news) → (∀ p ∈ news, p.1 ≠ D) → Q (.ref D) { s with heap := h', toks := tk }) : wpAny (model prog w) A (call (.ref 196) [.int b t]) Q E s := by
  refine line (hx ▸ c_asked X T) h1 h2 h3 F N ?_
  rintro v h' tk ⟨D, n, rfl, ho, hn⟩ kp F' N'
  exact h D n h' tk F' (news_cons F hn ho N') (news_lt N hn)
end
theorem len7 {α : Type} {ys : List α} (h : ys.length = 7) : ∃ a b c d e f g, ys = [a, b, c, d, e, f, g] := by
  match ys, h with
  | [a, b, c, d, e, f, g], _ => exact ⟨a, b, c, d, e, f, g, rfl⟩
section
variable {w : World} {A : Around} {E : Value → Shared → Prop} {s : Shared} {env : Env}
noncomputable def sortsL : List Int := [0, 2, 3, 4, 5, 6, 7]
theorem sorts_iter {h₀ : Heap} {T c : Addr} {m : Str → Option Value} {news : List (Addr × Obj)} {oc : Obj} {kd : Int} {t t0 t1 t2 t3 t4 t5 t6 : Tok} {oT : Obj} {scope : Scope} {cl : List (Str × Addr)} {p1 p2 p3 p4 : Pos} {Q : Value → Shared → Prop} (hh : A.handled = none)
    (F : Fr h₀ env.locals s.heap m) (N : News h₀ env.locals s.heap ((T, oT) :: news)) (hoT : oT = { cls := .type "tuple", data := .seq (List.toArray [.int 0 t0, .int 2 t1, .int 3 t2, .int 4 t3, .int 5 t4, .int 6 t5, .int 7 t6]) }) (hc : (c, oc) ∈ news) (hoc : oc.data = .cell (some (.int kd t)))
    (hkind : scope.kind = .function) (hx : scope.names.lookup (Str.ofString "sort") = some .local) (hkk : ∀ C, (compEnvC scope cl C env).kindOf "kind" = some .cell) (hcl : cl.lookup (Str.ofString "kind") = some c)
    (hQ : ∀ D n h' tk, Fr h₀ env.locals h' m → News h₀ env.locals h' ((D, listOf (List.toArray [.bool (kd == 0), .bool (kd == 2), .bool (kd == 3), .bool (kd == 4), .bool (kd == 5), .bool (kd == 6), .bool (kd == 7)]) n) :: news) → (∀ p ∈ news, p.1 ≠ D) → Q (.ref D) { s with heap := h', toks := tk }) :
    wpAny (model prog w) A (pyIter (.ref T)) (CompGo w A env (.Compare (.Name "kind" p1) [.Eq] [.Name "sort" p2] p3) (.Name "sort" p4) scope cl Q) E s := by
  have hT := N _ (.head _)
  subst hoT
  have hT1 : s.heap.IsTuple T (List.toArray [.int 0 t0, .int 2 t1, .int 3 t2, .int 4 t3, .int 5 t4, .int 6 t5, .int 7 t6]) := ⟨_, hT.1, rfl, _, rfl⟩
  refine wpAny_pyIter_tuple hT1 ?_
  generalize hI : s.heap.objs.size = I
  have hTI : T ≠ I := by rw [← hI]; exact Nat.ne_of_lt (Heap.lt_size hT.1)
  have hpI : ∀ p ∈ news, p.1 ≠ I := fun p hp => by rw [← hI]; exact Nat.ne_of_lt (Heap.lt_size (N p (.tail _ hp)).1)
  have hLI : env.locals ≠ I := by rw [← hI]; exact Nat.ne_of_lt F.ns.lt
  have hI0 : h₀.get? I = none := by rw [← hI]; exact Heap.get?_none_of_le (Nat.le_of_lt (Nat.lt_of_le_of_lt F.above F.ns.lt))
  have up : Keeps s.heap (s.heap.push { cls := .type "tuple_iterator", data := .fields #[.ref T, .int 0 0] }) := fun b o e => Heap.get?_push_of_some _ e
  have hIt : (s.heap.push { cls := .type "tuple_iterator", data := .fields #[.ref T, .int 0 0] }).IsTupleIter I T 0 := ⟨_, by rw [← hI]; exact Heap.get?_push_size _ rfl, rfl, rfl⟩
  have F1 := F.kept up
  have N1 : News h₀ env.locals _ news := fun p hp => ⟨up _ _ (N p (.tail _ hp)).1, (N p (.tail _ hp)).2⟩
  refine ⟨I, _, _, _, _, rfl, CompOK.tup (P := fun i y _ => y = .bool (kd == sortsL.getD i 0)) hh hIt (hT1.at fun o e => up _ _ e) hTI (by simp) hx hkind (fun _ _ _ _ p _ => p) (fun _ _ _ _ _ p _ _ => p) ?_, ?_⟩
  · intro C i s3 m' hC kb hn hS
    obtain ⟨hi, v, hv, hm⟩ := hS
    have hcc : s3.heap.get? c = some oc := kb _ _ (fun q => hpI _ hc (List.mem_singleton.mp q)) (N1 _ hc).1
    refine wpAny_Compare1 (wpAny_Name (wpAny_loadName_cell (by simp [compEnvC, relabel, hkind]) (hkk C) hcl ⟨oc, hcc, hoc⟩ ?_))
    refine ev_local (by simp [compEnvC, relabel, hkind]) (lookup_relabel_local hx) hn hm ?_
    have : ∃ u, v = .int (sortsL.getD i 0) u := by
      match i, hi with
      | 0, _ => cases hv; exact ⟨_, rfl⟩
      | 1, _ => cases hv; exact ⟨_, rfl⟩
      | 2, _ => cases hv; exact ⟨_, rfl⟩
      | 3, _ => cases hv; exact ⟨_, rfl⟩
      | 4, _ => cases hv; exact ⟨_, rfl⟩
      | 5, _ => cases hv; exact ⟨_, rfl⟩
      | 6, _ => cases hv; exact ⟨_, rfl⟩
    obtain ⟨u, rfl⟩ := this
    exact PyProof.Rows.eq_int ⟨_, _, rfl, Keeps.refl _, rfl⟩
  · intro D ys h' tk c' hD hDn hlen hE kb hc'
    obtain ⟨y0, y1, y2, y3, y4, y5, y6, rfl⟩ := len7 hlen
    have e0 : y0 = _ := hE 0 y0 rfl
    have e1 : y1 = _ := hE 1 y1 rfl
    have e2 : y2 = _ := hE 2 y2 rfl
    have e3 : y3 = _ := hE 3 y3 rfl
    have e4 : y4 = _ := hE 4 y4 rfl
    have e5 : y5 = _ := hE 5 y5 rfl
    have e6 : y6 = _ := hE 6 y6 rfl
    subst e0 e1 e2 e3 e4 e5 e6
    have F2 : Fr h₀ env.locals h' m := ⟨ns_keep F1.ns fun o e => kb _ _ (fun q => hLI (List.mem_singleton.mp q)) e, fun b o e => kb _ _ (fun q => by rw [List.mem_singleton.mp q, hI0] at e; cases e) (F1.keep b o e), F1.above⟩
    exact hQ D c' h' tk F2 (news_cons F1 hD hc' fun p hp => ⟨kb _ _ (fun q => hpI p hp (List.mem_singleton.mp q)) (N1 p hp).1, (N1 p hp).2⟩) (news_lt N1 hD)
end
section
variable {w : World} {A : Around} {E : Value → Shared → Prop} {s : Shared} {K : Frag} {Q : Value → Shared → Prop}
/-- a def with cells is entered: its frame stands on the heap at the call -/
theorem enterC {name qual : Str} {params : Arguments} {body : List Stmt} {scope : Scope} {dV kV doc pm cdv ct oc : Value} {an od : Option Addr} {osl : Array (Option Value)} {f : Addr} {args : List Value} {binds : List (Str × Value)}
    (X : K.In s.heap) (lim : s.heap.NoLimit)
    (ho : K.lookup f = some ⟨oc, od, .func (fnOf name qual params body scope dV kV doc pm an cdv ct), osl⟩) (hcd : codeIn K cdv qual = true) (hroom : A.depth < recursionLimit)
    (hbind : BindsTo s (fnOf name qual params body scope dV kV doc pm an cdv ct) ⟨args, []⟩ binds)
    (hkind : ∀ n, ∀ x ∈ binds, scope.names.lookup x.1 = some .local ∨ (scope.names.lookup x.1 = some .cell ∧ ((cellsFrom n scope.names []).lookup x.1).isSome = true))
    (hnd : ((cellsFrom 0 scope.names []).map (·.1)).Nodup)
    (h : ∀ L h₁ tk cells, Fr s.heap L h₁ (bindL (envOfC qual scope L f cdv).kindOf binds fun _ => none) → News s.heap L h₁ cells →
      CellsAre (bindC (envOfC qual scope L f cdv).kindOf binds fun _ => none) (cellsFrom (L + 1) scope.names []) cells →
      wpAny (model prog w) (A.deeper (envOfC qual scope L f cdv)) (execs body (envOfC qual scope L f cdv)) (fun fl s' => Q (match fl with | .ret v => v | _ => .none) s') NoE
        { s with heap := h₁, toks := tk })
    (hco : scope.isCoroutine = false := by rfl) (hgen : scope.isGenerator = false := by rfl) (hk : scope.kind = .function := by rfl) :
    wpAny (model prog w) A (call (.ref f) args) Q E s := by
  refine wpAny_call (codeAny_call_function hroom (X _ _ ho) rfl hco hgen rfl (codeRec_of X hcd) (hbind _ _ _ _ ?_))
  refine wpAny_newFunctionEnv_cells hk (hkind _) fun env' he s' x => ?_
  subst he
  refine ⟨lim.keeps x.toInCall.keep, codeAny_func ?_⟩
  obtain ⟨h₁, tk, rfl, _⟩ := x.done
  obtain ⟨cells, NC, Y⟩ := Cl.news (h₀ := s.heap) (Nat.le_refl _) fun n c hm => ⟨x.cell n c (lookup_of_mem_nodup (cellsFrom_names scope.names 0 (s.heap.objs.size + 1) [] [] rfl ▸ hnd) hm), x.above n c hm⟩
  exact wpAny_mono (h s.heap.objs.size h₁ tk cells ⟨x.toInCall.ns, x.toInCall.keep, Nat.le_refl _⟩ NC Y) (fun fl s' hl => hl) fun _ _ y => y.elim
end
section
variable {w : World} {s : Shared} {mean : ExcName → Option Value} {mg mb : Str → Option Value}
theorem c_wellread (X : (hd.heap_39 w.params).In s.heap) (T : Top hd.view_39 loose mean mg mb s.heap) {m k : Int} {x : Str} {t1 t2 t3 : Tok} (h0 : 0 ≤ k) (h1 : k < 32768) (hw : lawWritten k = x) (hx : x.cps.size = 10) (hb : ∀ i, i < 10 → 0 ≤ toldTo x i ∧ toldTo x i < 32768) (hk : toldTo x 10 = k)
    (ha : [fmtIs m 32768, fmtIs m 24576, fmtIs m 8192, fmtIs m 16384, fmtIs m 40960, fmtIs m 4096, fmtIs m 49152] = [sortIs k 0, sortIs k 2, sortIs k 3, sortIs k 4, sortIs k 5, sortIs k 6, sortIs k 7])
    (hr : Builtin.bitAnd m 4095 = lawRights k) (hf : k.fdiv 4096 = 1 ∨ Builtin.bitAnd m 61440 = [8, 0, 6, 2, 4, 10, 1, 12].getD (k.fdiv 4096).toNat 0 * 4096) :
    wpAny (model prog w) (AL 3) (call (.ref 201) [.int m t1, .int k t2, .str x t3]) (Back s (isB true)) NoE s := by
  have G := Gw.of X T
  refine enterC X T.nolimit (by k_is) (by k_is) (by decide) (BindsTo.of_eq rfl) (fun n y hy => Or.inl (locs rfl y hy)) (by decide) ?_
  intro L' h' tk' cells F' N' Y
  obtain ⟨o', hE', d1'⟩ := CellsAre.one Y
  subst hE'
  clear Y
  k_with_none
  k_with "call ref" => (((show wpAny _ _ (call (Value.ref 140) []) _ _ _); refine' l_signs ?k1 ?k2 rfl (Nat.le_of_ble_eq_true rfl) (Nat.le_of_ble_eq_true rfl) ?k3 ?k4 ?_; (case k1 => exact Frag.In.keeps (by assumption) (Fr.keep (by assumption))); (case k2 => exact Top.keeps (by assumption) (Fr.keep (by assumption))); (case k3 => assumption); (case k4 => assumption); intro D' t0' t1' t2' t3' t4' t5' t6' t7' t8' t9' n' h' tk' F' N' l1'))
  k_with "call type:zip" => (((show wpAny _ _ (call (Value.type "zip") [Value.ref _, Value.str _ _]) _ _ _); refine line_zipL (by assumption) (by assumption) ?_; intro n' h' hLn' hDn' hnw' Z' F' N'))
  k_with "call ref" => (((show wpAny _ _ (call (Value.ref 133) [Value.ref 161, Value.ref _, Value.int _ _]) _ _ _); refine line_fig (by assumption) (by assumption) (by assumption) (by assumption) (by assumption) (by assumption) (by assumption) (by assumption) (by assumption) (by assumption) rfl (Nat.le_of_ble_eq_true rfl) (Nat.le_of_ble_eq_true rfl) ?_; intro t' h' tk' F' N'))
  k_with "call ref" => (((show wpAny _ _ (call (Value.ref 154) [Value.int _ _]) _ _ _); refine' line_written ?k1 ?k2 (by assumption) (by assumption) (by assumption) rfl (Nat.le_of_ble_eq_true rfl) (Nat.le_of_ble_eq_true rfl) ?k3 ?k4 ?_; (case k1 => exact Frag.In.keeps (by assumption) (Fr.keep (by assumption))); (case k2 => exact Top.keeps (by assumption) (Fr.keep (by assumption))); (case k3 => assumption); (case k4 => assumption); intro t' h' tk' F' N'))
  k_with "call ref" => (((show wpAny _ _ (call (Value.ref 168) [Value.int _ _]) _ _ _); refine' line_rights ?k1 ?k2 (by assumption) (by assumption) (by assumption) rfl (Nat.le_of_ble_eq_true rfl) (Nat.le_of_ble_eq_true rfl) ?k3 ?k4 ?_; (case k1 => exact Frag.In.keeps (by assumption) (Fr.keep (by assumption))); (case k2 => exact Top.keeps (by assumption) (Fr.keep (by assumption))); (case k3 => assumption); (case k4 => assumption); intro t' h' tk' F' N'))
  k_with "call ref" => (((show wpAny _ _ (call (Value.ref 196) [Value.int _ _]) _ _ _); refine' line_asked ?k1 ?k2 (by assumption) rfl (Nat.le_of_ble_eq_true rfl) (Nat.le_of_ble_eq_true rfl) ?k3 ?k4 ?_; (case k1 => exact Frag.In.keeps (by assumption) (Fr.keep (by assumption))); (case k2 => exact Top.keeps (by assumption) (Fr.keep (by assumption))); (case k3 => assumption); (case k4 => assumption); intro D' n' h' tk' F' N' l1'))
  k_with "call ref" => (((show wpAny _ _ (call (Value.ref 21) [Value.int _ _]) _ _ _); refine' line_i (c_imode ?k1 ?k2) rfl (Nat.le_of_ble_eq_true rfl) (Nat.le_of_ble_eq_true rfl) ?k3 ?k4 ?_; (case k1 => exact Frag.In.keeps (by assumption) (Fr.keep (by assumption))); (case k2 => exact Top.keeps (by assumption) (Fr.keep (by assumption))); (case k3 => assumption); (case k4 => assumption); intro t' h' tk' F' N'))
  k_with "call ref" => (((show wpAny _ _ (call (Value.ref 28) [Value.int _ _]) _ _ _); refine' line_i (c_ifmt ?k1 ?k2) rfl (Nat.le_of_ble_eq_true rfl) (Nat.le_of_ble_eq_true rfl) ?k3 ?k4 ?_; (case k1 => exact Frag.In.keeps (by assumption) (Fr.keep (by assumption))); (case k2 => exact Top.keeps (by assumption) (Fr.keep (by assumption))); (case k3 => assumption); (case k4 => assumption); intro t' h' tk' F' N'))
  k_with "eval ListComp" => ((refine' comp_eval (cl := _) ?a ?b ?c ?d ?_ ?e; (case a => with_unfolding_all rfl); (case b => decide); (case c => rfl); (case d => decide); (case e => (intro _; with_unfolding_all rfl))))
  k_with "pyIter ref" => ((refine' sorts_iter rfl (by assumption) (by assumption) rfl ?c (by assumption) rfl rfl (fun _ => rfl) rfl ?_; (case c => simp); (intro D' n' h' tk' F' N' l1')))
  k_steps
  · exact absurd (‹(x != x) = true› : _) (by simp)
  · exact absurd rfl (‹k ≠ k› : _)
  · exact absurd rfl (‹Builtin.bitAnd m 4095 ≠ Builtin.bitAnd m 4095› : _)
  · exact back_b (by rw [(‹k.fdiv 4096 = 1› : _)]; rfl) (Fr.keep (by assumption))
  · refine back_b ?_ (Fr.keep (by assumption))
    rw [hf.resolve_left (by assumption)]
    simp
end
end Mine
end

section
open PySem PySem.W PyProof.Rows PySem.Calls
set_option Elab.async false
set_option maxRecDepth 100000
set_option maxHeartbeats 1000000
namespace Mine
noncomputable abbrev ent (h : Int) (k : Str) (t : Tok) (v : Value) : DictEntry := ⟨h, .str k t, v⟩
structure Bod where
  hs : Nat → Int
  ts : Nat → Tok
  v1 : Tok
  tq : Tok
  tf : Tok
  sl : Addr
  f : Nat → Addr
  st : Addr
noncomputable def Bod.es (b : Bod) : Array DictEntry := #[ent (b.hs 0) "__module__" (b.ts 0) (.str "cpy313.functools" b.v1), ent (b.hs 1) "__qualname__" (b.ts 1) (.str "cmp_to_key.<locals>.K" b.tq), ent (b.hs 2) "__firstlineno__" (b.ts 2) (.int 60 b.tf), ent (b.hs 3) "__slots__" (b.ts 3) (.ref b.sl),
  ent (b.hs 4) "__init__" (b.ts 4) (.ref (b.f 0)), ent (b.hs 5) "__lt__" (b.ts 5) (.ref (b.f 1)), ent (b.hs 6) "__gt__" (b.ts 6) (.ref (b.f 2)), ent (b.hs 7) "__eq__" (b.ts 7) (.ref (b.f 3)), ent (b.hs 8) "__le__" (b.ts 8) (.ref (b.f 4)), ent (b.hs 9) "__ge__" (b.ts 9) (.ref (b.f 5)),
  ent (b.hs 10) "__hash__" (b.ts 10) .none, ent (b.hs 11) "__static_attributes__" (b.ts 11) (.ref b.st)]
theorem wp_for1 {α σ : Type} {M : Model} {A : Around} {Q : σ → Shared → Prop} {E : Value → Shared → Prop} {s : Shared} {x : α} {xs : List α} {b : σ} {f : α → σ → Sem (ForInStep σ)}
    (h : wpAny M A (f x b) (fun r s' => match r with | .done b' => Q b' s' | .yield b' => wpAny M A (forIn xs b' f) Q E s') E s) : wpAny M A (forIn (x :: xs) b f) Q E s := by
  rw [List.forIn_cons]
  refine wpAny_bind (wpAny_mono h (fun r s' hr => ?_) fun _ _ e => e)
  cases r with
  | done b' => exact wpAny_pure hr
  | yield b' => exact hr
theorem wp_for0 {α σ : Type} {M : Model} {A : Around} {Q : σ → Shared → Prop} {E : Value → Shared → Prop} {s : Shared} {b : σ} {f : α → σ → Sem (ForInStep σ)}
    (h : Q b s) : wpAny M A (forIn ([] : List α) b f) Q E s := by
  rw [List.forIn_nil]; exact wpAny_pure h
theorem sub_tt : isSubtype (.type "tuple") (.type "tuple") = pure true := by kernel_rfl
theorem sub_dd : isSubtype (.type "dict") (.type "dict") = pure true := by kernel_rfl
theorem sub_ty : isSubtype (.type "type") (.type "type") = pure true := by kernel_rfl
theorem sub_oo : isSubtype (.type "object") (.type "object") = pure true := by kernel_rfl
theorem ty_obj : typeOf (.type "object") = pure (.type "type") := by kernel_rfl
theorem not_turned : Builtin.notOverATurnedClass [.type "object"] = pure () := by kernel_rfl
theorem ext_base : Builtin.extendedBase [.type "object"] = pure (.type "object") := by kernel_rfl
theorem best_obj : Builtin.Slots.bestBase [.type "object"] = pure (.type "object") := by kernel_rfl
theorem iter_dict : typeLookup (.type "dict") "__iter__" = pure (some (.builtin "dict.__iter__")) := by kernel_rfl
end Mine
end

section
open PySem PySem.W PyProof.Rows PySem.Calls
set_option Elab.async false
set_option maxRecDepth 100000
set_option maxHeartbeats 1000000
namespace Mine
theorem slotNames_obj : Builtin.Slots.slotNamesOf (.type "object") = pure [] := by kernel_rfl
theorem givesDict_obj : Builtin.Slots.givesDict (.type "object") = pure false := by kernel_rfl
theorem givesWeak_obj : Builtin.Slots.givesWeak (.type "object") = pure false := by kernel_rfl
theorem varSize_obj : Builtin.Slots.varSize (.type "object") = pure false := by kernel_rfl
theorem find_slots (b : Bod) : b.es.find? (·.key.isStr "__slots__") = some (ent (b.hs 3) "__slots__" (b.ts 3) (.ref b.sl)) := by kernel_rfl
theorem id_obj : Builtin.Slots.isIdentifier "obj" = some true := by kernel_rfl
theorem any_obj (b : Bod) : b.es.any (·.key.isStr "obj") = false := by kernel_rfl
noncomputable abbrev planK : Builtin.Slots.Plan := { names := ["obj"], dict := false, weak := false, inherited := [] }
theorem slots_read {prog : Program} {w : World} {A : Around} {Q : Builtin.Slots.Plan → Shared → Prop} {E : Value → Shared → Prop} {s : Shared} {b : Bod} {t : Tok} (hl : s.heap.get? b.sl = some { cls := .type "list", data := .seq #[.str "obj" t] })
    (h : Q planK { s with heap := (s.heap.push (seqObj "list" #[] 0)).update s.heap.objs.size (Obj.mapSeq (· ++ #[.str "obj" t])) }) :
    wpAny (model prog w) A (Builtin.Slots.read "K" [.type "object"] b.es) Q E s := by
  have hl' : s.heap.IsList b.sl [Value.str (Str.ofString "obj") t].toArray := ⟨_, hl, rfl, _, rfl⟩
  unfold Builtin.Slots.read
  refine wpAny_bind (wpAny_of_eq best_obj (wpAny_bind (wpAny_of_eq slotNames_obj (wpAny_bind (wpAny_of_eq givesDict_obj (wpAny_bind (wpAny_of_eq givesWeak_obj (wpAny_bind (wpAny_of_eq varSize_obj ?_)))))))))
  simp only [find_slots]
  refine wpAny_bind (wpAny_rule ?_)
  have ea : wpAny (model prog w) A (asStr? (.ref b.sl)) (fun r s' => r = none ∧ s' = s) E s := by
    unfold asStr?
    refine wpAny_bind (wpAny_load hl (wpAny_pure ⟨rfl, rfl⟩))
  refine wpAny_bind (wpAny_mono ea (fun r s' hr => ?_) fun _ _ e => e)
  obtain ⟨rfl, rfl⟩ := hr
  refine wpAny_ite_false rfl ?_
  refine wpAny_bind (collect_list hl' ?_ (by rw [sizeLine_eq]; exact Nat.le_of_ble_eq_true rfl))
  refine Looks.here (r := planK) ?_ ?_
  · refine Looks.of_peek (K := []) (fun _ _ e => nomatch e) ?_
    kernel_rfl
  · exact h
end Mine
end

section
open PySem PySem.W PySem.W.X PyProof.Rows PySem.Calls
set_option Elab.async false
set_option maxRecDepth 100000
set_option maxHeartbeats 1000000
namespace Mine
section
variable {prog : Program} {w : World} {A : Around} {E : Value → Shared → Prop} {h₀ h : Heap} {g : Array GenState} {d : Drawn} {t : Nat} {os : OsState} {chg news news' : List (Addr × Obj)} {a : Addr} {o o' : Obj}
theorem mLoad {Q : Obj → Shared → Prop} (D : Mem h₀ h chg news) (i : Nat) (hi : news[i]? = some (a, o)) (hq : Q o ⟨h, g, d, t, os⟩) : wpAny (model prog w) A (load a) Q E ⟨h, g, d, t, os⟩ := wpAny_load (D.at i a o hi) hq
theorem mLoadP {Q : Obj → Shared → Prop} {part : Option Value} (D : Mem h₀ h chg news) (i : Nat) (hi : news[i]? = some (a, o)) (hq : Q o ⟨h, g, d, t, os⟩) : wpAny (model prog w) A (loadPart a part) Q E ⟨h, g, d, t, os⟩ := wpAny_loadPart (D.at i a o hi) hq
theorem mAlloc {Q : Addr → Shared → Prop} (D : Mem h₀ h chg news) (hq : ∀ a h', Mem h₀ h' chg ((a, o) :: news) → Q a ⟨h', g, d, t, os⟩) (hf : o.isFreed = false := by rfl) : wpAny (model prog w) A (alloc o) Q E ⟨h, g, d, t, os⟩ := wpAny_alloc (hq _ _ (D.alloc hf))
theorem mUpd {Q : Unit → Shared → Prop} {part : Option Value} {f : Obj → Obj} (D : Mem h₀ h chg news) (i : Nat) (hi : news[i]? = some (a, o)) (ho : f o = o') (hn : news.set i (a, o') = news') (hq : ∀ h', Mem h₀ h' chg news' → Q () ⟨h', g, d, t, os⟩)
    (hf : o'.isFreed = false := by rfl) : wpAny (model prog w) A (updatePart a part f) Q E ⟨h, g, d, t, os⟩ := by
  subst ho hn
  exact wpAny_updatePart (D.at i a o hi) (hq _ (D.update hi hf))
theorem mUpd0 {Q : Unit → Shared → Prop} {f : Obj → Obj} (D : Mem h₀ h chg news) (i : Nat) (hi : news[i]? = some (a, o)) (ho : f o = o') (hn : news.set i (a, o') = news') (hq : ∀ h', Mem h₀ h' chg news' → Q () ⟨h', g, d, t, os⟩)
    (hf : o'.isFreed = false := by rfl) : wpAny (model prog w) A (update a f) Q E ⟨h, g, d, t, os⟩ := by
  subst ho hn
  exact wpAny_update (D.at i a o hi) (hq _ (D.update hi hf))
theorem mGet {Q : Option Value → Shared → Prop} {name : Str} {r : Option Value} (D : Mem h₀ h chg news) (i : Nat) (hi : news[i]? = some (a, o)) (hr : nsLook name o = pure r) (hq : Q r ⟨h, g, d, t, os⟩) : wpAny (model prog w) A (nsGet a name) Q E ⟨h, g, d, t, os⟩ := by
  unfold nsGet
  refine wpAny_bind (mLoadP D i hi ?_)
  rw [hr]; exact wpAny_pure hq
theorem wp_strHash {name : Str} {s : Shared} {Q : Int → Shared → Prop} (q : ∀ hh, Q hh s) : wpAny (model prog w) A (strHash name) Q E s := by
  unfold strHash
  exact x_ask (wpAny_pure (q _))
theorem mSet {Q : Unit → Shared → Prop} {name : Str} {v : Value} {c : Value} {dd : Option Addr} {es : Array DictEntry} {n : Nat} {sl : Array (Option Value)} {o' : Int → Obj} {news' : Int → List (Addr × Obj)} (D : Mem h₀ h chg news) (i : Nat) (hi : news[i]? = some (a, ⟨c, dd, .dict es n, sl⟩))
    (hr : aRefKeyMayBeTheName name es = false) (ho : ∀ hh, Obj.putName name hh (.str name t) v ⟨c, dd, .dict es n, sl⟩ = o' hh) (hn : ∀ hh, news.set i (a, o' hh) = news' hh) (hq : ∀ hh h', Mem h₀ h' chg (news' hh) → Q () ⟨h', g, d, t + 1, os⟩) (hf : ∀ hh, (o' hh).isFreed = false := by intro _; rfl) :
    wpAny (model prog w) A (nsSet a name v) Q E ⟨h, g, d, t, os⟩ := by
  unfold nsSet
  refine wpAny_bind (wp_strHash fun hh => ?_)
  refine wpAny_bind (wpAny_mkText ?_)
  refine wpAny_bind (mLoadP D i hi ?_)
  dsimp only
  rw [hr]
  exact wpAny_ite_false rfl (mUpd D i hi (ho _) (hn _) (hq _) (hf _))
theorem mSetV {Q : Unit → Shared → Prop} {name : Str} {v : Value} {c : Value} {dd : Option Addr} {es : Array DictEntry} {n : Nat} {sl : Array (Option Value)} {o' : Int → Obj} {news' : Int → List (Addr × Obj)} (D : Mem h₀ h chg news) (i : Nat) (hi : news[i]? = some (a, ⟨c, dd, .dict es n, sl⟩))
    (hz : decide (es.size > sizeLine) = false) (hr : aRefKeyMayBeTheName name es = false) (ho : ∀ hh, Obj.putName name hh (.str name t) v ⟨c, dd, .dict es n, sl⟩ = o' hh) (hn : ∀ hh, news.set i (a, o' hh) = news' hh) (hq : ∀ hh h', Mem h₀ h' chg (news' hh) → Q () ⟨h', g, d, t + 1, os⟩) (hf : ∀ hh, (o' hh).isFreed = false := by intro _; rfl) :
    wpAny (model prog w) A (nsSetByValue a name v) Q E ⟨h, g, d, t, os⟩ := by
  unfold nsSetByValue
  refine wpAny_bind (mLoadP D i hi ?_)
  refine wpAny_ite_false ?_ (mSet D i hi hr ho hn hq hf)
  rw [hz]; rfl
theorem mDel {Q : Bool → Shared → Prop} {name : Str} (D : Mem h₀ h chg news) (i : Nat) (hi : news[i]? = some (a, o)) (hr : nsHas name o = pure true) (ho : Obj.dropName name o = o') (hn : news.set i (a, o') = news') (hq : ∀ h', Mem h₀ h' chg news' → Q true ⟨h', g, d, t, os⟩) (hf : o'.isFreed = false := by rfl) :
    wpAny (model prog w) A (nsDel a name) Q E ⟨h, g, d, t, os⟩ := by
  unfold nsDel
  refine wpAny_bind (mLoadP D i hi ?_)
  rw [hr]
  exact wpAny_bind (wpAny_pure (wpAny_ite_true rfl (wpAny_bind (mUpd D i hi ho hn (fun h' D' => wpAny_pure (hq h' D')) hf))))
theorem mSlot {Q : Unit → Shared → Prop} {k : Nat} {v : Option Value} (hk : decide (k ≥ sizeLine) = false) (D : Mem h₀ h chg news) (i : Nat) (hi : news[i]? = some (a, o)) (ho : { o with slots := (o.slots ++ Array.replicate (k + 1 - o.slots.size) none).setIfInBounds k v } = o') (hn : news.set i (a, o') = news') (hq : ∀ h', Mem h₀ h' chg news' → Q () ⟨h', g, d, t, os⟩)
    (hf : o'.isFreed = false := by rfl) : wpAny (model prog w) A (setSlotAt a k v) Q E ⟨h, g, d, t, os⟩ := by
  unfold setSlotAt
  exact wpAny_ite_false hk (mUpd D i hi ho hn hq hf)
theorem mSlotAt {Q : Option Value → Shared → Prop} {k : Nat} {r : Option Value} (D : Mem h₀ h chg news) (i : Nat) (hi : news[i]? = some (a, o)) (hr : (o.slots[k]?).join = r) (hq : Q r ⟨h, g, d, t, os⟩) : wpAny (model prog w) A (slotAt a k) Q E ⟨h, g, d, t, os⟩ := by
  unfold slotAt
  refine wpAny_bind (mLoadP D i hi ?_)
  rw [hr]; exact wpAny_pure hq
theorem mCls {Q : Unit → Shared → Prop} {f : ClassData → ClassData} {c : Value} {dd : Option Addr} {cd cd' : ClassData} {sl : Array (Option Value)} (D : Mem h₀ h chg news) (i : Nat) (hi : news[i]? = some (a, ⟨c, dd, .cls cd, sl⟩)) (hc : f cd = cd') (hn : news.set i (a, ⟨c, dd, .cls cd', sl⟩) = news') (hi' : news'[i]? = some (a, ⟨c, dd, .cls cd', sl⟩))
    (hp : (Data.cls cd').pastItsLine = none) (hq : ∀ h', Mem h₀ h' chg news' → Q () ⟨h', g, d, t, os⟩) : wpAny (model prog w) A (updateCls a f) Q E ⟨h, g, d, t, os⟩ := by
  subst hc
  unfold updateCls
  refine wpAny_bind (mLoad D i hi ?_)
  refine wpAny_bind (mUpd0 D i hi rfl hn fun h' D' => ?_)
  unfold lookBehind
  refine wpAny_bind (mLoadP D' i hi' ?_)
  dsimp only
  rw [hp]
  exact wpAny_pure (hq h' D')
end
end Mine
end

section
open PySem PySem.W PySem.W.X PyProof.Rows PySem.Calls
set_option Elab.async false
set_option maxRecDepth 100000
set_option maxHeartbeats 1000000
namespace Mine
/-- what a run leaves behind -/
noncomputable def Left1 (s : Shared) (P : Value → Obj → Prop) (v : Value) (s' : Shared) : Prop := ∃ q h' tk o, v = .ref q ∧ s' = { s with heap := h', toks := tk } ∧ Mem s.heap h' [] [(q, o)] ∧ P v o
theorem left1 {s : Shared} {P : Value → Obj → Prop} {q : Addr} {h : Heap} {o : Obj} {tk : Nat} (D : Mem s.heap h [] [(q, o)]) (p : P (.ref q) o) : Left1 s P (.ref q) ⟨h, s.gens, s.drawn, tk, s.os⟩ := ⟨q, h, tk, o, rfl, rfl, D, p⟩
noncomputable abbrev supObj (a : Addr) : Obj := { cls := .type "super", data := .fields #[.ref a, .ref a, .ref a] }
noncomputable def Left0 (s : Shared) (v : Value) (s' : Shared) : Prop := ∃ h' tk, v = .none ∧ s' = { s with heap := h', toks := tk } ∧ Mem s.heap h' [] []
theorem left0 {s : Shared} {h : Heap} {tk : Nat} (D : Mem s.heap h [] []) : Left0 s .none ⟨h, s.gens, s.drawn, tk, s.os⟩ := ⟨h, tk, rfl, rfl, D⟩
local macro_rules | `(tactic| x_close) => `(tactic| k_extra "cl")
section
variable {w : World} {s : Shared} {a ns : Addr} {sl : Array (Option Value)}
theorem c_super
    (hc : s.heap.get? a = some { cls := .type "type", data := .cls { name := Str.ofString "K", bases := [.type "object"], mro := [.ref a, .type "object"], ns := ns, qualname := Str.ofString "cmp_to_key.<locals>.K", hasDict := false, slotNames := [Str.ofString "obj"] }, slots := sl }) :
    wpAny (model prog w) (AL 0) (call (.type "super") [.ref a, .ref a]) (Left1 s fun _ o => o = supObj a) NoE s := by
  k_with_none
  k_with "cl" => (first | exact left1 (by assumption) rfl | exact left0 (by assumption) | exact left0 (Mem.start _))
  x_run
noncomputable abbrev isMeth (a : Addr) : Obj := { cls := .type "builtin_function_or_method", data := .fields #[.builtin "object.__init_subclass__", .ref a] }
theorem c_get
    (hc : s.heap.get? a = some { cls := .type "type", data := .cls { name := Str.ofString "K", bases := [.type "object"], mro := [.ref a, .type "object"], ns := ns, qualname := Str.ofString "cmp_to_key.<locals>.K", hasDict := false, slotNames := [Str.ofString "obj"] }, slots := sl }) :
    wpAny (model prog w) (AL 0) (call (.builtin "classmethod_descriptor.__get__") [.builtin "object.__init_subclass__", .none, .ref a]) (Left1 s fun _ o => o = isMeth a) NoE s := by
  k_with_none
  k_with "cl" => (first | exact left1 (by assumption) rfl | exact left0 (by assumption) | exact left0 (Mem.start _))
  x_run
theorem c_isub {q : Addr}
    (hc : s.heap.get? a = some { cls := .type "type", data := .cls { name := Str.ofString "K", bases := [.type "object"], mro := [.ref a, .type "object"], ns := ns, qualname := Str.ofString "cmp_to_key.<locals>.K", hasDict := false, slotNames := [Str.ofString "obj"] }, slots := sl })
    (hq : s.heap.get? q = some { cls := .type "builtin_function_or_method", data := .fields #[.builtin "object.__init_subclass__", .ref a] }) :
    wpAny (model prog w) (AL 0) (call (.ref q) []) (Left0 s) NoE s := by
  k_with_none
  k_with "cl" => (first | exact left1 (by assumption) rfl | exact left0 (by assumption) | exact left0 (Mem.start _))
  x_run
end
theorem ty_is : typeOf (.builtin "object.__init_subclass__") = pure (.type "classmethod_descriptor") := by kernel_rfl
theorem look_get : typeLookup (.type "classmethod_descriptor") (Str.ofString "__get__") = pure (some (.builtin "classmethod_descriptor.__get__")) := by kernel_rfl
theorem own_is : builtinOwn "object" (Str.ofString "__init_subclass__") = some (.builtin "object.__init_subclass__") := by kernel_rfl
theorem drop1 (a : Addr) : (List.dropWhile (fun x => x != Value.ref a) [Value.ref a, Value.type "object"]).drop 1 = [.type "object"] := by simp
section
variable {w : World} {A : Around} {E : Value → Shared → Prop} {h : Heap} {g : Array GenState} {d : Drawn} {t : Nat} {os : OsState} {a ns so : Addr} {sl : Array (Option Value)}
theorem ga_super {Q : Fin → Shared → Prop} {tk : Tok} (a1 : A.handled = none) (a2 : A.depth ≤ 600) (a3 : A.units ≤ 2000)
    (hc : h.get? a = some { cls := .type "type", data := .cls { name := Str.ofString "K", bases := [.type "object"], mro := [.ref a, .type "object"], ns := ns, qualname := Str.ofString "cmp_to_key.<locals>.K", hasDict := false, slotNames := [Str.ofString "obj"] }, slots := sl })
    (hso : h.get? so = some (supObj a)) (hno : Looks (model prog w) h anyOpaqueLoaded false)
    (hq : ∀ q h' tk', Mem h h' [] [(q, isMeth a)] → Q (.done (.ret (.ref q))) ⟨h', g, d, tk', os⟩) :
    wpAny (model prog w) A (Builtin.«super.__getattribute__» ⟨[.ref so, .str (Str.ofString "__init_subclass__") tk], []⟩) Q E ⟨h, g, d, t, os⟩ := by
  have hdt : (supObj a).data = .fields #[.ref a, .ref a, .ref a] := rfl
  have f0 : (#[.ref a, .ref a, .ref a] : Array Value)[0]? = some (.ref a) := rfl
  have f1 : (#[.ref a, .ref a, .ref a] : Array Value)[1]? = some (.ref a) := rfl
  have f2 : (#[.ref a, .ref a, .ref a] : Array Value)[2]? = some (.ref a) := rfl
  unfold Builtin.«super.__getattribute__»
  refine wpAny_bind (wpAny_pure ?_)
  refine wpAny_ite_false rfl ?_
  refine wpAny_bind (wpAny_pure ?_)
  refine wpAny_bind (wpAny_field hso hdt f0 ?_)
  refine wpAny_bind (wpAny_field hso hdt f1 ?_)
  refine wpAny_bind (wpAny_field hso hdt f2 ?_)
  refine wpAny_ite_false (by kernel_rfl) ?_
  refine wpAny_bind ?_
  unfold notOfAnOpaqueClass opaqueClassAbove
  refine wpAny_bind (wpAny_bind (Looks.at hno (wpAny_ite_true rfl (wpAny_pure (wpAny_pure ?_)))))
  refine wpAny_ite_false rfl ?_
  unfold mroOf classData
  refine wpAny_bind (wpAny_bind (wpAny_bind (wpAny_load hc (wpAny_pure (wpAny_pure ?_)))))
  wp_delta
  rw [drop1]
  refine wpAny_bind (wp_for1 (wpAny_bind (wpAny_pure ?_)))
  rw [own_is]
  refine wpAny_bind (wpAny_of_eq ty_is (wpAny_bind (wpAny_of_eq look_get ?_)))
  refine wpAny_bind (wpAny_holding ?_)
  rw [if_pos (by simp)]
  refine wpAny_mono (fit (k := 0) (c_get hc) a1 a2 a3) (fun v s' hv => ?_) fun _ _ e => e.elim
  obtain ⟨q, h', tk', o, rfl, rfl, D, rfl⟩ := hv
  refine wpAny_bind (wpAny_pure (wpAny_pure ?_))
  exact wpAny_pure (hq q h' tk' D)
theorem getAttr_super {Q : Value → Shared → Prop} (a1 : A.handled = none) (a2 : A.depth ≤ 590) (a3 : A.units ≤ 1950)
    (hc : h.get? a = some { cls := .type "type", data := .cls { name := Str.ofString "K", bases := [.type "object"], mro := [.ref a, .type "object"], ns := ns, qualname := Str.ofString "cmp_to_key.<locals>.K", hasDict := false, slotNames := [Str.ofString "obj"] }, slots := sl })
    (hso : h.get? so = some (supObj a)) (hno : Looks (model prog w) h anyOpaqueLoaded false)
    (hq : ∀ q h' tk', Mem h h' [] [(q, isMeth a)] → Q (.ref q) ⟨h', g, d, tk', os⟩) :
    wpAny (model prog w) A (getAttr (.ref so) (Str.ofString "__init_subclass__")) Q E ⟨h, g, d, t, os⟩ := by
  have hlk := F.ks_slot_super_ga.lookup
  have hT : ∀ t', (⟨h, g, d, t', os⟩ : Shared).TypeIs (.ref so) "super" := fun _ => ⟨_, hso, rfl⟩
  unfold getAttr getAttrBy
  refine wpAny_bind (wpAny_mkText (wpAny_holding (wpAny_bind (wpAny_typeOf (hT _) (wpAny_bind (wpAny_of_eq hlk ?_))))))
  show wpAny _ _ (getAttrByItsOwn (.ref so) (.str (Str.ofString "__init_subclass__") t) (.type "super") (.builtin "super.__getattribute__") true false) _ _ _
  unfold getAttrByItsOwn hookBefore callGetattribute boundAndCalled
  refine wpAny_bind (wpAny_of_eq (show (if onTheHeap (.type "super") then typeLookup (.type "super") "__getattr__" else pure none) = pure none from rfl) ?_)
  refine wpAny_bind (wpAny_attempt (wpAny_holding ?_))
  show wpAny _ _ (bindSpecial (.builtin "super.__getattribute__") (.ref so) >>= _) _ _ _
  refine wpAny_bind (wpAny_of_eq (F.ks_slot_super_ga.bind _) ?_)
  refine wpAny_mono (Q := fun v s' => ∃ q h' tk', v = .ref q ∧ s' = ⟨h', g, d, tk', os⟩ ∧ Mem h h' [] [(q, isMeth a)]) (E := fun _ _ => False)
    (wpAny_call_entry F.ks_slot_super_ga (hT _) F.ks_entry_super_ga (ga_super a1 ?_ ?_ hc hso hno fun q h' tk' D => ⟨_, rfl, q, h', tk', rfl, rfl, D⟩) (F.ks_gaArgs_super _ _)) (fun v s' hv => ?_) fun _ _ z => z.elim
  · exact Nat.le_trans a2 (by decide)
  · show A.units + 1 ≤ 2000
    lia
  · obtain ⟨q, h', tk', rfl, rfl, D⟩ := hv
    exact wpAny_pure (hq q h' tk' D)
end
end Mine
end

section
open PySem PySem.W PySem.W.X PyProof.Rows PySem.Calls
set_option Elab.async false
set_option maxRecDepth 100000
set_option maxHeartbeats 1000000
namespace Mine
noncomputable abbrev dObj (es : Array DictEntry) (n : Nat) : Obj := { cls := .type "dict", data := .dict es n }
theorem wp_pk {α : Type} {prog : Program} {w : World} {A : Around} {E : Value → Shared → Prop} {s : Shared} {m : Sem α} {Q : α → Shared → Prop} (r : α) (h : peek [] ⟨prog, w.params⟩ m = some r) (q : Q r s) : wpAny (model prog w) A m Q E s :=
  Looks.here (Looks.of_peek (K := []) (fun _ _ e => nomatch e) h) q
theorem mNew {prog : Program} {w : World} {A : Around} {E : Value → Shared → Prop} {h₀ h : Heap} {g : Array GenState} {d : Drawn} {t : Nat} {os : OsState} {chg news : List (Addr × Obj)} {T : String} {data : Data} {dict : Option Addr} {Q : Value → Shared → Prop} (D : Mem h₀ h chg news)
    (hq : ∀ a h', Mem h₀ h' chg ((a, { cls := .type T, dict, data }) :: news) → Q (.ref a) ⟨h', g, d, t, os⟩) (hd : sizeOk data) (hf : ({ cls := .type T, dict, data } : Obj).isFreed = false := by rfl) : wpAny (model prog w) A (newObj (.type T) data dict) Q E ⟨h, g, d, t, os⟩ :=
  wpAny_newObj_type (hq _ _ (D.alloc hf)) hd
theorem any_module (b : Bod) : decide ((!b.es.any (·.key.isStr (Str.ofString "__module__"))) = true) = false := by kernel_rfl
theorem look_qual (b : Bod) (n : Nat) : nsLook (Str.ofString "__qualname__") (dObj b.es n) = pure (some (.str (Str.ofString "cmp_to_key.<locals>.K") b.tq)) := by kernel_rfl
theorem look_doc (b : Bod) (n : Nat) : nsLook (Str.ofString "__doc__") (dObj b.es n) = pure none := by kernel_rfl
noncomputable abbrev cdK (ns : Addr) (mro : List Value) (hd : Bool) (sn : List Str) : ClassData := { name := Str.ofString "K", bases := [.type "object"], mro := mro, ns := ns, qualname := Str.ofString "cmp_to_key.<locals>.K", hasDict := hd, slotNames := sn }
noncomputable abbrev clK (cd : ClassData) (sl : Array (Option Value)) : Obj := { cls := .type "type", data := .cls cd, slots := sl }
noncomputable def Bod.es1 (b : Bod) : Array DictEntry := #[ent (b.hs 0) "__module__" (b.ts 0) (.str "cpy313.functools" b.v1), ent (b.hs 2) "__firstlineno__" (b.ts 2) (.int 60 b.tf), ent (b.hs 3) "__slots__" (b.ts 3) (.ref b.sl),
  ent (b.hs 4) "__init__" (b.ts 4) (.ref (b.f 0)), ent (b.hs 5) "__lt__" (b.ts 5) (.ref (b.f 1)), ent (b.hs 6) "__gt__" (b.ts 6) (.ref (b.f 2)), ent (b.hs 7) "__eq__" (b.ts 7) (.ref (b.f 3)), ent (b.hs 8) "__le__" (b.ts 8) (.ref (b.f 4)), ent (b.hs 9) "__ge__" (b.ts 9) (.ref (b.f 5)),
  ent (b.hs 10) "__hash__" (b.ts 10) .none, ent (b.hs 11) "__static_attributes__" (b.ts 11) (.ref b.st)]
theorem has_qual (b : Bod) (n : Nat) : nsHas (Str.ofString "__qualname__") (dObj b.es n) = pure true := by kernel_rfl
theorem drop_qual (b : Bod) : Obj.dropName (Str.ofString "__qualname__") (dObj b.es 0) = dObj b.es1 1 := by kernel_rfl
theorem look1_new (b : Bod) (n : Nat) : nsLook (Str.ofString "__new__") (dObj b.es1 n) = pure none := by kernel_rfl
theorem look1_is (b : Bod) (n : Nat) : nsLook (Str.ofString "__init_subclass__") (dObj b.es1 n) = pure none := by kernel_rfl
theorem look1_cg (b : Bod) (n : Nat) : nsLook (Str.ofString "__class_getitem__") (dObj b.es1 n) = pure none := by kernel_rfl
theorem look1_cc (b : Bod) (n : Nat) : nsLook (Str.ofString "__classcell__") (dObj b.es1 n) = pure none := by kernel_rfl
theorem look1_cd (b : Bod) (n : Nat) : nsLook (Str.ofString "__classdictcell__") (dObj b.es1 n) = pure none := by kernel_rfl
theorem mro_hook : Builtin.mroHook? (.type "type") = pure none := by kernel_rfl
theorem lin_obj : Builtin.linearize [.type "object"] mroOf = pure [.type "object"] := by kernel_rfl
theorem made_obj : Bind.madeBy (.type "object") = pure (some "object.__new__") := by kernel_rfl
theorem filt (a : Addr) : List.filter (fun x => x != Value.ref a) [Value.ref a, Value.type "object"] = [.type "object"] := by simp
theorem own_new : builtinOwn "object" (Str.ofString "__new__") = some (.builtin "object.__new__") := by kernel_rfl
theorem look1_obj (b : Bod) (n : Nat) : nsLook (Str.ofString "obj") (dObj b.es1 n) = pure none := by kernel_rfl
theorem mTL {prog : Program} {w : World} {A : Around} {E : Value → Shared → Prop} {h₀ h : Heap} {g : Array GenState} {d : Drawn} {t : Nat} {os : OsState} {chg news : List (Addr × Obj)} {Q : Option Value → Shared → Prop} {name : Str} {a : Addr} {cd : ClassData} {sl : Array (Option Value)} {o : Obj} {r' : Value} (D : Mem h₀ h chg news) (i j : Nat)
    (hi : news[i]? = some (a, clK cd sl)) (hm : cd.mro = [.ref a, .type "object"]) (hj : news[j]? = some (cd.ns, o)) (hr : nsLook name o = pure none) (ho : builtinOwn "object" name = some r') (hq : Q (some r') ⟨h, g, d, t, os⟩) : wpAny (model prog w) A (typeLookup (.ref a) name) Q E ⟨h, g, d, t, os⟩ := by
  unfold typeLookup mroOf classData
  refine wpAny_bind (wpAny_bind (wpAny_bind (mLoad D i hi (wpAny_pure (wpAny_pure ?_)))))
  rw [hm]
  refine wpAny_bind (wp_for1 ?_)
  refine wpAny_bind ?_
  unfold classOwn classData
  refine wpAny_bind (wpAny_bind (mLoad D i hi (wpAny_pure (mGet D j hj hr ?_))))
  refine wpAny_pure (wp_for1 (wpAny_bind (wpAny_pure ?_)))
  rw [ho]
  exact wpAny_pure (wpAny_pure hq)
theorem any_del (b : Bod) : (b.es.any fun x => x.key.isStr (Str.ofString "__del__")) = false := by kernel_rfl
noncomputable abbrev mdObj (a : Addr) (t : Tok) : Obj := { cls := .type "member_descriptor", data := .fields #[.str (Str.ofString "obj") t, .ref a, .builtin "proto.slot", .builtin "proto.slot#set", rawInt 0] }
noncomputable def Bod.es2 (b : Bod) (h1 : Int) (t1 : Tok) (md : Addr) : Array DictEntry := b.es1.push (ent h1 "obj" t1 (.ref md))
noncomputable def Bod.es3 (b : Bod) (h1 : Int) (t1 : Tok) (md : Addr) (h2 : Int) (t2 : Tok) : Array DictEntry := (b.es2 h1 t1 md).push (ent h2 "__doc__" t2 .none)
theorem rk_obj (b : Bod) : aRefKeyMayBeTheName (Str.ofString "obj") b.es1 = false := by kernel_rfl
theorem put_obj (b : Bod) (hh : Int) (t : Tok) (md : Addr) : Obj.putName (Str.ofString "obj") hh (.str (Str.ofString "obj") t) (.ref md) (dObj b.es1 1) = dObj (b.es2 hh t md) 2 := by kernel_rfl
theorem rk_doc (b : Bod) (hh : Int) (t : Tok) (md : Addr) : aRefKeyMayBeTheName (Str.ofString "__doc__") (b.es2 hh t md) = false := by kernel_rfl
theorem put_doc (b : Bod) (hh : Int) (t : Tok) (md : Addr) (h2 : Int) (t2 : Tok) : Obj.putName (Str.ofString "__doc__") h2 (.str (Str.ofString "__doc__") t2) .none (dObj (b.es2 hh t md) 2) = dObj (b.es3 hh t md h2 t2) 3 := by kernel_rfl
theorem look2_doc (b : Bod) (hh : Int) (t : Tok) (md : Addr) (n : Nat) : nsLook (Str.ofString "__doc__") (dObj (b.es2 hh t md) n) = pure none := by kernel_rfl
theorem look3_eq (b : Bod) (hh : Int) (t : Tok) (md : Addr) (h2 : Int) (t2 : Tok) (n : Nat) : nsLook (Str.ofString "__eq__") (dObj (b.es3 hh t md h2 t2) n) = pure (some (.ref (b.f 3))) := by kernel_rfl
theorem look3_hash (b : Bod) (hh : Int) (t : Tok) (md : Addr) (h2 : Int) (t2 : Tok) (n : Nat) : nsLook (Str.ofString "__hash__") (dObj (b.es3 hh t md h2 t2) n) = pure (some .none) := by kernel_rfl
theorem note_obj (a : Addr) : Builtin.noteSubclassOfBuiltin "object" a = pure () := by
  unfold Builtin.noteSubclassOfBuiltin
  rw [if_pos (by decide +kernel)]
theorem sn_ref {prog : Program} {w : World} {A : Around} {E : Value → Shared → Prop} {s : Shared} {r : Addr} {o : Obj} {T : String} {Q : Option Value → Shared → Prop} (ho : s.heap.get? r = some o) (hT : o.cls = .type T) (hl : typeLookup (.type T) (Str.ofString "__set_name__") = pure none) (hq : Q none s) :
    wpAny (model prog w) A (specialOf (.ref r) (Str.ofString "__set_name__")) Q E s := by
  unfold specialOf typeOf
  refine wpAny_bind (wpAny_bind (wpAny_loadPart ho (wpAny_pure ?_)))
  rw [hT, hl]; exact wpAny_pure hq
theorem sn_fn : typeLookup (.type "function") (Str.ofString "__set_name__") = pure none := by kernel_rfl
theorem sn_list : typeLookup (.type "list") (Str.ofString "__set_name__") = pure none := by kernel_rfl
theorem sn_tup : typeLookup (.type "tuple") (Str.ofString "__set_name__") = pure none := by kernel_rfl
theorem sn_md : typeLookup (.type "member_descriptor") (Str.ofString "__set_name__") = pure none := by kernel_rfl
theorem sn_str (x : Str) (t : Tok) : specialOf (.str x t) (Str.ofString "__set_name__") = pure none := by kernel_rfl
theorem sn_int (x : Int) (t : Tok) : specialOf (.int x t) (Str.ofString "__set_name__") = pure none := by kernel_rfl
theorem sn_none : specialOf .none (Str.ofString "__set_name__") = pure none := by kernel_rfl
/-- the class K as it stands -/
structure KAt (h : Heap) (a ns md tb : Addr) (b : Bod) (t : Tok) (k1 : Int) (t0 t1 : Tok) (k2 : Int) (t2 : Tok) : Prop where
  hc : h.get? a = some (clK (cdK ns [.ref a, .type "object"] false [Str.ofString "obj"]) #[some (.ref tb), none, some (.str (Str.ofString "K") t), some (.str (Str.ofString "cmp_to_key.<locals>.K") b.tq), some (.builtin "object.__new__"), some (.bool false)])
  hn : h.get? ns = some (dObj (b.es3 k1 t1 md k2 t2) 3)
  hm : h.get? md = some (mdObj a t0)
theorem tn {w : World} {A : Around} {R : Fin → Shared → Prop} {E : Value → Shared → Prop} {hp : Heap} {g : Array GenState} {d : Drawn} {tk : Nat} {os : OsState} {tb na : Addr} {b : Bod} {ep : Nat} {t t2 : Tok}
    (h1 : hp.get? tb = some { cls := .type "tuple", data := .seq #[.type "object"] }) (h2 : hp.get? na = some (dObj b.es ep)) (h3 : hp.get? b.sl = some { cls := .type "list", data := .seq #[.str "obj" t2] }) (h4 : (na == sysModules) = false) {xs5 : Array Value} (h5 : hp.get? b.st = some { cls := .type "tuple", data := .seq xs5 }) (a1 : A.handled = none) (a2 : A.depth ≤ 590) (a3 : A.units ≤ 1950) (hno : Looks (model prog w) hp anyOpaqueLoaded false)
    (hR : ∀ a ns md h' tk' k1 k2 t0 t1 t2', Keeps hp h' → KAt h' a ns md tb b t k1 t0 t1 k2 t2' → R (.done (.ret (.ref a))) ⟨h', g, d, tk', os⟩) (hfn : ∀ i, ∃ o, hp.get? (b.f i) = some o ∧ o.cls = .type "function") :
    wpAny (model prog w) A (Builtin.«type.__new__» ⟨[.type "type", .str "K" t, .ref tb, .ref na], []⟩) R E ⟨hp, g, d, tk, os⟩ := by
  unfold Builtin.«type.__new__»
  refine wpAny_bind (wpAny_pure ?_)
  refine wpAny_bind (wpAny_bind (wpAny_bind (wpAny_loadPart h1 (wpAny_pure ?_))))
  refine wpAny_of_eq sub_tt ?_
  refine wpAny_ite_false rfl ?_
  refine wpAny_bind (wpAny_bind (wpAny_bind (wpAny_loadPart h2 (wpAny_pure ?_))))
  refine wpAny_of_eq sub_dd ?_
  refine wpAny_ite_false rfl ?_
  refine wpAny_bind (wpAny_bind (wpAny_load h1 (wpAny_pure ?_)))
  refine wpAny_ite_false rfl ?_
  refine wpAny_bind (wp_pk PUnit.unit (by kernel_rfl) ?_)
  refine wpAny_bind (wp_pk (.type "type") (by kernel_rfl) ?_)
  refine wpAny_ite_false rfl ?_
  refine wpAny_bind (wpAny_of_eq not_turned ?_)
  refine wpAny_bind (wpAny_of_eq ext_base ?_)
  refine wpAny_ite_false (by rw [h4]; rfl) ?_
  refine wpAny_bind (wpAny_dictEntries h2 rfl ?_)
  refine wpAny_bind (wpAny_bind (wpAny_bind (wpAny_loadPart h2 (wpAny_pure ?_))))
  refine wpAny_of_eq iter_dict ?_
  refine wpAny_ite_true rfl ?_
  refine wpAny_bind (wpAny_pure ?_)
  refine wpAny_bind (wpAny_holding (slots_read h3 ?_))
  have kp : Keeps hp ((hp.push (seqObj "list" #[] 0)).update hp.objs.size (Obj.mapSeq (· ++ #[.str (Str.ofString "obj") t2]))) := keeps_of_mem (((Mem.start hp).alloc (o := seqObj "list" #[] 0) rfl).update (i := 0) (f := Obj.mapSeq (· ++ #[.str (Str.ofString "obj") t2])) rfl rfl)
  generalize ((hp.push (seqObj "list" #[] 0)).update hp.objs.size (Obj.mapSeq (· ++ #[.str (Str.ofString "obj") t2]))) = hb at kp ⊢
  have D0 := Mem.start hb
  refine wpAny_bind (mNew D0 (fun ns h' D1 => ?_) (by show 12 ≤ _; rw [sizeLine_eq]; decide))
  refine wpAny_ite_false (any_module b) ?_
  refine wpAny_bind (wp_pk () (by kernel_rfl) ?_)
  refine wpAny_ite_false (by kernel_rfl) ?_
  refine wpAny_bind (mGet D1 0 rfl (look_qual b _) ?_)
  refine wpAny_bind (mGet D1 0 rfl (look_qual b _) ?_)
  refine wpAny_bind (wpAny_pure ?_)
  refine wpAny_bind (wpAny_pure ?_)
  refine wpAny_bind (mGet D1 0 rfl (look_doc b _) ?_)
  refine wpAny_bind (mAlloc (o := clK (cdK ns [] true []) #[]) D1 fun a h2' D2 => ?_)
  refine wpAny_ite_true rfl ?_
  refine wpAny_bind (mSlot (by rw [sizeLine_eq]; decide) D2 0 rfl (o' := clK (cdK ns [] true []) #[some (.ref tb)]) rfl rfl fun h3' D3 => ?_)
  refine wpAny_bind (mSlot (by rw [sizeLine_eq]; decide) D3 0 rfl (o' := clK (cdK ns [] true []) #[some (.ref tb), none, some (.str (Str.ofString "K") t)]) rfl rfl fun h4' D4 => ?_)
  refine wpAny_bind (mSlot (by rw [sizeLine_eq]; decide) D4 0 rfl (o' := clK (cdK ns [] true []) #[some (.ref tb), none, some (.str (Str.ofString "K") t), some (.str (Str.ofString "cmp_to_key.<locals>.K") b.tq)]) rfl rfl fun h5' D5 => ?_)
  refine wpAny_bind (mDel D5 1 rfl (has_qual b _) (drop_qual b) rfl fun h6' D6 => ?_)
  dsimp only [List.set] at D6
  refine wpAny_bind (mGet D6 1 rfl (look1_new b _) ?_)
  refine wpAny_bind (wp_for1 (wpAny_bind (mGet D6 1 rfl (look1_is b _) (wpAny_pure (wp_for1 (wpAny_bind (mGet D6 1 rfl (look1_cg b _) (wpAny_pure (wp_for0 ?_)))))))))
  refine wpAny_bind (mGet D6 1 rfl (look1_cc b _) ?_)
  refine wpAny_bind (mGet D6 1 rfl (look1_cd b _) ?_)
  refine wpAny_bind (wpAny_of_eq mro_hook ?_)
  refine wpAny_bind (wpAny_of_eq lin_obj ?_)
  refine wpAny_bind (wpAny_pure ?_)
  wp_delta
  rw [filt]
  refine wpAny_bind (wp_pk false (by kernel_rfl) ?_)
  refine wpAny_bind (mCls D6 0 rfl (cd' := cdK ns [.ref a, .type "object"] true []) (by kernel_rfl) (news' := [(a, clK (cdK ns [.ref a, .type "object"] true []) #[some (Value.ref tb), none, some (Value.str (Str.ofString "K") t), some (Value.str (Str.ofString "cmp_to_key.<locals>.K") b.tq)]), (ns, dObj b.es1 1)]) rfl rfl rfl fun h7' D7 => ?_)
  refine wpAny_bind (wpAny_of_eq made_obj ?_)
  refine wpAny_bind (mSlot (by rw [sizeLine_eq]; decide) D7 0 rfl (o' := clK (cdK ns [.ref a, .type "object"] true []) #[some (.ref tb), none, some (.str (Str.ofString "K") t), some (.str (Str.ofString "cmp_to_key.<locals>.K") b.tq), some (.builtin "object.__new__")]) rfl rfl fun h8' D8 => ?_)
  dsimp only [List.set] at D8
  refine wpAny_bind ?_
  unfold Bind.refreshMaker
  refine wpAny_bind (mSlotAt D8 0 rfl rfl ?_)
  refine wpAny_ite_false rfl ?_
  refine wpAny_bind (mTL D8 0 1 rfl rfl rfl (look1_new b _) own_new ?_)
  refine wpAny_ite_false (by kernel_rfl) (wpAny_pure ?_)
  refine wpAny_bind ?_
  unfold Builtin.Slots.install
  refine wpAny_bind (wp_for1 ?_)
  refine wpAny_bind (mGet D8 1 rfl (look1_obj b _) ?_)
  refine wpAny_ite_true rfl ?_
  refine wpAny_bind (wpAny_mkStr ?_)
  refine wpAny_bind (mNew (data := .fields #[.str (Str.ofString "obj") tk, .ref a, .builtin "proto.slot", .builtin "proto.slot#set", rawInt 0]) D8 (fun md h9' D9 => ?_) (by show 5 ≤ _; rw [sizeLine_eq]; decide))
  refine wpAny_bind (mSetV D9 2 rfl (by rw [sizeLine_eq]; exact decide_eq_false (by show ¬ 11 > _; omega)) (rk_obj b) (fun hh => put_obj b hh _ md) (fun hh => rfl) fun k1 h10' D10 => ?_)
  dsimp only [List.set] at D10
  refine wpAny_pure (wp_for0 ?_)
  refine wpAny_bind (wp_pk false (by kernel_rfl) ?_)
  refine wpAny_ite_false (by rw [sizeLine_eq]; decide) ?_
  refine mCls D10 1 rfl (cd' := cdK ns [.ref a, .type "object"] false [Str.ofString "obj"]) rfl rfl rfl rfl fun h11' D11 => ?_
  refine wpAny_bind (wpAny_of_eq givesWeak_obj ?_)
  refine wpAny_bind (mSlot (by rw [sizeLine_eq]; decide) D11 1 rfl (o' := clK (cdK ns [.ref a, .type "object"] false [Str.ofString "obj"]) #[some (.ref tb), none, some (.str (Str.ofString "K") t), some (.str (Str.ofString "cmp_to_key.<locals>.K") b.tq), some (.builtin "object.__new__"), some (.bool false)]) rfl rfl fun h12' D12 => ?_)
  dsimp only [List.set] at D12
  refine wpAny_ite_false rfl ?_
  refine wpAny_ite_false rfl ?_
  refine wpAny_bind (mGet D12 2 rfl (look2_doc b _ _ _ _) ?_)
  refine wpAny_ite_true rfl ?_
  refine wpAny_bind (mSet D12 2 rfl (rk_doc b _ _ _) (fun hh => put_doc b _ _ _ hh _) (fun hh => rfl) fun k2 h13' D13 => ?_)
  dsimp only [List.set] at D13
  refine wpAny_bind (mGet D13 2 rfl (look3_eq b _ _ _ _ _ _) ?_)
  refine wpAny_ite_true rfl ?_
  refine wpAny_bind (mGet D13 2 rfl (look3_hash b _ _ _ _ _ _) ?_)
  refine wpAny_ite_false rfl ?_
  refine wpAny_bind (wp_for1 (wpAny_bind (wpAny_of_eq (note_obj a) (wpAny_pure (wp_for0 ?_)))))
  have kD : ∀ r o, hp.get? r = some o → h13'.get? r = some o := fun r o e => keeps_of_mem D13 r o (kp r o e)
  refine wpAny_bind (wpAny_tryCatch (wpAny_holding ?_))
  refine wpAny_bind (wpAny_dictEntries (D13.at 2 _ _ rfl) rfl ?_)
  refine wpAny_bind (wp_pk false (by kernel_rfl) ?_)
  refine wpAny_ite_false rfl ?_
  refine wpAny_bind (wpAny_dictEntries (D13.at 2 _ _ rfl) rfl ?_)
  refine wpAny_bind ?_
  rw [← Array.forIn_toList]
  refine wp_for1 (wpAny_ite_false (by kernel_rfl) (wpAny_bind (wpAny_of_eq (sn_str _ _) (wpAny_pure ?_))))
  refine wp_for1 (wpAny_ite_false (by kernel_rfl) (wpAny_bind (wpAny_of_eq (sn_int _ _) (wpAny_pure ?_))))
  refine wp_for1 (wpAny_ite_false (by kernel_rfl) (wpAny_bind (sn_ref (kD _ _ h3) rfl sn_list (wpAny_pure ?_))))
  refine wp_for1 (wpAny_ite_false (by kernel_rfl) (wpAny_bind (sn_ref (kD _ _ (hfn 0).choose_spec.1) (hfn 0).choose_spec.2 sn_fn (wpAny_pure ?_))))
  refine wp_for1 (wpAny_ite_false (by kernel_rfl) (wpAny_bind (sn_ref (kD _ _ (hfn 1).choose_spec.1) (hfn 1).choose_spec.2 sn_fn (wpAny_pure ?_))))
  refine wp_for1 (wpAny_ite_false (by kernel_rfl) (wpAny_bind (sn_ref (kD _ _ (hfn 2).choose_spec.1) (hfn 2).choose_spec.2 sn_fn (wpAny_pure ?_))))
  refine wp_for1 (wpAny_ite_false (by kernel_rfl) (wpAny_bind (sn_ref (kD _ _ (hfn 3).choose_spec.1) (hfn 3).choose_spec.2 sn_fn (wpAny_pure ?_))))
  refine wp_for1 (wpAny_ite_false (by kernel_rfl) (wpAny_bind (sn_ref (kD _ _ (hfn 4).choose_spec.1) (hfn 4).choose_spec.2 sn_fn (wpAny_pure ?_))))
  refine wp_for1 (wpAny_ite_false (by kernel_rfl) (wpAny_bind (sn_ref (kD _ _ (hfn 5).choose_spec.1) (hfn 5).choose_spec.2 sn_fn (wpAny_pure ?_))))
  refine wp_for1 (wpAny_ite_false (by kernel_rfl) (wpAny_bind (wpAny_of_eq sn_none (wpAny_pure ?_))))
  refine wp_for1 (wpAny_ite_false (by kernel_rfl) (wpAny_bind (sn_ref (kD _ _ h5) rfl sn_tup (wpAny_pure ?_))))
  refine wp_for1 (wpAny_ite_false (by kernel_rfl) (wpAny_bind (sn_ref (D13.at 0 _ _ rfl) rfl sn_md (wpAny_pure ?_))))
  refine wp_for1 (wpAny_ite_false (by kernel_rfl) (wpAny_bind (wpAny_of_eq sn_none (wpAny_pure ?_))))
  refine wp_for0 ?_
  have hcl : h13'.get? a = some _ := D13.at 1 _ _ rfl
  refine wpAny_bind (wpAny_mono (fit (k := 0) (c_super (w := w) hcl) a1 (Nat.le_trans a2 (by decide)) (Nat.le_trans a3 (by decide))) (fun v s' hv => ?_) fun _ _ e => e.elim)
  obtain ⟨so, hs', tks, o, rfl, rfl, DS, rfl⟩ := hv
  have kS := keeps_of_mem DS
  refine wpAny_bind (wpAny_holding (getAttr_super a1 a2 a3 (kS _ _ hcl) (DS.at 0 _ _ rfl) ((hno.keeps kD).keeps kS) fun q hq' tkq DQ => ?_))
  have kQ := keeps_of_mem DQ
  refine wpAny_bind (wpAny_mono (fit (k := 0) (c_isub (w := w) (s := ⟨hq', g, d, tkq, os⟩) (kQ _ _ (kS _ _ hcl)) (DQ.at 0 _ _ rfl)) a1 (Nat.le_trans a2 (by decide)) (Nat.le_trans a3 (by decide))) (fun v s' hv => ?_) fun _ _ e => e.elim)
  obtain ⟨hz, tkz, rfl, rfl, DZ⟩ := hv
  have kZ := keeps_of_mem DZ
  have kA : Keeps h13' hz := fun r o e => kZ r o (kQ r o (kS r o e))
  refine wpAny_pure (wpAny_pure (hR a ns md hz tkz k1 k2 tk (tk + 1) _ (fun r o e => kA r o (kD r o e)) ⟨kA _ _ hcl, kA _ _ (D13.at 2 _ _ rfl), kA _ _ (D13.at 0 _ _ rfl)⟩))
end Mine
end

section
open PySem PySem.W PySem.W.X PyProof.Rows PySem.Calls
set_option Elab.async false
set_option maxRecDepth 100000
set_option maxHeartbeats 1000000
namespace Mine
theorem entry_type_new : entryFor table "type.__new__" = some Builtin.«type.__new__» := entryFor_of_tree (by kernel_rfl)
theorem entry_type_init : entryFor table "type.__init__" = some Builtin.«type.__init__» := entryFor_of_tree (by kernel_rfl)
theorem slot_type_init : Slot "type" (Str.ofString "__init__") "type.__init__" := .of (owner := "type") (n := "__init__") (by rw [typeLookup_type, builtinLookup_eq_fast]; kernel_rfl) (by decide +kernel) (by decide +kernel) (by decide +kernel)
  (by first | exact .inl (by decide +kernel) | exact .inr (by decide +kernel)) (by rw [isSubtype_type]; kernel_rfl)
theorem made_type : Bind.madeBy (.type "type") = pure (some "type.__new__") := by kernel_rfl
theorem mro_type : mroOf (.type "type") = pure [.type "type", .type "object"] := by kernel_rfl
theorem plain_type_new : plainId "type.__new__" = true := by decide +kernel
theorem ctc_type (a b c : Value) : checkTypeCall "type" ⟨[a, b, c], []⟩ = pure () := by kernel_rfl
theorem cbc_type (a b c : Value) : checkBuiltinCall "type.__new__" ⟨[.type "type", a, b, c], []⟩ = pure () := by kernel_rfl
theorem can_type : ((Manifest.find? "type").bind (·.mro.findSome? fun t => (Manifest.find? t).bind fun b => if b.noNew then some true else if b.attrs.any (·.1 == "__new__") then some false else none)).getD false = false := by kernel_rfl
theorem init_args (o a b c : Value) : argsOk "type.__init__" ⟨[o, a, b, c], []⟩ := by unfold argsOk; kernel_rfl
theorem call_type {w : World} {A : Around} {E : Value → Shared → Prop} {s : Shared} {Q Q₁ : Value → Shared → Prop} {x y z : Value}
    (hnew : wpAny (model prog w) A.in1.in1 (Builtin.«type.__new__» ⟨[.type "type", x, y, z], []⟩) (fun fin s' => match fin with | .done (.ret v) => Q₁ v s' | _ => False) NoE s)
    (hnext : ∀ obj s₁, Q₁ obj s₁ → s₁.TypeIs obj "type" ∧ Q obj s₁) : wpAny (model prog w) A (call (.type "type") [x, y, z]) Q E s := by
  have hmro := mro_type
  have hmade := made_type
  have hsub := sub_ty
  have hct := ctc_type x y z
  refine wpAny_call (codeAny_of_tree ?_)
  show wpAny _ _ (callAny (.type "type") _) _ _ _
  refine wpAny_pure ⟨Code.quiet_builtin _ (by decide +kernel), codeAny_builtin F.entry_type_call ?_⟩
  rw [Around.under_plain (weight_type_call_type "type" [x, y, z] []) rfl]
  have h2 := can_type
  repeat (any_goals (first | assumption | wp_step))
  refine codeAny_mono (codeAny_call_builtin plain_type_new entry_type_new (wpAny_of_eq (cbc_type x y z) (wpAny_mono hnew (Q' := fun fin s' => match fin with | .done f => wants Q₁ E (.ok f) s' | .again c' => c'.quiet = true ∧ codeAny (model prog w) A.in1 c' (wants Q₁ E) s') (fun fin s' hf => ?_) fun _ _ e => e.elim))) fun r s₁ hr => ?_
  · cases fin with
    | done f => cases f with
      | ret v => exact hf
      | _ => exact hf.elim
    | again c => exact hf.elim
  cases r with
  | error e => exact hr
  | ok fl =>
    cases fl with
    | ret obj =>
      obtain ⟨hT, hq⟩ := hnext _ _ hr
      have hli := slot_type_init.lookup
      have hbi := slot_type_init.bind obj
      repeat (any_goals (first | assumption | wp_step))
      have hsi : wpAny (model prog w) A.in1.in1 (Builtin.«type.__init__» ⟨[obj, x, y, z], []⟩)
        (fun fin s' => match fin with | .done f => wants (fun r s₂ => r = .none ∧ Q obj s₂) E (.ok f) s' | .again c' => c'.quiet = true ∧ codeAny (model prog w) A.in1 c' (wants (fun r s₂ => r = .none ∧ Q obj s₂) E) s')
        (fun e s' => wants (fun r s₂ => r = .none ∧ Q obj s₂) E (.error e) s') s₁ := by
        unfold Builtin.«type.__init__»
        exact wpAny_ite_false rfl (wpAny_ite_false rfl (wpAny_pure ⟨rfl, hq⟩))
      refine codeAny_mono (codeAny_call_builtin slot_type_init.plain entry_type_init (slot_type_init.check _ _ _ _ _ _ _ _ hT (init_args _ _ _ _) hsi)) fun r₂ s₂ hr₂ => ?_
      cases r₂ with
      | error e => exact hr₂
      | ok fl₂ =>
        cases fl₂ with
        | ret r =>
          obtain ⟨rfl, hq⟩ := hr₂
          repeat (any_goals (first | assumption | wp_step))
        | _ => exact hr₂.elim
    | _ => exact hr.elim
end Mine
end

section
open PySem PySem.W PySem.W.X PyProof.Rows PySem.Calls
set_option Elab.async false
set_option maxRecDepth 100000
set_option maxHeartbeats 1000000
set_option linter.unusedVariables false
namespace Mine
/-- the defs of the class body: their places and full names -/
noncomputable def kdefs : List (Pos × Str) := [(⟨64, 8, 65, 26⟩, "cmp_to_key.<locals>.K.__init__"), (⟨67, 8, 68, 49⟩, "cmp_to_key.<locals>.K.__lt__"), (⟨70, 8, 71, 49⟩, "cmp_to_key.<locals>.K.__gt__"), (⟨73, 8, 74, 50⟩, "cmp_to_key.<locals>.K.__eq__"),
  (⟨76, 8, 77, 50⟩, "cmp_to_key.<locals>.K.__le__"), (⟨79, 8, 80, 50⟩, "cmp_to_key.<locals>.K.__ge__")]
noncomputable def TabGood (h : Heap) (P : Addr) : Prop := ∃ ps, h.get? P = some (tabObj ps) ∧ TriplesOk ps.toList ∧ ∀ q ∈ kdefs, codeAmong q.1 ps.toList = none ∨ ∃ c', codeAmong q.1 ps.toList = some (.ref c') ∧ h.CodeRec (.ref c') q.2
theorem codeRec_keep {h h' : Heap} {c : Addr} {q : Str} (r : h.CodeRec (.ref c) q) (k : ∀ o, h.get? c = some o → h'.get? c = some o) : h'.CodeRec (.ref c) q := by
  obtain ⟨c', o, vs, t, e, ho, r⟩ := r
  cases e
  exact ⟨c, o, vs, t, rfl, k _ ho, r⟩
theorem codeRec_fields {h : Heap} {c : Addr} {q : Str} (r : h.CodeRec (.ref c) q) : ∃ o vs, h.get? c = some o ∧ o.data = .fields vs ∧ 2 ≤ vs.size := by
  obtain ⟨c', o, vs, t, e, ho, hd, hv⟩ := r
  cases e
  refine ⟨o, vs, ho, hd, ?_⟩
  obtain ⟨q, _⟩ := Array.getElem?_eq_some_iff.mp hv
  lia
theorem codeAmong_other {p q : Pos} {c : Value} (hne : ¬ (q.line = p.line ∧ q.col = p.col)) (l : List Value) (h : TriplesOk l) : codeAmong p (l ++ [rawInt q.line, rawInt q.col, c]) = codeAmong p l := by
  fun_induction TriplesOk l with
  | case1 =>
    simp only [List.nil_append, codeAmong, rawInt]
    rw [if_neg]
    intro hh
    simp at hh
    exact hne ⟨by lia, by lia⟩
  | case2 a t b u x rest ih =>
    simp only [List.cons_append, codeAmong]
    rw [ih h]
  | case3 l h1 h2 => exact h.elim
theorem triples_str {l : List Value} (h : TriplesOk l) {x : Str} {t : Tok} (e : l[1]? = some (.str x t)) : False := by
  match l, h, e with
  | .int _ _ :: .int _ _ :: _ :: rest, _, e => cases e
theorem rec_apart {h : Heap} {c P : Addr} {q : Str} {ps : Array Value} (r : h.CodeRec (.ref c) q) (hP : h.get? P = some (tabObj ps)) (ht : TriplesOk ps.toList) : c ≠ P := by
  rintro rfl
  obtain ⟨c', o, vs, t, e, ho, hd, hv⟩ := r
  cases e
  rw [hP] at ho; cases ho; cases hd
  exact triples_str ht (x := q) (t := t) (by simpa using hv)
theorem kdefs_apart : ∀ p ∈ kdefs, ∀ q ∈ kdefs, (q.1.line = p.1.line ∧ q.1.col = p.1.col) → p = q := by decide
/-- a table has grown -/
noncomputable def Grow (P : Addr) (h h' : Heap) : Prop := ∀ ps, h.get? P = some (tabObj ps) → ∃ more, h'.get? P = some (tabObj (ps ++ more))
theorem Grow.of_keep {P : Addr} {h h' : Heap} (k : ∀ o, h.get? P = some o → h'.get? P = some o) : Grow P h h' := fun ps e => ⟨#[], by rw [Array.append_empty]; exact k _ e⟩
theorem Grow.trans {P : Addr} {h h' h'' : Heap} (a : Grow P h h') (b : Grow P h' h'') : Grow P h h'' := fun ps e => by
  obtain ⟨m1, e1⟩ := a ps e
  obtain ⟨m2, e2⟩ := b _ e1
  exact ⟨m1 ++ m2, by rw [← Array.append_assoc]; exact e2⟩
/-- a def of the class body as an object -/
noncomputable def FnIs (h : Heap) (f : Addr) (name qual : Str) (params : Arguments) (body : List Stmt) (scope : Scope) (clos : List (Str × Addr)) : Prop :=
  ∃ doc pm c' ctv, h.get? f = some (fnMade name qual params body scope clos doc pm c' ctv) ∧ h.CodeRec (.ref c') qual
theorem FnIs.keep {h h' : Heap} {f : Addr} {name qual : Str} {params : Arguments} {body : List Stmt} {scope : Scope} {clos : List (Str × Addr)} (x : FnIs h f name qual params body scope clos) (k : ∀ b o, h.get? b = some o → (∀ es n, o.data ≠ .dict es n) → o.cls ≠ .none → h'.get? b = some o) (kc : ∀ b o vs, h.get? b = some o → o.data = .fields vs → 2 ≤ vs.size → h'.get? b = some o) :
    FnIs h' f name qual params body scope clos := by
  obtain ⟨doc, pm, c', ctv, ho, hr⟩ := x
  refine ⟨doc, pm, c', ctv, k _ _ ho (by intro es n e; cases e) (by simp), codeRec_keep hr fun o e => ?_⟩
  obtain ⟨o', vs, e', hd, hs⟩ := codeRec_fields hr
  rw [e'] at e; cases e
  exact kc _ _ _ e' hd hs
section
variable {M : Model} {A : Around} {E : Value → Shared → Prop} {s : Shared} {name qual : Str} {params : Arguments} {body : List Stmt} {scope : Scope} {env : Env} {c P : Addr} {pos : Pos} {firstLine : Nat} {mg : Str → Option Value}
  {clos : List (Str × Addr)} {Q : Value → Shared → Prop}
theorem mkF (hcl : closureFor scope env = pure clos) (hge0 : env.globals = mainGlobals) (hg : s.heap.Ns mainGlobals mg) (hcode : env.code = .ref c) (C : CodeHd s.heap c P) (T : TabGood s.heap P) (hgP : mainGlobals ≠ P) (hb : s.heap.BuiltinsAt mg P) (hpq : (pos, qual) ∈ kdefs)
    (h : ∀ f h' tk, Heap.ExtBut P s.heap h' → FnIs h' f name qual params body scope clos → TabGood h' P → Grow P s.heap h' → s.heap.get? f = none → Q (.ref f) { s with heap := h', toks := tk }) :
    wpAny M A (makeFunction name qual params (.stmts body) scope env [] [] [] pos firstLine) Q E s := by
  obtain ⟨ps, hP, ht, hg'⟩ := T
  rcases hg' _ hpq with hnf | ⟨c', hf, hr⟩
  · refine makeFunction_K hcl hge0 hg hcode C hP ht hnf hgP hb fun c' ctv doc h' tk hx hge hlt hrec htb => ?_
    have up : ∀ b o, h'.get? b = some o → (h'.push (fnMade name qual params body scope clos doc ((mg "__name__").getD .none) c' ctv)).get? b = some o := fun b o e => Heap.get?_push_of_some _ e
    refine h _ _ tk (fun b o hb e => up b o (hx b o hb e)) ⟨doc, _, c', ctv, Heap.get?_push_size _ rfl, codeRec_keep hrec fun o e => up _ _ e⟩ ?_ (fun ps' e' => ⟨_, by rw [hP] at e'; cases e'; exact up _ _ htb⟩) (Heap.get?_none_of_le ?_)
    · have hl : (ps ++ #[rawInt pos.line, rawInt pos.col, Value.ref c']).toList = ps.toList ++ [rawInt pos.line, rawInt pos.col, .ref c'] := by simp
      refine ⟨_, up _ _ htb, by rw [hl]; exact TriplesOk_snoc _ _ _ _ ht, fun q hq => ?_⟩
      rw [hl]
      by_cases e : pos.line = q.1.line ∧ pos.col = q.1.col
      · have eq := kdefs_apart _ hq _ hpq e
        subst eq
        exact .inr ⟨c', codeAmong_snoc _ ht hnf, codeRec_keep hrec fun o e => up _ _ e⟩
      · rw [codeAmong_other e _ ht]
        rcases hg' q hq with a | ⟨c2, a, r⟩
        · exact .inl a
        · refine .inr ⟨c2, a, codeRec_keep r fun o e => up _ _ (hx _ _ (rec_apart r hP ht) e)⟩
    · exact Nat.le_of_lt (Nat.lt_of_le_of_lt hge hlt)
  · refine makeFunction_hit hcl hge0 hg hcode C hP ht hf hb fun ctv doc h' tk hk hsz => ?_
    have up : ∀ b o, s.heap.get? b = some o → (h'.push { cls := .type "function", data := .func (fnX name qual params body scope clos .none .none doc ((mg "__name__").getD .none) none (.ref c') ctv) }).get? b = some o := fun b o e => Heap.get?_push_of_some _ (hk b o e)
    refine h _ _ tk (fun b o _ e => up b o e) ⟨doc, _, c', ctv, Heap.get?_push_size _ rfl, codeRec_keep hr fun o e => up _ _ e⟩ ⟨ps, up _ _ hP, ht, fun q hq => ?_⟩ (Grow.of_keep fun o e => up _ _ e) (Heap.get?_none_of_le hsz)
    rcases hg' q hq with a | ⟨c2, a, r⟩
    · exact .inl a
    · exact .inr ⟨c2, a, codeRec_keep r fun o e => up _ _ e⟩
end
end Mine
end

section
open PySem PySem.W PySem.W.X PyProof.Rows PySem.Calls
set_option Elab.async false
set_option maxRecDepth 100000
set_option maxHeartbeats 1000000
set_option linter.unusedVariables false
namespace Mine
theorem store_local {env : Env} {name : Str} {v : Value} (hk : env.scope.kind = .class) (hl : env.kindOf name = some .local) : storeName env name v = localSet env name v := by
  unfold storeName
  rw [hl, hk]
  rfl
theorem store_own {env : Env} {name : Str} {v : Value} (hk : env.scope.kind = .class) (hl : env.kindOf name = none) (hc : compilersOwnNames.contains name = true) : storeName env name v = localSet env name v := by
  unfold storeName Env.blockKind
  rw [hl, hk, hc]
  rfl
/-- the state of a class body: its namespace, its code's table -/
structure CB (h₀ h : Heap) (na P : Addr) (es : Array DictEntry) (n : Nat) : Prop where
  keep : KeepsBut [na, P] h₀ h
  ns : h.get? na = some (dObj es n)
  tab : TabGood h P
  gw : Grow P h₀ h
theorem TabGood.same {h h' : Heap} {na P : Addr} {es : Array DictEntry} {n : Nat} (T : TabGood h P) (hn : h.get? na = some (dObj es n)) (hs : Heap.SameBut na h h') : TabGood h' P := by
  obtain ⟨ps, hP, ht, hg⟩ := T
  refine ⟨ps, hs.extBut _ _ (fun z => ?_) hP, ht, fun q hq => ?_⟩
  · rw [z, hn] at hP; cases hP
  · rcases hg q hq with a | ⟨c, a, r⟩
    · exact .inl a
    · refine .inr ⟨c, a, codeRec_keep r fun o e => hs.extBut _ _ (fun z => ?_) e⟩
      obtain ⟨o', vs, e', hd, _⟩ := codeRec_fields r
      rw [z, hn] at e'; cases e'; cases hd
theorem CB.set {h₀ h h' : Heap} {na P : Addr} {es es' : Array DictEntry} {n n' : Nat} (c : CB h₀ h na P es n) (hs : Heap.SameBut na h h') (hn : h'.get? na = some (dObj es' n')) : CB h₀ h' na P es' n' :=
  ⟨fun b o hb e => hs.extBut b o (fun z => hb (by simp [z])) (c.keep b o hb e), hn, c.tab.same c.ns hs, c.gw.trans (Grow.of_keep fun o e => hs.extBut _ _ (fun z => by
    obtain ⟨ps, hP, _⟩ := c.tab
    have e' := c.ns
    rw [← z, hP] at e'; cases e') e)⟩
theorem CB.ext {h₀ h h' : Heap} {na P : Addr} {es : Array DictEntry} {n : Nat} (c : CB h₀ h na P es n) (hx : Heap.ExtBut P h h') (T : TabGood h' P) (gr : Grow P h h') : CB h₀ h' na P es n := by
  refine ⟨fun b o hb e => hx b o (fun z => hb (by simp [z])) (c.keep b o hb e), hx _ _ (fun z => ?_) c.ns, T, c.gw.trans gr⟩
  obtain ⟨ps, hP, _⟩ := c.tab
  have e := c.ns
  rw [z, hP] at e; cases e
theorem FnIs.same {h h' : Heap} {na f : Addr} {es : Array DictEntry} {n : Nat} {name qual : Str} {params : Arguments} {body : List Stmt} {scope : Scope} {clos : List (Str × Addr)} (x : FnIs h f name qual params body scope clos) (hn : h.get? na = some (dObj es n)) (hs : Heap.SameBut na h h') : FnIs h' f name qual params body scope clos := by
  refine x.keep (fun b o e hd hc => hs.extBut _ _ (fun z => ?_) e) fun b o vs e hd hv => hs.extBut _ _ (fun z => ?_) e
  · rw [z, hn] at e; cases e; exact hd _ _ rfl
  · rw [z, hn] at e; cases e; cases hd
theorem FnIs.ext {h h' : Heap} {P f : Addr} {name qual : Str} {params : Arguments} {body : List Stmt} {scope : Scope} {clos : List (Str × Addr)} (x : FnIs h f name qual params body scope clos) (T : TabGood h P) (hx : Heap.ExtBut P h h') : FnIs h' f name qual params body scope clos := by
  obtain ⟨ps, hP, ht, _⟩ := T
  obtain ⟨doc, pm, c', ctv, ho, hr⟩ := x
  refine ⟨doc, pm, c', ctv, hx _ _ (fun z => ?_) ho, codeRec_keep hr fun o e => hx _ _ (rec_apart hr hP ht) e⟩
  rw [z, hP] at ho; cases ho
section
variable {w : World} {A : Around} {E : Value → Shared → Prop} {h₀ h : Heap} {g : Array GenState} {d : Drawn} {t : Nat} {os : OsState} {na P : Addr} {es : Array DictEntry} {n : Nat} {env : Env}
theorem c_store {name : Str} {v : Value} {es' : Int → Array DictEntry} {n' : Nat} {Q : Unit → Shared → Prop} (hs : storeName env name v = localSet env name v) (hna : env.locals = na) (B : CB h₀ h na P es n) (hr : aRefKeyMayBeTheName name es = false)
    (hp : ∀ hh, Obj.putName name hh (.str name t) v (dObj es n) = dObj (es' hh) n')
    (hq : ∀ hh h', CB h₀ h' na P (es' hh) n' → Heap.SameBut na h h' → Q () ⟨h', g, d, t + 1, os⟩) : wpAny (model prog w) A (storeName env name v) Q E ⟨h, g, d, t, os⟩ := by
  rw [hs]
  unfold localSet
  rw [hna]
  refine wpAny_bind (wpAny_load B.ns ?_)
  refine wpAny_ite_true (by kernel_rfl) ?_
  unfold nsSet
  refine wpAny_bind (wp_strHash fun hh => ?_)
  refine wpAny_bind (wpAny_mkText ?_)
  refine wpAny_bind (wpAny_loadPart B.ns ?_)
  dsimp only
  rw [hr]
  refine wpAny_ite_false rfl (wpAny_updatePart B.ns ?_)
  have hs' := Heap.SameBut.update h na (Obj.putName name hh (.str name t) v)
  refine hq hh _ (B.set hs' ?_) hs'
  have := Heap.get?_update_self (h := h) (Obj.putName name hh (.str name t) v) B.ns (by rw [hp]; rfl)
  rw [this, hp]
theorem c_def {name qual : Str} {params : Arguments} {body : List Stmt} {scope : Scope} {pos : Pos} {clos : List (Str × Addr)} {c : Addr} {mg : Str → Option Value} {es' : Int → Addr → Nat → Array DictEntry} {n' : Nat} {Q : Flow → Shared → Prop}
    (hs : ∀ v, storeName env name v = localSet env name v) (hna : env.locals = na) (B : CB h₀ h na P es n) (hr : aRefKeyMayBeTheName name es = false)
    (hp : ∀ hh f t, Obj.putName name hh (.str name t) (.ref f) (dObj es n) = dObj (es' hh f t) n')
    (hd0 : params.defaults = []) (hk0 : params.kw_defaults = []) (ha : annTrees params none env = []) (hq0 : qualnameIn env name name = qual) (hcl : closureFor scope env = pure clos) (hge0 : env.globals = mainGlobals) (hcode : env.code = .ref c)
    (hg : h.Ns mainGlobals mg) (C : CodeHd h c P) (hgP : mainGlobals ≠ P) (hb : h.BuiltinsAt mg P) (hpq : (pos, qual) ∈ kdefs)
    (hq : ∀ hh f h1 h' tk, Heap.ExtBut P h h1 → CB h₀ h1 na P es n → CB h₀ h' na P (es' hh f tk) n' → Heap.SameBut na h1 h' → FnIs h' f name qual params body scope clos → h.get? f = none → Q .next ⟨h', g, d, tk + 1, os⟩) :
    wpAny (model prog w) A (exec (.FunctionDef name params body [] none [] scope none name pos) env) Q E ⟨h, g, d, t, os⟩ := by
  refine nestDef_K hd0 hk0 ha ?_
  rw [hq0]
  refine mkF (P := P) hcl hge0 hg hcode C B.tab hgP hb hpq fun f h1 tk hx hf T gr hn => ?_
  have B1 := B.ext hx T gr
  exact c_store (hs _) hna B1 hr (fun hh => hp hh f tk) fun hh h' B2 hs2 => hq hh f h1 h' tk hx B1 B2 hs2 (hf.same B1.ns hs2) hn
end
end Mine
end

section
open PySem PySem.W PySem.W.X PyProof.Rows PySem.Calls
set_option Elab.async false
set_option maxRecDepth 100000
set_option maxHeartbeats 1000000
set_option linter.unusedVariables false
namespace Mine
theorem CB.keeps {h₀ h h' : Heap} {na P : Addr} {es : Array DictEntry} {n : Nat} (c : CB h₀ h na P es n) (k : Keeps h h') : CB h₀ h' na P es n := by
  obtain ⟨ps, hP, ht, hg⟩ := c.tab
  refine ⟨fun b o hb e => k _ _ (c.keep b o hb e), k _ _ c.ns, ⟨ps, k _ _ hP, ht, fun q hq => ?_⟩, c.gw.trans (Grow.of_keep fun o e => k _ _ e)⟩
  rcases hg q hq with a | ⟨c, a, r⟩
  · exact .inl a
  · exact .inr ⟨c, a, codeRec_keep r fun o e => k _ _ e⟩
theorem ne_dict {h : Heap} {a na : Addr} {o : Obj} {es : Array DictEntry} {n : Nat} (e : h.get? a = some o) (hd : ∀ es n, o.data ≠ .dict es n) (hn : h.get? na = some (dObj es n)) : a ≠ na := by
  rintro rfl
  rw [hn] at e; cases e
  exact hd _ _ rfl
theorem ne_tab {h : Heap} {a P : Addr} {o : Obj} (e : h.get? a = some o) (hd : o.cls ≠ .none) (T : TabGood h P) : a ≠ P := by
  rintro rfl
  obtain ⟨ps, hP, _⟩ := T
  rw [hP] at e; cases e
  exact hd rfl
section
variable {w : World} {A : Around} {E : Value → Shared → Prop} {h₀ h : Heap} {g : Array GenState} {d : Drawn} {t : Nat} {os : OsState} {na P c : Addr} {env : Env} {mg : Str → Option Value}
/-- the body of the class -/
theorem class_body {params0 : Arguments} {body0 : List Stmt} {scope0 : Scope} {clos0 : List (Str × Addr)} {params1 : Arguments} {body1 : List Stmt} {scope1 : Scope} {clos1 : List (Str × Addr)} {params2 : Arguments} {body2 : List Stmt} {scope2 : Scope} {clos2 : List (Str × Addr)} {params3 : Arguments} {body3 : List Stmt} {scope3 : Scope} {clos3 : List (Str × Addr)} {params4 : Arguments} {body4 : List Stmt} {scope4 : Scope} {clos4 : List (Str × Addr)} {params5 : Arguments} {body5 : List Stmt} {scope5 : Scope} {clos5 : List (Str × Addr)} {p1 p2 p3 p4 p5 p6 p7 p8 p9 p10 : Pos} {n1 n2 n3 : Nat} {Q : Flow → Shared → Prop} {k0 k1 k2 : Int} {t0 t1 t2 tq tf : Tok} {v0 : Value}
    (hk : env.scope.kind = .class) (hna : env.locals = na) (hge0 : env.globals = mainGlobals) (hcode : env.code = .ref c)
    (k_module : env.kindOf "__module__" = some .local) (k_slots : env.kindOf "__slots__" = some .local) (k_init : env.kindOf "__init__" = some .local) (k_lt : env.kindOf "__lt__" = some .local) (k_gt : env.kindOf "__gt__" = some .local) (k_eq : env.kindOf "__eq__" = some .local) (k_le : env.kindOf "__le__" = some .local) (k_ge : env.kindOf "__ge__" = some .local) (k_hash : env.kindOf "__hash__" = some .local)
    (hd0 : params0.defaults = []) (hk0 : params0.kw_defaults = []) (ha0 : annTrees params0 none env = []) (hcl0 : closureFor scope0 env = pure clos0) (hq0 : qualnameIn env "__init__" "__init__" = "cmp_to_key.<locals>.K.__init__")
    (hd1 : params1.defaults = []) (hk1 : params1.kw_defaults = []) (ha1 : annTrees params1 none env = []) (hcl1 : closureFor scope1 env = pure clos1) (hq1 : qualnameIn env "__lt__" "__lt__" = "cmp_to_key.<locals>.K.__lt__")
    (hd2 : params2.defaults = []) (hk2 : params2.kw_defaults = []) (ha2 : annTrees params2 none env = []) (hcl2 : closureFor scope2 env = pure clos2) (hq2 : qualnameIn env "__gt__" "__gt__" = "cmp_to_key.<locals>.K.__gt__")
    (hd3 : params3.defaults = []) (hk3 : params3.kw_defaults = []) (ha3 : annTrees params3 none env = []) (hcl3 : closureFor scope3 env = pure clos3) (hq3 : qualnameIn env "__eq__" "__eq__" = "cmp_to_key.<locals>.K.__eq__")
    (hd4 : params4.defaults = []) (hk4 : params4.kw_defaults = []) (ha4 : annTrees params4 none env = []) (hcl4 : closureFor scope4 env = pure clos4) (hq4 : qualnameIn env "__le__" "__le__" = "cmp_to_key.<locals>.K.__le__")
    (hd5 : params5.defaults = []) (hk5 : params5.kw_defaults = []) (ha5 : annTrees params5 none env = []) (hcl5 : closureFor scope5 env = pure clos5) (hq5 : qualnameIn env "__ge__" "__ge__" = "cmp_to_key.<locals>.K.__ge__")
    (gr : ∀ h es n, CB h₀ h na P es n → h.Ns mainGlobals mg ∧ CodeHd h c P ∧ h.BuiltinsAt mg P) (hgP : mainGlobals ≠ P)
    (B : CB h₀ h na P #[ent k0 "__module__" t0 v0, ent k1 "__qualname__" t1 (.str "cmp_to_key.<locals>.K" tq), ent k2 "__firstlineno__" t2 (.int 60 tf)] 3)
    (hQ : ∀ k3 k4 k5 k6 k7 k8 k9 k10 t3 t4 t5 t6 t7 t8 t9 t10 tm to sl f0 f1 f2 f3 f4 f5 h' tk, CB h₀ h' na P #[ent k0 "__module__" t0 (.str "cpy313.functools" tm), ent k1 "__qualname__" t1 (.str "cmp_to_key.<locals>.K" tq), ent k2 "__firstlineno__" t2 (.int 60 tf), ent k3 "__slots__" t3 (.ref sl), ent k4 "__init__" t4 (.ref f0), ent k5 "__lt__" t5 (.ref f1), ent k6 "__gt__" t6 (.ref f2), ent k7 "__eq__" t7 (.ref f3), ent k8 "__le__" t8 (.ref f4), ent k9 "__ge__" t9 (.ref f5), ent k10 "__hash__" t10 .none] 11 → h'.get? sl = some { cls := .type "list", data := .seq #[.str "obj" to] } → FnIs h' f0 "__init__" "cmp_to_key.<locals>.K.__init__" params0 body0 scope0 clos0 → FnIs h' f1 "__lt__" "cmp_to_key.<locals>.K.__lt__" params1 body1 scope1 clos1 → FnIs h' f2 "__gt__" "cmp_to_key.<locals>.K.__gt__" params2 body2 scope2 clos2 → FnIs h' f3 "__eq__" "cmp_to_key.<locals>.K.__eq__" params3 body3 scope3 clos3 → FnIs h' f4 "__le__" "cmp_to_key.<locals>.K.__le__" params4 body4 scope4 clos4 → FnIs h' f5 "__ge__" "cmp_to_key.<locals>.K.__ge__" params5 body5 scope5 clos5 → Q .next ⟨h', g, d, tk, os⟩) :
    wpAny (model prog w) A (execs [.Assign [.Name "__module__" p1] (.Constant (.str "cpy313.functools") n1 p2) p3, .Assign [.Name "__slots__" p4] (.List [.Constant (.str "obj") n2 p5] p6) p7, .FunctionDef "__init__" params0 body0 [] none [] scope0 none "__init__" ⟨64, 8, 65, 26⟩, .FunctionDef "__lt__" params1 body1 [] none [] scope1 none "__lt__" ⟨67, 8, 68, 49⟩, .FunctionDef "__gt__" params2 body2 [] none [] scope2 none "__gt__" ⟨70, 8, 71, 49⟩, .FunctionDef "__eq__" params3 body3 [] none [] scope3 none "__eq__" ⟨73, 8, 74, 50⟩, .FunctionDef "__le__" params4 body4 [] none [] scope4 none "__le__" ⟨76, 8, 77, 50⟩, .FunctionDef "__ge__" params5 body5 [] none [] scope5 none "__ge__" ⟨79, 8, 80, 50⟩, .Assign [.Name "__hash__" p8] (.Constant .none n3 p9) p10] env) Q E ⟨h, g, d, t, os⟩ := by
  refine wpAny_execs_cons (wpAny_Assign_Name (wpAny_Constant_str (c_store (n' := 3) (es' := fun _ => #[ent k0 "__module__" t0 (.str "cpy313.functools" t), ent k1 "__qualname__" t1 (.str "cmp_to_key.<locals>.K" tq), ent k2 "__firstlineno__" t2 (.int 60 tf)]) (store_local hk k_module) hna B (by kernel_rfl) (fun hh => by kernel_rfl) fun _ h1 B1 s1 => ?_)))
  refine wpAny_execs_cons (wpAny_Assign_Name ?_)
  refine wpAny_List (args_cons (wpAny_Constant_str (args_nil ⟨by rw [sizeLine_eq]; exact Nat.le_of_ble_eq_true rfl, ?_⟩)))
  have kp1 : Keeps h1 (h1.push { cls := .type "list", data := .seq [Value.str (Str.ofString "obj") (t + 1 + 1)].toArray }) := fun b o e => Heap.get?_push_of_some _ e
  have B1p : CB h₀ (h1.push { cls := .type "list", data := .seq [Value.str (Str.ofString "obj") (t + 1 + 1)].toArray }) na P #[ent k0 "__module__" t0 (.str "cpy313.functools" t), ent k1 "__qualname__" t1 (.str "cmp_to_key.<locals>.K" tq), ent k2 "__firstlineno__" t2 (.int 60 tf)] 3 := B1.keeps kp1
  have l1 : (h1.push { cls := .type "list", data := .seq [Value.str (Str.ofString "obj") (t + 1 + 1)].toArray }).get? h1.objs.size = some { cls := .type "list", data := .seq #[.str "obj" (t + 1 + 1)] } := Heap.get?_push_size _ rfl
  refine c_store (n' := 4) (es' := fun hh => #[ent k0 "__module__" t0 (.str "cpy313.functools" t), ent k1 "__qualname__" t1 (.str "cmp_to_key.<locals>.K" tq), ent k2 "__firstlineno__" t2 (.int 60 tf), ent hh "__slots__" (t + 1 + 1 + 1) (.ref h1.objs.size)]) (store_local hk k_slots) hna B1p (by kernel_rfl) (fun hh => by kernel_rfl) fun k3 h2 B2 s2 => ?_
  have l2 := s2.extBut _ _ (ne_dict l1 (by intro es n e; cases e) B1p.ns) l1
  try dsimp only at B2
  obtain ⟨G1, G2, G3⟩ := gr _ _ _ B2
  refine wpAny_execs_cons (c_def (n' := 5) (es' := fun hh ff tt => #[ent k0 "__module__" t0 (.str "cpy313.functools" t), ent k1 "__qualname__" t1 (.str "cmp_to_key.<locals>.K" tq), ent k2 "__firstlineno__" t2 (.int 60 tf), ent k3 "__slots__" (t + 1 + 1 + 1) (.ref h1.objs.size), ent hh "__init__" tt (.ref ff)]) (fun _ => store_local hk k_init) hna B2 (by kernel_rfl) (fun hh f t => by kernel_rfl) hd0 hk0 ha0 hq0 hcl0 hge0 hcode G1 G2 hgP G3 (by decide) fun k4 f0 hx0 h3 t4 x0 Bx0 B3 s3 F0 n0 => ?_)
  try dsimp only at B3
  have l3 := s3.extBut _ _ (ne_dict (x0 _ _ (ne_tab l2 (by simp) B2.tab) l2) (by intro es n e; cases e) Bx0.ns) (x0 _ _ (ne_tab l2 (by simp) B2.tab) l2)
  obtain ⟨G1, G2, G3⟩ := gr _ _ _ B3
  refine wpAny_execs_cons (c_def (n' := 6) (es' := fun hh ff tt => #[ent k0 "__module__" t0 (.str "cpy313.functools" t), ent k1 "__qualname__" t1 (.str "cmp_to_key.<locals>.K" tq), ent k2 "__firstlineno__" t2 (.int 60 tf), ent k3 "__slots__" (t + 1 + 1 + 1) (.ref h1.objs.size), ent k4 "__init__" t4 (.ref f0), ent hh "__lt__" tt (.ref ff)]) (fun _ => store_local hk k_lt) hna B3 (by kernel_rfl) (fun hh f t => by kernel_rfl) hd1 hk1 ha1 hq1 hcl1 hge0 hcode G1 G2 hgP G3 (by decide) fun k5 f1 hx1 h4 t5 x1 Bx1 B4 s4 F1 n1 => ?_)
  try dsimp only at B4
  have l4 := s4.extBut _ _ (ne_dict (x1 _ _ (ne_tab l3 (by simp) B3.tab) l3) (by intro es n e; cases e) Bx1.ns) (x1 _ _ (ne_tab l3 (by simp) B3.tab) l3)
  have F0 := (F0.ext B3.tab x1).same Bx1.ns s4
  obtain ⟨G1, G2, G3⟩ := gr _ _ _ B4
  refine wpAny_execs_cons (c_def (n' := 7) (es' := fun hh ff tt => #[ent k0 "__module__" t0 (.str "cpy313.functools" t), ent k1 "__qualname__" t1 (.str "cmp_to_key.<locals>.K" tq), ent k2 "__firstlineno__" t2 (.int 60 tf), ent k3 "__slots__" (t + 1 + 1 + 1) (.ref h1.objs.size), ent k4 "__init__" t4 (.ref f0), ent k5 "__lt__" t5 (.ref f1), ent hh "__gt__" tt (.ref ff)]) (fun _ => store_local hk k_gt) hna B4 (by kernel_rfl) (fun hh f t => by kernel_rfl) hd2 hk2 ha2 hq2 hcl2 hge0 hcode G1 G2 hgP G3 (by decide) fun k6 f2 hx2 h5 t6 x2 Bx2 B5 s5 F2 n2 => ?_)
  try dsimp only at B5
  have l5 := s5.extBut _ _ (ne_dict (x2 _ _ (ne_tab l4 (by simp) B4.tab) l4) (by intro es n e; cases e) Bx2.ns) (x2 _ _ (ne_tab l4 (by simp) B4.tab) l4)
  have F0 := (F0.ext B4.tab x2).same Bx2.ns s5
  have F1 := (F1.ext B4.tab x2).same Bx2.ns s5
  obtain ⟨G1, G2, G3⟩ := gr _ _ _ B5
  refine wpAny_execs_cons (c_def (n' := 8) (es' := fun hh ff tt => #[ent k0 "__module__" t0 (.str "cpy313.functools" t), ent k1 "__qualname__" t1 (.str "cmp_to_key.<locals>.K" tq), ent k2 "__firstlineno__" t2 (.int 60 tf), ent k3 "__slots__" (t + 1 + 1 + 1) (.ref h1.objs.size), ent k4 "__init__" t4 (.ref f0), ent k5 "__lt__" t5 (.ref f1), ent k6 "__gt__" t6 (.ref f2), ent hh "__eq__" tt (.ref ff)]) (fun _ => store_local hk k_eq) hna B5 (by kernel_rfl) (fun hh f t => by kernel_rfl) hd3 hk3 ha3 hq3 hcl3 hge0 hcode G1 G2 hgP G3 (by decide) fun k7 f3 hx3 h6 t7 x3 Bx3 B6 s6 F3 n3 => ?_)
  try dsimp only at B6
  have l6 := s6.extBut _ _ (ne_dict (x3 _ _ (ne_tab l5 (by simp) B5.tab) l5) (by intro es n e; cases e) Bx3.ns) (x3 _ _ (ne_tab l5 (by simp) B5.tab) l5)
  have F0 := (F0.ext B5.tab x3).same Bx3.ns s6
  have F1 := (F1.ext B5.tab x3).same Bx3.ns s6
  have F2 := (F2.ext B5.tab x3).same Bx3.ns s6
  obtain ⟨G1, G2, G3⟩ := gr _ _ _ B6
  refine wpAny_execs_cons (c_def (n' := 9) (es' := fun hh ff tt => #[ent k0 "__module__" t0 (.str "cpy313.functools" t), ent k1 "__qualname__" t1 (.str "cmp_to_key.<locals>.K" tq), ent k2 "__firstlineno__" t2 (.int 60 tf), ent k3 "__slots__" (t + 1 + 1 + 1) (.ref h1.objs.size), ent k4 "__init__" t4 (.ref f0), ent k5 "__lt__" t5 (.ref f1), ent k6 "__gt__" t6 (.ref f2), ent k7 "__eq__" t7 (.ref f3), ent hh "__le__" tt (.ref ff)]) (fun _ => store_local hk k_le) hna B6 (by kernel_rfl) (fun hh f t => by kernel_rfl) hd4 hk4 ha4 hq4 hcl4 hge0 hcode G1 G2 hgP G3 (by decide) fun k8 f4 hx4 h7 t8 x4 Bx4 B7 s7 F4 n4 => ?_)
  try dsimp only at B7
  have l7 := s7.extBut _ _ (ne_dict (x4 _ _ (ne_tab l6 (by simp) B6.tab) l6) (by intro es n e; cases e) Bx4.ns) (x4 _ _ (ne_tab l6 (by simp) B6.tab) l6)
  have F0 := (F0.ext B6.tab x4).same Bx4.ns s7
  have F1 := (F1.ext B6.tab x4).same Bx4.ns s7
  have F2 := (F2.ext B6.tab x4).same Bx4.ns s7
  have F3 := (F3.ext B6.tab x4).same Bx4.ns s7
  obtain ⟨G1, G2, G3⟩ := gr _ _ _ B7
  refine wpAny_execs_cons (c_def (n' := 10) (es' := fun hh ff tt => #[ent k0 "__module__" t0 (.str "cpy313.functools" t), ent k1 "__qualname__" t1 (.str "cmp_to_key.<locals>.K" tq), ent k2 "__firstlineno__" t2 (.int 60 tf), ent k3 "__slots__" (t + 1 + 1 + 1) (.ref h1.objs.size), ent k4 "__init__" t4 (.ref f0), ent k5 "__lt__" t5 (.ref f1), ent k6 "__gt__" t6 (.ref f2), ent k7 "__eq__" t7 (.ref f3), ent k8 "__le__" t8 (.ref f4), ent hh "__ge__" tt (.ref ff)]) (fun _ => store_local hk k_ge) hna B7 (by kernel_rfl) (fun hh f t => by kernel_rfl) hd5 hk5 ha5 hq5 hcl5 hge0 hcode G1 G2 hgP G3 (by decide) fun k9 f5 hx5 h8 t9 x5 Bx5 B8 s8 F5 n5 => ?_)
  try dsimp only at B8
  have l8 := s8.extBut _ _ (ne_dict (x5 _ _ (ne_tab l7 (by simp) B7.tab) l7) (by intro es n e; cases e) Bx5.ns) (x5 _ _ (ne_tab l7 (by simp) B7.tab) l7)
  have F0 := (F0.ext B7.tab x5).same Bx5.ns s8
  have F1 := (F1.ext B7.tab x5).same Bx5.ns s8
  have F2 := (F2.ext B7.tab x5).same Bx5.ns s8
  have F3 := (F3.ext B7.tab x5).same Bx5.ns s8
  have F4 := (F4.ext B7.tab x5).same Bx5.ns s8
  refine wpAny_execs_cons (wpAny_Assign_Name (wpAny_Constant_none (c_store (n' := 11) (es' := fun hh => #[ent k0 "__module__" t0 (.str "cpy313.functools" t), ent k1 "__qualname__" t1 (.str "cmp_to_key.<locals>.K" tq), ent k2 "__firstlineno__" t2 (.int 60 tf), ent k3 "__slots__" (t + 1 + 1 + 1) (.ref h1.objs.size), ent k4 "__init__" t4 (.ref f0), ent k5 "__lt__" t5 (.ref f1), ent k6 "__gt__" t6 (.ref f2), ent k7 "__eq__" t7 (.ref f3), ent k8 "__le__" t8 (.ref f4), ent k9 "__ge__" t9 (.ref f5), ent hh "__hash__" (t9 + 1) .none]) (store_local hk k_hash) hna B8 (by kernel_rfl) (fun hh => by kernel_rfl) fun k10 h9 B9 s9 => ?_)))
  try dsimp only at B9
  refine wpAny_execs_nil (hQ _ _ _ _ _ _ _ _ _ _ _ _ _ _ _ _ _ _ _ _ _ _ _ _ _ _ _ B9 (s9.extBut _ _ (ne_dict l8 (by intro es n e; cases e) B8.ns) l8) (F0.same B8.ns s9) (F1.same B8.ns s9) (F2.same B8.ns s9) (F3.same B8.ns s9) (F4.same B8.ns s9) (F5.same B8.ns s9))
end
end Mine
end

section
open PySem PySem.W PySem.W.X PyProof.Rows PySem.Calls
set_option Elab.async false
set_option maxRecDepth 100000
set_option maxHeartbeats 1000000
set_option linter.unusedVariables false
namespace Mine
/-- all but code tables stays -/
structure KT (n : Nat) (P0 : Addr) (h h' : Heap) : Prop where
  k : ∀ b o, h.get? b = some o → (∀ ps, o ≠ tabObj ps) → h'.get? b = some o
  al : ∀ b o, h.get? b = some o → ∃ o', h'.get? b = some o'
  low : ∀ (b : Nat) o, b < n → b ≠ P0 → h.get? b = some o → h'.get? b = some o
  gr : Grow P0 h h'
theorem not_tab {o : Obj} {T : Value} (h : o.cls = T) (hn : T ≠ .none) : ∀ ps, o ≠ tabObj ps := fun ps z => by rw [z] at h; exact hn h.symm
theorem not_tabD {o : Obj} {es : Array DictEntry} {n : Nat} (h : o.data = .dict es n) : ∀ ps, o ≠ tabObj ps := fun ps z => by rw [z] at h; cases h
theorem KT.refl {n : Nat} {P0 : Addr} (h : Heap) : KT n P0 h h := ⟨fun _ _ e _ => e, fun _ o e => ⟨o, e⟩, fun _ _ _ _ e => e, Grow.of_keep fun _ e => e⟩
theorem KT.trans {n : Nat} {P0 : Addr} {h h' h'' : Heap} (a : KT n P0 h h') (b : KT n P0 h' h'') : KT n P0 h h'' := ⟨fun x o e c => b.k x o (a.k x o e c) c, fun x o e => let ⟨o', e'⟩ := a.al x o e; b.al x o' e', fun x o l p e => b.low x o l p (a.low x o l p e), a.gr.trans b.gr⟩
theorem Keeps.kt {n : Nat} {P0 : Addr} {h h' : Heap} (a : Keeps h h') : KT n P0 h h' := ⟨fun x o e _ => a x o e, fun x o e => ⟨o, a x o e⟩, fun x o _ _ e => a x o e, Grow.of_keep fun o e => a _ o e⟩
noncomputable def kpos : Pos := ⟨60, 4, 81, 23⟩
/-- the table of cmp_to_key's code: K's code is not in it, or is a good one -/
noncomputable def Tab0 (n : Nat) (h : Heap) (P0 : Addr) : Prop := ∃ ps, h.get? P0 = some (tabObj ps) ∧ TriplesOk ps.toList ∧ (codeAmong kpos ps.toList = none ∨ ∃ c P, codeAmong kpos ps.toList = some (.ref c) ∧ CodeHd h c P ∧ TabGood h P ∧ P ≠ P0 ∧ @LE.le Nat _ n P)
theorem codeHd_cls {h : Heap} {c P : Addr} (C : CodeHd h c P) : ∃ o, h.get? c = some o ∧ o.cls = .type "code" := by
  obtain ⟨o, vs, file, tf, flags, tg, inF, text, tt, e, hc, r⟩ := C
  exact ⟨o, e, hc⟩
theorem codeHd_kt {n : Nat} {P0 : Addr} {h h' : Heap} {c P : Addr} (C : CodeHd h c P) (k : KT n P0 h h') : CodeHd h' c P := by
  obtain ⟨o, vs, file, tf, flags, tg, inF, text, tt, e, hc, r⟩ := C
  exact ⟨o, vs, file, tf, flags, tg, inF, text, tt, k.k _ _ e (fun ps z => by rw [z] at hc; cases hc), hc, r⟩
theorem TabGood.keeps {h h' : Heap} {P : Addr} (T : TabGood h P) (k : Keeps h h') : TabGood h' P := by
  obtain ⟨ps, hP, ht, hg⟩ := T
  refine ⟨ps, k _ _ hP, ht, fun q hq => ?_⟩
  rcases hg q hq with a | ⟨c, a, r⟩
  · exact .inl a
  · exact .inr ⟨c, a, codeRec_keep r fun o e => k _ _ e⟩
theorem Tab0.keeps {n : Nat} {h h' : Heap} {P0 : Addr} (T : Tab0 n h P0) (k : Keeps h h') : Tab0 n h' P0 := by
  obtain ⟨ps, hP, ht, hg⟩ := T
  refine ⟨ps, k _ _ hP, ht, ?_⟩
  rcases hg with a | ⟨c, P, a, C, T, n⟩
  · exact .inl a
  · exact .inr ⟨c, P, a, codeHd_kt (n := 0) (P0 := 0) C k.kt, T.keeps k, n⟩
section
variable {w : World} {A : Around} {E : Value → Shared → Prop} {s : Shared} {env : Env}
theorem class_code {n : Nat} {c0 P0 : Addr} {fl : Nat} {name qual : Str} {scope : Scope} {Q : Value → Shared → Prop} (hc : env.code = .ref c0) (C0 : CodeHd s.heap c0 P0) (T0 : Tab0 n s.heap P0) (hn : @LE.le Nat _ n s.heap.objs.size)
    (hq : ∀ c P h' tk, KT n P0 s.heap h' → s.heap.objs.size ≤ h'.objs.size → CodeHd h' c P → TabGood h' P → (P ≠ P0 ∧ @LE.le Nat _ n P) → (∃ ps, h'.get? P0 = some (tabObj ps) ∧ TriplesOk ps.toList ∧ codeAmong kpos ps.toList = some (.ref c)) → Q (.ref c) { s with heap := h', toks := tk }) :
    wpAny (model prog w) A (classCode env kpos fl name qual scope) Q E s := by
  obtain ⟨ps, hP, ht, hg⟩ := T0
  rcases hg with hnf | ⟨c, P, hf, C, T, hne⟩
  · have hok := C0.code hP ht
    obtain ⟨o, vs, file, tf, flags, tg, inF, text, tt, op, ho, hd, h11, h2, h7, h9, h10, hop, hpd, htr, hne⟩ := id hok
    unfold classCode codeAt
    rw [hc, if_neg (show ¬ ((Value.ref c0 == Value.none) = true) from Bool.false_ne_true)]
    refine wpAny_bind (wpAny_fieldsOf ho hd ?_)
    rw [h11]
    refine wpAny_bind (wpAny_fieldsOf hop hpd ?_)
    rw [hnf, h2, h7, h9, h10]
    refine wpAny_bind (wpAny_newCodeX fun c' P' h' tk hk hc' hP' hcode' htab' hrec' => ?_)
    have hP2 := hk _ _ hP
    refine wpAny_bind (wpAny_updateFieldsOfTheText hP2 rfl ?_)
    have hs := Heap.SameBut.update h' P0 (Obj.mapFields fun vs => if (codeAmong kpos vs.toList).isSome = true then vs else vs ++ #[rawInt kpos.line, rawInt kpos.col, .ref c'])
    have hnew : Obj.mapFields (fun vs => if (codeAmong kpos vs.toList).isSome = true then vs else vs ++ #[rawInt kpos.line, rawInt kpos.col, .ref c']) (tabObj ps) = tabObj (ps ++ #[rawInt kpos.line, rawInt kpos.col, .ref c']) := by
      simp only [Obj.mapFields, hnf]
      rfl
    have hget := Heap.get?_update_self (h := h') (Obj.mapFields fun vs => if (codeAmong kpos vs.toList).isSome = true then vs else vs ++ #[rawInt kpos.line, rawInt kpos.col, .ref c']) hP2 (by rw [hnew]; rfl)
    rw [hnew] at hget
    refine wpAny_bind (wpAny_fieldsOf hget rfl ?_)
    have hl : (ps ++ #[rawInt kpos.line, rawInt kpos.col, Value.ref c']).toList = ps.toList ++ [rawInt kpos.line, rawInt kpos.col, .ref c'] := by simp
    rw [hl, codeAmong_snoc _ ht hnf]
    have ltP := Heap.lt_size hP
    have k1 : KT n P0 h' (h'.update P0 (Obj.mapFields fun vs => if (codeAmong kpos vs.toList).isSome = true then vs else vs ++ #[rawInt kpos.line, rawInt kpos.col, .ref c'])) := ⟨fun b o e hb => hs.extBut _ _ (fun z => by rw [z, hP2] at e; cases e; exact hb _ rfl) e, fun b o e => by
      by_cases z : b = P0
      · rw [z]; exact ⟨_, hget⟩
      · exact ⟨o, hs.extBut _ _ z e⟩, fun b o _ p e => hs.extBut _ _ p e, fun ps' e => ⟨_, by rw [hP2] at e; cases e; exact hget⟩⟩
    have hPn : P' ≠ P0 := Nat.ne_of_gt (Nat.lt_of_lt_of_le ltP hP')
    refine wpAny_pure (hq c' P' _ _ ((Keeps.kt hk).trans k1) ?_ (codeHd_kt (CodeHd.of hcode' htab') k1) ⟨#[], hs.extBut _ _ hPn htab'.2, trivial, fun q _ => .inl rfl⟩ ⟨hPn, Nat.le_trans hn hP'⟩ ⟨_, hget, by rw [hl]; exact TriplesOk_snoc _ _ _ _ ht, by rw [hl]; exact codeAmong_snoc _ ht hnf⟩)
    rw [Heap.size_after_update]
    exact Nat.le_trans hc' (Nat.le_of_lt hcode'.lt.1)
  · exact wpAny_codeAt_hit hc (C0.code hP ht) hf (hq c P s.heap s.toks (KT.refl _) (Nat.le_refl _) C T hne ⟨ps, hP, ht, hf⟩)
end
end Mine
end

section
open PySem PySem.W PySem.W.X PyProof.Rows PySem.Calls
set_option Elab.async false
set_option maxRecDepth 100000
set_option maxHeartbeats 1000000
set_option linter.unusedVariables false
namespace Mine
local macro_rules | `(tactic| x_close) => `(tactic| k_extra "cl")
section
variable {w : World} {s : Shared}
noncomputable abbrev prepMeth : Obj := { cls := .type "builtin_function_or_method", data := .fields #[.builtin "type.__prepare__", .type "type"] }
theorem c_prep1 {t : Tok} : wpAny (model prog w) (AL 0) (call (.builtin "type.__getattribute__") [.type "type", .str (Str.ofString "__prepare__") t]) (Left1 s fun _ o => o = prepMeth) NoE s := by
  k_with_none
  k_with "cl" => (first | exact left1 (by assumption) rfl)
  x_run
theorem c_prep2 {q tb : Addr} {t : Tok} (hq : s.heap.get? q = some { cls := .type "builtin_function_or_method", data := .fields #[.builtin "type.__prepare__", .type "type"] }) (ht : s.heap.get? tb = some { cls := .type "tuple", data := .seq #[.type "object"] }) :
    wpAny (model prog w) (AL 0) (call (.ref q) [.str (Str.ofString "K") t, .ref tb]) (Left1 s fun _ o => o = dObj #[] 0) NoE s := by
  k_with_none
  k_with "cl" => (first | exact left1 (by assumption) rfl)
  x_run
end
theorem ty_type : typeOf (.type "type") = pure (.type "type") := by kernel_rfl
theorem ga_type : typeLookup (.type "type") (Str.ofString "__getattribute__") = pure (some (.builtin "type.__getattribute__")) := by kernel_rfl
theorem bind_ga (o : Value) : bindSpecial (.builtin "type.__getattribute__") o = pure (.builtin "type.__getattribute__", [o]) := by kernel_rfl
section
variable {w : World} {A : Around} {E : Value → Shared → Prop} {s : Shared}
theorem getAttr_prep {Q : Option Value → Shared → Prop} (a1 : A.handled = none) (a2 : A.depth ≤ 600) (a3 : A.units ≤ 2000)
    (hq : ∀ q h' tk', Mem s.heap h' [] [(q, prepMeth)] → Q (some (.ref q)) { s with heap := h', toks := tk' }) :
    wpAny (model prog w) A (getAttr? (.type "type") (Str.ofString "__prepare__")) Q E s := by
  unfold getAttr? getAttrBy? getAttrBy
  refine wpAny_bind (wpAny_mkText (wpAny_bind (wpAny_attempt (wpAny_holding (wpAny_bind (wpAny_of_eq ty_type (wpAny_bind (wpAny_of_eq ga_type ?_))))))))
  show wpAny _ _ (getAttrByItsOwn (.type "type") (.str (Str.ofString "__prepare__") s.toks) (.type "type") (.builtin "type.__getattribute__") false false) _ _ _
  unfold getAttrByItsOwn hookBefore callGetattribute boundAndCalled
  refine wpAny_bind (wpAny_of_eq (show (if onTheHeap (.type "type") then typeLookup (.type "type") "__getattr__" else pure none) = pure none from rfl) ?_)
  refine wpAny_bind (wpAny_attempt (wpAny_holding ?_))
  refine wpAny_bind (wpAny_of_eq (bind_ga _) ?_)
  refine wpAny_mono (fit (k := 0) c_prep1 a1 a2 a3) (fun v s' hv => ?_) fun _ _ e => e.elim
  obtain ⟨q, h', tk', o, rfl, rfl, D, rfl⟩ := hv
  exact wpAny_pure (wpAny_pure (hq q h' tk' D))
end
end Mine
end

section
open PySem PySem.W PySem.W.X PyProof.Rows PySem.Calls
set_option Elab.async false
set_option maxRecDepth 100000
set_option maxHeartbeats 1000000
set_option linter.unusedVariables false
namespace Mine
theorem gi_dict : typeLookup (.type "dict") (Str.ofString "__getitem__") = pure (some (.builtin "dict.__getitem__")) := by kernel_rfl
noncomputable abbrev cenvOf (ks : Scope) (na c fr : Addr) (cl : List (Str × Addr)) : Env :=
  { scope := ks, locals := na, globals := mainGlobals, cells := cl, qual := Str.ofString "cmp_to_key.<locals>.K" ++ Str.ofString ".", code := .ref c, frame := some fr, builtins := builtinsNs }
/-- what the module's ground must say -/
structure Gb (h : Heap) (mg : Str → Option Value) (vn : Value) : Prop where
  g : h.Ns mainGlobals mg
  name : mg (Str.ofString "__name__") = some vn
  bt : ∃ bm o, mg "__builtins__" = some (.ref bm) ∧ bm ≠ builtinsNs ∧ bm ≠ mainGlobals ∧ h.get? bm = some o ∧ o.cls = .type "module" ∧ o.dict = some builtinsNs ∧ o.data = .plain
  lim : h.NoLimit
  alive : ∀ a, a < 207 → ∃ o, h.get? a = some o
theorem ns_cls {h : Heap} {a : Addr} {m : Str → Option Value} (n : h.Ns a m) {o : Obj} (e : h.get? a = some o) : ∃ es n, o.data = .dict es n := by
  obtain ⟨o', es, ep, e', hd, _⟩ := n
  rw [e'] at e; cases e
  exact ⟨es, ep, hd⟩
section
variable {w : World} {A : Around} {E : Value → Shared → Prop} {s : Shared} {env : Env}
theorem load_name {na : Addr} {mg : Str → Option Value} {vn : Value} {Q : Value → Shared → Prop} (hk : env.scope.kind = .class) (hl : env.kindOf (Str.ofString "__name__") = none) (hna : env.locals = na) (hn : s.heap.get? na = some (dObj #[] 0)) (hg : s.heap.Ns env.globals mg) (hv : mg (Str.ofString "__name__") = some vn) (hq : Q vn s) :
    wpAny (model prog w) A (loadName env (Str.ofString "__name__")) Q E s := by
  unfold loadName Env.blockKind
  rw [hk, hl]
  refine wpAny_ite_false (by kernel_rfl) ?_
  refine wpAny_ite_false (by kernel_rfl) ?_
  unfold localGet
  rw [hna]
  refine wpAny_bind (wpAny_bind (wpAny_load hn (wpAny_ite_true (by kernel_rfl) ?_)))
  unfold nsGet
  refine wpAny_bind (wpAny_bind (wpAny_loadPart hn ?_))
  refine wpAny_pure ?_
  refine wpAny_of_eq (a := none) (by kernel_rfl) ?_
  unfold loadGlobal
  refine wpAny_bind (wpAny_nsGet hg ?_)
  rw [hv]
  exact wpAny_pure hq
theorem build_class {c0 P0 : Addr} {body : List Stmt} {ks : Scope} {cl : List (Str × Addr)} {mg : Str → Option Value} {vn : Value} {Q : Value → Shared → Prop} (a1 : A.handled = none) (a2 : A.depth ≤ 580) (a3 : A.units ≤ 1900)
    (G : Gb s.heap mg vn)
    (hc : env.code = .ref c0) (hge : env.globals = mainGlobals) (C0 : CodeHd s.heap c0 P0) {nn : Nat} (hnn : ∃ b o, @LE.le Nat _ nn b ∧ s.heap.get? b = some o) (T0 : Tab0 nn s.heap P0) (hks : ks.kind = .class) (hcl : closureFor ks env = pure cl)
    (hk1 : ks.names.lookup (Str.ofString "__class__") = none) (hk2 : ks.names.lookup (Str.ofString "__classdict__") = none)
    (hk3 : ks.names.lookup (Str.ofString "__name__") = none) (hk4 : ks.names.lookup (Str.ofString "__module__") = some .local) (hk5 : ks.names.lookup (Str.ofString "__qualname__") = none) (hk6 : ks.names.lookup (Str.ofString "__firstlineno__") = none) (hk7 : ks.names.lookup (Str.ofString "__static_attributes__") = none)
    (hann : hasAnns body = false) (hdoc : docOf body = none) (hgp : mainGlobals ≠ P0) (hno : Looks (model prog w) s.heap anyOpaqueLoaded false) (hnoT : ∀ h', KT nn P0 s.heap h' → Looks (model prog w) h' anyOpaqueLoaded false)
    (F6 : Heap → (Nat → Addr) → Prop) (F6k : ∀ h h' f, F6 h f → Keeps h h' → F6 h' f) (F6s : ∀ h h' f na es n, F6 h f → h.get? na = some (dObj es n) → Heap.SameBut na h h' → F6 h' f) (F6f : ∀ h f, F6 h f → ∀ i, ∃ o, h.get? (f i) = some o ∧ o.cls = .type "function")
    (HB : ∀ (A' : Around) (E' : Value → Shared → Prop) (h₀ h : Heap) (na P c fr : Addr) (t : Nat) (k0 k1 k2 : Int) (t0 t1 t2 tq tf : Tok) (Q' : Flow → Shared → Prop),
      (∀ h es n, CB h₀ h na P es n → h.Ns mainGlobals mg ∧ CodeHd h c P ∧ h.BuiltinsAt mg P) → mainGlobals ≠ P →
      CB h₀ h na P #[ent k0 "__module__" t0 vn, ent k1 "__qualname__" t1 (.str "cmp_to_key.<locals>.K" tq), ent k2 "__firstlineno__" t2 (.int 60 tf)] 3 →
      (∀ (b : Bod) h' tk to, b.tq = tq → CB h₀ h' na P (b.es.extract 0 11) 11 → h'.get? b.sl = some { cls := .type "list", data := .seq #[.str "obj" to] } → F6 h' b.f → Q' .next ⟨h', s.gens, s.drawn, tk, s.os⟩) →
      wpAny (model prog w) A' (execs body (cenvOf ks na c fr cl)) Q' E' ⟨h, s.gens, s.drawn, t, s.os⟩)
    (hQ : ∀ a ns md tb (b : Bod) h' tk t k1 k2 t0 t1 t2, KT nn P0 s.heap h' → KAt h' a ns md tb b t k1 t0 t1 k2 t2 → F6 h' b.f → Tab0 nn h' P0 → Q (.ref a) { s with heap := h', toks := tk }) :
    wpAny (model prog w) A (buildClass (Str.ofString "K") (Str.ofString "cmp_to_key.<locals>.K") [.type "object"] [] body ks [Str.ofString "obj"] 60 env kpos none) Q E s := by
  unfold buildClass
  have D0 := Mem.start s.heap
  refine wpAny_bind (mNew (h := s.heap) (data := .seq #[.type "object"]) D0 (fun tb h1 D1 => ?_) (by show 1 ≤ _; rw [sizeLine_eq]; decide))
  refine wpAny_bind (wp_pk ([.type "object"], false) (by kernel_rfl) ?_)
  refine wpAny_bind (wp_pk (.type "type") (by kernel_rfl) ?_)
  refine wpAny_bind (wpAny_pure ?_)
  refine wpAny_ite_true rfl ?_
  refine wpAny_bind (wp_pk (.type "type") (by kernel_rfl) ?_)
  refine wpAny_bind (wpAny_mkText ?_)
  refine wpAny_ite_false rfl ?_
  refine wpAny_bind (wpAny_pure (wpAny_holding ?_))
  refine wpAny_bind (getAttr_prep a1 (Nat.le_trans a2 (by decide)) (Nat.le_trans a3 (by decide)) fun q h2 t2 D2 => ?_)
  have tb1 : h1.get? tb = some { cls := .type "tuple", data := .seq #[.type "object"] } := D1.at 0 _ _ rfl
  have tb2 := keeps_of_mem D2 _ _ tb1
  refine wpAny_bind (wpAny_mono (fit (k := 0) (c_prep2 (s := { s with heap := h2, toks := t2 }) (D2.at 0 _ _ rfl) tb2) a1 (Nat.le_trans a2 (by decide)) (Nat.le_trans a3 (by decide))) (fun v s' hv => ?_) fun _ _ e => e.elim)
  obtain ⟨na, h3, t3, o, rfl, rfl, D3, rfl⟩ := hv
  have k1 := keeps_of_mem D1
  have k2 := keeps_of_mem D2
  have k3 := keeps_of_mem D3
  have k12 : Keeps s.heap h2 := fun b o e => k2 b o (k1 b o e)
  have k13 : Keeps s.heap h3 := fun b o e => k3 b o (k12 b o e)
  have naf : ∀ b o, s.heap.get? b = some o → na ≠ b := fun b o e z => by
    have := (D3.nw (na, dObj #[] 0) (.head _)).2
    rw [show h2.get? na = some o from z ▸ k12 b o e] at this
    cases this
  have hna : na ≠ sysModules := by
    obtain ⟨o, e⟩ := G.alive 1 (by decide)
    exact naf 1 o e
  refine wpAny_bind (wpAny_ite_false (by simp [hna]) (wpAny_pure ?_))
  refine wpAny_bind (wpAny_bind (wpAny_bind (wpAny_loadPart (D3.at 0 _ _ rfl) (wpAny_pure ?_))))
  refine wpAny_of_eq gi_dict ?_
  refine wpAny_ite_false rfl (wpAny_holding ?_)
  refine wpAny_ite_false (by rw [hk1]; rfl) (wpAny_bind (wpAny_pure ?_))
  refine wpAny_ite_false (by rw [hk2]; rfl) (wpAny_bind (wpAny_pure ?_))
  have hsz3 : @LE.le Nat _ nn h3.objs.size := by
    obtain ⟨b, o, hb, e⟩ := hnn
    exact Nat.le_trans hb (Nat.le_of_lt (Heap.lt_size (k13 _ _ e)))
  refine wpAny_bind (class_code hc (codeHd_kt (n := 0) (P0 := 0) C0 k13.kt) (T0.keeps k13) hsz3 fun c P h4 t4 k4 z4 C T hPP hT0 => ?_)
  have k14 : KT nn P0 s.heap h4 := k13.kt.trans k4
  have G4 : h4.Ns mainGlobals mg := ns_keep G.g fun o e => by
    obtain ⟨es, n, hd⟩ := ns_cls G.g e
    exact k14.k _ _ e (not_tabD hd)
  obtain ⟨bm, ob, b1, b2, b3, b4, b5, b6, b7⟩ := G.bt
  rw [hge]
  refine wpAny_bind (wpAny_builtinsFor G4 b1 b2 (k14.k _ _ b4 (not_tab b5 (by simp))) b5 b6 b7 ?_)
  unfold newBodyFrame
  refine wpAny_bind (wpAny_bind (wpAny_nsGet G4 (wpAny_alloc ?_)))
  generalize hfo : ({ cls := Value.type "frame", slots := #[some (Value.ref c), some (Value.ref mainGlobals), some (Value.ref na), none, some ((mg (Str.ofString "__name__")).getD Value.none), none, some (Value.ref builtinsNs)] } : Obj) = fo
  have k45 : Keeps h4 (h4.push fo) := fun b o e => Heap.get?_push_of_some _ e
  generalize hfr : h4.objs.size = fr
  generalize h4.push fo = h5 at k45
  rw [hcl]
  refine wpAny_bind (wpAny_pure (wpAny_holding ?_))
  have k15 : KT nn P0 s.heap h5 := k14.trans k45.kt
  have na4 : h4.get? na = some (dObj #[] 0) := k4.k _ _ (D3.at 0 _ _ rfl) (not_tab rfl (by simp))
  have na5 := k45 _ _ na4
  have G5 : h5.Ns mainGlobals mg := ns_keep G4 fun o e => k45 _ _ e
  have L5 : h5.NoLimit := by
    obtain ⟨mc, n, e⟩ := G.lim
    refine ⟨mc, ns_keep n fun o e => ?_, e⟩
    obtain ⟨es, n, hd⟩ := ns_cls n e
    exact k15.k _ _ e (not_tabD hd)
  refine wpAny_bind (wpAny_enterFrame L5 (Nat.lt_of_le_of_lt a2 (by decide)) ?_)
  refine wpAny_bind (wpAny_onRaise ?_)
  refine wpAny_bind (load_name (s := { s with heap := h5, toks := t4 }) hks hk3 rfl na5 G5 G.name ?_)
  have B0 : CB h5 h5 na P #[] 0 := ⟨KeepsBut.refl _, na5, T.keeps k45, Grow.of_keep fun _ e => e⟩
  refine wpAny_bind (c_store (n' := 1) (es' := fun hh => #[ent hh "__module__" t4 vn]) (store_local hks hk4) rfl B0 (by kernel_rfl) (fun hh => by kernel_rfl) fun k0 h6 B1 s6 => ?_)
  refine wpAny_bind (wpAny_mkText ?_)
  refine wpAny_bind (c_store (n' := 2) (es' := fun hh => #[ent k0 "__module__" t4 vn, ent hh "__qualname__" (t4 + 1 + 1) (.str "cmp_to_key.<locals>.K" (t4 + 1))]) (store_own hks hk5 (by kernel_rfl)) rfl B1 (by kernel_rfl) (fun hh => by kernel_rfl) fun k1 h7 B2 s7 => ?_)
  refine wpAny_bind (wpAny_mkInt ?_)
  refine wpAny_bind (c_store (n' := 3) (es' := fun hh => #[ent k0 "__module__" t4 vn, ent k1 "__qualname__" (t4 + 1 + 1) (.str "cmp_to_key.<locals>.K" (t4 + 1)), ent hh "__firstlineno__" (t4 + 1 + 1 + 1 + 1) (.int 60 (t4 + 1 + 1 + 1))]) (store_own hks hk6 (by kernel_rfl)) rfl B2 (by kernel_rfl) (fun hh => by kernel_rfl) fun k2 h8 B3 s8 => ?_)
  refine wpAny_pure ?_
  have T5 := T.keeps k45
  have nP : ∀ b o, s.heap.get? b = some o → (∀ ps, o ≠ tabObj ps) → b ≠ P := fun b o e hb z => by
    obtain ⟨ps, hP, _⟩ := T5
    have := k15.k _ _ e hb
    rw [z, hP] at this; cases this
    exact hb _ rfl
  have hgP : mainGlobals ≠ P := by
    obtain ⟨o, es, ep, e, hd, _⟩ := G.g
    exact nP _ _ e (not_tabD hd)
  have hgn : mainGlobals ≠ na := by
    obtain ⟨o, es, ep, e, hd, _⟩ := G.g
    exact (naf _ _ e).symm
  have C5 := codeHd_kt (n := 0) (P0 := 0) C k45.kt
  have gr : ∀ h es n, CB h5 h na P es n → h.Ns mainGlobals mg ∧ CodeHd h c P ∧ h.BuiltinsAt mg P := fun h es n B => by
    refine ⟨ns_keep G5 fun o e => B.keep _ _ (by simp [hgP, hgn]) e, ?_, bm, ob, b1, b2, b3, nP _ _ b4 (not_tab b5 (by simp)), B.keep _ _ (by simp [nP _ _ b4 (not_tab b5 (by simp)), (naf _ _ b4).symm]) (k15.k _ _ b4 (not_tab b5 (by simp))), b5, b6, b7⟩
    obtain ⟨o, vs, file, tf, flags, tg, inF, text, tt, e, hcc, hdd, r1, r2, r3, r4, r5, r6, hcP⟩ := C5
    have hcn : c ≠ na := fun z => by rw [z, na5] at e; cases e; simp at hcc
    exact ⟨o, vs, file, tf, flags, tg, inF, text, tt, B.keep _ _ (by simp [hcP, hcn]) e, hcc, hdd, r1, r2, r3, r4, r5, r6, hcP⟩
  refine wpAny_bind (wpAny_run (codeAny_body hann hdoc (HB _ _ h5 h8 na P c fr _ _ _ _ _ _ _ _ _ _ gr hgP B3 fun b h9 t9 to hbq B9 hsl hF => ?_)))
  refine wpAny_bind (wpAny_onRaise ?_)
  refine wpAny_bind (wpAny_mkStrs (l := [Str.ofString "obj"]) fun ls => ?_)
  refine wpAny_bind (wpAny_newTextTuple ?_)
  have k9 : Keeps h9 (h9.push { cls := .type "tuple", data := .seq ls.toArray }) := fun b o e => Heap.get?_push_of_some _ e
  have st9 : (h9.push { cls := .type "tuple", data := .seq ls.toArray }).get? h9.objs.size = some { cls := .type "tuple", data := .seq ls.toArray } := Heap.get?_push_size _ rfl
  generalize hst : h9.objs.size = st at st9
  generalize h9.push { cls := .type "tuple", data := .seq ls.toArray } = h10 at k9 st9
  have B10 := B9.keeps k9
  refine wpAny_bind (c_store (n' := 12) (es' := fun hh => (Bod.mk (fun i => if i = 11 then hh else b.hs i) (fun i => if i = 11 then t9 + 1 else b.ts i) b.v1 b.tq b.tf b.sl b.f st).es) (store_own hks hk7 (by kernel_rfl)) rfl B10 (by kernel_rfl) (fun hh => by kernel_rfl) fun k11 h11 B11 s11 => ?_)
  refine wpAny_pure ?_
  generalize hbb : (Bod.mk (fun i => if i = 11 then k11 else b.hs i) (fun i => if i = 11 then t9 + 1 else b.ts i) b.v1 b.tq b.tf b.sl b.f st) = bb at B11
  have keep11 : KT nn P0 s.heap h11 := ⟨fun b o e hb => s11.extBut _ _ (naf _ _ e).symm (k9 _ _ (B9.keep _ _ (by simp [nP _ _ e hb, (naf _ _ e).symm]) (k15.k _ _ e hb))), fun b o e => by
    obtain ⟨o5, e5⟩ := k15.al b o e
    by_cases z : b = P
    · obtain ⟨ps, hP, _⟩ := B11.tab
      rw [z]; exact ⟨_, hP⟩
    · exact ⟨o5, s11.extBut _ _ (naf _ _ e).symm (k9 _ _ (B9.keep _ _ (by simp [z, (naf _ _ e).symm]) e5))⟩, fun b o lb pb e => s11.extBut _ _ (naf _ _ e).symm (k9 _ _ (B9.keep _ _ (by
      have : b ≠ P := fun z => Nat.lt_irrefl _ (Nat.lt_of_lt_of_le lb (z ▸ hPP.2))
      simp [this, (naf _ _ e).symm]) (k15.low _ _ lb pb e))), k15.gr.trans (Grow.of_keep fun o e => s11.extBut _ _ (fun z => by
        rw [z, na5] at e; cases e
        obtain ⟨ps0, e0, _⟩ := hT0
        rw [z, na4] at e0; cases e0) (k9 _ _ (B9.keep _ _ (by
        have : P0 ≠ na := fun z => by
          obtain ⟨ps0, e0, _⟩ := hT0
          rw [z, na4] at e0; cases e0
        simp [this, hPP.1.symm]) e)))⟩
  have tb3 : h3.get? tb = some { cls := .type "tuple", data := .seq #[.type "object"] } := k3 _ _ tb2
  have tb5 := k45 _ _ (k4.k _ _ tb3 (not_tab rfl (by simp)))
  have tbn : tb ≠ na := ne_dict tb5 (by intro es n e; cases e) na5
  have tbP : tb ≠ P := ne_tab tb5 (by simp) T5
  have tb10 := k9 _ _ (B9.keep _ _ (by simp [tbn, tbP]) tb5)
  have tb11 := s11.extBut _ _ tbn tb10
  have sl11 : h11.get? bb.sl = some { cls := .type "list", data := .seq #[.str "obj" to] } := by
    rw [← hbb]
    exact s11.extBut _ _ (ne_dict (k9 _ _ hsl) (by intro es n e; cases e) B10.ns) (k9 _ _ hsl)
  have st11 : h11.get? bb.st = some { cls := .type "tuple", data := .seq ls.toArray } := by
    rw [← hbb]
    exact s11.extBut _ _ (ne_dict st9 (by intro es n e; cases e) B10.ns) st9
  have F11 : F6 h11 bb.f := by
    rw [← hbb]
    exact F6s _ _ _ _ _ _ (F6k _ _ _ hF k9) B10.ns s11
  refine wpAny_bind (call_type (Q₁ := fun v s' => ∃ a ns md h' tk' k1 k2 t0 t1 t2', v = .ref a ∧ s' = { s with heap := h', toks := tk' } ∧ Keeps h11 h' ∧ KAt h' a ns md tb bb s.toks k1 t0 t1 k2 t2')
    (tn tb11 B11.ns sl11 (by simp [hna]) st11 a1 (Nat.le_trans a2 (by decide)) (by show A.units + 1 + 1 ≤ 1950; lia) (hnoT _ keep11) (fun a ns md h' tk' k1 k2 t0 t1 t2' kk KA => ⟨a, ns, md, h', tk', k1, k2, t0, t1, t2', rfl, rfl, kk, KA⟩) (F6f _ _ F11)) fun obj s₁ ho => ?_)
  obtain ⟨a, ns, md, hz, tkz, k1', k2', t0', t1', t2', rfl, rfl, kk, KA⟩ := ho
  refine ⟨⟨_, KA.hc, rfl⟩, ?_⟩
  refine wpAny_pure (hQ a ns md tb bb hz tkz s.toks k1' k2' t0' t1' t2' (keep11.trans kk.kt) KA (F6k _ _ _ F11 kk) ?_)
  obtain ⟨ps0, e0, tr0, ca0⟩ := hT0
  have e5 := k45 _ _ e0
  have p0n : P0 ≠ na := fun z => by rw [z, na5] at e5; cases e5
  have e11 := s11.extBut _ _ p0n (k9 _ _ (B9.keep _ _ (by simp [p0n, hPP.1.symm]) e5))
  obtain ⟨_, C11, _⟩ := gr _ _ _ B11
  exact ⟨ps0, kk _ _ e11, tr0, .inr ⟨c, P, ca0, codeHd_kt (n := 0) (P0 := 0) C11 kk.kt, B11.tab.keeps kk, hPP⟩⟩
end
end Mine
end

section
open PySem PySem.W PySem.W.X PyProof.Rows PySem.Calls
set_option Elab.async false
set_option maxRecDepth 100000
set_option maxHeartbeats 1000000
set_option linter.unusedVariables false
namespace Mine
section
variable {w : World} {A : Around} {E : Value → Shared → Prop} {s : Shared} {env : Env}
theorem ev_object {p : Pos} {mg mb : Str → Option Value} {Q : Value → Shared → Prop} (hk : env.scope.kind = .function) (hl : env.kindOf (Str.ofString "object") = some .globalImplicit) (hg : s.heap.Ns env.globals mg) (hb : s.heap.Ns env.builtins mb)
    (hv : mg (Str.ofString "object") = none) (hv2 : mb (Str.ofString "object") = some (.type "object")) (hq : Q (.type "object") s) : wpAny (model prog w) A (eval (.Name (Str.ofString "object") p) env) Q E s := by
  refine wpAny_Name ?_ (by decide)
  unfold loadName Env.blockKind
  rw [hk, hl]
  refine wpAny_ite_false (by kernel_rfl) ?_
  unfold loadGlobal
  refine wpAny_bind (wpAny_nsGet hg ?_)
  rw [hv]
  refine wpAny_bind (wpAny_nsGet hb ?_)
  rw [hv2]
  exact wpAny_pure hq
theorem class_stmt {p1 : Pos} {body : List Stmt} {ks : Scope} {x1 : Option Scope} {mg mb : Str → Option Value} {Q : Flow → Shared → Prop} (hk : env.scope.kind = .function) (hl : env.kindOf (Str.ofString "object") = some .globalImplicit) (hg : s.heap.Ns env.globals mg) (hb : s.heap.Ns env.builtins mb)
    (hv : mg (Str.ofString "object") = none) (hv2 : mb (Str.ofString "object") = some (.type "object")) (hv3 : mb (Str.ofString "__build_class__") = some (.builtin "__build_class__")) (hq0 : qualnameIn env (Str.ofString "K") (Str.ofString "K") = Str.ofString "cmp_to_key.<locals>.K")
    (hc : wpAny (model prog w) A (buildClass (Str.ofString "K") (Str.ofString "cmp_to_key.<locals>.K") [.type "object"] [] body ks [Str.ofString "obj"] 60 env kpos none) (fun c s' => wpAny (model prog w) A (storeName env (Str.ofString "K") c) (fun _ s'' => Q .next s'') E s') E s) :
    wpAny (model prog w) A (exec (.ClassDef (Str.ofString "K") [.Name (Str.ofString "object") p1] [] body [] [] ks x1 (Str.ofString "K") [Str.ofString "obj"] kpos) env) Q E s := by
  rw [arm_exec_ClassDef]
  refine wpAny_bind (wpAny_pure ?_)
  refine wpAny_bind (wpAny_standAt ?_)
  refine wpAny_bind ?_
  unfold buildClassGuard
  refine wpAny_bind (wpAny_nsGet hb ?_)
  rw [hv3]
  refine wpAny_pure ?_
  refine wpAny_bind (wpAny_holding ?_)
  refine wpAny_bind ?_
  unfold evalArgs
  show wpAny _ _ (spliced (backTo kpos (starEach [Expr.Name (Str.ofString "object") p1] env)) >>= _) _ _ _
  refine wpAny_bind (args_cons (ev_object hk hl hg hb hv hv2 (args_nil ?_)))
  refine wpAny_bind (wpAny_pure ?_)
  refine wpAny_holding ?_
  refine wpAny_ite_true rfl ?_
  refine wpAny_bind (wpAny_pure (wpAny_bind (wpAny_pure (wpAny_pure ?_))))
  refine wpAny_bind (wpAny_standAt (wpAny_holding ?_))
  rw [hq0]
  refine wpAny_mono hc (fun c s' hs => ?_) fun _ _ e => e
  refine wpAny_bind (wpAny_pure (wpAny_bind (wpAny_standAt (wpAny_bind (wpAny_bindName ?_)))))
  exact wpAny_mono hs (fun _ s'' q => wpAny_pure q) fun _ _ e => e
end
end Mine
end

section
open PySem PySem.W PySem.W.X PyProof.Rows PySem.Calls
set_option Elab.async false
set_option maxRecDepth 100000
set_option maxHeartbeats 1000000
set_option linter.unusedVariables false
namespace Mine
theorem qual_in {ks : Scope} {na c fr : Addr} {cl : List (Str × Addr)} {nm : Str} (h : ks.names.lookup nm = some .local) : qualnameIn (cenvOf ks na c fr cl) nm nm = Str.ofString "cmp_to_key.<locals>.K" ++ Str.ofString "." ++ nm := by
  unfold qualnameIn Env.kindOf
  rw [h]
  rfl
/-- the six defs of K -/
structure F6 (params0 : Arguments) (body0 : List Stmt) (scope0 : Scope) (clos0 : List (Str × Addr)) (params1 : Arguments) (body1 : List Stmt) (scope1 : Scope) (clos1 : List (Str × Addr)) (params2 : Arguments) (body2 : List Stmt) (scope2 : Scope) (clos2 : List (Str × Addr)) (params3 : Arguments) (body3 : List Stmt) (scope3 : Scope) (clos3 : List (Str × Addr)) (params4 : Arguments) (body4 : List Stmt) (scope4 : Scope) (clos4 : List (Str × Addr)) (params5 : Arguments) (body5 : List Stmt) (scope5 : Scope) (clos5 : List (Str × Addr)) (h : Heap) (f : Nat → Addr) : Prop where
  f0 : FnIs h (f 0) "__init__" "cmp_to_key.<locals>.K.__init__" params0 body0 scope0 clos0
  f1 : FnIs h (f 1) "__lt__" "cmp_to_key.<locals>.K.__lt__" params1 body1 scope1 clos1
  f2 : FnIs h (f 2) "__gt__" "cmp_to_key.<locals>.K.__gt__" params2 body2 scope2 clos2
  f3 : FnIs h (f 3) "__eq__" "cmp_to_key.<locals>.K.__eq__" params3 body3 scope3 clos3
  f4 : FnIs h (f 4) "__le__" "cmp_to_key.<locals>.K.__le__" params4 body4 scope4 clos4
  f5 : FnIs h (f 5) "__ge__" "cmp_to_key.<locals>.K.__ge__" params5 body5 scope5 clos5
  hi : ∀ i, 5 ≤ i → f i = f 5
section
variable {params0 : Arguments} {body0 : List Stmt} {scope0 : Scope} {clos0 : List (Str × Addr)} {params1 : Arguments} {body1 : List Stmt} {scope1 : Scope} {clos1 : List (Str × Addr)} {params2 : Arguments} {body2 : List Stmt} {scope2 : Scope} {clos2 : List (Str × Addr)} {params3 : Arguments} {body3 : List Stmt} {scope3 : Scope} {clos3 : List (Str × Addr)} {params4 : Arguments} {body4 : List Stmt} {scope4 : Scope} {clos4 : List (Str × Addr)} {params5 : Arguments} {body5 : List Stmt} {scope5 : Scope} {clos5 : List (Str × Addr)} {h h' : Heap} {f : Nat → Addr}
theorem FnIs.keeps {f : Addr} {name qual : Str} {params : Arguments} {body : List Stmt} {scope : Scope} {clos : List (Str × Addr)} (x : FnIs h f name qual params body scope clos) (k : Keeps h h') : FnIs h' f name qual params body scope clos := x.keep (fun b o e _ _ => k b o e) fun b o _ e _ _ => k b o e
theorem F6.keeps (x : F6 params0 body0 scope0 clos0 params1 body1 scope1 clos1 params2 body2 scope2 clos2 params3 body3 scope3 clos3 params4 body4 scope4 clos4 params5 body5 scope5 clos5 h f) (k : Keeps h h') : F6 params0 body0 scope0 clos0 params1 body1 scope1 clos1 params2 body2 scope2 clos2 params3 body3 scope3 clos3 params4 body4 scope4 clos4 params5 body5 scope5 clos5 h' f := ⟨x.f0.keeps k, x.f1.keeps k, x.f2.keeps k, x.f3.keeps k, x.f4.keeps k, x.f5.keeps k, x.hi⟩
theorem F6.same {na : Addr} {es : Array DictEntry} {n : Nat} (x : F6 params0 body0 scope0 clos0 params1 body1 scope1 clos1 params2 body2 scope2 clos2 params3 body3 scope3 clos3 params4 body4 scope4 clos4 params5 body5 scope5 clos5 h f) (hn : h.get? na = some (dObj es n)) (hs : Heap.SameBut na h h') : F6 params0 body0 scope0 clos0 params1 body1 scope1 clos1 params2 body2 scope2 clos2 params3 body3 scope3 clos3 params4 body4 scope4 clos4 params5 body5 scope5 clos5 h' f := ⟨x.f0.same hn hs, x.f1.same hn hs, x.f2.same hn hs, x.f3.same hn hs, x.f4.same hn hs, x.f5.same hn hs, x.hi⟩
theorem FnIs.fn {f : Addr} {name qual : Str} {params : Arguments} {body : List Stmt} {scope : Scope} {clos : List (Str × Addr)} (x : FnIs h f name qual params body scope clos) : ∃ o, h.get? f = some o ∧ o.cls = .type "function" := by
  obtain ⟨doc, pm, c, ctv, e, _⟩ := x
  exact ⟨_, e, rfl⟩
theorem F6.fns (x : F6 params0 body0 scope0 clos0 params1 body1 scope1 clos1 params2 body2 scope2 clos2 params3 body3 scope3 clos3 params4 body4 scope4 clos4 params5 body5 scope5 clos5 h f) : ∀ i, ∃ o, h.get? (f i) = some o ∧ o.cls = .type "function"
  | 0 => x.f0.fn
  | 1 => x.f1.fn
  | 2 => x.f2.fn
  | 3 => x.f3.fn
  | 4 => x.f4.fn
  | i + 5 => by rw [x.hi (i + 5) (by lia)]; exact x.f5.fn
end
section
variable {w : World} {A : Around} {E : Value → Shared → Prop} {s : Shared} {env : Env}
theorem class_whole {params0 : Arguments} {body0 : List Stmt} {scope0 : Scope} {clos0 : List (Str × Addr)} {params1 : Arguments} {body1 : List Stmt} {scope1 : Scope} {clos1 : List (Str × Addr)} {params2 : Arguments} {body2 : List Stmt} {scope2 : Scope} {clos2 : List (Str × Addr)} {params3 : Arguments} {body3 : List Stmt} {scope3 : Scope} {clos3 : List (Str × Addr)} {params4 : Arguments} {body4 : List Stmt} {scope4 : Scope} {clos4 : List (Str × Addr)} {params5 : Arguments} {body5 : List Stmt} {scope5 : Scope} {clos5 : List (Str × Addr)} {p0 p1 p2 p3 p4 p5 p6 p7 p8 p9 p10 : Pos} {n1 n2 n3 : Nat} {ks : Scope} {x1 : Option Scope} {mg mb : Str → Option Value} {vn : Value} {c0 P0 : Addr} {cl : List (Str × Addr)} {Q : Flow → Shared → Prop}
    (a1 : A.handled = none) (a2 : A.depth ≤ 580) (a3 : A.units ≤ 1900) (G : Gb s.heap mg vn) (hb : s.heap.Ns env.builtins mb) (hk : env.scope.kind = .function) (hl : env.kindOf (Str.ofString "object") = some .globalImplicit)
    (hv : mg (Str.ofString "object") = none) (hv2 : mb (Str.ofString "object") = some (.type "object")) (hv3 : mb (Str.ofString "__build_class__") = some (.builtin "__build_class__")) (hq0 : qualnameIn env (Str.ofString "K") (Str.ofString "K") = Str.ofString "cmp_to_key.<locals>.K")
    (hc : env.code = .ref c0) (hge : env.globals = mainGlobals) (C0 : CodeHd s.heap c0 P0) {nn : Nat} (hnn : ∃ b o, @LE.le Nat _ nn b ∧ s.heap.get? b = some o) (T0 : Tab0 nn s.heap P0) (hks : ks.kind = .class) (hcl : closureFor ks env = pure cl)
    (hk1 : ks.names.lookup (Str.ofString "__class__") = none) (hk2 : ks.names.lookup (Str.ofString "__classdict__") = none) (hk3 : ks.names.lookup (Str.ofString "__name__") = none) (hk5 : ks.names.lookup (Str.ofString "__qualname__") = none) (hk6 : ks.names.lookup (Str.ofString "__firstlineno__") = none) (hk7 : ks.names.lookup (Str.ofString "__static_attributes__") = none)
    (k_module : ks.names.lookup (Str.ofString "__module__") = some .local) (k_slots : ks.names.lookup (Str.ofString "__slots__") = some .local) (k_init : ks.names.lookup (Str.ofString "__init__") = some .local) (k_lt : ks.names.lookup (Str.ofString "__lt__") = some .local) (k_gt : ks.names.lookup (Str.ofString "__gt__") = some .local) (k_eq : ks.names.lookup (Str.ofString "__eq__") = some .local) (k_le : ks.names.lookup (Str.ofString "__le__") = some .local) (k_ge : ks.names.lookup (Str.ofString "__ge__") = some .local) (k_hash : ks.names.lookup (Str.ofString "__hash__") = some .local)
    (hd0 : params0.defaults = []) (hkw0 : params0.kw_defaults = []) (ha0 : ∀ e, annTrees params0 none e = []) (hcl0 : ∀ na c fr, closureFor scope0 (cenvOf ks na c fr cl) = pure clos0)
    (hd1 : params1.defaults = []) (hkw1 : params1.kw_defaults = []) (ha1 : ∀ e, annTrees params1 none e = []) (hcl1 : ∀ na c fr, closureFor scope1 (cenvOf ks na c fr cl) = pure clos1)
    (hd2 : params2.defaults = []) (hkw2 : params2.kw_defaults = []) (ha2 : ∀ e, annTrees params2 none e = []) (hcl2 : ∀ na c fr, closureFor scope2 (cenvOf ks na c fr cl) = pure clos2)
    (hd3 : params3.defaults = []) (hkw3 : params3.kw_defaults = []) (ha3 : ∀ e, annTrees params3 none e = []) (hcl3 : ∀ na c fr, closureFor scope3 (cenvOf ks na c fr cl) = pure clos3)
    (hd4 : params4.defaults = []) (hkw4 : params4.kw_defaults = []) (ha4 : ∀ e, annTrees params4 none e = []) (hcl4 : ∀ na c fr, closureFor scope4 (cenvOf ks na c fr cl) = pure clos4)
    (hd5 : params5.defaults = []) (hkw5 : params5.kw_defaults = []) (ha5 : ∀ e, annTrees params5 none e = []) (hcl5 : ∀ na c fr, closureFor scope5 (cenvOf ks na c fr cl) = pure clos5)
    (hgp : mainGlobals ≠ P0) (hno : Looks (model prog w) s.heap anyOpaqueLoaded false) (hnoT : ∀ h', KT nn P0 s.heap h' → Looks (model prog w) h' anyOpaqueLoaded false)
    (hQ : ∀ a ns md tb (b : Bod) h' tk t k1 k2 t0 t1 t2, KT nn P0 s.heap h' → KAt h' a ns md tb b t k1 t0 t1 k2 t2 → F6 params0 body0 scope0 clos0 params1 body1 scope1 clos1 params2 body2 scope2 clos2 params3 body3 scope3 clos3 params4 body4 scope4 clos4 params5 body5 scope5 clos5 h' b.f → Tab0 nn h' P0 → wpAny (model prog w) A (storeName env (Str.ofString "K") (.ref a)) (fun _ s'' => Q .next s'') E { s with heap := h', toks := tk }) :
    wpAny (model prog w) A (exec (.ClassDef (Str.ofString "K") [.Name (Str.ofString "object") p0] [] [.Assign [.Name "__module__" p1] (.Constant (.str "cpy313.functools") n1 p2) p3, .Assign [.Name "__slots__" p4] (.List [.Constant (.str "obj") n2 p5] p6) p7, .FunctionDef "__init__" params0 body0 [] none [] scope0 none "__init__" ⟨64, 8, 65, 26⟩, .FunctionDef "__lt__" params1 body1 [] none [] scope1 none "__lt__" ⟨67, 8, 68, 49⟩, .FunctionDef "__gt__" params2 body2 [] none [] scope2 none "__gt__" ⟨70, 8, 71, 49⟩, .FunctionDef "__eq__" params3 body3 [] none [] scope3 none "__eq__" ⟨73, 8, 74, 50⟩, .FunctionDef "__le__" params4 body4 [] none [] scope4 none "__le__" ⟨76, 8, 77, 50⟩, .FunctionDef "__ge__" params5 body5 [] none [] scope5 none "__ge__" ⟨79, 8, 80, 50⟩, .Assign [.Name "__hash__" p8] (.Constant .none n3 p9) p10] [] [] ks x1 (Str.ofString "K") [Str.ofString "obj"] kpos) env) Q E s := by
  refine class_stmt hk hl (by rw [hge]; exact G.g) hb hv hv2 hv3 hq0 ?_
  refine build_class a1 a2 a3 G hc hge C0 hnn T0 hks hcl hk1 hk2 hk3 k_module hk5 hk6 hk7 rfl rfl hgp hno hnoT (F6 params0 body0 scope0 clos0 params1 body1 scope1 clos1 params2 body2 scope2 clos2 params3 body3 scope3 clos3 params4 body4 scope4 clos4 params5 body5 scope5 clos5) (fun _ _ _ x k => x.keeps k) (fun _ _ _ _ _ _ x hn hs => x.same hn hs) (fun _ _ x => x.fns) ?_ hQ
  intro A' E' h₀ h na P c fr t q0 q1 q2 t0 t1 t2 tq tf Q' gr hgP B hq
  refine class_body (c := c) (mg := mg) hks rfl rfl rfl k_module k_slots k_init k_lt k_gt k_eq k_le k_ge k_hash hd0 hkw0 (ha0 _) (hcl0 na c fr) ((qual_in k_init).trans (by kernel_rfl)) hd1 hkw1 (ha1 _) (hcl1 na c fr) ((qual_in k_lt).trans (by kernel_rfl)) hd2 hkw2 (ha2 _) (hcl2 na c fr) ((qual_in k_gt).trans (by kernel_rfl)) hd3 hkw3 (ha3 _) (hcl3 na c fr) ((qual_in k_eq).trans (by kernel_rfl)) hd4 hkw4 (ha4 _) (hcl4 na c fr) ((qual_in k_le).trans (by kernel_rfl)) hd5 hkw5 (ha5 _) (hcl5 na c fr) ((qual_in k_ge).trans (by kernel_rfl)) gr hgP B ?_
  intro k3 k4 k5 k6 k7 k8 k9 k10 t3 t4 t5 t6 t7 t8 t9 t10 tm to sl f0 f1 f2 f3 f4 f5 h' tk B' hsl F0 F1 F2 F3 F4 F5
  refine hq ⟨fun i => match i with | 0 => q0 | 1 => q1 | 2 => q2 | 3 => k3 | 4 => k4 | 5 => k5 | 6 => k6 | 7 => k7 | 8 => k8 | 9 => k9 | _ => k10, fun i => match i with | 0 => t0 | 1 => t1 | 2 => t2 | 3 => t3 | 4 => t4 | 5 => t5 | 6 => t6 | 7 => t7 | 8 => t8 | 9 => t9 | _ => t10, tm, tq, tf, sl, fun i => match i with | 0 => f0 | 1 => f1 | 2 => f2 | 3 => f3 | 4 => f4 | _ => f5, 0⟩ h' tk to rfl ?_ hsl ⟨F0, F1, F2, F3, F4, F5, ?_⟩
  · exact B'
  · intro i hi
    match i, hi with
    | i + 5, _ => rfl
end
end Mine
end

section
open PySem PySem.W PySem.W.X PyProof.Rows PySem.Calls
set_option Elab.async false
set_option maxRecDepth 100000
set_option maxHeartbeats 4000000
set_option linter.unusedVariables false
namespace Mine
noncomputable def K3 (P : Params) : Frag := [((nat_lit 2), objAt P (nat_lit 2)), ((nat_lit 3), objAt P (nat_lit 3)), ((nat_lit 123), objAt P (nat_lit 123)), ((nat_lit 124), objAt P (nat_lit 124))]
theorem fill3 : (fun (_ : OpenLaw) (_ : Params → Frag) => True) PySem.Challenge.rw_ny0158_01 K3 := by w_top off; k_fill; trivial
theorem code123 {w : World} {h : Heap} (X : (K3 w.params).In h) : CodeHd h 123 119 := by
  refine ⟨objAt w.params 123, _, _, _, _, _, _, _, _, X 123 _ (by rfl), rfl, rfl, rfl, rfl, rfl, rfl, rfl, rfl, by decide⟩
/-- the ground on which cmp_to_key is called -/
structure Gk (nn : Nat) (w : World) (mg mb : Str → Option Value) (h : Heap) : Prop where
  gw : Gw w mg mb h
  X3 : (K3 w.params).In h
  bt : ∃ bm o, mg "__builtins__" = some (.ref bm) ∧ bm ≠ builtinsNs ∧ bm ≠ mainGlobals ∧ h.get? bm = some o ∧ o.cls = .type "module" ∧ o.dict = some builtinsNs ∧ o.data = .plain
  nm : ∃ vn, mg (Str.ofString "__name__") = some vn
  t0 : Tab0 nn h 119
noncomputable abbrev pTwo (x y : Str) (p1 p2 : Pos) : Arguments := { posonlyargs := [], args := [{ arg := x, annotation := none, pos := p1 }, { arg := y, annotation := none, pos := p2 }], vararg := none, kwonlyargs := [], kw_defaults := [], kwarg := none, defaults := [] }
noncomputable abbrev bInit (p1 p2 p3 p4 : Pos) : List Stmt := [.Assign [.Attribute (.Name "self" p1) "obj" p2] (.Name "obj" p3) p4]
noncomputable abbrev bLt (p1 p2 p3 p4 p5 p6 p7 p8 p9 : Pos) : List Stmt := [.Return (some (.Compare (.Call (.Name "mycmp" p1) [.Attribute (.Name "self" p2) "obj" p3, .Attribute (.Name "other" p4) "obj" p5] [] p6) [.Lt] [.Constant (.int 0) 0 p7] p8)) p9]
noncomputable abbrev sTwo (x y : Str) (more : List (Str × NameKind)) : Scope := { kind := .function, names := (x, .local) :: (y, .local) :: more, isGenerator := false, isCoroutine := false, more := [] }
noncomputable def InitAt (h : Heap) (f : Addr) : Prop := ∃ p1 p2 p3 p4 p5 p6, FnIs h f "__init__" "cmp_to_key.<locals>.K.__init__" (pTwo "self" "obj" p1 p2) (bInit p3 p4 p5 p6) (sTwo "self" "obj" []) []
noncomputable def LtAt (h : Heap) (f cell : Addr) : Prop := ∃ p1 p2 p3 p4 p5 p6 p7 p8 p9 p10 p11, FnIs h f "__lt__" "cmp_to_key.<locals>.K.__lt__" (pTwo "self" "other" p1 p2) (bLt p3 p4 p5 p6 p7 p8 p9 p10 p11) (sTwo "self" "other" [("mycmp", .free)]) [("mycmp", cell)]
/-- all but dicts stays -/
noncomputable def ND (h h' : Heap) : Prop := ∀ b o, h.get? b = some o → (∀ es n, o.data ≠ .dict es n) → h'.get? b = some o
theorem FnIs.nd {h h' : Heap} {f : Addr} {name qual : Str} {params : Arguments} {body : List Stmt} {scope : Scope} {clos : List (Str × Addr)} (x : FnIs h f name qual params body scope clos) (k : ND h h') : FnIs h' f name qual params body scope clos :=
  x.keep (fun b o e hd _ => k b o e hd) fun b o vs e hd _ => k b o e (by rw [hd]; intro _ _ z; cases z)
theorem codeRec_nd {h h' : Heap} {c : Addr} {q : Str} (r : h.CodeRec (.ref c) q) (k : ND h h') : h'.CodeRec (.ref c) q := codeRec_keep r fun o e => by
  obtain ⟨o', vs, e', hd, _⟩ := codeRec_fields r
  rw [e'] at e; cases e
  exact k _ _ e' (by rw [hd]; intro _ _ z; cases z)
theorem TabGood.nd {h h' : Heap} {P : Addr} (T : TabGood h P) (k : ND h h') : TabGood h' P := by
  obtain ⟨ps, hP, ht, hg⟩ := T
  refine ⟨ps, k _ _ hP (by intro _ _ z; cases z), ht, fun q hq => ?_⟩
  rcases hg q hq with a | ⟨c, a, r⟩
  · exact .inl a
  · exact .inr ⟨c, a, codeRec_nd r k⟩
theorem Tab0.nd {n : Nat} {h h' : Heap} {P0 : Addr} (T : Tab0 n h P0) (k : ND h h') : Tab0 n h' P0 := by
  obtain ⟨ps, hP, ht, hg⟩ := T
  refine ⟨ps, k _ _ hP (by intro _ _ z; cases z), ht, ?_⟩
  rcases hg with a | ⟨c, P, a, C, T, n⟩
  · exact .inl a
  · refine .inr ⟨c, P, a, ?_, T.nd k, n⟩
    obtain ⟨o, vs, file, tf, flags, tg, inF, text, tt, e, hc, hd, r⟩ := C
    exact ⟨o, vs, file, tf, flags, tg, inF, text, tt, k _ _ e (by rw [hd]; intro _ _ z; cases z), hc, hd, r⟩
/-- the class K of cmp_to_key(_law_rule), at its address -/
structure KC (h : Heap) (a : Addr) (b : Bod) (ns md cell : Addr) : Prop where
  at' : ∃ tb t k1 t0 t1 k2 t2, KAt h a ns md tb b t k1 t0 t1 k2 t2
  init : InitAt h (b.f 0)
  lt : LtAt h (b.f 1) cell
  cell : h.IsCell cell (some (.ref 182))
section
variable {nn : Nat} {w : World} {s : Shared} {mg mb : Str → Option Value} {A : Around}
theorem Gk.gb (G : Gk nn w mg mb s.heap) : ∃ vn, Gb s.heap mg vn := by
  obtain ⟨vn, e⟩ := G.nm
  exact ⟨vn, G.gw.T.g, e, G.bt, G.gw.T.nolimit, G.gw.alive⟩
theorem opaque_no {h : Heap} (X : (K3 w.params).In h) : Looks (model prog w) h anyOpaqueLoaded false := Looks.of_peek X (by kernel_rfl)
theorem obj_cls {o : Obj} {ps : Array Value} {T : String} (h : o.cls = .type T) : o.cls ≠ (tabObj ps).cls := by rw [h]; simp
theorem X3_kt {h h' : Heap} (X : (K3 w.params).In h) (k : KT nn 119 h h') : (K3 w.params).In h' := fun a o e => k.k a o (X a o e) (by
  have := lookup_mem e
  simp only [K3, List.mem_cons, List.not_mem_nil, or_false, Prod.mk.injEq] at this
  rcases this with ⟨_, rfl⟩ | ⟨_, rfl⟩ | ⟨_, rfl⟩ | ⟨_, rfl⟩
  all_goals first | exact not_tabD (es := _) (n := _) rfl | exact not_tab (T := .type "code") rfl (by simp) | exact not_tab (T := .type "function") rfl (by simp))
theorem Gw_kt {h h' : Heap} (G : Gw w mg mb h) (k : KT nn 119 h h') : Gw w mg mb h' := by
  refine ⟨fun a o e => k.k a o (G.X a o e) ?_, ⟨ns_keep G.T.g fun o e => ?_, ns_keep G.T.b fun o e => ?_, ?_, G.T.builtins, G.T.free⟩, fun a ha => ?_⟩
  · have := lookup_mem e
    simp only [K2, List.mem_cons, List.not_mem_nil, or_false, Prod.mk.injEq] at this
    rcases this with ⟨_, rfl⟩ | ⟨_, rfl⟩ | ⟨_, rfl⟩ | ⟨_, rfl⟩ | ⟨_, rfl⟩ | ⟨_, rfl⟩ | ⟨_, rfl⟩ | ⟨_, rfl⟩ | ⟨_, rfl⟩ | ⟨_, rfl⟩ | ⟨_, rfl⟩ | ⟨_, rfl⟩ | ⟨_, rfl⟩ | ⟨_, rfl⟩
    all_goals first | exact not_tabD (es := _) (n := _) rfl | exact not_tab (T := .type "code") rfl (by simp) | exact not_tab (T := .type "function") rfl (by simp) | exact not_tab (T := .type "tuple") rfl (by simp) | exact not_tab (T := .type "object") rfl (by simp)
  · obtain ⟨es, n, hd⟩ := ns_cls G.T.g e
    exact k.k _ _ e (not_tabD hd)
  · obtain ⟨es, n, hd⟩ := ns_cls G.T.b e
    exact k.k _ _ e (not_tabD hd)
  · obtain ⟨mc, n, e⟩ := G.T.nolimit
    refine ⟨mc, ns_keep n fun o e => ?_, e⟩
    obtain ⟨es, n, hd⟩ := ns_cls n e
    exact k.k _ _ e (not_tabD hd)
  · obtain ⟨o, e⟩ := G.alive a ha
    exact k.al a o e
theorem Gk.kt {h h' : Heap} (G : Gk nn w mg mb h) (k : KT nn 119 h h') (T : Tab0 nn h' 119) : Gk nn w mg mb h' :=
  ⟨Gw_kt G.gw k, X3_kt G.X3 k, (let ⟨bm, o, b1, b2, b3, b4, b5, r⟩ := G.bt; ⟨bm, o, b1, b2, b3, k.k _ _ b4 (not_tab b5 (by simp)), b5, r⟩), G.nm, T⟩
theorem c_cmp (hnn : @LE.le Nat _ nn s.heap.objs.size) (G : Gk nn w mg mb s.heap) {Q : Value → Shared → Prop} {E : Value → Shared → Prop}
    (hQ : ∀ a b ns md cell h' tk, KT nn 119 s.heap h' → Gk nn w mg mb h' → KC h' a b ns md cell → Q (.ref a) { s with heap := h', toks := tk }) : wpAny (model prog w) (AL 4) (call (.ref 124) [.ref 182]) Q E s := by
  have X := G.X3
  refine enterC (binds := [(Str.ofString "mycmp", .ref 182)]) X G.gw.T.nolimit (by k_is) (by k_is) (by decide) (BindsTo.of_eq rfl) (fun n y hy => by (rw [List.mem_singleton] at hy; subst hy; exact Or.inr ⟨by decide, by rfl⟩)) (by decide) ?_
  intro L h1 tk cells F N Y
  obtain ⟨o', hE', d1'⟩ := CellsAre.one Y
  obtain ⟨vn, GB⟩ := G.gb
  have k1 : Keeps s.heap h1 := F.keep
  have GB1 : Gb h1 mg vn := ⟨ns_keep GB.g fun o e => k1 _ _ e, GB.name, (let ⟨bm, o, b1, b2, b3, b4, r⟩ := GB.bt; ⟨bm, o, b1, b2, b3, k1 _ _ b4, r⟩), GB.lim.keeps k1, fun a ha => (let ⟨o, e⟩ := GB.alive a ha; ⟨o, k1 _ _ e⟩)⟩
  have X1 : (K3 w.params).In h1 := X.keeps k1
  have mo : mg (Str.ofString "object") = none := G.gw.T.free _ (by decide +kernel) (by decide +kernel) (by decide +kernel) (by decide +kernel) (by decide +kernel)
  have bo : mb (Str.ofString "object") = some (.type "object") := (G.gw.T.builtins _ (by decide +kernel)).trans (by kernel_rfl)
  have bb : mb (Str.ofString "__build_class__") = some (.builtin "__build_class__") := (G.gw.T.builtins _ (by decide +kernel)).trans (by kernel_rfl)
  have hnnL : ∃ o, @LE.le Nat _ nn L ∧ h1.get? L = some o := by
    obtain ⟨o, es, ep, e, _⟩ := F.ns
    exact ⟨o, Nat.le_trans hnn F.above, e⟩
  refine wpAny_execs_cons (class_whole (c0 := 123) (P0 := 119) (mg := mg) (mb := mb) (vn := vn) (cl := [(Str.ofString "mycmp", L + 1)]) (clos0 := []) (clos1 := [(Str.ofString "mycmp", L + 1)]) (clos2 := [(Str.ofString "mycmp", L + 1)]) (clos3 := [(Str.ofString "mycmp", L + 1)]) (clos4 := [(Str.ofString "mycmp", L + 1)]) (clos5 := [(Str.ofString "mycmp", L + 1)]) rfl (Nat.le_of_ble_eq_true rfl) (Nat.le_of_ble_eq_true rfl) GB1 (ns_keep G.gw.T.b fun o e => k1 _ _ e) rfl rfl mo bo bb (by kernel_rfl) rfl rfl (code123 X1) ⟨L, hnnL⟩ (G.t0.keeps k1) rfl (by kernel_rfl) rfl rfl rfl rfl rfl rfl rfl rfl rfl rfl rfl rfl rfl rfl rfl rfl rfl (fun _ => rfl) (fun _ _ _ => by kernel_rfl) rfl rfl (fun _ => rfl) (fun _ _ _ => by kernel_rfl) rfl rfl (fun _ => rfl) (fun _ _ _ => by kernel_rfl) rfl rfl (fun _ => rfl) (fun _ _ _ => by kernel_rfl) rfl rfl (fun _ => rfl) (fun _ _ _ => by kernel_rfl) rfl rfl (fun _ => rfl) (fun _ _ _ => by kernel_rfl) (by decide) (opaque_no X1) ?hno ?_)
  case hno => exact fun h' k => opaque_no (X3_kt X1 k)
  intro a ns md tb b h2 tk2 t q1 q2 t0 t1 t2 kt KA hF T0
  have n2 : h2.Ns L _ := ns_keep F.ns fun o e => by
    obtain ⟨es, n, hd⟩ := ns_cls F.ns e
    exact kt.k _ _ e (not_tabD hd)
  refine wpAny_storeName_local rfl n2 (fun h3 n3 s3 => ?_)
  refine wpAny_execs_cons (wpAny_Return_some (ev_local rfl rfl n3 (v := .ref a) (by simp) ?_))
  have nd3 : ND h2 h3 := fun b o e hd => s3.extBut _ _ (fun z => by
    obtain ⟨es, n, hd'⟩ := ns_cls n2 (z ▸ e)
    exact hd _ _ hd') e
  have kt3 : KT nn 119 s.heap h3 := by
    have hL : ∀ b o, s.heap.get? b = some o → b ≠ L := fun b o e z => Nat.lt_irrefl _ (Nat.lt_of_lt_of_le (Heap.lt_size e) (z ▸ F.above))
    exact ⟨fun b o e hb => s3.extBut _ _ (hL b o e) (kt.k _ _ (k1 _ _ e) hb), fun b o e => (let ⟨o', e'⟩ := kt.al _ _ (k1 _ _ e); ⟨o', s3.extBut _ _ (hL b o e) e'⟩), fun b o lb pb e => s3.extBut _ _ (hL b o e) (kt.low b o lb pb (k1 _ _ e)), fun ps e => by
      obtain ⟨more, e'⟩ := kt.gr ps (k1 _ _ e)
      exact ⟨more, s3.extBut _ _ (hL _ _ e) e'⟩⟩
  have nsL : ns ≠ L := fun z => by
    obtain ⟨o, es, ep, e, hd, _, hf⟩ := n2
    have e' := KA.hn
    rw [z] at e'
    rw [show h2.get? L = some o from e] at e'
    cases e'
    cases hd
    have q := hf (Str.ofString "__init__")
    rw [show nsFind (b.es3 q1 t1 md q2 t2) (Str.ofString "__init__") = some (.ref (b.f 0)) from by kernel_rfl] at q
    have q2 : (some (Value.ref (b.f 0)) : Option Value) = none := q.trans (by kernel_rfl)
    cases q2
  have hcell : h1.get? (L + 1) = some o' := (N (L + 1, o') (by rw [hE']; exact .head _)).1
  have hcd : o'.data = .cell (some (.ref 182)) := by rw [d1']; rfl
  have c3 : h3.get? (L + 1) = some o' := nd3 _ _ (kt.k _ _ hcell fun ps z => by rw [z] at hcd; cases hcd) (by rw [hcd]; intro _ _ z; cases z)
  exact hQ a b ns md (L + 1) h3 _ kt3 (G.kt kt3 (T0.nd nd3)) ⟨⟨tb, t, q1, t0, t1, q2, t2, nd3 _ _ KA.hc (by intro _ _ z; cases z), s3.extBut _ _ nsL KA.hn, nd3 _ _ KA.hm (by intro _ _ z; cases z)⟩, ⟨_, _, _, _, _, _, hF.f0.nd nd3⟩, ⟨_, _, _, _, _, _, _, _, _, _, _, hF.f1.nd nd3⟩, ⟨o', c3, hcd⟩⟩
end
end Mine
end

section
open PySem PySem.W PySem.W.X PyProof.Rows PySem.Calls
set_option Elab.async false
set_option maxRecDepth 100000
set_option maxHeartbeats 1000000
set_option linter.unusedVariables false
namespace Mine
theorem look_K3 (P : Params) : ∀ p ∈ K3 P, (hd.heap_39 P).lookup p.1 = some p.2 := by
  intro p hp
  simp only [K3, List.mem_cons, List.not_mem_nil, or_false] at hp
  rcases hp with rfl | rfl | rfl | rfl <;> rfl
theorem K3_of {w : World} {h : Heap} (X : (hd.heap_39 w.params).In h) : (K3 w.params).In h := fun a o e => X a o (look_K3 _ _ (lookup_mem e))
theorem Gk.of {nn : Nat} {w : World} {h : Heap} {mean : ExcName → Option Value} {mg mb : Str → Option Value} (X : (hd.heap_39 w.params).In h) (T : Top hd.view_39 loose mean mg mb h) : Gk nn w mg mb h := by
  obtain ⟨bm, ob, b1, b2, b3, b4, b5, b6⟩ := T.bmain
  have hbG : bm ≠ mainGlobals := fun q => by
    obtain ⟨o, es, ep, e, hd, _⟩ := T.g
    rw [q, e] at b3; cases b3; rw [hd] at b6; cases b6
  refine ⟨Gw.of X T, K3_of X, ⟨bm, ob, b1, b2, hbG, b3, b4, b5, b6⟩, ?_, ⟨#[], X 119 _ (by rfl), trivial, .inl rfl⟩⟩
  obtain ⟨o, es, ep, e, hd, _, hf⟩ := T.g
  have e3 := X 3 (objAt w.params 3) (by rfl)
  rw [show h.get? 3 = some o from e] at e3
  cases e3
  have q := hf (Str.ofString "__name__")
  have : ∃ vn, nsFind es (Str.ofString "__name__") = some vn := by
    have z : ∃ es' ep', (objAt w.params 3).data = .dict es' ep' ∧ ∃ vn, nsFind es' (Str.ofString "__name__") = some vn := ⟨_, _, rfl, _, rfl⟩
    obtain ⟨es', ep', z1, vn, z2⟩ := z
    rw [hd] at z1
    cases z1
    exact ⟨vn, z2⟩
  obtain ⟨vn, z⟩ := this
  exact ⟨vn, q.symm.trans z⟩
end Mine
end

section
open PySem PySem.W PySem.W.X PyProof.Rows PySem.Calls
set_option Elab.async false
set_option maxRecDepth 100000
set_option maxHeartbeats 1000000
set_option linter.unusedVariables false
namespace Mine
/-- what the module's names hold -/
theorem mg_is {w : World} {h : Heap} {mg mb : Str → Option Value} (G : Gw w mg mb h) {x : Str} {v : Option Value} (e : ∀ P : Params, (match (objAt P 3).data with | .dict es _ => some (nsFind es x) | _ => none) = some v) : mg x = v := by
  obtain ⟨o, es, ep, eo, hd, _, hf⟩ := G.T.g
  have e3 := G.X 3 (objAt w.params 3) (by rfl)
  rw [show h.get? 3 = some o from eo] at e3
  cases e3
  have q := e w.params
  rw [hd] at q
  cases q
  exact (hf x).symm
section
variable {w : World} {h : Heap} {mg mb : Str → Option Value}
theorem mg_filemode (G : Gw w mg mb h) : mg (Str.ofString "filemode") = some (.ref 117) := mg_is G fun _ => by kernel_rfl
theorem mg_cmp (G : Gw w mg mb h) : mg (Str.ofString "cmp_to_key") = some (.ref 124) := mg_is G fun _ => by kernel_rfl
theorem mg_reduce (G : Gw w mg mb h) : mg (Str.ofString "reduce") = some (.ref 133) := mg_is G fun _ => by kernel_rfl
theorem mg_number (G : Gw w mg mb h) : mg (Str.ofString "_law_number") = some (.ref 147) := mg_is G fun _ => by kernel_rfl
theorem mg_rule (G : Gw w mg mb h) : mg (Str.ofString "_law_rule") = some (.ref 182) := mg_is G fun _ => by kernel_rfl
theorem mg_lesser (G : Gw w mg mb h) : mg (Str.ofString "_law_lesser") = some (.ref 189) := mg_is G fun _ => by kernel_rfl
theorem mg_wellread (G : Gw w mg mb h) : mg (Str.ofString "_law_well_read") = some (.ref 201) := mg_is G fun _ => by kernel_rfl
theorem mg_free (G : Gw w mg mb h) {x : Str} (e : ∀ P : Params, (match (objAt P 3).data with | .dict es _ => some (nsFind es x) | _ => none) = some none) : mg x = none := mg_is G e
theorem mg_enumerate (G : Gw w mg mb h) : mg (Str.ofString "enumerate") = none := mg_is G fun _ => by kernel_rfl
theorem mg_zip (G : Gw w mg mb h) : mg (Str.ofString "zip") = none := mg_is G fun _ => by kernel_rfl
theorem mg_all (G : Gw w mg mb h) : mg (Str.ofString "all") = none := mg_is G fun _ => by kernel_rfl
theorem mg_sorted (G : Gw w mg mb h) : mg (Str.ofString "sorted") = none := mg_is G fun _ => by kernel_rfl
theorem mg_min (G : Gw w mg mb h) : mg (Str.ofString "min") = none := mg_is G fun _ => by kernel_rfl
end
end Mine
end

section
open PySem PySem.W PySem.W.X PyProof.Rows PySem.Calls
set_option Elab.async false
set_option maxRecDepth 100000
set_option maxHeartbeats 1000000
set_option linter.unusedVariables false
namespace Mine
section
variable {w : World} {A : Around} {E : Value → Shared → Prop} {s : Shared} {env : Env} {Q : Value → Shared → Prop} {mg mb : Str → Option Value} {x : Str} {v : Value} {p : Pos}
theorem ev_global (hk : env.scope.kind = .function) (hl : env.kindOf x = some .globalImplicit) (hg : s.heap.Ns env.globals mg) (hv : mg x = some v) (hq : Q v s) (hd : (x == ("__debug__" : Str)) = false := by decide) : wpAny (model prog w) A (eval (.Name x p) env) Q E s := by
  refine wpAny_Name ?_ hd
  unfold loadName Env.blockKind
  rw [hk, hl]
  refine wpAny_ite_false (by kernel_rfl) ?_
  unfold loadGlobal
  refine wpAny_bind (wpAny_nsGet hg ?_)
  rw [hv]
  exact wpAny_pure hq
theorem ev_builtin (hk : env.scope.kind = .function) (hl : env.kindOf x = some .globalImplicit) (hg : s.heap.Ns env.globals mg) (hb : s.heap.Ns env.builtins mb) (hv : mg x = none) (hv2 : mb x = some v) (hq : Q v s) (hd : (x == ("__debug__" : Str)) = false := by decide) : wpAny (model prog w) A (eval (.Name x p) env) Q E s := by
  refine wpAny_Name ?_ hd
  unfold loadName Env.blockKind
  rw [hk, hl]
  refine wpAny_ite_false (by kernel_rfl) ?_
  unfold loadGlobal
  refine wpAny_bind (wpAny_nsGet hg ?_)
  rw [hv]
  refine wpAny_bind (wpAny_nsGet hb ?_)
  rw [hv2]
  exact wpAny_pure hq
end
end Mine
end

section
open PySem PySem.W PySem.Calls PyProof.Rows
set_option Elab.async false
set_option maxRecDepth 100000
set_option maxHeartbeats 1000000
set_option linter.unusedVariables false
namespace Mine
section
variable {w : World} {A : Around} {s₂ : Shared} {env : Env}
/-- a comprehension with two names over enumerate of a list -/
theorem CompOK.enum {elt : PySem.Expr} {a b : Str} {pa pb pt : Pos} {x1} {scope : Scope} {cl : List (Str × Addr)} {e it l : Addr} {xs : Array Value} (hh : A.handled = none) (hE : IsEnum s₂.heap e it 0 .none) (hI : s₂.heap.IsListIter it l 0) (hl : s₂.heap.IsList l xs) (hei : e ≠ it) (hle : l ≠ e) (hli : l ≠ it) (hsz : xs.size ≤ 1000)
    (ha : scope.names.lookup a = some .local) (hb : scope.names.lookup b = some .local) (hkind : scope.kind = .function) {P : Nat → Value → Heap → Prop} (hP : ∀ i v h h', P i v h → KE h h' → P i v h')
    (hPI : ∀ j v h h', P j v h → (∃ o, h.get? e = some o ∧ o.cls = .type "enumerate") → (∃ o, h.get? it = some o ∧ o.cls = .type "list_iterator") → KeepsBut [e, it] h h' → P j v h')
    (el : EltOK w A env elt scope cl [e, it] s₂ (fun i m' => i < xs.size ∧ ∃ v t, xs[i]? = some v ∧ m' b = some v ∧ (a ≠ b → m' a = some (.int i t))) P) :
    CompOK w A env elt (.Tuple [.Name a pa, .Name b pb] x1 pt) scope cl e xs.size [e, it] (fun i ys h => (∃ old, IsEnum h e it i old) ∧ h.IsListIter it l i ∧ h.IsList l xs ∧ Elts P ys h) (Elts P) s₂ where
  low := fun c hc => by
    rcases List.mem_cons.mp hc with rfl | hc
    · exact Heap.lt_size hE
    · rw [List.mem_singleton] at hc; subst hc
      obtain ⟨o, ho, _⟩ := hI
      exact Heap.lt_size ho
  few := hsz
  jkl := fun i ys h h' st k => by
    obtain ⟨⟨old, h0⟩, h1, h2, h3⟩ := st
    have lE : @LT.lt Nat _ e s₂.heap.objs.size := Heap.lt_size hE
    have lI : @LT.lt Nat _ it s₂.heap.objs.size := by obtain ⟨o, ho, _⟩ := hI; exact Heap.lt_size ho
    have ll : @LT.lt Nat _ l s₂.heap.objs.size := by obtain ⟨o, ho, _⟩ := hl; exact Heap.lt_size ho
    exact ⟨⟨old, k _ _ h0 (.inr lE)⟩, h1.at fun o e => k _ _ e (.inr lI), h2.at fun o e => k _ _ e (.inr ll), fun j y hj => hP _ _ _ _ (h3 j y hj) k.ke⟩
  jke := fun ys h h' st k j y hj => hP _ _ _ _ (st j y hj) k
  start := ⟨⟨_, hE⟩, hI, hl, fun j y hj => by simp at hj⟩
  self := fun s Q E st hQ => by
    obtain ⟨⟨old, h0⟩, _⟩ := st
    exact wpAny_pyIter_enum h0 hQ
  turn := fun C i ys h tk m' hC hi hlen kb st hn => by
    obtain ⟨⟨old, h0⟩, h1, h2, h3⟩ := st
    have lE : @LT.lt Nat _ e s₂.heap.objs.size := Heap.lt_size hE
    have lI : @LT.lt Nat _ it s₂.heap.objs.size := by obtain ⟨o, ho, _⟩ := hI; exact Heap.lt_size ho
    have ll : @LT.lt Nat _ l s₂.heap.objs.size := by obtain ⟨o, ho, _⟩ := hl; exact Heap.lt_size ho
    have hCE : C ≠ e := fun q => Nat.lt_irrefl _ (Nat.lt_of_lt_of_le lE (q ▸ hC))
    have hCI : C ≠ it := fun q => Nat.lt_irrefl _ (Nat.lt_of_lt_of_le lI (q ▸ hC))
    have hCl : C ≠ l := fun q => Nat.lt_irrefl _ (Nat.lt_of_lt_of_le ll (q ▸ hC))
    refine wpAny_pyNext_enum_item h0 h1 h2 (x := xs[i]) (by simp [hi]) hei fun h' ho' hit' hT' hz' hk' => ⟨_, rfl, ?_⟩
    refine wpAny_letOwnedTupleGo_enum ho' fun h4 he4 hs4 => ?_
    have Te : (h.objs.size : Nat) ≠ e := Nat.ne_of_gt (Heap.lt_size h0)
    have hT4 : h4.IsTuple h.objs.size #[.int i tk, xs[i]] := ⟨_, hs4.extBut _ _ Te hT', rfl, _, rfl⟩
    have k04 : KeepsBut [e, it] h h4 := fun b o hb e' => by
      simp only [List.mem_cons, List.not_mem_nil, or_false, not_or] at hb
      exact hs4.extBut _ _ hb.1 (hk' b o hb.1 hb.2 e')
    have n4 : h4.Ns C m' := ns_keep hn fun o e' => k04 _ _ (by simp [hCE, hCI]) e'
    refine assign_pair hh hT4 (by simp [compEnvC, relabel, hkind]) (lookup_relabel_local ha) (lookup_relabel_local hb) n4 fun h5 tk5 n5 d5 k5 => ?_
    have k5' : KeepsBut [C] h4 h5 := k5
    have kT : KeepsBut [C, e, it] h h5 := fun b o hb e' => by
      simp only [List.mem_cons, List.not_mem_nil, or_false, not_or] at hb
      exact k5' _ _ (by simp [hb.1]) (k04 _ _ (by simp [hb.2.1, hb.2.2]) e')
    have kb5 : KeepsBut [e, it] s₂.heap h5 := keepsBut_low kb hC kT
    refine wpAny_mono (el C i _ _ hC kb5 n5 ⟨hi, xs[i], tk, by simp [hi], by simp, fun hab => by simp [hab]⟩) (fun y s' hy => ?_) fun _ _ e => e
    obtain ⟨h6, tk6, rfl, k6, hPy⟩ := hy
    refine ⟨h6, tk6, _, rfl, kT.trans k6.but, ⟨⟨_, k6 _ _ (k5' _ _ (by simp [hCE.symm]) (by exact_mod_cast he4))⟩, ?_, ?_, ?_⟩, ns_keep n5 fun o e => k6 _ _ e⟩
    · exact ((hit'.at fun o e' => hs4.extBut _ _ hei.symm e').at fun o e' => k5' _ _ (by simp [hCI.symm]) e').at fun o e' => k6 _ _ e'
    · exact h2.at fun o e' => k6 _ _ (kT _ _ (by simp [hCl.symm, hle, hli]) e')
    · refine h3.snoc (fun j v hj => hP _ _ _ _ (hP _ _ _ _ (hPI _ _ _ _ hj ⟨_, h0, rfl⟩ (let ⟨o, ho, hc, _⟩ := h1; ⟨o, ho, hc⟩) k04) (fun b o e' hs => d5 b o e' hs.1)) (KE.of_keeps k6)) ?_
      rw [hlen]; exact hPy
  fin := fun C ys h tk m' hC hlen kb st hn => by
    obtain ⟨⟨old, h0⟩, h1, h2, h3⟩ := st
    refine wpAny_pyNext_enum_end hh h0 h1 h2 (by simp) fun h' he' => ⟨rfl, h', _, rfl, fun b o hb e => he' b o (fun q => hb (by simp [q])) e, fun j y hj => hPI _ _ _ _ (h3 j y hj) ⟨_, h0, rfl⟩ (let ⟨o, ho, hc, _⟩ := h1; ⟨o, ho, hc⟩) fun b o hb e => he' b o (fun q => hb (by simp [q])) e⟩
end
end Mine
end

section
open PySem PySem.W PySem.Calls PyProof.Rows
set_option Elab.async false
set_option maxRecDepth 100000
set_option maxHeartbeats 1000000
set_option linter.unusedVariables false
namespace Mine
section
variable {w : World} {A : Around} {E : Value → Shared → Prop} {s : Shared} {env : Env}
theorem assign_three {a b c : Str} {pa pb pc pt : Pos} {x1 : Nat} {T : Addr} {v0 v1 v2 : Value} {m : Str → Option Value} {Q : Unit → Shared → Prop} (hh : A.handled = none) (hT : s.heap.IsTuple T #[v0, v1, v2]) (hk : env.scope.kind = .function)
    (ka : env.kindOf a = some .local) (kb : env.kindOf b = some .local) (kc : env.kindOf c = some .local) (hn : s.heap.Ns env.locals m)
    (h : ∀ h' tk, h'.Ns env.locals (fun y => if y = c then some v2 else if y = b then some v1 else if y = a then some v0 else m y) → KD s.heap h' → KeepsBut [env.locals] s.heap h' → Q () { s with heap := h', toks := tk }) :
    wpAny (model prog w) A (assign (.Tuple [.Name a pa, .Name b pb, .Name c pc] x1 pt) env (.ref T)) Q E s := by
  have hp : (env.scope.kind == .class || (env.scope.kind == .module && env.locals != env.globals)) = false := by rw [hk]; rfl
  refine wpAny_assign_Tuple hh hT rfl rfl fun h3 x3 => ?_
  have up : Keeps s.heap h3 := fun b o x => x3 b o (Nat.ne_of_lt (Heap.lt_size x)) x
  show wpAny _ A (do holding [v1, v2] (assign (.Name a pa) env v0); do holding [v2] (assign (.Name b pb) env v1); do holding [] (assign (.Name c pc) env v2); pure ()) _ _ _
  have n3 := ns_keep hn fun o e => up _ _ e
  refine wpAny_bind (wpAny_holding (wpAny_assign_Name (wpAny_storeName_local ka n3 (fun h4 n4 s4 => ?_) hp)))
  refine wpAny_bind (wpAny_holding (wpAny_assign_Name (wpAny_storeName_local kb n4 (fun h5 n5 s5 => ?_) hp)))
  refine wpAny_bind (wpAny_holding (wpAny_assign_Name (wpAny_storeName_local kc n5 (fun h6 n6 s6 => wpAny_pure ?_) hp)))
  exact h h6 _ n6 (up.kd.trans ((KD.of_same n3 s4).trans ((KD.of_same n4 s5).trans (KD.of_same n5 s6)))) (up.but.trans ((KeepsBut.of_same s4).trans ((KeepsBut.of_same s5).trans (KeepsBut.of_same s6))))
end
/-- a zip of three lists that stands -/
structure Z3 (h : Heap) (z TI TO i1 i2 i3 l1 l2 l3 : Addr) (xs ys zs : Array Value) (i : Nat) : Prop where
  hz : ∃ f1, ZipAt h z TI TO .none f1
  hI : TupAt h TI #[.ref i1, .ref i2, .ref i3]
  hO : ∃ a b c, TupAt h TO #[a, b, c]
  h1 : h.IsListIter i1 l1 i ∧ h.IsList l1 xs
  h2 : h.IsListIter i2 l2 i ∧ h.IsList l2 ys
  h3 : h.IsListIter i3 l3 i ∧ h.IsList l3 zs
theorem nm1 {a b : Addr} (h1 : a ≠ b) : a ∉ [b] := fun h => by
  cases h with
  | head => exact h1 rfl
  | tail _ h => cases h
theorem nm2 {a b c : Addr} (h1 : a ≠ b) (h2 : a ≠ c) : a ∉ [b, c] := fun h => by
  cases h with
  | head => exact h1 rfl
  | tail _ h => cases h with
    | head => exact h2 rfl
    | tail _ h => cases h
theorem nm5 {a b c d e f : Addr} (h1 : a ≠ b) (h2 : a ≠ c) (h3 : a ≠ d) (h4 : a ≠ e) (h5 : a ≠ f) : a ∉ [b, c, d, e, f] := fun h => by
  cases h with
  | head => exact h1 rfl
  | tail _ h => cases h with
    | head => exact h2 rfl
    | tail _ h => cases h with
      | head => exact h3 rfl
      | tail _ h => exact nm2 h4 h5 h
theorem nm6 {a b c d e f g : Addr} (h : a ∉ [b, c, d, e, f, g]) : a ≠ b ∧ a ≠ c ∧ a ≠ d ∧ a ≠ e ∧ a ≠ f ∧ a ≠ g :=
  ⟨fun q => h (q ▸ by k_mem), fun q => h (q ▸ by k_mem), fun q => h (q ▸ by k_mem), fun q => h (q ▸ by k_mem), fun q => h (q ▸ by k_mem), fun q => h (q ▸ by k_mem)⟩
theorem all9 {P : Addr → Prop} {a b c d e f g h i : Addr} (h1 : P a) (h2 : P b) (h3 : P c) (h4 : P d) (h5 : P e) (h6 : P f) (h7 : P g) (h8 : P h) (h9 : P i) : ∀ x ∈ [a, b, c, d, e, f, g, h, i], P x := by
  intro x hx
  simp only [List.mem_cons, List.not_mem_nil, or_false] at hx
  rcases hx with rfl | rfl | rfl | rfl | rfl | rfl | rfl | rfl | rfl <;> assumption
theorem all5 {P : Addr → Prop} {a b c d e : Addr} (h1 : P a) (h2 : P b) (h3 : P c) (h4 : P d) (h5 : P e) : ∀ x ∈ [a, b, c, d, e], P x := by
  intro x hx
  simp only [List.mem_cons, List.not_mem_nil, or_false] at hx
  rcases hx with rfl | rfl | rfl | rfl | rfl <;> assumption
/-- all the places of a zip are apart -/
structure A3 (z TI TO i1 i2 i3 l1 l2 l3 : Addr) : Prop where
  n : [z, TI, TO, i1, i2, i3].Nodup
  o : ∀ l ∈ [l1, l2, l3], l ∉ [z, TI, TO, i1, i2, i3]
section
variable {w : World} {A : Around} {s₂ : Shared} {env : Env}
theorem Z3.but {h h' : Heap} {z TI TO i1 i2 i3 l1 l2 l3 : Addr} {xs ys zs : Array Value} {i : Nat} (Z : Z3 h z TI TO i1 i2 i3 l1 l2 l3 xs ys zs i) (k : ∀ b ∈ [z, TI, TO, i1, i2, i3, l1, l2, l3], ∀ o, h.get? b = some o → h'.get? b = some o) : Z3 h' z TI TO i1 i2 i3 l1 l2 l3 xs ys zs i := by
  obtain ⟨⟨f1, hz⟩, hI, ⟨a, b, c, hO⟩, h1, h2, h3⟩ := Z
  exact ⟨⟨f1, k _ (by k_mem) _ hz⟩, k _ (by k_mem) _ hI, ⟨a, b, c, k _ (by k_mem) _ hO⟩, ⟨h1.1.at fun o e => k _ (by k_mem) _ e, h1.2.at fun o e => k _ (by k_mem) _ e⟩, ⟨h2.1.at fun o e => k _ (by k_mem) _ e, h2.2.at fun o e => k _ (by k_mem) _ e⟩, ⟨h3.1.at fun o e => k _ (by k_mem) _ e, h3.2.at fun o e => k _ (by k_mem) _ e⟩⟩
/-- a comprehension with three names over a zip of three lists -/
theorem CompOK.zip3 {elt : PySem.Expr} {a b c : Str} {pa pb pc pt : Pos} {x1 : Nat} {scope : Scope} {cl : List (Str × Addr)} {z TI TO i1 i2 i3 l1 l2 l3 : Addr} {xs ys zs : Array Value} (hh : A.handled = none) (hZ : Z3 s₂.heap z TI TO i1 i2 i3 l1 l2 l3 xs ys zs 0) (hA : A3 z TI TO i1 i2 i3 l1 l2 l3) (e2 : ys.size = xs.size) (e3 : zs.size = xs.size) (hsz : xs.size ≤ 1000)
    (ha : scope.names.lookup a = some .local) (hb : scope.names.lookup b = some .local) (hc : scope.names.lookup c = some .local) (hkind : scope.kind = .function) {P : Nat → Value → Heap → Prop} (hP : ∀ i v h h', P i v h → P i v h')
    (el : EltOK w A env elt scope cl [z, TO, i1, i2, i3] s₂ (fun i m' => i < xs.size ∧ ∃ u v r, xs[i]? = some u ∧ ys[i]? = some v ∧ zs[i]? = some r ∧ m' c = some r ∧ (b ≠ c → m' b = some v) ∧ (a ≠ c → a ≠ b → m' a = some u)) P) :
    CompOK w A env elt (.Tuple [.Name a pa, .Name b pb, .Name c pc] x1 pt) scope cl z xs.size [z, TO, i1, i2, i3] (fun i vs h => Z3 h z TI TO i1 i2 i3 l1 l2 l3 xs ys zs i ∧ Elts P vs h) (Elts P) s₂ := by
  have nd := hA.n
  simp only [List.nodup_cons, List.mem_cons, List.not_mem_nil, or_false, not_or, List.nodup_nil, and_true, not_false_iff] at nd
  obtain ⟨⟨zI, zO, z1, z2, z3⟩, ⟨IO, I1, I2, I3⟩, ⟨O1, O2, O3⟩, ⟨n12, n13⟩, n23⟩ := nd
  have o1 := nm6 (hA.o l1 (by k_mem))
  have o2 := nm6 (hA.o l2 (by k_mem))
  have o3 := nm6 (hA.o l3 (by k_mem))
  have low : ∀ b ∈ [z, TI, TO, i1, i2, i3, l1, l2, l3], @LT.lt Nat _ b s₂.heap.objs.size := by
    obtain ⟨⟨f1, hz⟩, hI, ⟨a, b, c, hO⟩, ⟨⟨_, h1, _⟩, ⟨_, h1', _⟩⟩, ⟨⟨_, h2, _⟩, ⟨_, h2', _⟩⟩, ⟨⟨_, h3, _⟩, ⟨_, h3', _⟩⟩⟩ := hZ
    exact all9 (Heap.lt_size hz) (Heap.lt_size hI) (Heap.lt_size hO) (Heap.lt_size h1) (Heap.lt_size h2) (Heap.lt_size h3) (Heap.lt_size h1') (Heap.lt_size h2') (Heap.lt_size h3')
  refine ⟨all5 (low z (by k_mem)) (low TO (by k_mem)) (low i1 (by k_mem)) (low i2 (by k_mem)) (low i3 (by k_mem)), hsz, fun i vs h h' st k => ⟨st.1.but fun b hb o e => k _ _ e (.inr (low b hb)), fun j y hj => hP _ _ _ _ (st.2 j y hj)⟩, fun vs h h' st k j y hj => hP _ _ _ _ (st j y hj), ⟨hZ, fun j y hj => by simp at hj⟩, fun s Q E st hQ => ?_, ?_, ?_⟩
  · obtain ⟨⟨⟨f1, hz⟩, _⟩, _⟩ := st
    exact iter_zip hz hQ
  · intro C i vs h tk m' hC hi hlen kb st hn
    obtain ⟨⟨⟨f1, hz⟩, hI, ⟨a0, b0, c0, hO⟩, h1, h2, h3⟩, hE⟩ := st
    have hCn : ∀ b ∈ [z, TI, TO, i1, i2, i3, l1, l2, l3], C ≠ b := fun b hb q => Nat.lt_irrefl _ (Nat.lt_of_lt_of_le (low b hb) (q ▸ hC))
    have D1 := Draws.list (prog := prog) (w := w) (A := A.in1) hh i1 l1 o1.2.2.2.1 xs
    have D2 := Draws.list (prog := prog) (w := w) (A := A.in1) hh i2 l2 o2.2.2.2.2.1 ys
    have D3 := Draws.list (prog := prog) (w := w) (A := A.in1) hh i3 l3 o3.2.2.2.2.2 zs
    refine next_zip_item hz rfl (zip3_free D1 D2 D3 (nm2 z1 (Ne.symm o1.1)) (nm2 z2 (Ne.symm o2.1)) (nm2 z3 (Ne.symm o3.1)) (nm2 O1 (Ne.symm o1.2.2.1)) (nm2 O2 (Ne.symm o2.2.2.1)) (nm2 O3 (Ne.symm o3.2.2.1))
      (nm2 n12 (Ne.symm o2.2.2.2.1)) (nm2 n13 (Ne.symm o3.2.2.2.1)) (nm2 (Ne.symm n12) (Ne.symm o1.2.2.2.2.1)) (nm2 n23 (Ne.symm o3.2.2.2.2.1)) (nm2 (Ne.symm n13) (Ne.symm o1.2.2.2.2.2)) (nm2 (Ne.symm n23) (Ne.symm o2.2.2.2.2.2))
      z1 z2 z3 zO O1 O2 O3 hz hI hO h1 h2 h3 hi (by lia) (by lia) fun T u v r h' tk' p1 p2 p3 hz' hO' s1 s2 s3 hT fT kk => ⟨_, rfl, ?_⟩)
    refine wpAny_letOwnedTupleGo_zip hz' fun h4 hz4 hs4 => ?_
    have Tz : T ≠ z := fun q => by rw [q, hz] at fT; cases fT
    have hT4 : h4.IsTuple T #[u, v, r] := ⟨_, hs4.extBut _ _ Tz hT, rfl, _, rfl⟩
    have k04 : KeepsBut [z, TO, i1, i2, i3] h h4 := fun b o hb e => hs4.extBut _ _ (fun q => hb (q ▸ by k_mem)) (kk b o hb e)
    have cz := hCn z (by k_mem)
    have n4 : h4.Ns C m' := ns_keep hn fun o e => k04 _ _ (nm5 (hCn z (by k_mem)) (hCn TO (by k_mem)) (hCn i1 (by k_mem)) (hCn i2 (by k_mem)) (hCn i3 (by k_mem))) e
    refine assign_three hh hT4 (by simp [compEnvC, relabel, hkind]) (lookup_relabel_local ha) (lookup_relabel_local hb) (lookup_relabel_local hc) n4 fun h5 tk5 n5 d5 k5 => ?_
    have k5' : KeepsBut [C] h4 h5 := k5
    have kT : KeepsBut (C :: [z, TO, i1, i2, i3]) h h5 := fun b o hb e' => by
      exact k5' _ _ (fun q => hb (by cases q with | head => exact .head _ | tail _ q => cases q)) (k04 _ _ (fun q => hb (.tail _ q)) e')
    have kb5 : KeepsBut [z, TO, i1, i2, i3] s₂.heap h5 := keepsBut_low kb hC kT
    refine wpAny_mono (el C i _ _ hC kb5 n5 ⟨hi, u, v, r, p1, p2, p3, by simp, fun h => by simp [h], fun h h' => by simp [h, h']⟩) (fun y s' hy => ?_) fun _ _ e => e
    obtain ⟨h6, tk6, rfl, k6, hPy⟩ := hy
    refine ⟨h6, tk6, _, rfl, kT.trans k6.but, ⟨?_, hE.snoc (fun j v hj => hP _ _ _ _ hj) (by rw [hlen]; exact hPy)⟩, ns_keep n5 fun o e => k6 _ _ e⟩
    have up : ∀ b ∈ [TI, TO, i1, i2, i3, l1, l2, l3], b ≠ z → ∀ o, h'.get? b = some o → h6.get? b = some o := fun b hb hbz o e => k6 _ _ (k5' _ _ (nm1 (Ne.symm (hCn b (.tail _ hb)))) (hs4.extBut _ _ hbz e))
    refine ⟨⟨_, k6 _ _ (k5' _ _ (nm1 (Ne.symm cz)) hz4)⟩, up _ (by k_mem) (Ne.symm zI) _ (kk _ _ (nm5 (Ne.symm zI) IO I1 I2 I3) hI), ⟨_, _, _, up _ (by k_mem) (Ne.symm zO) _ hO'⟩, ⟨s1.1.at fun o e => up _ (by k_mem) (Ne.symm z1) _ e, s1.2.at fun o e => up _ (by k_mem) o1.1 _ e⟩, ⟨s2.1.at fun o e => up _ (by k_mem) (Ne.symm z2) _ e, s2.2.at fun o e => up _ (by k_mem) o2.1 _ e⟩, ⟨s3.1.at fun o e => up _ (by k_mem) (Ne.symm z3) _ e, s3.2.at fun o e => up _ (by k_mem) o3.1 _ e⟩⟩
  · intro C vs h tk m' hC hlen kb st hn
    obtain ⟨⟨⟨f1, hz⟩, hI, hO, h1, h2, h3⟩, hE⟩ := st
    have D1 := Draws.list (prog := prog) (w := w) (A := A.in1) hh i1 l1 o1.2.2.2.1 xs
    refine next_zip_end hz rfl (zip3_free_end D1 (nm2 z1 (Ne.symm o1.1)) z1 hz hI h1 fun h' e k he => ⟨e, rfl, he, rfl, h', _, rfl, fun b o hb x => k b o (fun q => hb (by cases q with | head => exact .head _ | tail _ q => cases q with | head => exact .tail _ (.tail _ (.head _)) | tail _ q => cases q)) x, fun j y hj => hP _ _ _ _ (hE j y hj)⟩)
end
end Mine
end

section
open PySem PySem.W PySem.Calls PyProof.Rows
set_option Elab.async false
set_option maxRecDepth 100000
set_option maxHeartbeats 1000000
set_option linter.unusedVariables false
namespace Mine
noncomputable def kindOf (a : Int) : Int := [1, 6, 3, 1, 4, 1, 2, 1, 0, 1, 5, 1, 7, 1, 1, 1].getD a.toNat 0
noncomputable def fig3 (x e : Int) : Int := x * 2 + (x + e) % 2
/-- the figures of three bits and the bit beside -/
noncomputable def part (x y z e : Int) : Int := x * 8 + y * 4 + fig3 z e
theorem part_range {x y z e : Int} (hx : 0 ≤ x ∧ x ≤ 1) (hy : 0 ≤ y ∧ y ≤ 1) (hz : 0 ≤ z ∧ z ≤ 1) : 0 ≤ part x y z e ∧ part x y z e ≤ 15 := by unfold part fig3; lia
theorem bit_range (m k : Int) : 0 ≤ m / k % 2 ∧ m / k % 2 ≤ 1 := by lia
theorem part_eq (d e : Int) (h0 : 0 ≤ d) (h1 : d ≤ 7) : d / 4 * 8 + d / 2 % 2 * 4 + d % 2 * 2 + (d + e) % 2 = part (d / 4) (d / 2 % 2) (d % 2) e := by
  unfold part fig3
  lia
theorem dig2 (x : Int) : x % 8 / 4 = x / 4 % 2 := by lia
theorem dig1 (x : Int) : x % 8 / 2 % 2 = x / 2 % 2 := by lia
theorem dig0 (x : Int) : x % 8 % 2 = x % 2 := by lia
theorem dd64_4 (m : Int) : m / 64 / 4 = m / 256 := by lia
theorem dd64_2 (m : Int) : m / 64 / 2 = m / 128 := by lia
theorem dd8_4 (m : Int) : m / 8 / 4 = m / 32 := by lia
theorem dd8_2 (m : Int) : m / 8 / 2 = m / 16 := by lia
theorem dd1 (m : Int) : m / 1 = m := by lia
theorem dd512_4 (m : Int) : m / 512 / 4 = m / 2048 := by lia
theorem dd512_2 (m : Int) : m / 512 / 2 = m / 1024 := by lia
theorem number_bits {m : Int} (h0 : 0 ≤ m) (h1 : m < 65536) :
    lawNumber m = ((kindOf (m / 4096) * 16 + part (m / 256 % 2) (m / 128 % 2) (m / 64 % 2) (m / 2048 % 2)) * 16 + part (m / 32 % 2) (m / 16 % 2) (m / 8 % 2) (m / 1024 % 2)) * 16 + part (m / 4 % 2) (m / 2 % 2) (m % 2) (m / 512 % 2) := by
  unfold lawNumber kindOf
  simp only [Int.fdiv_eq_ediv_of_nonneg, Int.fmod_eq_emod_of_nonneg, show (0 : Int) ≤ 4096 by decide, show (0 : Int) ≤ 64 by decide, show (0 : Int) ≤ 8 by decide, show (0 : Int) ≤ 4 by decide, show (0 : Int) ≤ 2 by decide, show (0 : Int) ≤ 1 by decide, show (0 : Int) ≤ 512 by decide]
  have p1 := part_eq (m / 64 % 8) (m / 512 / 4 % 2) (by lia) (by lia)
  have p2 := part_eq (m / 8 % 8) (m / 512 / 2 % 2) (by lia) (by lia)
  have p3 := part_eq (m % 8) (m / 512 % 2) (by lia) (by lia)
  simp only [dig2, dig1, dig0, dd64_4, dd64_2, dd8_4, dd8_2, dd1, dd512_4, dd512_2] at p1 p2 p3 ⊢
  rw [← p1, ← p2, ← p3]
  generalize [1, 6, 3, 1, 4, 1, 2, 1, 0, 1, 5, 1, 7, 1, 1, 1].getD (m / 4096).toNat 0 = K
  lia
theorem kind_cases {m : Int} (h0 : 0 ≤ m) (h1 : m < 65536) : ∃ n : Nat, n < 16 ∧ m / 4096 = n := ⟨(m / 4096).toNat, by lia, by lia⟩
theorem kind_range {m : Int} (h0 : 0 ≤ m) (h1 : m < 65536) : 0 ≤ kindOf (m / 4096) ∧ kindOf (m / 4096) ≤ 7 := by
  obtain ⟨n, hn, e⟩ := kind_cases h0 h1
  rw [e]
  exact (by decide : ∀ n : Nat, n < 16 → 0 ≤ kindOf n ∧ kindOf n ≤ 7) n hn
theorem band_half {x y : Int} (hy : y % 2 = 0) : Builtin.bitAnd x y = 2 * Builtin.bitAnd (x / 2) (y / 2) := by rw [kbt_halves, if_neg (by lia)]; lia
theorem band_kind {m : Int} (h0 : 0 ≤ m) (h1 : m < 65536) : Builtin.bitAnd m 61440 = 4096 * (m / 4096) := by
  rw [band_half (by decide), band_half (by decide), band_half (by decide), band_half (by decide), band_half (by decide), band_half (by decide), band_half (by decide), band_half (by decide), band_half (by decide), band_half (by decide), band_half (by decide), band_half (by decide)]
  have := kbt_mask (m / 2 / 2 / 2 / 2 / 2 / 2 / 2 / 2 / 2 / 2 / 2 / 2) 4
  rw [show (61440 / 2 / 2 / 2 / 2 / 2 / 2 / 2 / 2 / 2 / 2 / 2 / 2 : Int) = 2 ^ 4 - 1 by decide, this]
  lia
theorem band_low (m : Int) : Builtin.bitAnd m 4095 = m % 4096 := kbt_mask m 12
theorem band_bit (m : Int) (k : Nat) : (Builtin.bitAnd m (2 ^ k) == 2 ^ k) = decide (m / 2 ^ k % 2 = 1) := by
  rw [kbt_bit]
  have hp : (0 : Int) < 2 ^ k := Int.pow_pos (by decide)
  have hb : m / 2 ^ k % 2 = 0 ∨ m / 2 ^ k % 2 = 1 := by lia
  rcases hb with h | h <;> rw [h] <;> simp
  lia
end Mine
end

section
open PySem PySem.W PySem.Calls PyProof.Rows
set_option Elab.async false
set_option maxRecDepth 100000
set_option maxHeartbeats 1000000
set_option linter.unusedVariables false
namespace Mine
noncomputable def lens (j : Nat) : Nat := [8, 2, 2, 4, 2, 2, 4, 2, 2, 4].getD j 1
noncomputable def codeAt (j d : Nat) : Nat := ((signsL.getD j ⟨#[]⟩).cps[d]?).getD 0
/-- the figures of a mode -/
noncomputable def dg (m : Int) (j : Nat) : Nat := match j with
  | 0 => (kindOf (m / 4096)).toNat
  | 1 => (m / 256 % 2).toNat
  | 2 => (m / 128 % 2).toNat
  | 3 => (fig3 (m / 64 % 2) (m / 2048 % 2)).toNat
  | 4 => (m / 32 % 2).toNat
  | 5 => (m / 16 % 2).toNat
  | 6 => (fig3 (m / 8 % 2) (m / 1024 % 2)).toNat
  | 7 => (m / 4 % 2).toNat
  | 8 => (m / 2 % 2).toNat
  | _ => (fig3 (m % 2) (m / 512 % 2)).toNat
theorem band_2112 (m : Int) : Builtin.bitAnd m 2112 = m / 2048 % 2 * 2048 + m / 64 % 2 * 64 := by
  rw [band_half (by decide), band_half (by decide), band_half (by decide), band_half (by decide), band_half (by decide), band_half (by decide), show (2112 : Int) / 2 / 2 / 2 / 2 / 2 / 2 = 33 by decide]
  have k := kbt_bit (m / 2 / 2 / 2 / 2 / 2 / 2 / 2) 4
  rw [show (2 : Int) ^ 4 = 16 by decide] at k
  rw [kbt_halves, show (33 : Int) / 2 = 16 by decide, k]
  split <;> lia
theorem band_1032 (m : Int) : Builtin.bitAnd m 1032 = m / 1024 % 2 * 1024 + m / 8 % 2 * 8 := by
  rw [band_half (by decide), band_half (by decide), band_half (by decide), show (1032 : Int) / 2 / 2 / 2 = 129 by decide]
  have k := kbt_bit (m / 2 / 2 / 2 / 2) 6
  rw [show (2 : Int) ^ 6 = 64 by decide] at k
  rw [kbt_halves, show (129 : Int) / 2 = 64 by decide, k]
  split <;> lia
theorem band_513 (m : Int) : Builtin.bitAnd m 513 = m / 512 % 2 * 512 + m % 2 := by
  have k := kbt_bit (m / 2) 8
  rw [show (2 : Int) ^ 8 = 256 by decide] at k
  rw [kbt_halves, show (513 : Int) / 2 = 256 by decide, k]
  split <;> lia
theorem one_sign (m : Int) (j k c : Nat) (hj : j ≠ 0) : fmSign j m [((2 : Int) ^ k, c)] = if m / 2 ^ k % 2 = 1 then c else 45 := by
  unfold fmSign fmSign fmCond
  rw [if_neg hj, if_neg hj, band_bit]
  by_cases h : m / 2 ^ k % 2 = 1 <;> simp [h]
theorem sgn1 (m : Int) (j k c : Nat) (hj : j ≠ 0) (h0 : codeAt j 0 = 45) (h1 : codeAt j 1 = c) : fmSign j m [((2 : Int) ^ k, c)] = codeAt j (m / 2 ^ k % 2).toNat := by
  rw [one_sign m j k c hj]
  have hb : m / 2 ^ k % 2 = 0 ∨ m / 2 ^ k % 2 = 1 := by lia
  rcases hb with h | h <;> rw [h]
  · rw [if_neg (by decide)]; exact h0.symm
  · rw [if_pos rfl]; exact h1.symm
theorem sgn3 (m x e p q : Int) (j c1 c2 c3 : Nat) (hj : j ≠ 0) (hx : 0 ≤ x ∧ x ≤ 1) (he : 0 ≤ e ∧ e ≤ 1) (hp : 0 < p) (hq : 0 < q) (b1 : Builtin.bitAnd m (p + q) = e * p + x * q) (b2 : Builtin.bitAnd m p = e * p) (b3 : Builtin.bitAnd m q = x * q)
    (h0 : codeAt j 0 = 45) (h1 : codeAt j 1 = c2) (h2 : codeAt j 2 = c1) (h3 : codeAt j 3 = c3) : fmSign j m [(p + q, c1), (p, c2), (q, c3)] = codeAt j (fig3 x e).toNat := by
  unfold fmSign fmSign fmSign fmSign fmCond
  rw [if_neg hj, if_neg hj, if_neg hj, if_neg hj, b1, b2, b3]
  have hx' : x = 0 ∨ x = 1 := by lia
  have he' : e = 0 ∨ e = 1 := by lia
  rcases hx' with rfl | rfl <;> rcases he' with rfl | rfl
  · have e1 : ((0 : Int) * p + 0 * q == p + q) = false := by simp; lia
    have e2 : ((0 : Int) * p == p) = false := by simp; lia
    have e3 : ((0 : Int) * q == q) = false := by simp; lia
    simp only [e1, e2, e3]; exact h0.symm
  · have e1 : ((1 : Int) * p + 0 * q == p + q) = false := by simp; lia
    have e2 : ((1 : Int) * p == p) = true := by simp
    simp only [e1, e2]; exact h1.symm
  · have e1 : ((0 : Int) * p + 1 * q == p + q) = false := by simp; lia
    have e2 : ((0 : Int) * p == p) = false := by simp; lia
    have e3 : ((1 : Int) * q == q) = true := by simp
    simp only [e1, e2, e3]; exact h3.symm
  · have e1 : ((1 : Int) * p + 1 * q == p + q) = true := by simp
    simp only [e1]; exact h2.symm
theorem kbit (m : Int) (k : Nat) (c : Int) (h : (2 : Int) ^ k = c) : Builtin.bitAnd m c = m / c % 2 * c := by rw [← h]; exact kbt_bit m k
theorem sgn0 {m : Int} (h0 : 0 ≤ m) (h1 : m < 65536) : fmSign 0 m (fmTabs.getD 0 []) = codeAt 0 (dg m 0) := by
  obtain ⟨n, hn, e⟩ := kind_cases h0 h1
  have b := band_kind h0 h1
  have hc : ∀ c, fmCond 0 m c = (4096 * (n : Int) == c) := fun c => by unfold fmCond; rw [if_pos rfl, b, e]
  have hd : dg m 0 = (kindOf n).toNat := by show (kindOf (m / 4096)).toNat = _; rw [e]
  rw [hd]
  have hs : ∀ l, fmSign 0 m l = fmSign 0 (4096 * (n : Int)) l ∨ True := fun l => .inr trivial
  show fmSign 0 m [(40960, 108), (49152, 115), (32768, 45), (24576, 98), (16384, 100), (8192, 99), (4096, 112)] = _
  simp only [fmSign, hc]
  exact (by decide : ∀ n : Nat, n < 16 → (if (4096 * (n : Int) == 40960) = true then 108 else if (4096 * (n : Int) == 49152) = true then 115 else if (4096 * (n : Int) == 32768) = true then 45 else if (4096 * (n : Int) == 24576) = true then 98 else if (4096 * (n : Int) == 16384) = true then 100 else if (4096 * (n : Int) == 8192) = true then 99 else if (4096 * (n : Int) == 4096) = true then 112 else if True then 63 else 45) = codeAt 0 (kindOf n).toNat) n hn
theorem signs_dg {m : Int} (h0 : 0 ≤ m) (h1 : m < 65536) : fmFirst m 10 = (List.range 10).map fun j => codeAt j (dg m j) := by
  have s0 := sgn0 h0 h1
  have s1 := sgn1 m 1 8 114 (by decide) (by decide) (by decide)
  have s2 := sgn1 m 2 7 119 (by decide) (by decide) (by decide)
  have s3 := sgn3 m (m / 64 % 2) (m / 2048 % 2) 2048 64 3 115 83 120 (by decide) (by lia) (by lia) (by decide) (by decide) (band_2112 m) (kbit m 11 _ (by decide)) (kbit m 6 _ (by decide)) (by decide) (by decide) (by decide) (by decide)
  have s4 := sgn1 m 4 5 114 (by decide) (by decide) (by decide)
  have s5 := sgn1 m 5 4 119 (by decide) (by decide) (by decide)
  have s6 := sgn3 m (m / 8 % 2) (m / 1024 % 2) 1024 8 6 115 83 120 (by decide) (by lia) (by lia) (by decide) (by decide) (band_1032 m) (kbit m 10 _ (by decide)) (kbit m 3 _ (by decide)) (by decide) (by decide) (by decide) (by decide)
  have s7 := sgn1 m 7 2 114 (by decide) (by decide) (by decide)
  have s8 := sgn1 m 8 1 119 (by decide) (by decide) (by decide)
  have s9 := sgn3 m (m % 2) (m / 512 % 2) 512 1 9 116 84 120 (by decide) (by lia) (by lia) (by decide) (by decide) ((band_513 m).trans (by lia)) (kbit m 9 _ (by decide)) ((kbit m 0 1 (by decide)).trans (by lia)) (by decide) (by decide) (by decide) (by decide)
  unfold fmFirst
  simp only [show List.range 10 = [0, 1, 2, 3, 4, 5, 6, 7, 8, 9] from rfl, List.map_cons, List.map_nil]
  congr 1
  congr 1
  congr 1
  congr 1
  congr 1
  congr 1
  congr 1
  congr 1
  congr 1
  congr 1
end Mine
end

section
open PySem PySem.W PySem.Calls PyProof.Rows
set_option Elab.async false
set_option maxRecDepth 100000
set_option maxHeartbeats 1000000
set_option linter.unusedVariables false
namespace Mine
/-- the number of figures -/
noncomputable def val (ds : Nat → Nat) : Nat → Nat
  | 0 => 0
  | i + 1 => val ds i * lens i + ds i
/-- the text of figures -/
noncomputable def textOf (ds : Nat → Nat) : Str := ⟨((List.range 10).map fun j => codeAt j (ds j)).toArray⟩
noncomputable def Fits (ds : Nat → Nat) : Prop := ∀ j, j < 10 → ds j < lens j
theorem val_div {ds : Nat → Nat} (F : Fits ds) {i : Nat} (hi : i < 10) : val ds (i + 1) / lens i = val ds i := by
  have h := F i hi
  show (val ds i * lens i + ds i) / lens i = _
  rw [Nat.mul_comm, Nat.mul_add_div (by lia), Nat.div_eq_of_lt h, Nat.add_zero]
theorem val_mod {ds : Nat → Nat} (F : Fits ds) {i : Nat} (hi : i < 10) : val ds (i + 1) % lens i = ds i := by
  have h := F i hi
  show (val ds i * lens i + ds i) % lens i = _
  rw [Nat.mul_comm, Nat.mul_add_mod, Nat.mod_eq_of_lt h]
theorem val_fdiv {ds : Nat → Nat} (F : Fits ds) {i : Nat} (hi : i < 10) : ((val ds (i + 1) : Nat) : Int).fdiv ((lens i : Nat) : Int) = (val ds i : Nat) := by
  rw [Int.fdiv_eq_ediv_of_nonneg _ (Int.natCast_nonneg _), ← Int.natCast_ediv, val_div F hi]
theorem val_fmod {ds : Nat → Nat} (F : Fits ds) {i : Nat} (hi : i < 10) : ((val ds (i + 1) : Nat) : Int).fmod ((lens i : Nat) : Int) = (ds i : Nat) := by
  rw [Int.fmod_eq_emod_of_nonneg _ (Int.natCast_nonneg _), ← Int.natCast_emod, val_mod F hi]
theorem item_code : ∀ j, j < 10 → ∀ d, d < lens j → Txt.item (signsL.getD j ⟨#[]⟩) (d : Int) = ⟨#[codeAt j d]⟩ := by decide +kernel
theorem find_code : ∀ j, j < 10 → ∀ d, d < lens j → Txt.find (signsL.getD j ⟨#[]⟩) ⟨#[codeAt j d]⟩ = (d : Int) := by decide +kernel
theorem sign_len : ∀ j, j < 10 → (signsL.getD j ⟨#[]⟩).length = lens j := by decide
theorem code_mono : ∀ j, j < 10 → ∀ d, d < lens j → ∀ e, e < lens j → d < e → codeAt j d < codeAt j e := by decide +kernel
theorem cp_text (ds : Nat → Nat) {i : Nat} (hi : i < 10) : cpAt (textOf ds) i = codeAt i (ds i) := by
  unfold cpAt textOf
  simp [hi]
theorem text_size (ds : Nat → Nat) : (textOf ds).cps.size = 10 := by unfold textOf; simp
theorem told_val {ds : Nat → Nat} (F : Fits ds) : ∀ i, i ≤ 10 → toldTo (textOf ds) i = (val ds i : Nat)
  | 0, _ => rfl
  | i + 1, h => by
    show toldTo (textOf ds) i * ((signsL.getD i ⟨#[]⟩).length : Nat) + Txt.find (signsL.getD i ⟨#[]⟩) ⟨#[cpAt (textOf ds) i]⟩ = ((val ds i * lens i + ds i : Nat) : Int)
    rw [told_val F i (by lia), cp_text ds (by lia), find_code i (by lia) _ (F i (by lia)), sign_len i (by lia)]
    push_cast
    rfl
theorem val_le {ds : Nat → Nat} : ∀ i, i < 10 → val ds i ≤ val ds (i + 1) := fun i hi => by
  show val ds i ≤ val ds i * lens i + ds i
  have : 1 ≤ lens i := (by decide : ∀ i, i < 10 → 1 ≤ lens i) i hi
  exact Nat.le_trans (Nat.le_mul_of_pos_right _ this) (Nat.le_add_right _ _)
theorem val_lt {ds : Nat → Nat} (F : Fits ds) : val ds 10 < 32768 := by
  have f0 := F 0 (by decide); have f1 := F 1 (by decide); have f2 := F 2 (by decide); have f3 := F 3 (by decide); have f4 := F 4 (by decide)
  have f5 := F 5 (by decide); have f6 := F 6 (by decide); have f7 := F 7 (by decide); have f8 := F 8 (by decide); have f9 := F 9 (by decide)
  simp only [lens, List.getD_cons_zero, List.getD_cons_succ] at f0 f1 f2 f3 f4 f5 f6 f7 f8 f9
  simp only [val, lens, List.getD_cons_zero, List.getD_cons_succ]
  lia
theorem val_up {ds : Nat → Nat} (F : Fits ds) : ∀ i, i ≤ 10 → val ds i < 32768 := fun i hi => by
  have : ∀ k i, i + k = 10 → val ds i ≤ val ds 10 := fun k => by
    induction k with
    | zero => intro i h; rw [show i = 10 by lia]; exact Nat.le_refl _
    | succ k ih => intro i h; exact Nat.le_trans (val_le i (by lia)) (ih (i + 1) (by lia))
  exact Nat.lt_of_le_of_lt (this (10 - i) i (by lia)) (val_lt F)
theorem ten_signs (c0 c1 c2 c3 c4 c5 c6 c7 c8 c9 : Nat) : (⟨#[c0]⟩ ++ (⟨#[c1]⟩ ++ (⟨#[c2]⟩ ++ (⟨#[c3]⟩ ++ (⟨#[c4]⟩ ++ (⟨#[c5]⟩ ++ (⟨#[c6]⟩ ++ (⟨#[c7]⟩ ++ (⟨#[c8]⟩ ++ (⟨#[c9]⟩ ++ Str.ofString ""))))))))) : Str) = ⟨[c0, c1, c2, c3, c4, c5, c6, c7, c8, c9].toArray⟩ := by kernel_rfl
theorem written_val {ds : Nat → Nat} (F : Fits ds) : lawWritten (val ds 10 : Nat) = textOf ds := by
  unfold lawWritten
  have d9 := val_fdiv F (i := 9) (by decide); have m9 := val_fmod F (i := 9) (by decide)
  have d8 := val_fdiv F (i := 8) (by decide); have m8 := val_fmod F (i := 8) (by decide)
  have d7 := val_fdiv F (i := 7) (by decide); have m7 := val_fmod F (i := 7) (by decide)
  have d6 := val_fdiv F (i := 6) (by decide); have m6 := val_fmod F (i := 6) (by decide)
  have d5 := val_fdiv F (i := 5) (by decide); have m5 := val_fmod F (i := 5) (by decide)
  have d4 := val_fdiv F (i := 4) (by decide); have m4 := val_fmod F (i := 4) (by decide)
  have d3 := val_fdiv F (i := 3) (by decide); have m3 := val_fmod F (i := 3) (by decide)
  have d2 := val_fdiv F (i := 2) (by decide); have m2 := val_fmod F (i := 2) (by decide)
  have d1 := val_fdiv F (i := 1) (by decide); have m1 := val_fmod F (i := 1) (by decide)
  have m0 := val_fmod F (i := 0) (by decide)
  rw [show lens 9 = 4 from rfl] at d9 m9
  rw [show lens 8 = 2 from rfl] at d8 m8
  rw [show lens 7 = 2 from rfl] at d7 m7
  rw [show lens 6 = 4 from rfl] at d6 m6
  rw [show lens 5 = 2 from rfl] at d5 m5
  rw [show lens 4 = 2 from rfl] at d4 m4
  rw [show lens 3 = 4 from rfl] at d3 m3
  rw [show lens 2 = 2 from rfl] at d2 m2
  rw [show lens 1 = 2 from rfl] at d1 m1
  rw [show lens 0 = 8 from rfl] at m0
  rw [m9, d9, m8, d8, m7, d7, m6, d6, m5, d5, m4, d4, m3, d3, m2, d2, m1, d1, m0]
  have i9 := item_code 9 (by decide) _ (F 9 (by decide)); have i8 := item_code 8 (by decide) _ (F 8 (by decide)); have i7 := item_code 7 (by decide) _ (F 7 (by decide))
  have i6 := item_code 6 (by decide) _ (F 6 (by decide)); have i5 := item_code 5 (by decide) _ (F 5 (by decide)); have i4 := item_code 4 (by decide) _ (F 4 (by decide))
  have i3 := item_code 3 (by decide) _ (F 3 (by decide)); have i2 := item_code 2 (by decide) _ (F 2 (by decide)); have i1 := item_code 1 (by decide) _ (F 1 (by decide))
  have i0 := item_code 0 (by decide) _ (F 0 (by decide))
  simp only [signsL, List.getD_cons_zero, List.getD_cons_succ] at i0 i1 i2 i3 i4 i5 i6 i7 i8 i9
  rw [i0, i1, i2, i3, i4, i5, i6, i7, i8, i9]
  clear i0 i1 i2 i3 i4 i5 i6 i7 i8 i9 m0 m1 m2 m3 m4 m5 m6 m7 m8 m9 d1 d2 d3 d4 d5 d6 d7 d8 d9
  unfold textOf
  simp only [show List.range 10 = [0, 1, 2, 3, 4, 5, 6, 7, 8, 9] from rfl, List.map_cons, List.map_nil]
  exact ten_signs _ _ _ _ _ _ _ _ _ _
/-- the rule's number tells the order of the numbers -/
theorem cmp_val {ds es : Nat → Nat} (F : Fits ds) (G : Fits es) : ∀ i, i ≤ 10 → (cmpTo (textOf ds) (textOf es) i < 0 ↔ val ds i < val es i) ∧ (cmpTo (textOf ds) (textOf es) i = 0 ↔ val ds i = val es i)
  | 0, _ => ⟨by simp [cmpTo, val], by simp [cmpTo, val]⟩
  | i + 1, h => by
    obtain ⟨h1, h2⟩ := cmp_val F G i (by lia)
    have hd := F i (by lia)
    have he := G i (by lia)
    have m1 := code_mono i (by lia) _ hd _ he
    have m2 := code_mono i (by lia) _ he _ hd
    show ((if cmpTo (textOf ds) (textOf es) i = 0 then (cpAt (textOf ds) i : Int) - cpAt (textOf es) i else cmpTo (textOf ds) (textOf es) i) < 0 ↔ val ds i * lens i + ds i < val es i * lens i + es i) ∧ ((if cmpTo (textOf ds) (textOf es) i = 0 then (cpAt (textOf ds) i : Int) - cpAt (textOf es) i else cmpTo (textOf ds) (textOf es) i) = 0 ↔ val ds i * lens i + ds i = val es i * lens i + es i)
    rw [cp_text ds (by lia), cp_text es (by lia)]
    by_cases hz : cmpTo (textOf ds) (textOf es) i = 0
    · rw [if_pos hz, h2.mp hz]
      have he' : ds i = es i → codeAt i (ds i) = codeAt i (es i) := fun z => by rw [z]
      constructor <;> constructor <;> intro q
      · have : ds i < es i := by
          rcases Nat.lt_trichotomy (ds i) (es i) with z | z | z
          · exact z
          · have := he' z; lia
          · have := m2 z; lia
        lia
      · have : ds i < es i := by lia
        have := m1 this
        lia
      · have : ds i = es i := by
          rcases Nat.lt_trichotomy (ds i) (es i) with z | z | z
          · have := m1 z; lia
          · exact z
          · have := m2 z; lia
        lia
      · have : ds i = es i := by lia
        have := he' this
        lia
    · rw [if_neg hz, h1]
      have hv : val ds i ≠ val es i := fun z => hz (h2.mpr z)
      rcases Nat.lt_or_gt_of_ne hv with z | z
      · have := Nat.mul_le_mul_right (lens i) (show val ds i + 1 ≤ val es i from z)
        rw [Nat.add_mul, Nat.one_mul] at this
        constructor
        · constructor <;> intro _ <;> lia
        · constructor
          · intro q; exact absurd q hz
          · intro q; lia
      · have := Nat.mul_le_mul_right (lens i) (show val es i + 1 ≤ val ds i from z)
        rw [Nat.add_mul, Nat.one_mul] at this
        constructor
        · constructor <;> intro _ <;> lia
        · constructor
          · intro q; exact absurd q hz
          · intro q; lia
end Mine
end

section
open PySem PySem.W PySem.Calls PyProof.Rows
set_option Elab.async false
set_option maxRecDepth 100000
set_option maxHeartbeats 1000000
set_option linter.unusedVariables false
namespace Mine
theorem fig3_range {x e : Int} (hx : 0 ≤ x ∧ x ≤ 1) : 0 ≤ fig3 x e ∧ fig3 x e ≤ 3 := by unfold fig3; lia
theorem dg_fits {m : Int} (h0 : 0 ≤ m) (h1 : m < 65536) : Fits (dg m) := by
  intro j hj
  have k := kind_range h0 h1
  have a1 := fig3_range (x := m / 64 % 2) (e := m / 2048 % 2) (by lia)
  have a2 := fig3_range (x := m / 8 % 2) (e := m / 1024 % 2) (by lia)
  have a3 := fig3_range (x := m % 2) (e := m / 512 % 2) (by lia)
  match j, hj with
  | 0, _ => show (kindOf (m / 4096)).toNat < 8; lia
  | 1, _ => show (m / 256 % 2).toNat < 2; lia
  | 2, _ => show (m / 128 % 2).toNat < 2; lia
  | 3, _ => show (fig3 (m / 64 % 2) (m / 2048 % 2)).toNat < 4; lia
  | 4, _ => show (m / 32 % 2).toNat < 2; lia
  | 5, _ => show (m / 16 % 2).toNat < 2; lia
  | 6, _ => show (fig3 (m / 8 % 2) (m / 1024 % 2)).toNat < 4; lia
  | 7, _ => show (m / 4 % 2).toNat < 2; lia
  | 8, _ => show (m / 2 % 2).toNat < 2; lia
  | 9, _ => show (fig3 (m % 2) (m / 512 % 2)).toNat < 4; lia
theorem toNat_part (x y z : Int) (hx : 0 ≤ x ∧ x ≤ 1) (hy : 0 ≤ y ∧ y ≤ 1) (hz : 0 ≤ z ∧ z ≤ 3) : (x.toNat : Int) = x ∧ (y.toNat : Int) = y ∧ (z.toNat : Int) = z := by lia
theorem dg_val {m : Int} (h0 : 0 ≤ m) (h1 : m < 65536) : lawNumber m = (val (dg m) 10 : Nat) := by
  rw [number_bits h0 h1]
  have k := Int.toNat_of_nonneg (kind_range h0 h1).1
  obtain ⟨u1, u2, u3⟩ := toNat_part _ _ _ (bit_range m 256) (bit_range m 128) (fig3_range (e := m / 2048 % 2) (bit_range m 64))
  obtain ⟨v1, v2, v3⟩ := toNat_part _ _ _ (bit_range m 32) (bit_range m 16) (fig3_range (e := m / 1024 % 2) (bit_range m 8))
  obtain ⟨w1, w2, w3⟩ := toNat_part _ _ (fig3 (m % 2) (m / 512 % 2)) (bit_range m 4) (bit_range m 2) (fig3_range (by lia))
  simp only [val, lens, List.getD_cons_zero, List.getD_cons_succ, dg, part]
  push_cast
  rw [k, u1, u2, u3, v1, v2, v3, w1, w2, w3]
  generalize kindOf (m / 4096) = K
  generalize fig3 (m / 64 % 2) (m / 2048 % 2) = f1
  generalize fig3 (m / 8 % 2) (m / 1024 % 2) = f2
  generalize fig3 (m % 2) (m / 512 % 2) = f3
  generalize m / 256 % 2 = c1
  generalize m / 128 % 2 = c2
  generalize m / 32 % 2 = c3
  generalize m / 16 % 2 = c4
  generalize m / 4 % 2 = c5
  generalize m / 2 % 2 = c6
  clear k u1 u2 u3 v1 v2 v3 w1 w2 w3 h0 h1
  lia
theorem parts {m : Int} (h0 : 0 ≤ m) (h1 : m < 65536) : ∃ K p2 p1 p0 : Int, K = kindOf (m / 4096) ∧ lawNumber m = ((K * 16 + p2) * 16 + p1) * 16 + p0 ∧ (0 ≤ K ∧ K ≤ 7) ∧ (0 ≤ p2 ∧ p2 ≤ 15) ∧ (0 ≤ p1 ∧ p1 ≤ 15) ∧ (0 ≤ p0 ∧ p0 ≤ 15) ∧
    p2 = part (m / 256 % 2) (m / 128 % 2) (m / 64 % 2) (m / 2048 % 2) ∧ p1 = part (m / 32 % 2) (m / 16 % 2) (m / 8 % 2) (m / 1024 % 2) ∧ p0 = part (m / 4 % 2) (m / 2 % 2) (m % 2) (m / 512 % 2) :=
  ⟨_, _, _, _, rfl, number_bits h0 h1, kind_range h0 h1, part_range (by lia) (by lia) (by lia), part_range (by lia) (by lia) (by lia), part_range (by lia) (by lia) (by lia), rfl, rfl, rfl⟩
theorem number_kind {m : Int} (h0 : 0 ≤ m) (h1 : m < 65536) : (lawNumber m).fdiv 4096 = kindOf (m / 4096) := by
  obtain ⟨K, p2, p1, p0, e, hn, hK, r2, r1, r0, _⟩ := parts h0 h1
  rw [hn, Int.fdiv_eq_ediv_of_nonneg _ (by decide), ← e]
  lia
theorem asked_ok {m : Int} (h0 : 0 ≤ m) (h1 : m < 65536) : [fmtIs m 32768, fmtIs m 24576, fmtIs m 8192, fmtIs m 16384, fmtIs m 40960, fmtIs m 4096, fmtIs m 49152] = [sortIs (lawNumber m) 0, sortIs (lawNumber m) 2, sortIs (lawNumber m) 3, sortIs (lawNumber m) 4, sortIs (lawNumber m) 5, sortIs (lawNumber m) 6, sortIs (lawNumber m) 7] := by
  obtain ⟨n, hn, e⟩ := kind_cases h0 h1
  unfold fmtIs sortIs
  rw [band_kind h0 h1, number_kind h0 h1, e]
  have := (by decide : ∀ n : Nat, n < 16 → ((4096 * (n : Int) == 32768) = (kindOf n == 0)) ∧ ((4096 * (n : Int) == 24576) = (kindOf n == 2)) ∧ ((4096 * (n : Int) == 8192) = (kindOf n == 3)) ∧ ((4096 * (n : Int) == 16384) = (kindOf n == 4)) ∧ ((4096 * (n : Int) == 40960) = (kindOf n == 5)) ∧ ((4096 * (n : Int) == 4096) = (kindOf n == 6)) ∧ ((4096 * (n : Int) == 49152) = (kindOf n == 7))) n hn
  obtain ⟨e1, e2, e3, e4, e5, e6, e7⟩ := this
  rw [e1, e2, e3, e4, e5, e6, e7]
theorem fmt_ok {m : Int} (h0 : 0 ≤ m) (h1 : m < 65536) : (lawNumber m).fdiv 4096 = 1 ∨ Builtin.bitAnd m 61440 = [8, 0, 6, 2, 4, 10, 1, 12].getD ((lawNumber m).fdiv 4096).toNat 0 * 4096 := by
  obtain ⟨n, hn, e⟩ := kind_cases h0 h1
  rw [band_kind h0 h1, number_kind h0 h1, e]
  exact (by decide : ∀ n : Nat, n < 16 → kindOf n = 1 ∨ 4096 * (n : Int) = [8, 0, 6, 2, 4, 10, 1, 12].getD (kindOf n).toNat 0 * 4096) n hn
/-- three bits and the bit beside, out of a part -/
theorem part_back (x y z e : Int) (hx : 0 ≤ x ∧ x ≤ 1) (hy : 0 ≤ y ∧ y ≤ 1) (hz : 0 ≤ z ∧ z ≤ 1) (he : 0 ≤ e ∧ e ≤ 1) :
    part x y z e / 8 = x ∧ part x y z e / 4 % 2 = y ∧ part x y z e / 2 % 2 = z ∧ (part x y z e + part x y z e / 2 % 2) % 2 = e := by
  have hx' : x = 0 ∨ x = 1 := by lia
  have hy' : y = 0 ∨ y = 1 := by lia
  have hz' : z = 0 ∨ z = 1 := by lia
  have he' : e = 0 ∨ e = 1 := by lia
  rcases hx' with rfl | rfl <;> rcases hy' with rfl | rfl <;> rcases hz' with rfl | rfl <;> rcases he' with rfl | rfl <;> decide
theorem eights (x : Int) : x % 8 = x / 4 % 2 * 4 + x / 2 % 2 * 2 + x % 2 := by lia
theorem low_bits (m : Int) : m % 4096 = m / 512 % 8 * 512 + m / 64 % 8 * 64 + m / 8 % 8 * 8 + m % 8 := by lia
theorem rights_ok {m : Int} (h0 : 0 ≤ m) (h1 : m < 65536) : Builtin.bitAnd m 4095 = lawRights (lawNumber m) := by
  obtain ⟨K, p2, p1, p0, _, hn, hK, r2, r1, r0, e2, e1, e0⟩ := parts h0 h1
  rw [band_low]
  unfold lawRights
  simp only [Int.fdiv_eq_ediv_of_nonneg, Int.fmod_eq_emod_of_nonneg, show (0 : Int) ≤ 256 by decide, show (0 : Int) ≤ 16 by decide, show (0 : Int) ≤ 8 by decide, show (0 : Int) ≤ 4 by decide, show (0 : Int) ≤ 2 by decide, show (0 : Int) ≤ 1 by decide]
  have q2 : lawNumber m / 256 % 16 = p2 := by rw [hn]; lia
  have q1 : lawNumber m / 16 % 16 = p1 := by rw [hn]; lia
  have q0 : lawNumber m / 1 % 16 = p0 := by rw [hn]; lia
  rw [q2, q1, q0, e2, e1, e0]
  obtain ⟨a1, a2, a3, a4⟩ := part_back (m / 256 % 2) (m / 128 % 2) (m / 64 % 2) (m / 2048 % 2) (by lia) (by lia) (by lia) (by lia)
  obtain ⟨b1, b2, b3, b4⟩ := part_back (m / 32 % 2) (m / 16 % 2) (m / 8 % 2) (m / 1024 % 2) (by lia) (by lia) (by lia) (by lia)
  obtain ⟨c1, c2, c3, c4⟩ := part_back (m / 4 % 2) (m / 2 % 2) (m % 2) (m / 512 % 2) (by lia) (by lia) (by lia) (by lia)
  rw [a1, a2, a4, a3, b1, b2, b4, b3, c1, c2, c4, c3]
  clear a1 a2 a3 a4 b1 b2 b3 b4 c1 c2 c3 c4 q0 q1 q2 e0 e1 e2 r0 r1 r2 hK hn h0 h1
  rw [low_bits, eights (m / 512), eights (m / 64), eights (m / 8), eights m]
  simp only [dd64_4, dd64_2, dd8_4, dd8_2, dd512_4, dd512_2]
  generalize m / 2048 % 2 = v11
  generalize m / 1024 % 2 = v10
  generalize m / 512 % 2 = v9
  generalize m / 256 % 2 = v8
  generalize m / 128 % 2 = v7
  generalize m / 64 % 2 = v6
  generalize m / 32 % 2 = v5
  generalize m / 16 % 2 = v4
  generalize m / 8 % 2 = v3
  generalize m / 4 % 2 = v2
  generalize m / 2 % 2 = v1
  generalize m % 2 = v0
  lia
end Mine
end

section
open PySem PySem.W PySem.Calls PyProof.Rows
set_option Elab.async false
set_option maxRecDepth 100000
set_option maxHeartbeats 1000000
set_option linter.unusedVariables false
namespace Mine
/-- the text of a mode -/
noncomputable def txt (m : Int) : Str := ⟨(fmFirst m 10).toArray⟩
theorem txt_size (m : Int) : (txt m).cps.size = 10 := by unfold txt; simp [fmFirst_len]
theorem fn_in {w : World} {h : Heap} (X : (hd.heap_39 w.params).In h) {f : Addr} {o : Obj} (e : (hd.heap_39 w.params).lookup f = some o) : h.get? f = some o := X _ _ e
section
variable {w : World} {A : Around} {E : Value → Shared → Prop} {s s₂ : Shared} {env : Env} {mean : ExcName → Option Value} {mg mb : Str → Option Value}
/-- strong ground outlives what changes new things alone -/
theorem strong_but {h h' : Heap} {wr : List Addr} {n : Nat} (k : KeepsBut wr h h') (hw : ∀ a ∈ wr, h.get? a = none → True) : True := trivial
theorem elt_listed {scope : Scope} {cl : List (Str × Addr)} {wr : List Addr} {p1 p2 p3 p4 pt : Pos} {x1 : Nat} {md : Nat → Int} {n : Nat} (a1 : A.handled = none) (a2 : A.depth ≤ 600 - 10 * 2) (a3 : A.units ≤ 2000 - 50 * 2)
    (GX : ∀ h, KeepsBut wr s₂.heap h → (hd.heap_39 w.params).In h ∧ Top hd.view_39 loose mean mg mb h)
    (hk : scope.kind = .function) (hg : env.globals = mainGlobals) (hf : ∀ C, (compEnvC scope cl C env).kindOf (Str.ofString "filemode") = some .globalImplicit) (hb : scope.names.lookup (Str.ofString "bits") = some .local) (hp : scope.names.lookup (Str.ofString "place") = some .local) :
    EltOK w A env (.Tuple [.Call (.Name (Str.ofString "filemode") p1) [.Name (Str.ofString "bits") p2] [] p3, .Name (Str.ofString "place") p4] x1 pt) scope cl wr s₂ (fun i m' => (∃ t, m' (Str.ofString "bits") = some (.int (md i) t)) ∧ ∃ t, m' (Str.ofString "place") = some (.int i t)) (fun i v h => ∃ p, v = .ref p ∧ RowAt h p (txt (md i)) i) := by
  intro C i s m' hC kb hn hS
  obtain ⟨⟨tb, hbits⟩, ⟨tp, hplace⟩⟩ := hS
  obtain ⟨X, T⟩ := GX _ kb
  have G := Gw.of X T
  have hfo : ∃ o fd, (hd.heap_39 w.params).lookup 117 = some o ∧ o.data = .func fd := ⟨_, _, rfl, rfl⟩
  obtain ⟨fo, fd, hfo, hfd⟩ := hfo
  have hf1 := X _ _ hfo
  have kc : (compEnvC scope cl C env).scope.kind = .function := by simp [compEnvC, relabel, hk]
  refine wpAny_Tuple (args_cons (Call_ (ev_global kc (hf C) (by show s.heap.Ns env.globals mg; rw [hg]; exact T.g) (mg_filemode G) ?_)))
  refine callWith_def_at hf1 hfd (args_cons (ev_local kc (lookup_relabel_local hb) hn hbits (args_nil ⟨hf1, ?_⟩)))
  refine wpAny_mono (fit (c_filemode X T) a1 a2 a3) (fun v s3 hv => ?_) fun _ _ e => e.elim
  obtain ⟨h3, tk3, rfl, k3, tx, rfl⟩ := hv
  refine args_cons (ev_local kc (lookup_relabel_local hp) (ns_keep hn fun o e => k3 _ _ e) hplace (args_nil ⟨by rw [sizeLine_eq]; exact Nat.le_of_ble_eq_true rfl, ?_⟩))
  exact ⟨_, _, rfl, fun b o e => Heap.get?_push_of_some _ (k3 _ _ e), _, rfl, tx, tp, Heap.get?_push_size _ rfl, txt_size _⟩
end
end Mine
end

section
open PySem PySem.W PySem.Calls PyProof.Rows
set_option Elab.async false
set_option maxRecDepth 100000
set_option maxHeartbeats 1000000
set_option linter.unusedVariables false
namespace Mine
/-- all of the base stays, if what is written is not of it -/
theorem keeps_new {h₀ h h' : Heap} {wr : List Addr} (k : Keeps h₀ h) (kb : KeepsBut wr h h') (hw : ∀ a ∈ wr, h₀.get? a = none) : Keeps h₀ h' := fun b o e => kb b o (fun q => by rw [hw b q] at e; cases e) (k b o e)
theorem mb_enumerate {w : World} {mg mb : Str → Option Value} {h : Heap} (G : Gw w mg mb h) : mb (Str.ofString "enumerate") = some (.type "enumerate") := (G.T.builtins _ (by decide +kernel)).trans (by kernel_rfl)
theorem mb_zip {w : World} {mg mb : Str → Option Value} {h : Heap} (G : Gw w mg mb h) : mb (Str.ofString "zip") = some (.type "zip") := (G.T.builtins _ (by decide +kernel)).trans (by kernel_rfl)
theorem mb_all {w : World} {mg mb : Str → Option Value} {h : Heap} (G : Gw w mg mb h) : mb (Str.ofString "all") = some (.builtin "all") := (G.T.builtins _ (by decide +kernel)).trans (by kernel_rfl)
theorem mb_sorted {w : World} {mg mb : Str → Option Value} {h : Heap} (G : Gw w mg mb h) : mb (Str.ofString "sorted") = some (.builtin "sorted") := (G.T.builtins _ (by decide +kernel)).trans (by kernel_rfl)
theorem mb_min {w : World} {mg mb : Str → Option Value} {h : Heap} (G : Gw w mg mb h) : mb (Str.ofString "min") = some (.builtin "min") := (G.T.builtins _ (by decide +kernel)).trans (by kernel_rfl)
section
variable {w : World} {A : Around} {E : Value → Shared → Prop} {s : Shared} {env : Env} {mg mb : Str → Option Value} {m : Str → Option Value}
theorem go_enum {src : Str} {p1 p2 p3 : Pos} {R : Value → Shared → Prop} {D : Addr} {xs : Array Value} (G : Gw w mg mb s.heap) (hk : env.scope.kind = .function) (hg : env.globals = mainGlobals) (hb : env.builtins = builtinsNs) (n : s.heap.Ns env.locals m)
    (hn : env.kindOf (Str.ofString "enumerate") = some .globalImplicit) (hs : env.kindOf src = some .local) (hdb : (src == ("__debug__" : Str)) = false) (hm : m src = some (.ref D)) (hD : s.heap.IsList D xs)
    (hR : ∀ h₂ e it, IsEnum h₂ e it 0 .none → h₂.IsListIter it D 0 → h₂.IsList D xs → Keeps s.heap h₂ → s.heap.get? e = none → s.heap.get? it = none → e ≠ it → R (.ref e) { s with heap := h₂ }) :
    wpAny (model prog w) A (eval (.Call (.Name (Str.ofString "enumerate") p1) [.Name src p2] [] p3) env) (fun xv s₁ => wpAny (model prog w) A (pyIter xv) R E s₁) E s := by
  refine Call_ (ev_builtin hk hn (by rw [hg]; exact G.T.g) (by rw [hb]; exact G.T.b) (mg_enumerate G) (mb_enumerate G) ?_)
  refine PyProof.Rows.callWith_type1 (args_cons (ev_local hk hs n hm (args_nil (call_enumerate_list hD fun h' hE hI hz kk => wpAny_pyIter_enum hE ?_)) hdb))
  exact hR _ _ _ hE hI (hD.at fun o e => kk _ _ e) kk (Heap.get?_none_of_le (Nat.le_succ _)) (Heap.get?_none_of_le (Nat.le_refl _)) (Nat.succ_ne_self _)
theorem go_list {src : Str} {p2 : Pos} {R : Value → Shared → Prop} {D : Addr} {xs : Array Value} (hk : env.scope.kind = .function) (n : s.heap.Ns env.locals m)
    (hs : env.kindOf src = some .local) (hdb : (src == ("__debug__" : Str)) = false) (hm : m src = some (.ref D)) (hD : s.heap.IsList D xs)
    (hR : ∀ h₂ it, h₂.IsListIter it D 0 → h₂.IsList D xs → Keeps s.heap h₂ → s.heap.get? it = none → R (.ref it) { s with heap := h₂ }) :
    wpAny (model prog w) A (eval (.Name src p2) env) (fun xv s₁ => wpAny (model prog w) A (pyIter xv) R E s₁) E s := by
  refine ev_local hk hs n hm (wpAny_pyIter_list hD ?_) hdb
  exact hR _ _ ⟨_, Heap.get?_push_size _ rfl, rfl, rfl⟩ (hD.at fun o e => Heap.get?_push_of_some _ e) (fun b o e => Heap.get?_push_of_some _ e) (Heap.get?_none_of_le (Nat.le_refl _))
end
end Mine
end

section
open PySem PySem.W PySem.Calls PyProof.Rows
set_option Elab.async false
set_option maxRecDepth 100000
set_option maxHeartbeats 1000000
set_option linter.unusedVariables false
namespace Mine
theorem none_of_keeps {h h' : Heap} (k : Keeps h h') {a : Addr} (e : h'.get? a = none) : h.get? a = none := by
  cases q : h.get? a with
  | none => rfl
  | some o => rw [k _ _ q] at e; cases e
theorem ne_new {h : Heap} {a b : Addr} {o : Obj} (e : h.get? a = some o) (q : h.get? b = none) : a ≠ b := fun z => by rw [z, q] at e; cases e
theorem but_new {h h₂ h' : Heap} {wr new : List Addr} (k : Keeps h h₂) (kb : KeepsBut (wr ++ new) h₂ h') (hw : ∀ a ∈ new, h.get? a = none) : KeepsBut wr h h' := fun b o hb e => kb b o (fun q => by
  rcases List.mem_append.mp q with q | q
  · exact hb q
  · rw [hw b q] at e; cases e) (k b o e)
section
variable {w : World} {A : Around} {E : Value → Shared → Prop} {s : Shared} {env : Env} {m : Str → Option Value}
theorem enum_store {elt : PySem.Expr} {a b y : Str} {pa pb pt : Pos} {x1} {scope : Scope} {cl : List (Str × Addr)} {Q : Flow → Shared → Prop} {h₂ : Heap} {e it D : Addr} {xs : Array Value} {P : Nat → Value → Heap → Prop} (hh : A.handled = none) (n : s.heap.Ns env.locals m) (hD : s.heap.IsList D xs) (hsz : xs.size ≤ 1000)
    (ha : scope.names.lookup a = some .local) (hb : scope.names.lookup b = some .local) (hkind : scope.kind = .function)
    (hE : IsEnum h₂ e it 0 .none) (hI : h₂.IsListIter it D 0) (hl : h₂.IsList D xs) (k : Keeps s.heap h₂) (fe : s.heap.get? e = none) (fi : s.heap.get? it = none) (hei : e ≠ it)
    (hP : ∀ i v h h', P i v h → KE h h' → P i v h')
    (hPI : ∀ j v h h', P j v h → (∃ o, h.get? e = some o ∧ o.cls = .type "enumerate") → (∃ o, h.get? it = some o ∧ o.cls = .type "list_iterator") → KeepsBut [e, it] h h' → P j v h')
    (el : EltOK w A env elt scope cl [e, it] { s with heap := h₂ } (fun i m' => i < xs.size ∧ ∃ v t, xs[i]? = some v ∧ m' b = some v ∧ (a ≠ b → m' a = some (.int i t))) P)
    (hQ : ∀ D' ys h' tk c, s.heap.get? D' = none → ys.length = xs.size → Elts P ys h' → KeepsBut [env.locals] s.heap h' → h'.Ns env.locals (fun z => if z = y then some (.ref D') else m z) → h'.get? D' = some (listOf ys.toArray c) → Q .next { s with heap := h', toks := tk }) :
    CompStore w A env elt (.Tuple [.Name a pa, .Name b pb] x1 pt) scope cl y Q (.ref e) { s with heap := h₂ } := by
  obtain ⟨oD, eD, _⟩ := id hD
  obtain ⟨oL, _, _, eL, _⟩ := id n
  refine ⟨e, xs.size, [e, it], _, _, m, rfl, CompOK.enum hh hE hI hl hei (ne_new eD fe) (ne_new eD fi) hsz ha hb hkind hP hPI el, ?_, ns_keep n fun o q => k _ _ q, ?_⟩
  · simp [ne_new eL fe, ne_new eL fi]
  · intro D' ys h' tk c f1 f2 hlen hel kb n' hd
    exact hQ D' ys h' tk c (none_of_keeps k f1) hlen hel (but_new (wr := [env.locals]) (new := [e, it]) k kb (by simp [fe, fi])) n' hd
theorem enum_go {elt : PySem.Expr} {a b : Str} {pa pb pt : Pos} {x1} {scope : Scope} {cl : List (Str × Addr)} {Q : Value → Shared → Prop} {h₂ : Heap} {e it D : Addr} {xs : Array Value} {P : Nat → Value → Heap → Prop} (hh : A.handled = none) (hD : s.heap.IsList D xs) (hsz : xs.size ≤ 1000)
    (ha : scope.names.lookup a = some .local) (hb : scope.names.lookup b = some .local) (hkind : scope.kind = .function)
    (hE : IsEnum h₂ e it 0 .none) (hI : h₂.IsListIter it D 0) (hl : h₂.IsList D xs) (k : Keeps s.heap h₂) (fe : s.heap.get? e = none) (fi : s.heap.get? it = none) (hei : e ≠ it)
    (hP : ∀ i v h h', P i v h → KE h h' → P i v h')
    (hPI : ∀ j v h h', P j v h → (∃ o, h.get? e = some o ∧ o.cls = .type "enumerate") → (∃ o, h.get? it = some o ∧ o.cls = .type "list_iterator") → KeepsBut [e, it] h h' → P j v h')
    (el : EltOK w A env elt scope cl [e, it] { s with heap := h₂ } (fun i m' => i < xs.size ∧ ∃ v t, xs[i]? = some v ∧ m' b = some v ∧ (a ≠ b → m' a = some (.int i t))) P)
    (hQ : ∀ D' ys h' tk c, s.heap.get? D' = none → ys.length = xs.size → Elts P ys h' → Keeps s.heap h' → h'.get? D' = some (listOf ys.toArray c) → Q (.ref D') { s with heap := h', toks := tk }) :
    CompGo w A env elt (.Tuple [.Name a pa, .Name b pb] x1 pt) scope cl Q (.ref e) { s with heap := h₂ } := by
  obtain ⟨oD, eD, _⟩ := id hD
  refine ⟨e, xs.size, [e, it], _, _, rfl, CompOK.enum hh hE hI hl hei (ne_new eD fe) (ne_new eD fi) hsz ha hb hkind hP hPI el, ?_⟩
  intro D' ys h' tk c f1 f2 hlen hel kb hd
  exact hQ D' ys h' tk c (none_of_keeps k f1) hlen hel (fun b o => but_new (wr := []) (new := [e, it]) k kb (by simp [fe, fi]) b o (by simp)) hd
theorem list_store {elt : PySem.Expr} {x y : Str} {px : Pos} {scope : Scope} {cl : List (Str × Addr)} {Q : Flow → Shared → Prop} {D : Addr} {xs : Array Value} {P : Nat → Value → Heap → Prop} (hh : A.handled = none) (n : s.heap.Ns env.locals m) (hD : s.heap.IsList D xs) (hsz : xs.size ≤ 1000)
    (hx : scope.names.lookup x = some .local) (hkind : scope.kind = .function)
    (hP : ∀ i v h h', P i v h → KE h h' → P i v h')
    (hPI : ∀ I j v i h h', P j v h → h.IsListIter I D i → KeepsBut [I] h h' → P j v h')
    (el : ∀ h₂ I, Keeps s.heap h₂ → s.heap.get? I = none → EltOK w A env elt scope cl [I] { s with heap := h₂ } (fun i m' => i < xs.size ∧ ∃ v, xs[i]? = some v ∧ m' x = some v) P)
    (hQ : ∀ D' ys h' tk c, s.heap.get? D' = none → ys.length = xs.size → Elts P ys h' → KeepsBut [env.locals] s.heap h' → h'.Ns env.locals (fun z => if z = y then some (.ref D') else m z) → h'.get? D' = some (listOf ys.toArray c) → Q .next { s with heap := h', toks := tk }) :
    wpAny (model prog w) A (pyIter (.ref D)) (CompStore w A env elt (.Name x px) scope cl y Q) E s := by
  obtain ⟨oD, eD, _⟩ := id hD
  obtain ⟨oL, _, _, eL, _⟩ := id n
  refine wpAny_pyIter_list hD ?_
  have k : Keeps s.heap (s.heap.push { cls := .type "list_iterator", data := .fields #[.ref D, .int 0 0] }) := fun b o e => Heap.get?_push_of_some _ e
  have f : s.heap.get? s.heap.objs.size = none := Heap.get?_none_of_le (Nat.le_refl _)
  refine ⟨_, xs.size, [s.heap.objs.size], _, _, m, rfl, CompOK.list hh ⟨_, Heap.get?_push_size _ rfl, rfl, rfl⟩ (hD.at fun o e => k _ _ e) (ne_new eD f) hsz hx hkind hP (hPI _) (el _ _ k f), ?_, ns_keep n fun o q => k _ _ q, ?_⟩
  · simp [ne_new eL f]
  · intro D' ys h' tk c f1 f2 hlen hel kb n' hd
    exact hQ D' ys h' tk c (none_of_keeps k f1) hlen hel (but_new (wr := [env.locals]) (new := [_]) k kb (by simp [f])) n' hd
theorem list_go {elt : PySem.Expr} {x : Str} {px : Pos} {scope : Scope} {cl : List (Str × Addr)} {Q : Value → Shared → Prop} {D : Addr} {xs : Array Value} {P : Nat → Value → Heap → Prop} (hh : A.handled = none) (hD : s.heap.IsList D xs) (hsz : xs.size ≤ 1000)
    (hx : scope.names.lookup x = some .local) (hkind : scope.kind = .function)
    (hP : ∀ i v h h', P i v h → KE h h' → P i v h')
    (hPI : ∀ I j v i h h', P j v h → h.IsListIter I D i → KeepsBut [I] h h' → P j v h')
    (el : ∀ h₂ I, Keeps s.heap h₂ → s.heap.get? I = none → EltOK w A env elt scope cl [I] { s with heap := h₂ } (fun i m' => i < xs.size ∧ ∃ v, xs[i]? = some v ∧ m' x = some v) P)
    (hQ : ∀ D' ys h' tk c, s.heap.get? D' = none → ys.length = xs.size → Elts P ys h' → Keeps s.heap h' → h'.get? D' = some (listOf ys.toArray c) → Q (.ref D') { s with heap := h', toks := tk }) :
    wpAny (model prog w) A (pyIter (.ref D)) (CompGo w A env elt (.Name x px) scope cl Q) E s := by
  obtain ⟨oD, eD, _⟩ := id hD
  refine wpAny_pyIter_list hD ?_
  have k : Keeps s.heap (s.heap.push { cls := .type "list_iterator", data := .fields #[.ref D, .int 0 0] }) := fun b o e => Heap.get?_push_of_some _ e
  have f : s.heap.get? s.heap.objs.size = none := Heap.get?_none_of_le (Nat.le_refl _)
  refine ⟨_, xs.size, [s.heap.objs.size], _, _, rfl, CompOK.list hh ⟨_, Heap.get?_push_size _ rfl, rfl, rfl⟩ (hD.at fun o e => k _ _ e) (ne_new eD f) hsz hx hkind hP (hPI _) (el _ _ k f), ?_⟩
  intro D' ys h' tk c f1 f2 hlen hel kb hd
  exact hQ D' ys h' tk c (none_of_keeps k f1) hlen hel (fun b o => but_new (wr := []) (new := [_]) k kb (by simp [f]) b o (by simp)) hd
end
end Mine
end

section
open PySem PySem.W PySem.W.X PyProof.Rows PySem.Calls
set_option Elab.async false
set_option maxRecDepth 100000
set_option maxHeartbeats 1000000
set_option linter.unusedVariables false
namespace Mine
/-- what the class K is made of, as a fragment -/
noncomputable abbrev K4 (a ns md f0 f1 : Addr) (co no mo o0 o1 : Obj) : Frag := [(a, co), (ns, no), (md, mo), (f0, o0), (f1, o1)]
theorem look_cons {K : Frag} {x y : Addr} {o : Obj} (h : x ≠ y) : List.lookup x ((y, o) :: K) = K.lookup x := by
  rw [List.lookup_cons, show (x == y) = false from beq_false_of_ne h]
theorem look_self {K : Frag} {x : Addr} {o : Obj} : List.lookup x ((x, o) :: K) = some o := by
  rw [List.lookup_cons, show (x == x) = true from beq_self_eq_true x]
theorem ne_obj {h : Heap} {x y : Addr} {ox oy : Obj} (ex : h.get? x = some ox) (ey : h.get? y = some oy) (hne : ox ≠ oy) : x ≠ y := fun z => by
  rw [z, ey] at ex; cases ex; exact hne rfl
structure KF4 (h : Heap) (a ns md : Addr) (b : Bod) (cell : Addr) (K : Frag) (cd : ClassData) (sl : Array (Option Value)) (t0 : Tok) : Prop where
  X : K.In h
  la : K.lookup a = some (clK cd sl)
  ln : ∃ k1 t1 k2 t2, K.lookup ns = some (dObj (b.es3 k1 t1 md k2 t2) 3)
  lm : K.lookup md = some (mdObj a t0)
  l0 : ∃ o, K.lookup (b.f 0) = some o ∧ o.cls = .type "function"
  l1 : ∃ o, K.lookup (b.f 1) = some o ∧ o.cls = .type "function"
  ecd : cd = cdK ns [.ref a, .type "object"] false [Str.ofString "obj"]
  esl : ∃ x y z, sl = #[x, none, y, z, some (.builtin "object.__new__"), some (.bool false)]
theorem KC.frag {h : Heap} {a : Addr} {b : Bod} {ns md cell : Addr} (kc : KC h a b ns md cell) : ∃ K cd sl t0, KF4 h a ns md b cell K cd sl t0 := by
  obtain ⟨⟨tb, t, k1, t0, t1, k2, t2, KA⟩, ⟨_, _, _, _, _, _, doc, pm, c0, ct, e0, r0⟩, ⟨_, _, _, _, _, _, _, _, _, _, _, doc1, pm1, c1, ct1, e1, r1⟩, _⟩ := kc
  have n1 := ne_obj KA.hn KA.hc (fun z => absurd (congrArg Obj.cls z) (by simp))
  have n2 := ne_obj KA.hm KA.hc (fun z => absurd (congrArg Obj.cls z) (by simp))
  have n3 := ne_obj KA.hm KA.hn (fun z => absurd (congrArg Obj.cls z) (by simp))
  have n4 := ne_obj e0 KA.hc (fun z => absurd (congrArg Obj.cls z) (by simp))
  have n5 := ne_obj e0 KA.hn (fun z => absurd (congrArg Obj.cls z) (by simp))
  have n6 := ne_obj e0 KA.hm (fun z => absurd (congrArg Obj.cls z) (by simp))
  have n7 := ne_obj e1 KA.hc (fun z => absurd (congrArg Obj.cls z) (by simp))
  have n8 := ne_obj e1 KA.hn (fun z => absurd (congrArg Obj.cls z) (by simp))
  have n9 := ne_obj e1 KA.hm (fun z => absurd (congrArg Obj.cls z) (by simp))
  have n10 := ne_obj e1 e0 (fun z => by
    have := congrArg Obj.data z
    simp at this)
  obtain ⟨o1, e1, hc1⟩ : ∃ o, h.get? (b.f 1) = some o ∧ o.cls = .type "function" := ⟨_, e1, rfl⟩
  obtain ⟨o0, e0, hc0⟩ : ∃ o, h.get? (b.f 0) = some o ∧ o.cls = .type "function" := ⟨_, e0, rfl⟩
  refine ⟨K4 a ns md (b.f 0) (b.f 1) (clK (cdK ns [.ref a, .type "object"] false [Str.ofString "obj"]) #[some (.ref tb), none, some (.str (Str.ofString "K") t), some (.str (Str.ofString "cmp_to_key.<locals>.K") b.tq), some (.builtin "object.__new__"), some (.bool false)]) (dObj (b.es3 k1 t1 md k2 t2) 3) (mdObj a t0) o0 o1, _, _, t0, ?_, look_self, ⟨k1, t1, k2, t2, (look_cons n1).trans look_self⟩, (look_cons n2).trans ((look_cons n3).trans look_self), ⟨_, (look_cons n4).trans ((look_cons n5).trans ((look_cons n6).trans look_self)), hc0⟩, ⟨_, (look_cons n7).trans ((look_cons n8).trans ((look_cons n9).trans ((look_cons n10).trans look_self))), hc1⟩, rfl, ⟨_, _, _, rfl⟩⟩
  intro x o e
  have := lookup_mem e
  simp only [List.mem_cons, List.not_mem_nil, or_false, Prod.mk.injEq] at this
  rcases this with ⟨rfl, rfl⟩ | ⟨rfl, rfl⟩ | ⟨rfl, rfl⟩ | ⟨rfl, rfl⟩ | ⟨rfl, rfl⟩
  · exact KA.hc
  · exact KA.hn
  · exact KA.hm
  · exact e0
  · exact e1
section
variable {w : World} {h : Heap} {a ns md cell : Addr} {b : Bod} {K : Frag} {cd : ClassData} {sl : Array (Option Value)} {t0 : Tok}
theorem KF4.makes (F : KF4 h a ns md b cell K cd sl t0) : makesIn K a = true := by
  obtain ⟨x, y, z, rfl⟩ := F.esl
  have la := F.la
  have ecd := F.ecd
  subst ecd
  unfold makesIn specialIn instIn typeIn
  rw [la]
  simp
  rw [la]
  exact ⟨by kernel_rfl, by kernel_rfl⟩
theorem ownA (F : KF4 h a ns md b cell K cd sl t0) {name : Str} {r : Option Value} (hr : ∀ k1 t1 k2 t2, (match (b.es3 k1 t1 md k2 t2).toList.find? (·.key.isStr name) with | some e => some (some e.val) | none => if (b.es3 k1 t1 md k2 t2).toList.any (·.refKey) then none else some none) = some r) : ownIn K name (.ref a) = some r := by
  obtain ⟨k1, t1, k2, t2, ln⟩ := F.ln
  have ecd := F.ecd
  unfold ownIn nsIn
  dsimp only
  rw [F.la]
  dsimp only
  rw [ecd, ln]
  exact hr k1 t1 k2 t2
theorem findA (F : KF4 h a ns md b cell K cd sl t0) {name : Str} {v : Value} (hr : ∀ k1 t1 k2 t2, (match (b.es3 k1 t1 md k2 t2).toList.find? (·.key.isStr name) with | some e => some (some e.val) | none => if (b.es3 k1 t1 md k2 t2).toList.any (·.refKey) then none else some none) = some (some v)) : findIn K (.ref a) name = some (some v) := by
  have ecd := F.ecd
  have := ownA F hr
  unfold findIn
  dsimp only
  rw [F.la]
  dsimp only
  rw [ecd]
  unfold alongIn
  rw [this]
theorem findB (F : KF4 h a ns md b cell K cd sl t0) {name : Str} {r : Option Value} (hr : ∀ k1 t1 k2 t2, (match (b.es3 k1 t1 md k2 t2).toList.find? (·.key.isStr name) with | some e => some (some e.val) | none => if (b.es3 k1 t1 md k2 t2).toList.any (·.refKey) then none else some none) = some none)
    (ho : alongIn K name [.type "object"] = some r) : findIn K (.ref a) name = some r := by
  have ecd := F.ecd
  have := ownA F hr
  unfold findIn
  dsimp only
  rw [F.la]
  dsimp only
  rw [ecd]
  unfold alongIn
  rw [this]
  exact ho
theorem KF4.init (F : KF4 h a ns md b cell K cd sl t0) : findIn K (.ref a) (Str.ofString "__init__") = some (some (.ref (b.f 0))) := findA F fun _ _ _ _ => by kernel_rfl
theorem KF4.lt (F : KF4 h a ns md b cell K cd sl t0) : findIn K (.ref a) (Str.ofString "__lt__") = some (some (.ref (b.f 1))) := findA F fun _ _ _ _ => by kernel_rfl
theorem KF4.obj (F : KF4 h a ns md b cell K cd sl t0) : findIn K (.ref a) (Str.ofString "obj") = some (some (.ref md)) := findA F fun _ _ _ _ => by kernel_rfl
theorem KF4.sa (F : KF4 h a ns md b cell K cd sl t0) : findIn K (.ref a) (Str.ofString "__setattr__") = some (some (.builtin "object.__setattr__")) := findB F (fun _ _ _ _ => by kernel_rfl) (by kernel_rfl)
theorem KF4.over (F : KF4 h a ns md b cell K cd sl t0) : plainOver K a = true := by
  have ecd := F.ecd
  unfold plainOver clsIn
  rw [F.la]
  dsimp only
  rw [ecd]
  rfl
theorem KF4.slot (F : KF4 h a ns md b cell K cd sl t0) : slotIn K md a = some 0 := by
  have ecd := F.ecd
  unfold slotIn recIn clsIn
  rw [F.la, F.lm, ecd]
  simp [rawInt]
theorem KF4.tmd (F : KF4 h a ns md b cell K cd sl t0) : typeIn K (.ref md) = some (.type "member_descriptor") := by
  unfold typeIn
  dsimp only
  rw [F.lm]
  rfl
theorem KF4.taker (F : KF4 h a ns md b cell K cd sl t0) : takerIn K a (Str.ofString "obj") = some (some (.ref md)) := by
  unfold takerIn takesIn specialIn
  rw [F.obj, Option.bind_some]
  dsimp only
  rw [F.tmd, Option.bind_some]
  kernel_rfl
theorem KF4.t0' (F : KF4 h a ns md b cell K cd sl t0) : typeIn K (.ref (b.f 0)) = some (.type "function") := by
  obtain ⟨o, e, hc⟩ := F.l0
  unfold typeIn
  dsimp only
  rw [e, Option.map_some, hc]
theorem KF4.t1' (F : KF4 h a ns md b cell K cd sl t0) : typeIn K (.ref (b.f 1)) = some (.type "function") := by
  obtain ⟨o, e, hc⟩ := F.l1
  unfold typeIn
  dsimp only
  rw [e, Option.map_some, hc]
end
end Mine
end

section
open PySem PySem.W PySem.W.X PyProof.Rows PySem.Calls
set_option Elab.async false
set_option maxRecDepth 100000
set_option maxHeartbeats 1000000
set_option linter.unusedVariables false
namespace Mine
noncomputable def allBut (h : Heap) (l : List Addr) : List (Addr × Obj) := (List.range h.objs.size).filterMap fun a => if a ∈ l then none else (h.get? a).map fun o => (a, o)
theorem mem_allBut {h : Heap} {l : List Addr} {b : Addr} {o : Obj} : (b, o) ∈ allBut h l ↔ h.get? b = some o ∧ b ∉ l := by
  unfold allBut
  rw [List.mem_filterMap]
  constructor
  · rintro ⟨a, _, e⟩
    split at e
    · cases e
    · rename_i hn
      obtain ⟨o', e', z⟩ := Option.map_eq_some_iff.mp e
      cases z
      exact ⟨e', hn⟩
  · rintro ⟨e, hn⟩
    exact ⟨b, List.mem_range.mpr (Heap.lt_size e), by rw [if_neg hn, e]; rfl⟩
noncomputable def h0 : Heap := { objs := #[] }
theorem h0_none (a : Addr) : h0.get? a = none := by
  have : h0.objs.size ≤ a := Nat.zero_le _
  exact Heap.get?_none_of_le this
theorem fr0 {h : Heap} {L : Addr} {m : Str → Option Value} (n : h.Ns L m) : Fr h0 L h m := ⟨n, fun b o e => (by rw [h0_none] at e; cases e), Nat.zero_le _⟩
theorem news0 {h : Heap} {L : Addr} {l : List Addr} (hL : L ∈ l) : News h0 L h (allBut h l) := fun p hp => by
  obtain ⟨e, n⟩ := mem_allBut.mp (show (p.1, p.2) ∈ allBut h l from hp)
  exact ⟨e, fun z => n (z ▸ hL), h0_none _⟩
theorem two_cells : ∀ x ∈ (sTwo (Str.ofString "self") (Str.ofString "obj") []).names, x.2 ≠ .cell := by decide
noncomputable abbrev kInst (a dx : Addr) (v : Value) : Obj := { cls := .ref a, dict := some dx, data := .plain, slots := #[some v] }
noncomputable def InstK (h : Heap) (x a : Addr) (v : Value) : Prop := ∃ dx, h.get? x = some (kInst a dx v) ∧ h.get? dx = some emptyDict
theorem InstK.keeps {h h' : Heap} {x a : Addr} {v : Value} (i : InstK h x a v) (k : Keeps h h') : InstK h' x a v := let ⟨dx, e, e'⟩ := i; ⟨dx, k _ _ e, k _ _ e'⟩
noncomputable def isInst (a : Addr) (v : Value) (r : Value) (h : Heap) : Prop := ∃ x, r = .ref x ∧ InstK h x a v
theorem instAt {h : Heap} {x dx a : Addr} {sl : Array (Option Value)} {od : Obj} (e : h.get? x = some { cls := .ref a, dict := some dx, data := .plain, slots := sl }) (e2 : h.get? dx = some od) : InstAt h x { cls := .ref a, dict := some dx, data := .plain, slots := sl } a (some od) := ⟨e, rfl, rfl, e2⟩
section
variable {w : World} {s : Shared} {a ns md cell : Addr} {b : Bod}
theorem c_knew {v : Value} (kc : KC s.heap a b ns md cell) (lim : s.heap.NoLimit) : wpAny (model prog w) (AL 1) (call (.ref a) [v]) (Back s (isInst a v)) NoE s := by
  obtain ⟨K, cd, sl, t0, F⟩ := kc.frag
  obtain ⟨p1, p2, p3, p4, p5, p6, doc, pm, c', ctv, ho, hr⟩ := kc.init
  obtain ⟨h, g, d, t, os⟩ := s
  refine wpAny_call (make_core (makes_of F.X F.makes) (looks_findIn F.X F.init) (fun self => bind_fn F.X self F.t0') (.inl rfl) ?_)
  have k1 : Keeps h ((h.push emptyDict).push (instObj a h.objs.size)) := fun b o e => Heap.get?_push_of_some _ (Heap.get?_push_of_some _ e)
  have hx : ((h.push emptyDict).push (instObj a h.objs.size)).get? (h.objs.size + 1) = some (instObj a h.objs.size) := by heap_get
  have hdx : ((h.push emptyDict).push (instObj a h.objs.size)).get? h.objs.size = some emptyDict := Heap.get?_push_of_some _ (Heap.get?_push_size _ rfl)
  generalize hxx : h.objs.size + 1 = x at hx
  generalize hdd : h.objs.size = dx at hx hdx k1
  have hfx : h.get? x = none := Heap.get?_none_of_le (by rw [← hxx]; exact Nat.le_succ _)
  generalize (h.push emptyDict).push (instObj a dx) = h1 at k1 hx hdx
  refine codeAny_call_def (s := ⟨h1, g, d, t, os⟩) (fd := fnX _ _ _ _ _ _ _ _ _ _ _ _ _) (binds := [(Str.ofString "self", .ref x), (Str.ofString "obj", v)]) (Nat.le_of_ble_eq_true rfl) (k1 _ _ ho) rfl (lim.keeps k1) (codeRec_keep hr fun o e => k1 _ _ e) rfl (BindsTo.of_eq rfl) two_cells (locs rfl) (fun h2 n2 k2 => ?_)
  generalize hL : h1.objs.size = L at n2
  refine wpAny_execs_cons (plainObj_wpAny_Assign_Attribute (ev_local rfl rfl n2 (v := v) rfl (ev_local rfl rfl n2 (v := .ref x) rfl ?_)))
  have X2 : K.In h2 := (F.X.keeps k1).keeps k2
  have hx2 := k2 _ _ hx
  have I2 := instAt hx2 (k2 _ _ hdx)
  have xL : x ≠ L := Nat.ne_of_lt (hL ▸ Heap.lt_size hx)
  have N2 : News h0 L h2 ([] ++ (x, instObj a dx) :: allBut h2 [x, L]) := fun p hp => by
    rcases List.mem_cons.mp hp with rfl | hp
    · exact ⟨hx2, xL, h0_none _⟩
    · exact news0 (by simp) p hp
  refine set_plain X2 I2 F.sa (osa_descr KF.slot_mset X2 I2 F.over F.taker F.tmd (slot_set (fr0 n2) N2 X2 I2 F.slot (by decide) (fun p hp => (nomatch hp)) (fun p hp => ?_) (ox' := kInst a dx v) rfl rfl fun h3 F3 N3 => ?_))
  · have := (mem_allBut.mp (show (p.1, p.2) ∈ allBut h2 [x, L] from hp)).2
    simp at this
    exact this.1
  · refine wpAny_execs_nil ⟨rfl, ?_⟩
    refine ⟨h3, _, rfl, fun b o e => ?_, x, rfl, dx, (N3 (x, kInst a dx v) (.head _)).1, (N3 (dx, emptyDict) (.tail _ (mem_allBut.mpr ⟨k2 _ _ hdx, ?_⟩))).1⟩
    rotate_left
    · have d1 : dx ≠ x := by lia
      have d2 : dx ≠ L := Nat.ne_of_lt (hL ▸ Heap.lt_size hdx)
      simp [d1, d2]
    refine (N3 (b, o) (.tail _ (mem_allBut.mpr ⟨k2 _ _ (k1 _ _ e), ?_⟩))).1
    have : b ≠ x := fun z => by rw [z, hfx] at e; cases e
    have : b ≠ L := Nat.ne_of_lt (hL ▸ Heap.lt_size (k1 _ _ e))
    simp [*]
end
end Mine
end

section
open PySem PySem.W PySem.W.X PyProof.Rows PySem.Calls
set_option Elab.async false
set_option maxRecDepth 100000
set_option maxHeartbeats 1000000
set_option linter.unusedVariables false
namespace Mine
section
variable {w : World} {h : Heap} {a ns md cell : Addr} {b : Bod} {K : Frag} {cd : ClassData} {sl : Array (Option Value)} {t0 : Tok}
theorem KF4.get (F : KF4 h a ns md b cell K cd sl t0) : plainGet K a (Str.ofString "obj") = true := by
  have e1 : findIn K (.ref a) (Str.ofString "__getattribute__") = some (some (.builtin "object.__getattribute__")) := findB F (fun _ _ _ _ => by kernel_rfl) (by kernel_rfl)
  have e2 : findIn K (.ref a) (Str.ofString "__getattr__") = some none := findB F (fun _ _ _ _ => by kernel_rfl) (by kernel_rfl)
  unfold plainGet
  rw [e1, e2]
  rfl
theorem KF4.iscls (F : KF4 h a ns md b cell K cd sl t0) : isClsIn K a = true := by
  unfold isClsIn clsIn
  rw [F.la]
  rfl
theorem KF4.sget (F : KF4 h a ns md b cell K cd sl t0) : specialIn K (.ref md) (Str.ofString "__get__") = some (some (.builtin "member_descriptor.__get__")) := by
  unfold specialIn
  rw [F.tmd, Option.bind_some]
  kernel_rfl
theorem KF4.takes (F : KF4 h a ns md b cell K cd sl t0) : takesIn K (.ref md) = some true := by
  unfold takesIn specialIn
  rw [F.tmd, Option.bind_some]
  kernel_rfl
theorem KF4.fn1 (F : KF4 h a ns md b cell K cd sl t0) : isFn K (.ref (b.f 1)) = true := by
  unfold isFn
  rw [F.t1']
  rfl
end
theorem lt_cells : ∀ x ∈ (sTwo (Str.ofString "self") (Str.ofString "other") [(Str.ofString "mycmp", .free)]).names, x.2 ≠ .cell := by decide
section
variable {w : World} {A : Around} {E : Value → Shared → Prop} {s : Shared} {mg mb : Str → Option Value} {a ns md cell : Addr} {b : Bod}
theorem get_obj {K : Frag} {cd : ClassData} {sl : Array (Option Value)} {t0 : Tok} {h₀ : Heap} {L x : Addr} {m : Str → Option Value} {v : Value} {expr : Bool} {Q : Value → Shared → Prop} (F4 : KF4 h₀ a ns md b cell K cd sl t0) (F : Fr h₀ L s.heap m) (i : InstK h₀ x a v) (hh : handedIn v = true) (hq : Q v { s with toks := s.toks + 1 }) :
    wpAny (model prog w) A (getAttr (.ref x) (Str.ofString "obj") expr) Q E s := by
  obtain ⟨dx, e, e'⟩ := i
  exact get_slot F F4.X (instAt (F.keep _ _ e) (F.keep _ _ e')) F4.get F4.iscls F4.obj F4.sget F4.takes F4.slot rfl hh hq
theorem c_klt (G : Gw w mg mb s.heap) (kc : KC s.heap a b ns md cell) {x y p q : Addr} {X Y : Str} {i j : Int} (ix : InstK s.heap x a (.ref p)) (iy : InstK s.heap y a (.ref q)) (hp : RowAt s.heap p X i) (hq : RowAt s.heap q Y j) :
    wpAny (model prog w) (AL 3) (call (.ref (b.f 1)) [.ref x, .ref y]) (Back s (isB (decide (cmpTo X Y 10 < 0)))) NoE s := by
  obtain ⟨K, cd, sl, t0, F4⟩ := kc.frag
  obtain ⟨p1, p2, p3, p4, p5, p6, p7, p8, p9, p10, p11, doc, pm, c', ctv, ho, hr⟩ := kc.lt
  have hcell := kc.cell
  refine wpAny_call (codeAny_call_def (fd := fnX _ _ _ _ _ _ _ _ _ _ _ _ _) (binds := [(Str.ofString "self", .ref x), (Str.ofString "other", .ref y)]) (Nat.le_of_ble_eq_true rfl) ho rfl G.T.nolimit hr rfl (BindsTo.of_eq rfl) lt_cells (locs rfl) (fun h2 n2 k2 => ?_))
  have kk2 : Keeps s.heap h2 := k2
  have F2 : Fr s.heap s.heap.objs.size h2 _ := ⟨n2, k2, Nat.le_refl _⟩
  have f182 : ∃ o fd, (K2 w.params).lookup 182 = some o ∧ o.data = .func fd := ⟨_, _, rfl, rfl⟩
  obtain ⟨fo, fd, hfo, hfd⟩ := f182
  have hf2 := k2 _ _ (G.X _ _ hfo)
  refine wpAny_execs_cons (wpAny_Return_some (wpAny_Compare1 (Call_ (wpAny_Name (wpAny_loadName_free rfl rfl (c := cell) rfl (hcell.keeps k2) ?_) (by decide)))))
  refine callWith_def_at hf2 hfd (args_cons (Attribute_name (ev_local rfl rfl n2 (v := .ref x) rfl (get_obj F4 F2 ix rfl (args_cons (Attribute_name (ev_local rfl rfl n2 (v := .ref y) rfl (get_obj F4 F2 iy rfl (args_nil ⟨hf2, ?_⟩)))))))))
  refine wpAny_mono (fit (c_ruleR (s := { s with heap := h2, toks := _ }) (G.keeps kk2) (hp.keeps kk2) (hq.keeps kk2)) rfl (Nat.le_of_ble_eq_true rfl) (Nat.le_of_ble_eq_true rfl)) (fun v s' hv => ?_) fun _ _ e => e.elim
  obtain ⟨h3, tk3, rfl, k3, t3, rfl⟩ := hv
  refine wpAny_Constant_int (lt_int ?_)
  exact ⟨h3, _, rfl, fun b o e => k3 _ _ (k2 _ _ e), rfl⟩
/-- the sort's question upon two instances of K -/
theorem ask_k (a1 : A.handled = none) (a2 : A.depth ≤ 600 - 10 * 3) (a3 : A.units ≤ 2000 - 50 * 3) (G : Gw w mg mb s.heap) (kc : KC s.heap a b ns md cell) {x y p q : Addr} {X Y : Str} {i j : Int} (ix : InstK s.heap x a (.ref p)) (iy : InstK s.heap y a (.ref q)) (hp : RowAt s.heap p X i) (hq : RowAt s.heap q Y j) {Q : Bool → Shared → Prop}
    (hQ : ∀ h' tk, Keeps s.heap h' → Q (decide (cmpTo X Y 10 < 0)) { s with heap := h', toks := tk }) : wpAny (model prog w) A (keyLt' oneType' (.ref x) (.ref y)) Q E s := by
  obtain ⟨K, cd, sl, t0, F4⟩ := kc.frag
  obtain ⟨dx, e, e'⟩ := id ix
  rw [keyLt'_oneType, oneLt'_eq]
  simp only [if_true]
  refine wpAny_bind (wpAny_cRoomFor (Nat.lt_of_le_of_lt a3 (by decide)) ?_)
  refine wpAny_bind (ifBound_K F4.X (instAt e e') F4.lt F4.fn1 (wpAny_mono (fit (c_klt G kc ix iy hp hq) a1 a2 a3) (fun v s' hv => ?_) fun _ _ e => e.elim))
  obtain ⟨h3, tk3, rfl, k3, rfl⟩ := hv
  exact wpAny_truthy_bool (hQ h3 tk3 k3)
end
end Mine
end

section
open PySem PySem.W PyProof.Rows
set_option Elab.async false
set_option maxRecDepth 100000
set_option maxHeartbeats 4000000
set_option linter.unusedVariables false
namespace Mine
/-- a sort with its answers told -/
noncomputable def runT {α : Type} (lt : Nat → Nat → Bool) : KasT α → α
  | .ret a => a
  | .ask i j k => runT lt (k (lt i j))
theorem runT_bind {α β : Type} (lt : Nat → Nat → Bool) (f : α → KasT β) : ∀ t : KasT α, runT lt (t.bind f) = runT lt (f (runT lt t))
  | .ret _ => rfl
  | .ask i j k => runT_bind lt f (k (lt i j))
noncomputable def Rs (key : Nat → Int) (a b : Nat) : Prop := key a < key b ∨ (key a = key b ∧ a < b)
theorem Rs.le {key : Nat → Int} {a b : Nat} (h : Rs key a b) : key a ≤ key b := by
  rcases h with h | h <;> lia
noncomputable abbrev pat (p : Array Nat) (i : Nat) : Nat := p.getD i 0
theorem pat_mirror {p : Array Nat} {i j : Nat} (hj : j ≤ p.size) (k : Nat) : pat (kas_rev p i j) k = if i ≤ k ∧ k < j then pat p (i + j - 1 - k) else pat p k := by
  unfold pat kas_rev
  rw [Array.getD_eq_getD_getElem?, getElem?_mirror_all hj]
  split
  · rw [Array.getD_eq_getD_getElem?]
  · rw [Array.getD_eq_getD_getElem?]
theorem pat_bubble {p : Array Nat} {src d : Nat} (hs : src < p.size) (hd : d ≤ src) (k : Nat) : pat (bubble p src d) k = if k = src - d then pat p src else if src - d < k ∧ k ≤ src then pat p (k - 1) else pat p k := by
  have e : ∀ (q : Array Nat) i, pat q i = (q[i]?).getD 0 := fun q i => Array.getD_eq_getD_getElem? ..
  rw [e, getElem?_bubble hs d hd, e, e, e]
  split
  · rfl
  · split <;> rfl
structure Pre (p : Array Nat) (N n : Nat) : Prop where
  size : p.size = N
  le : n ≤ N
  rest : ∀ i, n ≤ i → i < N → pat p i = i
  low : ∀ i, i < n → pat p i < n
noncomputable def Sorts (key : Nat → Int) (p : Array Nat) (n : Nat) : Prop := ∀ i j, i < j → j < n → Rs key (pat p i) (pat p j)
noncomputable def ltOf (key : Nat → Int) (i j : Nat) : Bool := decide (key i < key j)
section
variable {key : Nat → Int} {N : Nat}
theorem Pre.succ {p : Array Nat} {a : Nat} (P : Pre p N a) (ha : a < N) : Pre p N (a + 1) :=
  ⟨P.size, ha, fun i hi hN => P.rest i (by lia) hN, fun i hi => by
    by_cases q : i = a
    · rw [q, P.rest a (Nat.le_refl _) ha]; lia
    · have := P.low i (by lia); lia⟩
theorem sorts_le {p : Array Nat} {n : Nat} (S : Sorts key p n) {i j : Nat} (hij : i ≤ j) (hj : j < n) : key (pat p i) ≤ key (pat p j) := by
  by_cases q : i = j
  · rw [q]; exact Int.le_refl _
  · exact (S i j (by lia) hj).le
theorem asc_ok {p : Array Nat} : ∀ (f a : Nat), 1 ≤ a → a + f = N → Pre p N a → Sorts key p a →
    ∃ m, runT (ltOf key) (kas_asc p f a) = m ∧ a ≤ m ∧ Pre p N m ∧ Sorts key p m ∧ (m < N → key (pat p m) < key (pat p (m - 1)))
  | 0, a, h1, hN, P, S => ⟨a, rfl, Nat.le_refl _, P, S, fun h => by lia⟩
  | f + 1, a, h1, hN, P, S => by
    by_cases hlt : key (pat p a) < key (pat p (a - 1))
    · refine ⟨a, ?_, Nat.le_refl _, P, S, fun _ => hlt⟩
      show runT (ltOf key) (if ltOf key (pat p a) (pat p (a - 1)) = true then KasT.ret a else kas_asc p f (a + 1)) = a
      rw [if_pos (by simp only [ltOf]; exact decide_eq_true hlt)]; rfl
    · have S' : Sorts key p (a + 1) := fun i j hij hj => by
        by_cases q : j = a
        · subst q
          have e := P.rest j (Nat.le_refl _) (by lia)
          have l := P.low i hij
          have k1 := sorts_le S (i := i) (j := j - 1) (by lia) (by lia)
          rw [e] at hlt ⊢
          unfold Rs
          lia
        · exact S i j hij (by lia)
      obtain ⟨m, hm, ham, Pm, Sm, hx⟩ := asc_ok f (a + 1) (by lia) (by lia) (P.succ (by lia)) S'
      refine ⟨m, ?_, by lia, Pm, Sm, hx⟩
      show runT (ltOf key) (if ltOf key (pat p a) (pat p (a - 1)) = true then KasT.ret a else kas_asc p f (a + 1)) = m
      rw [if_neg (by simp only [ltOf]; simpa using hlt)]; exact hm
/-- a descending run, its last equal part not yet turned -/
structure Desc (key : Nat → Int) (p : Array Nat) (N n q : Nat) : Prop where
  pre : Pre p N n
  qn : q + 1 ≤ n
  A : ∀ i j, i < j → j < n - (q + 1) → Rs key (pat p j) (pat p i)
  B : ∀ i j, i < n - (q + 1) → n - (q + 1) ≤ j → j < n → key (pat p j) < key (pat p i)
  C : ∀ i j, n - (q + 1) ≤ i → i < j → j < n → key (pat p i) = key (pat p j) ∧ pat p i < pat p j
theorem pre_rev {p : Array Nat} {n c : Nat} (P : Pre p N n) : Pre (kas_rev p c n) N n := by
  refine ⟨by rw [kas_rev_size]; exact P.size, P.le, fun i hi hN => ?_, fun i hi => ?_⟩
  · rw [pat_mirror (by rw [P.size]; exact P.le), if_neg (by lia)]; exact P.rest i hi hN
  · rw [pat_mirror (by rw [P.size]; exact P.le)]
    split
    · exact P.low _ (by lia)
    · exact P.low _ hi
noncomputable def Anti (key : Nat → Int) (p : Array Nat) (n : Nat) : Prop := ∀ i j, i < j → j < n → Rs key (pat p j) (pat p i)
theorem desc_turn {p : Array Nat} {n q : Nat} (D : Desc key p N n q) : Anti key (if q > 0 then kas_rev p (n - (q + 1)) n else p) n ∧ Pre (if q > 0 then kas_rev p (n - (q + 1)) n else p) N n ∧ (∀ i, i < n → key (pat p (n - 1)) ≤ key (pat (if q > 0 then kas_rev p (n - (q + 1)) n else p) i)) := by
  have hq := D.qn
  have low : ∀ i, i < n → key (pat p (n - 1)) ≤ key (pat p i) := fun i hi => by
    by_cases h1 : i < n - (q + 1)
    · exact Int.le_of_lt (D.B i (n - 1) h1 (by lia) (by lia))
    · by_cases h2 : i = n - 1
      · rw [h2]; exact Int.le_refl _
      · exact Int.le_of_eq (D.C i (n - 1) (by lia) (by lia) (by lia)).1.symm
  by_cases h0 : q > 0
  · rw [if_pos h0]
    have hm := fun k => pat_mirror (i := n - (q + 1)) (show n ≤ p.size by rw [D.pre.size]; exact D.pre.le) k
    refine ⟨fun i j hij hj => ?_, pre_rev D.pre, fun i hi => ?_⟩
    · by_cases hi : i < n - (q + 1)
      · have ei := hm i
        rw [if_neg (by lia)] at ei
        have ej := hm j
        by_cases hj2 : j < n - (q + 1)
        · rw [if_neg (by lia)] at ej
          rw [ei, ej]; exact D.A i j hij hj2
        · rw [if_pos (by lia)] at ej
          rw [ei, ej]
          exact Or.inl (D.B i _ hi (by lia) (by lia))
      · have ei := hm i
        have ej := hm j
        rw [if_pos (by lia)] at ei ej
        rw [ei, ej]
        have := D.C (n - (q + 1) + n - 1 - j) (n - (q + 1) + n - 1 - i) (by lia) (by lia) (by lia)
        exact Or.inr ⟨this.1, this.2⟩
    · rw [hm i]
      split
      · exact low _ (by lia)
      · exact low _ hi
  · rw [if_neg h0]
    have q0 : q = 0 := by lia
    subst q0
    refine ⟨fun i j hij hj => ?_, D.pre, low⟩
    by_cases hj2 : j < n - (0 + 1)
    · exact D.A i j hij hj2
    · exact Or.inl (D.B i j (by lia) (by lia) hj)
theorem desc_ok : ∀ (f : Nat) (p : Array Nat) (n q : Nat), n + f = N → Desc key p N n q → ∃ p' m q', runT (ltOf key) (kas_desc f p n q) = (p', m, q') ∧ Desc key p' N m q'
  | 0, p, n, q, _, D => ⟨p, n, q, rfl, D⟩
  | f + 1, p, n, q, hN, D => by
    have hq := D.qn
    have en := D.pre.rest n (Nat.le_refl _) (by lia)
    have unfold1 : runT (ltOf key) (kas_desc (f + 1) p n q) = runT (ltOf key) (if ltOf key (pat p n) (pat p (n - 1)) = true then (if q > 0 then kas_desc f (kas_rev p (n - (q + 1)) n) (n + 1) 0 else kas_desc f p (n + 1) 0)
      else .ask (pat p (n - 1)) (pat p n) fun d => if d = true then .ret (p, n, q) else kas_desc f p (n + 1) (q + 1)) := rfl
    rw [unfold1]
    by_cases hlt : key (pat p n) < key (pat p (n - 1))
    · rw [if_pos (by simp only [ltOf]; exact decide_eq_true hlt)]
      obtain ⟨AN, PR, LO⟩ := desc_turn D
      have e1 : (if q > 0 then kas_desc f (kas_rev p (n - (q + 1)) n) (n + 1) 0 else kas_desc f p (n + 1) 0) = kas_desc f (if q > 0 then kas_rev p (n - (q + 1)) n else p) (n + 1) 0 := by split <;> rfl
      rw [e1]
      refine desc_ok f _ (n + 1) 0 (by lia) ⟨PR.succ (by lia), by lia, fun i j hij hj => AN i j hij (by lia), fun i j hi hj hjn => ?_, fun i j hi hij hj => by lia⟩
      have : j = n := by lia
      have e3 := PR.rest n (Nat.le_refl _) (by lia)
      have e4 := LO i (by lia)
      rw [en] at hlt
      rw [this, e3]
      exact Int.lt_of_lt_of_le hlt e4
    · rw [if_neg (by simp only [ltOf]; simpa using hlt)]
      show ∃ p' m q', runT (ltOf key) (if ltOf key (pat p (n - 1)) (pat p n) = true then .ret (p, n, q) else kas_desc f p (n + 1) (q + 1)) = (p', m, q') ∧ Desc key p' N m q'
      by_cases hgt : key (pat p (n - 1)) < key (pat p n)
      · rw [if_pos (by simp only [ltOf]; exact decide_eq_true hgt)]
        exact ⟨p, n, q, rfl, D⟩
      · rw [if_neg (by simp only [ltOf]; simpa using hgt)]
        have heq : key (pat p (n - 1)) = key (pat p n) := by lia
        have ec : n + 1 - (q + 1 + 1) = n - (q + 1) := by lia
        refine desc_ok f p (n + 1) (q + 1) (by lia) ⟨D.pre.succ (by lia), by lia, ?_, ?_, ?_⟩
        · rw [ec]; exact D.A
        · rw [ec]
          intro i j hi hj hjn
          by_cases hjn' : j = n
          · rw [hjn', ← heq]; exact D.B i (n - 1) hi (by lia) (by lia)
          · exact D.B i j hi hj (by lia)
        · rw [ec]
          intro i j hi hij hj
          by_cases hjn' : j = n
          · subst hjn'
            refine ⟨?_, by rw [en]; exact D.pre.low i hij⟩
            by_cases hi' : i = j - 1
            · rw [hi']; exact heq
            · rw [← heq]; exact (D.C i (j - 1) hi (by lia) (by lia)).1
          · exact D.C i j hi hij (by lia)
theorem tail_ok {p : Array Nat} {n : Nat} (h1 : 1 ≤ n) (P : Pre p N n) (AN : Anti key p n) : ∃ m p', runT (ltOf key) (kas_tail3 n N p) = (m, p') ∧ 1 ≤ m ∧ Pre p' N m ∧ Sorts key p' m := by
  have hm := fun k => pat_mirror (i := 0) (show n ≤ p.size by rw [P.size]; exact P.le) k
  have S : Sorts key (kas_rev p 0 n) n := fun i j hij hj => by
    rw [hm i, hm j, if_pos (by lia), if_pos (by lia)]
    exact AN _ _ (by lia) (by lia)
  obtain ⟨m, hr, ham, Pm, Sm, _⟩ := asc_ok (key := key) (N - n) n h1 (by have := P.le; lia) (pre_rev P) S
  refine ⟨m, kas_rev p 0 n, ?_, by lia, Pm, Sm⟩
  unfold kas_tail3
  rw [runT_bind, hr]; rfl
theorem descPart_ok {p : Array Nat} {n : Nat} (hn : n + 1 ≤ N) (D : Desc key p N (n + 1) 0) : ∃ m p', runT (ltOf key) (kas_descPart n N p) = (m, p') ∧ 1 ≤ m ∧ Pre p' N m ∧ Sorts key p' m := by
  obtain ⟨p', m, q, hr, D'⟩ := desc_ok (key := key) (N - (n + 1)) p (n + 1) 0 (by lia) D
  unfold kas_descPart
  rw [runT_bind, hr]
  obtain ⟨AN, PR, _⟩ := desc_turn D'
  have e1 : (if q > 0 then kas_tail3 m N (kas_rev p' (m - (q + 1)) m) else kas_tail3 m N p') = kas_tail3 m N (if q > 0 then kas_rev p' (m - (q + 1)) m else p') := by split <;> rfl
  show ∃ m_1 p'_1, runT (ltOf key) (if q > 0 then kas_tail3 m N (kas_rev p' (m - (q + 1)) m) else kas_tail3 m N p') = (m_1, p'_1) ∧ _
  rw [e1]
  exact tail_ok (by have := D'.qn; lia) PR AN
theorem count_ok {p : Array Nat} (hN : 1 ≤ N) (P : Pre p N 0) : ∃ m p', runT (ltOf key) (kas_count N p) = (m, p') ∧ 1 ≤ m ∧ Pre p' N m ∧ Sorts key p' m := by
  have P1 := P.succ hN
  obtain ⟨n, hr, h1, Pn, Sn, hx⟩ := asc_ok (key := key) (N - 1) 1 (Nat.le_refl _) (by lia) P1 fun i j hij hj => by lia
  have id : ∀ i, i < N → pat p i = i := fun i hi => P.rest i (Nat.zero_le _) hi
  unfold kas_count
  rw [runT_bind, hr]
  by_cases he : n = N
  · rw [if_pos (by simpa using he)]
    exact ⟨n, p, rfl, h1, Pn, Sn⟩
  · rw [if_neg (by simpa using he)]
    have hnN : n < N := by have := Pn.le; lia
    have hlt := hx hnN
    by_cases hn1 : n > 1
    · rw [if_pos hn1]
      show ∃ m p', runT (ltOf key) (if ltOf key (pat p 0) (pat p (n - 1)) = true then .ret (n, p) else kas_descPart n N (kas_rev p 0 n)) = (m, p') ∧ _
      by_cases hq : key (pat p 0) < key (pat p (n - 1))
      · rw [if_pos (by simp only [ltOf]; exact decide_eq_true hq)]
        exact ⟨n, p, rfl, h1, Pn, Sn⟩
      · rw [if_neg (by simp only [ltOf]; simpa using hq)]
        have all : ∀ i, i < n → key (pat p i) = key (pat p (n - 1)) := fun i hi => by
          have a1 := sorts_le Sn (i := 0) (j := i) (by lia) hi
          have a2 := sorts_le Sn (i := i) (j := n - 1) (by lia) (by lia)
          lia
        have hm := fun k => pat_mirror (i := 0) (show n ≤ p.size by rw [P.size]; lia) k
        refine descPart_ok hnN ⟨(pre_rev Pn).succ hnN, by lia, fun i j hij hj => ?_, fun i j hi hj hjn => ?_, fun i j hi hij hj => by lia⟩
        · have ei := hm i
          have ej := hm j
          rw [if_pos (by lia)] at ei ej
          have ai := all (0 + n - 1 - i) (by lia)
          have aj := all (0 + n - 1 - j) (by lia)
          have di := id (0 + n - 1 - i) (by lia)
          have dj := id (0 + n - 1 - j) (by lia)
          rw [ei, ej]
          refine Or.inr ⟨aj.trans ai.symm, ?_⟩
          rw [di, dj]
          lia
        · have hjn' : j = n := by lia
          have ei := hm i
          have ej := hm j
          rw [if_pos (by lia)] at ei
          rw [if_neg (by lia)] at ej
          have ai := all (0 + n - 1 - i) (by lia)
          rw [ei, ej, ai, hjn']
          exact hlt
    · rw [if_neg hn1]
      have hn : n = 1 := by lia
      subst hn
      refine descPart_ok hnN ⟨Pn.succ hnN, by lia, fun i j hij hj => by lia, fun i j hi hj hjn => ?_, fun i j hi hij hj => by lia⟩
      have hi0 : i = 0 := by lia
      have hj1 : j = 1 := by lia
      rw [hi0, hj1]; exact hlt
theorem place_ok {p : Array Nat} {k : Nat} (S : Sorts key p k) : ∀ (f l r : Nat), l ≤ r → r ≤ k → r - l ≤ f → (∀ i, i < l → key (pat p i) ≤ key (pat p k)) → (∀ i, r ≤ i → i < k → key (pat p k) < key (pat p i)) →
    ∃ l', runT (ltOf key) (kas_place p k f l r) = l' ∧ l' ≤ k ∧ (∀ i, i < l' → key (pat p i) ≤ key (pat p k)) ∧ (∀ i, l' ≤ i → i < k → key (pat p k) < key (pat p i))
  | 0, l, r, h1, h2, h3, a, b => ⟨l, rfl, by lia, a, fun i hi => b i (by lia)⟩
  | f + 1, l, r, h1, h2, h3, a, b => by
    have unfold1 : kas_place p k (f + 1) l r = if l ≥ r then .ret l else .ask (pat p k) (pat p ((l + r) / 2)) fun c => if c = true then kas_place p k f l ((l + r) / 2) else kas_place p k f ((l + r) / 2 + 1) r := rfl
    rw [unfold1]
    by_cases hge : l ≥ r
    · rw [if_pos hge]
      exact ⟨l, rfl, by lia, a, fun i hi => b i (by lia)⟩
    · rw [if_neg hge]
      show ∃ l', runT (ltOf key) (if ltOf key (pat p k) (pat p ((l + r) / 2)) = true then kas_place p k f l ((l + r) / 2) else kas_place p k f ((l + r) / 2 + 1) r) = l' ∧ _
      by_cases hlt : key (pat p k) < key (pat p ((l + r) / 2))
      · rw [if_pos (by simp only [ltOf]; exact decide_eq_true hlt)]
        refine place_ok S f l ((l + r) / 2) (by lia) (by lia) (by lia) a fun i hi hk => ?_
        have := sorts_le S (i := (l + r) / 2) (j := i) hi hk
        lia
      · rw [if_neg (by simp only [ltOf]; simpa using hlt)]
        refine place_ok S f ((l + r) / 2 + 1) r (by lia) h2 (by lia) (fun i hi => ?_) b
        have := sorts_le S (i := i) (j := (l + r) / 2) (by lia) (by lia)
        lia
theorem bin_ok : ∀ (f : Nat) (p : Array Nat) (k : Nat), k + f = N → Pre p N k → Sorts key p k → ∃ p', runT (ltOf key) (kas_bin f p k) = p' ∧ Pre p' N N ∧ Sorts key p' N
  | 0, p, k, hN, P, S => ⟨p, rfl, by rw [show k = N by lia] at P; exact P, by rw [show k = N by lia] at S; exact S⟩
  | f + 1, p, k, hN, P, S => by
    obtain ⟨l, hr, hl, ha, hb⟩ := place_ok S k 0 k (Nat.zero_le _) (Nat.le_refl _) (by lia) (fun i hi => by lia) (fun i hi hk => by lia)
    have ek := P.rest k (Nat.le_refl _) (by lia)
    have hm := fun i => pat_bubble (p := p) (src := k) (d := k - l) (by rw [P.size]; lia) (by lia) i
    have e2 : k - (k - l) = l := by lia
    rw [e2] at hm
    have P' : Pre (bubble p k (k - l)) N (k + 1) := by
      refine ⟨by rw [bubble_size]; exact P.size, by lia, fun i hi hN' => ?_, fun i hi => ?_⟩
      · rw [hm i, if_neg (by lia), if_neg (by lia)]; exact P.rest i (by lia) hN'
      · rw [hm i]
        split
        · rw [ek]; lia
        · split
          · have := P.low (i - 1) (by lia); lia
          · have := P.low i (by lia); lia
    have S' : Sorts key (bubble p k (k - l)) (k + 1) := by
      intro i j hij hj
      rw [hm i, hm j]
      by_cases hi : i < l
      · rw [if_neg (by lia), if_neg (by lia)]
        by_cases hj1 : j = l
        · rw [if_pos hj1]
          have h1 := ha i hi
          have h2 := P.low i (by lia)
          unfold Rs
          rw [ek] at h1 ⊢
          lia
        · rw [if_neg hj1]
          by_cases hj2 : j < l
          · rw [if_neg (by lia)]; exact S i j hij (by lia)
          · rw [if_pos (by lia)]; exact S i (j - 1) (by lia) (by lia)
      · by_cases hi1 : i = l
        · rw [if_pos hi1, if_neg (by lia), if_pos (by lia)]
          exact Or.inl (hb (j - 1) (by lia) (by lia))
        · rw [if_neg hi1, if_pos (by lia), if_neg (by lia), if_pos (by lia)]
          exact S (i - 1) (j - 1) (by lia) (by lia)
    obtain ⟨p', hr', Pf, Sf⟩ := bin_ok f (bubble p k (k - l)) (k + 1) (by lia) P' S'
    refine ⟨p', ?_, Pf, Sf⟩
    show runT (ltOf key) ((kas_place p k k 0 k).bind fun l => kas_bin f (bubble p k (k - l)) (k + 1)) = p'
    rw [runT_bind, hr]; exact hr'
/-- the sort is stable -/
theorem sort_ok (hN : 1 ≤ N) : ∃ p, runT (ltOf key) (kas_sort N) = p ∧ Pre p N N ∧ Sorts key p N := by
  have P0 : Pre (List.toArray (List.range N)) N 0 := ⟨by simp, Nat.zero_le _, fun i _ hi => by simp [pat, hi], fun i hi => by lia⟩
  obtain ⟨m, p', hr, h1, P, S⟩ := count_ok (key := key) hN P0
  unfold kas_sort
  rw [runT_bind, hr]
  show ∃ p, runT (ltOf key) (if m < N then kas_bin (N - max m 1) p' (max m 1) else .ret p') = p ∧ _
  have em : max m 1 = m := by lia
  rw [em]
  by_cases hm : m < N
  · rw [if_pos hm]
    exact bin_ok (N - m) p' m (by lia) P S
  · rw [if_neg hm]
    have : m = N := by have := P.le; lia
    subst this
    exact ⟨p', rfl, P, S⟩
end
/-- all that is asked is below N -/
noncomputable def Asks {α : Type} (N : Nat) (Q : α → Prop) : KasT α → Prop
  | .ret a => Q a
  | .ask i j k => i < N ∧ j < N ∧ ∀ b, Asks N Q (k b)
theorem Asks.bind {α β : Type} {N : Nat} {Q : α → Prop} {R : β → Prop} {f : α → KasT β} (hf : ∀ a, Q a → Asks N R (f a)) : ∀ {t : KasT α}, Asks N Q t → Asks N R (t.bind f)
  | .ret a, h => hf a h
  | .ask i j k, h => ⟨h.1, h.2.1, fun b => Asks.bind hf (h.2.2 b)⟩
noncomputable def LowP (N : Nat) (p : Array Nat) : Prop := 0 < N ∧ p.Perm (List.toArray (List.range N))
theorem LowP.at {N : Nat} {p : Array Nat} (h : LowP N p) (i : Nat) : p.getD i 0 < N := by
  by_cases hi : i < p.size
  · have : p.getD i 0 = p[i] := by simp [Array.getD, hi]
    rw [this]; simpa using h.2.mem_iff.mp (Array.getElem_mem hi)
  · have : p.getD i 0 = 0 := by simp [Array.getD, hi]
    rw [this]; exact h.1
theorem LowP.perm {N : Nat} {p q : Array Nat} (h : LowP N p) (hp : q.Perm p) : LowP N q := ⟨h.1, hp.trans h.2⟩
theorem LowP.rev {N : Nat} {p : Array Nat} (h : LowP N p) (i j : Nat) : LowP N (kas_rev p i j) := h.perm (mirror_perm ..)
section
variable {N : Nat}
theorem asks_asc {p : Array Nat} (L : LowP N p) : ∀ f n, Asks N (fun _ => True) (kas_asc p f n)
  | 0, n => trivial
  | f + 1, n => ⟨L.at _, L.at _, fun b => by
      cases b
      · exact asks_asc L f (n + 1)
      · trivial⟩
theorem asks_desc : ∀ (f : Nat) (p : Array Nat) (n q : Nat), LowP N p → Asks N (fun r => LowP N r.1) (kas_desc f p n q)
  | 0, p, n, q, L => L
  | f + 1, p, n, q, L => ⟨L.at _, L.at _, fun b => by
      cases b
      · refine ⟨L.at _, L.at _, fun c => ?_⟩
        cases c
        · exact asks_desc f p (n + 1) (q + 1) L
        · exact L
      · show Asks N _ (if q > 0 then _ else _)
        split
        · exact asks_desc f _ (n + 1) 0 (L.rev _ _)
        · exact asks_desc f p (n + 1) 0 L⟩
theorem asks_tail3 {n M : Nat} {p : Array Nat} (L : LowP N p) : Asks N (fun r => LowP N r.2) (kas_tail3 n M p) := by
  unfold kas_tail3
  refine Asks.bind (Q := fun _ => True) (fun a _ => ?_) (asks_asc (L.rev _ _) _ _)
  show LowP N (kas_rev p 0 n)
  exact L.rev _ _
theorem asks_descPart {n M : Nat} {p : Array Nat} (L : LowP N p) : Asks N (fun r => LowP N r.2) (kas_descPart n M p) := Asks.bind (fun r hr => by
  show Asks N _ (if r.2.2 > 0 then _ else _)
  split
  · exact asks_tail3 (hr.rev _ _)
  · exact asks_tail3 hr) (asks_desc _ p _ _ L)
theorem asks_count {M : Nat} {p : Array Nat} (L : LowP N p) : Asks N (fun r => LowP N r.2) (kas_count M p) := Asks.bind (fun n _ => by
  show Asks N _ (if (n == M) = true then _ else _)
  split
  · exact L
  · split
    · refine ⟨L.at _, L.at _, fun b => ?_⟩
      cases b
      · exact asks_descPart (L.rev _ _)
      · exact L
    · exact asks_descPart L) (asks_asc L _ _)
theorem asks_place {p : Array Nat} {k : Nat} (L : LowP N p) : ∀ f l r, Asks N (fun _ => True) (kas_place p k f l r)
  | 0, l, r => trivial
  | f + 1, l, r => by
    show Asks N _ (if l ≥ r then _ else _)
    split
    · trivial
    · refine ⟨L.at _, L.at _, fun b => ?_⟩
      cases b
      · exact asks_place L f _ _
      · exact asks_place L f _ _
theorem asks_bin : ∀ (f : Nat) (p : Array Nat) (k : Nat), LowP N p → Asks N (LowP N) (kas_bin f p k)
  | 0, p, k, L => L
  | f + 1, p, k, L => Asks.bind (fun l _ => asks_bin f _ (k + 1) (L.perm (bubble_perm ..))) (asks_place L _ _ _)
theorem asks_sort (hN : 0 < N) : Asks N (LowP N) (kas_sort N) := Asks.bind (fun r hr => by
  show Asks N _ (if r.1 < N then _ else _)
  split
  · exact asks_bin _ _ _ hr
  · exact hr) (asks_count ⟨hN, Array.Perm.refl _⟩)
theorem asks_run {α : Type} {Q : α → Prop} {lt : Nat → Nat → Bool} : ∀ {t : KasT α}, Asks N Q t → Q (runT lt t)
  | .ret a, h => h
  | .ask i j k, h => asks_run (t := k (lt i j)) (h.2.2 (lt i j))
theorem perm_unique {R : Nat → Nat → Prop} (ha : ∀ a b, R a b → R b a → False) : ∀ {l k : List Nat}, l.Perm k → l.Pairwise R → k.Pairwise R → l = k
  | [], k, hp, _, _ => (List.nil_perm.mp hp).symm
  | a :: l, [], hp, _, _ => by simpa using hp.length_eq
  | a :: l, b :: k, hp, h1, h2 => by
    have hab : a = b := by
      by_cases q : a = b
      · exact q
      · exfalso
        have m1 : a ∈ b :: k := hp.mem_iff.mp (.head _)
        have m2 : b ∈ a :: l := hp.mem_iff.mpr (.head _)
        rcases List.mem_cons.mp m1 with m1 | m1
        · exact q m1
        · rcases List.mem_cons.mp m2 with m2 | m2
          · exact q m2.symm
          · exact ha a b ((List.pairwise_cons.mp h1).1 b m2) ((List.pairwise_cons.mp h2).1 a m1)
    subst hab
    rw [perm_unique ha ((List.perm_cons a).mp hp) (List.pairwise_cons.mp h1).2 (List.pairwise_cons.mp h2).2]
/-- what the sort gives, as a list -/
theorem sort_list (key : Nat → Int) (hN : 1 ≤ N) : (runT (ltOf key) (kas_sort N)).toList.Perm (List.range N) ∧ (runT (ltOf key) (kas_sort N)).toList.Pairwise (Rs key) := by
  obtain ⟨p, hp, P, S⟩ := sort_ok (key := key) hN
  have L := asks_run (lt := ltOf key) (asks_sort (N := N) hN)
  rw [hp] at L ⊢
  refine ⟨by simpa using Array.perm_iff_toList_perm.mp L.2, ?_⟩
  rw [List.pairwise_iff_getElem]
  intro i j hi hj hij
  have := S i j hij (by have := P.size; simp at hj; lia)
  have e : ∀ k (hk : k < p.toList.length), pat p k = p.toList[k] := fun k hk => by
    have : k < p.size := by simpa using hk
    simp [pat, Array.getD, this]
  rw [e i hi, e j hj] at this
  exact this
theorem Rs.asymm {key : Nat → Int} (a b : Nat) (h : Rs key a b) (g : Rs key b a) : False := by
  unfold Rs at h g; lia
/-- a sort whose questions are answered -/
theorem kasWp_run {α : Type} {cmp : Nat → Nat → (Bool → Shared → Prop) → Shared → Prop} {lt : Nat → Nat → Bool} {Inv : Shared → Prop} {R : α → Prop} (hc : ∀ i j C s, i < N → j < N → Inv s → (∀ s', Inv s' → C (lt i j) s') → cmp i j C s) {Q : α → Shared → Prop} :
    ∀ (t : KasT α) (s : Shared), Asks N R t → Inv s → (∀ s', Inv s' → Q (runT lt t) s') → t.kasWp cmp Q s
  | .ret a, s, _, hI, hQ => hQ s hI
  | .ask i j k, s, ha, hI, hQ => hc i j _ s ha.1 ha.2.1 hI fun s' hI' => kasWp_run hc (k (lt i j)) s' (ha.2.2 _) hI' hQ
end
end Mine
end

section
open PySem PySem.W PySem.W.X PyProof.Rows PySem.Calls
set_option Elab.async false
set_option maxRecDepth 100000
set_option maxHeartbeats 1000000
set_option linter.unusedVariables false
namespace Mine
/-- the rows of a listing -/
noncomputable def RowsIn (h : Heap) (vs : List Value) (X : Nat → Str) : Prop := ∀ (i : Nat) (v : Value), vs[i]? = some v → ∃ p, v = .ref p ∧ RowAt h p (X i) i
theorem RowsIn.keeps {h h' : Heap} {vs : List Value} {X : Nat → Str} (r : RowsIn h vs X) (k : Keeps h h') : RowsIn h' vs X := fun i v e => let ⟨p, e1, e2⟩ := r i v e; ⟨p, e1, e2.keeps k⟩
/-- the keys of a listing -/
noncomputable def InstsIn (h : Heap) (a : Addr) (vs ks : List Value) : Prop := ∀ (i : Nat) (k : Value), ks[i]? = some k → ∃ (x p : Addr), k = Value.ref x ∧ vs[i]? = some (Value.ref p) ∧ InstK h x a (Value.ref p)
theorem InstsIn.keeps {h h' : Heap} {a : Addr} {vs ks : List Value} (r : InstsIn h a vs ks) (k : Keeps h h') : InstsIn h' a vs ks := fun i v e => let ⟨x, p, e1, e2, e3⟩ := r i v e; ⟨x, p, e1, e2, e3.keeps k⟩
section
variable {h h' : Heap} {L : Addr} {m : Str → Option Value}
theorem ne_ns {x : Addr} {o : Obj} (n : h.Ns L m) (e : h.get? x = some o) (hd : ∀ es n, o.data ≠ .dict es n) : x ≠ L := fun z => by
  obtain ⟨es, k, hd'⟩ := ns_cls n (z ▸ e)
  exact hd _ _ hd'
theorem nd_but (n : h.Ns L m) (k : KeepsBut [L] h h') : ND h h' := fun b o e hd => k b o (by simp [ne_ns n e hd]) e
theorem KC.but {a ns md cell : Addr} {b : Bod} (kc : KC h a b ns md cell) (n : h.Ns L m) (hns : ns ≠ L) (k : KeepsBut [L] h h') : KC h' a b ns md cell := by
  have nd := nd_but n k
  obtain ⟨⟨tb, t, q1, t0, t1, q2, t2, KA⟩, ⟨_, _, _, _, _, _, f0⟩, ⟨_, _, _, _, _, _, _, _, _, _, _, f1⟩, ⟨o, e, hd⟩⟩ := kc
  exact ⟨⟨tb, t, q1, t0, t1, q2, t2, nd _ _ KA.hc (by intro _ _ z; cases z), k _ _ (by simp [hns]) KA.hn, nd _ _ KA.hm (by intro _ _ z; cases z)⟩, ⟨_, _, _, _, _, _, f0.nd nd⟩, ⟨_, _, _, _, _, _, _, _, _, _, _, f1.nd nd⟩, ⟨o, nd _ _ e (by rw [hd]; intro _ _ z; cases z), hd⟩⟩
theorem RowAt.but {p : Addr} {x : Str} {i : Int} (r : RowAt h p x i) (n : h.Ns L m) (k : KeepsBut [L] h h') : RowAt h' p x i := by
  obtain ⟨tx, ti, e, z⟩ := r
  exact ⟨tx, ti, nd_but n k _ _ e (by intro _ _ z; cases z), z⟩
theorem RowsIn.but {vs : List Value} {X : Nat → Str} (r : RowsIn h vs X) (n : h.Ns L m) (k : KeepsBut [L] h h') : RowsIn h' vs X := fun i v e => let ⟨p, e1, e2⟩ := r i v e; ⟨p, e1, e2.but n k⟩
theorem InstK.but {x a : Addr} {v : Value} (i : InstK h x a v) (n : h.Ns L m) (hm : ∃ y u, m y = some u) (k : KeepsBut [L] h h') : InstK h' x a v := by
  obtain ⟨dx, e, e'⟩ := i
  refine ⟨dx, nd_but n k _ _ e (by intro _ _ z; cases z), k _ _ ?_ e'⟩
  rw [List.mem_singleton]
  rintro rfl
  obtain ⟨o, es, ep, eo, hd, _, hf⟩ := n
  rw [e'] at eo; cases eo; cases hd
  obtain ⟨y, u, hy⟩ := hm
  have := hf y
  rw [hy] at this
  cases this
theorem InstsIn.but {a : Addr} {vs ks : List Value} (r : InstsIn h a vs ks) (n : h.Ns L m) (hm : ∃ y u, m y = some u) (k : KeepsBut [L] h h') : InstsIn h' a vs ks := fun i v e => let ⟨x, p, e1, e2, e3⟩ := r i v e; ⟨x, p, e1, e2, e3.but n hm k⟩
end
section
variable {w : World} {A : Around} {E : Value → Shared → Prop} {s : Shared} {mg mb m : Str → Option Value} {a ns md cell L : Addr} {b : Bod} {vs : List Value} {X : Nat → Str}
/-- what stands while the keys are made and asked -/
structure SI (h : Heap) (s0 : Shared) (L : Addr) (m : Str → Option Value) (kS D : Addr) (ks : List Value) (e e1 : Nat) (a : Addr) (vs : List Value) (s : Shared) : Prop where
  eq : ∃ tk, s = { s0 with heap := h, toks := tk }
  ns : h.Ns L m
  kp : KeepsBut [L] s0.heap h
  kl : h.get? kS = some (seqObj "list" ks.toArray e)
  dl : h.get? D = some (seqObj "list" #[] e1)
  ins : InstsIn h a vs ks
theorem head0 {h : Heap} {x : Addr} {o : Obj} (L : Addr) (hx : h.get? x = some o) (hL : x ≠ L) : News h0 L h ((x, o) :: allBut h [x, L]) ∧ UpdF x o ((x, o) :: allBut h [x, L]) (fun o' => (x, o') :: allBut h [x, L]) := by
  constructor
  · intro p hp
    rcases List.mem_cons.mp hp with rfl | hp
    · exact ⟨hx, hL, h0_none _⟩
    · exact news0 (by simp) p hp
  · refine .head fun p hp => ?_
    have := (mem_allBut.mp (show (p.1, p.2) ∈ allBut h [x, L] from hp)).2
    simp at this
    exact this.1
theorem after0 {h h' : Heap} {x L b : Addr} {o ob : Obj} (N : News h0 L h' ((x, o) :: allBut h [x, L])) (e : h.get? b = some ob) (h1 : b ≠ x) (h2 : b ≠ L) : h'.get? b = some ob := (N (b, ob) (.tail _ (mem_allBut.mpr ⟨e, by simp [h1, h2]⟩))).1
theorem keys_made {kS D : Addr} {e1 : Nat} {s0 : Shared} (a1 : A.handled = none) (a2 : A.depth ≤ 600 - 10 * 1) (a3 : A.units ≤ 2000 - 50 * 1) (n0 : s0.heap.Ns L m) (hm : ∃ y u, m y = some u) (lim : ∀ h, KeepsBut [L] s0.heap h → h.NoLimit) (kc : KC s0.heap a b ns md cell) (hns : ns ≠ L) (rows : RowsIn s0.heap vs X) (fk : s0.heap.get? kS = none) (fd : s0.heap.get? D = none) (kD : kS ≠ D) (kL : kS ≠ L) (dL : D ≠ L)
    {Fin : List Value → Nat → Shared → Prop} (hfin : ∀ ks e h s', ks.length = vs.length → SI h s0 L m kS D ks e e1 a vs s' → Fin ks e s') :
    ∀ (r ks : List Value) (e : Nat) (h : Heap) (s' : Shared), ks.length + r.length = vs.length → vs.drop ks.length = r → SI h s0 L m kS D ks e e1 a vs s' → KatKeys prog w A h0 L m kS (.ref a) Fin r ks e s' := by
  intro r
  induction r with
  | nil =>
    intro ks e h s' hl hv S
    exact hfin ks e h s' (by simpa using hl) S
  | cons v r ih =>
    intro ks e h s' hl hv S
    obtain ⟨tk, rfl⟩ := S.eq
    have hvi : vs[ks.length]? = some v := by
      have : (vs.drop ks.length)[0]? = some v := by rw [hv]; rfl
      rw [List.getElem?_drop] at this
      simpa using this
    obtain ⟨p, rfl, hrow⟩ := rows _ _ hvi
    refine KatKeys.cons (wpAny_mono (fit (c_knew (s := { s0 with heap := h, toks := tk }) (kc.but n0 hns S.kp) (lim h S.kp)) a1 a2 a3) (fun k s2 hk => ?_) fun _ _ e => e.elim)
    obtain ⟨h2, tk2, rfl, k2, x, rfl, ix⟩ := hk
    have kl2 := k2 _ _ S.kl
    obtain ⟨N2, U2⟩ := head0 L kl2 kL
    have n2 : h2.Ns L m := ns_keep S.ns fun o e => k2 _ _ e
    refine ⟨_, _, fr0 n2, N2, U2, fun h3 c F3 N3 => ?_⟩
    have kb : ∀ b o, h2.get? b = some o → b ≠ kS → b ≠ L → h3.get? b = some o := fun b o e h1 h2' => after0 N3 e h1 h2'
    have kb3 : KeepsBut [L] s0.heap h3 := fun b o hb e => by
      have hbL : b ≠ L := by simpa using hb
      exact kb b o (k2 _ _ (S.kp b o hb e)) (fun z => by rw [z, fk] at e; cases e) hbL
    have inK : ∀ {y : Addr} {v : Value}, InstK h2 y a v → InstK h3 y a v := fun {y v} iy => by
      obtain ⟨dx, e, e'⟩ := id iy
      refine ⟨dx, kb _ _ e (fun z => by rw [z, kl2] at e; cases e) (ne_ns n2 e (by intro _ _ z; cases z)), kb _ _ e' (fun z => by rw [z, kl2] at e'; simp at e') ?_⟩
      rintro rfl
      obtain ⟨o, es, ep, eo, hd, _, hf⟩ := n2
      rw [e'] at eo; cases eo; cases hd
      obtain ⟨y, u, hy⟩ := hm
      have := hf y
      rw [hy] at this
      cases this
    refine ih (ks ++ [.ref x]) c h3 _ (by simp at hl ⊢; lia) ?_ ⟨⟨tk2, rfl⟩, F3.ns, kb3, (N3 _ (.head _)).1, kb _ _ (k2 _ _ S.dl) kD.symm dL, fun i k hk => ?_⟩
    · have : vs.drop (ks.length + 1) = (vs.drop ks.length).drop 1 := by rw [List.drop_drop]
      rw [List.length_append, List.length_singleton, this, hv]
      rfl
    · by_cases hi : i < ks.length
      · rw [List.getElem?_append_left hi] at hk
        obtain ⟨x', p', e1, e2, e3⟩ := S.ins i k hk
        exact ⟨x', p', e1, e2, inK (e3.keeps k2)⟩
      · rw [List.getElem?_append_right (by lia)] at hk
        have hz : i - ks.length = 0 := by
          cases q : i - ks.length with
          | zero => rfl
          | succ n => rw [q] at hk; simp at hk
        rw [hz] at hk
        cases hk
        have : i = ks.length := by lia
        subst this
        exact ⟨x, p, rfl, hvi, inK ix⟩
end
end Mine
end

section
open PySem PySem.W PySem.W.X PyProof.Rows PySem.Calls
set_option Elab.async false
set_option maxRecDepth 100000
set_option maxHeartbeats 1000000
set_option linter.unusedVariables false
namespace Mine
noncomputable def turned (b : Bool) (n i : Nat) : Nat := if b = true then n - 1 - i else i
theorem katRev_get {α : Type} (rv : Bool) (l : List α) {i : Nat} (hi : i < l.length) : (katRev rv l)[i]? = l[turned rv l.length i]? := by
  unfold katRev turned
  cases rv with
  | false => simp
  | true => simp [List.getElem?_reverse hi]
section
variable {w : World} {A : Around} {E : Value → Shared → Prop} {s : Shared} {mg mb m : Str → Option Value} {a ns md cell L : Addr} {b : Bod} {vs : List Value} {X : Nat → Str}
/-- sorted by K, of two rows or more -/
theorem sorted_two {l : Addr} {rv : Bool} {kw : List (Str × Value)} {Q : Value → Shared → Prop} (a1 : A.handled = none) (a2 : A.depth ≤ 600 - 10 * 5) (a3 : A.units ≤ 2000 - 50 * 5) (G : Gw w mg mb s.heap) (hL7 : 207 ≤ L) (n0 : s.heap.Ns L m) (hm : ∃ y u, m y = some u) (kc : KC s.heap a b ns md cell) (hns : ns ≠ L) (rows : RowsIn s.heap vs X) (hl : s.heap.IsList l vs.toArray) (h2 : 2 ≤ vs.length) (h64 : vs.length < 64)
    (ha1 : argsOk "sorted" ⟨[.ref l], kw⟩) (ha2 : ∀ x, argsOk "list.sort" ⟨[.ref x], kw⟩) (ht : ∀ x, Builtin.«list.sort» ⟨[.ref x], kw⟩ = ksk_tree x (.ref a) rv)
    (hQ : ∀ D h' c tk, s.heap.get? D = none → KeepsBut [L] s.heap h' → h'.Ns L m →
      h'.get? D = some (listOf (List.toArray (katRev rv ((runT (fun i j => decide (cmpTo (X (turned rv vs.length i)) (X (turned rv vs.length j)) 10 < 0)) (kas_sort vs.length)).toList.map fun i => (katRev rv vs).getD i Value.none))) c) → Q (.ref D) { s with heap := h', toks := tk }) :
    wpAny (model prog w) A (call (.builtin "sorted") [.ref l] kw) Q E s := by
  refine kat_sortedK (fr0 n0) (news0 (l := [L]) (by simp)) hl h2 h64 ha1 ha2 ht fun D kS e1 h' F N hlt hlow => ?_
  have fresh : ∀ x, (∀ q ∈ allBut s.heap [L], q.1 < x) → x ≠ L → s.heap.get? x = none := fun x hx hxL => by
    cases e : s.heap.get? x with
    | none => rfl
    | some o => exact absurd (hx _ (mem_allBut.mpr ⟨e, by simpa using hxL⟩)) (Nat.lt_irrefl _)
  have kL := (N _ (.head _)).2.1
  have dL := (N _ (.tail _ (.head _))).2.1
  have fd := fresh D hlow dL
  have fk := fresh kS (fun q hq => Nat.lt_trans (hlow q hq) hlt) kL
  have lim : ∀ h, KeepsBut [L] s.heap h → h.NoLimit := fun h k => (G.but (by simpa using hL7) k).T.nolimit
  have kD : kS ≠ D := Nat.ne_of_gt hlt
  refine keys_made (A := A.in1.in1) (b := b) (X := X) a1 (Nat.le_trans a2 (by decide)) (by show A.units + 1 + 1 ≤ _; omega) n0 hm lim kc hns rows fk fd kD kL dL ?_ vs [] 0 h' _ (by simp) rfl ⟨⟨s.toks, rfl⟩, F.ns, fun b o hb e => ?_, (N _ (.head _)).1, (N _ (.tail _ (.head _))).1, fun i k hk => by simp at hk⟩
  · intro ks e h s' hlen S
    have tyK : ∀ v ∈ ks, Looks (model prog w) s'.heap (typeOf v) (.ref a) := fun v hv => by
      obtain ⟨i, hi⟩ := List.getElem?_of_mem hv
      obtain ⟨x, p, rfl, _, dx, e1, _⟩ := S.ins i v hi
      obtain ⟨tk, rfl⟩ := S.eq
      exact (Looks.ld e1).andThen .now
    refine kas_kind (T := .ref a) (by rw [hlen]; exact h2) tyK rfl (by simp) ?_
    refine kasWp_run (N := vs.length) (R := LowP vs.length) (Inv := fun s' => ∃ h, SI h s L m kS D ks e e1 a vs s') (lt := fun i j => decide (cmpTo (X (turned rv vs.length i)) (X (turned rv vs.length j)) 10 < 0)) ?_ _ _ (asks_sort (by omega)) ⟨h, S⟩ ?_
    · intro i j C s1 hi hj hI hC
      obtain ⟨h1, S1⟩ := hI
      obtain ⟨tk1, rfl⟩ := S1.eq
      have key : ∀ i, i < vs.length → ∃ x p, (katRev rv ks).getD i Value.none = .ref x ∧ InstK h1 x a (.ref p) ∧ RowAt h1 p (X (turned rv vs.length i)) (turned rv vs.length i) := fun i hi => by
        have hti : turned rv vs.length i < vs.length := by
          unfold turned
          split <;> omega
        have hk : ks[turned rv vs.length i]? = some (ks[turned rv vs.length i]'(by rw [hlen]; exact hti)) := List.getElem?_eq_getElem _
        obtain ⟨x, p, e1, e2, e3⟩ := S1.ins _ _ hk
        obtain ⟨p', e4, e5⟩ := rows _ _ e2
        cases e4
        refine ⟨x, p, ?_, e3, e5.but n0 S1.kp⟩
        rw [List.getD_eq_getElem?_getD, katRev_get rv ks (by rw [hlen]; exact hi), hlen, hk, e1]
        rfl
      obtain ⟨x, p, ex, ix, rx⟩ := key i hi
      obtain ⟨y, q, ey, iy, ry⟩ := key j hj
      unfold kas_ask
      rw [ex, ey]
      refine ask_k (A := A.in1.in1) (s := { s with heap := h1, toks := tk1 }) a1 (Nat.le_trans a2 (by decide)) (by show A.units + 1 + 1 ≤ _; omega) (G.but (by simpa using hL7) S1.kp) (kc.but n0 hns S1.kp) ix iy rx ry fun h3 tk3 k3 => hC _ ⟨h3, ⟨tk3, rfl⟩, ns_keep S1.ns fun o e => k3 _ _ e, fun b o hb e => k3 _ _ (S1.kp b o hb e), k3 _ _ S1.kl, k3 _ _ S1.dl, S1.ins.keeps k3⟩
    · intro s1 hI
      obtain ⟨h1, S1⟩ := hI
      obtain ⟨tk1, rfl⟩ := S1.eq
      obtain ⟨N1, U1⟩ := head0 L S1.kl kL
      refine ⟨_, _, fr0 S1.ns, N1, U1, fun h3 c F3 N3 => ?_⟩
      have d3 := after0 N3 S1.dl kD.symm dL
      obtain ⟨N4, U4⟩ := head0 L d3 dL
      refine ⟨_, _, F3, N4, U4, fun h5 c5 F5 N5 => hQ D h5 c5 tk1 fd (fun b o hb e => ?_) F5.ns (N5 _ (.head _)).1⟩
      have hbL : b ≠ L := by simpa using hb
      exact after0 N5 (after0 N3 (S1.kp b o hb e) (fun z => by rw [z, fk] at e; cases e) hbL) (fun z => by rw [z, fd] at e; cases e) hbL
  · have hbL : b ≠ L := by simpa using hb
    exact (N (b, o) (.tail _ (.tail _ (mem_allBut.mpr ⟨e, by simpa using hbL⟩)))).1
end
end Mine
end

section
open PySem PySem.W PySem.W.X PyProof.Rows PySem.Calls
set_option Elab.async false
set_option maxRecDepth 100000
set_option maxHeartbeats 1000000
set_option linter.unusedVariables false
namespace Mine
section
variable {w : World} {A : Around} {E : Value → Shared → Prop} {s : Shared} {a ns md cell : Addr} {b : Bod}
theorem upd_list {h : Heap} {x : Addr} {xs : Array Value} {n : Nat} (e : h.get? x = some (seqObj "list" xs n)) (f : Array Value → Array Value) : ∃ h' c, h' = h.update x (Obj.mapSeq f) ∧ h'.get? x = some (seqObj "list" (f xs) c) ∧ KeepsBut [x] h h' :=
  ⟨_, _, rfl, get?_update_seq e f, KeepsBut.of_same (Heap.SameBut.update ..)⟩
theorem KC.keeps {h h' : Heap} (kc : KC h a b ns md cell) (k : Keeps h h') : KC h' a b ns md cell := by
  obtain ⟨⟨tb, t, q1, t0, t1, q2, t2, KA⟩, ⟨_, _, _, _, _, _, f0⟩, ⟨_, _, _, _, _, _, _, _, _, _, _, f1⟩, ⟨o, e, hd⟩⟩ := kc
  exact ⟨⟨tb, t, q1, t0, t1, q2, t2, k _ _ KA.hc, k _ _ KA.hn, k _ _ KA.hm⟩, ⟨_, _, _, _, _, _, f0.keeps k⟩, ⟨_, _, _, _, _, _, _, _, _, _, _, f1.keeps k⟩, ⟨o, k _ _ e, hd⟩⟩
/-- sorted by K, of one row -/
theorem sorted_one {l p : Addr} {rv : Bool} {kw : List (Str × Value)} {Q : Value → Shared → Prop} (a1 : A.handled = none) (a2 : A.depth ≤ 600 - 10 * 5) (a3 : A.units ≤ 2000 - 50 * 5) (lim : s.heap.NoLimit) (kc : KC s.heap a b ns md cell) (hl : s.heap.IsList l #[.ref p])
    (ha1 : argsOk "sorted" ⟨[.ref l], kw⟩) (ha2 : ∀ x, argsOk "list.sort" ⟨[.ref x], kw⟩) (ht : ∀ x, Builtin.«list.sort» ⟨[.ref x], kw⟩ = ksk_tree x (.ref a) rv)
    (hQ : ∀ D h' c tk, s.heap.get? D = none → Keeps s.heap h' → h'.get? D = some (listOf #[.ref p] c) → Q (.ref D) { s with heap := h', toks := tk }) :
    wpAny (model prog w) A (call (.builtin "sorted") [.ref l] kw) Q E s := by
  refine call_function_entry_kw kind_sorted plain_sorted entry_sorted ha1 ?_
  unfold Builtin.«sorted»
  refine wpAny_bind (m := checkCount "sorted" 1 1 _) (wpAny_pure ?_)
  refine wpAny_bind (collect_list (vs := [.ref p]) hl ?_ (by rw [sizeLine_eq]; exact Nat.le_of_ble_eq_true rfl))
  have kA : Keeps s.heap ((s.heap.push (seqObj "list" #[] 0)).update s.heap.objs.size (Obj.mapSeq (· ++ [Value.ref p].toArray))) := keeps_of_mem (((Mem.start s.heap).alloc (o := seqObj "list" #[] 0) rfl).update (i := 0) (f := Obj.mapSeq (· ++ [Value.ref p].toArray)) rfl rfl)
  generalize ((s.heap.push (seqObj "list" #[] 0)).update s.heap.objs.size (Obj.mapSeq (· ++ [Value.ref p].toArray))) = hA at kA ⊢
  refine wpAny_bind (wpAny_newList ?_ (by rw [sizeLine_eq]; exact Nat.le_of_ble_eq_true rfl))
  have kB : Keeps hA (hA.push (seqObj "list" [Value.ref p].toArray 0)) := fun b o e => Heap.get?_push_of_some _ e
  have eD : (hA.push (seqObj "list" [Value.ref p].toArray 0)).get? hA.objs.size = some (seqObj "list" [Value.ref p].toArray 0) := Heap.get?_push_size _ rfl
  have fD : hA.get? hA.objs.size = none := Heap.get?_none_of_le (Nat.le_refl _)
  show wpAny _ _ _ _ _ { s with heap := hA.push (seqObj "list" [Value.ref p].toArray 0) }
  generalize hA.objs.size = D at eD fD
  generalize hA.push (seqObj "list" [Value.ref p].toArray 0) = hB at kB eD
  have fDs : s.heap.get? D = none := by
    cases q : s.heap.get? D with
    | none => rfl
    | some o => rw [kA _ _ q] at fD; cases fD
  refine wpAny_bind (wpAny_holding (wpAny_call_entry_kw slot_list_sort ⟨_, eD, rfl⟩ entry_list_sort ?_ (ha2 _)))
  rw [ht]
  unfold ksk_tree
  refine wpAny_bind (listItems_at eD rfl ?_)
  refine wpAny_bind (listUpdate_at eD rfl ?_ (by rw [sizeLine_eq]; exact Nat.le_of_ble_eq_true rfl) (Nat.zero_le _))
  obtain ⟨h1, c1, e1, eD1, kb1⟩ := upd_list eD fun _ => #[]
  rw [← e1]
  refine wpAny_bind (seqEpoch_at (s := { s with heap := h1 }) eD1 rfl ?_)
  refine wpAny_bind (wpAny_newTuple ?_ (by rw [sizeLine_eq]; exact Nat.le_of_ble_eq_true rfl))
  refine wpAny_bind (wpAny_newList ?_ (Nat.zero_le _))
  refine wpAny_holding ?_
  show wpAny _ _ (ksk_rest D (Value.ref a) rv #[Value.ref p] c1 (Value.ref (h1.push (seqObj "tuple" #[Value.ref p] 0)).objs.size)) _ _ { s with heap := (h1.push (seqObj "tuple" #[Value.ref p] 0)).push (seqObj "list" #[] 0) }
  have k2 : Keeps h1 ((h1.push (seqObj "tuple" #[Value.ref p] 0)).push (seqObj "list" #[] 0)) := fun b o e => Heap.get?_push_of_some _ (Heap.get?_push_of_some _ e)
  have eK : ((h1.push (seqObj "tuple" #[Value.ref p] 0)).push (seqObj "list" #[] 0)).get? (h1.push (seqObj "tuple" #[Value.ref p] 0)).objs.size = some (seqObj "list" #[] 0) := Heap.get?_push_size _ rfl
  have fK : h1.get? (h1.push (seqObj "tuple" #[Value.ref p] 0)).objs.size = none := Heap.get?_none_of_le (by rw [Heap.size_push]; exact Nat.le_succ _)
  generalize (h1.push (seqObj "tuple" #[Value.ref p] 0)).objs.size = kS at eK fK
  generalize (h1.push (seqObj "tuple" #[Value.ref p] 0)).push (seqObj "list" #[] 0) = h2 at k2 eK
  have s2 : Keeps s.heap h2 := fun b o e => k2 _ _ (kb1 _ _ (by
    rw [List.mem_singleton]
    rintro rfl
    rw [fDs] at e; cases e) (kB _ _ (kA _ _ e)))
  have fKs : s.heap.get? kS = none := by
    cases q : s.heap.get? kS with
    | none => rfl
    | some o =>
      have hD : kS ≠ D := by rintro rfl; rw [fDs] at q; cases q
      rw [kb1 _ _ (by simp [hD]) (kB _ _ (kA _ _ q))] at fK; cases fK
  have kD : kS ≠ D := by rintro rfl; rw [eD1] at fK; cases fK
  unfold ksk_rest
  refine wpAny_bind (wpAny_rule ?_)
  refine wpAny_bind ?_
  rw [← Array.forIn_toList]
  refine wp_for1 (wpAny_bind (wpAny_attempt ?_))
  refine wpAny_mono (fit (c_knew (s := { s with heap := h2 }) (v := .ref p) (kc.keeps s2) (lim.keeps s2)) a1 (Nat.le_trans a2 (by decide)) (by show A.units + 1 + 1 ≤ _; omega)) (fun k s3 hk => ?_) fun _ _ e => e.elim
  obtain ⟨h3, tk3, rfl, k3, x, rfl, ix⟩ := hk
  have eK3 := k3 _ _ eK
  refine wpAny_bind (listUpdate_at eK3 rfl ?_ (Nat.zero_le _) (by rw [sizeLine_eq]; exact Nat.le_of_ble_eq_true rfl))
  obtain ⟨h4, c4, e4, eK4, kb4⟩ := upd_list eK3 fun xs => xs.push (.ref x)
  rw [← e4]
  refine wpAny_pure (wp_for0 ?_)
  refine wpAny_bind (listItems_at (s := { s with heap := h4, toks := tk3 }) eK4 rfl ?_)
  unfold ksk_end
  have tail : ∀ kind, wpAny (model prog w) A.in1.in1 (ksk_tail D rv c1 (Value.ref kS) (SortSt.mk' kind (if rv = true then ((#[].push (Value.ref x)).zip #[Value.ref p]).reverse else (#[].push (Value.ref x)).zip #[Value.ref p]) #[] 7 none)) (fun fin s' =>
      ∃ v, fin = Fin.done (Flow.ret v) ∧ wpAny (model prog w) A.in1 (ret (Value.ref D)) (fun fin s' => ∃ v, fin = Fin.done (Flow.ret v) ∧ Q v s') E s') E { s with heap := h4, toks := tk3 } := by
    intro kind
    unfold ksk_tail
    refine wpAny_bind (listUpdate_at eK4 rfl ?_ (by rw [sizeLine_eq]; exact Nat.le_of_ble_eq_true rfl) (Nat.zero_le _))
    obtain ⟨h5, c5, e5, eK5, kb5⟩ := upd_list eK4 fun _ => #[]
    rw [← e5]
    refine wpAny_bind (wpAny_letGo ?_)
    have eD5 : h5.get? D = some (seqObj "list" #[] c1) := kb5 _ _ (by simp [kD.symm]) (kb4 _ _ (by simp [kD.symm]) (k3 _ _ (k2 _ _ eD1)))
    refine wpAny_bind (seqEpoch_at (s := { s with heap := h5, toks := tk3 }) eD5 rfl ?_)
    refine wpAny_bind (listUpdate_at (s := { s with heap := h5, toks := tk3 }) eD5 rfl ?_ (Nat.zero_le _) ?_)
    · obtain ⟨h6, c6, e6, eD6, kb6⟩ := upd_list eD5 fun _ => if rv = true then ((arrOf (SortSt.mk' kind (if rv = true then ((#[].push (Value.ref x)).zip #[Value.ref p]).reverse else (#[].push (Value.ref x)).zip #[Value.ref p]) #[] 7 none)).map (·.2)).reverse else (arrOf (SortSt.mk' kind (if rv = true then ((#[].push (Value.ref x)).zip #[Value.ref p]).reverse else (#[].push (Value.ref x)).zip #[Value.ref p]) #[] 7 none)).map (·.2)
      rw [← e6]
      refine wpAny_ite_false (by simp) (wpAny_pure ⟨_, rfl, wpAny_pure ⟨_, rfl, hQ D h6 c6 tk3 fDs (fun b o e => ?_) ?_⟩⟩)
      · have b1 : b ≠ D := by rintro rfl; rw [fDs] at e; cases e
        have b2 : b ≠ kS := by rintro rfl; rw [fKs] at e; cases e
        exact kb6 _ _ (by simp [b1]) (kb5 _ _ (by simp [b2]) (kb4 _ _ (by simp [b2]) (k3 _ _ (s2 _ _ e))))
      · rw [eD6]
        cases rv <;> kernel_rfl
    · rw [sizeLine_eq]
      refine Nat.le_trans (m := 1) ?_ (by decide)
      refine Nat.le_of_eq ?_
      cases rv <;> kernel_rfl
  cases rv with
  | false => exact wpAny_ite_false rfl (wpAny_ite_true (by kernel_rfl) (wpAny_bind (wpAny_pure (wpAny_bind (wpAny_of_eq (a := ((), _)) rfl (tail _))))))
  | true => exact wpAny_ite_true rfl (wpAny_bind (wpAny_rule (wpAny_ite_true (by kernel_rfl) (wpAny_bind (wpAny_pure (wpAny_bind (wpAny_of_eq (a := ((), _)) rfl (tail _))))))))
end
end Mine
end

section
open PySem PySem.W PySem.Calls PyProof.Rows
set_option Elab.async false
set_option maxRecDepth 100000
set_option maxHeartbeats 1000000
set_option linter.unusedVariables false
namespace Mine
theorem EltOK.imp {w : World} {A : Around} {env : Env} {elt : PySem.Expr} {scope : Scope} {cl : List (Str × Addr)} {wr : List Addr} {s₂ : Shared} {S S' : Nat → (Str → Option Value) → Prop} {P : Nat → Value → Heap → Prop} (e : EltOK w A env elt scope cl wr s₂ S P) (h : ∀ i m', S' i m' → S i m') : EltOK w A env elt scope cl wr s₂ S' P :=
  fun C i s m' a b c d => e C i s m' a b c (h _ _ d)
theorem RowAt.ke {h h' : Heap} {p : Addr} {x : Str} {i : Int} (r : RowAt h p x i) (k : KE h h') : RowAt h' p x i := by
  obtain ⟨tx, ti, e, hs⟩ := r
  exact ⟨tx, ti, k _ _ e ⟨(fun _ _ q => nomatch q), fun q => by simp at q⟩, hs⟩
theorem RowAt.off {h h' : Heap} {p : Addr} {x : Str} {i : Int} {wr : List Addr} (r : RowAt h p x i) (k : KeepsBut wr h h') (hw : ∀ a ∈ wr, ∃ o, h.get? a = some o ∧ o.cls ≠ .type "tuple") : RowAt h' p x i := by
  obtain ⟨tx, ti, e, hs⟩ := r
  refine ⟨tx, ti, k _ _ (fun q => ?_) e, hs⟩
  obtain ⟨o, eo, hc⟩ := hw _ q
  rw [e] at eo; cases eo
  exact hc rfl
noncomputable def lawScope : Scope :=
        { kind := ScopeKind.function,
          names :=
            [(Str.ofString "script", NameKind.local), (Str.ofString "drawn", NameKind.local),
              (Str.ofString "modes", NameKind.local), (Str.ofString "listed", NameKind.local),
              (Str.ofString "numbers", NameKind.local), (Str.ofString "upward", NameKind.local),
              (Str.ofString "downward", NameKind.local), (Str.ofString "sum", NameKind.globalImplicit),
              (Str.ofString "enumerate", NameKind.globalImplicit), (Str.ofString "all", NameKind.globalImplicit),
              (Str.ofString "zip", NameKind.globalImplicit), (Str.ofString "sorted", NameKind.globalImplicit),
              (Str.ofString "cmp_to_key", NameKind.globalImplicit), (Str.ofString "_law_rule", NameKind.globalImplicit),
              (Str.ofString "reduce", NameKind.globalImplicit), (Str.ofString "_law_lesser", NameKind.globalImplicit),
              (Str.ofString "min", NameKind.globalImplicit)],
          isGenerator := false, isCoroutine := false,
          more :=
            [(Str.ofString "fast", Const.str (Str.ofString "script")),
              (Str.ofString "fast", Const.str (Str.ofString "number")),
              (Str.ofString "fast", Const.str (Str.ofString "drawn")),
              (Str.ofString "fast", Const.str (Str.ofString "modes")),
              (Str.ofString "fast", Const.str (Str.ofString "place")),
              (Str.ofString "fast", Const.str (Str.ofString "bits")),
              (Str.ofString "fast", Const.str (Str.ofString "listed")),
              (Str.ofString "fast", Const.str (Str.ofString "numbers")),
              (Str.ofString "fast", Const.str (Str.ofString "told")),
              (Str.ofString "fast", Const.str (Str.ofString "row")),
              (Str.ofString "fast", Const.str (Str.ofString "upward")),
              (Str.ofString "fast", Const.str (Str.ofString "downward"))] }
noncomputable def lawEnv (L : Addr) : Env := envOf (Str.ofString "law") lawScope L 206 (Value.ref 205)
section
variable {w : World} {A : Around} {E : Value → Shared → Prop} {s : Shared} {mean : ExcName → Option Value} {mg mb : Str → Option Value} {m : Str → Option Value} {L : Addr} {h₀ : Heap}
theorem law_kind : (lawEnv L).scope.kind = .function := rfl
theorem law_glob : (lawEnv L).globals = mainGlobals := rfl
theorem law_bui : (lawEnv L).builtins = builtinsNs := rfl
theorem law_loc : (lawEnv L).locals = L := rfl
theorem it_listed {D : Addr} {ws : List Value} {ms : List Int} {p1 p2 p3 p4 p5 p6 p7 p8 p9 pt pu : Pos} {x1 x2 : Nat} {scope : Scope} {cl : List (Str × Addr)} {Q : Flow → Shared → Prop} (a1 : A.handled = none) (a2 : A.depth ≤ 600 - 10 * 2) (a3 : A.units ≤ 2000 - 50 * 2)
    (X : (hd.heap_39 w.params).In h₀) (T : Top hd.view_39 loose mean mg mb h₀) (k0 : Keeps h₀ s.heap) (n : s.heap.Ns L m) (hm : m (Str.ofString "modes") = some (.ref D)) (hD : s.heap.IsList D ws.toArray) (hI : IntsAre ws ms) (hlen : ms.length ≤ 1000)
    (hk : scope.kind = .function) (hf : ∀ C, (compEnvC scope cl C (lawEnv L)).kindOf (Str.ofString "filemode") = some .globalImplicit) (hb : scope.names.lookup (Str.ofString "bits") = some .local) (hp : scope.names.lookup (Str.ofString "place") = some .local)
    (hQ : ∀ D' ys h' tk c, s.heap.get? D' = none → ys.length = ms.length → RowsIn h' ys (fun i => txt (ms.getD i 0)) → KeepsBut [L] s.heap h' → h'.Ns L (fun z => if z = Str.ofString "listed" then some (.ref D') else m z) → h'.get? D' = some (listOf ys.toArray c) → Q .next { s with heap := h', toks := tk }) :
    wpAny (model prog w) A (eval (.Call (.Name (Str.ofString "enumerate") p1) [.Name (Str.ofString "modes") p2] [] p3) (lawEnv L)) (fun xv s₁ => wpAny (model prog w) A (pyIter xv)
      (CompStore w A (lawEnv L) (.Tuple [.Call (.Name (Str.ofString "filemode") p4) [.Name (Str.ofString "bits") p5] [] p6, .Name (Str.ofString "place") p7] x1 pt) (.Tuple [.Name (Str.ofString "place") p8, .Name (Str.ofString "bits") p9] x2 pu) scope cl (Str.ofString "listed") Q) E s₁) E s := by
  have G : Gw w mg mb s.heap := (Gw.of X T).keeps k0
  have hz : ws.toArray.size = ms.length := by simp [hI.length]
  refine go_enum G law_kind law_glob law_bui n rfl rfl (by decide) hm hD fun h₂ e it hE hI2 hl k fe fi hei => ?_
  refine enum_store a1 n hD (by lia) hp hb hk hE hI2 hl k fe fi hei (fun i v h h' hPv ke => ?_) (fun j v h h' hPv he hi kb => ?_)
    ((elt_listed (md := fun i => ms.getD i 0) (n := 0) (mean := mean) (mg := mg) (mb := mb) a1 a2 a3 (fun h kb => ?_) hk rfl hf hb hp).imp fun i m' hS => ?_) ?_
  · obtain ⟨p, rfl, r⟩ := hPv
    exact ⟨p, rfl, r.ke ke⟩
  · obtain ⟨p, rfl, r⟩ := hPv
    refine ⟨p, rfl, r.off kb fun a ha => ?_⟩
    rcases List.mem_cons.mp ha with rfl | ha
    · obtain ⟨o, eo, hc⟩ := he; exact ⟨o, eo, by rw [hc]; simp⟩
    · rw [List.mem_singleton] at ha; subst ha
      obtain ⟨o, eo, hc⟩ := hi; exact ⟨o, eo, by rw [hc]; simp⟩
  · have kk : Keeps h₀ h := keeps_new (k0.trans k) kb (by simp [none_of_keeps k0 fe, none_of_keeps k0 fi])
    exact ⟨fun a o q => kk _ _ (X a o q), T.keeps kk⟩
  · obtain ⟨hi, v, t, e1, e2, e3⟩ := hS
    obtain ⟨t', rfl⟩ := hI.int_at i v (by simpa using e1)
    exact ⟨⟨t', e2⟩, t, e3 (by decide)⟩
  · intro D' ys h' tk c f1 hlen' hel kb n' hd
    exact hQ D' ys h' tk c f1 (by lia) hel kb n' hd
theorem elt_number {scope : Scope} {cl : List (Str × Addr)} {wr : List Addr} {p1 p2 p3 : Pos} {md : Nat → Int} {env : Env} {s₂ : Shared} (a1 : A.handled = none) (a2 : A.depth ≤ 600 - 10 * 2) (a3 : A.units ≤ 2000 - 50 * 2)
    (GX : ∀ h, KeepsBut wr s₂.heap h → (hd.heap_39 w.params).In h ∧ Top hd.view_39 loose mean mg mb h)
    (hk : scope.kind = .function) (hg : env.globals = mainGlobals) (hf : ∀ C, (compEnvC scope cl C env).kindOf (Str.ofString "_law_number") = some .globalImplicit) (hb : scope.names.lookup (Str.ofString "bits") = some .local) (hr : ∀ i, 0 ≤ md i ∧ md i < 65536) :
    EltOK w A env (.Call (.Name (Str.ofString "_law_number") p1) [.Name (Str.ofString "bits") p2] [] p3) scope cl wr s₂ (fun i m' => ∃ t, m' (Str.ofString "bits") = some (.int (md i) t)) (fun i v h => ∃ t, v = .int (lawNumber (md i)) t) := by
  intro C i s m' hC kb hn hS
  obtain ⟨tb, hbits⟩ := hS
  obtain ⟨X, T⟩ := GX _ kb
  have G := Gw.of X T
  have hfo : ∃ o fd, (hd.heap_39 w.params).lookup 147 = some o ∧ o.data = .func fd := ⟨_, _, rfl, rfl⟩
  obtain ⟨fo, fd, hfo, hfd⟩ := hfo
  have hf1 := X _ _ hfo
  have kc : (compEnvC scope cl C env).scope.kind = .function := by simp [compEnvC, relabel, hk]
  refine Call_ (ev_global kc (hf C) (by show s.heap.Ns env.globals mg; rw [hg]; exact T.g) (mg_number G) ?_)
  refine callWith_def_at hf1 hfd (args_cons (ev_local kc (lookup_relabel_local hb) hn hbits (args_nil ⟨hf1, ?_⟩)))
  refine wpAny_mono (fit (c_number X T (hr i).1 (hr i).2) a1 (Nat.le_trans a2 (by decide)) (Nat.le_trans a3 (by decide))) (fun v s3 hv => ?_) fun _ _ e => e.elim
  obtain ⟨h3, tk3, rfl, k3, t, rfl⟩ := hv
  exact ⟨_, _, rfl, k3, t, rfl⟩
end
end Mine
end

section
open PySem PySem.W PySem.Calls PyProof.Rows
set_option Elab.async false
set_option maxRecDepth 100000
set_option maxHeartbeats 1000000
set_option linter.unusedVariables false
namespace Mine
theorem txt_text {m : Int} (h0 : 0 ≤ m) (h1 : m < 65536) : txt m = textOf (dg m) := by
  unfold txt textOf
  rw [signs_dg h0 h1]
section
variable {w : World} {A : Around} {E : Value → Shared → Prop} {s s₂ : Shared} {env : Env} {mean : ExcName → Option Value} {mg mb : Str → Option Value}
theorem const_int {Q : Value → Shared → Prop} {i : Int} {k : Nat} {pos : Pos} (h : ∀ t tk, Q (.int i t) { s with toks := tk }) : wpAny (model prog w) A (eval (.Constant (.int i) k pos) env) Q E s := wpAny_Constant_int (h _ _)
theorem sub1 {Q : Value → Shared → Prop} {x : Str} {p1 p2 p3 : Pos} {k : Nat} {m : Str → Option Value} {p : Addr} {u v : Value} (hk : env.scope.kind = .function) (hl : env.kindOf x = some .local) (n : s.heap.Ns env.locals m) (hm : m x = some (.ref p)) (hp : TupAt s.heap p #[u, v]) (hx : (x == ("__debug__" : Str)) = false) (hQ : ∀ tk, Q v { s with toks := tk }) :
    wpAny (model prog w) A (eval (.Subscript (.Name x p1) (.Constant (.int 1) k p2) p3) env) Q E s :=
  Subscript_ (ev_local hk hl n hm (const_int fun t tk => item1 (s := { s with toks := tk }) hp (fun _ _ e => e) (hQ tk)) hx)
theorem sub0 {Q : Value → Shared → Prop} {x : Str} {p1 p2 p3 : Pos} {k : Nat} {m : Str → Option Value} {p : Addr} {u v : Value} (hk : env.scope.kind = .function) (hl : env.kindOf x = some .local) (n : s.heap.Ns env.locals m) (hm : m x = some (.ref p)) (hp : TupAt s.heap p #[u, v]) (hx : (x == ("__debug__" : Str)) = false) (hQ : ∀ tk, Q u { s with toks := tk }) :
    wpAny (model prog w) A (eval (.Subscript (.Name x p1) (.Constant (.int 0) k p2) p3) env) Q E s :=
  Subscript_ (ev_local hk hl n hm (const_int fun t tk => item0 (s := { s with toks := tk }) hp (fun _ _ e => e) (hQ tk)) hx)
/-- row[1] -/
theorem elt_row1 {scope : Scope} {cl : List (Str × Addr)} {wr : List Addr} {p1 p2 p3 : Pos} {k : Nat} {y : Nat → Int} (hk : scope.kind = .function) (hr : scope.names.lookup (Str.ofString "row") = some .local) :
    EltOK w A env (.Subscript (.Name (Str.ofString "row") p1) (.Constant (.int 1) k p2) p3) scope cl wr s₂ (fun i m' => ∃ p x t, m' (Str.ofString "row") = some (.ref p) ∧ TupAt s₂.heap p #[x, .int (y i) t] ∧ p ∉ wr) (fun i v h => ∃ t, v = .int (y i) t) := by
  intro C i s m' hC kb hn hS
  obtain ⟨p, x, t, e1, e2, e3⟩ := hS
  have kc : (compEnvC scope cl C env).scope.kind = .function := by simp [compEnvC, relabel, hk]
  exact sub1 kc (lookup_relabel_local hr) hn e1 (kb _ _ e3 e2) (by decide) fun tk => ⟨_, _, rfl, Keeps.refl _, t, rfl⟩
/-- (told, place) -/
theorem elt_pair {scope : Scope} {cl : List (Str × Addr)} {wr : List Addr} {p1 p2 p3 : Pos} {x1 : Nat} {y : Nat → Int} (hk : scope.kind = .function) (ht : scope.names.lookup (Str.ofString "told") = some .local) (hp : scope.names.lookup (Str.ofString "place") = some .local) :
    EltOK w A env (.Tuple [.Name (Str.ofString "told") p1, .Name (Str.ofString "place") p2] x1 p3) scope cl wr s₂ (fun i m' => (∃ t, m' (Str.ofString "told") = some (.int (y i) t)) ∧ ∃ t, m' (Str.ofString "place") = some (.int i t)) (fun i v h => ∃ p t u, v = .ref p ∧ TupAt h p #[.int (y i) t, .int i u]) := by
  intro C i s m' hC kb hn hS
  obtain ⟨⟨t1, e1⟩, ⟨t2, e2⟩⟩ := hS
  have kc : (compEnvC scope cl C env).scope.kind = .function := by simp [compEnvC, relabel, hk]
  refine wpAny_Tuple (args_cons (ev_local kc (lookup_relabel_local ht) hn e1 (args_cons (ev_local kc (lookup_relabel_local hp) hn e2 (args_nil ⟨by rw [sizeLine_eq]; exact Nat.le_of_ble_eq_true rfl, ?_⟩)))))
  exact ⟨_, _, rfl, fun b o e => Heap.get?_push_of_some _ e, _, t1, t2, rfl, Heap.get?_push_size _ rfl⟩
/-- (-told, place) -/
theorem elt_npair {scope : Scope} {cl : List (Str × Addr)} {wr : List Addr} {p1 p2 p3 p4 : Pos} {x1 : Nat} {y : Nat → Int} (hk : scope.kind = .function) (ht : scope.names.lookup (Str.ofString "told") = some .local) (hp : scope.names.lookup (Str.ofString "place") = some .local) :
    EltOK w A env (.Tuple [.UnaryOp .USub (.Name (Str.ofString "told") p1) p4, .Name (Str.ofString "place") p2] x1 p3) scope cl wr s₂ (fun i m' => (∃ t, m' (Str.ofString "told") = some (.int (y i) t)) ∧ ∃ t, m' (Str.ofString "place") = some (.int i t)) (fun i v h => ∃ p t u, v = .ref p ∧ TupAt h p #[.int (- y i) t, .int i u]) := by
  intro C i s m' hC kb hn hS
  obtain ⟨⟨t1, e1⟩, ⟨t2, e2⟩⟩ := hS
  have kc : (compEnvC scope cl C env).scope.kind = .function := by simp [compEnvC, relabel, hk]
  refine wpAny_Tuple (args_cons (wpAny_UnaryOp (ev_local kc (lookup_relabel_local ht) hn e1 (PyProof.Rows.neg_int (args_cons (ev_local kc (lookup_relabel_local hp) hn e2 (args_nil ⟨by rw [sizeLine_eq]; exact Nat.le_of_ble_eq_true rfl, ?_⟩)))))))
  exact ⟨_, _, rfl, fun b o e => Heap.get?_push_of_some _ e, _, _, t2, rfl, Heap.get?_push_size _ rfl⟩
/-- _law_well_read(bits, told, row[0]) -/
theorem elt_wellread {scope : Scope} {cl : List (Str × Addr)} {wr : List Addr} {p1 p2 p3 p4 p5 p6 p7 : Pos} {k : Nat} {md : Nat → Int} (a1 : A.handled = none) (a2 : A.depth ≤ 600 - 10 * 3) (a3 : A.units ≤ 2000 - 50 * 3)
    (GX : ∀ h, KeepsBut wr s₂.heap h → (hd.heap_39 w.params).In h ∧ Top hd.view_39 loose mean mg mb h)
    (hk : scope.kind = .function) (hg : env.globals = mainGlobals) (hf : ∀ C, (compEnvC scope cl C env).kindOf (Str.ofString "_law_well_read") = some .globalImplicit)
    (hb : scope.names.lookup (Str.ofString "bits") = some .local) (ht : scope.names.lookup (Str.ofString "told") = some .local) (hr : scope.names.lookup (Str.ofString "row") = some .local) (hm : ∀ i, 0 ≤ md i ∧ md i < 65536) :
    EltOK w A env (.Call (.Name (Str.ofString "_law_well_read") p1) [.Name (Str.ofString "bits") p2, .Name (Str.ofString "told") p3, .Subscript (.Name (Str.ofString "row") p4) (.Constant (.int 0) k p5) p6] [] p7) scope cl wr s₂
      (fun i m' => (∃ t, m' (Str.ofString "bits") = some (.int (md i) t)) ∧ (∃ t, m' (Str.ofString "told") = some (.int (lawNumber (md i)) t)) ∧ ∃ p, m' (Str.ofString "row") = some (.ref p) ∧ RowAt s₂.heap p (txt (md i)) i ∧ p ∉ wr) (fun i v h => v = .bool true) := by
  intro C i s m' hC kb hn hS
  obtain ⟨⟨tb, e1⟩, ⟨tt, e2⟩, p, e3, ⟨tx, ti, e4, hsz⟩, hpw⟩ := hS
  obtain ⟨X, T⟩ := GX _ kb
  have G := Gw.of X T
  have hfo : ∃ o fd, (hd.heap_39 w.params).lookup 201 = some o ∧ o.data = .func fd := ⟨_, _, rfl, rfl⟩
  obtain ⟨fo, fd, hfo, hfd⟩ := hfo
  have hf1 := X _ _ hfo
  have kc : (compEnvC scope cl C env).scope.kind = .function := by simp [compEnvC, relabel, hk]
  refine Call_ (ev_global kc (hf C) (by show s.heap.Ns env.globals mg; rw [hg]; exact T.g) (mg_wellread G) ?_)
  refine callWith_def_at hf1 hfd (args_cons (ev_local kc (lookup_relabel_local hb) hn e1 (args_cons (ev_local kc (lookup_relabel_local ht) hn e2 (args_cons (sub0 kc (lookup_relabel_local hr) hn e3 (kb _ _ hpw e4) (by decide) fun tk => args_nil ⟨hf1, ?_⟩))))))
  obtain ⟨m0, m1⟩ := hm i
  have F := dg_fits m0 m1
  have hv := dg_val m0 m1
  have vu := val_up F 10 (Nat.le_refl _)
  have e := txt_text m0 m1
  refine wpAny_mono (fit (c_wellread (s := { s with toks := tk }) (mean := mean) (mg := mg) (mb := mb) X T (m := md i) (k := lawNumber (md i)) (x := txt (md i)) (by lia) (by lia) (by rw [hv, e]; exact written_val F) hsz (fun j hj => ?_) (by rw [hv, e]; exact told_val F 10 (Nat.le_refl _)) (asked_ok m0 m1) (rights_ok m0 m1) (fmt_ok m0 m1)) a1 a2 a3) (fun v s3 hv => ?_) fun _ _ e => e.elim
  · rw [e, told_val F j (by lia)]
    have := val_up F j (by lia)
    lia
  · obtain ⟨h3, tk3, rfl, k3, rfl⟩ := hv
    exact ⟨_, _, rfl, k3, rfl⟩
end
end Mine
end

section
open PySem PySem.W PySem.Calls PyProof.Rows
set_option Elab.async false
set_option maxRecDepth 100000
set_option maxHeartbeats 1000000
set_option linter.unusedVariables false
namespace Mine
theorem ints_range : ∀ (ys : List Value) (f : Nat → Int), (∀ j y, ys[j]? = some y → ∃ t, y = Value.int (f j) t) → IntsAre ys ((List.range ys.length).map f)
  | [], f, _ => .nil
  | y :: ys, f, h => by
    obtain ⟨t, rfl⟩ := h 0 y rfl
    rw [List.length_cons, List.range_succ_eq_map, List.map_cons, List.map_map]
    exact .cons _ _ (ints_range ys (fun j => f (j + 1)) fun j y hy => h (j + 1) y hy)
theorem map_getD (f : Int → Int) (ms : List Int) : ((List.range ms.length).map fun i => f (ms.getD i 0)) = ms.map f := by
  apply List.ext_getElem
  · simp
  · intro i h1 h2
    simp at h1 h2 ⊢
    rw [List.getElem?_eq_getElem h1]
    rfl
theorem getD_range {ms : List Int} (hr : ∀ x ∈ ms, 0 ≤ x ∧ x < 65536) (i : Nat) : 0 ≤ ms.getD i 0 ∧ ms.getD i 0 < 65536 := by
  rw [List.getD_eq_getElem?_getD]
  cases e : ms[i]? with
  | none => exact ⟨Int.le_refl _, by decide⟩
  | some x => exact hr x (List.mem_of_getElem? e)
section
variable {w : World} {A : Around} {E : Value → Shared → Prop} {s : Shared} {mean : ExcName → Option Value} {mg mb : Str → Option Value} {m : Str → Option Value} {L : Addr} {h₀ : Heap}
theorem it_numbers {D : Addr} {ws : List Value} {ms : List Int} {p1 p2 p3 p4 p5 : Pos} {scope : Scope} {cl : List (Str × Addr)} {Q : Flow → Shared → Prop} (a1 : A.handled = none) (a2 : A.depth ≤ 600 - 10 * 2) (a3 : A.units ≤ 2000 - 50 * 2)
    (X : (hd.heap_39 w.params).In h₀) (T : Top hd.view_39 loose mean mg mb h₀) (k0 : Keeps h₀ s.heap) (n : s.heap.Ns L m) (hm : m (Str.ofString "modes") = some (.ref D)) (hD : s.heap.IsList D ws.toArray) (hI : IntsAre ws ms) (hlen : ms.length ≤ 1000) (hr : ∀ x ∈ ms, 0 ≤ x ∧ x < 65536)
    (hk : scope.kind = .function) (hf : ∀ C, (compEnvC scope cl C (lawEnv L)).kindOf (Str.ofString "_law_number") = some .globalImplicit) (hb : scope.names.lookup (Str.ofString "bits") = some .local)
    (hQ : ∀ D' ys h' tk c, s.heap.get? D' = none → IntsAre ys (ms.map lawNumber) → KeepsBut [L] s.heap h' → h'.Ns L (fun z => if z = Str.ofString "numbers" then some (.ref D') else m z) → h'.get? D' = some (listOf ys.toArray c) → Q .next { s with heap := h', toks := tk }) :
    wpAny (model prog w) A (eval (.Name (Str.ofString "modes") p1) (lawEnv L)) (fun xv s₁ => wpAny (model prog w) A (pyIter xv)
      (CompStore w A (lawEnv L) (.Call (.Name (Str.ofString "_law_number") p2) [.Name (Str.ofString "bits") p3] [] p4) (.Name (Str.ofString "bits") p5) scope cl (Str.ofString "numbers") Q) E s₁) E s := by
  have hz : ws.toArray.size = ms.length := by simp [hI.length]
  refine ev_local law_kind rfl n hm (list_store (env := lawEnv L) (P := fun i v h => ∃ t, v = .int (lawNumber (ms.getD i 0)) t) a1 n hD (by lia) hb hk (fun _ _ _ _ h _ => h) (fun _ _ _ _ _ _ h _ _ => h) (fun h₂ I k fI => ?_) ?_)
  · refine (elt_number (md := fun i => ms.getD i 0) (mean := mean) (mg := mg) (mb := mb) a1 a2 a3 (fun h kb => ?_) hk rfl hf hb (getD_range hr)).imp fun i m' hS => ?_
    · have kk : Keeps h₀ h := keeps_new (k0.trans k) kb (by simp [none_of_keeps k0 fI])
      exact ⟨fun a o q => kk _ _ (X a o q), T.keeps kk⟩
    · obtain ⟨hi, v, e1, e2⟩ := hS
      obtain ⟨t', rfl⟩ := hI.int_at i v (by simpa using e1)
      exact ⟨t', e2⟩
  · intro D' ys h' tk c f1 hlen' hel kb n' hd
    refine hQ D' ys h' tk c f1 ?_ kb n' hd
    have := ints_range ys (fun i => lawNumber (ms.getD i 0)) hel
    rw [show ys.length = ms.length by lia, map_getD lawNumber ms] at this
    exact this
theorem all_true {l : Addr} {vs : List Value} {Q : Value → Shared → Prop} (hh : A.handled = none) (hl : s.heap.IsList l vs.toArray) (hb : ∀ (i : Nat) v, vs[i]? = some v → v = .bool true)
    (h : ∀ h' tk, Keeps s.heap h' → Q (.bool true) { s with heap := h', toks := tk }) : wpAny (model prog w) A (call (.builtin "all") [.ref l]) Q E s := by
  have hlt : l < s.heap.objs.size := by obtain ⟨_, e, _⟩ := hl; exact Heap.lt_size e
  refine call_all_walk (wpAny_pyIter_list hl ?_)
  refine ⟨s.heap.objs.size, [s.heap.objs.size, l], [s.heap.objs.size], vs.toArray.size, _, _, fun i => true, rfl, Walks.list (A := A.in1) hh _ l (Nat.ne_of_lt hlt) vs.toArray,
    ⟨⟨_, Heap.get?_push_size _ rfl, rfl, rfl⟩, hl.push _⟩, fun i v s' Q' E' hP hQ => ?_, fun h' tk hk => ?_⟩
  · obtain rfl := hb i v (by simpa using hP)
    exact wpAny_truthy_bool hQ
  · have e : ((List.range vs.toArray.size).all fun i => true) = true := by simp
    rw [e]
    exact h h' tk (LSm.kept_iter hk)
theorem nodup6 (n : Nat) : [n + 5, n + 3, n + 4, n, n + 1, n + 2].Nodup := by
  simp only [List.nodup_cons, List.mem_cons, List.not_mem_nil, or_false, List.nodup_nil, not_or, and_true, not_false_eq_true]
  lia
theorem below6 {l n : Nat} (h : l < n) : l ∉ [n + 5, n + 3, n + 4, n, n + 1, n + 2] := by
  simp only [List.mem_cons, List.not_mem_nil, or_false, not_or]
  lia
theorem ev_all {Dm Dn Dl : Addr} {ws ns rs : List Value} {ms : List Int} {p1 p2 p3 p4 p5 p6 p7 p8 p9 q1 q2 q3 q4 q5 q6 pu pos cp cp2 : Pos} {x2 k : Nat} {scope : Scope} {cl : List (Str × Addr)} {Q : Value → Shared → Prop} (a1 : A.handled = none) (a2 : A.depth ≤ 600 - 10 * 3) (a3 : A.units ≤ 2000 - 50 * 3)
    (X : (hd.heap_39 w.params).In h₀) (T : Top hd.view_39 loose mean mg mb h₀) (k0 : Keeps h₀ s.heap) (n : s.heap.Ns L m) (hm : m (Str.ofString "modes") = some (.ref Dm)) (hn : m (Str.ofString "numbers") = some (.ref Dn)) (hl : m (Str.ofString "listed") = some (.ref Dl))
    (hM : s.heap.IsList Dm ws.toArray) (hI : IntsAre ws ms) (hN : s.heap.IsList Dn ns.toArray) (hJ : IntsAre ns (ms.map lawNumber)) (hR : s.heap.IsList Dl rs.toArray) (hrows : RowsIn s.heap rs (fun i => txt (ms.getD i 0))) (hrl : rs.length = ms.length) (hlen : ms.length ≤ 1000) (hr : ∀ x ∈ ms, 0 ≤ x ∧ x < 65536)
    (hclos : closureFor scope (lawEnv L) = pure cl) (hcell : ∀ y ∈ scope.names, y.2 ≠ .cell) (hnames : ∀ y ∈ scope.names, y.2 = .local → scope.names.lookup y.1 = some .local) (hs : ∀ x, foldedSetIterable (.Call (.Name (Str.ofString "zip") p1) [.Name (Str.ofString "modes") p2, .Name (Str.ofString "numbers") p3, .Name (Str.ofString "listed") p4] [] p5) (lawEnv L) x = pure x)
    (hk : scope.kind = .function) (hf : ∀ C, (compEnvC scope cl C (lawEnv L)).kindOf (Str.ofString "_law_well_read") = some .globalImplicit) (hb : scope.names.lookup (Str.ofString "bits") = some .local) (ht : scope.names.lookup (Str.ofString "told") = some .local) (hrow : scope.names.lookup (Str.ofString "row") = some .local)
    (hQ : ∀ h' tk, Keeps s.heap h' → Q (.bool true) { s with heap := h', toks := tk }) :
    wpAny (model prog w) A (eval (.Call (.Name (Str.ofString "all") p6) [.ListComp (.Call (.Name (Str.ofString "_law_well_read") p7) [.Name (Str.ofString "bits") p8, .Name (Str.ofString "told") p9, .Subscript (.Name (Str.ofString "row") q1) (.Constant (.int 0) k q2) q3] [] cp)
      [⟨.Tuple [.Name (Str.ofString "bits") q4, .Name (Str.ofString "told") q5, .Name (Str.ofString "row") q6] x2 pu, .Call (.Name (Str.ofString "zip") p1) [.Name (Str.ofString "modes") p2, .Name (Str.ofString "numbers") p3, .Name (Str.ofString "listed") p4] [] p5, [], 0⟩] scope pos] [] cp2) (lawEnv L)) Q E s := by
  have G : Gw w mg mb s.heap := (Gw.of X T).keeps k0
  refine Call_ (ev_builtin law_kind rfl (by exact G.T.g) (by exact G.T.b) (mg_all G) (mb_all G) ?_)
  refine PyProof.Rows.callWith_builtin1 (args_cons (comp_eval hclos hcell hk hnames ?_ hs))
  refine Call_ (ev_builtin law_kind rfl (by exact G.T.g) (by exact G.T.b) (mg_zip G) (mb_zip G) ?_)
  refine PyProof.Rows.callWith_type1 (args_cons (ev_local law_kind rfl n hm (args_cons (ev_local law_kind rfl n hn (args_cons (ev_local law_kind rfl n hl (args_nil ?_)))))))
  refine call_zip3 (makes_list Dm ws.toArray) (makes_list Dn ns.toArray) (makes_list Dl rs.toArray) (fun h o q => q.push _) (fun h o q => q.push _) rfl rfl rfl hM hN hR fun h' z1 z2 z3 i1 i2 i3 hz' kk => ?_
  refine iter_zip z1 ?_
  obtain ⟨oM, eM, _⟩ := id hM
  obtain ⟨oN, eN, _⟩ := id hN
  obtain ⟨oR, eR, _⟩ := id hR
  have fr : ∀ a : Nat, s.heap.objs.size ≤ a → s.heap.get? a = none := fun a ha => Heap.get?_none_of_le ha
  have zw : ws.toArray.size = ms.length := by simp [hI.length]
  have zn : ns.toArray.size = ms.length := by simp [hJ.length]
  have zr : rs.toArray.size = ms.length := by simpa using hrl
  refine ⟨_, ws.toArray.size, _, _, _, rfl, CompOK.zip3 (P := fun i v h => v = .bool true) a1 (l1 := Dm) (l2 := Dn) (l3 := Dl) (xs := ws.toArray) (ys := ns.toArray) (zs := rs.toArray)
    ⟨⟨_, z1⟩, z2, ⟨_, _, _, z3⟩, ⟨⟨_, i1, rfl, rfl⟩, hM.at fun o e => kk _ _ e⟩, ⟨⟨_, i2, rfl, rfl⟩, hN.at fun o e => kk _ _ e⟩, ⟨⟨_, i3, rfl, rfl⟩, hR.at fun o e => kk _ _ e⟩⟩ ⟨nodup6 _, fun l hl => ?_⟩ (by lia) (by lia) (by lia) hb ht hrow hk (fun _ _ _ _ h => h)
    ((elt_wellread (md := fun i => ms.getD i 0) (mean := mean) (mg := mg) (mb := mb) a1 a2 a3 (fun h kb => ?_) hk rfl hf hb ht hrow (getD_range hr)).imp fun i m' hS => ?_), ?_⟩
  · simp only [List.mem_cons, List.not_mem_nil, or_false] at hl
    rcases hl with rfl | rfl | rfl
    · exact below6 (Heap.lt_size eM)
    · exact below6 (Heap.lt_size eN)
    · exact below6 (Heap.lt_size eR)
  · have kk' : Keeps h₀ h := keeps_new (k0.trans kk) kb (fun a ha => none_of_keeps k0 (fr a (by
      simp only [List.mem_cons, List.not_mem_nil, or_false] at ha
      rcases ha with rfl | rfl | rfl | rfl | rfl <;> lia)))
    exact ⟨fun a o q => kk' _ _ (X a o q), T.keeps kk'⟩
  · obtain ⟨hi, u, v, r, e1, e2, e3, e4, e5, e6⟩ := hS
    obtain ⟨t1, rfl⟩ := hI.int_at i u (by simpa using e1)
    obtain ⟨t2, rfl⟩ := hJ.int_at i v (by simpa using e2)
    obtain ⟨p, rfl, hrw⟩ := hrows i r (by simpa using e3)
    refine ⟨⟨t1, e6 (by decide) (by decide)⟩, ⟨t2, ?_⟩, p, e4, hrw.keeps kk, ?_⟩
    · rw [e5 (by decide)]
      have : i < ms.length := by lia
      simp [List.getD_eq_getElem?_getD, List.getElem?_eq_getElem this]
    · obtain ⟨_, _, ep, _⟩ := id hrw
      intro q
      have hlt : @LT.lt Nat _ p s.heap.objs.size := Heap.lt_size ep
      simp only [List.mem_cons, List.not_mem_nil, or_false] at q
      rcases q with rfl | rfl | rfl | rfl | rfl <;> lia
  · intro D ys h3 tk c f1 f2 hlen' hel kb hD
    have k3 : Keeps s.heap h3 := fun b o e => kb b o (fun q => by
      have hlt : @LT.lt Nat _ b s.heap.objs.size := Heap.lt_size e
      simp only [List.mem_cons, List.not_mem_nil, or_false] at q
      rcases q with rfl | rfl | rfl | rfl | rfl <;> lia) (kk b o e)
    refine args_nil (all_true (s := { s with heap := h3, toks := tk }) (vs := ys) a1 ⟨_, hD, rfl, _, rfl⟩ (fun i v hv => hel i v hv) fun h4 tk4 k4 => hQ h4 tk4 (k3.trans k4))
end
end Mine
end

section
open PySem PySem.W PySem.Calls PyProof.Rows
set_option Elab.async false
set_option maxRecDepth 100000
set_option maxHeartbeats 1000000
set_option linter.unusedVariables false
namespace Mine
/-- the places in the order of their keys, equal ones as they came -/
noncomputable def Ord (key : Nat → Int) (n : Nat) (l : List Nat) : Prop := l.Perm (List.range n) ∧ l.Pairwise (Rs key)
theorem Ord.eq {key : Nat → Int} {n : Nat} {l k : List Nat} (a : Ord key n l) (b : Ord key n k) : l = k := perm_unique Rs.asymm (a.1.trans b.1.symm) a.2 b.2
theorem Ord.len {key : Nat → Int} {n : Nat} {l : List Nat} (a : Ord key n l) : l.length = n := by rw [a.1.length_eq, List.length_range]
theorem Ord.low {key : Nat → Int} {n : Nat} {l : List Nat} (a : Ord key n l) {i : Nat} (h : i ∈ l) : i < n := List.mem_range.mp (a.1.mem_iff.mp h)
theorem Ord.one {key : Nat → Int} : Ord key 1 [0] := ⟨List.Perm.refl _, List.pairwise_singleton _ _⟩
theorem Ord.sort {key : Nat → Int} {n : Nat} (h : 1 ≤ n) : Ord key n (runT (ltOf key) (kas_sort n)).toList := sort_list key h
theorem Ord.map {key key' : Nat → Int} {n : Nat} {l : List Nat} (a : Ord key n l) (h : ∀ i j, i < n → j < n → Rs key i j → Rs key' i j) : Ord key' n l :=
  ⟨a.1, a.2.imp_of_mem fun hi hj r => h _ _ (a.low hi) (a.low hj) r⟩
/-- pairs of number and place -/
theorem Ord.pairs {num : Nat → Int} {n : Nat} {l : List Nat} (hn : n ≤ 64) (a : Ord (fun i => num i * 64 + i) n l) : Ord num n l :=
  a.map fun i j hi hj r => by unfold Rs at r ⊢; dsimp only at r; lia
theorem pair_lt {num : Nat → Int} {i j n : Nat} (hn : n ≤ 64) (hi : i < n) (hj : j < n) : ltOf (fun i => num i * 64 + i) i j = if num i = num j then decide ((i : Int) < j) else decide (num i < num j) := by
  unfold ltOf
  split
  · exact decide_eq_decide.mpr (by dsimp only; lia)
  · exact decide_eq_decide.mpr (by dsimp only; lia)
theorem perm_turn : ∀ n : Nat, ((List.range n).map fun i => n - 1 - i) = (List.range n).reverse := by
  intro n
  apply List.ext_getElem
  · simp
  · intro i h1 h2
    simp at h1 h2 ⊢
/-- turned twice -/
theorem Ord.turn {num : Nat → Int} {n : Nat} {l : List Nat} (a : Ord (fun i => num (n - 1 - i)) n l) : Ord (fun i => - num i) n (l.map fun i => n - 1 - i).reverse := by
  constructor
  · refine (List.reverse_perm _).trans ((a.1.map _).trans ?_)
    rw [perm_turn]
    exact List.reverse_perm _
  · rw [List.pairwise_reverse, List.pairwise_map]
    refine a.2.imp_of_mem fun {i j} hi hj r => ?_
    have h1 := a.low hi
    have h2 := a.low hj
    unfold Rs at r ⊢
    dsimp only at r ⊢
    rcases r with r | ⟨r, q⟩
    · exact .inl (by lia)
    · exact .inr ⟨by lia, by lia⟩
/-- the earliest of the least, step by step -/
noncomputable def best (num : Nat → Int) : Nat → Nat
  | 0 => 0
  | i + 1 => if num (i + 1) < num (best num i) then i + 1 else best num i
theorem best_spec (num : Nat → Int) : ∀ i, best num i ≤ i ∧ (∀ j, j ≤ i → num (best num i) ≤ num j) ∧ ∀ j, j < best num i → num (best num i) < num j
  | 0 => ⟨Nat.le_refl _, fun j hj => by rw [Nat.le_zero.mp hj]; exact Int.le_refl _, fun j hj => absurd hj (Nat.not_lt_zero _)⟩
  | i + 1 => by
    obtain ⟨h1, h2, h3⟩ := best_spec num i
    unfold best
    split
    · rename_i h
      refine ⟨Nat.le_refl _, fun j hj => ?_, fun j hj => ?_⟩
      · rcases Nat.lt_or_ge j (i + 1) with q | q
        · have := h2 j (by lia); lia
        · rw [show j = i + 1 by lia]; exact Int.le_refl _
      · have := h2 j (by lia); lia
    · rename_i h
      refine ⟨by lia, fun j hj => ?_, h3⟩
      rcases Nat.lt_or_ge j (i + 1) with q | q
      · exact h2 j (by lia)
      · rw [show j = i + 1 by lia]; lia
theorem best_idx {ns : List Int} {M : Int} {n : Nat} (hn : ns.length = n + 1) (hM : M ∈ ns) (hm : ∀ a ∈ ns, M ≤ a) : ns.idxOf M = best (fun i => ns.getD i 0) n := by
  obtain ⟨h1, h2, h3⟩ := best_spec (fun i => ns.getD i 0) n
  generalize best (fun i => ns.getD i 0) n = b at h1 h2 h3
  have hb : b < ns.length := by lia
  have gd : ∀ j (h : j < ns.length), ns.getD j 0 = ns[j] := fun j h => by rw [List.getD_eq_getElem?_getD, List.getElem?_eq_getElem h]; rfl
  have hk : ns.idxOf M < ns.length := List.idxOf_lt_length_iff.mpr hM
  have hg : ns[ns.idxOf M] = M := List.getElem_idxOf hk
  have e1 : ns[b] = M := by
    have a := h2 (ns.idxOf M) (by lia)
    rw [gd _ hb, gd _ hk, hg] at a
    have := hm _ (List.getElem_mem hb)
    lia
  rcases Nat.lt_trichotomy (ns.idxOf M) b with q | q | q
  · have := h3 _ q
    rw [gd _ hb, gd _ hk, hg, e1] at this
    lia
  · exact q
  · have := ne_of_lt_idxOf q hb
    simp [e1] at this
end Mine
end

section
open PySem PySem.W PySem.W.X PyProof.Rows PySem.Calls
set_option Elab.async false
set_option maxRecDepth 100000
set_option maxHeartbeats 1000000
set_option linter.unusedVariables false
namespace Mine
/-- pairs of a number and a place -/
noncomputable def PairsIn (h : Heap) (vs : List Value) (num : Nat → Int) : Prop := ∀ (i : Nat) (v : Value), vs[i]? = some v → ∃ p t u, v = .ref p ∧ TupAt h p #[.int (num i) t, .int i u]
theorem PairsIn.at {h : Heap} {vs : List Value} {num : Nat → Int} (r : PairsIn h vs num) {i : Nat} (hi : i < vs.length) : ∃ p t u, vs.getD i Value.none = .ref p ∧ TupAt h p #[.int (num i) t, .int i u] := by
  obtain ⟨p, t, u, e, q⟩ := r i _ (List.getElem?_eq_getElem hi)
  exact ⟨p, t, u, by rw [List.getD_eq_getElem?_getD, List.getElem?_eq_getElem hi, e]; rfl, q⟩
theorem pairs_tups {h : Heap} : ∀ (vs : List Value) (f : Nat → Int), (∀ (i : Nat) (v : Value), vs[i]? = some v → ∃ p t y, v = .ref p ∧ TupAt h p #[.int (f i) t, y]) → ∃ fs, KatTups h vs fs ∧ fs.length = vs.length ∧ ∀ v ∈ fs, ∃ n t, v = Value.int n t
  | [], f, _ => ⟨[], trivial, rfl, fun _ q => nomatch q⟩
  | v :: vs, f, H => by
    obtain ⟨p, t, y, rfl, e⟩ := H 0 v rfl
    obtain ⟨fs, h1, h2, h3⟩ := pairs_tups vs (fun i => f (i + 1)) fun i v hv => H (i + 1) v hv
    refine ⟨.int (f 0) t :: fs, KatTups.cons e rfl rfl rfl h1, by simp [h2], fun v hv => ?_⟩
    rcases List.mem_cons.mp hv with rfl | hv
    · exact ⟨_, _, rfl⟩
    · exact h3 v hv
section
variable {w : World} {A : Around} {E : Value → Shared → Prop} {s : Shared} {m : Str → Option Value} {L : Addr} {vs : List Value} {num : Nat → Int}
theorem ask_pair {p q : Addr} {x y a b : Int} {t u t' u' : Tok} {Q : Bool → Shared → Prop} (hp : TupAt s.heap p #[.int x t, .int a u]) (hq : TupAt s.heap q #[.int y t', .int b u'])
    (h : Q (if x = y then decide (a < b) else decide (x < y)) s) : wpAny (model prog w) A (keyLt' (tuples' true) (.ref p) (.ref q)) Q E s := by
  refine kat_lt hp rfl hq rfl (kat_cons (wpAny_eqBool_int ?_))
  by_cases e : x = y
  · rw [if_pos e] at h
    rw [show (x == y) = true from by simpa using e]
    refine kat_yes (kat_cons (wpAny_eqBool_int ?_))
    by_cases e2 : a = b
    · rw [show (a == b) = true from by simpa using e2]
      refine kat_yes (kat_nil ?_)
      have : decide (a < b) = false := by simp [e2]
      rw [this] at h
      exact h
    · rw [show (a == b) = false from by simpa using e2]
      exact kat_no (kat_one _ _ (PyProof.Rows.lt_int h))
  · rw [if_neg e] at h
    rw [show (x == y) = false from by simpa using e]
    exact kat_no (oneLt_int h)
theorem sorted_pairs2 {l : Addr} {Q : Value → Shared → Prop} (n0 : s.heap.Ns L m) (rows : PairsIn s.heap vs num) (hl : s.heap.IsList l vs.toArray) (h2 : 2 ≤ vs.length) (h64 : vs.length < 64)
    (hQ : ∀ D h' c tk idx, s.heap.get? D = none → KeepsBut [L] s.heap h' → h'.Ns L m → Ord num vs.length idx → h'.get? D = some (listOf (List.toArray (idx.map fun i => vs.getD i Value.none)) c) → Q (.ref D) { s with heap := h', toks := tk }) :
    wpAny (model prog w) A (call (.builtin "sorted") [.ref l]) Q E s := by
  refine kat_sorted (fr0 n0) (news0 (l := [L]) (by simp)) hl h2 h64 fun D e1 h' F N hlow => ?_
  have dL := (N _ (.head _)).2.1
  have fd : s.heap.get? D = none := by
    cases e : s.heap.get? D with
    | none => rfl
    | some o => exact absurd (hlow _ (mem_allBut.mpr ⟨e, by simpa using dL⟩)) (Nat.lt_irrefl _)
  have kp : KeepsBut [L] s.heap h' := fun b o hb e => (N (b, o) (.tail _ (mem_allBut.mpr ⟨e, hb⟩))).1
  have rows' : PairsIn h' vs num := fun i v e => by
    obtain ⟨p, t, u, e1, e2⟩ := rows i v e
    exact ⟨p, t, u, e1, nd_but n0 kp _ _ e2 (by intro _ _ z; cases z)⟩
  obtain ⟨fs, f1, f2, f3⟩ := pairs_tups vs num fun i v hv => let ⟨p, t, u, e1, e2⟩ := rows' i v hv; ⟨p, t, _, e1, e2⟩
  refine kat_kind (s := { s with heap := h' }) (T := .type "int") f1 (by lia) (fun v hv => ?_) rfl ?_
  · obtain ⟨n, t, rfl⟩ := f3 v hv
    exact .now
  · show (kas_sort vs.length).kasWp (kas_ask prog w A.in1.in1 (tuples' true) vs) _ _
    refine kasWp_run (N := vs.length) (R := LowP vs.length) (Inv := fun s' => s' = { s with heap := h' }) (lt := ltOf (fun i => num i * 64 + i)) ?_ _ _ (asks_sort (by lia)) rfl ?_
    · rintro i j C s1 hi hj rfl hC
      obtain ⟨p, t, u, ep, hp⟩ := rows'.at hi
      obtain ⟨q, t', u', eq, hq⟩ := rows'.at hj
      unfold kas_ask
      rw [ep, eq]
      refine ask_pair (s := { s with heap := h' }) hp hq ?_
      have := hC _ rfl
      rw [pair_lt (n := vs.length) (by lia) hi hj] at this
      exact this
    · rintro s1 rfl
      obtain ⟨N1, U1⟩ := head0 L (N _ (.head _)).1 dL
      refine ⟨_, _, fr0 F.ns, N1, U1, fun h3 c F3 N3 => hQ D h3 c s.toks _ fd (fun b o hb e => ?_) F3.ns (Ord.pairs (by lia) (Ord.sort (by lia))) (N3 _ (.head _)).1⟩
      have hbL : b ≠ L := by simpa using hb
      exact after0 N3 (kp b o hb e) (fun z => by rw [z, fd] at e; cases e) hbL
/-- sorted of one value -/
theorem sorted_single {l : Addr} {v : Value} {Q : Value → Shared → Prop} (hl : s.heap.IsList l #[v])
    (hQ : ∀ D h' c tk, s.heap.get? D = none → Keeps s.heap h' → h'.get? D = some (listOf #[v] c) → Q (.ref D) { s with heap := h', toks := tk }) :
    wpAny (model prog w) A (call (.builtin "sorted") [.ref l]) Q E s := by
  refine Calls.call_function_entry kind_sorted plain_sorted entry_sorted (args_sorted1 _) ?_
  unfold Builtin.«sorted»
  refine wpAny_bind (m := checkCount "sorted" 1 1 _) (wpAny_pure ?_)
  refine wpAny_bind (collect_list (vs := [v]) hl ?_ (by rw [sizeLine_eq]; exact Nat.le_of_ble_eq_true rfl))
  have kA : Keeps s.heap ((s.heap.push (seqObj "list" #[] 0)).update s.heap.objs.size (Obj.mapSeq (· ++ [v].toArray))) := keeps_of_mem (((Mem.start s.heap).alloc (o := seqObj "list" #[] 0) rfl).update (i := 0) (f := Obj.mapSeq (· ++ [v].toArray)) rfl rfl)
  generalize ((s.heap.push (seqObj "list" #[] 0)).update s.heap.objs.size (Obj.mapSeq (· ++ [v].toArray))) = hA at kA ⊢
  refine wpAny_bind (wpAny_newList ?_ (by rw [sizeLine_eq]; exact Nat.le_of_ble_eq_true rfl))
  have kB : Keeps hA (hA.push (seqObj "list" [v].toArray 0)) := fun b o e => Heap.get?_push_of_some _ e
  have eD : (hA.push (seqObj "list" [v].toArray 0)).get? hA.objs.size = some (seqObj "list" [v].toArray 0) := Heap.get?_push_size _ rfl
  have fD : hA.get? hA.objs.size = none := Heap.get?_none_of_le (Nat.le_refl _)
  show wpAny _ _ _ _ _ { s with heap := hA.push (seqObj "list" [v].toArray 0) }
  generalize hA.objs.size = D at eD fD
  generalize hA.push (seqObj "list" [v].toArray 0) = hB at kB eD
  have fDs : s.heap.get? D = none := by
    cases q : s.heap.get? D with
    | none => rfl
    | some o => rw [kA _ _ q] at fD; cases fD
  refine wpAny_bind (wpAny_holding (wpAny_call_entry_kw slot_list_sort ⟨_, eD, rfl⟩ entry_list_sort ?_ (args_list_sort _)))
  show wpAny _ _ (Builtin.«list.sort» ⟨[.ref D], []⟩) _ _ _
  rw [list_sort_plain]
  refine wpAny_bind (listItems_at eD rfl ?_)
  refine wpAny_bind (listUpdate_at eD rfl ?_ (by rw [sizeLine_eq]; exact Nat.le_of_ble_eq_true rfl) (Nat.zero_le _))
  obtain ⟨h1, c1, e1, eD1, kb1⟩ := upd_list eD fun _ => #[]
  rw [← e1]
  refine wpAny_bind (seqEpoch_at (s := { s with heap := h1 }) eD1 rfl ?_)
  refine wpAny_bind (wpAny_newTuple ?_ (by rw [sizeLine_eq]; exact Nat.le_of_ble_eq_true rfl))
  refine wpAny_bind (wpAny_newList ?_ (Nat.zero_le _))
  refine wpAny_holding ?_
  show wpAny _ _ _ _ _ { s with heap := (h1.push (seqObj "tuple" #[v] 0)).push (seqObj "list" #[] 0) }
  have k2 : Keeps h1 ((h1.push (seqObj "tuple" #[v] 0)).push (seqObj "list" #[] 0)) := fun b o e => Heap.get?_push_of_some _ (Heap.get?_push_of_some _ e)
  generalize (h1.push (seqObj "tuple" #[v] 0)).push (seqObj "list" #[] 0) = h2 at k2
  have eD2 := k2 _ _ eD1
  have s2 : Keeps s.heap h2 := fun b o e => k2 _ _ (kb1 _ _ (by
    rw [List.mem_singleton]
    rintro rfl
    rw [fDs] at e; cases e) (kB _ _ (kA _ _ e)))
  dsimp only
  rw [if_pos (show [v].toArray.size < 2 from Nat.le_refl _), if_pos (show [v].toArray.size < 2 from Nat.le_refl _)]
  refine wpAny_bind (wpAny_pure (wpAny_bind (wpAny_of_eq (a := ((), SortSt.mk' general' (([v].toArray).zip [v].toArray) #[] 7 none)) rfl ?_)))
  dsimp only
  refine wpAny_bind (seqEpoch_at (s := { s with heap := h2 }) eD2 rfl ?_)
  refine wpAny_bind (listUpdate_at (s := { s with heap := h2 }) eD2 rfl ?_ (Nat.zero_le _) (by rw [sizeLine_eq]; refine Nat.le_trans (m := 1) (Nat.le_of_eq ?_) (by decide); kernel_rfl))
  obtain ⟨h3, c3, e3, eD3, kb3⟩ := upd_list eD2 fun _ => (arrOf (SortSt.mk' general' (([v].toArray).zip [v].toArray) #[] 7 none)).map (·.2)
  rw [← e3]
  show wpAny _ _ (if (c1 != c1) = true then _ else ret Value.none) _ _ _
  refine wpAny_ite_false (by simp) (wpAny_pure ⟨_, rfl, wpAny_pure ⟨_, rfl, hQ D h3 c3 s.toks fDs (fun b o e => ?_) ?_⟩⟩)
  · have b1 : b ≠ D := by rintro rfl; rw [fDs] at e; cases e
    exact kb3 _ _ (by simp [b1]) (s2 _ _ e)
  · rw [eD3]
    kernel_rfl
end
end Mine
end

section
open PySem PySem.W PySem.W.X PySem.Calls PyProof.Rows
set_option Elab.async false
set_option maxRecDepth 100000
set_option maxHeartbeats 100000
set_option linter.unusedVariables false
namespace Mine
section
variable {w : World} {nn : Nat} {h h' : Heap} {mg mb m : Str → Option Value} {L : Addr}
theorem K3_low {P : Params} {a : Addr} {o : Obj} (h : (K3 P).lookup a = some o) : a < 207 := by
  have := lookup_mem h
  simp only [K3, List.mem_cons, List.not_mem_nil, or_false, Prod.mk.injEq] at this
  rcases this with ⟨e, _⟩ | ⟨e, _⟩ | ⟨e, _⟩ | ⟨e, _⟩ <;> (rw [e]; decide)
theorem Gk.but (G : Gk nn w mg mb h) (n : h.Ns L m) (hL : 207 ≤ L) (k : KeepsBut [L] h h') : Gk nn w mg mb h' := by
  have nd := nd_but n k
  refine ⟨G.gw.but (by simpa using hL) k, fun a o e => k a o ?_ (G.X3 a o e), ?_, G.nm, G.t0.nd nd⟩
  · have := K3_low e
    rw [List.mem_singleton]
    rintro rfl
    exact absurd this (Nat.not_lt.mpr hL)
  · obtain ⟨bm, o, b1, b2, b3, b4, b5, b6, b7⟩ := G.bt
    exact ⟨bm, o, b1, b2, b3, nd _ _ b4 (by rw [b7]; intro _ _ z; cases z), b5, b6, b7⟩
theorem Gk.keeps (G : Gk nn w mg mb h) (k : Keeps h h') : Gk nn w mg mb h' := by
  refine ⟨G.gw.keeps k, fun a o e => k a o (G.X3 a o e), ?_, G.nm, G.t0.keeps k⟩
  obtain ⟨bm, o, b1, b2, b3, b4, r⟩ := G.bt
  exact ⟨bm, o, b1, b2, b3, k _ _ b4, r⟩
theorem KC.ne {a ns md cell : Addr} {b : Bod} (kc : KC h a b ns md cell) (n : h.Ns L m) (hm : m (Str.ofString "__init__") = none) : ns ≠ L := fun z => by
  obtain ⟨⟨tb, t, q1, t0, t1, q2, t2, KA⟩, _⟩ := kc
  obtain ⟨o, es, ep, e, hd, _, hf⟩ := n
  have e' := KA.hn
  rw [z] at e'
  rw [show h.get? L = some o from e] at e'
  cases e'
  cases hd
  have q := hf (Str.ofString "__init__")
  rw [show nsFind (b.es3 q1 t1 md q2 t2) (Str.ofString "__init__") = some (.ref (b.f 0)) from by kernel_rfl, hm] at q
  cases q
theorem RowsIn.kt {vs : List Value} {X : Nat → Str} (r : RowsIn h vs X) (k : KT nn 119 h h') : RowsIn h' vs X := fun i v e => by
  obtain ⟨p, e1, tx, ti, e2, z⟩ := r i v e
  exact ⟨p, e1, tx, ti, k.k _ _ e2 (not_tab (T := .type "tuple") rfl (by simp)), z⟩
theorem isList_kt {l : Addr} {xs : Array Value} (r : h.IsList l xs) (k : KT nn 119 h h') : h'.IsList l xs := by
  obtain ⟨o, e, hc, r⟩ := r
  exact ⟨o, k.k _ _ e (not_tab hc (by simp)), hc, r⟩
theorem ns_kt (n : h.Ns L m) (k : KT nn 119 h h') : h'.Ns L m := ns_keep n fun o e => by
  obtain ⟨es, q, hd⟩ := ns_cls n e
  exact k.k _ _ e (not_tabD hd)
theorem isList_but {l : Addr} {xs : Array Value} (r : h.IsList l xs) (n : h.Ns L m) (k : KeepsBut [L] h h') : h'.IsList l xs := by
  obtain ⟨o, e, hc, q, hd⟩ := r
  exact ⟨o, nd_but n k _ _ e (by rw [hd]; intro _ _ z; cases z), hc, q, hd⟩
theorem none_kt {b : Addr} (k : KT nn 119 h h') (e : h'.get? b = none) : h.get? b = none := by
  cases q : h.get? b with
  | none => rfl
  | some o => obtain ⟨o', e'⟩ := k.al _ _ q; rw [e] at e'; cases e'
theorem map_turn {vs : List Value} {l : List Nat} (hl : ∀ i ∈ l, i < vs.length) : katRev true (l.map fun i => (katRev true vs).getD i Value.none) = (l.map fun i => vs.length - 1 - i).reverse.map fun i => vs.getD i Value.none := by
  show (l.map fun i => vs.reverse.getD i Value.none).reverse = _
  rw [List.map_reverse, List.map_map]
  congr 1
  refine List.map_congr_left fun i hi => ?_
  have := hl i hi
  simp only [Function.comp_apply, List.getD_eq_getElem?_getD, List.getElem?_reverse this]
end
theorem kas_places {num : Nat → Int} {vs : List Value} (h1 : 1 ≤ vs.length) (rv : Bool) : ∃ idx, Ord (fun i => if rv = true then - num i else num i) vs.length idx ∧
    katRev rv ((runT (ltOf fun i => num (turned rv vs.length i)) (kas_sort vs.length)).toList.map fun i => (katRev rv vs).getD i Value.none) = idx.map fun i => vs.getD i Value.none := by
  have O := Ord.sort (key := fun i => num (turned rv vs.length i)) h1
  generalize (runT (ltOf fun i => num (turned rv vs.length i)) (kas_sort vs.length)).toList = l at O
  cases rv with
  | false => exact ⟨l, O.map fun i j _ _ r => by simpa [turned, Rs] using r, by simp [katRev]⟩
  | true =>
    have O' : Ord (fun i => num (vs.length - 1 - i)) vs.length l := O.map fun i j _ _ r => by simpa [turned, Rs] using r
    exact ⟨_, O'.turn.map fun i j _ _ r => by simpa [Rs] using r, map_turn fun i hi => O.low hi⟩
section
variable {nn : Nat} {w : World} {A : Around} {E : Value → Shared → Prop} {s : Shared} {mg mb m : Str → Option Value} {a ns md cell L : Addr} {b : Bod} {vs : List Value} {X : Nat → Str}
/-- sorted by K -/
theorem sorted_k {l : Addr} {rv : Bool} {kw : List (Str × Value)} {num : Nat → Int} {Q : Value → Shared → Prop} (a1 : A.handled = none) (a2 : A.depth ≤ 600 - 10 * 5) (a3 : A.units ≤ 2000 - 50 * 5) (G : Gw w mg mb s.heap) (hL7 : 207 ≤ L) (n0 : s.heap.Ns L m) (hm : ∃ y u, m y = some u) (kc : KC s.heap a b ns md cell) (hns : ns ≠ L) (rows : RowsIn s.heap vs X) (hl : s.heap.IsList l vs.toArray) (h1 : 1 ≤ vs.length) (h64 : vs.length < 64)
    (hnum : ∀ i j, cmpTo (X i) (X j) 10 < 0 ↔ num i < num j)
    (ha1 : argsOk "sorted" ⟨[.ref l], kw⟩) (ha2 : ∀ x, argsOk "list.sort" ⟨[.ref x], kw⟩) (ht : ∀ x, Builtin.«list.sort» ⟨[.ref x], kw⟩ = ksk_tree x (.ref a) rv)
    (hQ : ∀ D h' c tk idx, s.heap.get? D = none → KeepsBut [L] s.heap h' → h'.Ns L m → Ord (fun i => if rv = true then - num i else num i) vs.length idx → h'.get? D = some (listOf (List.toArray (idx.map fun i => vs.getD i Value.none)) c) → Q (.ref D) { s with heap := h', toks := tk }) :
    wpAny (model prog w) A (call (.builtin "sorted") [.ref l] kw) Q E s := by
  rcases Nat.lt_or_ge 1 vs.length with h2 | h2
  · refine sorted_two a1 a2 a3 G hL7 n0 hm kc hns rows hl h2 h64 ha1 ha2 ht fun D h' c tk f kb n' e => ?_
    have elt : (fun i j => decide (cmpTo (X (turned rv vs.length i)) (X (turned rv vs.length j)) 10 < 0)) = ltOf (fun i => num (turned rv vs.length i)) := by
      funext i j
      exact decide_eq_decide.mpr (hnum _ _)
    rw [elt] at e
    obtain ⟨idx, O, q⟩ := kas_places (num := num) (vs := vs) h1 rv
    rw [q] at e
    exact hQ D h' c tk idx f kb n' O e
  · obtain ⟨v, rfl⟩ := List.length_eq_one_iff.mp (Nat.le_antisymm h2 h1)
    obtain ⟨p, rfl, _⟩ := rows 0 v rfl
    exact sorted_one a1 a2 a3 G.T.nolimit kc hl ha1 ha2 ht fun D h' c tk f k e => hQ D h' c tk [0] f k.but (ns_keep n0 fun o e => k _ _ e) Ord.one e
/-- sorted of pairs -/
theorem sorted_pairs {l : Addr} {num : Nat → Int} {Q : Value → Shared → Prop} (n0 : s.heap.Ns L m) (rows : PairsIn s.heap vs num) (hl : s.heap.IsList l vs.toArray) (h1 : 1 ≤ vs.length) (h64 : vs.length < 64)
    (hQ : ∀ D h' c tk idx, s.heap.get? D = none → KeepsBut [L] s.heap h' → h'.Ns L m → Ord num vs.length idx → h'.get? D = some (listOf (List.toArray (idx.map fun i => vs.getD i Value.none)) c) → Q (.ref D) { s with heap := h', toks := tk }) :
    wpAny (model prog w) A (call (.builtin "sorted") [.ref l]) Q E s := by
  rcases Nat.lt_or_ge 1 vs.length with h2 | h2
  · exact sorted_pairs2 n0 rows hl h2 h64 hQ
  · obtain ⟨v, rfl⟩ := List.length_eq_one_iff.mp (Nat.le_antisymm h2 h1)
    exact sorted_single hl fun D h' c tk f k e => hQ D h' c tk [0] f k.but (ns_keep n0 fun o e => k _ _ e) Ord.one e
theorem ev_key {p1 p2 p3 : Pos} {Q : Value → Shared → Prop} (a1 : A.handled = none) (a2 : A.depth ≤ 600 - 10 * 4) (a3 : A.units ≤ 2000 - 50 * 4) (hnn : @LE.le Nat _ nn s.heap.objs.size) (G : Gk nn w mg mb s.heap)
    (hQ : ∀ a b ns md cell h' tk, KT nn 119 s.heap h' → Gk nn w mg mb h' → KC h' a b ns md cell → Q (.ref a) { s with heap := h', toks := tk }) :
    wpAny (model prog w) A (eval (.Call (.Name (Str.ofString "cmp_to_key") p1) [.Name (Str.ofString "_law_rule") p2] [] p3) (lawEnv L)) Q E s := by
  have hfo : ∃ o fd, (K3 w.params).lookup 124 = some o ∧ o.data = .func fd := ⟨_, _, rfl, rfl⟩
  obtain ⟨fo, fd, hfo, hfd⟩ := hfo
  have hf1 := G.X3 _ _ hfo
  refine Call_ (ev_global law_kind rfl (by exact G.gw.T.g) (mg_cmp G.gw) ?_)
  refine callWith_def_at hf1 hfd (args_cons (ev_global law_kind rfl (by exact G.gw.T.g) (mg_rule G.gw) (args_nil ⟨hf1, ?_⟩)))
  exact fit (c_cmp hnn G hQ) a1 a2 a3
theorem ev_sorted1 {Dl : Addr} {num : Nat → Int} {p1 p2 p3 p4 p5 p6 kp : Pos} {Q : Value → Shared → Prop} (a1 : A.handled = none) (a2 : A.depth ≤ 600 - 10 * 5) (a3 : A.units ≤ 2000 - 50 * 5) (hnn : @LE.le Nat _ nn s.heap.objs.size) (G : Gk nn w mg mb s.heap) (hL7 : 207 ≤ L) (n0 : s.heap.Ns L m) (hl : m (Str.ofString "listed") = some (.ref Dl)) (hi : m (Str.ofString "__init__") = none) (rows : RowsIn s.heap vs X) (hD : s.heap.IsList Dl vs.toArray) (h1 : 1 ≤ vs.length) (h64 : vs.length < 64)
    (hnum : ∀ i j, cmpTo (X i) (X j) 10 < 0 ↔ num i < num j)
    (hQ : ∀ D h1 h' c tk idx, s.heap.get? D = none → KT nn 119 s.heap h1 → KeepsBut [L] h1 h' → Gk nn w mg mb h' → h'.Ns L m → Ord num vs.length idx → h'.get? D = some (listOf (List.toArray (idx.map fun i => vs.getD i Value.none)) c) → Q (.ref D) { s with heap := h', toks := tk }) :
    wpAny (model prog w) A (eval (.Call (.Name (Str.ofString "sorted") p1) [.Name (Str.ofString "listed") p2] [⟨some (Str.ofString "key"), .Call (.Name (Str.ofString "cmp_to_key") p3) [.Name (Str.ofString "_law_rule") p4] [] p5, kp⟩] p6) (lawEnv L)) Q E s := by
  refine wpAny_Call_Name_kw (ev_builtin law_kind rfl (by exact G.gw.T.g) (by exact G.gw.T.b) (mg_sorted G.gw) (mb_sorted G.gw) ?_)
  refine callWith_kw (args_cons (ev_local law_kind rfl n0 hl (args_nil (kws_cons (ev_key a1 (Nat.le_trans a2 (by decide)) (Nat.le_trans a3 (by decide)) hnn G fun a b ns md cell h1' tk kt G1 kc => kws_nil ?_)))))
  have n1 := ns_kt n0 kt
  refine sorted_k (s := { s with heap := h1', toks := tk }) (rv := false) a1 a2 a3 G1.gw hL7 n1 ⟨_, _, hl⟩ kc (kc.ne n1 hi) (rows.kt kt) (isList_kt hD kt) h1 h64 hnum (ksk_s1 _ _) (fun x => ksk_l1 _ _) (fun x => ksk_t1 _ _) fun D h' c tk idx f kb n' O e => ?_
  exact hQ D h1' h' c tk idx (none_kt kt f) kt kb (G1.but n1 hL7 kb) n' O e
theorem ev_sorted2 {Dl : Addr} {num : Nat → Int} {p1 p2 p3 p4 p5 p6 p7 kp kp2 : Pos} {k2 : Nat} {Q : Value → Shared → Prop} (a1 : A.handled = none) (a2 : A.depth ≤ 600 - 10 * 5) (a3 : A.units ≤ 2000 - 50 * 5) (hnn : @LE.le Nat _ nn s.heap.objs.size) (G : Gk nn w mg mb s.heap) (hL7 : 207 ≤ L) (n0 : s.heap.Ns L m) (hl : m (Str.ofString "listed") = some (.ref Dl)) (hi : m (Str.ofString "__init__") = none) (rows : RowsIn s.heap vs X) (hD : s.heap.IsList Dl vs.toArray) (h1 : 1 ≤ vs.length) (h64 : vs.length < 64)
    (hnum : ∀ i j, cmpTo (X i) (X j) 10 < 0 ↔ num i < num j)
    (hQ : ∀ D h1 h' c tk idx, s.heap.get? D = none → KT nn 119 s.heap h1 → KeepsBut [L] h1 h' → Gk nn w mg mb h' → h'.Ns L m → Ord (fun i => - num i) vs.length idx → h'.get? D = some (listOf (List.toArray (idx.map fun i => vs.getD i Value.none)) c) → Q (.ref D) { s with heap := h', toks := tk }) :
    wpAny (model prog w) A (eval (.Call (.Name (Str.ofString "sorted") p1) [.Name (Str.ofString "listed") p2] [⟨some (Str.ofString "key"), .Call (.Name (Str.ofString "cmp_to_key") p3) [.Name (Str.ofString "_law_rule") p4] [] p5, kp⟩, ⟨some (Str.ofString "reverse"), .Constant (.bool true) k2 p7, kp2⟩] p6) (lawEnv L)) Q E s := by
  refine wpAny_Call_Name_kw (ev_builtin law_kind rfl (by exact G.gw.T.g) (by exact G.gw.T.b) (mg_sorted G.gw) (mb_sorted G.gw) ?_)
  refine callWith_kw (args_cons (ev_local law_kind rfl n0 hl (args_nil (kws_cons (ev_key a1 (Nat.le_trans a2 (by decide)) (Nat.le_trans a3 (by decide)) hnn G fun a b ns md cell h1' tk kt G1 kc => kws_cons (wpAny_Constant_bool (kws_nil ?_)))))))
  have n1 := ns_kt n0 kt
  refine sorted_k (s := { s with heap := h1', toks := tk }) (rv := true) a1 a2 a3 G1.gw hL7 n1 ⟨_, _, hl⟩ kc (kc.ne n1 hi) (rows.kt kt) (isList_kt hD kt) h1 h64 hnum (ksk_s2 _ _ _) (fun x => ksk_l2 _ _ _) (fun x => ksk_t2 _ _ _) fun D h' c tk idx f kb n' O e => ?_
  exact hQ D h1' h' c tk idx (none_kt kt f) kt kb (G1.but n1 hL7 kb) n' O e
end
end Mine
end

section
open PySem PySem.W PySem.W.X PySem.Calls PyProof.Rows
set_option Elab.async false
set_option maxRecDepth 100000
set_option maxHeartbeats 1000000
set_option linter.unusedVariables false
namespace Mine
/-- the base stays, but for the table that grows -/
structure Ol (h₀ h : Heap) : Prop where
  k : ∀ b o, h₀.get? b = some o → b ≠ 119 → h.get? b = some o
  g : Grow 119 h₀ h
theorem Ol.refl (h : Heap) : Ol h h := ⟨fun _ _ e _ => e, Grow.of_keep fun _ e => e⟩
theorem Ol.but {h₀ h h' : Heap} {wr : List Addr} (a : Ol h₀ h) (kb : KeepsBut wr h h') (hw : ∀ b ∈ wr, h₀.get? b = none) (h9 : 119 ∉ wr) : Ol h₀ h' :=
  ⟨fun b o e n => kb b o (fun q => by rw [hw b q] at e; cases e) (a.k b o e n), a.g.trans (Grow.of_keep fun o e => kb _ _ h9 e)⟩
theorem Ol.keeps {h₀ h h' : Heap} (a : Ol h₀ h) (k : Keeps h h') : Ol h₀ h' := a.but (wr := []) k.but (fun _ q => nomatch q) (fun q => nomatch q)
theorem Ol.kt {h₀ h h' : Heap} (a : Ol h₀ h) (k : KT h₀.objs.size 119 h h') : Ol h₀ h' :=
  ⟨fun b o e n => k.low b o (Heap.lt_size e) n (a.k b o e n), a.g.trans k.gr⟩
section
variable {w : World} {A : Around} {E : Value → Shared → Prop} {s : Shared} {mg mb m : Str → Option Value} {L : Addr} {vs : List Value}
theorem idx_ints {ys : List Value} {idx : List Nat} (hl : ys.length = idx.length) (h : ∀ (j : Nat) y, ys[j]? = some y → ∃ t, y = Value.int ((idx.getD j 0 : Nat) : Int) t) : IntsAre ys (idx.map Int.ofNat) := by
  have := ints_range ys (fun j => ((idx.getD j 0 : Nat) : Int)) h
  have e : ((List.range ys.length).map fun j => ((idx.getD j 0 : Nat) : Int)) = idx.map Int.ofNat := by
    apply List.ext_getElem
    · simp [hl]
    · intro i h1 h2
      simp at h1 h2 ⊢
      rw [List.getElem?_eq_getElem h2]
      rfl
  rw [e] at this
  exact this
/-- what row[1] asks of the rows at hand -/
theorem row_at {wr : List Addr} {h : Heap} {idx : List Nat} (rows : ∀ i ∈ idx, ∃ p x t, vs.getD i Value.none = .ref p ∧ TupAt h p #[x, .int i t]) (hw : ∀ a ∈ wr, h.get? a = none) {i : Nat} {v : Value} (e : (idx.map fun i => vs.getD i Value.none)[i]? = some v) :
    ∃ p x t, v = .ref p ∧ TupAt h p #[x, .int ((idx.getD i 0 : Nat) : Int) t] ∧ p ∉ wr := by
  rw [List.getElem?_map] at e
  cases q : idx[i]? with
  | none => rw [q] at e; cases e
  | some j =>
    rw [q] at e
    cases e
    obtain ⟨p, x, t, e1, e2⟩ := rows j (List.mem_of_getElem? q)
    refine ⟨p, x, t, e1, ?_, fun z => ?_⟩
    · rw [List.getD_eq_getElem?_getD, q]; exact e2
    · exact nomatch (hw p z).symm.trans e2
theorem places_store {D : Addr} {idx : List Nat} {c : Nat} {y : Str} {p1 p2 p3 p4 : Pos} {k : Nat} {scope : Scope} {cl : List (Str × Addr)} {Q : Flow → Shared → Prop} (a1 : A.handled = none) (n : s.heap.Ns L m) (hD : s.heap.get? D = some (listOf (List.toArray (idx.map fun i => vs.getD i Value.none)) c)) (hsz : idx.length ≤ 1000)
    (rows : ∀ i ∈ idx, ∃ p x t, vs.getD i Value.none = .ref p ∧ TupAt s.heap p #[x, .int i t]) (hk : scope.kind = .function) (hr : scope.names.lookup (Str.ofString "row") = some .local)
    (hQ : ∀ D' ys h' tk c, s.heap.get? D' = none → IntsAre ys (idx.map Int.ofNat) → KeepsBut [L] s.heap h' → h'.Ns L (fun z => if z = y then some (.ref D') else m z) → h'.get? D' = some (listOf ys.toArray c) → Q .next { s with heap := h', toks := tk }) :
    wpAny (model prog w) A (pyIter (.ref D)) (CompStore w A (lawEnv L) (.Subscript (.Name (Str.ofString "row") p1) (.Constant (.int 1) k p2) p3) (.Name (Str.ofString "row") p4) scope cl y Q) E s := by
  refine list_store (env := lawEnv L) (P := fun i v h => ∃ t, v = .int ((idx.getD i 0 : Nat) : Int) t) a1 n ⟨_, hD, rfl, _, rfl⟩ (by simpa using hsz) hr hk (fun _ _ _ _ h _ => h) (fun _ _ _ _ _ _ h _ _ => h) (fun h₂ I kk fI => ?_) ?_
  · refine (elt_row1 (y := fun i => ((idx.getD i 0 : Nat) : Int)) hk hr).imp fun i m' hS => ?_
    obtain ⟨hi, v, e1, e2⟩ := hS
    obtain ⟨p, x, t, rfl, e3, e4⟩ := row_at (wr := [I]) rows (by simpa using fI) (by simpa using e1)
    exact ⟨p, x, t, e2, kk _ _ e3, e4⟩
  · intro D' ys h' tk c f1 hlen' hel kb n' hd
    exact hQ D' ys h' tk c f1 (idx_ints (by simpa using hlen') hel) kb n' hd
theorem places_go {D : Addr} {idx : List Nat} {c : Nat} {p1 p2 p3 p4 : Pos} {k : Nat} {scope : Scope} {cl : List (Str × Addr)} {Q : Value → Shared → Prop} (a1 : A.handled = none) (hD : s.heap.get? D = some (listOf (List.toArray (idx.map fun i => vs.getD i Value.none)) c)) (hsz : idx.length ≤ 1000)
    (rows : ∀ i ∈ idx, ∃ p x t, vs.getD i Value.none = .ref p ∧ TupAt s.heap p #[x, .int i t]) (hk : scope.kind = .function) (hr : scope.names.lookup (Str.ofString "row") = some .local)
    (hQ : ∀ D' ys h' tk c, s.heap.get? D' = none → IntsAre ys (idx.map Int.ofNat) → Keeps s.heap h' → h'.get? D' = some (listOf ys.toArray c) → Q (.ref D') { s with heap := h', toks := tk }) :
    wpAny (model prog w) A (pyIter (.ref D)) (CompGo w A (lawEnv L) (.Subscript (.Name (Str.ofString "row") p1) (.Constant (.int 1) k p2) p3) (.Name (Str.ofString "row") p4) scope cl Q) E s := by
  refine list_go (env := lawEnv L) (P := fun i v h => ∃ t, v = .int ((idx.getD i 0 : Nat) : Int) t) a1 ⟨_, hD, rfl, _, rfl⟩ (by simpa using hsz) hr hk (fun _ _ _ _ h _ => h) (fun _ _ _ _ _ _ h _ _ => h) (fun h₂ I kk fI => ?_) ?_
  · refine (elt_row1 (y := fun i => ((idx.getD i 0 : Nat) : Int)) hk hr).imp fun i m' hS => ?_
    obtain ⟨hi, v, e1, e2⟩ := hS
    obtain ⟨p, x, t, rfl, e3, e4⟩ := row_at (wr := [I]) rows (by simpa using fI) (by simpa using e1)
    exact ⟨p, x, t, e2, kk _ _ e3, e4⟩
  · intro D' ys h' tk c f1 hlen' hel kb hd
    exact hQ D' ys h' tk c f1 (idx_ints (by simpa using hlen') hel) kb hd
end
end Mine
end

section
open PySem PySem.W PySem.W.X PySem.Calls PyProof.Rows
set_option Elab.async false
set_option maxRecDepth 100000
set_option maxHeartbeats 1000000
set_option linter.unusedVariables false
namespace Mine
theorem tup_ke {h h' : Heap} {p : Addr} {xs : Array Value} (r : TupAt h p xs) (k : KE h h') : TupAt h' p xs := k _ _ r ⟨(fun _ _ q => nomatch q), fun q => by simp at q⟩
theorem tup_off {h h' : Heap} {p : Addr} {xs : Array Value} {wr : List Addr} (r : TupAt h p xs) (k : KeepsBut wr h h') (hw : ∀ a ∈ wr, ∃ o, h.get? a = some o ∧ o.cls ≠ .type "tuple") : TupAt h' p xs := by
  refine k _ _ (fun q => ?_) r
  obtain ⟨o, eo, hc⟩ := hw _ q
  rw [show h.get? p = some _ from r] at eo; cases eo
  exact hc rfl
section
variable {w : World} {A : Around} {E : Value → Shared → Prop} {s : Shared} {mg mb m : Str → Option Value} {L : Addr}
/-- the pairs of number and place -/
theorem ev_pairs {elt : PySem.Expr} {num y : Nat → Int} {Dn : Addr} {ns : List Value} {p1 p2 p3 q1 q2 pu pos : Pos} {x2 : Nat} {scope : Scope} {cl : List (Str × Addr)} {Q : Value → Shared → Prop} (a1 : A.handled = none) (G : Gw w mg mb s.heap) (n : s.heap.Ns L m) (hn : m (Str.ofString "numbers") = some (.ref Dn)) (hN : s.heap.IsList Dn ns.toArray) (hJ : ∀ (i : Nat) v, ns[i]? = some v → ∃ t, v = Value.int (y i) t) (hlen : ns.length ≤ 1000)
    (hclos : closureFor scope (lawEnv L) = pure cl) (hcell : ∀ y ∈ scope.names, y.2 ≠ .cell) (hnames : ∀ y ∈ scope.names, y.2 = .local → scope.names.lookup y.1 = some .local) (hs : ∀ x, foldedSetIterable (.Call (.Name (Str.ofString "enumerate") p1) [.Name (Str.ofString "numbers") p2] [] p3) (lawEnv L) x = pure x)
    (hk : scope.kind = .function) (hp : scope.names.lookup (Str.ofString "place") = some .local) (ht : scope.names.lookup (Str.ofString "told") = some .local)
    (el : ∀ wr s₂, EltOK w A (lawEnv L) elt scope cl wr s₂ (fun i m' => (∃ t, m' (Str.ofString "told") = some (.int (y i) t)) ∧ ∃ t, m' (Str.ofString "place") = some (.int i t)) (fun i v h => ∃ p t u, v = .ref p ∧ TupAt h p #[.int (num i) t, .int i u]))
    (hQ : ∀ D' ys h' tk c, ys.length = ns.length → PairsIn h' ys num → Keeps s.heap h' → h'.get? D' = some (listOf ys.toArray c) → Q (.ref D') { s with heap := h', toks := tk }) :
    wpAny (model prog w) A (eval (.ListComp elt [⟨.Tuple [.Name (Str.ofString "place") q1, .Name (Str.ofString "told") q2] x2 pu, .Call (.Name (Str.ofString "enumerate") p1) [.Name (Str.ofString "numbers") p2] [] p3, [], 0⟩] scope pos) (lawEnv L)) Q E s := by
  refine comp_eval hclos hcell hk hnames ?_ hs
  refine go_enum G law_kind law_glob law_bui n rfl rfl (by decide) hn hN fun h₂ e it hE hI2 hl k fe fi hei => ?_
  refine enum_go a1 hN (by simpa using hlen) hp ht hk hE hI2 hl k fe fi hei (P := fun i v h => ∃ p t u, v = .ref p ∧ TupAt h p #[.int (num i) t, .int i u]) ?_ ?_ ((el _ _).imp fun i m' hS => ?_) ?_
  · rintro i v h h' ⟨p, t, u, rfl, r⟩ ke
    exact ⟨p, t, u, rfl, tup_ke r ke⟩
  · rintro j v h h' ⟨p, t, u, rfl, r⟩ he hi kb
    refine ⟨p, t, u, rfl, tup_off r kb fun a ha => ?_⟩
    rcases List.mem_cons.mp ha with rfl | ha
    · obtain ⟨o, eo, hc⟩ := he; exact ⟨o, eo, by rw [hc]; simp⟩
    · rw [List.mem_singleton] at ha; subst ha
      obtain ⟨o, eo, hc⟩ := hi; exact ⟨o, eo, by rw [hc]; simp⟩
  · obtain ⟨hi, v, t, e1, e2, e3⟩ := hS
    obtain ⟨t', rfl⟩ := hJ i v (by simpa using e1)
    exact ⟨⟨t', e2⟩, t, e3 (by decide)⟩
  · intro D' ys h' tk c f1 hlen' hel kb hd
    exact hQ D' ys h' tk c (by simpa using hlen') hel kb hd
/-- the places of the pairs in their order -/
theorem ev_order {elt : PySem.Expr} {num y : Nat → Int} {Dn : Addr} {ns : List Value} {p1 p2 p3 p4 p5 p6 p7 p8 p9 q1 q2 pu pos pos2 : Pos} {x2 k : Nat} {scope scope2 : Scope} {cl cl2 : List (Str × Addr)} {Q : Value → Shared → Prop} (a1 : A.handled = none) (G : Gw w mg mb s.heap) (n : s.heap.Ns L m) (hn : m (Str.ofString "numbers") = some (.ref Dn)) (hN : s.heap.IsList Dn ns.toArray) (hJ : ∀ (i : Nat) v, ns[i]? = some v → ∃ t, v = Value.int (y i) t) (h1 : 1 ≤ ns.length) (h64 : ns.length < 64)
    (hclos : closureFor scope (lawEnv L) = pure cl) (hcell : ∀ y ∈ scope.names, y.2 ≠ .cell) (hnames : ∀ y ∈ scope.names, y.2 = .local → scope.names.lookup y.1 = some .local) (hs : ∀ x, foldedSetIterable (.Call (.Name (Str.ofString "enumerate") p1) [.Name (Str.ofString "numbers") p2] [] p3) (lawEnv L) x = pure x)
    (hk : scope.kind = .function) (hp : scope.names.lookup (Str.ofString "place") = some .local) (ht : scope.names.lookup (Str.ofString "told") = some .local)
    (hclos2 : closureFor scope2 (lawEnv L) = pure cl2) (hcell2 : ∀ y ∈ scope2.names, y.2 ≠ .cell) (hnames2 : ∀ y ∈ scope2.names, y.2 = .local → scope2.names.lookup y.1 = some .local)
    (hs2 : ∀ x, foldedSetIterable (.Call (.Name (Str.ofString "sorted") p4) [.ListComp elt [⟨.Tuple [.Name (Str.ofString "place") q1, .Name (Str.ofString "told") q2] x2 pu, .Call (.Name (Str.ofString "enumerate") p1) [.Name (Str.ofString "numbers") p2] [] p3, [], 0⟩] scope pos] [] p5) (lawEnv L) x = pure x)
    (hk2 : scope2.kind = .function) (hr : scope2.names.lookup (Str.ofString "row") = some .local)
    (el : ∀ wr s₂, EltOK w A (lawEnv L) elt scope cl wr s₂ (fun i m' => (∃ t, m' (Str.ofString "told") = some (.int (y i) t)) ∧ ∃ t, m' (Str.ofString "place") = some (.int i t)) (fun i v h => ∃ p t u, v = .ref p ∧ TupAt h p #[.int (num i) t, .int i u]))
    (hQ : ∀ D' ys h' tk c idx, IntsAre ys (idx.map Int.ofNat) → Ord num ns.length idx → KeepsBut [L] s.heap h' → h'.Ns L m → h'.get? D' = some (listOf ys.toArray c) → Q (.ref D') { s with heap := h', toks := tk }) :
    wpAny (model prog w) A (eval (.ListComp (.Subscript (.Name (Str.ofString "row") p6) (.Constant (.int 1) k p7) p8) [⟨.Name (Str.ofString "row") p9, .Call (.Name (Str.ofString "sorted") p4) [.ListComp elt [⟨.Tuple [.Name (Str.ofString "place") q1, .Name (Str.ofString "told") q2] x2 pu, .Call (.Name (Str.ofString "enumerate") p1) [.Name (Str.ofString "numbers") p2] [] p3, [], 0⟩] scope pos] [] p5, [], 0⟩] scope2 pos2) (lawEnv L)) Q E s := by
  refine comp_eval hclos2 hcell2 hk2 hnames2 ?_ hs2
  refine Call_ (ev_builtin law_kind rfl (by exact G.T.g) (by exact G.T.b) (mg_sorted G) (mb_sorted G) ?_)
  refine PyProof.Rows.callWith_builtin1 (args_cons (ev_pairs a1 G n hn hN hJ (by lia) hclos hcell hnames hs hk hp ht el fun D' ys h' tk c hl rows kk hd => args_nil ?_))
  have n1 : h'.Ns L m := ns_keep n fun o e => kk _ _ e
  refine sorted_pairs (s := { s with heap := h', toks := tk }) n1 rows ⟨_, hd, rfl, _, rfl⟩ (by lia) (by lia) fun D h3 c3 tk3 idx f kb n3 O e => ?_
  refine places_go a1 e (by have := O.len; lia) (fun i hi => ?_) hk2 hr fun D4 zs h4 tk4 c4 f4 hz k4 e4 => ?_
  · obtain ⟨p, t, u, e1, e2⟩ := rows.at (O.low hi)
    exact ⟨p, _, u, e1, nd_but n1 kb _ _ e2 (by intro _ _ z; cases z)⟩
  · rw [hl] at O
    exact hQ D4 zs h4 tk4 c4 idx hz O (fun b o hb q => k4 _ _ (kb b o hb (kk _ _ q))) (ns_keep n3 fun o e => k4 _ _ e) e4
/-- the test of an order -/
theorem st_order {elt : PySem.Expr} {num y : Nat → Int} {Dn Du : Addr} {ns us : List Value} {up : List Nat} {x : Str} {p0 pc pi p1 p2 p3 p4 p5 p6 p7 p8 p9 q1 q2 pu pos pos2 : Pos} {x2 k : Nat} {scope scope2 : Scope} {cl cl2 : List (Str × Addr)} {body : List Stmt} {Q : Flow → Shared → Prop} (a1 : A.handled = none) (hu : A.units + 64 < cLine) (G : Gw w mg mb s.heap) (n : s.heap.Ns L m) (hx : (lawEnv L).kindOf x = some .local) (hxd : (x == ("__debug__" : Str)) = false) (hxm : m x = some (.ref Du)) (hU : s.heap.IsList Du us.toArray) (hUi : IntsAre us (up.map Int.ofNat)) (hUo : Ord num ns.length up) (hn : m (Str.ofString "numbers") = some (.ref Dn)) (hN : s.heap.IsList Dn ns.toArray) (hJ : ∀ (i : Nat) v, ns[i]? = some v → ∃ t, v = Value.int (y i) t) (h1 : 1 ≤ ns.length) (h64 : ns.length < 64)
    (hclos : closureFor scope (lawEnv L) = pure cl) (hcell : ∀ y ∈ scope.names, y.2 ≠ .cell) (hnames : ∀ y ∈ scope.names, y.2 = .local → scope.names.lookup y.1 = some .local) (hs : ∀ x, foldedSetIterable (.Call (.Name (Str.ofString "enumerate") p1) [.Name (Str.ofString "numbers") p2] [] p3) (lawEnv L) x = pure x)
    (hk : scope.kind = .function) (hp : scope.names.lookup (Str.ofString "place") = some .local) (ht : scope.names.lookup (Str.ofString "told") = some .local)
    (hclos2 : closureFor scope2 (lawEnv L) = pure cl2) (hcell2 : ∀ y ∈ scope2.names, y.2 ≠ .cell) (hnames2 : ∀ y ∈ scope2.names, y.2 = .local → scope2.names.lookup y.1 = some .local)
    (hs2 : ∀ x, foldedSetIterable (.Call (.Name (Str.ofString "sorted") p4) [.ListComp elt [⟨.Tuple [.Name (Str.ofString "place") q1, .Name (Str.ofString "told") q2] x2 pu, .Call (.Name (Str.ofString "enumerate") p1) [.Name (Str.ofString "numbers") p2] [] p3, [], 0⟩] scope pos] [] p5) (lawEnv L) x = pure x)
    (hk2 : scope2.kind = .function) (hr : scope2.names.lookup (Str.ofString "row") = some .local)
    (el : ∀ wr s₂, EltOK w A (lawEnv L) elt scope cl wr s₂ (fun i m' => (∃ t, m' (Str.ofString "told") = some (.int (y i) t)) ∧ ∃ t, m' (Str.ofString "place") = some (.int i t)) (fun i v h => ∃ p t u, v = .ref p ∧ TupAt h p #[.int (num i) t, .int i u]))
    (hQ : ∀ h' tk, KeepsBut [L] s.heap h' → h'.Ns L m → Q .next { s with heap := h', toks := tk }) :
    wpAny (model prog w) A (exec (.If (.Compare (.Name x p0) [.NotEq] [.ListComp (.Subscript (.Name (Str.ofString "row") p6) (.Constant (.int 1) k p7) p8) [⟨.Name (Str.ofString "row") p9, .Call (.Name (Str.ofString "sorted") p4) [.ListComp elt [⟨.Tuple [.Name (Str.ofString "place") q1, .Name (Str.ofString "told") q2] x2 pu, .Call (.Name (Str.ofString "enumerate") p1) [.Name (Str.ofString "numbers") p2] [] p3, [], 0⟩] scope pos] [] p5, [], 0⟩] scope2 pos2] pc) body [] pi) (lawEnv L)) Q E s := by
  refine wpAny_If (wpAny_isTrue_Compare1 (ev_local law_kind hx n hxm (ev_order a1 G n hn hN hJ h1 h64 hclos hcell hnames hs hk hp ht hclos2 hcell2 hnames2 hs2 hk2 hr el fun D' ys h' tk c idx hi O kb n' e => ?_) hxd))
  refine ne_intsK (isList_but hU n kb) hUi ⟨_, e, rfl, _, rfl⟩ hi hu (wpAny_truthy_bool ?_)
  rw [hUo.eq O]
  rw [if_neg (by simp)]
  exact wpAny_execs_nil (hQ h' tk kb n')
end
end Mine
end

section
open PySem PySem.W PySem.W.X PySem.Calls PyProof.Rows
set_option Elab.async false
set_option maxRecDepth 100000
set_option maxHeartbeats 1000000
set_option linter.unusedVariables false
namespace Mine
theorem weight_ints : ∀ ns : List Int, (∀ n ∈ ns, 0 ≤ n ∧ n < 32768) → PyData.weightAll (ns.map PyData.int) ≤ 16 * ns.length
  | [], _ => by simp [PyData.weightAll]
  | n :: r, h => by
    have ih := weight_ints r fun x hx => h x (.tail _ hx)
    have hn := h n (.head _)
    have : PyData.weight (.int n) ≤ 15 := by
      simp only [PyData.weight]
      split
      · lia
      · rename_i q
        have q0 : n.natAbs ≠ 0 := by intro z; apply q; simp; lia
        have : n.natAbs.log2 < 15 := (Nat.log2_lt q0).mpr (by lia)
        lia
    simp only [List.map_cons, PyData.weightAll, List.length_cons]
    lia
theorem lay_ints {ns : List Int} (h : ∀ n ∈ ns, 0 ≤ n ∧ n < 32768) (hl : ns.length < 64) : PyData.layable0 (.list (ns.map PyData.int)) = true := by
  have h1 := W.depthAll_ints ns
  have h2 := weight_ints ns h
  have d : PyData.depth (.list (ns.map PyData.int)) ≤ 64 := by simp only [PyData.depth]; lia
  have wt : PyData.weight (.list (ns.map PyData.int)) ≤ 2 ^ 20 := by simp only [PyData.weight]; lia
  show (PyData.canLay0 (.list (ns.map PyData.int)) && decide (PyData.depth (.list (ns.map PyData.int)) ≤ 64) && decide (PyData.weight (.list (ns.map PyData.int)) ≤ 2 ^ 20)) = true
  rw [Bool.and_eq_true, Bool.and_eq_true]
  exact ⟨⟨by simp only [PyData.canLay0]; exact W.canLayAll0_ints ns, decide_eq_true d⟩, decide_eq_true wt⟩
section
variable {w : World} {A : Around} {E : Value → Shared → Prop} {s : Shared} {mg mb m : Str → Option Value} {L : Addr} {vs : List Value} {X : Nat → Str}
/-- the place of the least -/
theorem ev_where {Dn : Addr} {nv : List Value} {ns : List Int} {c k : Nat} {p1 p3 p4 p5 : Pos} {Q : Value → Shared → Prop} (a1 : A.handled = none) (G : Gw w mg mb s.heap) (n : s.heap.Ns L m) (hn : m (Str.ofString "numbers") = some (.ref Dn)) (hN : s.heap.get? Dn = some (listOf nv.toArray c)) (hJ : IntsAre nv ns) (hlen : ns.length = k + 1) (h64 : ns.length < 64) (hr : ∀ x ∈ ns, 0 ≤ x ∧ x < 32768)
    (hQ : ∀ h' t tk, KeepsBut [L] s.heap h' → h'.Ns L m → Q (.int (best (fun i => ns.getD i 0) k : Nat) t) { s with heap := h', toks := tk }) :
    wpAny (model prog w) A (eval (.Call (.Attribute (.Name (Str.ofString "numbers") p1) (Str.ofString "index") ⟨154, 45, 154, 58⟩) [.Call (.Name (Str.ofString "min") p3) [.Name (Str.ofString "numbers") p4] [] p5] [] ⟨154, 45, 154, 72⟩) (lawEnv L)) Q E s := by
  have hl : s.heap.IsList Dn nv.toArray := ⟨_, hN, rfl, _, rfl⟩
  refine MethodCall_ (ev_local law_kind rfl n hn (getMethod_list_of PySem.F.slot_list_index PySem.F.type_list_index hl ⟨_, hN, rfl⟩ ?_))
  refine callWith_method1 (args_cons (Call_ (ev_builtin law_kind rfl (by exact G.T.g) (by exact G.T.b) (mg_min G) (mb_min G) ?_)))
  refine PyProof.Rows.callWith_builtin1 (args_cons (ev_local law_kind rfl n hn (args_nil ?_)))
  refine min_list_N a1 (fr0 n) (news0 (l := [L]) (by simp)) hl hJ (by lia) fun h' M t tk F N hM hlow => args_nil ?_
  have kp : KeepsBut [L] s.heap h' := fun b o hb e => (N (b, o) (mem_allBut.mpr ⟨e, hb⟩)).1
  refine index_list_ints (s := { s with heap := h', toks := tk }) (isList_but hl n kp) hJ (lay_ints hr h64) hM ?_
  rw [best_idx hlen hM hlow]
  exact hQ h' _ _ kp F.ns
/-- the earliest of the least listings, and the place of the least number -/
theorem ev_least {Dn Dl : Addr} {nv : List Value} {ns : List Int} {c k kc : Nat} {p1 p2 p3 p4 p5 p6 p7 p9 q1 q2 q4 : Pos} {Q : Value → Shared → Prop} (a1 : A.handled = none) (a2 : A.depth ≤ 600 - 10 * 4) (a3 : A.units ≤ 2000 - 50 * 4) (G : Gw w mg mb s.heap) (n : s.heap.Ns L m) (hn : m (Str.ofString "numbers") = some (.ref Dn)) (hl : m (Str.ofString "listed") = some (.ref Dl)) (hN : s.heap.get? Dn = some (listOf nv.toArray c)) (hJ : IntsAre nv ns) (hlen : ns.length = k + 1) (h64 : ns.length < 64) (hr : ∀ x ∈ ns, 0 ≤ x ∧ x < 32768)
    (rows : RowsIn s.heap vs X) (hD : s.heap.IsList Dl vs.toArray) (hvs : vs.length = k + 1) (hnum : ∀ i j, i ≤ k → j ≤ k → (cmpTo (X i) (X j) 10 < 0 ↔ ns.getD i 0 < ns.getD j 0))
    (hQ : ∀ h' tk, KeepsBut [L] s.heap h' → Q (.bool true) { s with heap := h', toks := tk }) :
    wpAny (model prog w) A (eval (.Compare (.Subscript (.Call (.Name (Str.ofString "reduce") p1) [.Name (Str.ofString "_law_lesser") p2, .Name (Str.ofString "listed") p3] [] p4) (.Constant (.int 1) kc p5) p6) [.Eq]
      [.Call (.Attribute (.Name (Str.ofString "numbers") p7) (Str.ofString "index") ⟨154, 45, 154, 58⟩) [.Call (.Name (Str.ofString "min") p9) [.Name (Str.ofString "numbers") q1] [] q2] [] ⟨154, 45, 154, 72⟩] q4) (lawEnv L)) Q E s := by
  have hfo : ∃ o fd, (K2 w.params).lookup 133 = some o ∧ o.data = .func fd := ⟨_, _, rfl, rfl⟩
  obtain ⟨fo, fd, hfo, hfd⟩ := hfo
  have hf1 := G.X _ _ hfo
  refine wpAny_Compare1 (Subscript_ (Call_ (ev_global law_kind rfl (by exact G.T.g) (mg_reduce G) ?_)))
  refine callWith_def_at hf1 hfd (args_cons (ev_global law_kind rfl (by exact G.T.g) (mg_lesser G) (args_cons (ev_local law_kind rfl n hl (args_nil ⟨hf1, ?_⟩)))))
  obtain ⟨v0, hv0⟩ : ∃ v, vs[0]? = some v := ⟨_, List.getElem?_eq_getElem (by lia)⟩
  obtain ⟨p0, rfl, r0⟩ := rows 0 v0 hv0
  refine wpAny_mono (fit (c_reduceL (n := k) G hD (by simpa using hv0) (by simpa using hvs) (fun i v => ∃ p, v = .ref p ∧ RowAt s.heap p (X (best (fun i => ns.getD i 0) i)) (best (fun i => ns.getD i 0) i)) ⟨p0, rfl, r0⟩ ?_) a1 a2 a3) (fun v s3 hv => ?_) fun _ _ e => e.elim
  · rintro i v el s' hi ⟨p, rfl, rp⟩ hel kp G'
    obtain ⟨q, rfl, rq⟩ := rows (i + 1) el (by simpa using hel)
    refine wpAny_mono (c_lesser G' (rp.keeps kp) (rq.keeps kp)) (fun v s2 hb => ?_) fun _ _ e => e.elim
    obtain ⟨h2, tk2, rfl, k2, rfl⟩ := hb
    refine ⟨h2, tk2, rfl, k2, ?_⟩
    have hq := hnum (i + 1) (best (fun i => ns.getD i 0) i) (by lia) (Nat.le_trans (best_spec _ i).1 (by lia))
    have eb : best (fun i => ns.getD i 0) (i + 1) = if ns.getD (i + 1) 0 < ns.getD (best (fun i => ns.getD i 0) i) 0 then i + 1 else best (fun i => ns.getD i 0) i := rfl
    rw [eb]
    by_cases z : cmpTo (X (i + 1)) (X (best (fun i => ns.getD i 0) i)) 10 < 0
    · rw [if_pos z, if_pos (hq.mp z)]
      exact ⟨q, rfl, rq⟩
    · rw [if_neg z, if_neg (fun y => z (hq.mpr y))]
      exact ⟨p, rfl, rp⟩
  · obtain ⟨h3, tk3, rfl, k3, p, rfl, rp⟩ := hv
    obtain ⟨tx, ti, e, _⟩ := rp.keeps k3
    refine const_int fun t tk => item1 (s := { s with heap := h3, toks := tk }) e (fun _ _ e => e) ?_
    have n3 : h3.Ns L m := ns_keep n fun o e => k3 _ _ e
    refine ev_where (s := { s with heap := h3, toks := tk }) (k := k) a1 (G.keeps k3) n3 hn (k3 _ _ hN) hJ hlen h64 hr fun h' t' tk' kb n' => ?_
    refine PyProof.Rows.eq_int ?_
    rw [show (((best (fun i => ns.getD i 0) k : Nat) : Int) == ((best (fun i => ns.getD i 0) k : Nat) : Int)) = true from by simp]
    exact hQ h' tk' fun b o hb q => kb b o hb (k3 _ _ q)
end
end Mine
end

section
open PySem PySem.W PySem.W.X PySem.Calls PyProof.Rows
set_option Elab.async false
set_option maxRecDepth 100000
set_option maxHeartbeats 1000000
set_option linter.unusedVariables false
namespace Mine
/-- what stands throughout the law -/
structure LSt (w : World) (mg mb : Str → Option Value) (h₀ : Heap) (L : Addr) (m : Str → Option Value) (h : Heap) : Prop where
  ol : Ol h₀ h
  gk : Gk h₀.objs.size w mg mb h
  ns : h.Ns L m
  above : @LE.le Nat _ h₀.objs.size L
  hL : 207 ≤ L
/-- all stays but frames and tables of code -/
noncomputable def Sl (h h' : Heap) : Prop := ∀ b o, h.get? b = some o → (∀ es ep, o.data ≠ .dict es ep) → (∀ ps, o ≠ tabObj ps) → h'.get? b = some o
section
variable {w : World} {mg mb m m' : Str → Option Value} {h₀ h h' h'' : Heap} {L : Addr} {vs : List Value} {X : Nat → Str}
theorem LSt.few (S : LSt w mg mb h₀ L m h) : @LE.le Nat _ h₀.objs.size h.objs.size := by
  obtain ⟨o, es, ep, e, _⟩ := S.ns
  exact Nat.le_of_lt (Nat.lt_of_le_of_lt S.above (Heap.lt_size e))
theorem LSt.new (S : LSt w mg mb h₀ L m h) : ∀ b ∈ [L], h₀.get? b = none := fun b hb => by
  rw [List.mem_singleton.mp hb]
  exact Heap.get?_none_of_le S.above
theorem LSt.h9 (S : LSt w mg mb h₀ L m h) : 119 ∉ [L] := fun q => by
  have e := List.mem_singleton.mp q
  have := S.hL
  rw [← e] at this
  exact absurd this (by decide)
theorem LSt.but (S : LSt w mg mb h₀ L m h) (k : KeepsBut [L] h h') (n : h'.Ns L m') : LSt w mg mb h₀ L m' h' := ⟨S.ol.but k S.new S.h9, S.gk.but S.ns S.hL k, n, S.above, S.hL⟩
theorem LSt.kt (S : LSt w mg mb h₀ L m h) (k : KT h₀.objs.size 119 h h') (G : Gk h₀.objs.size w mg mb h') : LSt w mg mb h₀ L m h' := ⟨S.ol.kt k, G, ns_kt S.ns k, S.above, S.hL⟩
theorem Sl.trans (a : Sl h h') (b : Sl h' h'') : Sl h h'' := fun x o e c d => b x o (a x o e c d) c d
theorem Sl.kt {nn : Nat} (k : KT nn 119 h h') : Sl h h' := fun b o e _ d => k.k b o e d
theorem Sl.but (n : h.Ns L m) (k : KeepsBut [L] h h') : Sl h h' := fun b o e c _ => nd_but n k b o e c
theorem Sl.seq {T : Value} {o : Obj} {xs : Array Value} {c : Nat} (a : Sl h h') {b : Addr} (e : h.get? b = some o) (hd : o.data = .seq xs c) : h'.get? b = some o :=
  a b o e (fun _ _ z => by rw [hd] at z; cases z) (fun ps z => by rw [z] at hd; cases hd)
theorem Sl.list {c : Nat} {xs : Array Value} (a : Sl h h') {b : Addr} (e : h.get? b = some (listOf xs c)) : h'.get? b = some (listOf xs c) := a.seq (T := .none) e rfl
theorem Sl.isList {xs : Array Value} (a : Sl h h') {b : Addr} (e : h.IsList b xs) : h'.IsList b xs := by
  obtain ⟨o, e, hc, n, hd⟩ := e
  exact ⟨o, a.seq (T := .none) e hd, hc, n, hd⟩
theorem Sl.rows (a : Sl h h') (r : RowsIn h vs X) : RowsIn h' vs X := fun i v e => by
  obtain ⟨p, e1, tx, ti, e2, z⟩ := r i v e
  exact ⟨p, e1, tx, ti, a.seq (T := .none) e2 rfl, z⟩
end
section
variable {w : World} {A : Around} {E : Value → Shared → Prop} {s : Shared} {mg mb m : Str → Option Value} {h₀ : Heap} {L : Addr} {vs : List Value} {X : Nat → Str}
theorem rows_places {idx : List Nat} {h : Heap} (rows : RowsIn h vs X) (hlow : ∀ i ∈ idx, i < vs.length) : ∀ i ∈ idx, ∃ p x t, vs.getD i Value.none = .ref p ∧ TupAt h p #[x, .int i t] := fun i hi => by
  have hl := hlow i hi
  obtain ⟨p, e1, tx, ti, e2, z⟩ := rows i _ (List.getElem?_eq_getElem hl)
  exact ⟨p, _, ti, by rw [List.getD_eq_getElem?_getD, List.getElem?_eq_getElem hl, e1]; rfl, e2⟩
theorem it_up1 {Dl : Addr} {num : Nat → Int} {y : Str} {p1 p2 p3 p4 p5 p6 p7 p8 p9 q1 kp : Pos} {k : Nat} {scope : Scope} {cl : List (Str × Addr)} {Q : Flow → Shared → Prop} (a1 : A.handled = none) (a2 : A.depth ≤ 600 - 10 * 5) (a3 : A.units ≤ 2000 - 50 * 5) (S : LSt w mg mb h₀ L m s.heap) (hl : m (Str.ofString "listed") = some (.ref Dl)) (hi : m (Str.ofString "__init__") = none) (rows : RowsIn s.heap vs X) (hD : s.heap.IsList Dl vs.toArray) (h1 : 1 ≤ vs.length) (h64 : vs.length < 64)
    (hnum : ∀ i j, cmpTo (X i) (X j) 10 < 0 ↔ num i < num j) (hk : scope.kind = .function) (hr : scope.names.lookup (Str.ofString "row") = some .local)
    (hQ : ∀ D' ys h' tk c idx, Sl s.heap h' → LSt w mg mb h₀ L (fun z => if z = y then some (.ref D') else m z) h' → Ord num vs.length idx → IntsAre ys (idx.map Int.ofNat) → h'.get? D' = some (listOf ys.toArray c) → Q .next { s with heap := h', toks := tk }) :
    wpAny (model prog w) A (eval (.Call (.Name (Str.ofString "sorted") p1) [.Name (Str.ofString "listed") p2] [⟨some (Str.ofString "key"), .Call (.Name (Str.ofString "cmp_to_key") p3) [.Name (Str.ofString "_law_rule") p4] [] p5, kp⟩] p6) (lawEnv L))
      (fun xv s₁ => wpAny (model prog w) A (pyIter xv) (CompStore w A (lawEnv L) (.Subscript (.Name (Str.ofString "row") p7) (.Constant (.int 1) k p8) p9) (.Name (Str.ofString "row") q1) scope cl y Q) E s₁) E s := by
  refine ev_sorted1 a1 a2 a3 S.few S.gk S.hL S.ns hl hi rows hD h1 h64 hnum fun D h1' h' c tk idx f kt kb G' n' O e => ?_
  have sl : Sl s.heap h' := (Sl.kt kt).trans (Sl.but (ns_kt S.ns kt) kb)
  refine places_store (s := { s with heap := h', toks := tk }) (vs := vs) a1 n' e (by rw [O.len]; lia) (rows_places (sl.rows rows) fun i hi => O.low hi) hk hr fun D' ys h2 tk2 c2 f2 hy kb2 n2 e2 => ?_
  refine hQ D' ys h2 tk2 c2 idx (sl.trans (Sl.but n' kb2)) ?_ O hy e2
  have S1 : LSt w mg mb h₀ L m h' := ⟨(S.ol.kt kt).but kb S.new S.h9, G', n', S.above, S.hL⟩
  exact S1.but kb2 n2
theorem it_up2 {Dl : Addr} {num : Nat → Int} {y : Str} {p1 p2 p3 p4 p5 p6 p7 p8 p9 q1 q2 kp kp2 : Pos} {k k2 : Nat} {scope : Scope} {cl : List (Str × Addr)} {Q : Flow → Shared → Prop} (a1 : A.handled = none) (a2 : A.depth ≤ 600 - 10 * 5) (a3 : A.units ≤ 2000 - 50 * 5) (S : LSt w mg mb h₀ L m s.heap) (hl : m (Str.ofString "listed") = some (.ref Dl)) (hi : m (Str.ofString "__init__") = none) (rows : RowsIn s.heap vs X) (hD : s.heap.IsList Dl vs.toArray) (h1 : 1 ≤ vs.length) (h64 : vs.length < 64)
    (hnum : ∀ i j, cmpTo (X i) (X j) 10 < 0 ↔ num i < num j) (hk : scope.kind = .function) (hr : scope.names.lookup (Str.ofString "row") = some .local)
    (hQ : ∀ D' ys h' tk c idx, Sl s.heap h' → LSt w mg mb h₀ L (fun z => if z = y then some (.ref D') else m z) h' → Ord (fun i => - num i) vs.length idx → IntsAre ys (idx.map Int.ofNat) → h'.get? D' = some (listOf ys.toArray c) → Q .next { s with heap := h', toks := tk }) :
    wpAny (model prog w) A (eval (.Call (.Name (Str.ofString "sorted") p1) [.Name (Str.ofString "listed") p2] [⟨some (Str.ofString "key"), .Call (.Name (Str.ofString "cmp_to_key") p3) [.Name (Str.ofString "_law_rule") p4] [] p5, kp⟩, ⟨some (Str.ofString "reverse"), .Constant (.bool true) k2 q2, kp2⟩] p6) (lawEnv L))
      (fun xv s₁ => wpAny (model prog w) A (pyIter xv) (CompStore w A (lawEnv L) (.Subscript (.Name (Str.ofString "row") p7) (.Constant (.int 1) k p8) p9) (.Name (Str.ofString "row") q1) scope cl y Q) E s₁) E s := by
  refine ev_sorted2 a1 a2 a3 S.few S.gk S.hL S.ns hl hi rows hD h1 h64 hnum fun D h1' h' c tk idx f kt kb G' n' O e => ?_
  have sl : Sl s.heap h' := (Sl.kt kt).trans (Sl.but (ns_kt S.ns kt) kb)
  refine places_store (s := { s with heap := h', toks := tk }) (vs := vs) a1 n' e (by rw [O.len]; lia) (rows_places (sl.rows rows) fun i hi => O.low hi) hk hr fun D' ys h2 tk2 c2 f2 hy kb2 n2 e2 => ?_
  refine hQ D' ys h2 tk2 c2 idx (sl.trans (Sl.but n' kb2)) ?_ O hy e2
  have S1 : LSt w mg mb h₀ L m h' := ⟨(S.ol.kt kt).but kb S.new S.h9, G', n', S.above, S.hL⟩
  exact S1.but kb2 n2
end
end Mine
end

section
open PySem PySem.W PySem.W.X PySem.Calls PyProof.Rows
set_option Elab.async false
set_option maxRecDepth 100000
set_option maxHeartbeats 4000000
set_option linter.unusedVariables false
namespace Mine
theorem fillLa : (fun (_ : OpenLaw) (_ : Params → Frag) => True) PySem.Challenge.rw_ny0158_01 hd.heap_39 := by w_top off; k_fill; trivial
theorem up_split {h : Heap} {L : Addr} {m : Str → Option Value} {y : Str} {u : Option Value} (n : h.Ns L (fun z => if z = y then u else m z)) : ∃ m', h.Ns L m' ∧ m' y = u ∧ ∀ x, (x == y) = false → m' x = m x :=
  ⟨_, n, if_pos rfl, fun x q => if_neg fun z => by rw [z] at q; simp at q⟩
theorem LSt.split {w : World} {mg mb : Str → Option Value} {h₀ h : Heap} {L : Addr} {m : Str → Option Value} {y : Str} {u : Option Value} (S : LSt w mg mb h₀ L (fun z => if z = y then u else m z) h) : ∃ m', LSt w mg mb h₀ L m' h ∧ m' y = u ∧ ∀ x, (x == y) = false → m' x = m x :=
  ⟨_, S, if_pos rfl, fun x q => if_neg fun z => by rw [z] at q; simp at q⟩
theorem fmod_range (x : Int) : 0 ≤ x.fmod 65536 ∧ x.fmod 65536 < 65536 := ⟨Int.fmod_nonneg_of_pos _ (by decide), Int.fmod_lt_of_pos _ (by decide)⟩
theorem number_range {m : Int} (h0 : 0 ≤ m) (h1 : m < 65536) : 0 ≤ lawNumber m ∧ lawNumber m < 32768 := by
  rw [dg_val h0 h1]
  have := val_up (dg_fits h0 h1) 10 (Nat.le_refl _)
  lia
theorem cmp_num {m k : Int} (h0 : 0 ≤ m) (h1 : m < 65536) (h2 : 0 ≤ k) (h3 : k < 65536) : cmpTo (txt m) (txt k) 10 < 0 ↔ lawNumber m < lawNumber k := by
  rw [txt_text h0 h1, txt_text h2 h3, dg_val h0 h1, dg_val h2 h3, (cmp_val (dg_fits h0 h1) (dg_fits h2 h3) 10 (Nat.le_refl _)).1]
  lia
theorem ints_get {nv : List Value} {ms : List Int} (hJ : IntsAre nv (ms.map lawNumber)) (i : Nat) (v : Value) (e : nv[i]? = some v) : ∃ t, v = .int (lawNumber (ms.getD i 0)) t := by
  obtain ⟨t, rfl⟩ := hJ.int_at i v e
  have hl := hJ.length
  have : i < ms.length := by
    have := (List.getElem?_eq_some_iff.mp e).1
    simp at hl
    lia
  exact ⟨t, by simp [List.getD_eq_getElem?_getD, List.getElem?_eq_getElem this]⟩
theorem nums_get {ms : List Int} {i : Nat} (h : i < ms.length) : (ms.map lawNumber).getD i 0 = lawNumber (ms.getD i 0) := by
  simp [List.getD_eq_getElem?_getD, List.getElem?_eq_getElem h]
section
variable {w : World} {s : Shared} {mean : ExcName → Option Value} {mg mb : Str → Option Value}
theorem c_law (X : (hd.heap_39 w.params).In s.heap) (T : Top hd.view_39 loose mean mg mb s.heap) {l : Addr} {vs : List Value} {ns : List Int} (hl : s.heap.IsList l vs.toArray) (hI : IntsAre vs ns) (h63 : ¬ (63 : Int) < ns.length) :
    wpAny (model prog w) (AL 7) (call (.ref 206) [.ref l]) (fun v s' => v = .bool true ∧ ∃ h' tk, s' = { s with heap := h', toks := tk } ∧ Ol s.heap h') NoE s := by
  refine enter X T.nolimit (by k_is) (by k_is) (by decide) (BindsTo.of_eq rfl) (locs rfl) (by decide) ?_
  intro L' h' F' N'
  k_with_none
  k_with "execs cons" => (((show wpAny _ _ (execs (Stmt.Assign [Expr.Name (Str.ofString "listed") _] _ _ :: _) _) _ _ _); refine held_of ?_))
  k_steps
  rename Fr _ _ _ _ => F2
  rename News _ _ _ _ => N2
  rename IntsAre _ (_ ++ _) => hM
  unfold Held
  have hD := (N2 _ (.head _)).1
  dsimp only at hD
  obtain ⟨m2, n2, e1, e2⟩ : ∃ m2, Heap.Ns _ L' m2 ∧ m2 (Str.ofString "modes") = some (.ref _) ∧ m2 (Str.ofString "__init__") = none := ⟨_, F2.ns, rfl, rfl⟩
  have k2 := F2.keep
  have above := F2.above
  clear F2 N2
  have hlen : 1 ≤ (List.map (fun k' => Int.fmod k' 65536) (List.take 12 ns) ++ [(33188 + (List.map (fun k' => Int.fmod k' 65536) (List.take 12 ns)).sum).fmod 65536]).length ∧ (List.map (fun k' => Int.fmod k' 65536) (List.take 12 ns) ++ [(33188 + (List.map (fun k' => Int.fmod k' 65536) (List.take 12 ns)).sum).fmod 65536]).length < 64 := by
    simp
    lia
  have hr : ∀ x ∈ (List.map (fun k' => Int.fmod k' 65536) (List.take 12 ns) ++ [(33188 + (List.map (fun k' => Int.fmod k' 65536) (List.take 12 ns)).sum).fmod 65536]), 0 ≤ x ∧ x < 65536 := by
    intro x hx
    rcases List.mem_append.mp hx with q | q
    · obtain ⟨y, _, rfl⟩ := List.mem_map.mp q
      exact fmod_range _
    · rw [List.mem_singleton.mp q]
      exact fmod_range _
  generalize (List.map (fun k' => Int.fmod k' 65536) (List.take 12 ns) ++ [(33188 + (List.map (fun k' => Int.fmod k' 65536) (List.take 12 ns)).sum).fmod 65536]) = ms at hM hlen hr
  obtain ⟨l1, l64⟩ := hlen
  have hMl : Heap.IsList _ _ _ := ⟨_, hD, rfl, _, rfl⟩
  have G0 : Gw w mg mb s.heap := Gw.of X T
  have hL7 : 207 ≤ L' := Nat.le_trans G0.size above
  show wpAny _ _ _ _ _ { s with heap := _, toks := _ }
  have hnew : ∀ a ∈ [L'], s.heap.get? a = none := fun a ha => by
    rw [List.mem_singleton.mp ha]
    exact Heap.get?_none_of_le above
  have hnum : ∀ i j, cmpTo (txt (ms.getD i 0)) (txt (ms.getD j 0)) 10 < 0 ↔ lawNumber (ms.getD i 0) < lawNumber (ms.getD j 0) := fun i j => by
    have hi := getD_range hr i
    have hj := getD_range hr j
    exact cmp_num hi.1 hi.2 hj.1 hj.2
  -- listed
  refine wpAny_execs_cons (comp_assign (cl := []) (by with_unfolding_all rfl) (by with_unfolding_all rfl) (by decide) rfl (by decide) rfl rfl ?_ (fun _ => by with_unfolding_all rfl))
  refine it_listed (L := L') rfl (Nat.le_of_ble_eq_true rfl) (Nat.le_of_ble_eq_true rfl) X T k2 n2 e1 hMl hM (by lia) rfl (fun _ => rfl) rfl rfl fun Dl rs h3 tk3 c3 fl hrl rows kb3 n3 e3 => ?_
  obtain ⟨m3, n3', f3, g3⟩ := up_split n3
  clear n3
  have n3 := n3'
  have e1 := (g3 (Str.ofString "modes") (by decide)).trans e1
  have e2 := (g3 (Str.ofString "__init__") (by decide)).trans e2
  clear g3 n3'
  have k3 : Keeps s.heap h3 := keeps_new k2 kb3 hnew
  have hM3 := isList_but hMl n2 kb3
  show wpAny _ _ _ _ _ { s with heap := h3, toks := tk3 }
  -- numbers
  refine wpAny_execs_cons (comp_assign (cl := []) (by with_unfolding_all rfl) (by with_unfolding_all rfl) (by decide) rfl (by decide) rfl rfl ?_ (fun _ => by with_unfolding_all rfl))
  refine it_numbers (L := L') rfl (Nat.le_of_ble_eq_true rfl) (Nat.le_of_ble_eq_true rfl) X T k3 n3 e1 hM3 hM (by lia) hr rfl (fun _ => rfl) rfl fun Dn nv h4 tk4 c4 fn hJ kb4 n4 e4 => ?_
  obtain ⟨m4, n4', f4, g4⟩ := up_split n4
  clear n4
  have n4 := n4'
  have e1 := (g4 (Str.ofString "modes") (by decide)).trans e1
  have e2 := (g4 (Str.ofString "__init__") (by decide)).trans e2
  have f3 := (g4 (Str.ofString "listed") (by decide)).trans f3
  clear g4 n4'
  have k4 : Keeps s.heap h4 := keeps_new k3 kb4 hnew
  have sl4 : Sl h3 h4 := Sl.but n3 kb4
  have hM4 := sl4.isList hM3
  have e3 := sl4.list e3
  have rows := sl4.rows rows
  show wpAny _ _ _ _ _ { s with heap := h4, toks := tk4 }
  have hjl : nv.length = ms.length := by have := hJ.length; simp at this; lia
  -- all
  refine wpAny_execs_cons (wpAny_If (isTrue_not (isTrue_plain (ev_all (L := L') (cl := []) rfl (Nat.le_of_ble_eq_true rfl) (Nat.le_of_ble_eq_true rfl) X T k4 n4 e1 f4 f3 hM4 hM ⟨_, e4, rfl, _, rfl⟩ hJ ⟨_, e3, rfl, _, rfl⟩ rows hrl (by lia) hr (by with_unfolding_all rfl) (by decide) (by decide) (fun _ => by with_unfolding_all rfl) rfl (fun _ => rfl) rfl rfl rfl fun h5 tk5 k5 => wpAny_truthy_bool ?_))))
  rw [if_neg (by decide)]
  refine wpAny_execs_nil ?_
  have kk5 : Keeps s.heap h5 := k4.trans k5
  have n5 := ns_keep n4 fun o e => k5 _ _ e
  have S5 : LSt w mg mb s.heap L' m4 h5 := ⟨(Ol.refl _).keeps kk5, Gk.of (fun a o q => kk5 _ _ (X a o q)) (T.keeps kk5), n5, above, hL7⟩
  have e3 := k5 _ _ e3
  have e4 := k5 _ _ e4
  have rows := rows.keeps k5
  show wpAny _ _ _ _ _ { s with heap := h5, toks := tk5 }
  -- upward
  refine wpAny_execs_cons (comp_assign (cl := []) (by with_unfolding_all rfl) (by with_unfolding_all rfl) (by decide) rfl (by decide) rfl rfl ?_ (fun _ => by with_unfolding_all rfl))
  refine it_up1 (L := L') (num := fun i => lawNumber (ms.getD i 0)) rfl (Nat.le_of_ble_eq_true rfl) (Nat.le_of_ble_eq_true rfl) S5 f3 e2 rows ⟨_, e3, rfl, _, rfl⟩ (by lia) (by lia) hnum rfl rfl fun Du us h6 tk6 c6 up sl6 S6 O6 I6 e6 => ?_
  obtain ⟨m6, S6', f6, g6⟩ := S6.split
  clear S6
  have S6 := S6'
  have e2 := (g6 (Str.ofString "__init__") (by decide)).trans e2
  have f3 := (g6 (Str.ofString "listed") (by decide)).trans f3
  have f4 := (g6 (Str.ofString "numbers") (by decide)).trans f4
  clear g6 S6'
  have e3 := sl6.list e3
  have e4 := sl6.list e4
  have rows := sl6.rows rows
  show wpAny _ _ _ _ _ { s with heap := h6, toks := tk6 }
  -- downward
  refine wpAny_execs_cons (comp_assign (cl := []) (by with_unfolding_all rfl) (by with_unfolding_all rfl) (by decide) rfl (by decide) rfl rfl ?_ (fun _ => by with_unfolding_all rfl))
  refine it_up2 (L := L') (num := fun i => lawNumber (ms.getD i 0)) rfl (Nat.le_of_ble_eq_true rfl) (Nat.le_of_ble_eq_true rfl) S6 f3 e2 rows ⟨_, e3, rfl, _, rfl⟩ (by lia) (by lia) hnum rfl rfl fun Dd ds h7 tk7 c7 dn sl7 S7 O7 I7 e7 => ?_
  obtain ⟨m7, S7', f7, g7⟩ := S7.split
  clear S7
  have S7 := S7'
  have f3 := (g7 (Str.ofString "listed") (by decide)).trans f3
  have f4 := (g7 (Str.ofString "numbers") (by decide)).trans f4
  have f6 := (g7 (Str.ofString "upward") (by decide)).trans f6
  clear g7 S7'
  have e3 := sl7.list e3
  have e4 := sl7.list e4
  have e6 := sl7.list e6
  have rows := sl7.rows rows
  have O6 : Ord (fun i => lawNumber (ms.getD i 0)) nv.length up := by rw [hjl, ← hrl]; exact O6
  have O7 : Ord (fun i => - lawNumber (ms.getD i 0)) nv.length dn := by rw [hjl, ← hrl]; exact O7
  show wpAny _ _ _ _ _ { s with heap := h7, toks := tk7 }
  -- the order upward
  refine wpAny_execs_cons (st_order (L := L') (cl := []) (cl2 := []) (y := fun i => lawNumber (ms.getD i 0)) rfl (Nat.le_of_ble_eq_true rfl) S7.gk.gw S7.ns rfl (by decide) f6 ⟨_, e6, rfl, _, rfl⟩ I6 O6 f4 ⟨_, e4, rfl, _, rfl⟩ (ints_get hJ) (by lia) (by lia)
    (by with_unfolding_all rfl) (by decide) (by decide) (fun _ => by with_unfolding_all rfl) rfl rfl rfl (by with_unfolding_all rfl) (by decide) (by decide) (fun _ => by with_unfolding_all rfl) rfl rfl (fun wr s₂ => elt_pair rfl rfl rfl) fun h8 tk8 kb8 n8 => ?_)
  have S8 := S7.but kb8 n8
  have sl8 : Sl h7 h8 := Sl.but S7.ns kb8
  have e3 := sl8.list e3
  have e4 := sl8.list e4
  have e7 := sl8.list e7
  have rows := sl8.rows rows
  show wpAny _ _ _ _ _ { s with heap := h8, toks := tk8 }
  -- the order downward
  refine wpAny_execs_cons (st_order (L := L') (cl := []) (cl2 := []) (y := fun i => lawNumber (ms.getD i 0)) rfl (Nat.le_of_ble_eq_true rfl) S8.gk.gw S8.ns rfl (by decide) f7 ⟨_, e7, rfl, _, rfl⟩ I7 O7 f4 ⟨_, e4, rfl, _, rfl⟩ (ints_get hJ) (by lia) (by lia)
    (by with_unfolding_all rfl) (by decide) (by decide) (fun _ => by with_unfolding_all rfl) rfl rfl rfl (by with_unfolding_all rfl) (by decide) (by decide) (fun _ => by with_unfolding_all rfl) rfl rfl (fun wr s₂ => elt_npair rfl rfl rfl) fun h9 tk9 kb9 n9 => ?_)
  have S9 := S8.but kb9 n9
  have sl9 : Sl h8 h9 := Sl.but S8.ns kb9
  have e3 := sl9.list e3
  have e4 := sl9.list e4
  have rows := sl9.rows rows
  show wpAny _ _ _ _ _ { s with heap := h9, toks := tk9 }
  -- the least
  refine wpAny_execs_cons (wpAny_Return_some (ev_least (L := L') (k := ms.length - 1) rfl (Nat.le_of_ble_eq_true rfl) (Nat.le_of_ble_eq_true rfl) S9.gk.gw S9.ns f4 f3 e4 hJ (by simp; lia) (by simp; lia) ?_ rows ⟨_, e3, rfl, _, rfl⟩ (by lia) ?_ fun h10 tk10 kb10 => ?_))
  · intro x hx
    obtain ⟨y, hy, rfl⟩ := List.mem_map.mp hx
    exact number_range (hr y hy).1 (hr y hy).2
  · intro i j hi hj
    rw [nums_get (by lia), nums_get (by lia)]
    exact hnum i j
  · exact ⟨rfl, h10, tk10, rfl, S9.ol.but kb10 S9.new S9.h9⟩
end
end Mine
end

section
open PySem PySem.W PySem.W.X PySem.Calls PyProof.Rows
set_option Elab.async false
set_option maxRecDepth 100000
set_option maxHeartbeats 8000000
set_option linter.unusedVariables false
namespace Mine
theorem loose_is : looseW hd.view_39 loose = loose := by decide +kernel
theorem oldK_of {w : World} {h h' : Heap} (X : (hd.heap_39 w.params).In h) (a : Ol h h') : OldK h h' := by
  have e9 := X 119 _ (by rfl)
  have e3 := X 123 _ (by rfl)
  have ct : isCodeTable h 119 := ⟨123, _, _, e3, rfl, rfl, rfl⟩
  obtain ⟨more, hm⟩ := a.g #[] e9
  refine ⟨fun b o e => ?_, fun b o e => ?_⟩
  · by_cases hb : b = 119
    · subst hb
      rw [e9] at e
      cases e
      exact .inr (.inl ⟨ct, rfl, #[], more, rfl, hm⟩)
    · exact .inl (a.k b o e hb)
  · by_cases hb : b = 119
    · subst hb
      exact ⟨_, hm⟩
    · exact ⟨o, a.k b o e hb⟩
end Mine
end

open PySem PySem.W PySem.W.X PySem.Calls PyProof.Rows
set_option Elab.async false
set_option maxRecDepth 100000
set_option maxHeartbeats 8000000
set_option linter.unusedVariables false
theorem PySem.Challenge.cw_ny0158_01_holds : PySem.Challenge.rw_ny0158_01.Holds := by
  refine Mine.hd ?_
  w_top off
  k_fill
  intro w s₀ s₁ mg mb G Y fa o pm cd doc dV kV ho hd hcd hD hmg hg args vals as hpre hlay hrd hwl hlo
  have KX := kIn_of Y
  refine Ground.open G ?_
  intro T B D TE TW
  wrow_args hpre hlay hrd hwl hlo
  x_fa T KX hmg
  rename Heap.IsList _ _ _ => hL
  rename IntsAre _ _ => hI
  rename ¬ (_ < _) => h63
  have T' := T
  rw [Mine.loose_is] at T'
  refine wpAny_mono (Mine.fit (Mine.c_law KX T' hL hI h63) rfl (Nat.le_of_ble_eq_true rfl) (Nat.le_of_ble_eq_true rfl)) (fun v s' hv => ?_) fun _ _ e => e.elim
  obtain ⟨rfl, h', tk, rfl, ol⟩ := hv
  refine ⟨.inl ⟨_, _, [], rfl, fun _ => rfl, ReadsW.bool true, ?_, fun _ => ⟨List.nodup_nil, fun _ hm => (nomatch hm)⟩⟩, Mine.oldK_of KX ol, rfl, .of_eq hg⟩
  all_goals first | rfl | wrow_post
