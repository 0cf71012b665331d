import PyProof.Rows.All
import Wide.All
import OpenK.AllK
import Wide.FinOn
import PySem.Challenge.RW_tv0026_01

section
open PySem PySem.W PyProof.Rows
set_option Elab.async false
set_option maxRecDepth 100000
set_option maxHeartbeats 8000000
namespace Mine
open_top hd for PySem.Challenge.rw_tv0026_01
end Mine
end

section
open PySem PySem.W PyProof.Rows
set_option Elab.async false
set_option maxRecDepth 100000
namespace Mine

/-- the program -/
abbrev prg : Program := PySem.Challenge.pw_tv0026_01
/-- the k-th statement of the text's top -/
def top (k : Nat) : Stmt := PySem.Challenge.pw_tv0026_01.main.body.getD k default
def fName : Stmt → Str | .FunctionDef n .. => n | _ => default
def fPar : Stmt → Arguments | .FunctionDef _ a .. => a | _ => default
def fBody : Stmt → List Stmt | .FunctionDef _ _ b .. => b | _ => []
def fScope : Stmt → Scope | .FunctionDef _ _ _ _ _ _ sc .. => sc | _ => default

/-- the function of the k-th statement stands at a, its code at c -/
def FnIs (k : Nat) (a c : Addr) (h : Heap) : Prop :=
  ∃ o pm doc, h.get? a = some o ∧ o.data = .func (Calls.docDef (fName (top k)) (fPar (top k)) (fBody (top k)) (fScope (top k)) pm (.ref c) doc) ∧ h.CodeRec (.ref c) (fName (top k))

theorem FnIs.keeps {k : Nat} {a c : Addr} {h h' : Heap} (x : FnIs k a c h) (ha : ∀ o, h.get? a = some o → h'.get? a = some o) (hc : ∀ o, h.get? c = some o → h'.get? c = some o) : FnIs k a c h' := by
  obtain ⟨o, pm, doc, h1, h2, c', o', vs, t, e, h3, h4, h5⟩ := x
  cases e
  exact ⟨o, pm, doc, ha o h1, h2, c, o', vs, t, rfl, hc o' h3, h4, h5⟩

/-- the table of covariance's code -/
def TabOk (h : Heap) : Prop := ∃ ps, h.IsCode 69 65 ps ∧ h.TableAt 69 65 ps

/-- what a step may change: the objects of wr, the table of covariance's code, new objects, tokens, generators -/
structure EvoB (wr : List Addr) (s s' : Shared) : Prop where
  os : s'.os = s.os
  keep : ∀ b o, b ∉ wr → b ≠ 65 → s.heap.get? b = some o → s'.heap.get? b = some o
  gens : AllBare s.gens → AllBare s'.gens
  tab : TabOk s.heap → TabOk s'.heap
abbrev Evo (s s' : Shared) : Prop := EvoB [] s s'

theorem EvoB.refl (wr : List Addr) (s : Shared) : EvoB wr s s := ⟨rfl, fun _ _ _ _ e => e, id, id⟩
theorem EvoB.trans {wr : List Addr} {s s' s'' : Shared} (x : EvoB wr s s') (y : EvoB wr s' s'') : EvoB wr s s'' :=
  ⟨y.os.trans x.os, fun b o hb h65 e => y.keep b o hb h65 (x.keep b o hb h65 e), fun h => y.gens (x.gens h), fun h => y.tab (x.tab h)⟩
theorem EvoB.mono {wr wr' : List Addr} {s s' : Shared} (x : EvoB wr s s') (h : ∀ b ∈ wr, b ∈ wr') : EvoB wr' s s' :=
  ⟨x.os, fun b o hb h65 e => x.keep b o (fun hm => hb (h b hm)) h65 e, x.gens, x.tab⟩
theorem EvoB.ofEvo {wr : List Addr} {s s' : Shared} (x : Evo s s') : EvoB wr s s' := x.mono fun _ h => nomatch h
theorem TabOk.keeps {h h' : Heap} (x : TabOk h) (k1 : ∀ o, h.get? 69 = some o → h'.get? 69 = some o) (k2 : ∀ o, h.get? 65 = some o → h'.get? 65 = some o) : TabOk h' := by
  obtain ⟨ps, ⟨o, vs, file, tf, flags, tg, inF, text, tt, op, a, r1, r2, r3, r4, r5, r6, b, r⟩, ⟨o2, vs2, a2, q⟩, t⟩ := x
  exact ⟨ps, ⟨o, vs, file, tf, flags, tg, inF, text, tt, op, k1 _ a, r1, r2, r3, r4, r5, r6, k2 _ b, r⟩, ⟨o2, vs2, k1 _ a2, q⟩, k2 _ t⟩

/-- a change of the heap that keeps all but the objects of wr (none of them code or table) -/
theorem EvoB.heap {wr : List Addr} {s : Shared} {h' : Heap} {tk : Nat} (hk : ∀ b o, b ∉ wr → s.heap.get? b = some o → h'.get? b = some o) (h1 : 69 ∉ wr) (h2 : 65 ∉ wr) : EvoB wr s { s with heap := h', toks := tk } :=
  ⟨rfl, fun b o hb _ e => hk b o hb e, id, fun x => x.keeps (fun o e => hk _ o h1 e) fun o e => hk _ o h2 e⟩
theorem Evo.keeps {s s' : Shared} (k : Keeps s s') : Evo s s' := by
  obtain ⟨h', tk, rfl, hk⟩ := k
  exact EvoB.heap (fun b o _ e => hk b o e) (fun h => nomatch h) fun h => nomatch h
theorem Evo.kp {s : Shared} {h' : Heap} {tk : Nat} (hk : ∀ b o, s.heap.get? b = some o → h'.get? b = some o) : Evo s { s with heap := h', toks := tk } :=
  EvoB.heap (fun b o _ e => hk b o e) (fun h => nomatch h) fun h => nomatch h

/-- the pure facts of the names -/
structure Nm (mg mb : Str → Option Value) : Prop where
  fsum : mg "fsum" = some (.builtin "math.fsum")
  sumprod : mg "sumprod" = some (.builtin "math.sumprod")
  fmean : mg "fmean" = some (.ref 63)
  bi : mg "__builtins__" = some (.ref 4)
  cov : mg "covariance" = some (.ref 70)
  sld : mg "sorted_list_difference" = some (.ref 77)
  twc : mg "three_way_cmp" = some (.ref 84)
  worth : mg "_law_worth" = some (.ref 89)
  pull : mg "_law_pull" = some (.ref 94)
  share : mg "_law_share" = some (.ref 99)
  changed : mg "_law_changed" = some (.ref 106)
  no : ∀ x ∈ (["len", "sum", "range", "isinstance", "int", "bool", "float", "sorted", "TypeError", "IndexError"] : List Str), mg x = none
  boot : ∀ x : Str, x ≠ "__name__" → mb x = bootBuiltins x

/-- fmean, whose second argument has a default -/
def FmIs (h : Heap) : Prop :=
  ∃ o pm doc, h.get? 63 = some o ∧ o.data = .func { Calls.docDef (fName (top 3)) (fPar (top 3)) (fBody (top 3)) (fScope (top 3)) pm (.ref 62) doc with defaults := .ref 56 } ∧ h.CodeRec (.ref 62) (fName (top 3))
theorem FmIs.keeps {h h' : Heap} (x : FmIs h) (ha : ∀ o, h.get? 63 = some o → h'.get? 63 = some o) (hc : ∀ o, h.get? 62 = some o → h'.get? 62 = some o) : FmIs h' := by
  obtain ⟨o, pm, doc, h1, h2, c', o', vs, t, e, h3, h4, h5⟩ := x
  cases e
  exact ⟨o, pm, doc, ha o h1, h2, _, o', vs, t, rfl, hc o' h3, h4, h5⟩
/-- the module of the built-in names -/
def BmIs (h : Heap) : Prop := ∃ ob, h.get? 4 = some ob ∧ ob.cls = .type "module" ∧ ob.dict = some builtinsNs ∧ ob.data = .plain

/-- what stands of the text's own -/
structure Wd (h : Heap) : Prop where
  names : ∃ mg mb, h.Ns mainGlobals mg ∧ h.Ns builtinsNs mb ∧ Nm mg mb
  nolimit : h.NoLimit
  cov : FnIs 4 70 69 h
  sld : FnIs 6 77 76 h
  twc : FnIs 7 84 83 h
  worth : FnIs 9 89 88 h
  pull : FnIs 10 94 93 h
  share : FnIs 11 99 98 h
  changed : FnIs 12 106 105 h
  tab : TabOk h
  law : ∃ o, h.get? 111 = some o
  fmean : FmIs h
  dflt : h.IsTuple 56 #[.none]
  bmod : BmIs h

theorem Wd.evoB {wr : List Addr} {s s' : Shared} (W : Wd s.heap) (x : EvoB wr s s') (hw : ∀ b ∈ wr, @LT.lt Nat _ 111 b) : Wd s'.heap := by
  have k : ∀ b : Nat, b ≤ 111 → b ≠ 65 → ∀ o, s.heap.get? b = some o → s'.heap.get? b = some o := fun b hb h65 o e =>
    x.keep b o (fun hm => absurd (hw b hm) (Nat.not_lt.mpr hb)) h65 e
  obtain ⟨⟨mg, mb, g, b, n⟩, ⟨mc, l1, l2⟩, f1, f2, f3, f4, f5, f6, f7, t, ⟨ol, hol⟩, fm, ⟨od, hod, rd⟩, ⟨ob, hob, rb⟩⟩ := W
  exact ⟨⟨mg, mb, g.at' (k _ (by decide) (by decide)), b.at' (k _ (by decide) (by decide)), n⟩, ⟨mc, l1.at' (k _ (by decide) (by decide)), l2⟩,
    f1.keeps (k _ (by decide) (by decide)) (k _ (by decide) (by decide)), f2.keeps (k _ (by decide) (by decide)) (k _ (by decide) (by decide)),
    f3.keeps (k _ (by decide) (by decide)) (k _ (by decide) (by decide)), f4.keeps (k _ (by decide) (by decide)) (k _ (by decide) (by decide)),
    f5.keeps (k _ (by decide) (by decide)) (k _ (by decide) (by decide)), f6.keeps (k _ (by decide) (by decide)) (k _ (by decide) (by decide)),
    f7.keeps (k _ (by decide) (by decide)) (k _ (by decide) (by decide)), x.tab t, ⟨ol, k _ (by decide) (by decide) _ hol⟩, fm.keeps (k _ (by decide) (by decide)) (k _ (by decide) (by decide)), ⟨od, k _ (by decide) (by decide) _ hod, rd⟩, ⟨ob, k _ (by decide) (by decide) _ hob, rb⟩⟩
theorem Wd.evo {s s' : Shared} (W : Wd s.heap) (x : Evo s s') : Wd s'.heap := W.evoB x fun _ h => nomatch h
theorem Wd.keeps {h h' : Heap} (W : Wd h) (k : ∀ b o, h.get? b = some o → h'.get? b = some o) : Wd h' :=
  Wd.evo (s := { heap := h }) (s' := { heap := h' }) W (Evo.kp (tk := 1) k)

theorem Wd.size {h : Heap} (W : Wd h) : @LT.lt Nat _ 111 h.objs.size := let ⟨_, e⟩ := W.law; Heap.lt_size e

/-- the ways around a call -/
structure Air (A : Around) : Prop where
  handled : A.handled = none
  depth : A.depth + 8 < recursionLimit
  units : A.units + 100 < cLine

section
variable {w : World} {A : Around} {E : Value → Shared → Prop} {s : Shared} {env : Env}

theorem nameG {x : Str} {pos : Pos} {v : Value} {Q : Value → Shared → Prop} (W : Wd s.heap) (hv : ∀ mg mb, Nm mg mb → mg x = some v) (h : Q v s)
    (hg : env.globals = mainGlobals := by rfl) (hk : env.scope.kind = .function := by rfl) (hx : env.kindOf x = some .globalImplicit := by rfl) (hd : (x == ("__debug__" : Str)) = false := by decide) :
    wpAny (model prg w) A (eval (.Name x pos) env) Q E s := by
  obtain ⟨⟨mg, mb, g, b, n⟩, _⟩ := W
  exact Calls.Name_function_global hk hx (Calls.loadGlobal_global (env := env) (by rw [hg]; exact g) (hv mg mb n) h) hd

theorem nameB {x : Str} {pos : Pos} {v : Value} {Q : Value → Shared → Prop} (W : Wd s.heap) (hm : x ∈ (["len", "sum", "range", "isinstance", "int", "bool", "float", "sorted", "TypeError", "IndexError"] : List Str)) (hv : bootBuiltins x = some v) (h : Q v s)
    (hg : env.globals = mainGlobals := by rfl) (hb : env.builtins = builtinsNs := by rfl) (hk : env.scope.kind = .function := by rfl) (hx : env.kindOf x = some .globalImplicit := by rfl) (hn : x ≠ "__name__" := by decide) (hd : (x == ("__debug__" : Str)) = false := by decide) :
    wpAny (model prg w) A (eval (.Name x pos) env) Q E s := by
  obtain ⟨⟨mg, mb, g, b, n⟩, _⟩ := W
  exact Calls.Name_function_global hk hx (Calls.loadGlobal_builtin (env := env) (by rw [hg]; exact g) (n.no x hm) (by rw [hb]; exact b) ((n.boot x hn).trans hv) h) hd
end
theorem bi_len : bootBuiltins "len" = some (.builtin "len") := by kernel_rfl
theorem bi_range : bootBuiltins "range" = some (.type "range") := by kernel_rfl
theorem bi_sorted : bootBuiltins "sorted" = some (.builtin "sorted") := by kernel_rfl
theorem bi_sum : bootBuiltins "sum" = some (.builtin "sum") := by kernel_rfl
theorem bi_isinstance : bootBuiltins "isinstance" = some (.builtin "isinstance") := by kernel_rfl
theorem bi_float : bootBuiltins "float" = some (.type "float") := by kernel_rfl
theorem bi_int : bootBuiltins "int" = some (.type "int") := by kernel_rfl
theorem bi_bool : bootBuiltins "bool" = some (.type "bool") := by kernel_rfl
theorem bi_IndexError : bootBuiltins "IndexError" = some (.type "IndexError") := by kernel_rfl
theorem bi_TypeError : bootBuiltins "TypeError" = some (.type "TypeError") := by kernel_rfl

theorem twc_call {w : World} {A : Around} {s : Shared} {R : Result → Shared → Prop} {x y : Int} {t u : Tok}
    (W : Wd s.heap) (hA : Air A)
    (h : ∀ s' tk, Evo s s' → R (.ok (.ret (.int ((if x > y then 1 else 0) - (if x < y then 1 else 0)) tk))) s') :
    codeAny (model prg w) A (.call (.ref 84) ⟨[.int x t, .int y u], []⟩) R s := by
  obtain ⟨o, pm, doc, ho, hd, hc⟩ := W.twc
  refine call_plain_ret (by have := hA.depth; omega) ho hd W.nolimit hc (binds := [("x", .int x t), ("y", .int y u)]) rfl (locs rfl) (fun h₁ F => ?_)
  refine wpAny_execs_cons ?_
  refine wpAny_Return_some ?_
  refine wpAny_BinOp ?_
  refine wpAny_Compare1 ?_
  refine ld F rfl ?_
  refine ld F rfl ?_
  refine gt_int ?_
  refine wpAny_Compare1 ?_
  refine ld F rfl ?_
  refine ld F rfl ?_
  refine lt_int ?_
  refine sub_bool ?_
  have e := h { s with heap := h₁, toks := s.toks + 2 + 1 } (s.toks + 2) (Evo.kp F.keep)
  have e2 : (if x > y then (1 : Int) else 0) - (if x < y then 1 else 0) = b2i (decide (x > y)) - b2i (decide (x < y)) := by
    unfold b2i; simp only [decide_eq_true_eq]
  rw [e2] at e
  exact e

section
variable {w : World} {A : Around} {E : Value → Shared → Prop} {R : Result → Shared → Prop} {s : Shared}

theorem EvoB.sameBut {a : Addr} {s : Shared} {h' : Heap} {tk : Nat} (hs : Heap.SameBut a s.heap h') (ha : @LT.lt Nat _ 111 a) : EvoB [a] s { s with heap := h', toks := tk } :=
  EvoB.heap (fun b o hb e => hs.extBut b o (fun h => hb (h ▸ List.mem_singleton.mpr rfl)) e)
    (fun hm => by rw [List.mem_singleton] at hm; rw [← hm] at ha; exact absurd ha (by decide)) (fun hm => by rw [List.mem_singleton] at hm; rw [← hm] at ha; exact absurd ha (by decide))
theorem big_not {wr : List Addr} (hw : ∀ b ∈ wr, @LT.lt Nat _ 111 b) {a : Nat} (ha : a ≤ 111) : a ∉ wr := fun hm => absurd (hw a hm) (Nat.not_lt.mpr ha)

/-- the turns of a comprehension of one clause whose element calls -/
theorem lc_loop {elt iter : Expr} {x : Str} {px : Pos} {ifs : List Expr} {scope : Scope} {pos : Pos} {I D : Addr} {fp wr : List Addr} {n : Nat} {P : Nat → Value → Prop} {St : Nat → Heap → Prop}
    {cenv : Env} {m : Str → Option Value} (W : Walks prg w A I fp wr n P St) (p : Value → Bool) (F : Value → Value → Prop)
    (hx : cenv.kindOf x = some .local) (hp : (cenv.scope.kind == .class || (cenv.scope.kind == .module && cenv.locals != cenv.globals)) = false)
    (hDC : D ≠ cenv.locals) (hDf : D ∉ fp) (hCf : cenv.locals ∉ fp) (hwr : ∀ b ∈ wr, @LT.lt Nat _ 111 b) (hfp : 65 ∉ fp) (hD : @LT.lt Nat _ 111 D) (hC : @LT.lt Nat _ 111 cenv.locals)
    (hst : St 0 s.heap) (hacc : s.heap.PlainList D #[]) (hn : s.heap.Ns cenv.locals m)
    (htests : ∀ i v s₂ m₂ E', P i v → s₂.heap.Ns cenv.locals m₂ → m₂ x = some v → EvoB (cenv.locals :: D :: wr) s s₂ →
      wpAny (model prg w) A (forIn ifs true fun c r => if r = true then do let ok ← isTrue c cenv (eval c cenv); pure (ForInStep.yield ok) else pure (ForInStep.yield r))
        (fun ok s₃ => ok = p v ∧ Evo s₂ s₃) E' s₂)
    (helt : ∀ i v s₂ m₂ E', P i v → p v = true → s₂.heap.Ns cenv.locals m₂ → m₂ x = some v → EvoB (cenv.locals :: D :: wr) s s₂ →
      wpAny (model prg w) A (eval elt cenv) (fun y s₃ => F v y ∧ Evo s₂ s₃) E' s₂)
    (hR : ∀ s' m' ys (vs : List Value), s'.heap.Ns cenv.locals m' → s'.heap.PlainList D ys → vs.length = n → (∀ j v, vs[j]? = some v → P j v) → Paired F (vs.filter p) ys.toList →
      EvoB (cenv.locals :: D :: wr) s s' → R (.ok .next) s')
    (hsz : n ≤ sizeLine := by size_fits) :
    codeAny (model prg w) A (.compLoop (.ListComp elt [⟨.Name x px, iter, ifs, 0⟩] scope pos) 0 (.ref I) (.ref D) cenv) R s := by
  refine codeAny_compLoop_tests
    (fun k s' => ∃ m' ys, ∃ vs : List Value, St vs.length s'.heap ∧ s'.heap.PlainList D ys ∧ s'.heap.Ns cenv.locals m' ∧ (∀ j v, vs[j]? = some v → P j v) ∧
      Paired F (vs.filter p) ys.toList ∧ vs.length ≤ n ∧ k = n + 1 - vs.length ∧ EvoB (cenv.locals :: D :: wr) s s') ?_ (n + 1)
    ⟨m, #[], [], hst, hacc, hn, by simp, by simpa using Paired.nil, Nat.zero_le _, rfl, EvoB.refl _ _⟩
  rintro k s' ⟨m', ys, vs, hst', hacc', hn', hP, hF, hi, rfl, hev⟩
  have hCw : cenv.locals ∉ wr := fun h => hCf (W.sub _ h)
  have hDw : D ∉ wr := fun h => hDf (W.sub _ h)
  have inW : ∀ b ∈ wr, b ∈ cenv.locals :: D :: wr := fun b hb => List.mem_cons_of_mem _ (List.mem_cons_of_mem _ hb)
  have fpOk : ∀ {a b : Shared}, Evo a b → ∀ c ∈ fp, ∀ o, a.heap.get? c = some o → b.heap.get? c = some o := fun e c hc o h => e.keep c o (fun h => nomatch h) (fun h => hfp (h ▸ hc)) h
  have plOk : ∀ {a b : Shared} {ys}, Evo a b → a.heap.PlainList D ys → b.heap.PlainList D ys := fun e h => h.at fun o e' => e.keep D o (fun h => nomatch h) (fun h => absurd hD (by rw [h]; decide)) e'
  have nsOk : ∀ {a b : Shared} {m}, Evo a b → a.heap.Ns cenv.locals m → b.heap.Ns cenv.locals m := fun e h => h.at' fun o e' => e.keep _ o (fun h => nomatch h) (fun h => absurd hC (by rw [h]; decide)) e'
  by_cases hlt : vs.length < n
  · refine W.item vs.length _ _ _ hlt hst' fun v h₁ tk₁ hPv hst₁ hk₁ => ?_
    have ev₁ : EvoB (cenv.locals :: D :: wr) s { s' with heap := h₁, toks := tk₁ } := hev.trans ((EvoB.heap hk₁ (big_not hwr (by decide)) (big_not hwr (by decide))).mono inW)
    refine wpAny_assign_Name (wpAny_storeName_local hx (hn'.at' fun o e => hk₁ _ o hCw e) (fun h₂ hn₂ hs₂ => ?_) hp)
    have ev₂ : EvoB (cenv.locals :: D :: wr) s { s' with heap := h₂, toks := tk₁ + 1 } := ev₁.trans ((EvoB.sameBut (s := { s' with heap := h₁, toks := tk₁ }) hs₂ hC).mono fun b hb => by rw [List.mem_singleton] at hb; rw [hb]; exact List.mem_cons_self ..)
    have hst₂ : St (vs.length + 1) h₂ := W.frame _ _ _ hst₁ fun b hb o e => hs₂.extBut b o (fun h => hCf (h ▸ hb)) e
    have hacc₂ : h₂.PlainList D ys := hacc'.at fun o e => hs₂.extBut D o hDC (hk₁ D o hDw e)
    refine wpAny_mono (htests vs.length v _ _ _ hPv hn₂ (by simp) ev₂) (fun ok s₃ h₃ => ?_) fun _ _ e => e
    obtain ⟨rfl, ev₃⟩ := h₃
    have hst₃ : St (vs.length + 1) s₃.heap := W.frame _ _ _ hst₂ (fpOk ev₃)
    have hacc₃ := plOk ev₃ hacc₂
    have hn₃ := nsOk ev₃ hn₂
    have ev₃' := ev₂.trans (EvoB.ofEvo (wr := cenv.locals :: D :: wr) ev₃)
    have hP' : ∀ j u, (vs ++ [v])[j]? = some u → P j u := fun j u hj => by
      rcases Nat.lt_trichotomy j vs.length with h | h | h
      · exact hP j u (by rwa [List.getElem?_append_left h] at hj)
      · subst h; simp at hj; subst hj; exact hPv
      · have hnone : (vs ++ [v])[j]? = none := List.getElem?_eq_none (by rw [List.length_append, List.length_singleton]; omega)
        rw [hnone] at hj; cases hj
    cases hpv : p v with
    | false =>
      simp only [Bool.false_eq_true, if_false]
      refine ⟨n + 1 - (vs.length + 1), by omega, _, ys, vs ++ [v], by simpa using hst₃, hacc₃, hn₃, hP', ?_, (by rw [List.length_append, List.length_singleton]; exact hlt), (by rw [List.length_append, List.length_singleton]), ev₃'⟩
      rw [List.filter_append]; simpa [hpv] using hF
    | true =>
      simp only [if_true]
      refine wpAny_mono (helt vs.length v _ _ _ hPv hpv hn₃ (by simp) ev₃') (fun y s₄ h₄ => ?_) fun _ _ e => e
      obtain ⟨hFy, ev₄⟩ := h₄
      have hys : ys.size ≤ sizeLine := by
        have e1 := hF.length
        have e2 : (vs.filter p).length ≤ vs.length := List.length_filter_le _ _
        have e4 : ys.toList.length = ys.size := by simp
        omega
      refine wpAny_list_append_plain (hsz := hys) (plOk ev₄ hacc₃) fun h₅ hl₅ hs₅ => ?_
      refine ⟨n + 1 - (vs.length + 1), by omega, _, ys.push y, vs ++ [v], ?_, hl₅, (nsOk ev₄ hn₃).sameBut hs₅ (Ne.symm hDC), hP', ?_, (by rw [List.length_append, List.length_singleton]; exact hlt), (by rw [List.length_append, List.length_singleton]),
        (ev₃'.trans (EvoB.ofEvo ev₄)).trans ((EvoB.sameBut (s := s₄) (tk := s₄.toks) hs₅ hD).mono fun b hb => by rw [List.mem_singleton] at hb; rw [hb]; exact List.mem_cons_of_mem _ (List.mem_cons_self ..))⟩
      · have := W.frame _ _ h₅ hst₃ fun b hb o e => hs₅.extBut b o (fun h => hDf (h ▸ hb)) (fpOk ev₄ b hb o e)
        simpa using this
      · rw [List.filter_append]; simpa [hpv] using Paired.snoc hF hFy
  · have hin : vs.length = n := by omega
    refine W.done _ _ _ (hin ▸ hst') fun h₁ tk₁ hk₁ => ?_
    exact hR _ m' ys vs (hn'.at' fun o e => hk₁ _ o hCw e) (hacc'.at fun o e => hk₁ _ o hDw e) hin hP hF (hev.trans ((EvoB.heap hk₁ (big_not hwr (by decide)) (big_not hwr (by decide))).mono inW))
end
end Mine
end

section
open PySem PySem.W PyProof.Rows
set_option Elab.async false
set_option maxRecDepth 100000
namespace Mine
section
variable {w : World} {A : Around} {E : Value → Shared → Prop} {R : Result → Shared → Prop} {s : Shared} {env : Env}

theorem lc_block {elt iter : Expr} {x : Str} {px : Pos} {ifs : List Expr} {scope : Scope} {cl : List (Str × Addr)} {pos : Pos} {s₂ : Shared} {I : Addr} {fp wr : List Addr} {n : Nat} {P : Nat → Value → Prop}
    {St : Nat → Heap → Prop} (W : Walks prg w A I fp wr n P St) (hsz : n ≤ sizeLine) (p : Value → Bool) (F : Value → Value → Prop) {RR : Value → Addr → Result → Shared → Prop}
    (hcell : ∀ y ∈ scope.names, y.2 ≠ .cell) (hkind : scope.kind = .function) (hx : scope.names.lookup x = some .local) (hst : St 0 s₂.heap) (hfp : ∀ b ∈ fp, b < s₂.heap.objs.size)
    (hwr : ∀ b ∈ wr, @LT.lt Nat _ 111 b) (hfp5 : 65 ∉ fp) (hbig : @LT.lt Nat _ 111 s₂.heap.objs.size)
    (htests : ∀ C i v s₃ m₃ E', s₂.heap.objs.size ≤ C → P i v → s₃.heap.Ns C m₃ → m₃ x = some v → EvoB wr s₂ s₃ →
      wpAny (model prg w) A (forIn ifs true fun c r => if r = true then do let ok ← isTrue c (compEnvC scope cl C env) (eval c (compEnvC scope cl C env)); pure (ForInStep.yield ok) else pure (ForInStep.yield r))
        (fun ok s₄ => ok = p v ∧ Evo s₃ s₄) E' s₃)
    (helt : ∀ C i v s₃ m₃ E', s₂.heap.objs.size ≤ C → P i v → p v = true → s₃.heap.Ns C m₃ → m₃ x = some v → EvoB wr s₂ s₃ →
      wpAny (model prg w) A (eval elt (compEnvC scope cl C env)) (fun y s₄ => F v y ∧ Evo s₃ s₄) E' s₃)
    (hRR : ∀ D C s' m' ys (vs : List Value), s₂.heap.get? D = none → s₂.heap.get? C = none → D ≠ C → s'.heap.Ns C m' → s'.heap.PlainList D ys → vs.length = n → (∀ j v, vs[j]? = some v → P j v) → Paired F (vs.filter p) ys.toList →
      EvoB wr s₂ s' → @LT.lt Nat _ 111 C → RR (.ref D) C (.ok .next) s') :
    wpAny (model prg w) A (newList []) (fun acc s₃ => wpAny (model prg w) A (newFunctionEnv scope env.globals cl [] env.qual none .none (some env)) (fun cenv s₄ =>
      codeAny (model prg w) A (.compStart (.ListComp elt [⟨.Name x px, iter, ifs, 0⟩] scope pos) 0 (.ref I) acc { cenv with scope := relabel scope env }) (RR acc cenv.locals) s₄) E s₃) E s₂ := by
  refine wpAny_newObj_type (wpAny_newFunctionEnv hcell (by intro y hy; simp at hy) (fun h₁ hns₁ hsb₁ => ?_) hkind)
  dsimp only at hns₁ hsb₁ ⊢
  generalize hH2 : s₂.heap.push { cls := .type "list", dict := none, data := .seq ([] : List Value).toArray } = H2 at hns₁ hsb₁ ⊢
  have hC : H2.objs.size = s₂.heap.objs.size + 1 := by rw [← hH2, Heap.size_push]
  have hDC : s₂.heap.objs.size ≠ H2.objs.size := by rw [hC]; exact Nat.ne_of_lt (Nat.lt_succ_self _)
  have hCle : s₂.heap.objs.size ≤ H2.objs.size := by rw [hC]; exact Nat.le_succ _
  have hCbig : @LT.lt Nat _ 111 H2.objs.size := Nat.lt_of_lt_of_le hbig hCle
  have below : ∀ b, b < s₂.heap.objs.size → b ≠ H2.objs.size ∧ b ≠ s₂.heap.objs.size := fun b hb => ⟨by rw [hC]; exact Nat.ne_of_lt (Nat.lt_succ_of_lt hb), Nat.ne_of_lt hb⟩
  have hDf : s₂.heap.objs.size ∉ fp := fun hm => Nat.lt_irrefl _ (hfp _ hm)
  have hCf : H2.objs.size ∉ fp := fun hm => by have := hfp _ hm; rw [hC] at this; exact Nat.lt_irrefl _ (Nat.lt_of_succ_lt this)
  have old : ∀ b o, s₂.heap.get? b = some o → h₁.get? b = some o := fun b o e => hsb₁.extBut b o (below b (Heap.lt_size e)).1 (Heap.get?_push_of_some _ (hH2 ▸ Heap.get?_push_of_some _ e))
  have hacc : h₁.PlainList s₂.heap.objs.size #[] := ⟨_, hsb₁.extBut _ _ hDC (Heap.get?_push_of_some _ (hH2 ▸ Heap.get?_push_size _ rfl))⟩
  have hst₁ : St 0 h₁ := W.frame _ _ _ hst fun b _ o e => old b o e
  have fresh : ∀ a, s₂.heap.objs.size ≤ a → s₂.heap.get? a = none := fun a ha => by
    cases e : s₂.heap.get? a with
    | none => rfl
    | some o' => exact absurd (Heap.lt_size e) (Nat.not_lt.mpr ha)
  have loop : ∀ s₃ : Shared, s₃ = { s₂ with heap := h₁, toks := s₂.toks + ([] : List (Str × Value)).length } →
      codeAny (model prg w) A (.compLoop (.ListComp elt [⟨.Name x px, iter, ifs, 0⟩] scope pos) 0 (.ref I) (.ref s₂.heap.objs.size) (compEnvC scope cl H2.objs.size env))
        (RR (.ref s₂.heap.objs.size) H2.objs.size) s₃ := by
    rintro s₃ rfl
    have first : Evo s₂ { s₂ with heap := h₁, toks := s₂.toks + ([] : List (Str × Value)).length } := Evo.kp old
    have back : ∀ {s₅ : Shared}, EvoB (H2.objs.size :: s₂.heap.objs.size :: wr) { s₂ with heap := h₁, toks := s₂.toks + ([] : List (Str × Value)).length } s₅ → EvoB wr s₂ s₅ := fun y =>
      ⟨y.os, fun b o hb h65 e => y.keep b o (fun hm => by
        rcases List.mem_cons.mp hm with h | hm
        · exact (below b (Heap.lt_size e)).1 h
        · rcases List.mem_cons.mp hm with h | hm
          · exact (below b (Heap.lt_size e)).2 h
          · exact hb hm) h65 (old b o e), y.gens, fun t => y.tab (first.tab t)⟩
    refine lc_loop (hsz := hsz) (cenv := compEnvC scope cl H2.objs.size env) W p F (lookup_relabel_local hx) (by simp [compEnvC, relabel, hkind]) hDC hDf hCf hwr hfp5 hbig hCbig hst₁ hacc hns₁
      (fun i v s₃ m₃ E' hv hn hm ev => htests _ i v s₃ m₃ E' hCle hv hn hm (back ev))
      (fun i v s₃ m₃ E' hv hpv hn hm ev => helt _ i v s₃ m₃ E' hCle hv hpv hn hm (back ev)) fun s' m' ys vs hn hpl hlen hP hF ev => ?_
    exact hRR _ _ s' m' ys vs (fresh _ (Nat.le_refl _)) (fresh _ (by rw [hC]; exact Nat.le_succ _)) hDC hn hpl hlen hP hF (back ev) hCbig
  exact codeAny_compStart_list (loop _ rfl) (W.self 0 _ _ _ hst₁ (loop _ rfl))

theorem EvoB.nsC {C : Addr} {s s' : Shared} {h' : Heap} (hC : s.heap.get? C = none) (hbig : @LT.lt Nat _ 111 C) {wr : List Addr} (x : EvoB wr s s') (hs : Heap.SameBut C s'.heap h') : EvoB wr s { s' with heap := h' } :=
  ⟨x.os, fun b o hb h65 e => hs.extBut b o (fun h => by rw [h, hC] at e; cases e) (x.keep b o hb h65 e), x.gens, fun t => (x.tab t).keeps (fun o e => hs.extBut _ o (fun h => by rw [← h] at hbig; exact absurd hbig (by decide)) e) fun o e => hs.extBut _ o (fun h => by rw [← h] at hbig; exact absurd hbig (by decide)) e⟩

/-- a comprehension of one clause as an expression -/
theorem lc_expr {elt iter : Expr} {x : Str} {px : Pos} {ifs : List Expr} {scope : Scope} {cl : List (Str × Addr)} {pos : Pos} {Q : Value → Shared → Prop} (p : Value → Bool) (F : Value → Value → Prop)
    (hclos : closureFor scope env = pure cl) (hcell : ∀ y ∈ scope.names, y.2 ≠ .cell) (hkind : scope.kind = .function)
    (hnames : ∀ y ∈ scope.names, y.2 = .local → scope.names.lookup y.1 = some .local) (hx : scope.names.lookup x = some .local)
    (h : wpAny (model prg w) A (eval iter env) (fun xv s₁ => wpAny (model prg w) A (pyIter xv) (fun it s₂ => ∃ I fp wr n P St, it = .ref I ∧ Walks prg w A I fp wr n P St ∧ n ≤ sizeLine ∧ St 0 s₂.heap ∧ (∀ b ∈ fp, b < s₂.heap.objs.size) ∧
      (∀ b ∈ wr, @LT.lt Nat _ 111 b) ∧ 65 ∉ fp ∧ @LT.lt Nat _ 111 s₂.heap.objs.size ∧
      (∀ C i v s₃ m₃ E', s₂.heap.objs.size ≤ C → P i v → s₃.heap.Ns C m₃ → m₃ x = some v → EvoB wr s₂ s₃ →
        wpAny (model prg w) A (forIn ifs true fun c r => if r = true then do let ok ← isTrue c (compEnvC scope cl C env) (eval c (compEnvC scope cl C env)); pure (ForInStep.yield ok) else pure (ForInStep.yield r))
          (fun ok s₄ => ok = p v ∧ Evo s₃ s₄) E' s₃) ∧
      (∀ C i v s₃ m₃ E', s₂.heap.objs.size ≤ C → P i v → p v = true → s₃.heap.Ns C m₃ → m₃ x = some v → EvoB wr s₂ s₃ →
        wpAny (model prg w) A (eval elt (compEnvC scope cl C env)) (fun y s₄ => F v y ∧ Evo s₃ s₄) E' s₃) ∧
      (∀ D s' ys (vs : List Value), s₂.heap.get? D = none → s'.heap.PlainList D ys → vs.length = n → (∀ j v, vs[j]? = some v → P j v) → Paired F (vs.filter p) ys.toList →
        EvoB wr s₂ s' → Q (.ref D) s')) E s₁) E s)
    (hs : ∀ x, foldedSetIterable iter env x = pure x := by intro _; rfl) :
    wpAny (model prg w) A (eval (.ListComp elt [⟨.Name x px, iter, ifs, 0⟩] scope pos) env) Q E s := by
  rw [eval_ListComp]
  refine wpAny_comprehension_free (use := none) rfl hs hclos hkind hnames (wpAny_mono h (fun xv s₁ h₁ => wpAny_mono h₁ (fun it s₂ h₂ => ?_) fun _ _ e => e) fun _ _ e => e)
  obtain ⟨I, fp, wr, n, P, St, rfl, W, hsz, hst, hfp, hwr, hfp5, hbig, hte, hel, hQ⟩ := h₂
  refine lc_block (RR := fun acc C => compPost (model prg w) A E none Q acc C) W hsz p F hcell hkind hx hst hfp hwr hfp5 hbig hte hel ?_
  intro D C s' m' ys vs hD hC hDC hn hpl hlen hP hF ev hCb
  exact ⟨m', hn, fun h'' hs'' => hQ D _ ys vs hD (hpl.extBut hs''.extBut hDC) hlen hP hF (ev.nsC hC hCb hs'')⟩

/-- x = [..], the name wherever it lies -/
theorem lc_asg {elt iter : Expr} {x y : Str} {px py : Pos} {ifs : List Expr} {scope : Scope} {cl : List (Str × Addr)} {pos spos : Pos} {Q : Flow → Shared → Prop} (p : Value → Bool) (F : Value → Value → Prop)
    (hsw : swapsWith (.ListComp elt [⟨.Name x px, iter, ifs, 0⟩] scope pos) (some (.Name y py)) spos.line env = pure true)
    (hclos : closureFor scope env = pure cl) (hcell : ∀ y ∈ scope.names, y.2 ≠ .cell) (hkind : scope.kind = .function)
    (hnames : ∀ y ∈ scope.names, y.2 = .local → scope.names.lookup y.1 = some .local) (hx : scope.names.lookup x = some .local)
    (h : wpAny (model prg w) A (eval iter env) (fun xv s₁ => wpAny (model prg w) A (pyIter xv) (fun it s₂ => ∃ I fp wr n P St, it = .ref I ∧ Walks prg w A I fp wr n P St ∧ n ≤ sizeLine ∧ St 0 s₂.heap ∧ (∀ b ∈ fp, b < s₂.heap.objs.size) ∧
      (∀ b ∈ wr, @LT.lt Nat _ 111 b) ∧ 65 ∉ fp ∧ @LT.lt Nat _ 111 s₂.heap.objs.size ∧
      (∀ C i v s₃ m₃ E', s₂.heap.objs.size ≤ C → P i v → s₃.heap.Ns C m₃ → m₃ x = some v → EvoB wr s₂ s₃ →
        wpAny (model prg w) A (forIn ifs true fun c r => if r = true then do let ok ← isTrue c (compEnvC scope cl C env) (eval c (compEnvC scope cl C env)); pure (ForInStep.yield ok) else pure (ForInStep.yield r))
          (fun ok s₄ => ok = p v ∧ Evo s₃ s₄) E' s₃) ∧
      (∀ C i v s₃ m₃ E', s₂.heap.objs.size ≤ C → P i v → p v = true → s₃.heap.Ns C m₃ → m₃ x = some v → EvoB wr s₂ s₃ →
        wpAny (model prg w) A (eval elt (compEnvC scope cl C env)) (fun y s₄ => F v y ∧ Evo s₃ s₄) E' s₃) ∧
      (∀ D C s' m' ys (vs : List Value), s₂.heap.get? D = none → s₂.heap.get? C = none → D ≠ C → @LT.lt Nat _ 111 C → s'.heap.Ns C m' → s'.heap.PlainList D ys → vs.length = n → (∀ j v, vs[j]? = some v → P j v) → Paired F (vs.filter p) ys.toList →
        EvoB wr s₂ s' → wpAny (model prg w) A (storeName env y (.ref D)) (fun _ s'' => ∃ m, s''.heap.Ns C m ∧ ∀ h', Heap.SameBut C s''.heap h' → Q .next { s'' with heap := h' }) E s')) E s₁) E s)
    (hs : ∀ x, foldedSetIterable iter env x = pure x := by intro _; rfl) :
    wpAny (model prg w) A (exec (.Assign [.Name y py] (.ListComp elt [⟨.Name x px, iter, ifs, 0⟩] scope pos) spos) env) Q E s := by
  rw [exec_Assign_Name_used _ _ _ _ hsw]
  refine wpAny_bind (wpAny_standAt (wpAny_bind ?_))
  show wpAny _ A (do let _ ← comprehension (.ListComp elt [⟨.Name x px, iter, ifs, 0⟩] scope pos) scope env _ (newList []) false (eval iter env) (some (assign (.Name y py) env))) _ _ s
  refine wpAny_bind (wpAny_mono (wpAny_comprehension_free (use := some (assign (.Name y py) env)) (Q := fun _ s' => Q .next s') rfl hs hclos hkind hnames
    (wpAny_mono h (fun xv s₁ h₁ => wpAny_mono h₁ (fun it s₂ h₂ => ?_) fun _ _ e => e) fun _ _ e => e)) (fun _ _ hq => wpAny_pure (wpAny_pure hq)) fun _ _ e => e)
  obtain ⟨I, fp, wr, n, P, St, rfl, W, hsz, hst, hfp, hwr, hfp5, hbig, hte, hel, hQ⟩ := h₂
  refine lc_block (RR := fun acc C => compPost (model prg w) A E (some (assign (.Name y py) env)) (fun _ s' => Q .next s') acc C) W hsz p F hcell hkind hx hst hfp hwr hfp5 hbig hte hel ?_
  intro D C s' m' ys vs hD hC hDC hn hpl hlen hP hF ev hCb
  exact wpAny_assign_Name (hQ D C s' m' ys vs hD hC hDC hCb hn hpl hlen hP hF ev)
end
end Mine
end

section
open PySem PySem.W PyProof.Rows
set_option Elab.async false
set_option maxRecDepth 100000
namespace Mine

/-- what a comprehension asks behind pyIter -/
def LcBody (w : World) (A : Around) (env : Env) (scope : Scope) (cl : List (Str × Addr)) (x : Str) (ifs : List Expr) (elt : Expr) (p : Value → Bool) (F : Value → Value → Prop) (Fin : Addr → Addr → Shared → Prop)
    (it : Value) (s₂ : Shared) : Prop :=
  ∃ I fp wr n P St, it = .ref I ∧ Walks prg w A I fp wr n P St ∧ n ≤ sizeLine ∧ St 0 s₂.heap ∧ (∀ b ∈ fp, b < s₂.heap.objs.size) ∧
      (∀ b ∈ wr, @LT.lt Nat _ 111 b) ∧ 65 ∉ fp ∧ @LT.lt Nat _ 111 s₂.heap.objs.size ∧
      (∀ C i v s₃ m₃ E', s₂.heap.objs.size ≤ C → P i v → s₃.heap.Ns C m₃ → m₃ x = some v → EvoB wr s₂ s₃ →
        wpAny (model prg w) A (forIn ifs true fun c r => if r = true then do let ok ← isTrue c (compEnvC scope cl C env) (eval c (compEnvC scope cl C env)); pure (ForInStep.yield ok) else pure (ForInStep.yield r))
          (fun ok s₄ => ok = p v ∧ Evo s₃ s₄) E' s₃) ∧
      (∀ C i v s₃ m₃ E', s₂.heap.objs.size ≤ C → P i v → p v = true → s₃.heap.Ns C m₃ → m₃ x = some v → EvoB wr s₂ s₃ →
        wpAny (model prg w) A (eval elt (compEnvC scope cl C env)) (fun y s₄ => F v y ∧ Evo s₃ s₄) E' s₃) ∧
      (∀ D C s' m' ys (vs : List Value), s₂.heap.get? D = none → s₂.heap.get? C = none → D ≠ C → @LT.lt Nat _ 111 C → s'.heap.Ns C m' → s'.heap.PlainList D ys → vs.length = n → (∀ j v, vs[j]? = some v → P j v) → Paired F (vs.filter p) ys.toList →
        EvoB wr s₂ s' → Fin D C s')

section
variable {w : World} {A : Around} {E : Value → Shared → Prop} {s : Shared} {env : Env}

theorem lcE {elt iter : Expr} {x : Str} {px : Pos} {ifs : List Expr} {scope : Scope} {cl : List (Str × Addr)} {pos : Pos} {Q : Value → Shared → Prop} (p : Value → Bool) (F : Value → Value → Prop)
    (hclos : closureFor scope env = pure cl) (hcell : ∀ y ∈ scope.names, y.2 ≠ .cell) (hkind : scope.kind = .function)
    (hnames : ∀ y ∈ scope.names, y.2 = .local → scope.names.lookup y.1 = some .local) (hx : scope.names.lookup x = some .local)
    (h : wpAny (model prg w) A (eval iter env) (fun xv s₁ => wpAny (model prg w) A (pyIter xv) (LcBody w A env scope cl x ifs elt p F (fun D C s' => ∀ h', Heap.SameBut C s'.heap h' → Q (.ref D) { s' with heap := h' })) E s₁) E s)
    (hs : ∀ x, foldedSetIterable iter env x = pure x := by intro _; rfl) :
    wpAny (model prg w) A (eval (.ListComp elt [⟨.Name x px, iter, ifs, 0⟩] scope pos) env) Q E s := by
  rw [eval_ListComp]
  refine wpAny_comprehension_free (use := none) rfl hs hclos hkind hnames (wpAny_mono h (fun xv s₁ h₁ => wpAny_mono h₁ (fun it s₂ h₂ => ?_) fun _ _ e => e) fun _ _ e => e)
  obtain ⟨I, fp, wr, n, P, St, rfl, W, hsz, hst, hfp, hwr, hfp5, hbig, hte, hel, hQ⟩ := h₂
  refine lc_block (RR := fun acc C => compPost (model prg w) A E none Q acc C) W hsz p F hcell hkind hx hst hfp hwr hfp5 hbig hte hel ?_
  intro D C s' m' ys vs hD hC hDC hn hpl hlen hP hF ev hCb
  exact ⟨m', hn, fun h'' hs'' => hQ D C s' m' ys vs hD hC hDC hCb hn hpl hlen hP hF ev h'' hs''⟩

theorem lcA {elt iter : Expr} {x y : Str} {px py : Pos} {ifs : List Expr} {scope : Scope} {cl : List (Str × Addr)} {pos spos : Pos} {Q : Flow → Shared → Prop} (p : Value → Bool) (F : Value → Value → Prop)
    (hsw : swapsWith (.ListComp elt [⟨.Name x px, iter, ifs, 0⟩] scope pos) (some (.Name y py)) spos.line env = pure true)
    (hclos : closureFor scope env = pure cl) (hcell : ∀ y ∈ scope.names, y.2 ≠ .cell) (hkind : scope.kind = .function)
    (hnames : ∀ y ∈ scope.names, y.2 = .local → scope.names.lookup y.1 = some .local) (hx : scope.names.lookup x = some .local)
    (h : wpAny (model prg w) A (eval iter env) (fun xv s₁ => wpAny (model prg w) A (pyIter xv)
      (LcBody w A env scope cl x ifs elt p F (fun D C s' => wpAny (model prg w) A (storeName env y (.ref D)) (fun _ s'' => ∃ m, s''.heap.Ns C m ∧ ∀ h', Heap.SameBut C s''.heap h' → Q .next { s'' with heap := h' }) E s')) E s₁) E s)
    (hs : ∀ x, foldedSetIterable iter env x = pure x := by intro _; rfl) :
    wpAny (model prg w) A (exec (.Assign [.Name y py] (.ListComp elt [⟨.Name x px, iter, ifs, 0⟩] scope pos) spos) env) Q E s := by
  refine lc_asg p F hsw hclos hcell hkind hnames hx (wpAny_mono h (fun xv s₁ h₁ => wpAny_mono h₁ (fun it s₂ h₂ => ?_) fun _ _ e => e) fun _ _ e => e) hs
  obtain ⟨I, fp, wr, n, P, St, rfl, W, hsz, hst, hfp, hwr, hfp5, hbig, hte, hel, hQ⟩ := h₂
  exact ⟨I, fp, wr, n, P, St, rfl, W, hsz, hst, hfp, hwr, hfp5, hbig, hte, hel, hQ⟩

theorem isList_ne {h : Heap} {a : Addr} {items : Array Value} (W : TabOk h) (hl : h.IsList a items) : a ≠ 65 := by
  rintro rfl
  obtain ⟨o, ho, _, n, hd⟩ := hl
  obtain ⟨ps, _, _, t⟩ := W
  rw [t] at ho; cases ho; cases hd

theorem up1 {s₁ s₃ : Shared} {o : Obj} {tk : Nat} (ev : EvoB [s₁.heap.objs.size] { s₁ with heap := s₁.heap.push o, toks := tk } s₃) : Evo s₁ s₃ :=
  ⟨ev.os, fun b o' _ h65 e => ev.keep b o' (fun hm => by rw [List.mem_singleton] at hm; exact Nat.lt_irrefl _ (hm ▸ Heap.lt_size e)) h65 (Heap.get?_push_of_some _ e), ev.gens,
    fun t => ev.tab (t.keeps (fun _ e => Heap.get?_push_of_some _ e) fun _ e => Heap.get?_push_of_some _ e)⟩
theorem none_up {h : Heap} {o : Obj} {D : Addr} (e : (h.push o).get? D = none) : h.get? D = none := by
  cases q : h.get? D with
  | none => rfl
  | some o' => rw [Heap.get?_push_of_some _ q] at e; cases e

theorem src_list {x : Str} {ifs : List Expr} {scope : Scope} {cl : List (Str × Addr)} {elt : Expr} {p : Value → Bool} {F : Value → Value → Prop} {Fin : Addr → Addr → Shared → Prop} {ax : Addr} {items : Array Value}
    (hh : A.handled = none) (W : Wd s.heap) (hl : s.heap.IsList ax items) (hsz : items.size ≤ sizeLine)
    (hte : ∀ C v s₃ m₃ E', s.heap.objs.size ≤ C → v ∈ items → s₃.heap.Ns C m₃ → m₃ x = some v → Evo s s₃ →
      wpAny (model prg w) A (forIn ifs true fun c r => if r = true then do let ok ← isTrue c (compEnvC scope cl C env) (eval c (compEnvC scope cl C env)); pure (ForInStep.yield ok) else pure (ForInStep.yield r))
        (fun ok s₄ => ok = p v ∧ Evo s₃ s₄) E' s₃)
    (hel : ∀ C v s₃ m₃ E', s.heap.objs.size ≤ C → v ∈ items → p v = true → s₃.heap.Ns C m₃ → m₃ x = some v → Evo s s₃ →
        wpAny (model prg w) A (eval elt (compEnvC scope cl C env)) (fun y s₄ => F v y ∧ Evo s₃ s₄) E' s₃)
    (fin : ∀ D C s' m' ys, s.heap.get? D = none → s.heap.get? C = none → D ≠ C → @LT.lt Nat _ 111 C → s'.heap.Ns C m' → s'.heap.PlainList D ys → Paired F (items.toList.filter p) ys.toList → Evo s s' → Fin D C s') :
    wpAny (model prg w) A (pyIter (.ref ax)) (LcBody w A env scope cl x ifs elt p F Fin) E s := by
  have hax : ax < s.heap.objs.size := by obtain ⟨_, e, _⟩ := hl; exact Heap.lt_size e
  have hb := W.size
  have ne5 := isList_ne W.tab hl
  refine wpAny_pyIter_list hl ?_
  refine ⟨s.heap.objs.size, [s.heap.objs.size, ax], [s.heap.objs.size], items.size, (fun i v => items[i]? = some v), _, rfl, Walks.list hh s.heap.objs.size ax (Nat.ne_of_lt hax) items, hsz,
    ⟨⟨_, Heap.get?_push_size _ rfl, rfl, rfl⟩, hl.push _⟩, ?_, ?_, ?_, ?_, ?_, ?_, ?_⟩
  · intro b hb
    show b < (s.heap.push _).objs.size
    rw [Heap.size_push]
    rcases List.mem_cons.mp hb with rfl | hb
    · exact Nat.lt_succ_self _
    · rcases List.mem_cons.mp hb with rfl | hb
      · exact Nat.lt_succ_of_lt hax
      · cases hb
  · intro b hb'
    rw [List.mem_singleton] at hb'; rw [hb']; exact hb
  · intro hm
    rcases List.mem_cons.mp hm with e | hm
    · rw [← e] at hb; exact absurd hb (by decide)
    · rw [List.mem_singleton] at hm; exact ne5 hm.symm
  · show @LT.lt Nat _ 111 (s.heap.push _).objs.size
    rw [Heap.size_push]; exact Nat.lt_succ_of_lt hb
  · intro C i v s₃ m₃ E' hC hP hn hm ev
    exact hte C v s₃ m₃ E' (Nat.le_of_succ_le (by simpa [Heap.size_push] using hC)) (Array.mem_of_getElem? hP) hn hm (up1 ev)
  · intro C i v s₃ m₃ E' hC hP hp hn hm ev
    exact hel C v s₃ m₃ E' (Nat.le_of_succ_le (by simpa [Heap.size_push] using hC)) (Array.mem_of_getElem? hP) hp hn hm (up1 ev)
  · intro D C s' m' ys vs hD hC hDC hCb hn hpl hlen hP hF ev
    rw [list_of_places hlen hP] at hF
    exact fin D C s' m' ys (none_up hD) (none_up hC) hDC hCb hn hpl hF (up1 ev)
theorem src_range {x : Str} {ifs : List Expr} {scope : Scope} {cl : List (Str × Addr)} {elt : Expr} {p : Value → Bool} {F : Value → Value → Prop} {Fin : Addr → Addr → Shared → Prop} {r : Addr} {a b : Int} {t u v : Tok} {n : Nat}
    (hh : A.handled = none) (W : Wd s.heap) (hr : IsRange s.heap r a b 1 t u v) (hsm : Builtin.Range.small a b 1 = true) (hn : Builtin.Range.rangeSize a b 1 = (n : Int)) (hsz : n ≤ sizeLine)
    (hte : ∀ C (i : Nat) t s₃ m₃ E', s.heap.objs.size ≤ C → i < n → s₃.heap.Ns C m₃ → m₃ x = some (.int (a + i) t) → Evo s s₃ →
      wpAny (model prg w) A (forIn ifs true fun c r => if r = true then do let ok ← isTrue c (compEnvC scope cl C env) (eval c (compEnvC scope cl C env)); pure (ForInStep.yield ok) else pure (ForInStep.yield r))
        (fun ok s₄ => ok = p (.int (a + i) t) ∧ Evo s₃ s₄) E' s₃)
    (hel : ∀ C (i : Nat) t s₃ m₃ E', s.heap.objs.size ≤ C → i < n → p (.int (a + i) t) = true → s₃.heap.Ns C m₃ → m₃ x = some (.int (a + i) t) → Evo s s₃ →
        wpAny (model prg w) A (eval elt (compEnvC scope cl C env)) (fun y s₄ => F (.int (a + i) t) y ∧ Evo s₃ s₄) E' s₃)
    (fin : ∀ D C s' m' ys vs, s.heap.get? D = none → s.heap.get? C = none → D ≠ C → @LT.lt Nat _ 111 C → s'.heap.Ns C m' → s'.heap.PlainList D ys → IntsAre vs ((List.range n).map fun (i : Nat) => a + (i : Int)) → Paired F (vs.filter p) ys.toList → Evo s s' → Fin D C s') :
    wpAny (model prg w) A (pyIter (.ref r)) (LcBody w A env scope cl x ifs elt p F Fin) E s := by
  have hb := W.size
  have src : ∀ vs : List Value, vs.length = n → (∀ (j : Nat) v, vs[j]? = some v → j < n ∧ ∃ t, v = Value.int (a + (j : Int) * 1) t) → IntsAre vs ((List.range n).map fun (i : Nat) => a + (i : Int)) := by
    intro vs hlen hP
    have key : ∀ (vs : List Value) (k n : Nat), vs.length = n → (∀ (j : Nat) v, vs[j]? = some v → ∃ t, v = Value.int (a + ((k + j : Nat) : Int)) t) → IntsAre vs ((List.range' k n).map fun (i : Nat) => a + (i : Int)) := by
      intro vs
      induction vs with
      | nil => intro k n h _; subst h; exact .nil
      | cons v r ih =>
        intro k n h hP
        subst h
        obtain ⟨t, e⟩ := hP 0 v rfl
        rw [e]
        exact .cons _ t (ih (k + 1) _ rfl fun j v' hv => by
          obtain ⟨t', e'⟩ := hP (j + 1) v' hv
          exact ⟨t', by rw [e', show k + 1 + j = k + (j + 1) by omega]⟩)
    have := key vs 0 n hlen fun j v' hv => by
      obtain ⟨_, t', e'⟩ := hP j v' hv
      exact ⟨t', by rw [e', Nat.zero_add, Int.mul_one]⟩
    rwa [← List.range_eq_range'] at this
  refine wpAny_pyIter_range hr hsm ⟨s.heap.objs.size, [s.heap.objs.size], [s.heap.objs.size], n, _, _, rfl, (Walks.range hh _ a 1 n).bound, hsz, (by show IsRangeIter _ _ _ _ _; rw [hn]; simpa using Heap.get?_push_size _ rfl), ?_, ?_, ?_, ?_, ?_, ?_, ?_⟩
  · intro b hb
    show b < (s.heap.push _).objs.size
    rw [Heap.size_push]
    rcases List.mem_cons.mp hb with rfl | hb
    · exact Nat.lt_succ_self _
    · cases hb
  · intro b hb'
    rw [List.mem_singleton] at hb'; rw [hb']; exact hb
  · intro hm
    rw [List.mem_singleton] at hm; rw [← hm] at hb; exact absurd hb (by decide)
  · show @LT.lt Nat _ 111 (s.heap.push _).objs.size
    rw [Heap.size_push]; exact Nat.lt_succ_of_lt hb
  · intro C i v s₃ m₃ E' hC hP hn' hm ev
    obtain ⟨hi, t', e⟩ := hP
    rw [Int.mul_one] at e; subst e
    exact hte C i t' s₃ m₃ E' (Nat.le_of_succ_le (by simpa [Heap.size_push] using hC)) hi hn' hm (up1 ev)
  · intro C i v s₃ m₃ E' hC hP hp hn' hm ev
    obtain ⟨hi, t', e⟩ := hP
    rw [Int.mul_one] at e; subst e
    exact hel C i t' s₃ m₃ E' (Nat.le_of_succ_le (by simpa [Heap.size_push] using hC)) hi hp hn' hm (up1 ev)
  · intro D C s' m' ys vs hD hC hDC hCb hn' hpl hlen hP hF ev
    exact fin D C s' m' ys vs (none_up hD) (none_up hC) hDC hCb hn' hpl (src vs hlen hP) hF (up1 ev)

/-- a call of a built-in function by its name -/
theorem callB {f : Str} {id : String} {p pos : Pos} {e : Expr} {rest : List Expr} {Q : Value → Shared → Prop} (W : Wd s.heap) (hm : f ∈ (["len", "sum", "range", "isinstance", "int", "bool", "float", "sorted", "TypeError", "IndexError"] : List Str)) (hv : bootBuiltins f = some (.builtin id))
    (h : wpAny (model prg w) A (spliced (backTo pos (starEach (e :: rest) env))) (fun vs s₁ => wpAny (model prg w) A (call (.builtin id) vs) Q E s₁) E s)
    (hg : env.globals = mainGlobals := by rfl) (hb : env.builtins = builtinsNs := by rfl) (hk : env.scope.kind = .function := by rfl) (hx : env.kindOf f = some .globalImplicit := by rfl) (hn : f ≠ "__name__" := by decide) (hd : (f == ("__debug__" : Str)) = false := by decide)
    (he : starEach (e :: rest) env = (false, eval e env) :: starEach rest env := by rfl) (hplain : (backTo pos (starEach rest env)).any (·.1) = false := by rfl) :
    wpAny (model prg w) A (eval (.Call (.Name f p) (e :: rest) [] pos) env) Q E s := by
  refine wpAny_Call_NameR (nameB W hm hv ?_ hg hb hk hx hn hd)
  rw [he] at h ⊢
  exact Calls.callWith_builtin (by show (false || (backTo pos (starEach rest env)).any (·.1)) = false; rw [hplain]; rfl) (Calls.evalArgs_plain h)
/-- a call of a built-in type by its name -/
theorem callT {f : Str} {T : String} {p pos : Pos} {e : Expr} {rest : List Expr} {Q : Value → Shared → Prop} (W : Wd s.heap) (hm : f ∈ (["len", "sum", "range", "isinstance", "int", "bool", "float", "sorted", "TypeError", "IndexError"] : List Str)) (hv : bootBuiltins f = some (.type T))
    (h : wpAny (model prg w) A (spliced (backTo pos (starEach (e :: rest) env))) (fun vs s₁ => wpAny (model prg w) A (call (.type T) vs) Q E s₁) E s)
    (hg : env.globals = mainGlobals := by rfl) (hb : env.builtins = builtinsNs := by rfl) (hk : env.scope.kind = .function := by rfl) (hx : env.kindOf f = some .globalImplicit := by rfl) (hn : f ≠ "__name__" := by decide) (hd : (f == ("__debug__" : Str)) = false := by decide)
    (he : starEach (e :: rest) env = (false, eval e env) :: starEach rest env := by rfl) (hplain : (backTo pos (starEach rest env)).any (·.1) = false := by rfl) :
    wpAny (model prg w) A (eval (.Call (.Name f p) (e :: rest) [] pos) env) Q E s :=
  wpAny_Call_NameR (nameB W hm hv (callWith_type1 h he hplain) hg hb hk hx hn hd)
/-- a call of a built-in function that the text brings in -/
theorem callI {f : Str} {id : String} {p pos : Pos} {e : Expr} {rest : List Expr} {Q : Value → Shared → Prop} (W : Wd s.heap) (hv : ∀ mg mb, Nm mg mb → mg f = some (.builtin id))
    (h : wpAny (model prg w) A (spliced (backTo pos (starEach (e :: rest) env))) (fun vs s₁ => wpAny (model prg w) A (call (.builtin id) vs) Q E s₁) E s)
    (hg : env.globals = mainGlobals := by rfl) (hk : env.scope.kind = .function := by rfl) (hx : env.kindOf f = some .globalImplicit := by rfl) (hd : (f == ("__debug__" : Str)) = false := by decide)
    (he : starEach (e :: rest) env = (false, eval e env) :: starEach rest env := by rfl) (hplain : (backTo pos (starEach rest env)).any (·.1) = false := by rfl) :
    wpAny (model prg w) A (eval (.Call (.Name f p) (e :: rest) [] pos) env) Q E s := by
  refine wpAny_Call_NameR (nameG W hv ?_ hg hk hx hd)
  rw [he] at h ⊢
  exact Calls.callWith_builtin (by show (false || (backTo pos (starEach rest env)).any (·.1)) = false; rw [hplain]; rfl) (Calls.evalArgs_plain h)
/-- a call of one of the text's functions -/
theorem callF (k : Nat) {f : Str} {a c : Addr} {p pos : Pos} {e : Expr} {rest : List Expr} {Q : Value → Shared → Prop} (W : Wd s.heap) (hv : ∀ mg mb, Nm mg mb → mg f = some (.ref a)) (hf : ∀ h : Heap, Wd h → FnIs k a c h) (ha5 : a ≠ 65)
    (h : wpAny (model prg w) A (spliced (backTo pos (starEach (e :: rest) env))) (fun vs s₁ => Evo s s₁ ∧ codeAny (model prg w) A (.call (.ref a) ⟨vs, []⟩) (fun r s' => match r with | .ok (.ret v) => Q v s' | .ok _ => False | .error e => E e s') s₁) E s)
    (hg : env.globals = mainGlobals := by rfl) (hk : env.scope.kind = .function := by rfl) (hx : env.kindOf f = some .globalImplicit := by rfl) (hd : (f == ("__debug__" : Str)) = false := by decide)
    (he : starEach (e :: rest) env = (false, eval e env) :: starEach rest env := by rfl) :
    wpAny (model prg w) A (eval (.Call (.Name f p) (e :: rest) [] pos) env) Q E s := by
  refine wpAny_Call_NameR (nameG W hv ?_ hg hk hx hd)
  rw [he] at h ⊢
  obtain ⟨o, pm, doc, ho, hd, hc⟩ := hf _ W
  refine Calls.callWith_function (o := o) (Calls.evalArgs_plain (wpAny_mono h (fun vs s₁ h₁ => ⟨⟨h₁.1.keep a o (fun h => nomatch h) ha5 ho, hd⟩, ?_⟩) fun _ _ e => e))
  exact wpAny_call h₁.2
end
end Mine
end

section
open PySem PySem.W PyProof.Rows
set_option Elab.async false
set_option maxRecDepth 100000
namespace Mine

/-- the frame of a call, its cells, the lists at hand -/
structure Fm (s₀ : Shared) (L : Addr) (cs : List (Str × Addr)) (m cm : Str → Option Value) (Γ : List (Addr × Array Value)) (s : Shared) : Prop where
  wd : Wd s₀.heap
  ev : Evo s₀ s
  ns : s.heap.Ns L m
  cell : ∀ n c, cs.lookup n = some c → s.heap.IsCell c (cm n)
  fresh : s₀.heap.objs.size ≤ L
  apart : cs.Pairwise fun x y => x.2 ≠ y.2
  above : ∀ n c, (n, c) ∈ cs → L < c
  ls : ∀ p ∈ Γ, s.heap.IsList p.1 p.2

theorem isList_not_ns {h : Heap} {a : Addr} {items : Array Value} {m} (hl : h.IsList a items) (hn : h.Ns a m) : False := by
  obtain ⟨o, ho, _, n, hd⟩ := hl
  obtain ⟨o', es, ep, ho', hd', _⟩ := hn
  rw [ho] at ho'; cases ho'; rw [hd] at hd'; cases hd'
theorem isList_not_cell {h : Heap} {a : Addr} {items : Array Value} {v} (hl : h.IsList a items) (hn : h.IsCell a v) : False := by
  obtain ⟨o, ho, _, n, hd⟩ := hl
  obtain ⟨o', ho', hd'⟩ := hn
  rw [ho] at ho'; cases ho'; rw [hd] at hd'; cases hd'
theorem isTup_not_ns {h : Heap} {a : Addr} {items : Array Value} {m} (hl : h.IsTuple a items) (hn : h.Ns a m) : False := by
  obtain ⟨o, ho, _, n, hd⟩ := hl
  obtain ⟨o', es, ep, ho', hd', _⟩ := hn
  rw [ho] at ho'; cases ho'; rw [hd] at hd'; cases hd'
theorem isTup_ne {h : Heap} {a : Addr} {items : Array Value} (W : TabOk h) (hl : h.IsTuple a items) : a ≠ 65 := by
  rintro rfl
  obtain ⟨o, ho, _, n, hd⟩ := hl
  obtain ⟨ps, _, _, t⟩ := W
  rw [t] at ho; cases ho; cases hd
theorem isList_evo {s s' : Shared} {a : Addr} {items : Array Value} (W : TabOk s.heap) (hl : s.heap.IsList a items) (e : Evo s s') : s'.heap.IsList a items :=
  hl.at fun o q => e.keep a o (fun h => nomatch h) (isList_ne W hl) q
theorem isTup_evo {s s' : Shared} {a : Addr} {items : Array Value} (W : TabOk s.heap) (hl : s.heap.IsTuple a items) (e : Evo s s') : s'.heap.IsTuple a items :=
  let ⟨o, ho, r⟩ := hl; ⟨o, e.keep a o (fun h => nomatch h) (isTup_ne W hl) ho, r⟩

theorem EvoB.sameBut' {a : Addr} {s : Shared} {h' : Heap} {tk : Nat} (hs : Heap.SameBut a s.heap h') (ha : @LT.lt Nat _ 111 a) : EvoB [a] s { s with heap := h', toks := tk } := EvoB.sameBut hs ha

namespace Fm
variable {s₀ s s' : Shared} {L : Addr} {cs : List (Str × Addr)} {m cm : Str → Option Value} {Γ : List (Addr × Array Value)}
theorem W (x : Fm s₀ L cs m cm Γ s) : Wd s.heap := x.wd.evo x.ev
theorem big (x : Fm s₀ L cs m cm Γ s) : @LT.lt Nat _ 111 L := Nat.lt_of_lt_of_le x.wd.size x.fresh
theorem cbig (x : Fm s₀ L cs m cm Γ s) {n c} (h : cs.lookup n = some c) : @LT.lt Nat _ 111 c := Nat.lt_trans x.big (x.above n c (mem_of_lookup h))
theorem evo (x : Fm s₀ L cs m cm Γ s) (e : Evo s s') : Fm s₀ L cs m cm Γ s' :=
  ⟨x.wd, x.ev.trans e, x.ns.at' fun o q => e.keep _ o (fun h => nomatch h) (fun h => absurd x.big (by rw [h]; decide)) q,
    fun n c h => let ⟨o, ho, hd⟩ := x.cell n c h; ⟨o, e.keep c o (fun h => nomatch h) (fun q => absurd (x.cbig h) (by rw [q]; decide)) ho, hd⟩,
    x.fresh, x.apart, x.above, fun p hp => isList_evo x.W.tab (x.ls p hp) e⟩
theorem add (x : Fm s₀ L cs m cm Γ s) {a : Addr} {items : Array Value} (hl : s.heap.IsList a items) : Fm s₀ L cs m cm ((a, items) :: Γ) s :=
  ⟨x.wd, x.ev, x.ns, x.cell, x.fresh, x.apart, x.above, fun p hp => by
    rcases List.mem_cons.mp hp with rfl | hp
    · exact hl
    · exact x.ls p hp⟩
theorem drop (x : Fm s₀ L cs m cm Γ s) {Γ' : List (Addr × Array Value)} (h : ∀ p ∈ Γ', p ∈ Γ) : Fm s₀ L cs m cm Γ' s :=
  ⟨x.wd, x.ev, x.ns, x.cell, x.fresh, x.apart, x.above, fun p hp => x.ls p (h p hp)⟩
theorem tok (x : Fm s₀ L cs m cm Γ s) (tk : Nat) : Fm s₀ L cs m cm Γ { s with toks := tk } := x.evo (s' := { s with toks := tk }) (Evo.kp fun _ _ e => e)

theorem stL (x : Fm s₀ L cs m cm Γ s) {h' : Heap} {m' : Str → Option Value} {tk : Nat} (hn : h'.Ns L m') (hs : Heap.SameBut L s.heap h') : Fm s₀ L cs m' cm Γ { s with heap := h', toks := tk } :=
  ⟨x.wd, ⟨x.ev.os, fun b o hb h65 e => hs.extBut b o (fun h => Nat.lt_irrefl _ (Nat.lt_of_lt_of_le (h ▸ Heap.lt_size e) x.fresh)) (x.ev.keep b o hb h65 e), x.ev.gens, fun t => (x.ev.tab t).keeps
      (fun o e => hs.extBut _ o (fun h => absurd x.big (by rw [← h]; decide)) e) fun o e => hs.extBut _ o (fun h => absurd x.big (by rw [← h]; decide)) e⟩,
    hn, fun n c h => (x.cell n c h).sameBut hs (Nat.ne_of_gt (x.above n c (mem_of_lookup h))), x.fresh, x.apart, x.above,
    fun p hp => (x.ls p hp).extBut hs.extBut fun h => isList_not_ns (h ▸ x.ls p hp) x.ns⟩
theorem stC (x : Fm s₀ L cs m cm Γ s) {n : Str} {c : Addr} {v : Value} {h' : Heap} {tk : Nat} (hc : cs.lookup n = some c) (hc' : h'.IsCell c (some v)) (hs : Heap.SameBut c s.heap h') :
    Fm s₀ L cs m (fun y => if y = n then some v else cm y) Γ { s with heap := h', toks := tk } := by
  have hLc := x.above n c (mem_of_lookup hc)
  refine ⟨x.wd, ⟨x.ev.os, fun b o hb h65 e => hs.extBut b o (fun h => Nat.lt_irrefl _ (Nat.lt_trans (Nat.lt_of_lt_of_le (h ▸ Heap.lt_size e) x.fresh) hLc)) (x.ev.keep b o hb h65 e), x.ev.gens, fun t => (x.ev.tab t).keeps
      (fun o e => hs.extBut _ o (fun h => absurd (x.cbig hc) (by rw [← h]; decide)) e) fun o e => hs.extBut _ o (fun h => absurd (x.cbig hc) (by rw [← h]; decide)) e⟩,
    x.ns.sameBut hs (Nat.ne_of_lt hLc), fun k c' hk' => ?_, x.fresh, x.apart, x.above, fun p hp => (x.ls p hp).extBut hs.extBut fun h => isList_not_cell (h ▸ x.ls p hp) (x.cell n c hc)⟩
  by_cases hkn : k = n
  · subst hkn
    rw [hc] at hk'; cases hk'
    simpa using hc'
  · rw [if_neg hkn]
    exact (x.cell k c' hk').sameBut hs fun e => hkn (name_of_addr x.apart (mem_of_lookup hk') (e ▸ mem_of_lookup hc))
/-- a change at C, an address that s' did not have -/
theorem but (y : Fm s₀ L cs m cm Γ s') {C : Addr} {m₁ cm₁} {Γ₁} {s₁ : Shared} (x : Fm s₀ L cs m₁ cm₁ Γ₁ s₁) (hC : s₁.heap.get? C = none) (hCb : @LT.lt Nat _ 111 C) {h' : Heap} {tk : Nat} (hs : Heap.ExtBut C s'.heap h') (hls : ∀ p ∈ Γ, p.1 ≠ C) :
    Fm s₀ L cs m cm Γ { s' with heap := h', toks := tk } := by
  have lt : ∀ {b o}, s₁.heap.get? b = some o → b ≠ C := fun e h => by rw [h, hC] at e; cases e
  have hLC : L ≠ C := let ⟨_, _, _, e, _⟩ := x.ns; lt e
  refine ⟨y.wd, ⟨y.ev.os, fun b o hb h65 e => hs b o (fun h => ?_) (y.ev.keep b o hb h65 e), y.ev.gens, fun t => (y.ev.tab t).keeps
      (fun o e => hs _ o (fun h => absurd hCb (by rw [← h]; decide)) e) fun o e => hs _ o (fun h => absurd hCb (by rw [← h]; decide)) e⟩,
    y.ns.at' fun o e => hs _ o hLC e, fun n c h => (let ⟨o, e, d⟩ := y.cell n c h; ⟨o, hs _ o (let ⟨_, e, _⟩ := x.cell n c h; lt e) e, d⟩), y.fresh, y.apart, y.above, fun p hp => (y.ls p hp).extBut hs (hls p hp)⟩
  exact lt (x.ev.keep b o hb h65 e) h
theorem ne (x : Fm s₀ L cs m cm Γ s) {D : Addr} {its : Array Value} (hD : s.heap.IsList D its) : D ≠ L := fun h => isList_not_ns hD (h ▸ x.ns)
theorem neC (x : Fm s₀ L cs m cm Γ s) {D : Addr} {its : Array Value} (hD : s.heap.IsList D its) {n c} (hc : cs.lookup n = some c) : D ≠ c := fun h => isList_not_cell hD (h ▸ x.cell n c hc)
/-- a change of a list that the call made -/
theorem stD (x : Fm s₀ L cs m cm Γ s) {D : Addr} {its : Array Value} (hD : s.heap.IsList D its) (hnew : s₀.heap.objs.size ≤ D) (hls : ∀ p ∈ Γ, p.1 ≠ D) {h' : Heap} {tk : Nat} (hs : Heap.ExtBut D s.heap h') :
    Fm s₀ L cs m cm Γ { s with heap := h', toks := tk } := by
  have hDb : @LT.lt Nat _ 111 D := Nat.lt_of_lt_of_le x.wd.size hnew
  refine ⟨x.wd, ⟨x.ev.os, fun b o hb h65 e => hs b o (fun h => ?_) (x.ev.keep b o hb h65 e), x.ev.gens, fun t => (x.ev.tab t).keeps
      (fun o e => hs _ o (fun h => absurd hDb (by rw [← h]; decide)) e) fun o e => hs _ o (fun h => absurd hDb (by rw [← h]; decide)) e⟩,
    x.ns.at' fun o e => hs _ o (fun h => isList_not_ns hD (h ▸ x.ns)) e, fun n c h => (let ⟨o, e, d⟩ := x.cell n c h; ⟨o, hs _ o (fun q => isList_not_cell hD (q ▸ x.cell n c h)) e, d⟩), x.fresh, x.apart, x.above, fun p hp => (x.ls p hp).extBut hs (hls p hp)⟩
  exact absurd (h ▸ Heap.lt_size e) (Nat.not_lt.mpr hnew)
end Fm

section
variable {w : World} {A : Around} {E : Value → Shared → Prop} {s s₀ : Shared} {env : Env} {L : Addr} {cs : List (Str × Addr)} {m cm : Str → Option Value} {Γ : List (Addr × Array Value)}

theorem nmL {x : Str} {pos : Pos} {v : Value} {Q : Value → Shared → Prop} (F : Fm s₀ env.locals cs m cm Γ s) (hv : m x = some v) (h : Q v s)
    (hk : env.scope.kind = .function := by rfl) (hl : env.kindOf x = some .local := by rfl) (hd : (x == ("__debug__" : Str)) = false := by decide) :
    wpAny (model prg w) A (eval (.Name x pos) env) Q E s := wpAny_Name (wpAny_loadName_local hk hl F.ns hv h) hd
theorem nmN {x : Str} {pos : Pos} {v : Value} {m : Str → Option Value} {Q : Value → Shared → Prop} (F : s.heap.Ns env.locals m) (hv : m x = some v) (h : Q v s)
    (hk : env.scope.kind = .function := by rfl) (hl : env.kindOf x = some .local := by rfl) (hd : (x == ("__debug__" : Str)) = false := by decide) :
    wpAny (model prg w) A (eval (.Name x pos) env) Q E s := wpAny_Name (wpAny_loadName_local hk hl F hv h) hd
theorem nmC {x : Str} {pos : Pos} {c : Addr} {v : Value} {Q : Value → Shared → Prop} (F : Fm s₀ L cs m cm Γ s) (hc : env.cells.lookup x = some c) (hcs : cs.lookup x = some c) (hv : cm x = some v) (h : Q v s)
    (hk : env.scope.kind = .function := by rfl) (hl : env.kindOf x = some .cell := by rfl) (hd : (x == ("__debug__" : Str)) = false := by decide) :
    wpAny (model prg w) A (eval (.Name x pos) env) Q E s := wpAny_Name (wpAny_loadName_cell hk hl hc (hv ▸ F.cell x c hcs) h) hd

theorem storeL {x : Str} {v : Value} {Q : Unit → Shared → Prop} (F : Fm s₀ env.locals cs m cm Γ s)
    (h : ∀ s', Heap.SameBut env.locals s.heap s'.heap → Fm s₀ env.locals cs (fun y => if y = x then some v else m y) cm Γ s' → EvoB [env.locals] s s' → Q () s')
    (hk : env.scope.kind = .function := by rfl) (hl : env.kindOf x = some .local := by rfl) : wpAny (model prg w) A (storeName env x v) Q E s :=
  wpAny_storeName_local hl F.ns (fun _ hn hs => h _ hs (F.stL hn hs) (EvoB.sameBut' hs F.big)) (by rw [hk]; rfl)
theorem storeC {x : Str} {c : Addr} {v : Value} {Q : Unit → Shared → Prop} (F : Fm s₀ L cs m cm Γ s) (hc : env.cells.lookup x = some c) (hcs : cs.lookup x = some c)
    (h : ∀ s', Heap.SameBut c s.heap s'.heap → Fm s₀ L cs m (fun y => if y = x then some v else cm y) Γ s' → EvoB [c] s s' → Q () s')
    (hk : env.scope.kind = .function := by rfl) (hl : env.kindOf x = some .cell := by rfl) : wpAny (model prg w) A (storeName env x v) Q E s :=
  wpAny_storeName_cell hk hl hc (F.cell x c hcs) fun _ hc' hs => h _ hs (F.stC (tk := s.toks) hcs hc' hs) (EvoB.sameBut' (tk := s.toks) hs (F.cbig hcs))
end

/-- the block of a call of the k-th statement's function -/
def fEnv (k : Nat) (L a c : Addr) : Env := newEnv (fScope (top k)) L mainGlobals (cellsFrom (L + 1) (fScope (top k)).names []) (fName (top k) ++ ".<locals>.") (some a) (.ref c) none builtinsNs

theorem enter (k : Nat) {a c : Addr} {w : World} {A : Around} {s : Shared} {R : Result → Shared → Prop} {vals : List Value} {binds : List (Str × Value)}
    (W : Wd s.heap) (hA : A.depth < recursionLimit) (hf : FnIs k a c s.heap)
    (hbind : ∀ pm doc, bindArgs (Calls.docDef (fName (top k)) (fPar (top k)) (fBody (top k)) (fScope (top k)) pm (.ref c) doc) ⟨vals, []⟩ = pure binds)
    (hkind : (binds.all fun y => (fScope (top k)).names.lookup y.1 == some .local || (fScope (top k)).names.lookup y.1 == some .cell) = true)
    (h : ∀ s₁, Fm s s.heap.objs.size (cellsFrom (s.heap.objs.size + 1) (fScope (top k)).names []) (bindL (fEnv k s.heap.objs.size a c).kindOf binds fun _ => none) (bindC (fEnv k s.heap.objs.size a c).kindOf binds fun _ => none) [] s₁ →
      wpAny (model prg w) (A.deeper (fEnv k s.heap.objs.size a c)) (execs (fBody (top k)) (fEnv k s.heap.objs.size a c))
        (fun f s' => R (.ok (.ret (match f with | .ret v => v | _ => .none))) s') (fun _ _ => False) s₁)
    (hco : (fScope (top k)).isCoroutine = false := by rfl) (hgen : (fScope (top k)).isGenerator = false := by rfl) (hk : (fScope (top k)).kind = .function := by rfl) :
    codeAny (model prg w) A (.call (.ref a) ⟨vals, []⟩) R s := by
  obtain ⟨o, pm, doc, ho, hd, hc⟩ := hf
  refine codeAny_call_cells hA ho hd W.nolimit hc rfl (hbind pm doc) rfl (kindsX hkind _) (fun s₁ x => ?_) hco hgen hk
  refine wpAny_mono (h s₁ ⟨W, ?_, x.toInCall.ns, x.cell, Nat.le_refl _, x.apart, x.above, fun _ hp => nomatch hp⟩) (fun _ _ h => h) fun _ _ h => h.elim
  exact Evo.keeps x.done

theorem intsGet {vs : List Value} {ns : List Int} (h : IntsAre vs ns) {i : Nat} (hi : i < ns.length) : ∃ t, vs[i]? = some (.int (ns.getD i 0) t) := by
  have hl := h.length
  have hv : i < vs.length := by omega
  obtain ⟨k, t, e, hk⟩ := IntsAre.at h i vs[i] (List.getElem?_eq_getElem _)
  exact ⟨t, by rw [List.getElem?_eq_getElem hv, e, List.getD_eq_getElem?_getD, hk]; rfl⟩

/-- a test on the int, a function of the int -/
def intP (pz : Int → Bool) : Value → Bool | .int k _ => pz k | _ => false
def intF (f : Int → Int) : Value → Value → Prop := fun v y => ∀ k t, v = .int k t → ∃ u, y = .int (f k) u
theorem intF_mk {f : Int → Int} {k : Int} {t u : Tok} {y : Value} (h : y = .int (f k) u) : intF f (.int k t) y := fun k' t' e => by cases e; exact ⟨u, h⟩

theorem pairInts {pz : Int → Bool} {f : Int → Int} : ∀ {vs : List Value} {ks : List Int} {ys : List Value}, IntsAre vs ks → Paired (intF f) (vs.filter (intP pz)) ys → IntsAre ys ((ks.filter pz).map f) := by
  intro vs ks ys h
  induction h generalizing ys with
  | nil => intro q; cases q; exact .nil
  | cons k t h ih =>
    intro q
    rw [List.filter_cons] at q ⊢
    cases hk : pz k with
    | false =>
      rw [if_neg (by simp [intP, hk])] at q
      rw [if_neg (by simp)]
      exact ih q
    | true =>
      rw [if_pos (by simp [intP, hk])] at q
      rw [if_pos (by simp)]
      cases q with
      | cons hy q =>
        obtain ⟨u, rfl⟩ := hy k t rfl
        exact .cons _ _ (ih q)

section
variable {w : World} {A : Around} {E : Value → Shared → Prop} {s : Shared}

theorem itemL {value slice : PySem.Expr} {l : Addr} {items : Array Value} {k : Int} {u : Tok} {v : Value} {Q : Value → Shared → Prop}
    (hl : s.heap.IsList l items) (h0 : 0 ≤ k) (hhi : k < 2 ^ 63) (hx : items[k.toNat]? = some v) (h : Q v s)
    (hs : subscripted slice false (.ref l) (.int k u) = operate [.ref l, .int k u] (getItem (.ref l) (.int k u)) := by with_unfolding_all rfl) :
    wpAny (model prg w) A (subscriptTail value slice (.ref l) (.int k u)) Q E s :=
  tail_any hl.typeIs slot_list_getitem.lookup (wpAny_getItem_list hl h0 hhi hx h) hs

theorem fdivN {a b : Int} {t u : Tok} {Q : Value → Shared → Prop} (h0 : 0 < b) (h1 : b < 1073741824) (h : Q (.int (a.fdiv b) s.toks) { s with toks := s.toks + 1 }) : wpAny (model prg w) A (binaryOp .FloorDiv (.int a t) (.int b u)) Q E s :=
  AutoIntOps.floordiv_1 (by simp; omega) (by rw [PyProof.noPylong_small (by omega)]; decide) h
theorem fmodN {a b : Int} {t u : Tok} {Q : Value → Shared → Prop} (h0 : 0 < b) (h : Q (.int (a.fmod b) s.toks) { s with toks := s.toks + 1 }) : wpAny (model prg w) A (binaryOp .Mod (.int a t) (.int b u)) Q E s :=
  AutoIntOps.mod_1 (by simp; omega) h
theorem pow2N {k : Int} {t u : Tok} {Q : Value → Shared → Prop} (h0 : 0 ≤ k) (h1 : k < 64) (h : Q (.int (2 ^ k.toNat) s.toks) { s with toks := s.toks + 1 }) : wpAny (model prg w) A (binaryOp .Pow (.int 2 t) (.int k u)) Q E s := by
  by_cases hz : k = 0
  · subst hz
    exact AutoIntOps.pow_0 h0 rfl h
  · refine AutoIntOps.pow_4 h0 (by simpa using hz) (by decide) (by decide) ?_ h
    have e : Builtin.Int.intBits 2 = 2 := by decide +kernel
    rw [e]
    unfold Builtin.Int.intTooBig
    have e2 : (130 : Int) ≤ bitsLine := by decide +kernel
    simp only [decide_eq_true_eq]; omega

theorem range1 {n : Int} {t : Tok} {Q : Value → Shared → Prop} (h : ∀ r s' t' v', Evo s s' → IsRange s'.heap r 0 n 1 t' t v' → Q (.ref r) s') : wpAny (model prg w) A (call (.type "range") [.int n t]) Q E s :=
  call_range_1 (h _ _ _ _ (Evo.kp fun _ _ e => Heap.get?_push_of_some _ e) (IsRange.new ..))
theorem range2 {a b : Int} {t u : Tok} {Q : Value → Shared → Prop} (h : ∀ r s' v', Evo s s' → IsRange s'.heap r a b 1 t u v' → Q (.ref r) s') : wpAny (model prg w) A (call (.type "range") [.int a t, .int b u]) Q E s :=
  call_range_2 (h _ _ _ (Evo.kp fun _ _ e => Heap.get?_push_of_some _ e) (IsRange.new ..))

theorem sumL {l : Addr} {vs : List Value} {ns : List Int} {Q : Value → Shared → Prop} (hh : A.handled = none) (hl : s.heap.IsList l vs.toArray) (hi : IntsAre vs ns)
    (h : ∀ s' tk, Evo s s' → Q (.int ns.sum tk) s') : wpAny (model prg w) A (call (.builtin "sum") [.ref l]) Q E s := by
  obtain ⟨xs, e⟩ := hi.allInts.items
  rw [e] at hl
  refine sum_intListG hh hl fun h' tk t' hk => ?_
  have e2 : ns = (xs.toList.map (·.1)) := by
    have := hi.numsOf
    rw [show vs = (intItems xs).toList from by rw [← e], nums_intItems] at this
    exact this.symm
  have := h _ t' (Evo.kp (tk := tk) hk)
  rw [preSum_eq, List.take_of_length_le (by simp)]; rw [e2] at this; exact this
end

theorem Air.deep {A : Around} (h : Air A) (env : Env) : (A.deeper env).handled = none := h.handled

/-- the k-th binary place -/
def bit (a : Int) (k : Nat) : Bool := (a.fdiv (2 ^ k)).fmod 2 == 1
def worthF (ws : List Int) (one : Int) : Int := ((([0, 1, 2, 3] : List Int).filter fun k => bit one k.toNat).map fun k => ws.getD k.toNat 0).sum

theorem worth_call {w : World} {A : Around} {s : Shared} {R : Result → Shared → Prop} {one : Int} {t : Tok} {aw : Addr} {ws : List Value} {wi : List Int}
    (W : Wd s.heap) (hA : Air A) (hl : s.heap.IsList aw ws.toArray) (hi : IntsAre ws wi) (h4 : wi.length = 4)
    (h : ∀ s' tk, Evo s s' → R (.ok (.ret (.int (worthF wi one) tk))) s') :
    codeAny (model prg w) A (.call (.ref 89) ⟨[.ref aw, .int one t], []⟩) R s := by
  refine enter 9 W (by have := hA.depth; omega) W.worth (binds := [("weights", .ref aw), ("one", .int one t)]) (fun _ _ => rfl) rfl (fun s₁ F => ?_)
  replace F := F.add (isList_evo W.tab hl F.ev)
  refine wpAny_execs_cons ?_
  refine wpAny_Return_some ?_
  refine callB F.W (by decide) bi_sum ?_
  refine wpAny_items_cons ?_
  refine lcE (intP fun k => bit one k.toNat) (intF fun k => wi.getD k.toNat 0) (by with_unfolding_all rfl) (by decide) rfl (by decide) rfl ?_
  refine callT F.W (by decide) bi_range ?_
  refine wpAny_items_cons ?_
  refine wpAny_Constant_int ?_
  refine wpAny_items_nil ?_
  replace F := F.tok (s₁.toks + 1)
  refine range1 fun r s₂ t' v' ev₂ hr => ?_
  replace F := F.evo ev₂
  refine src_range (n := 4) (hA.deep _) F.W hr (by decide) (by decide) (by decide) ?_ ?_ ?_
  · intro C i t s₃ m₃ E' hC hi4 hn hm ev
    have F₃ := F.evo ev
    refine wpAny_tests_one ?_
    refine wpAny_isTrue_Compare1 ?_
    refine wpAny_BinOp ?_
    refine wpAny_BinOp ?_
    refine nmC F₃ rfl rfl rfl ?_
    refine wpAny_BinOp ?_
    refine wpAny_Constant_int ?_
    refine nmN (hn : _) hm ?_
    refine pow2N (by omega) (by omega) ?_
    refine fdivN (Int.pow_pos (by decide)) (by have e : (0 + (i : Int)).toNat = i := by omega
                                               rw [e]; rcases (by omega : i = 0 ∨ i = 1 ∨ i = 2 ∨ i = 3) with rfl | rfl | rfl | rfl <;> decide) ?_
    refine wpAny_Constant_int ?_
    refine fmodN (by decide) ?_
    refine wpAny_Constant_int ?_
    refine eq_int ?_
    refine wpAny_truthy_bool ?_
    exact ⟨rfl, Evo.kp fun _ _ e => e⟩
  · intro C i t s₃ m₃ E' hC hi4 _ hn hm ev
    have F₃ := F.evo ev
    refine Subscript_ ?_
    refine nmC F₃ rfl rfl rfl ?_
    refine nmN (hn : _) hm ?_
    obtain ⟨t', e⟩ := intsGet hi (by omega : i < wi.length)
    refine itemL (F₃.ls _ (List.mem_cons_self ..)) (by omega) (by omega) (v := .int (wi.getD i 0) t') (by
      rw [show (0 + (i : Int)).toNat = i by omega, ← e]; simp) ?_
    exact ⟨intF_mk (by rw [show (0 + (i : Int)).toNat = i by omega]), Evo.kp fun _ _ e => e⟩
  · intro D C s' m' ys vs hD hC hDC hCb hn hpl hvs hP ev h' hs'
    have hl' : (({ s' with heap := h' } : Shared)).heap.IsList D ys := (hpl.extBut hs'.extBut hDC).isList
    have ev' : Evo s₂ { s' with heap := h' } := ev.nsC hC hCb hs'
    refine wpAny_items_nil ?_
    have hys := pairInts hvs hP
    refine sumL (vs := ys.toList) (hA.deep _) hl' hys fun s₅ tk ev₅ => ?_
    exact h s₅ tk ((F.ev.trans ev').trans ev₅)
end Mine
end

section
open PySem PySem.W PyProof.Rows
set_option Elab.async false
set_option maxRecDepth 100000
namespace Mine
section
variable {w : World} {A : Around} {E : Value → Shared → Prop} {s : Shared} {env : Env}

/-- for x in ..: a loop that goes to its end -/
theorem forX {x : Str} {px pos : Pos} {iter : PySem.Expr} {body : List Stmt} {Q : Flow → Shared → Prop}
    (h : wpAny (model prg w) A (eval iter env) (fun xv s₁ => wpAny (model prg w) A (pyIter xv) (fun it s₂ => ∃ (I : Addr) (fp wr wb : List Addr) (n : Nat) (P : Nat → Value → Prop) (St : Nat → Heap → Prop) (inv : Nat → Shared → Prop), it = .ref I ∧ (∀ A' : Around, A'.handled = none → Walks prg w A' I fp wr n P St) ∧ St 0 s₂.heap ∧ inv 0 s₂ ∧
      (∀ (i : Nat) (s : Shared) (h' : Heap) (tk : Nat), inv i s → (∀ b o, b ∉ wr → s.heap.get? b = some o → h'.get? b = some o) → inv i { s with heap := h', toks := tk }) ∧
      (∀ b ∈ fp, b ∉ wb) ∧ 65 ∉ fp ∧
      (∀ i v s E', i < n → P i v → inv i s → wpAny (model prg w) A (storeName env x v) (fun _ s₃ => wpAny (model prg w) A (execs body env) (fun f s₄ => (f = .next ∧ inv (i + 1) s₄ ∧ EvoB wb s s₄)) E' s₃) E' s) ∧
      (∀ s, inv n s → Q .next s)) E s₁) E s) (hh : A.handled = none)
    (hs : ∀ x, foldedSetIterable iter env x = pure x := by intro _; rfl) (ht : ∀ it v, letOwnedTupleGo (.Name x px) it v = pure () := by intro _ _; rfl) :
    wpAny (model prg w) A (exec (.For (.Name x px) iter body [] pos) env) Q E s := by
  refine wpAny_For (wpAny_mono h (fun xv s₁ h₁ => wpAny_mono h₁ (fun it s₂ h₂ => ?_) fun _ _ e => e) fun _ _ e => e) hs
  obtain ⟨I, fp, wr, wb, n, P, St, inv, rfl, W, hst, hi, hstab, hfw, hfp5, hbody, hend⟩ := h₂
  refine codeAny_forLoop_any (fun k s' => ∃ i, i ≤ n ∧ k = n - i ∧ St i s'.heap ∧ inv i s') ?_ n ⟨0, Nat.zero_le _, rfl, hst, hi⟩
  rintro k s' ⟨i, hin, rfl, hst', hi'⟩
  by_cases hlt : i < n
  · refine (W _ hh).item i _ _ _ hlt hst' fun v h₁ tk₁ hPv hst₁ hk₁ => ?_
    dsimp only
    refine wpAny_of_eq (ht _ _) (wpAny_assign_Name (wpAny_mono (hbody i v _ _ hlt hPv (hstab i _ _ tk₁ hi' hk₁)) (fun _ s₃ h₃ => wpAny_mono h₃ (fun f s₄ h₄ => ?_) fun _ _ e => e) fun _ _ e => e))
    obtain ⟨rfl, hi₄, ev⟩ := h₄
    exact ⟨n - (i + 1), by omega, i + 1, hlt, rfl, (W _ hh).frame _ _ _ hst₁ fun b hb o e => ev.keep b o (hfw b hb) (fun h => hfp5 (h ▸ hb)) e, hi₄⟩
  · have hin' : i = n := by omega
    subst hin'
    refine (W _ hh).done _ _ _ hst' fun h₁ tk₁ hk₁ => ?_
    exact wpAny_execs_nil (hend _ (hstab i _ _ tk₁ hi' hk₁))

theorem callAppend {o elt : PySem.Expr} {apos pos : Pos} {Q : Value → Shared → Prop}
    (h : wpAny (model prg w) A (eval o env) (fun ov s₁ => ∃ D its, ov = .ref D ∧ PlainL s₁.heap D its ∧
      wpAny (model prg w) A (eval elt env) (fun y s₂ => wpAny (model prg w) A (call (.builtin "list.append") [.ref D, y]) Q E s₂) E s₁) E s)
    (hbase : attributeBase o "append" env (eval o env) = eval o env := by with_unfolding_all rfl)
    (hfew : ((backTo pos (starEach [elt] env)).all (fun x => !x.1) && (backToKw pos (keywordEach [] env)).all (fun x => x.1.isSome)
      && decide (([elt] : List PySem.Expr).length + ([] : List Keyword).length + (if ([] : List Keyword).isEmpty then 0 else 1) < 30)) = true := by with_unfolding_all rfl)
    (hline : (apos.endLine == pos.line) = true := by with_unfolding_all rfl)
    (htrees : backTo pos (starEach [elt] env) = [(false, eval elt env)] := by with_unfolding_all rfl) :
    wpAny (model prg w) A (eval (.Call (.Attribute o "append" apos) [elt] [] pos) env) Q E s :=
  wpAny_Call_append hbase hfew hline htrees h

theorem appendP {l : Addr} {items : Array Value} {x : Value} {Q : Value → Shared → Prop} (hl : PlainL s.heap l items)
    (hQ : ∀ h', PlainL h' l (items.push x) → Heap.SameBut l s.heap h' → Q .none { s with heap := h' }) (hsz : items.size ≤ sizeLine) :
    wpAny (model prg w) A (call (.builtin "list.append") [.ref l, x]) Q E s := by
  obtain ⟨⟨cl, di, da, sl⟩, n, ho, hc, hdi, hd⟩ := hl
  simp only at hc hdi hd
  subst hc hdi hd
  obtain ⟨n', hd'⟩ := Obj.data_mapSeq (o := ⟨.type "list", none, .seq items n, sl⟩) rfl (·.push x)
  refine wpAny_call_entry slot_list_append ⟨_, ho, rfl⟩ entry_list_append ?_ (args_list_append _ _)
  show wpAny _ _ (updateSeq l (·.push x) >>= fun _ => ret .none) _ _ s
  refine wpAny_bind ?_
  refine wpAny_updateSeq ho rfl (wpAny_pure ⟨.none, rfl, hQ _ ?_ (Heap.SameBut.update ..)⟩)
  exact ⟨_, n', Heap.get?_update_self _ ho (Obj.isFreed_of_seq hd'), (Obj.cls_mapSeq ..).trans rfl, rfl, hd'⟩
end

theorem p2 {i : Nat} (h : i < 4) : 0 < (2 : Int) ^ i ∧ (2 : Int) ^ i ≤ 8 := by
  rcases (by omega : i = 0 ∨ i = 1 ∨ i = 2 ∨ i = 3) with rfl | rfl | rfl | rfl <;> decide
theorem fm2 (a : Int) : 0 ≤ a.fmod 2 ∧ a.fmod 2 ≤ 1 := by
  have h1 := Int.fmod_nonneg_of_pos a (show (0 : Int) < 2 by decide)
  have h2 := Int.fmod_lt_of_pos a (show (0 : Int) < 2 by decide)
  omega

/-- the one of a set of places whose i-th and j-th place are exchanged, or the i-th turned -/
def chgF (i j : Nat) (one : Int) : Int :=
  if i = j then one + 2 ^ i - 2 * 2 ^ i * (one.fdiv (2 ^ i)).fmod 2
  else one + ((one.fdiv (2 ^ j)).fmod 2 - (one.fdiv (2 ^ i)).fmod 2) * (2 ^ i - 2 ^ j)

theorem changed_call {w : World} {A : Around} {s : Shared} {R : Result → Shared → Prop} {i j : Nat} {ti tj : Tok} {a : Addr} {us : List Value} {ks : List Int}
    (W : Wd s.heap) (hA : Air A) (hl : s.heap.IsList a us.toArray) (hi : IntsAre us ks) (h64 : ks.length < 64) (hi4 : i < 4) (hj4 : j < 4)
    (h : ∀ s' D vs' ns', Evo s s' → s'.heap.IsList D (List.toArray vs') → IntsAre vs' ns' → ns'.Perm (ks.map (chgF i j)) → ns'.Pairwise (· ≤ ·) → R (.ok (.ret (.ref D))) s') :
    codeAny (model prg w) A (.call (.ref 106) ⟨[.ref a, .int i ti, .int j tj], []⟩) R s := by
  refine enter 12 W (by have := hA.depth; omega) W.changed (binds := [("sets", .ref a), ("i", .int i ti), ("j", .int j tj)]) (fun _ _ => rfl) rfl (fun s₁ F => ?_)
  replace F := F.add (isList_evo W.tab hl F.ev)
  refine wpAny_execs_cons ?_
  refine wpAny_Assign_Name ?_
  refine wpAny_List ?_
  refine wpAny_items_nil ⟨by decide, ?_⟩
  generalize hs₂ : ({ s₁ with heap := s₁.heap.push { cls := .type "list", data := .seq ([] : List Value).toArray } } : Shared) = s₂
  have ev₂ : Evo s₁ s₂ := hs₂ ▸ (Evo.kp (tk := s₁.toks) fun _ _ e => Heap.get?_push_of_some _ e)
  have hD : PlainL s₂.heap s₁.heap.objs.size #[] := hs₂ ▸ ⟨_, _, Heap.get?_push_size _ rfl, rfl, rfl, rfl⟩
  generalize hD' : s₁.heap.objs.size = D at hD
  have hDn : s.heap.objs.size ≤ D := hD' ▸ Nat.le_of_lt (Nat.lt_of_le_of_lt F.fresh F.ns.lt)
  clear hs₂
  replace F := F.evo ev₂
  clear ev₂ hD' s₁
  have haD : a ≠ D := fun e => by obtain ⟨_, e', _⟩ := hl; exact absurd (Heap.lt_size e') (by rw [e]; exact Nat.not_lt.mpr hDn)
  refine storeL F fun s₃ hs₃ F₃ _ => ?_
  replace hD := hD.extBut hs₃.extBut (F.ne hD.isList)
  refine wpAny_execs_cons ?_
  refine forX (nmL F₃ rfl ?_) (hA.deep _)
  refine wpAny_pyIter_list (F₃.ls _ (List.mem_cons_self ..)) ?_
  have hI : s₃.heap.get? s₃.heap.objs.size = none := by
    cases q : s₃.heap.get? s₃.heap.objs.size with
    | none => rfl
    | some o => exact absurd (Heap.lt_size q) (Nat.lt_irrefl _)
  have hIb : @LT.lt Nat _ 111 s₃.heap.objs.size := F₃.W.size
  have old : ∀ {b o}, s₃.heap.get? b = some o → b ≠ s₃.heap.objs.size := fun e h => by rw [h, hI] at e; cases e
  have haI : a ≠ s₃.heap.objs.size := old (F₃.ls _ (List.mem_cons_self ..)).choose_spec.1
  have hDI : D ≠ s₃.heap.objs.size := old hD.choose_spec.choose_spec.1
  have hLI : s.heap.objs.size ≠ s₃.heap.objs.size := old F₃.ns.choose_spec.choose_spec.choose_spec.1
  have h5 : a ≠ 65 := isList_ne W.tab hl
  generalize hg : ({ s₃ with heap := s₃.heap.push { cls := .type "list_iterator", data := .fields #[.ref a, .int 0 0] } } : Shared) = s₄
  have ev₄ : Evo s₃ s₄ := hg ▸ (Evo.kp (tk := s₃.toks) fun _ _ e => Heap.get?_push_of_some _ e)
  have hit : s₄.heap.IsListIter s₃.heap.objs.size a 0 := hg ▸ ⟨_, Heap.get?_push_size _ rfl, rfl, rfl⟩
  refine ⟨s₃.heap.objs.size, [s₃.heap.objs.size, a], [s₃.heap.objs.size], [s.heap.objs.size, D], us.toArray.size, _, _,
    fun k s' => ∃ m ys, Fm s s.heap.objs.size (cellsFrom (s.heap.objs.size + 1) (fScope (top 12)).names []) m (bindC (fEnv 12 s.heap.objs.size 106 105).kindOf [("sets", .ref a), ("i", .int i ti), ("j", .int j tj)] fun _ => none) [(a, us.toArray)] s' ∧
      m "changed" = some (.ref D) ∧ m "i" = some (.int i ti) ∧ m "j" = some (.int j tj) ∧ PlainL s'.heap D ys ∧ IntsAre ys.toList ((ks.take k).map (chgF i j)),
    rfl, fun A' hA' => Walks.list hA' _ a haI us.toArray, ⟨hit, isList_evo F₃.W.tab (F₃.ls _ (List.mem_cons_self ..)) ev₄⟩,
    ⟨_, #[], F₃.evo ev₄, rfl, rfl, rfl, ?_, .nil⟩, ?_, ?_, ?_, ?_, ?_⟩
  · obtain ⟨o, n, e, r⟩ := hD
    exact ⟨o, n, ev₄.keep _ _ (fun h => nomatch h) (fun h => absurd F₃.wd.size (by rw [h] at hDn; exact Nat.not_lt.mpr (Nat.le_trans hDn (by decide)))) e, r⟩
  · rintro k s₅ h' tk ⟨m, ys, F, h1, h2, h3, hD', hys⟩ hk
    have hs : Heap.ExtBut s₃.heap.objs.size s₅.heap h' := fun b o hb e => hk b o (fun hm => hb (by rw [List.mem_singleton] at hm; exact hm)) e
    exact ⟨m, ys, F.but F₃ hI hIb hs (fun p hp => by rw [List.mem_singleton] at hp; rw [hp]; exact haI), h1, h2, h3, hD'.extBut hs hDI, hys⟩
  · intro b hb
    rcases List.mem_cons.mp hb with rfl | hb
    · intro hm
      rcases List.mem_cons.mp hm with e | hm
      · exact hLI e.symm
      · rw [List.mem_singleton] at hm; exact hDI hm.symm
    · rw [List.mem_singleton] at hb; subst hb
      intro hm
      rcases List.mem_cons.mp hm with e | hm
      · exact F₃.ne (F₃.ls _ (List.mem_cons_self ..)) e
      · rw [List.mem_singleton] at hm; exact haD hm
  · intro hm
    rcases List.mem_cons.mp hm with e | hm
    · rw [← e] at hIb; exact absurd hIb (by decide)
    · rw [List.mem_singleton] at hm; exact h5 hm.symm
  · rintro k v s₅ E' hk hP ⟨m, ys, F, h1, h2, h3, hD', hys⟩
    obtain ⟨hp, hp8⟩ := p2 hi4
    obtain ⟨hq, hq8⟩ := p2 hj4
    have hks : k < ks.length := by
      have e1 := hi.length
      have e2 : k < us.length := by simpa using hk
      omega
    obtain ⟨t, e⟩ := intsGet hi hks
    have ev : v = .int (ks.getD k 0) t := by
      have hP' : us[k]? = some v := by simpa using hP
      rw [e] at hP'; cases hP'; rfl
    subst ev
    generalize hone : ks.getD k 0 = one at *
    refine storeL F fun s₆ hs₆ F₆ ev₆ => ?_
    replace hD' := hD'.extBut hs₆.extBut (F.ne hD'.isList)
    refine wpAny_execs_cons ?_
    refine wpAny_Assign_Name ?_
    refine wpAny_BinOp ?_
    refine wpAny_BinOp ?_
    refine nmL F₆ rfl ?_
    refine wpAny_BinOp ?_
    refine wpAny_Constant_int ?_
    refine nmL (F₆.tok _) h2 ?_
    refine pow2N (by omega) (by omega) ?_
    refine fdivN (by rw [Int.toNat_natCast]; omega) (by rw [Int.toNat_natCast]; omega) ?_
    refine wpAny_Constant_int ?_
    refine fmodN (by decide) ?_
    refine storeL (F₆.tok _) fun s₇ hs₇ F₇ ev₇ => ?_
    replace hD' := hD'.extBut (b := s.heap.objs.size) hs₇.extBut (F₆.ne hD'.isList)
    refine wpAny_execs_cons ?_
    refine wpAny_Assign_Name ?_
    refine wpAny_BinOp ?_
    refine wpAny_BinOp ?_
    refine nmL F₇ rfl ?_
    refine wpAny_BinOp ?_
    refine wpAny_Constant_int ?_
    refine nmL (F₇.tok _) h3 ?_
    refine pow2N (by omega) (by omega) ?_
    refine fdivN (by rw [Int.toNat_natCast]; omega) (by rw [Int.toNat_natCast]; omega) ?_
    refine wpAny_Constant_int ?_
    refine fmodN (by decide) ?_
    refine storeL (F₇.tok _) fun s₈ hs₈ F₈ ev₈ => ?_
    replace hD' := hD'.extBut (b := s.heap.objs.size) hs₈.extBut (F₇.ne hD'.isList)
    rw [Int.toNat_natCast] at F₇ F₈
    rw [Int.toNat_natCast] at F₈
    have evL : EvoB [s.heap.objs.size, D] s₅ s₈ :=
      (ev₆.trans ((EvoB.ofEvo (Evo.kp fun _ _ e => e)).trans (ev₇.trans ((EvoB.ofEvo (Evo.kp fun _ _ e => e)).trans ev₈)))).mono fun b hb => by
        rw [List.mem_singleton] at hb; rw [hb]; exact List.mem_cons_self ..
    have hy : ys.size ≤ sizeLine := by
      have := hys.length
      simp only [List.length_map, List.length_take, Array.length_toList] at this
      rw [show sizeLine = 16777216 from by decide]; omega
    have hDbig : @LT.lt Nat _ 111 D := Nat.lt_of_lt_of_le F₃.wd.size hDn
    have f1 := fm2 (one.fdiv (2 ^ i))
    have f2 := fm2 (one.fdiv (2 ^ j))
    have last : ∀ (tk : Nat) (y : Value) (u : Tok), y = .int (chgF i j one) u →
        ∀ h', PlainL h' D (ys.push y) → Heap.SameBut D s₈.heap h' → ∃ m ys, Fm s s.heap.objs.size (cellsFrom (s.heap.objs.size + 1) (fScope (top 12)).names []) m (bindC (fEnv 12 s.heap.objs.size 106 105).kindOf [("sets", .ref a), ("i", .int i ti), ("j", .int j tj)] fun _ => none) [(a, us.toArray)] { s₈ with heap := h', toks := tk } ∧
          m "changed" = some (.ref D) ∧ m "i" = some (.int i ti) ∧ m "j" = some (.int j tj) ∧ PlainL h' D ys ∧ IntsAre ys.toList ((ks.take (k + 1)).map (chgF i j)) := by
      rintro tk y u rfl h' hl' hs'
      refine ⟨_, ys.push _, F₈.stD hD'.isList hDn (fun p hp => by rw [List.mem_singleton] at hp; rw [hp]; exact haD) hs'.extBut, h1, h2, h3, hl', ?_⟩
      have e4 : ks[k]? = some one := by
        rw [List.getD_eq_getElem?_getD, List.getElem?_eq_getElem hks] at hone
        rw [List.getElem?_eq_getElem hks]; exact congrArg some hone
      rw [List.take_add_one, e4, List.map_append, Array.toList_push]
      exact IntsAre.append hys (.cons _ _ .nil)
    refine wpAny_execs_cons ?_
    refine wpAny_If ?_
    refine wpAny_isTrue_Compare1 ?_
    refine nmL F₈ h2 ?_
    refine nmL F₈ h3 ?_
    refine eq_int ?_
    refine wpAny_truthy_bool ?_
    by_cases hij : i = j
    · subst hij
      rw [if_pos (by simp)]
      refine wpAny_execs_cons ?_
      refine wpAny_Expr ?_
      refine callAppend ?_
      refine nmL F₈ h1 ⟨D, ys, rfl, hD', ?_⟩
      refine wpAny_BinOp ?_
      refine wpAny_BinOp ?_
      refine nmL F₈ rfl ?_
      refine wpAny_BinOp ?_
      refine wpAny_Constant_int ?_
      refine nmL (F₈.tok _) h2 ?_
      refine pow2N (by omega) (by omega) ?_
      refine add_int ?_
      refine wpAny_BinOp ?_
      refine wpAny_BinOp ?_
      refine wpAny_Constant_int ?_
      refine wpAny_BinOp ?_
      refine wpAny_Constant_int ?_
      refine nmL (F₈.tok _) h2 ?_
      refine pow2N (by omega) (by omega) ?_
      rw [Int.toNat_natCast]
      refine mul_int ?_ (.of_left (intBits_le_64 (by decide) (by decide)))
      refine nmL (F₈.tok _) rfl ?_
      refine mul_int ?_ (.of_right (intBits_le_64 (by omega) (by omega)))
      refine sub_int ?_
      refine appendP hD' (fun h' hl' hs' => ?_) hy
      refine wpAny_execs_nil (wpAny_execs_nil ?_)
      exact ⟨rfl, last _ _ _ (by rw [chgF, if_pos rfl]) h' hl' hs',
        evL.trans ((EvoB.sameBut' (s := s₈) hs' hDbig).mono fun b hb => by rw [List.mem_singleton] at hb; rw [hb]; exact List.mem_cons_of_mem _ (List.mem_cons_self ..))⟩
    · rw [if_neg (by simp only [beq_iff_eq]; omega)]
      refine wpAny_execs_cons ?_
      refine wpAny_Expr ?_
      refine callAppend ?_
      refine nmL F₈ h1 ⟨D, ys, rfl, hD', ?_⟩
      refine wpAny_BinOp ?_
      refine nmL F₈ rfl ?_
      refine wpAny_BinOp ?_
      refine wpAny_BinOp ?_
      refine nmL F₈ rfl ?_
      refine nmL F₈ rfl ?_
      refine sub_int ?_
      refine wpAny_BinOp ?_
      refine wpAny_BinOp ?_
      refine wpAny_Constant_int ?_
      refine nmL (F₈.tok _) h2 ?_
      refine pow2N (by omega) (by omega) ?_
      refine wpAny_BinOp ?_
      refine wpAny_Constant_int ?_
      refine nmL (F₈.tok _) h3 ?_
      refine pow2N (by omega) (by omega) ?_
      rw [Int.toNat_natCast, Int.toNat_natCast]
      refine sub_int ?_
      refine mul_int ?_ (.of_left (intBits_le_64 (by omega) (by omega)))
      refine add_int ?_
      refine appendP hD' (fun h' hl' hs' => ?_) hy
      refine wpAny_execs_nil (wpAny_execs_nil ?_)
      exact ⟨rfl, last _ _ _ (by rw [chgF, if_neg hij]) h' hl' hs',
        evL.trans ((EvoB.sameBut' (s := s₈) hs' hDbig).mono fun b hb => by rw [List.mem_singleton] at hb; rw [hb]; exact List.mem_cons_of_mem _ (List.mem_cons_self ..))⟩
  · rintro s₅ ⟨m, ys, F, h1, h2, h3, hD', hys⟩
    rw [show us.toArray.size = ks.length by have := hi.length; simp only [List.size_toArray]; omega, List.take_length] at hys
    refine wpAny_execs_cons ?_
    refine wpAny_Return_some ?_
    refine callB F.W (by decide) bi_sorted ?_
    refine wpAny_items_cons ?_
    refine nmL F h1 ?_
    refine wpAny_items_nil ?_
    refine sorted_ints (vs := ys.toList) hD'.isList hys (by have := hys.length; rw [List.length_map] at this; omega) fun out ns' a1 a2 a3 => ?_
    obtain ⟨e, he⟩ := sortedAll_at s₅.heap ys.toList out
    exact h _ _ out.toList ns' (F.ev.trans (Evo.kp fun _ _ => sortedAll_old)) ⟨_, he, rfl, e, rfl⟩ a1 a2 a3
end Mine
end

section
open PySem PySem.W PyProof.Rows
set_option Elab.async false
set_option maxRecDepth 100000
namespace Mine

/-- the fixed places of a call of sorted_list_difference: its frame, the caller's, the two lists that it makes -/
structure Pl where
  s₀ : Shared
  L : Addr
  Lc : Addr
  D1 : Addr
  D2 : Addr
  mc : Str → Option Value

structure Pl.Ok (p : Pl) : Prop where
  wd : Wd p.s₀.heap
  fresh : p.s₀.heap.objs.size ≤ p.L
  lc : @LT.lt Nat _ p.Lc p.s₀.heap.objs.size
  lcb : @LT.lt Nat _ 111 p.Lc
  f1 : p.s₀.heap.objs.size ≤ p.D1
  f2 : p.s₀.heap.objs.size ≤ p.D2
  ne : p.D1 ≠ p.D2

theorem Pl.Ok.cl {p : Pl} (o : p.Ok) : p.Lc ≠ p.L := fun h => absurd o.lc (by rw [h]; exact Nat.not_lt.mpr o.fresh)
theorem Pl.Ok.big {p : Pl} (o : p.Ok) : @LT.lt Nat _ 111 p.L := Nat.lt_of_lt_of_le o.wd.size o.fresh

structure Fx (p : Pl) (m : Str → Option Value) (M U : Array Value) (s : Shared) : Prop where
  ok : p.Ok
  ev : EvoB [p.Lc] p.s₀ s
  nc : s.heap.Ns p.Lc p.mc
  ns : s.heap.Ns p.L m
  d1 : s.heap.PlainList p.D1 M
  d2 : s.heap.PlainList p.D2 U

/-- an IndexError just raised -/
def Xn (p : Pl) (ctx : Value) (e : Addr) (h : Heap) : Prop :=
  p.s₀.heap.get? e = none ∧ ∃ o t, h.get? e = some o ∧ o.cls = .type "IndexError" ∧ o.data = .fields #[t, .none, ctx, .none, .bool false, .none]
/-- one that a frame has noted -/
def Xt (p : Pl) (ctx fl : Value) (e : Addr) (h : Heap) : Prop :=
  p.s₀.heap.get? e = none ∧ ∃ o vs tb ob ts, h.get? e = some o ∧ o.cls = .type "IndexError" ∧ o.data = .fields vs ∧ vs[1]? = some (.ref tb) ∧ vs[2]? = some ctx ∧
    p.s₀.heap.get? tb = none ∧ e ≠ tb ∧ h.get? tb = some ob ∧ ob.data = .fields ts ∧ ts[3]? = some fl

theorem ns_ne {h : Heap} {a b : Addr} {m} (hn : h.Ns a m) {o : Obj} {vs : Array Value} (ho : h.get? b = some o) (hd : o.data = .fields vs) : b ≠ a := by
  rintro rfl
  obtain ⟨o', _, _, e, d, _⟩ := hn
  rw [ho] at e; cases e; rw [hd] at d; cases d
theorem pl_ne {h : Heap} {a b : Addr} {its} (hn : h.PlainList a its) {o : Obj} {vs : Array Value} (ho : h.get? b = some o) (hd : o.data = .fields vs) : b ≠ a := by
  rintro rfl
  obtain ⟨n, e⟩ := hn
  rw [ho] at e; cases e; cases hd

theorem Xt.keep {p : Pl} {ctx fl : Value} {e : Addr} {h h' : Heap} (x : Xt p ctx fl e h) (k : ∀ b o, h.get? b = some o → (∃ vs, o.data = .fields vs) → h'.get? b = some o) : Xt p ctx fl e h' := by
  obtain ⟨h0, o, vs, tb, ob, ts, a1, a2, a3, a4, a5, a6, a7, a8, a9, a10⟩ := x
  exact ⟨h0, o, vs, tb, ob, ts, k _ _ a1 ⟨_, a3⟩, a2, a3, a4, a5, a6, a7, k _ _ a8 ⟨_, a9⟩, a9, a10⟩

namespace Fx
variable {p : Pl} {m : Str → Option Value} {M U : Array Value} {s : Shared}
theorem W (x : Fx p m M U s) : Wd s.heap := x.ok.wd.evoB x.ev fun b hb => by rw [List.mem_singleton] at hb; rw [hb]; exact x.ok.lcb
theorem l1 (x : Fx p m M U s) : p.D1 ≠ p.L := fun h => isList_not_ns x.d1.isList (h ▸ x.ns)
theorem l2 (x : Fx p m M U s) : p.D2 ≠ p.L := fun h => isList_not_ns x.d2.isList (h ▸ x.ns)
theorem c1 (x : Fx p m M U s) : p.D1 ≠ p.Lc := fun h => isList_not_ns x.d1.isList (h ▸ x.nc)
theorem c2 (x : Fx p m M U s) : p.D2 ≠ p.Lc := fun h => isList_not_ns x.d2.isList (h ▸ x.nc)
theorem ls (x : Fx p m M U s) {a : Addr} {items : Array Value} (hl : p.s₀.heap.IsList a items) (ha : a ≠ p.Lc) : s.heap.IsList a items :=
  hl.at fun o e => x.ev.keep a o (fun hm => ha (List.mem_singleton.mp hm)) (isList_ne x.ok.wd.tab hl) e

/-- a change that keeps what is no new record, the frames aside -/
theorem chgN (x : Fx p m M U s) {m' : Str → Option Value} {h' : Heap} {tk : Nat} (k : ∀ b o, s.heap.get? b = some o → ((∃ vs, o.data = .fields vs) → p.s₀.heap.get? b ≠ none) → b ≠ p.L → b ≠ p.Lc → h'.get? b = some o)
    (hn : h'.Ns p.L m') (kC : ∀ o, s.heap.get? p.Lc = some o → ∃ o', h'.get? p.Lc = some o' ∧ o'.data = o.data) : Fx p m' M U { s with heap := h', toks := tk } := by
  have base : ∀ b o o', p.s₀.heap.get? b = some o' → b ≠ p.Lc → s.heap.get? b = some o → h'.get? b = some o := fun b o o' hb hc e =>
    k b o e (fun _ => by rw [hb]; exact Option.some_ne_none _) (fun h => absurd (Heap.lt_size hb) (by rw [h]; exact Nat.not_lt.mpr x.ok.fresh)) hc
  have low : ∀ b : Nat, b ≤ 111 → b ≠ p.Lc := fun b hb h => absurd x.ok.lcb (by rw [← h]; exact Nat.not_lt.mpr hb)
  obtain ⟨o69, h69⟩ : ∃ o, p.s₀.heap.get? 69 = some o := let ⟨_, ⟨o, _, _, _, _, _, _, _, _, _, e, _⟩, _⟩ := x.ok.wd.tab; ⟨o, e⟩
  obtain ⟨o65, h65⟩ : ∃ o, p.s₀.heap.get? 65 = some o := let ⟨_, _, _, e⟩ := x.ok.wd.tab; ⟨_, e⟩
  refine ⟨x.ok, ⟨x.ev.os, fun b o hb h5 e => base b o o e (fun h => hb (List.mem_singleton.mpr h)) (x.ev.keep b o hb h5 e), x.ev.gens,
    fun t => (x.ev.tab t).keeps (fun o e => base _ o _ h69 (low 69 (by decide)) e) fun o e => base _ o _ h65 (low 65 (by decide)) e⟩, ?_, hn, ?_, ?_⟩
  · obtain ⟨o, es, ep, ho, hd, r⟩ := x.nc
    obtain ⟨o', ho', hd'⟩ := kC o ho
    exact ⟨o', es, ep, ho', hd'.trans hd, r⟩
  · exact x.d1.at fun o e => k _ o e (fun ⟨vs, hv⟩ => absurd rfl (pl_ne x.d1 e hv)) x.l1 x.c1
  · exact x.d2.at fun o e => k _ o e (fun ⟨vs, hv⟩ => absurd rfl (pl_ne x.d2 e hv)) x.l2 x.c2
theorem chg (x : Fx p m M U s) {h' : Heap} {tk : Nat} (k : ∀ b o, s.heap.get? b = some o → ((∃ vs, o.data = .fields vs) → p.s₀.heap.get? b ≠ none) → b ≠ p.L → b ≠ p.Lc → h'.get? b = some o)
    (kL : ∀ o, s.heap.get? p.L = some o → ∃ o', h'.get? p.L = some o' ∧ o'.data = o.data) (kC : ∀ o, s.heap.get? p.Lc = some o → ∃ o', h'.get? p.Lc = some o' ∧ o'.data = o.data) : Fx p m M U { s with heap := h', toks := tk } := by
  refine x.chgN k ?_ kC
  obtain ⟨o, es, ep, ho, hd, r⟩ := x.ns
  obtain ⟨o', ho', hd'⟩ := kL o ho
  exact ⟨o', es, ep, ho', hd'.trans hd, r⟩
theorem kp (x : Fx p m M U s) {h' : Heap} {tk : Nat} (k : ∀ b o, s.heap.get? b = some o → h'.get? b = some o) : Fx p m M U { s with heap := h', toks := tk } :=
  x.chg (fun b o e _ _ _ => k b o e) (fun o e => ⟨o, k _ o e, rfl⟩) fun o e => ⟨o, k _ o e, rfl⟩
theorem tok (x : Fx p m M U s) (tk : Nat) : Fx p m M U { s with toks := tk } := x.kp fun _ _ e => e
theorem stL (x : Fx p m M U s) {h' : Heap} {m' : Str → Option Value} {tk : Nat} (hn : h'.Ns p.L m') (hs : Heap.SameBut p.L s.heap h') : Fx p m' M U { s with heap := h', toks := tk } :=
  x.chgN (fun b o e _ hL _ => hs.extBut b o hL e) hn fun o e => ⟨o, hs.extBut _ o x.ok.cl e, rfl⟩
theorem st1 (x : Fx p m M U s) {M' : Array Value} {h' : Heap} {tk : Nat} (hn : h'.PlainList p.D1 M') (hs : Heap.SameBut p.D1 s.heap h') : Fx p m M' U { s with heap := h', toks := tk } := by
  have hDb : ∀ b : Nat, b ≤ 111 → b ≠ p.D1 := fun b hb h => absurd (Nat.lt_of_lt_of_le x.ok.wd.size x.ok.f1) (by rw [← h]; exact Nat.not_lt.mpr hb)
  exact ⟨x.ok, ⟨x.ev.os, fun b o hb h65 e => hs.extBut b o (fun h => absurd (Heap.lt_size e) (by rw [h]; exact Nat.not_lt.mpr x.ok.f1)) (x.ev.keep b o hb h65 e), x.ev.gens,
    fun t => (x.ev.tab t).keeps (fun o e => hs.extBut _ o (hDb 69 (by decide)) e) fun o e => hs.extBut _ o (hDb 65 (by decide)) e⟩,
    x.nc.sameBut hs (Ne.symm x.c1), x.ns.sameBut hs (Ne.symm x.l1), hn, x.d2.extBut hs.extBut (Ne.symm x.ok.ne)⟩
theorem st2 (x : Fx p m M U s) {M' : Array Value} {h' : Heap} {tk : Nat} (hn : h'.PlainList p.D2 M') (hs : Heap.SameBut p.D2 s.heap h') : Fx p m M M' { s with heap := h', toks := tk } := by
  have hDb : ∀ b : Nat, b ≤ 111 → b ≠ p.D2 := fun b hb h => absurd (Nat.lt_of_lt_of_le x.ok.wd.size x.ok.f2) (by rw [← h]; exact Nat.not_lt.mpr hb)
  exact ⟨x.ok, ⟨x.ev.os, fun b o hb h65 e => hs.extBut b o (fun h => absurd (Heap.lt_size e) (by rw [h]; exact Nat.not_lt.mpr x.ok.f2)) (x.ev.keep b o hb h65 e), x.ev.gens,
    fun t => (x.ev.tab t).keeps (fun o e => hs.extBut _ o (hDb 69 (by decide)) e) fun o e => hs.extBut _ o (hDb 65 (by decide)) e⟩,
    x.nc.sameBut hs (Ne.symm x.c2), x.ns.sameBut hs (Ne.symm x.l2), x.d1.extBut hs.extBut x.ok.ne, hn⟩
end Fx

/-- the two frames of the walk -/
structure Fs (p : Pl) (A : Around) (env envc : Env) : Prop where
  frames : A.frames = some [env, envc]
  hf : env.frame = some p.L
  hfc : envc.frame = some p.Lc
  hk : env.scope.kind ≠ .module
  hkc : envc.scope.kind ≠ .module
theorem Fs.mark {p : Pl} {A : Around} {env envc : Env} (x : Fs p A env envc) (v : Option Value) : Fs p (A.mark v) env envc := ⟨x.frames, x.hf, x.hfc, x.hk, x.hkc⟩

section
variable {w : World} {A : Around} {E : Value → Shared → Prop} {s : Shared} {p : Pl} {m : Str → Option Value} {M U : Array Value} {env envc : Env} {ctx fl : Value} {e : Addr}

theorem note_new {Q : Unit → Shared → Prop} (H : Fs p A env envc) (x : Fx p m M U s) (n : Xn p ctx e s.heap) (h : ∀ s', Fx p m M U s' → Xt p ctx (rawInt p.L) e s'.heap → Q () s') : wpAny (model prg w) A (noteFrame (.ref e) env) Q E s := by
  obtain ⟨h0, oe, t, he, hc, hd⟩ := n
  have heL : e ≠ p.L := ns_ne x.ns he hd
  have heC : e ≠ p.Lc := ns_ne x.nc he hd
  have FF : s.heap.FunFrames {} [env, envc] := by
    refine .cons H.hk H.hf x.ns rfl (.cons H.hkc H.hfc x.nc rfl trivial)
  unfold noteFrame
  simp only [H.hf]
  refine wpAny_bind (wpAny_field he hd (i := 1) (x := .none) rfl ?_)
  rw [if_neg (by decide)]
  refine wpAny_bind (wpAny_frameOf_fun H.frames FF H.hf fun h₁ hs₁ => ?_)
  refine wpAny_bind (wpAny_entryPlaceOf fun pl hpl => ?_)
  unfold EntryCells.newEntry newFields
  refine wpAny_bind (wpAny_newObj_type ?_ (hpl.sizeOk5 _ _ _ _ _))
  have hfm : [env, envc].filterMap (·.frame) = [p.L, p.Lc] := by simp [H.hf, H.hfc]
  rw [hfm] at hs₁
  have he₁ : h₁.get? e = some oe := (hs₁.2.1 e (by simp [heL, heC])).trans he
  have he₂ := Heap.get?_push_of_some (h := h₁) { cls := .type "traceback", dict := none, data := .fields ([Value.none, .ref p.L, .none, rawInt p.L, .none] ++ (if pl.isEmpty then List.replicate 6 Value.none else pl)).toArray } he₁
  refine wpAny_setField he₂ hd (by simp) ?_
  have hTe : h₁.objs.size ≠ e := Nat.ne_of_gt (Heap.lt_size he₁)
  have hd₃ := Obj.data_mapFields hd (·.setIfInBounds 1 (Value.ref h₁.objs.size))
  have he₃ := Heap.get?_update_self (Obj.mapFields (·.setIfInBounds 1 (Value.ref h₁.objs.size))) he₂ (Obj.isFreed_of_fields hd₃)
  have hT₃ := (Heap.get?_update_other (h₁.push { cls := .type "traceback", dict := none, data := .fields ([Value.none, .ref p.L, .none, rawInt p.L, .none] ++ (if pl.isEmpty then List.replicate 6 Value.none else pl)).toArray })
    (Obj.mapFields (·.setIfInBounds 1 (Value.ref h₁.objs.size))) (Ne.symm hTe)).trans (Heap.get?_push_size h₁ rfl)
  have keep : ∀ b o, b ≠ e → h₁.get? b = some o → ((h₁.push { cls := .type "traceback", dict := none, data := .fields ([Value.none, .ref p.L, .none, rawInt p.L, .none] ++ (if pl.isEmpty then List.replicate 6 Value.none else pl)).toArray }).update e (Obj.mapFields (·.setIfInBounds 1 (Value.ref h₁.objs.size)))).get? b = some o := fun b o hbe hb => by
    rw [Heap.get?_update_other _ _ (Ne.symm hbe)]; exact Heap.get?_push_of_some _ hb
  refine h _ (x.chg (fun b o hb hr hL hC => keep b o (fun q => ?_) ((hs₁.2.1 b (by simp [hL, hC])).trans hb)) (fun o ho => ?_) fun o ho => ?_) ?_
  · subst q; rw [he] at hb; cases hb
    exact hr ⟨_, hd⟩ h0
  · obtain ⟨sl, q⟩ := hs₁.2.2 _ o ho
    exact ⟨_, keep _ _ (Ne.symm heL) q, rfl⟩
  · obtain ⟨sl, q⟩ := hs₁.2.2 _ o ho
    exact ⟨_, keep _ _ (Ne.symm heC) q, rfl⟩
  · exact ⟨h0, _, _, h₁.objs.size, _, _, he₃, (Obj.cls_mapFields _ _).trans hc, hd₃, rfl, rfl, (Heap.get?_none_of_le (by rw [hs₁.1]; exact Nat.le_of_lt (Nat.lt_of_le_of_lt x.ok.fresh x.ns.lt))), Ne.symm hTe, hT₃, rfl, by simp⟩

theorem note_in {Q : Unit → Shared → Prop} (H : Fs p A env envc) (x : Xt p ctx (rawInt p.L) e s.heap) (h : Q () s) : wpAny (model prg w) A (noteFrame (.ref e) env) Q E s := by
  obtain ⟨h0, o, vs, tb, ob, ts, a1, a2, a3, a4, a5, a6, a7, a8, a9, a10⟩ := x
  exact wpAny_noteFrame_inFlight H.hf a1 a3 a4 a8 a9 a10 h

theorem set_fl {Q : Unit → Shared → Prop} (fr : Option Addr) (x : Fx p m M U s) (n : Xt p ctx fl e s.heap) (h : ∀ s', Fx p m M U s' → Xt p ctx (fr.elim .none fun f => rawInt f) e s'.heap → Q () s') : wpAny (model prg w) A (setFlight (.ref e) fr) Q E s := by
  obtain ⟨h0, o, vs, tb, ob, ts, a1, a2, a3, a4, a5, a6, a7, a8, a9, a10⟩ := n
  have hTL : tb ≠ p.L := ns_ne x.ns a8 a9
  have hTC : tb ≠ p.Lc := ns_ne x.nc a8 a9
  have hsz := (Array.getElem?_eq_some_iff.mp a10).1
  unfold setFlight
  refine wpAny_bind (wpAny_field a1 a3 a4 ?_)
  rw [if_pos (show (Value.ref tb != Value.none) = true from by simp)]
  refine wpAny_setField a8 a9 hsz ?_
  have hd₃ := Obj.data_mapFields a9 (·.setIfInBounds 3 (fr.elim Value.none fun f => rawInt f))
  refine h _ (x.chg (tk := s.toks) (fun b o' hb hr hL hC => ?_) (fun o' ho => ⟨o', ?_, rfl⟩) fun o' ho => ⟨o', ?_, rfl⟩) ⟨h0, o, vs, tb, _, _, ?_, a2, a3, a4, a5, a6, a7, Heap.get?_update_self _ a8 (Obj.isFreed_of_fields hd₃), hd₃, by simp [hsz]⟩
  · refine (Heap.get?_update_other _ _ (fun q => ?_)).trans hb
    subst q; rw [a8] at hb; cases hb
    exact hr ⟨_, a9⟩ a6
  · exact (Heap.get?_update_other _ _ hTL).trans ho
  · exact (Heap.get?_update_other _ _ hTC).trans ho
  · exact (Heap.get?_update_other _ _ (Ne.symm a7)).trans a1

theorem came_back (H : Fs p A env envc) (x : Fx p m M U s) (n : Xt p ctx fl e s.heap) (h : ∀ s', Fx p m M U s' → Xt p ctx (rawInt p.L) e s'.heap → E (.ref e) s') : cameBackBy (model prg w) A env E (.ref e) s := by
  unfold cameBackBy
  obtain ⟨h0, o, vs, tb, ob, ts, a1, a2, a3, a4, a5, a6, a7, a8, a9, a10⟩ := id n
  refine wpAny_bind (wpAny_field a1 a3 a4 ?_)
  rw [if_neg (by simp)]
  rw [H.hf]
  exact set_fl (some p.L) x n h

theorem entry_unchain : entryFor table "proto.unchain" = some Builtin.«proto.unchain» := entryFor_of_fast (by kernel_rfl)

theorem raiseW_some {α : Type} {msg : String} {Q : α → Shared → Prop} {e1 : Addr} (hh : A.handled = some (.ref e1)) (x : Fx p m M U s) (n : Xt p .none fl e1 s.heap)
    (h : ∀ s' e, Fx p m M U s' → Xn p (.ref e1) e s'.heap → E (.ref e) s') :
    wpAny (model prg w) A (raiseErrorWords "IndexError" msg : Sem α) Q E s := by
  have hp := plainExc_IndexError
  unfold raiseErrorWords
  refine wpAny_bind (wpAny_mkText (wpAny_bind ?_))
  unfold newExc newTuple
  refine wpAny_bind (wpAny_newObj_type ?_)
  refine wpAny_bind (m := firstArgMember _ _) (wpAny_of_eq (a := Value.none) (by simp only [firstArgMember, hp.first]; rfl) ?_)
  rw [hp.own]
  refine wpAny_newObj_type ?_
  unfold raiseNew
  refine wpAny_bind (wpAny_handled ?_)
  rw [hh]
  obtain ⟨h0, o, vs, tb, ob, ts, a1, a2, a3, a4, a5, a6, a7, a8, a9, a10⟩ := id n
  have hlt1 : e1 < s.heap.objs.size := Heap.lt_size a1
  dsimp only
  have hne : (Value.ref e1 != Value.ref (s.heap.push { cls := .type "tuple", data := .seq ([Value.str (Str.ofString msg) s.toks] : List Value).toArray }).objs.size) = true := by
    rw [Heap.size_push]
    have : e1 ≠ s.heap.objs.size + 1 := Nat.ne_of_lt (Nat.lt_succ_of_lt hlt1)
    simp [this]
  rw [if_pos hne]
  refine wpAny_bind (wpAny_holding (wpAny_runValue (codeAny_builtin entry_unchain ?_)))
  show wpAny _ _ (field (.ref e1) 2 >>= _) _ _ _
  refine wpAny_bind (wpAny_field (Heap.get?_push_of_some _ (Heap.get?_push_of_some _ a1)) a3 a5 ?_)
  rw [if_pos (by decide)]
  show wpAny _ _ (ret .none >>= _) _ _ _
  refine wpAny_bind (wpAny_pure (wpAny_pure ?_))
  dsimp only
  refine wpAny_bind ?_
  show wpAny _ _ (setField (.ref _) 2 (.ref e1)) _ _ _
  refine wpAny_setField (Heap.get?_push_size _ rfl) rfl (by simp) (wpAny_throw (h _ _ (x.kp (h' := Heap.update _ _ _) (fun b o' hb => ?_)) ⟨?_, _, _, Heap.get?_update_self _ (Heap.get?_push_size _ rfl) rfl, rfl, rfl⟩))
  · refine (Heap.get?_update_other _ _ ?_).trans (Heap.get?_push_of_some _ (Heap.get?_push_of_some _ hb))
    rw [Heap.size_push]
    exact Nat.ne_of_gt (Nat.lt_succ_of_lt (Heap.lt_size hb))
  · refine Heap.get?_none_of_le ?_
    rw [Heap.size_push]
    exact Nat.le_of_lt (Nat.lt_succ_of_lt (Nat.lt_of_le_of_lt x.ok.fresh x.ns.lt))

/-- what is handled around: nothing, or an IndexError of the call's own -/
def Hd (p : Pl) (A : Around) (h : Heap) : Prop := A.handled = none ∨ ∃ e1 fl, A.handled = some (.ref e1) ∧ Xt p .none fl e1 h
theorem Hd.keep {A : Around} {h h' : Heap} (x : Hd p A h) (k : ∀ b o, h.get? b = some o → (∃ vs, o.data = .fields vs) → h'.get? b = some o) : Hd p A h' :=
  x.imp id fun ⟨e1, fl, q, n⟩ => ⟨e1, fl, q, n.keep k⟩

theorem item_out_some {l : Addr} {items : Array Value} {k : Int} {t : Tok} {e1 : Addr} {Q : Value → Shared → Prop} (hA : A.handled = some (.ref e1)) (n : Xt p .none fl e1 s.heap) (x : Fx p m M U s) (hl : s.heap.IsList l items) (hk : (items.size : Int) ≤ k) (hhi : k < 2 ^ 63)
    (hE : ∀ s' e, Fx p m M U s' → Xn p (.ref e1) e s'.heap → E (.ref e) s') : wpAny (model prg w) A (getItem (.ref l) (.int k t)) Q E s := by
  obtain ⟨o, ho, hc, ne, hd⟩ := id hl
  unfold getItem
  try with_reducible refine wpAny_holding ?_
  first | refine wpAny_bind (wpAny_pure ?_) | skip
  refine wpAny_bind (wpAny_sequenceKey hl.typeIs (by decide) ?_)
  refine wpAny_bind (wpAny_callSpecial?_slot (name := Str.ofString "__getitem__") hl.typeIs slot_list_getitem
    (wpAny_call_entry slot_list_getitem hl.typeIs entry_list_getitem ?_ (args_list_getitem _ _)))
  show wpAny _ _ (Builtin.List.listSubscript? (.int k t) >>= _) _ _ s
  refine wpAny_bind (wpAny_listSubscript_int (fitsIndex_both (by omega) hhi) ?_)
  clear hhi
  have fin : ∀ {α : Type} {msg : String} {Q : α → Shared → Prop}, wpAny (model prg w) A.in1 (raiseErrorWords "IndexError" msg : Sem α) Q E s := fun {_ _ _} =>
    raiseW_some (A := A.in1) hA x n hE
  cases k with
  | ofNat j =>
    have hx : items[j]? = none := Array.getElem?_eq_none (by have : (items.size : Int) ≤ (j : Int) := hk; omega)
    show wpAny _ _ ((seqItemAt l j >>= fun r => pure (r.map (j, ·))) >>= _) _ _ s
    refine wpAny_bind (wpAny_bind (wpAny_seqItemAt ho hd (wpAny_pure ?_)))
    rw [hx]
    first
      | exact wpAny_bind (wpAny_rule fin)
      | exact wpAny_bind (wpAny_rule (wpAny_bind fin))
      | exact wpAny_bind (wpAny_bind (wpAny_rule fin))
      | exact wpAny_rule fin
  | negSucc j => exact absurd hk (by have := Int.negSucc_lt_zero j; omega)

theorem item_out {l : Addr} {items : Array Value} {k : Int} {t : Tok} {Q : Value → Shared → Prop} (hA : Hd p A s.heap) (x : Fx p m M U s) (hl : s.heap.IsList l items) (hk : (items.size : Int) ≤ k) (hhi : k < 2 ^ 63)
    (hE : ∀ s' e ctx, Fx p m M U s' → Xn p ctx e s'.heap → (A.handled = none → ctx = .none) → E (.ref e) s') : wpAny (model prg w) A (getItem (.ref l) (.int k t)) Q E s := by
  rcases hA with hA | ⟨e1, fl, hA, n⟩
  · refine wpAny_getItem_list_out hA hl (.inr hk) (by omega) hhi fun h' tk e ne => ?_
    obtain ⟨ob, t', he, hc, hd⟩ := ne.there
    refine hE _ e .none (x.kp ne.keeps) ⟨?_, ob, t', he, hc, hd⟩ (fun _ => rfl)
    have he0 : s.heap.get? e = none := ne.new
    cases q : p.s₀.heap.get? e with
    | none => rfl
    | some o =>
      exfalso
      by_cases hc' : e = p.Lc
      · obtain ⟨o, _, _, ho, _⟩ := x.nc
        rw [hc', ho] at he0; cases he0
      · by_cases h5 : e = 65
        · obtain ⟨_, _, _, ho⟩ := x.W.tab
          rw [h5, ho] at he0; cases he0
        · rw [x.ev.keep e o (fun hm => hc' (List.mem_singleton.mp hm)) h5 q] at he0; cases he0
  · exact item_out_some hA n x hl hk hhi fun s' e x' n' => hE s' e _ x' n' fun h => by rw [hA] at h; cases h
end
end Mine
end

section
open PySem PySem.W PyProof.Rows
set_option Elab.async false
set_option maxRecDepth 100000
namespace Mine
section
variable {w : World} {A : Around} {E : Value → Shared → Prop} {s : Shared} {p : Pl} {m : Str → Option Value} {M U : Array Value} {envc : Env}

abbrev eS (p : Pl) : Env := fEnv 6 p.L 77 76

theorem itemOr {value slice : PySem.Expr} {l : Addr} {us : List Value} {ks : List Int} {k : Nat} {u : Tok} {Q : Value → Shared → Prop} (hA : Hd p A s.heap) (x : Fx p m M U s) (hl : s.heap.IsList l us.toArray) (hi : IntsAre us ks) (hsz : ks.length < 1000)
    (h : k < ks.length → ∀ t, Q (.int (ks.getD k 0) t) s) (hE : ks.length ≤ k → ∀ s' e ctx, Fx p m M U s' → Xn p ctx e s'.heap → (A.handled = none → ctx = .none) → E (.ref e) s') (hk : k ≤ ks.length)
    (hs : subscripted slice false (.ref l) (.int (k : Int) u) = operate [.ref l, .int (k : Int) u] (getItem (.ref l) (.int (k : Int) u)) := by with_unfolding_all rfl) :
    wpAny (model prg w) A (subscriptTail value slice (.ref l) (.int (k : Int) u)) Q E s := by
  have hlen := hi.length
  refine tail_any hl.typeIs slot_list_getitem.lookup ?_ hs
  by_cases hlt : k < ks.length
  · obtain ⟨t, e⟩ := intsGet hi hlt
    exact wpAny_getItem_list hl (by omega) (by omega) (x := .int (ks.getD k 0) t) (by rw [Int.toNat_natCast]; simpa using e) (h hlt t)
  · exact item_out hA x hl (by simp only [List.size_toArray]; omega) (by omega) (hE (by omega))

theorem st_keep {a : Addr} {h h' : Heap} {m} (hn : h.Ns a m) (hs : Heap.SameBut a h h') : ∀ b o, h.get? b = some o → (∃ vs, o.data = .fields vs) → h'.get? b = some o :=
  fun b o e ⟨_, hv⟩ => hs.extBut b o (ns_ne hn e hv) e

/-- while lst[idx] == val: idx += 1 -/
theorem skip {lst idx val : Str} {p1 p2 p3 p4 p5 p6 p7 p8 p9 : Pos} {c : Nat} {ax : Addr} {us : List Value} {ks : List Int} {i : Nat} {ti tv : Tok} {v : Int} {Q : Flow → Shared → Prop}
    (H : Fs p A (eS p) envc) (hA : Hd p A s.heap) (x : Fx p m M U s) (hl : p.s₀.heap.IsList ax us.toArray) (hac : ax ≠ p.Lc) (hi : IntsAre us ks) (hsz : ks.length < 1000)
    (hm1 : m lst = some (.ref ax)) (hm2 : m idx = some (.int (i : Int) ti)) (hm3 : m val = some (.int v tv)) (hin : i ≤ ks.length) (hne1 : lst ≠ idx) (hne2 : val ≠ idx)
    (hk1 : (eS p).kindOf lst = some .local) (hk2 : (eS p).kindOf idx = some .local) (hk3 : (eS p).kindOf val = some .local)
    (hd1 : (lst == ("__debug__" : Str)) = false) (hd2 : (idx == ("__debug__" : Str)) = false) (hd3 : (val == ("__debug__" : Str)) = false)
    (h : ∀ s' m' (j : Nat) t, Hd p A s'.heap → Fx p m' M U s' → (∀ y, y ≠ idx → m' y = m y) → m' idx = some (.int (j : Int) t) → j ≤ ks.length → ks.drop j = (ks.drop i).dropWhile (· == v) → Q .next s')
    (hE : ∀ s' m' (j : Nat) t e ctx, Fx p m' M U s' → (∀ y, y ≠ idx → m' y = m y) → m' idx = some (.int (j : Int) t) → j ≤ ks.length → ks.drop j = (ks.drop i).dropWhile (· == v) → j = ks.length → Xt p ctx (rawInt p.L) e s'.heap → (A.handled = none → ctx = .none) → E (.ref e) s') :
    wpAny (model prg w) A (exec (.While (.Compare (.Subscript (.Name lst p1) (.Name idx p2) p3) [.Eq] [.Name val p4] p5) [.AugAssign (.Name idx p6) .Add (.Constant (.int 1) c p7) p8] [] p9) (eS p)) Q E s := by
  refine wpAny_While ?_
  refine codeAny_whileLoop (fun n s' => ∃ m' j t, n = ks.length - j ∧ Hd p A s'.heap ∧ Fx p m' M U s' ∧ (∀ y, y ≠ idx → m' y = m y) ∧ m' idx = some (.int ((j : Nat) : Int) t) ∧ j ≤ ks.length ∧ (ks.drop j).dropWhile (· == v) = (ks.drop i).dropWhile (· == v))
    ?_ (ks.length - i) ⟨m, i, ti, rfl, hA, x, fun _ _ => rfl, hm2, hin, rfl⟩
  rintro n s' ⟨m', j, t, rfl, hA', x', hmo, hmi, hj, hdw⟩
  refine wpAny_isTrue_Compare1 ?_
  refine Subscript_ ?_
  refine nmN (env := eS p) x'.ns ((hmo _ hne1).trans hm1) ?_ rfl hk1 hd1
  refine nmN (env := eS p) x'.ns hmi ?_ rfl hk2 hd2
  refine itemOr hA' x' (x'.ls hl hac) hi hsz (fun hlt t' => ?_) (fun hge s₂ e ctx x₂ n₂ hc => ?_) hj
  · refine nmN (env := eS p) x'.ns ((hmo _ hne2).trans hm3) ?_ rfl hk3 hd3
    refine eq_int ?_
    refine wpAny_truthy_bool ?_
    have hdrop : ks.drop j = ks.getD j 0 :: ks.drop (j + 1) := by
      rw [List.getD_eq_getElem?_getD, List.getElem?_eq_getElem hlt]; exact List.drop_eq_getElem_cons hlt
    by_cases hv : ks.getD j 0 = v
    · rw [if_pos (beq_iff_eq.mpr hv)]
      refine wpAny_execs_cons ?_
      refine wpAny_AugAssign_Name ?_
      refine wpAny_loadName_local rfl hk2 x'.ns hmi ?_
      refine wpAny_Constant_int ?_
      refine wpAny_iadd_int ?_
      refine wpAny_storeName_local hk2 x'.ns (fun h' hn hs => ?_) rfl
      refine wpAny_execs_nil ?_
      refine ⟨ks.length - (j + 1), by omega, _, j + 1, s'.toks + 1, rfl, hA'.keep (st_keep x'.ns hs), x'.stL hn hs, fun y hy => ?_, ?_, hlt, ?_⟩
      · rw [if_neg hy]; exact hmo y hy
      · rw [if_pos rfl]; rfl
      · rw [← hdw, hdrop, List.dropWhile_cons_of_pos (p := fun x => x == v) (a := ks.getD j 0) (beq_iff_eq.mpr hv)]
    · rw [if_neg (fun q => hv (beq_iff_eq.mp q))]
      refine wpAny_execs_nil ?_
      refine h s' m' j t hA' x' hmo hmi hj ?_
      rw [← hdw, hdrop, List.dropWhile_cons_of_neg (p := fun x => x == v) (a := ks.getD j 0) (fun q => hv (beq_iff_eq.mp q))]
  · refine note_new H x₂ n₂ fun s₃ x₃ n₃ => ?_
    refine came_back H x₃ n₃ fun s₄ x₄ n₄ => ?_
    have hjn : j = ks.length := by omega
    refine hE s₄ m' j t e ctx x₄ hmo hmi hj ?_ hjn n₄ hc
    rw [← hdw, hjn]; simp
end
end Mine
end

section
open PySem PySem.W PyProof.Rows
set_option Elab.async false
set_option maxRecDepth 100000
namespace Mine

/-- what sorted_list_difference tells of two lists of ints -/
inductive Sld : List Int → List Int → List Int → List Int → Prop
  | done_l (ys : List Int) : Sld [] ys [] ys
  | done_r (xs : List Int) : Sld xs [] xs []
  | lt {e a : Int} {xs ys ms us : List Int} : e < a → Sld (xs.dropWhile (· == e)) (a :: ys) ms us → Sld (e :: xs) (a :: ys) (e :: ms) us
  | gt {e a : Int} {xs ys ms us : List Int} : a < e → Sld (e :: xs) (ys.dropWhile (· == a)) ms us → Sld (e :: xs) (a :: ys) ms (a :: us)
  | eq {e : Int} {xs ys ms us : List Int} : Sld (xs.dropWhile (· == e)) (ys.dropWhile (· == e)) ms us → Sld (e :: xs) (e :: ys) ms us

theorem Sld.ends {xs ys : List Int} (h : xs = [] ∨ ys = []) : Sld xs ys xs ys := by
  rcases h with rfl | rfl
  · exact .done_l _
  · exact .done_r _

section
variable {w : World} {A : Around} {E : Value → Shared → Prop} {s : Shared} {env : Env}

theorem sliceE {value slice : PySem.Expr} {ops : List Value} {l sl : Addr} {items : Array Value} {vl vu vs : Value} {lo hi st : Option Int} {Q : Value → Shared → Prop} (hl : s.heap.IsList l items)
    (hs : s.heap.IsSliceOf sl vl vu vs) (pl : IsPart vl lo) (pu : IsPart vu hi) (ps : IsPart vs st) (h0 : st ≠ some 0) (hsz : items.size ≤ sizeLine)
    (h : Q (.ref s.heap.objs.size) { s with heap := s.heap.push { cls := .type "list", data := .seq (slicePick items lo hi st) } })
    (hsub : subscripted slice false (.ref l) (.ref sl) = operate ops (getItem (.ref l) (.ref sl)) := by with_unfolding_all rfl) :
    wpAny (model prg w) A (subscriptTail value slice (.ref l) (.ref sl)) Q E s :=
  tail_any hl.typeIs slot_list_getitem.lookup (wpAny_getItem_list_slice hl hs pl pu ps h0 h hsz) hsub

theorem callExtend {o e : PySem.Expr} {apos pos : Pos} {Q : Value → Shared → Prop}
    (h : wpAny (model prg w) A (eval o env) (fun ov s₁ => ∃ D its, ov = .ref D ∧ s₁.heap.PlainList D its ∧
      wpAny (model prg w) A (eval e env) (fun v s₂ => ∃ b its' items2, v = .ref b ∧ s₂.heap.PlainList D its' ∧ s₂.heap.PlainList b items2 ∧ its'.size ≤ 1000 ∧ items2.size ≤ 1000 ∧
        ∀ h', h'.PlainList D (its' ++ items2) → Heap.SameBut D s₂.heap h' → Q .none { s₂ with heap := h' }) E s₁) E s)
    (hbase : attributeBase o "extend" env (eval o env) = eval o env := by with_unfolding_all rfl)
    (hfew : ((backTo pos (starEach [e] env)).all (fun x => !x.1) && (backToKw pos (keywordEach [] env)).all (fun x => x.1.isSome)
      && decide (([e] : List PySem.Expr).length + ([] : List Keyword).length + (if ([] : List Keyword).isEmpty then 0 else 1) < 30)) = true := by with_unfolding_all rfl)
    (hline : (apos.endLine == pos.line) = true := by with_unfolding_all rfl)
    (htrees : backTo pos (starEach [e] env) = [(false, eval e env)] := by with_unfolding_all rfl) :
    wpAny (model prg w) A (eval (.Call (.Attribute o "extend" apos) [e] [] pos) env) Q E s := by
  refine wpAny_Call_method hbase hfew hline F.plainAttrs_list F.slot_list_extend F.type_list_extend (wpAny_mono h (fun ov s₁ h₁ => ?_) fun _ _ x => x)
  obtain ⟨D, its, rfl, hD, h₁⟩ := h₁
  refine ⟨hD.isList.typeIs, fun a e => by cases e; obtain ⟨n, q⟩ := hD; exact ⟨_, q, rfl⟩, ?_⟩
  rw [htrees]
  refine P.extend_list (wpAny_mono h₁ (fun v s₂ h₂ => ?_) fun _ _ x => x)
  obtain ⟨b, its', items2, rfl, ⟨n, h1⟩, ⟨n2, h2⟩, z1, z2, hq⟩ := h₂
  have z : sizeLine = 16777216 := by decide
  refine ⟨b, its', items2, n, n2, by omega, by omega, ?_, rfl, h1, h2, hq _ ⟨_, Heap.get?_update_self _ h1 rfl⟩ (Heap.SameBut.update ..)⟩
  unfold Builtin.List.listTooLong
  simp only [Bool.and_eq_true, decide_eq_true_eq, not_and]
  intro _
  omega
end
/-- the state of sorted_list_difference between two turns -/
structure Lp (p : Pl) (ax ay : Addr) (us vs : List Value) (xs ys : List Int) (m : Str → Option Value) (i j : Nat) (M U : Array Value) (ms ns : List Int) (s : Shared) : Prop where
  fx : Fx p m M U s
  m1 : m "expected" = some (.ref ax)
  m2 : m "actual" = some (.ref ay)
  m3 : m "missing" = some (.ref p.D1)
  m4 : m "unexpected" = some (.ref p.D2)
  mi : ∃ t, m "i" = some (.int (i : Int) t)
  mj : ∃ t, m "j" = some (.int (j : Int) t)
  li : i ≤ xs.length
  lj : j ≤ ys.length
  im : IntsAre M.toList ms
  iu : IntsAre U.toList ns
  bm : ms.length ≤ i
  bu : ns.length ≤ j

/-- the two lists that the call is given -/
structure Lg (p : Pl) (ax ay : Addr) (us vs : List Value) (xs ys : List Int) : Prop where
  hx : p.s₀.heap.IsList ax us.toArray
  hy : p.s₀.heap.IsList ay vs.toArray
  cx : ax ≠ p.Lc
  cy : ay ≠ p.Lc
  ix : IntsAre us xs
  iy : IntsAre vs ys
  zx : xs.length < 500
  zy : ys.length < 500

theorem isSub_IE : isSubtype (.type "IndexError") (.type "IndexError") = pure true := by rw [isSubtype_type]; kernel_rfl
theorem isSub_IB : isSubtype (.type "IndexError") (.type "BaseException") = pure true := by rw [isSubtype_type]; kernel_rfl
theorem isSub_IM : isSubtype (.type ((Manifest.find? "IndexError").elim "type" fun x => x.metatype)) (.type "tuple") = pure false := by rw [isSubtype_type]; kernel_rfl

section
variable {w : World} {A : Around} {E : Value → Shared → Prop} {s : Shared} {p : Pl} {m : Str → Option Value} {M U : Array Value} {envc : Env} {ax ay : Addr} {us vs : List Value} {xs ys ms ns : List Int} {i j : Nat} {ctx fl : Value} {e : Addr}

theorem arr_le {M : Array Value} {ms : List Int} (h : IntsAre M.toList ms) {k : Nat} (hk : ms.length ≤ k) : M.size ≤ k := by
  have := h.length
  simp only [Array.length_toList] at this; omega

/-- lst[idx:] -/
theorem restE {lst idx : Str} {p1 p2 p3 p4 : Pos} {a : Addr} {ls : List Value} {ks : List Int} {k : Nat} {t : Tok} {Q : Value → Shared → Prop} (x : Fx p m M U s) (hl : p.s₀.heap.IsList a ls.toArray) (hc : a ≠ p.Lc) (hi : IntsAre ls ks) (hz : ks.length < 500) (hk : k ≤ ks.length)
    (h1 : m lst = some (.ref a)) (h2 : m idx = some (.int (k : Int) t)) (hk1 : (eS p).kindOf lst = some .local) (hk2 : (eS p).kindOf idx = some .local) (hd1 : (lst == ("__debug__" : Str)) = false) (hd2 : (idx == ("__debug__" : Str)) = false)
    (h : ∀ s' b its, Fx p m M U s' → (∀ b o, s.heap.get? b = some o → s'.heap.get? b = some o) → s'.heap.PlainList b its → IntsAre its.toList (ks.drop k) → Q (.ref b) s') :
    wpAny (model prg w) A (eval (.Subscript (.Name lst p1) (.Slice (some (.Name idx p2)) none none p3) p4) (eS p)) Q E s := by
  have hlen := hi.length
  have z : sizeLine = 16777216 := by decide
  refine Subscript_ ?_
  refine nmN (env := eS p) x.ns h1 ?_ rfl hk1 hd1
  refine wpAny_Slice ?_
  refine evalPart_some_step (nmN (env := eS p) x.ns h2 ?_ rfl hk2 hd2)
  refine evalPart_none_step (evalPart_none_step ?_)
  refine sliceE ((x.ls hl hc).push _) (Heap.IsSliceOf.new ..) (.int _ _) .none .none (by simp) (by simp only [List.size_toArray]; omega) ?_
  refine h _ _ _ (x.kp fun b o e => Heap.get?_push_of_some _ (Heap.get?_push_of_some _ e)) (fun b o e => Heap.get?_push_of_some _ (Heap.get?_push_of_some _ e)) ⟨_, Heap.get?_push_size _ rfl⟩ ?_
  have := slice_ints_from hi (x := (k : Int)) (by omega) (by omega)
  rwa [Int.toNat_natCast] at this

end

def tryOf : Stmt → List Stmt × List ExceptHandler × List Stmt × List Stmt | .Try b h o f _ => (b, h, o, f) | _ => ([], [], [], [])
def whileOf : Stmt → List Stmt | .While _ b _ _ => b | _ => []
def sldWhile : Stmt := (fBody (top 6)).getD 3 default
def sldTry : Stmt := (whileOf sldWhile).getD 0 default
def sldT : List Stmt := (tryOf sldTry).1
def sldH : List ExceptHandler := (tryOf sldTry).2.1

section
variable {w : World} {A : Around} {E : Value → Shared → Prop} {s : Shared} {p : Pl} {m : Str → Option Value} {M U : Array Value} {envc : Env} {ax ay : Addr} {us vs : List Value} {xs ys ms ns : List Int} {i j : Nat} {ctx fl : Value} {e : Addr}

/-- the clause of the try: an IndexError ends the loop -/
theorem hand {Q : Flow → Shared → Prop} (G : Lg p ax ay us vs xs ys) (l : Lp p ax ay us vs xs ys m i j M U ms ns s) (hx : Xt p ctx fl e s.heap)
    (h : ∀ s' M' U', Fx p m M' U' s' → IntsAre M'.toList (ms ++ xs.drop i) → IntsAre U'.toList (ns ++ ys.drop j) → Q .brk s') :
    wpAny (model prg w) A (handleBy (.ref e) (eS p) sldH) Q E s := by
  have g1 := G.zx
  have g2 := G.zy
  have l1 := l.li
  have l2 := l.lj
  have l3 := l.bm
  have l4 := l.bu
  obtain ⟨ti, hi⟩ := l.mi
  obtain ⟨tj, hj⟩ := l.mj
  refine wpAny_handleBy_builtin (X := "IndexError") (T := "IndexError") (b := true) isSub_IB isSub_IM isSub_IE ?_
  refine nameB l.fx.W (by decide) bi_IndexError ⟨rfl, ?_, ?_⟩
  · obtain ⟨_, o, vs', tb, ob, ts, a1, a2, _⟩ := hx
    exact ⟨o, a1, a2⟩
  rw [if_pos rfl]
  refine set_fl none l.fx hx fun s₁ x₁ _ => ?_
  refine wpAny_execs_cons ?_
  refine wpAny_Expr ?_
  refine callExtend ?_
  refine nmN x₁.ns l.m3 ⟨p.D1, M, rfl, x₁.d1, ?_⟩
  refine restE x₁ G.hx G.cx G.ix g1 l.li l.m1 hi rfl rfl (by decide) (by decide) fun s₂ b its x₂ _ hb hits => ?_
  refine ⟨b, M, its, rfl, x₂.d1, hb, Nat.le_trans (arr_le l.im l3) (by omega), Nat.le_trans (arr_le hits (Nat.le_refl _)) (by rw [List.length_drop]; omega), fun h' hl' hs' => ?_⟩
  have x₃ := x₂.st1 (tk := s₂.toks) hl' hs'
  have im : IntsAre (M ++ its).toList (ms ++ xs.drop i) := by rw [Array.toList_append]; exact IntsAre.append l.im hits
  refine wpAny_execs_cons ?_
  refine wpAny_Expr ?_
  refine callExtend ?_
  refine nmN x₃.ns l.m4 ⟨p.D2, U, rfl, x₃.d2, ?_⟩
  refine restE x₃ G.hy G.cy G.iy g2 l.lj l.m2 hj rfl rfl (by decide) (by decide) fun s₄ b its' x₄ _ hb hits' => ?_
  refine ⟨b, U, its', rfl, x₄.d2, hb, Nat.le_trans (arr_le l.iu l4) (by omega), Nat.le_trans (arr_le hits' (Nat.le_refl _)) (by rw [List.length_drop]; omega), fun h' hl' hs' => ?_⟩
  have x₅ := x₄.st2 (tk := s₄.toks) hl' hs'
  refine wpAny_execs_cons ?_
  refine wpAny_Break ?_
  exact h _ _ _ x₅ im (by rw [Array.toList_append]; exact IntsAre.append l.iu hits')
end
end Mine
end

section
open PySem PySem.W PyProof.Rows
set_option Elab.async false
set_option maxRecDepth 100000
namespace Mine

/-- what the rest tells, told from an earlier place -/
def Rel (xs ys : List Int) (i j : Nat) (ms ns : List Int) (i' j' : Nat) (ms' ns' : List Int) : Prop :=
  ∀ a b, Sld (xs.drop i') (ys.drop j') a b → ∃ a' b', Sld (xs.drop i) (ys.drop j) a' b' ∧ ms' ++ a = ms ++ a' ∧ ns' ++ b = ns ++ b'
theorem Rel.refl {xs ys : List Int} {i j : Nat} {ms ns : List Int} : Rel xs ys i j ms ns i j ms ns := fun a b h => ⟨a, b, h, rfl, rfl⟩

theorem drop_cons {xs : List Int} {i : Nat} (h : i < xs.length) : xs.drop i = xs.getD i 0 :: xs.drop (i + 1) := by
  rw [List.getD_eq_getElem?_getD, List.getElem?_eq_getElem h]; exact List.drop_eq_getElem_cons h

section
variable {w : World} {A : Around} {E : Value → Shared → Prop} {s : Shared} {p : Pl} {m : Str → Option Value} {M U : Array Value} {envc : Env} {ax ay : Addr} {us vs : List Value} {xs ys ms ns : List Int} {i j : Nat} {ctx fl : Value} {e : Addr}

theorem Lp.upd {x : Str} {v : Value} {h' : Heap} {tk : Nat} (l : Lp p ax ay us vs xs ys m i j M U ms ns s) (hn : h'.Ns p.L fun y => if y = x then some v else m y) (hs : Heap.SameBut p.L s.heap h')
    (hx : ∀ y ∈ (["expected", "actual", "missing", "unexpected", "i", "j"] : List Str), y ≠ x) : Lp p ax ay us vs xs ys (fun y => if y = x then some v else m y) i j M U ms ns { s with heap := h', toks := tk } :=
  ⟨l.fx.stL hn hs, by rw [if_neg (hx _ (by simp))]; exact l.m1, by rw [if_neg (hx _ (by simp))]; exact l.m2, by rw [if_neg (hx _ (by simp))]; exact l.m3, by rw [if_neg (hx _ (by simp))]; exact l.m4,
    by rw [if_neg (hx _ (by simp))]; exact l.mi, by rw [if_neg (hx _ (by simp))]; exact l.mj, l.li, l.lj, l.im, l.iu, l.bm, l.bu⟩
/-- another frame's map, the same but at i or j -/
theorem Lp.seti {m' : Str → Option Value} {i' : Nat} {t : Tok} {s' : Shared} (l : Lp p ax ay us vs xs ys m i j M U ms ns s) (x : Fx p m' M U s') (ho : ∀ y : Str, y ≠ "i" → m' y = m y) (hi : m' "i" = some (.int (i' : Int) t)) (hle : i' ≤ xs.length) (hb : i ≤ i') :
    Lp p ax ay us vs xs ys m' i' j M U ms ns s' :=
  ⟨x, (ho _ (by decide)).trans l.m1, (ho _ (by decide)).trans l.m2, (ho _ (by decide)).trans l.m3, (ho _ (by decide)).trans l.m4, ⟨t, hi⟩, (by rw [ho _ (by decide)]; exact l.mj), hle, l.lj, l.im, l.iu, Nat.le_trans l.bm hb, l.bu⟩
theorem Lp.setj {m' : Str → Option Value} {j' : Nat} {t : Tok} {s' : Shared} (l : Lp p ax ay us vs xs ys m i j M U ms ns s) (x : Fx p m' M U s') (ho : ∀ y : Str, y ≠ "j" → m' y = m y) (hj : m' "j" = some (.int (j' : Int) t)) (hle : j' ≤ ys.length) (hb : j ≤ j') :
    Lp p ax ay us vs xs ys m' i j' M U ms ns s' :=
  ⟨x, (ho _ (by decide)).trans l.m1, (ho _ (by decide)).trans l.m2, (ho _ (by decide)).trans l.m3, (ho _ (by decide)).trans l.m4, (by rw [ho _ (by decide)]; exact l.mi), ⟨t, hj⟩, l.li, hle, l.im, l.iu, l.bm, Nat.le_trans l.bu hb⟩

/-- idx += 1 -/
theorem incE {idx : Str} {p1 p2 p3 : Pos} {c : Nat} {k : Nat} {t : Tok} {Q : Flow → Shared → Prop} (x : Fx p m M U s) (h2 : m idx = some (.int (k : Int) t)) (hk2 : (eS p).kindOf idx = some .local) (hA : Hd p A s.heap)
    (h : ∀ s' t', Fx p (fun y => if y = idx then some (.int ((k + 1 : Nat) : Int) t') else m y) M U s' → Hd p A s'.heap → Q .next s') :
    wpAny (model prg w) A (exec (.AugAssign (.Name idx p1) .Add (.Constant (.int 1) c p2) p3) (eS p)) Q E s := by
  refine wpAny_AugAssign_Name ?_
  refine wpAny_loadName_local rfl hk2 x.ns h2 ?_
  refine wpAny_Constant_int ?_
  refine wpAny_iadd_int ?_
  refine wpAny_storeName_local hk2 x.ns (fun h' hn hs => ?_) rfl
  exact h _ (s.toks + 1) (x.stL hn hs) (hA.keep (st_keep x.ns hs))

/-- j += 1; while actual[j] == a: j += 1 -/
theorem fin2 {p1 p2 p3 q1 q2 q3 q4 q5 q6 q7 q8 q9 : Pos} {c d : Nat} {v : Int} {tv : Tok} {Q : Flow → Shared → Prop} (H : Fs p A (eS p) envc) (G : Lg p ax ay us vs xs ys) (l : Lp p ax ay us vs xs ys m i j M U ms ns s) (hA : Hd p A s.heap)
    (ha : m "a" = some (.int v tv)) (hj : j < ys.length)
    (h : ∀ s' m' j', Hd p A s'.heap → Lp p ax ay us vs xs ys m' i j' M U ms ns s' → j < j' → ys.drop j' = (ys.drop (j + 1)).dropWhile (· == v) → Q .next s')
    (hE : ∀ s' m' j' e ctx, Lp p ax ay us vs xs ys m' i j' M U ms ns s' → ys.drop j' = (ys.drop (j + 1)).dropWhile (· == v) → j' = ys.length → Xt p ctx (rawInt p.L) e s'.heap → E (.ref e) s') :
    wpAny (model prg w) A (execs [.AugAssign (.Name "j" p1) .Add (.Constant (.int 1) c p2) p3, .While (.Compare (.Subscript (.Name "actual" q1) (.Name "j" q2) q3) [.Eq] [.Name "a" q4] q5) [.AugAssign (.Name "j" q6) .Add (.Constant (.int 1) d q7) q8] [] q9] (eS p)) Q E s := by
  obtain ⟨tj, hmj⟩ := l.mj
  have g2 := G.zy
  refine wpAny_execs_cons ?_
  refine incE l.fx hmj rfl hA fun s₁ t₁ x₁ hA₁ => ?_
  have l₁ := l.setj (j' := j + 1) x₁ (fun y hy => if_neg hy) (if_pos rfl) hj (Nat.le_succ j)
  refine wpAny_execs_cons ?_
  refine skip H hA₁ x₁ G.hy G.cy G.iy (by omega) l₁.m2 (if_pos rfl) (v := v) (tv := tv) ha hj (by decide) (by decide) rfl rfl rfl (by decide) (by decide) (by decide) ?_ ?_
  · intro s₂ m₂ k t hA₂ x₂ ho hk hkl hd
    refine wpAny_execs_nil ?_
    have hkj : j + 1 ≤ k := by
      have e1 := congrArg List.length hd
      have e2 := (List.dropWhile_suffix (fun x => x == v) (l := ys.drop (j + 1))).length_le
      simp only [List.length_drop] at e1 e2; omega
    exact h s₂ m₂ k hA₂ (l₁.setj x₂ ho hk hkl hkj) hkj hd
  · intro s₂ m₂ k t e ctx x₂ ho hk hkl hd hke n₂ _
    exact hE s₂ m₂ k e ctx (l₁.setj x₂ ho hk hkl (by omega)) hd hke n₂

theorem Lp.to {s' : Shared} (l : Lp p ax ay us vs xs ys m i j M U ms ns s) (x : Fx p m M U s') : Lp p ax ay us vs xs ys m i j M U ms ns s' := { l with fx := x }

theorem pass_on {Q : Flow → Shared → Prop} {what : String} (H : Fs p A (eS p) envc) (x : Fx p m M U s) (n : Xt p ctx fl e s.heap) (h : ∀ s', Fx p m M U s' → Xt p ctx (rawInt p.L) e s'.heap → E (.ref e) s') : wpAny (model prg w) A (PySem.passOn what (.ref e) (eS p) : Sem Flow) Q E s := by
  unfold PySem.passOn
  obtain ⟨h0, o, vs, tb, ob, ts, a1, a2, a3, a4, a5, a6, a7, a8, a9, a10⟩ := id n
  refine wpAny_bind (wpAny_field a1 a3 a4 ?_)
  rw [if_neg (by simp)]
  refine wpAny_bind ?_
  rw [H.hf]
  exact set_fl (some p.L) x n fun s' x' n' => wpAny_throw (h s' x' n')

theorem plainL {h : Heap} {a : Addr} {its : Array Value} (x : h.PlainList a its) : PlainL h a its := let ⟨n, e⟩ := x; ⟨_, n, e, rfl, rfl, rfl⟩

/-- one turn of the loop -/
theorem turn {Q : Flow → Shared → Prop} (H : Fs p A (eS p) envc) (hA : A.handled = none) (G : Lg p ax ay us vs xs ys) (l : Lp p ax ay us vs xs ys m i j M U ms ns s)
    (hn : ∀ s' m' i' j' M' U' ms' ns', Lp p ax ay us vs xs ys m' i' j' M' U' ms' ns' s' → (xs.length - i') + (ys.length - j') < (xs.length - i) + (ys.length - j) → Rel xs ys i j ms ns i' j' ms' ns' → Q .next s')
    (hb : ∀ s' m' M' U' fm fn, Fx p m' M' U' s' → m' "missing" = some (.ref p.D1) → m' "unexpected" = some (.ref p.D2) → IntsAre M'.toList fm → IntsAre U'.toList fn →
      (∃ a' b', Sld (xs.drop i) (ys.drop j) a' b' ∧ fm = ms ++ a' ∧ fn = ns ++ b') → Q .brk s') :
    wpAny (model prg w) A (exec sldTry (eS p)) Q E s := by
  have g1 := G.zx
  have g2 := G.zy
  have hi := l.li
  have hj := l.lj
  have hd : ∀ {s : Shared}, Hd p A s.heap := fun {_} => .inl hA
  -- the end of the loop by an IndexError
  have errT : ∀ {s₁ : Shared} {m₁ : Str → Option Value} {i₁ j₁ : Nat} {M₁ U₁ : Array Value} {ms₁ ns₁ : List Int} {e : Addr} {ctx : Value}, Lp p ax ay us vs xs ys m₁ i₁ j₁ M₁ U₁ ms₁ ns₁ s₁ → Rel xs ys i j ms ns i₁ j₁ ms₁ ns₁ → (i₁ = xs.length ∨ j₁ = ys.length) → Xt p ctx (rawInt p.L) e s₁.heap →
      wpAny (model prg w) A (noteFrame (.ref e) (eS p)) (fun _ s₂ => wpAny (model prg w) A (setFlight (.ref e) none) (fun _ s₃ => wpAny (model prg w) A (handleBy (.ref e) (eS p) sldH) Q E s₃) E s₂) E s₁ := by
    intro s₁ m₁ i₁ j₁ M₁ U₁ ms₁ ns₁ e ctx l₁ hr hend n
    refine note_in H n (set_fl none l₁.fx n fun s₂ x₂ n₂ => ?_)
    refine hand G (l₁.to x₂) n₂ fun s₃ M' U' x₃ im iu => ?_
    obtain ⟨a', b', hs, e1, e2⟩ := hr _ _ (Sld.ends (by rcases hend with h | h <;> subst h <;> simp))
    exact hb s₃ m₁ M' U' _ _ x₃ l₁.m3 l₁.m4 im iu ⟨a', b', hs, e1, e2⟩
  have errN : ∀ {s₁ : Shared} {m₁ : Str → Option Value} {e : Addr} {ctx : Value}, Lp p ax ay us vs xs ys m₁ i j M U ms ns s₁ → (i = xs.length ∨ j = ys.length) → Xn p ctx e s₁.heap →
      wpAny (model prg w) A (noteFrame (.ref e) (eS p)) (fun _ s₂ => wpAny (model prg w) A (setFlight (.ref e) none) (fun _ s₃ => wpAny (model prg w) A (handleBy (.ref e) (eS p) sldH) Q E s₃) E s₂) E s₁ := by
    intro s₁ m₁ e ctx l₁ hend n
    refine note_new H l₁.fx n fun s₂ x₂ n₂ => set_fl none x₂ n₂ fun s₃ x₃ n₃ => ?_
    refine hand G (l₁.to x₃) n₃ fun s₄ M' U' x₄ im iu => ?_
    exact hb s₄ m₁ M' U' _ _ x₄ l₁.m3 l₁.m4 im iu ⟨_, _, Sld.ends (by rcases hend with h | h <;> subst h <;> simp), rfl, rfl⟩
  obtain ⟨ti, hmi⟩ := l.mi
  obtain ⟨tj, hmj⟩ := l.mj
  refine wpAny_Try_except ?_
  -- e = expected[i]
  refine wpAny_execs_cons ?_
  refine wpAny_Assign_Name ?_
  refine Subscript_ ?_
  refine nmN l.fx.ns l.m1 ?_
  refine nmN l.fx.ns hmi ?_
  refine itemOr hd l.fx (l.fx.ls G.hx G.cx) G.ix (by omega) (fun hlt te => ?_) (fun hge s' e' ctx' x' n' _ => errN (l.to x') (.inl (by omega)) n') hi
  refine wpAny_storeName_local rfl l.fx.ns (fun h₁ hn₁ hs₁ => ?_) rfl
  have l₁ := l.upd (tk := s.toks + 1) hn₁ hs₁ (by decide)
  clear hn₁ hs₁
  -- a = actual[j]
  refine wpAny_execs_cons ?_
  refine wpAny_Assign_Name ?_
  refine Subscript_ ?_
  refine nmN l₁.fx.ns l₁.m2 ?_
  refine nmN l₁.fx.ns hmj ?_
  refine itemOr hd l₁.fx (l₁.fx.ls G.hy G.cy) G.iy (by omega) (fun hltj ta => ?_) (fun hge s' e' ctx' x' n' _ => errN (l₁.to x') (.inr (by omega)) n') hj
  refine wpAny_storeName_local rfl l₁.fx.ns (fun h₂ hn₂ hs₂ => ?_) rfl
  have l₂ := l₁.upd (tk := s.toks + 1 + 1) hn₂ hs₂ (by decide)
  clear hn₂ hs₂
  have dx := drop_cons hlt
  have dy := drop_cons hltj
  generalize xs.getD i 0 = x at *
  generalize ys.getD j 0 = y at *
  -- if e < a
  refine wpAny_execs_cons ?_
  refine wpAny_If ?_
  refine wpAny_isTrue_Compare1 ?_
  refine nmN l₂.fx.ns rfl ?_
  refine nmN l₂.fx.ns rfl ?_
  refine lt_int ?_
  refine wpAny_truthy_bool ?_
  by_cases hxy : x < y
  · rw [if_pos (decide_eq_true hxy)]
    refine wpAny_execs_cons ?_
    refine wpAny_Expr ?_
    refine callAppend ?_
    refine nmN l₂.fx.ns l₂.m3 ⟨p.D1, M, rfl, plainL l₂.fx.d1, ?_⟩
    refine nmN l₂.fx.ns rfl ?_
    refine wpAny_list_append_plain l₂.fx.d1 (fun h' hl' hs' => ?_) (Nat.le_trans (arr_le l.im l.bm) (by rw [show sizeLine = 16777216 from by decide]; omega))
    have x₃ := l₂.fx.st1 (tk := s.toks + 1 + 1) hl' hs'
    refine wpAny_execs_cons ?_
    refine incE x₃ hmi rfl hd fun s₄ t₄ x₄ _ => ?_
    have l₄ : Lp p ax ay us vs xs ys _ (i + 1) j (M.push (.int x te)) U (ms ++ [x]) ns s₄ :=
      ⟨x₄, l₂.m1, l₂.m2, l₂.m3, l₂.m4, ⟨t₄, if_pos rfl⟩, ⟨tj, hmj⟩, hlt, hj, by rw [Array.toList_push]; exact IntsAre.append l.im (.cons _ _ .nil), l.iu, by rw [List.length_append]; exact Nat.succ_le_succ l.bm, l.bu⟩
    refine wpAny_execs_cons ?_
    have rel : ∀ {k : Nat}, xs.drop k = (xs.drop (i + 1)).dropWhile (· == x) → Rel xs ys i j ms ns k j (ms ++ [x]) ns := fun {k} hk a b hs => by
      rw [hk, dy] at hs
      exact ⟨x :: a, b, by rw [dx, dy]; exact .lt hxy hs, by simp, rfl⟩
    refine skip H hd l₄.fx G.hx G.cx G.ix (by omega) l₄.m1 (if_pos rfl) (v := x) (tv := te) rfl hlt (by decide) (by decide) rfl rfl rfl (by decide) (by decide) (by decide) ?_ ?_
    · intro s₅ m₅ k t _ x₅ ho hk hkl hdk
      refine wpAny_execs_nil (wpAny_execs_nil (wpAny_execs_nil ?_))
      have hle : i + 1 ≤ k := by
        have e1 := congrArg List.length hdk
        have e2 := (List.dropWhile_suffix (fun y => y == x) (l := xs.drop (i + 1))).length_le
        simp only [List.length_drop] at e1 e2; omega
      exact hn _ _ _ _ _ _ _ _ (l₄.seti x₅ ho hk hkl hle) (by omega) (rel hdk)
    · intro s₅ m₅ k t e ctx x₅ ho hk hkl hdk hke n₅ _
      exact errT (l₄.seti x₅ ho hk hkl (by omega)) (rel hdk) (.inl hke) n₅
  · rw [if_neg (by simpa using hxy)]
    refine wpAny_execs_cons ?_
    refine wpAny_If ?_
    refine wpAny_isTrue_Compare1 ?_
    refine nmN l₂.fx.ns rfl ?_
    refine nmN l₂.fx.ns rfl ?_
    refine gt_int ?_
    refine wpAny_truthy_bool ?_
    by_cases hyx : x > y
    · rw [if_pos (decide_eq_true hyx)]
      refine wpAny_execs_cons ?_
      refine wpAny_Expr ?_
      refine callAppend ?_
      refine nmN l₂.fx.ns l₂.m4 ⟨p.D2, U, rfl, plainL l₂.fx.d2, ?_⟩
      refine nmN l₂.fx.ns rfl ?_
      refine wpAny_list_append_plain l₂.fx.d2 (fun h' hl' hs' => ?_) (Nat.le_trans (arr_le l.iu l.bu) (by rw [show sizeLine = 16777216 from by decide]; omega))
      have x₃ := l₂.fx.st2 (tk := s.toks + 1 + 1) hl' hs'
      refine wpAny_execs_cons ?_
      refine incE x₃ hmj rfl hd fun s₄ t₄ x₄ _ => ?_
      have l₄ : Lp p ax ay us vs xs ys _ i (j + 1) M (U.push (.int y ta)) ms (ns ++ [y]) s₄ :=
        ⟨x₄, l₂.m1, l₂.m2, l₂.m3, l₂.m4, ⟨ti, hmi⟩, ⟨t₄, if_pos rfl⟩, hi, hltj, l.im, by rw [Array.toList_push]; exact IntsAre.append l.iu (.cons _ _ .nil), l.bm, by rw [List.length_append]; exact Nat.succ_le_succ l.bu⟩
      refine wpAny_execs_cons ?_
      have rel : ∀ {k : Nat}, ys.drop k = (ys.drop (j + 1)).dropWhile (· == y) → Rel xs ys i j ms ns i k ms (ns ++ [y]) := fun {k} hk a b hs => by
        rw [hk, dx] at hs
        exact ⟨a, y :: b, by rw [dx, dy]; exact .gt hyx hs, rfl, by simp⟩
      refine skip H hd l₄.fx G.hy G.cy G.iy (by omega) l₄.m2 (if_pos rfl) (v := y) (tv := ta) rfl hltj (by decide) (by decide) rfl rfl rfl (by decide) (by decide) (by decide) ?_ ?_
      · intro s₅ m₅ k t _ x₅ ho hk hkl hdk
        refine wpAny_execs_nil (wpAny_execs_nil (wpAny_execs_nil (wpAny_execs_nil ?_)))
        have hle : j + 1 ≤ k := by
          have e1 := congrArg List.length hdk
          have e2 := (List.dropWhile_suffix (fun z => z == y) (l := ys.drop (j + 1))).length_le
          simp only [List.length_drop] at e1 e2; omega
        exact hn _ _ _ _ _ _ _ _ (l₄.setj x₅ ho hk hkl hle) (by omega) (rel hdk)
      · intro s₅ m₅ k t e ctx x₅ ho hk hkl hdk hke n₅ _
        exact errT (l₄.setj x₅ ho hk hkl (by omega)) (rel hdk) (.inr hke) n₅
    · rw [if_neg (by simpa using hyx)]
      have hxy' : x = y := by omega
      subst hxy'
      refine wpAny_execs_cons ?_
      refine incE l₂.fx hmi rfl hd fun s₄ t₄ x₄ _ => ?_
      have l₄ := l₂.seti x₄ (fun y hy => if_neg hy) (if_pos rfl) hlt (Nat.le_succ i)
      have rel : ∀ {k k' : Nat}, xs.drop k = (xs.drop (i + 1)).dropWhile (· == x) → ys.drop k' = (ys.drop (j + 1)).dropWhile (· == x) → Rel xs ys i j ms ns k k' ms ns := fun {k k'} hk hk' a b hs => by
        rw [hk, hk'] at hs
        exact ⟨a, b, by rw [dx, dy]; exact .eq hs, rfl, rfl⟩
      refine wpAny_execs_cons ?_
      refine wpAny_Try_finally ?_
      refine wpAny_execs_cons ?_
      refine skip H hd l₄.fx G.hx G.cx G.ix (by omega) l₄.m1 (if_pos rfl) (v := x) (tv := te) rfl hlt (by decide) (by decide) rfl rfl rfl (by decide) (by decide) (by decide) ?_ ?_
      · intro s₅ m₅ k t _ x₅ ho hk hkl hdk
        have hle : i + 1 ≤ k := by
          have e1 := congrArg List.length hdk
          have e2 := (List.dropWhile_suffix (fun y => y == x) (l := xs.drop (i + 1))).length_le
          simp only [List.length_drop] at e1 e2; omega
        have l₅ := l₄.seti x₅ ho hk hkl hle
        refine wpAny_execs_nil (wpAny_execs_nil ?_)
        refine fin2 (v := x) (tv := ta) H G l₅ hd ((ho _ (by decide)).trans rfl) hltj ?_ ?_
        · intro s₆ m₆ j' _ l₆ hlj hdj
          refine wpAny_execs_nil (wpAny_execs_nil (wpAny_execs_nil (wpAny_execs_nil ?_)))
          exact hn _ _ _ _ _ _ _ _ l₆ (by omega) (rel hdk hdj)
        · intro s₆ m₆ j' e ctx l₆ hdj hje n₆
          refine note_in H n₆ (came_back H l₆.fx n₆ fun s₇ x₇ n₇ => ?_)
          exact errT (l₆.to x₇) (rel hdk hdj) (.inr hje) n₇
      · intro s₅ m₅ k t e ctx x₅ ho hk hkl hdk hke n₅ hctx
        have l₅ := l₄.seti x₅ ho hk hkl (by omega)
        have hc := hctx hA
        subst hc
        refine note_in H n₅ ⟨(fun q => nomatch q), ?_⟩
        refine note_in H n₅ (set_fl none l₅.fx n₅ fun s₆ x₆ n₆ => ?_)
        refine fin2 (v := x) (tv := ta) (H.mark _) G (l₅.to x₆) (.inr ⟨e, _, rfl, n₆⟩) ((ho _ (by decide)).trans rfl) hltj ?_ ?_
        · intro s₇ m₇ j' hd₇ l₇ hlj hdj
          rcases hd₇ with q | ⟨e', fl', q, n₇⟩
          · cases q
          · cases q
            refine pass_on H l₇.fx n₇ fun s₈ x₈ n₈ => ?_
            exact errT (l₇.to x₈) (rel hdk hdj) (.inl hke) n₈
        · intro s₇ m₇ j' e' ctx' l₇ hdj hje n₇
          refine note_in (H.mark _) n₇ (came_back H l₇.fx n₇ fun s₈ x₈ n₈ => ?_)
          exact errT (l₇.to x₈) (rel hdk hdj) (.inl hke) n₈
end
end Mine
end

section
open PySem PySem.W PyProof.Rows
set_option Elab.async false
set_option maxRecDepth 100000
namespace Mine
section
variable {w : World} {A : Around} {E : Value → Shared → Prop} {s s₀ : Shared} {L : Addr} {cs : List (Str × Addr)} {m cm : Str → Option Value} {Γ : List (Addr × Array Value)} {env : Env}

/-- x = [] -/
theorem newE {x : Str} {p1 p2 p3 : Pos} {Q : Flow → Shared → Prop} (F : Fm s₀ env.locals cs m cm Γ s)
    (h : ∀ s' D, Fm s₀ env.locals cs (fun y => if y = x then some (.ref D) else m y) cm Γ s' → s'.heap.PlainList D #[] → s₀.heap.objs.size ≤ D → s.heap.objs.size ≤ D → EvoB [env.locals] s s' → Q .next s')
    (hk : env.scope.kind = .function := by rfl) (hl : env.kindOf x = some .local := by rfl)
    (hsw : swapsWith (.List [] p2) (some (.Name x p1)) p3.line env = pure false := by rfl) :
    wpAny (model prg w) A (exec (.Assign [.Name x p1] (.List [] p2) p3) env) Q E s := by
  refine wpAny_Assign_Name ?_ hsw
  refine wpAny_List ?_
  refine wpAny_items_nil ⟨by decide, ?_⟩
  have F₁ := F.evo (s' := { s with heap := s.heap.push { cls := .type "list", data := .seq ([] : List Value).toArray } }) (Evo.kp (tk := s.toks) fun _ _ e => Heap.get?_push_of_some _ e)
  have hD : (s.heap.push { cls := .type "list", data := .seq ([] : List Value).toArray }).PlainList s.heap.objs.size #[] := ⟨_, Heap.get?_push_size _ rfl⟩
  refine storeL F₁ (fun s' hs' F' ev => ?_) hk hl
  refine h s' _ F' (hD.extBut hs'.extBut (F₁.ne hD.isList)) (Nat.le_of_lt (Nat.lt_of_le_of_lt F.fresh F.ns.lt)) (Nat.le_refl _) ?_
  exact (EvoB.ofEvo (Evo.kp (tk := s.toks) fun _ _ e => Heap.get?_push_of_some _ e)).trans ev
end

theorem exec_as {w : World} {A : Around} {E : Value → Shared → Prop} {s : Shared} {st st' : Stmt} {env env' : Env} {Q : Flow → Shared → Prop} (h1 : st = st') (h2 : env = env') (h : wpAny (model prg w) A (exec st' env') Q E s) : wpAny (model prg w) A (exec st env) Q E s := by
  subst h1 h2; exact h

set_option maxHeartbeats 400000 in
theorem sld_call {w : World} {A : Around} {s : Shared} {R : Result → Shared → Prop} {ax ay Lc : Addr} {us vs : List Value} {xs ys : List Int} {mc : Str → Option Value} {envc : Env}
    (W : Wd s.heap) (hA : Air A) (hfr : A.frames = some [envc]) (hfc : envc.frame = some Lc) (hkc : envc.scope.kind ≠ .module) (hns : s.heap.Ns Lc mc) (hLc : @LT.lt Nat _ 111 Lc)
    (hx : s.heap.IsList ax us.toArray) (hy : s.heap.IsList ay vs.toArray) (ix : IntsAre us xs) (iy : IntsAre vs ys) (zx : xs.length < 500) (zy : ys.length < 500)
    (h : ∀ s' T D1 D2 M U ms ns, EvoB [Lc] s s' → s'.heap.Ns Lc mc → s'.heap.IsTuple T #[.ref D1, .ref D2] → s'.heap.PlainList D1 M → s'.heap.PlainList D2 U → IntsAre M.toList ms → IntsAre U.toList ns → Sld xs ys ms ns → R (.ok (.ret (.ref T))) s') :
    codeAny (model prg w) A (.call (.ref 77) ⟨[.ref ax, .ref ay], []⟩) R s := by
  have cx : ax ≠ Lc := fun q => isList_not_ns hx (q ▸ hns)
  have cy : ay ≠ Lc := fun q => isList_not_ns hy (q ▸ hns)
  refine enter 6 W (by have := hA.depth; omega) W.sld (binds := [("expected", .ref ax), ("actual", .ref ay)]) (fun _ _ => rfl) rfl (fun s₁ F => ?_)
  refine wpAny_execs_cons ?_
  refine wpAny_Assign_two ?_
  refine wpAny_Constant_int ?_
  refine wpAny_assign_Name ?_
  refine storeL (F.tok _) fun s₂ hs₂ F₂ _ => ?_
  refine wpAny_assign_Name ?_
  refine storeL F₂ fun s₃ hs₃ F₃ _ => ?_
  refine wpAny_execs_cons ?_
  refine newE F₃ fun s₄ D1 F₄ h1 f1 _ _ => ?_
  refine wpAny_execs_cons ?_
  refine newE F₄ fun s₅ D2 F₅ h2 f2 g2 ev₅ => ?_
  have hne : D1 ≠ D2 := fun q => by
    obtain ⟨n, e⟩ := h1
    exact absurd (Heap.lt_size e) (by rw [q]; exact Nat.not_lt.mpr g2)
  have h1' : s₅.heap.PlainList D1 #[] := h1.at fun o e => ev₅.keep D1 o (fun hm => F₄.ne h1.isList (List.mem_singleton.mp hm)) (fun q => absurd (Nat.lt_of_lt_of_le W.size f1) (by rw [q]; decide)) e
  let p : Pl := ⟨s, s.heap.objs.size, Lc, D1, D2, mc⟩
  have ok : p.Ok := ⟨W, Nat.le_refl _, hns.lt, hLc, f1, f2, hne⟩
  have x : Fx p _ #[] #[] s₅ := ⟨ok, EvoB.ofEvo F₅.ev, hns.at' fun o e => F₅.ev.keep _ o (fun q => nomatch q) (fun q => absurd hLc (by rw [q]; decide)) e, F₅.ns, h1', h2⟩
  have G : Lg p ax ay us vs xs ys := ⟨hx, hy, cx, cy, ix, iy, zx, zy⟩
  have l : Lp p ax ay us vs xs ys _ 0 0 #[] #[] [] [] s₅ := ⟨x, rfl, rfl, rfl, rfl, ⟨_, rfl⟩, ⟨_, rfl⟩, Nat.zero_le _, Nat.zero_le _, .nil, .nil, Nat.le_refl _, Nat.le_refl _⟩
  have H : Fs p (A.deeper (fEnv 6 s.heap.objs.size 77 76)) (eS p) envc := ⟨Around.frames_deeper hfr, rfl, hfc, (show ScopeKind.function ≠ ScopeKind.module by decide), hkc⟩
  refine wpAny_execs_cons ?_
  refine wpAny_While ?_
  refine codeAny_whileLoop (fun n s' => ∃ m i j M U ms ns, Lp p ax ay us vs xs ys m i j M U ms ns s' ∧ n = (xs.length - i) + (ys.length - j) ∧ Rel xs ys 0 0 [] [] i j ms ns) ?_ (xs.length + ys.length) ⟨_, _, _, _, _, _, _, l, rfl, Rel.refl⟩
  rintro n s' ⟨m, i, j, M, U, ms, ns, l, rfl, hr⟩
  refine wpAny_isTrue_value (wpAny_Constant_bool (wpAny_truthy_bool ?_))
  rw [if_pos rfl]
  refine wpAny_execs_cons ?_
  refine exec_as (st' := sldTry) (env' := eS p) rfl rfl ?_
  refine turn H (hA.deep _) G l ?_ ?_
  · intro s' m' i' j' M' U' ms' ns' l' hlt hr'
    refine wpAny_execs_nil ⟨_, hlt, _, _, _, _, _, _, _, l', rfl, fun a b hs => ?_⟩
    obtain ⟨a', b', h1, e1, e2⟩ := hr' a b hs
    obtain ⟨a'', b'', h2, e3, e4⟩ := hr a' b' h1
    exact ⟨a'', b'', h2, e1.trans e3, e2.trans e4⟩
  · rintro s' m' M' U' fm fn x' hm1 hm2 im iu ⟨a', b', hs, e1, e2⟩
    obtain ⟨a'', b'', h2, e3, e4⟩ := hr a' b' hs
    refine wpAny_execs_cons ?_
    refine wpAny_Return_some ?_
    refine wpAny_Tuple ?_
    refine wpAny_items_cons ?_
    refine nmN (env := eS p) x'.ns hm1 ?_
    refine wpAny_items_cons ?_
    refine nmN (env := eS p) x'.ns hm2 ?_
    refine wpAny_items_nil ⟨(show (2 : Nat) ≤ sizeLine by decide), ?_⟩
    refine h _ _ D1 D2 M' U' fm fn ?_ (x'.nc.push _) ⟨_, Heap.get?_push_size _ rfl, rfl, _, rfl⟩ ?_ ?_ im iu ?_
    · exact x'.ev.trans (EvoB.ofEvo (Evo.kp (tk := s'.toks) fun _ _ e => Heap.get?_push_of_some _ e))
    · exact x'.d1.at fun o e => Heap.get?_push_of_some _ e
    · exact x'.d2.at fun o e => Heap.get?_push_of_some _ e
    · rw [e1, e2, e3, e4]; simpa using h2
end Mine
end

section
open PySem PySem.W PyProof.Rows
set_option Elab.async false
set_option maxRecDepth 100000
namespace Mine
open PySem.Float64

/-- the unit: a 256th -/
def KF : Nat := 2 ^ 1066
theorem KF_pos : 0 < KF := Nat.two_pow_pos _
theorem KF_1074 : 2 ^ 1074 = 256 * KF := by unfold KF; rw [show (256 : Nat) = 2 ^ 8 from rfl, ← Nat.pow_add]

theorem rep {n : Nat} (h : n < 2 ^ 53) : ∃ t, t < infMag ∧ V t = n * KF := by
  by_cases h0 : n = 0
  · subst h0; exact ⟨0, by decide, by rw [V_zero, Nat.zero_mul]⟩
  · have l1 := Nat.log2_self_le h0
    have l2 : n < 2 ^ (n.log2 + 1) := Nat.lt_log2_self
    have l3 : n.log2 < 53 := (Nat.log2_lt h0).mpr h
    generalize n.log2 = l at *
    have q1 : 2 ^ 52 ≤ n * 2 ^ (52 - l) := by
      have : 2 ^ 52 = 2 ^ l * 2 ^ (52 - l) := by rw [← Nat.pow_add]; congr 1; omega
      rw [this]; exact Nat.mul_le_mul_right _ l1
    have q2 : n * 2 ^ (52 - l) < 2 ^ 53 := by
      have : 2 ^ 53 = 2 ^ (l + 1) * 2 ^ (52 - l) := by rw [← Nat.pow_add]; congr 1; omega
      rw [this]; exact Nat.mul_lt_mul_of_pos_right l2 (Nat.two_pow_pos _)
    refine ⟨(1066 - (52 - l)) * 2 ^ 52 + n * 2 ^ (52 - l), ?_, ?_⟩
    · have e : infMag = 2047 * 2 ^ 52 := rfl
      omega
    · rw [V_at (Nat.le_of_lt q2) (.inl q1), Nat.mul_assoc, ← Nat.pow_add, show 52 - l + (1066 - (52 - l)) = 1066 by omega]
      rfl

theorem V_inj {t t' : Nat} (h : V t = V t') : t = t' := by
  rcases Nat.lt_trichotomy t t' with q | q | q
  · have := V_lt q; omega
  · exact q
  · have := V_lt q; omega

theorem right_exact {r : UInt64} {neg : Bool} {W D n t' : Nat} (h : Right r neg W D) (hD : 0 < D) (hn : n < 2 ^ 53) (ht : t' < infMag) (hV : V t' = n * KF) (hW : W = D * (n * KF)) : r = pack neg t' := by
  obtain ⟨t, rfl, h1, h2, h3⟩ := h
  have hlt : t < infMag := by
    rcases Nat.lt_or_ge t infMag with q | q
    · exact q
    · exfalso
      have e := h2.mp (by omega)
      rw [hW] at e
      have e2 : D * ((2 ^ 54 - 1) * 2 ^ 2045) ≤ D * (2 * (n * KF)) := by
        calc D * ((2 ^ 54 - 1) * 2 ^ 2045) ≤ 2 * (D * (n * KF)) := e
          _ = D * (2 * (n * KF)) := by ac_rfl
      have e3 := Nat.le_of_mul_le_mul_left e2 hD
      have e4 : 2 * (n * KF) < 2 * (2 ^ 53 * KF) := by
        have := Nat.mul_lt_mul_of_pos_right hn KF_pos
        omega
      have e5 : 2 * (2 ^ 53 * KF) ≤ (2 ^ 54 - 1) * 2 ^ 2045 := by unfold KF; decide +kernel
      omega
  obtain ⟨h4, _⟩ := h3 hlt t'
  rw [hV, hW] at h4
  have : dist (D * (n * KF)) (D * (n * KF)) = 0 := by unfold dist; omega
  rw [this] at h4
  have h5 : D * (n * KF) = D * V t := by unfold dist at h4; omega
  have h6 := Nat.eq_of_mul_eq_mul_left hD h5
  rw [← hV] at h6
  rw [V_inj h6]

/-- a double that is k 256ths -/
def Fl (x : UInt64) (k : Int) : Prop := (∃ a m e, decode x = .fin a m e) ∧ val x = k * (KF : Int)

theorem Fl.of_right {r : UInt64} {k : Int} {W D : Nat} {neg : Bool} (h : Right r neg W D) (hD : 0 < D) (hk : k.natAbs < 2 ^ 53) (hneg : k = sgn neg k.natAbs) (hW : W = D * (k.natAbs * KF)) : Fl r k := by
  obtain ⟨t, ht, hV⟩ := rep hk
  have e := right_exact h hD hk ht hV hW
  subst e
  obtain ⟨m, e, hd, _⟩ := decode_pack neg ht
  refine ⟨⟨_, _, _, hd⟩, ?_⟩
  rw [val_pack neg ht, hV, sgn_mul, ← hneg]

theorem sgn_lt (k : Int) : k = sgn (decide (k < 0)) k.natAbs := by
  unfold sgn
  by_cases h : k < 0
  · rw [if_pos (decide_eq_true h)]; omega
  · rw [if_neg (by simpa using h)]; omega

theorem Fl.zero (neg : Bool) : Fl (PySem.Float64.zero neg) 0 := by
  obtain ⟨m, e, hd, _⟩ := decode_pack neg (t := 0) (by decide)
  refine ⟨⟨_, _, _, hd⟩, ?_⟩
  unfold PySem.Float64.zero
  rw [val_pack neg (by decide), V_zero, Int.zero_mul]
  cases neg <;> rfl

theorem Fl.ofInt {i : Int} (h : i.natAbs < 2 ^ 44) : Fl (ofInt i) (256 * i) := by
  refine Fl.of_right (ofInt_right i) (by decide) (by rw [Int.natAbs_mul]; simp only [Int.reduceAbs]; omega) ?_ ?_
  · have e : decide (i < 0) = decide (256 * i < 0) := by apply decide_eq_decide.mpr; omega
    rw [e]; exact sgn_lt _
  · rw [KF_1074, Nat.one_mul, Int.natAbs_mul]
    simp only [Int.reduceAbs]
    ac_rfl

theorem KFi_pos : (0 : Int) < (KF : Int) := Int.natCast_pos.mpr KF_pos
theorem mulKF_zero {k : Int} (h : k * (KF : Int) = 0) : k = 0 := by
  rcases Int.mul_eq_zero.mp h with h | h
  · exact h
  · have := KFi_pos; omega
theorem lt_mulKF {k : Int} : k * (KF : Int) < 0 ↔ k < 0 := by
  constructor
  · intro h
    rcases Int.lt_or_le k 0 with q | q
    · exact q
    · have := Int.mul_nonneg q (Int.le_of_lt KFi_pos); omega
  · intro h; exact Int.mul_neg_of_neg_of_pos h KFi_pos

theorem Fl.add {x y : UInt64} {j k : Int} (hx : Fl x j) (hy : Fl y k) (h : (j + k).natAbs < 2 ^ 53) : Fl (add x y) (j + k) := by
  obtain ⟨⟨a, m, e, dx⟩, vx⟩ := hx
  obtain ⟨⟨b, n, f, dy⟩, vy⟩ := hy
  obtain ⟨h0, h1⟩ := add_right dx dy
  have hv : val x + val y = (j + k) * (KF : Int) := by rw [vx, vy, Int.add_mul]
  rw [hv] at h0 h1
  by_cases hz : (j + k) * (KF : Int) = 0
  · rw [h0 hz, mulKF_zero hz]; exact .zero _
  · refine Fl.of_right (h1 hz) (by decide) h ?_ ?_
    · rw [show decide ((j + k) * (KF : Int) < 0) = decide (j + k < 0) from decide_eq_decide.mpr lt_mulKF]; exact sgn_lt _
    · rw [Nat.one_mul, Int.natAbs_mul, Int.natAbs_natCast]

theorem Fl.sub {x y : UInt64} {j k : Int} (hx : Fl x j) (hy : Fl y k) (h : (j - k).natAbs < 2 ^ 53) : Fl (sub x y) (j - k) := by
  obtain ⟨⟨a, m, e, dx⟩, vx⟩ := hx
  obtain ⟨⟨b, n, f, dy⟩, vy⟩ := hy
  obtain ⟨h0, h1⟩ := sub_right dx dy
  have hv : val x - val y = (j - k) * (KF : Int) := by rw [vx, vy, Int.sub_mul]
  rw [hv] at h0 h1
  by_cases hz : (j - k) * (KF : Int) = 0
  · rw [h0 hz, mulKF_zero hz]; exact .zero _
  · refine Fl.of_right (h1 hz) (by decide) h ?_ ?_
    · rw [show decide ((j - k) * (KF : Int) < 0) = decide (j - k < 0) from decide_eq_decide.mpr lt_mulKF]; exact sgn_lt _
    · rw [Nat.one_mul, Int.natAbs_mul, Int.natAbs_natCast]

theorem sgn_sign {a : Bool} {n : Nat} {j : Int} (h : sgn a n = j * (KF : Int)) (hj : j ≠ 0) : a = decide (j < 0) := by
  have hp := KFi_pos
  unfold sgn at h
  by_cases q : j < 0
  · have := Int.mul_neg_of_neg_of_pos q hp
    cases a
    · simp only [Bool.false_eq_true, if_false] at h; omega
    · rw [decide_eq_true q]
  · have := Int.mul_pos (show 0 < j by omega) hp
    cases a
    · rw [decide_eq_false q]
    · simp only [if_true] at h; omega

theorem Fl.sign {x : UInt64} {j : Int} {a : Bool} {m : Nat} {e : Int} (hv : val x = j * (KF : Int)) (dx : decode x = .fin a m e) (hj : j ≠ 0) : a = decide (j < 0) := by
  rw [val_eq dx] at hv
  exact sgn_sign hv hj

theorem sign_prod {j k l c : Int} (h : j * k = c * l) (hc : 0 < c) (hl : l ≠ 0) : j ≠ 0 ∧ k ≠ 0 ∧ ((decide (j < 0) != decide (k < 0)) = decide (l < 0)) := by
  have hj : j ≠ 0 := by
    rintro rfl
    rw [Int.zero_mul] at h
    rcases Int.mul_eq_zero.mp h.symm with q | q <;> omega
  have hk : k ≠ 0 := by
    rintro rfl
    rw [Int.mul_zero] at h
    rcases Int.mul_eq_zero.mp h.symm with q | q <;> omega
  refine ⟨hj, hk, ?_⟩
  have up : 0 < j * k → 0 < l := by
    intro q
    rw [h] at q
    by_cases z : 0 < l
    · exact z
    · have := Int.mul_nonneg (Int.le_of_lt hc) (show 0 ≤ -l by omega)
      rw [Int.mul_neg] at this; omega
  have dn : j * k < 0 → l < 0 := by
    intro q
    rw [h] at q
    by_cases z : l < 0
    · exact z
    · have := Int.mul_nonneg (Int.le_of_lt hc) (show 0 ≤ l by omega); omega
  by_cases q1 : j < 0 <;> by_cases q2 : k < 0
  · have := up (Int.mul_pos_of_neg_of_neg q1 q2)
    rw [decide_eq_true q1, decide_eq_true q2, decide_eq_false (show ¬ l < 0 by omega)]; rfl
  · have := dn (Int.mul_neg_of_neg_of_pos q1 (by omega))
    rw [decide_eq_true q1, decide_eq_false q2, decide_eq_true this]; rfl
  · have := dn (Int.mul_neg_of_pos_of_neg (by omega) q2)
    rw [decide_eq_false q1, decide_eq_true q2, decide_eq_true this]; rfl
  · have := up (Int.mul_pos (by omega) (by omega))
    rw [decide_eq_false q1, decide_eq_false q2, decide_eq_false (show ¬ l < 0 by omega)]; rfl

theorem Fl.mul {x y : UInt64} {j k l : Int} (hx : Fl x j) (hy : Fl y k) (h : j * k = 256 * l) (hl : l.natAbs < 2 ^ 53) : Fl (mul x y) l := by
  obtain ⟨⟨a, m, e, dx⟩, vx⟩ := hx
  obtain ⟨⟨b, n, f, dy⟩, vy⟩ := hy
  refine Fl.of_right (mul_right dx dy) (Nat.two_pow_pos _) hl ?_ ?_
  · by_cases h0 : l = 0
    · subst h0; cases (a != b) <;> rfl
    · obtain ⟨hj, hk, hs⟩ := sign_prod h (by decide) h0
      rw [Fl.sign vx dx hj, Fl.sign vy dy hk, hs]; exact sgn_lt _
  · have hn : j.natAbs * k.natAbs = 256 * l.natAbs := by rw [← Int.natAbs_mul, h, Int.natAbs_mul]; rfl
    rw [vx, vy, Int.natAbs_mul, Int.natAbs_mul, Int.natAbs_natCast, KF_1074]
    calc j.natAbs * KF * (k.natAbs * KF) = j.natAbs * k.natAbs * (KF * KF) := by ac_rfl
      _ = 256 * l.natAbs * (KF * KF) := by rw [hn]
      _ = 256 * KF * (l.natAbs * KF) := by ac_rfl

theorem Fl.div {x y : UInt64} {j k l : Int} (hx : Fl x j) (hy : Fl y k) (h : l * k = 256 * j) (hk : k ≠ 0) (hl : l.natAbs < 2 ^ 53) : Fl (div x y) l := by
  obtain ⟨⟨a, m, e, dx⟩, vx⟩ := hx
  obtain ⟨⟨b, n, f, dy⟩, vy⟩ := hy
  have hn0 : n ≠ 0 := by
    rintro rfl
    rw [val_eq dy, Nat.zero_mul] at vy
    refine hk (mulKF_zero (vy.symm.trans ?_))
    cases b <;> rfl
  refine Fl.of_right (div_right dx dy hn0) ?_ hl ?_ ?_
  · rw [vy, Int.natAbs_mul, Int.natAbs_natCast]; exact Nat.mul_pos (by omega) KF_pos
  · by_cases h0 : l = 0
    · subst h0; cases (a != b) <;> rfl
    · have hj : j ≠ 0 := by
        rintro rfl
        rcases Int.mul_eq_zero.mp (h.trans (Int.mul_zero _)) with q | q
        · exact h0 q
        · exact hk q
      obtain ⟨_, _, hs⟩ := sign_prod h (by decide) hj
      rw [Fl.sign vx dx hj, Fl.sign vy dy hk, ← hs]
      rw [show ((decide (l < 0) != decide (k < 0)) != decide (k < 0)) = decide (l < 0) by cases decide (l < 0) <;> cases decide (k < 0) <;> rfl]
      exact sgn_lt _
  · have hn : l.natAbs * k.natAbs = 256 * j.natAbs := by rw [← Int.natAbs_mul, h, Int.natAbs_mul]; rfl
    rw [vx, vy, Int.natAbs_mul, Int.natAbs_mul, Int.natAbs_natCast, KF_1074]
    calc j.natAbs * KF * (256 * KF) = 256 * j.natAbs * (KF * KF) := by ac_rfl
      _ = l.natAbs * k.natAbs * (KF * KF) := by rw [hn]
      _ = k.natAbs * KF * (l.natAbs * KF) := by ac_rfl

theorem Fl.isZero {x : UInt64} {k : Int} (hx : Fl x k) : isZero x = decide (k = 0) := by
  obtain ⟨⟨a, m, e, dx⟩, vx⟩ := hx
  rw [val_eq dx] at vx
  unfold PySem.Float64.isZero
  rw [dx]
  cases m with
  | zero =>
    rw [Nat.zero_mul] at vx
    have : k = 0 := mulKF_zero (vx.symm.trans (by cases a <;> rfl))
    rw [decide_eq_true this]; rfl
  | succ m =>
    have : ¬ k = 0 := by
      rintro rfl
      rw [Int.zero_mul] at vx
      have h2 := congrArg Int.natAbs vx
      rw [sgn_natAbs] at h2
      have h3 : 0 < (m + 1) * 2 ^ (e + 1074).toNat := Nat.mul_pos (by omega) (Nat.two_pow_pos _)
      simp only [Int.natAbs_zero] at h2
      omega
    rw [decide_eq_false this]; rfl
theorem Fl.isFinite {x : UInt64} {k : Int} (hx : Fl x k) : isFinite x = true := by
  obtain ⟨⟨a, m, e, dx⟩, vx⟩ := hx
  unfold PySem.Float64.isFinite
  rw [dx]
theorem Fl.cmpInt {x : UInt64} {k : Int} (hx : Fl x k) (i : Int) : cmpInt x i = some (compare k (256 * i)) := by
  obtain ⟨⟨a, m, e, dx⟩, vx⟩ := hx
  rw [cmpInt_right dx, vx, show (2 : Int) ^ 1074 = 256 * (KF : Int) by unfold KF; rw [Int.natCast_pow]; decide +kernel]
  congr 1
  have hp := KFi_pos
  rw [show i * (256 * (KF : Int)) = (256 * i) * (KF : Int) by rw [Int.mul_comm 256 i, Int.mul_assoc]]
  rcases Int.lt_trichotomy k (256 * i) with h | h | h
  · rw [Int.compare_eq_lt.mpr h, Int.compare_eq_lt.mpr (Int.mul_lt_mul_of_pos_right h hp)]
  · subst h; simp
  · rw [Int.compare_eq_gt.mpr h, Int.compare_eq_gt.mpr (Int.mul_lt_mul_of_pos_right h hp)]

theorem Fl.fma0 {x y z : UInt64} {j k l : Int} (hx : Fl x j) (hy : Fl y k) (hz : Fl z l) (h : j * k = 256 * l) : Fl (fma x y (neg z)) 0 := by
  obtain ⟨⟨a, m, e, dx⟩, vx⟩ := hx
  obtain ⟨⟨b, n, f, dy⟩, vy⟩ := hy
  obtain ⟨⟨c, r, g, dz⟩, vz⟩ := hz
  have he := decode_ge dx
  have hf := decode_ge dy
  have hg := decode_ge dz
  have dn := neg_decode dz
  have hs : sgn (a != b) (m * n * 2 ^ (e + f - min (e + f) g).toNat) + sgn (!c) (r * 2 ^ (g - min (e + f) g).toNat) = 0 := by
    generalize hG : min (e + f) g = G
    have hG1 : G ≤ e + f := by omega
    have hG2 : G ≤ g := by omega
    have hG3 : -2148 ≤ G := by omega
    have e1 : sgn (a != b) (m * n * 2 ^ (e + f - G).toNat) * ((2 ^ (G + 2148).toNat : Nat) : Int) = val x * val y := by
      rw [← sgn_mul, Nat.mul_assoc, ← Nat.pow_add, show (e + f - G).toNat + (G + 2148).toNat = (e + 1074).toNat + (f + 1074).toNat by omega, Nat.pow_add, val_eq dx, val_eq dy]
      rw [show m * n * (2 ^ (e + 1074).toNat * 2 ^ (f + 1074).toNat) = (m * 2 ^ (e + 1074).toNat) * (n * 2 ^ (f + 1074).toNat) by ac_rfl]
      generalize m * 2 ^ (e + 1074).toNat = u
      generalize n * 2 ^ (f + 1074).toNat = v
      unfold sgn; cases a <;> cases b <;> simp [Int.neg_mul, Int.mul_neg]
    have e2 : sgn (!c) (r * 2 ^ (g - G).toNat) * ((2 ^ (G + 2148).toNat : Nat) : Int) = -val z * ((2 ^ 1074 : Nat) : Int) := by
      rw [← sgn_mul, Nat.mul_assoc, ← Nat.pow_add, show (g - G).toNat + (G + 2148).toNat = (g + 1074).toNat + 1074 by omega, Nat.pow_add, val_eq dz, sgn_not, ← Nat.mul_assoc, sgn_mul, Int.neg_mul]
    have e3 : val x * val y + -val z * ((2 ^ 1074 : Nat) : Int) = 0 := by
      rw [vx, vy, vz, KF_1074, Int.natCast_mul]
      have : j * (KF : Int) * (k * (KF : Int)) = j * k * ((KF : Int) * (KF : Int)) := by ac_rfl
      rw [this, h]
      have : -(l * (KF : Int)) * (((256 : Nat) : Int) * (KF : Int)) = -(256 * l * ((KF : Int) * (KF : Int))) := by
        rw [Int.neg_mul]; congr 1
        show l * (KF : Int) * (256 * (KF : Int)) = _
        ac_rfl
      rw [this]; omega
    rw [← e1, ← e2, ← Int.add_mul] at e3
    rcases Int.mul_eq_zero.mp e3 with q | q
    · exact q
    · have : (0 : Int) < ((2 ^ (G + 2148).toNat : Nat) : Int) := Int.ofNat_lt.mpr (Nat.two_pow_pos _)
      omega
  unfold fma
  rw [dx, dy, dn]
  simp only [align, hs, beq_self_eq_true, if_true]
  exact .zero _

/-- the partials of fsum -/
def FS (ps : List UInt64) (S : Int) : Prop := (ps = [] ∧ S = 0) ∨ ∃ y, ps = [y] ∧ Fl y S
theorem FS.fin {ps : List UInt64} {S : Int} (h : FS ps S) : Fl (fsumEnd ps) S := by
  rcases h with ⟨rfl, rfl⟩ | ⟨y, rfl, hy⟩
  · exact .zero _
  · exact hy
theorem FS.step {ps : List UInt64} {S k : Int} {x : UInt64} (h : FS ps S) (hx : Fl x k) (hS : S.natAbs < 2 ^ 50) (hk : k.natAbs < 2 ^ 50) : (fsumAdd ps x).1 = [] ∧ Fl (fsumAdd ps x).2 (S + k) := by
  rcases h with ⟨rfl, rfl⟩ | ⟨y, rfl, hy⟩
  · exact ⟨rfl, by rw [Int.zero_add]; exact hx⟩
  · have gen : ∀ {u v : UInt64} {j l : Int}, Fl u j → Fl v l → j.natAbs < 2 ^ 50 → l.natAbs < 2 ^ 50 → Fl (PySem.Float64.add u v) (j + l) ∧ PySem.Float64.isZero (PySem.Float64.sub v (PySem.Float64.sub (PySem.Float64.add u v) u)) = true := by
      intro u v j l hu hv h1 h2
      have a1 := hu.add hv (by omega)
      have a2 := a1.sub hu (by omega)
      have a3 := hv.sub a2 (by omega)
      exact ⟨a1, by rw [a3.isZero]; exact decide_eq_true (by omega)⟩
    unfold fsumAdd
    by_cases q : lt (PySem.Float64.abs x) (PySem.Float64.abs y) = true
    · obtain ⟨g1, g2⟩ := gen hy hx hS hk
      simp only [q, if_true, fsumAdd, g2]
      exact ⟨trivial, g1⟩
    · obtain ⟨g1, g2⟩ := gen hx hy hk hS
      simp only [q, if_false, fsumAdd, g2, Bool.false_eq_true, if_true]
      exact ⟨trivial, by rw [Int.add_comm]; exact g1⟩
theorem FS.next {S : Int} {top : UInt64} (h : Fl top S) : FS (if PySem.Float64.isZero top = true then [] else [] ++ [top]) S := by
  rw [h.isZero]
  by_cases q : S = 0
  · rw [decide_eq_true q]; exact .inl ⟨rfl, q⟩
  · rw [decide_eq_false q]; exact .inr ⟨top, rfl, h⟩

open PySem.Builtin.Math in
theorem dlSum_fl {x y : UInt64} {j k : Int} (hx : Fl x j) (hy : Fl y k) (hj : j.natAbs < 2 ^ 50) (hk : k.natAbs < 2 ^ 50) : Fl (dlSum x y).1 (j + k) ∧ Fl (dlSum x y).2 0 := by
  have a1 := hx.add hy (by omega)
  have a2 := a1.sub hx (by omega)
  have a3 := a1.sub a2 (by omega)
  have a4 := hx.sub a3 (by omega)
  have a5 := hy.sub a2 (by omega)
  have a6 := a4.add a5 (by omega)
  refine ⟨a1, ?_⟩
  have e : j - (j + k - (j + k - j)) + (k - (j + k - j)) = 0 := by omega
  rw [e] at a6
  exact a6
open PySem.Builtin.Math in
theorem tlFma_fl {x y : UInt64} {t : UInt64 × UInt64 × UInt64} {j k l S : Int} (hx : Fl x j) (hy : Fl y k) (h : j * k = 256 * l) (hl : l.natAbs < 2 ^ 50) (hS : S.natAbs < 2 ^ 50) (h1 : Fl t.1 S) (h2 : Fl t.2.1 0) (h3 : Fl t.2.2 0) :
    Fl (tlFma x y t).1 (S + l) ∧ Fl (tlFma x y t).2.1 0 ∧ Fl (tlFma x y t).2.2 0 := by
  have z1 := hx.mul hy h (by omega)
  have z2 := hx.fma0 hy z1 h
  obtain ⟨s1, s2⟩ := dlSum_fl h1 z1 hS hl
  obtain ⟨r1, r2⟩ := dlSum_fl h2 z2 (by decide) (by decide)
  obtain ⟨q1, q2⟩ := dlSum_fl r1 s2 (by decide) (by decide)
  refine ⟨s1, q1, ?_⟩
  exact (h3.add r2 (by decide)).add q2 (by decide)
open PySem.Builtin.Math in
theorem tlEnd_fl {t : UInt64 × UInt64 × UInt64} {S : Int} (hS : S.natAbs < 2 ^ 50) (h1 : Fl t.1 S) (h2 : Fl t.2.1 0) (h3 : Fl t.2.2 0) : Fl (tlToFloat t) S := by
  obtain ⟨s1, s2⟩ := dlSum_fl h2 h1 (by decide) hS
  have := (h3.add s2 (by decide)).add s1 (by omega)
  rw [show (0 : Int) + 0 + (0 + S) = S by omega] at this
  exact this
theorem bits_back (x : UInt64) : ((x.toNat : Int)).toNat.toUInt64 = x := by
  rw [Int.toNat_natCast]
  exact UInt64.ofNat_toNat
end Mine
end

section
open PySem PySem.W PyProof.Rows
set_option Elab.async false
set_option maxRecDepth 100000
namespace Mine
open PySem.Float64 (fsumAdd fsumEnd)

/-- n more calls have room -/
structure Lo (n : Nat) (A : Around) : Prop where
  handled : A.handled = none
  depth : A.depth + n < recursionLimit
theorem Air.lo {A : Around} (h : Air A) : Lo 8 A := ⟨h.handled, h.depth⟩
theorem Lo.deep {n : Nat} {A : Around} (h : Lo (n + 1) A) (env : Env) : Lo n (A.deeper env) := ⟨h.handled, by have := h.depth; show A.depth + 1 + n < _; omega⟩
theorem Lo.mono {n m : Nat} {A : Around} (h : Lo n A) (hm : m ≤ n) : Lo m A := ⟨h.handled, by have := h.depth; omega⟩

theorem kind_fsum : builtinKind "math.fsum" = none := by decide +kernel
theorem plain_fsum : plainId "math.fsum" = true := by decide +kernel
theorem entry_fsum : entryFor table "math.fsum" = some Builtin.«math.fsum» := entryFor_of_fast (by kernel_rfl)
theorem args_fsum (a : Value) : argsOk "math.fsum" ⟨[a], []⟩ := by unfold argsOk; kernel_rfl
theorem plain_fsumL : plainId "math.fsum.loop" = true := by decide +kernel
theorem entry_fsumL : entryFor table "math.fsum.loop" = some Builtin.«math.fsum.loop» := entryFor_of_fast (by kernel_rfl)

theorem notOver {n : Int} (h : n.natAbs ≤ 2 ^ 40) : ¬ Flt.Over n := fun o => absurd (Nat.le_trans o h) (by decide +kernel)

/-- small ints -/
def Sm (ns : List Int) : Prop := ns.length ≤ 16 ∧ ∀ n ∈ ns, n.natAbs ≤ 30
theorem sum_small : ∀ (ns : List Int), (∀ n ∈ ns, n.natAbs ≤ 30) → ns.sum.natAbs ≤ 30 * ns.length
  | [], _ => by simp
  | a :: r, h => by
    have h1 := h a (List.mem_cons_self ..)
    have h2 := sum_small r fun n hn => h n (List.mem_cons_of_mem _ hn)
    rw [List.sum_cons, List.length_cons]
    omega
theorem Sm.take {ns : List Int} (h : Sm ns) (i : Nat) : (ns.take i).sum.natAbs ≤ 480 := by
  have h1 := sum_small (ns.take i) fun n hn => h.2 n (List.mem_of_mem_take hn)
  have h2 := h.1
  rw [List.length_take] at h1
  omega
theorem sum_take_succ {ns : List Int} {i : Nat} (h : i < ns.length) : (ns.take (i + 1)).sum = (ns.take i).sum + ns.getD i 0 := by
  rw [List.take_add_one, List.sum_append, List.getD_eq_getElem?_getD, List.getElem?_eq_getElem h]
  simp
theorem Sm.getD {ns : List Int} (h : Sm ns) (i : Nat) : (ns.getD i 0).natAbs ≤ 30 := by
  by_cases q : i < ns.length
  · rw [List.getD_eq_getElem?_getD, List.getElem?_eq_getElem q]; exact h.2 _ (List.getElem_mem q)
  · rw [List.getD_eq_getElem?_getD, List.getElem?_eq_none (by omega)]; decide

def bitsOf (ps : List UInt64) : List Value := ps.map fun x => rawInt x.toNat
theorem bitsOf_back (ps : List UInt64) (g : Value → UInt64) (hg : ∀ i t, g (.int i t) = i.toNat.toUInt64) : (bitsOf ps).map g = ps := by
  unfold bitsOf
  rw [List.map_map]
  induction ps with
  | nil => rfl
  | cons x r ih => rw [List.map_cons, ih]; exact congrArg (· :: r) ((hg _ _).trans (bits_back x))
/-- a tuple of doubles -/
def BitsAt (h : Heap) (a : Addr) (ps : List UInt64) : Prop := ∃ o n, h.get? a = some o ∧ o.data = .seq (bitsOf ps).toArray n
theorem BitsAt.at {h h' : Heap} {a : Addr} {ps} (x : BitsAt h a ps) (k : ∀ o, h.get? a = some o → h'.get? a = some o) : BitsAt h' a ps := let ⟨o, n, e, d⟩ := x; ⟨o, n, k o e, d⟩

section
variable {w : World} {A : Around} {E : Value → Shared → Prop} {s : Shared} {R : Result → Shared → Prop}

theorem fsum_loop {I ax sp : Addr} {vs : List Value} {ns : List Int} (hh : A.handled = none) (hne : ax ≠ I) (hi : IntsAre vs ns) (hs : Sm ns) :
    ∀ (k i : Nat) (s : Shared) (p : Addr) (ps : List UInt64), ns.length - i = k → i ≤ ns.length → s.heap.IsListIter I ax i → s.heap.IsList ax vs.toArray → BitsAt s.heap p ps → BitsAt s.heap sp [Float64.zero false, Float64.zero false] → p ≠ I → sp ≠ I →
      FS ps (256 * (ns.take i).sum) →
      (∀ h' tk x t, (∀ b o, b ≠ I → s.heap.get? b = some o → h'.get? b = some o) → Fl x (256 * ns.sum) → R (.ok (.ret (.float x t))) { s with heap := h', toks := tk }) →
      codeAny (model prg w) A (.builtin "math.fsum.loop" ⟨[.ref I, .ref p, .ref sp], []⟩) R s := by
  have W : Walks prg w A.in1 I [I, ax] [I] vs.toArray.size _ _ := Walks.list (A := A.in1) hh I ax hne vs.toArray
  have hlen := hi.length
  intro k
  induction k with
  | zero =>
    intro i s p ps hk hin hit hl hp hsp hpI hspI hfs hR
    have : i = ns.length := by omega
    subst this
    obtain ⟨op, np, ep, dp⟩ := hp
    obtain ⟨os, ns', es, ds⟩ := hsp
    refine codeAny_builtin entry_fsumL ?_
    rw [Around.under_plainId plain_fsumL _]
    show wpAny _ A.in1 ((seqItems? (.ref p) >>= _) >>= _) _ _ s
    refine wpAny_bind (wpAny_bind (wpAny_seqItems ep dp (wpAny_pure ?_)))
    rw [show (Option.getD (some (bitsOf ps).toArray) #[]).toList = bitsOf ps from rfl, bitsOf_back _ _ (fun _ _ => rfl)]
    show wpAny _ A.in1 ((seqItems? (.ref sp) >>= _) >>= _) _ _ s
    refine wpAny_bind (wpAny_bind (wpAny_seqItems es ds (wpAny_pure ?_)))
    rw [show (Option.getD (some (bitsOf [Float64.zero false, Float64.zero false]).toArray) #[]).toList = bitsOf [Float64.zero false, Float64.zero false] from rfl, bitsOf_back _ _ (fun _ _ => rfl)]
    show wpAny _ A.in1 (pyNext (.ref I) >>= _) _ _ s
    refine wpAny_bind (W.done s _ _ (by rw [show vs.toArray.size = ns.length by simpa using hlen]; exact ⟨hit, hl⟩) fun h' tk hk' => ?_)
    show wpAny _ A.in1 (if (!Float64.isZero (Float64.zero false)) = true then _ else _) _ _ _
    rw [if_neg (by rw [(Fl.zero false).isZero]; decide)]
    show wpAny _ A.in1 (mkFloat (fsumEnd ps) >>= _) _ _ _
    refine wpAny_bind (wpAny_mkFloat (wpAny_pure ?_))
    rw [List.take_length] at hfs
    exact hR _ _ _ _ (fun b o hb e => hk' b o (by simpa using hb) e) hfs.fin
  | succ k ih =>
    intro i s p ps hk hin hit hl hp hsp hpI hspI hfs hR
    have hlt : i < ns.length := by omega
    obtain ⟨op, np, ep, dp⟩ := id hp
    obtain ⟨os, ns', es, ds⟩ := id hsp
    refine codeAny_builtin entry_fsumL ?_
    rw [Around.under_plainId plain_fsumL _]
    show wpAny _ A.in1 ((seqItems? (.ref p) >>= _) >>= _) _ _ s
    refine wpAny_bind (wpAny_bind (wpAny_seqItems ep dp (wpAny_pure ?_)))
    rw [show (Option.getD (some (bitsOf ps).toArray) #[]).toList = bitsOf ps from rfl, bitsOf_back _ _ (fun _ _ => rfl)]
    show wpAny _ A.in1 ((seqItems? (.ref sp) >>= _) >>= _) _ _ s
    refine wpAny_bind (wpAny_bind (wpAny_seqItems es ds (wpAny_pure ?_)))
    rw [show (Option.getD (some (bitsOf [Float64.zero false, Float64.zero false]).toArray) #[]).toList = bitsOf [Float64.zero false, Float64.zero false] from rfl, bitsOf_back _ _ (fun _ _ => rfl)]
    show wpAny _ A.in1 (pyNext (.ref I) >>= _) _ _ s
    refine wpAny_bind (W.item i s _ _ (by rw [show vs.toArray.size = ns.length by simpa using hlen]; exact hlt) ⟨hit, hl⟩ fun v h' tk hP hst' hk' => ?_)
    obtain ⟨t, e⟩ := intsGet hi hlt
    obtain rfl : v = .int (ns.getD i 0) t := by
      have : vs.toArray[i]? = some v := hP
      rw [List.getElem?_toArray, e] at this; cases this; rfl
    show wpAny _ A.in1 (holding _ (Builtin.Math.realArg (.int (ns.getD i 0) t)) >>= _) _ _ _
    refine wpAny_bind (wpAny_holding (Flt.realArg_int hh (fun o => absurd o (notOver (by have := hs.getD i; omega))) fun _ => ?_))
    have hx := Fl.ofInt (i := ns.getD i 0) (by have := hs.getD i; omega)
    obtain ⟨g1, g2⟩ := hfs.step hx (by have := hs.take i; omega) (by have := hs.getD i; omega)
    show wpAny _ A.in1 (if Float64.isFinite (fsumAdd ps (Float64.ofInt (ns.getD i 0))).2 = true then _ else _) _ _ _
    rw [if_pos g2.isFinite]
    have g3 := FS.next g2
    rw [show 256 * (ns.take i).sum + 256 * ns.getD i 0 = 256 * (ns.take (i + 1)).sum by rw [sum_take_succ hlt]; omega] at g3
    have g1' : ∀ top : UInt64, (if Float64.isZero top = true then (fsumAdd ps (Float64.ofInt (ns.getD i 0))).1 else (fsumAdd ps (Float64.ofInt (ns.getD i 0))).1 ++ [top]) = (if Float64.isZero top = true then [] else [] ++ [top]) := by intro top; rw [g1]
    show wpAny _ A.in1 (newTuple (bitsOf (if Float64.isZero (fsumAdd ps (Float64.ofInt (ns.getD i 0))).2 = true then (fsumAdd ps (Float64.ofInt (ns.getD i 0))).1 else (fsumAdd ps (Float64.ofInt (ns.getD i 0))).1 ++ [(fsumAdd ps (Float64.ofInt (ns.getD i 0))).2])) >>= _) _ _ _
    rw [g1']
    have hI : I < h'.objs.size := let ⟨_, q, _, _⟩ := hst'.1; Heap.lt_size q
    refine wpAny_bind (wpAny_newTuple ?_ ?_)
    · refine wpAny_pure ⟨plainId_quiet plain_fsumL _, ?_⟩
      have k2 : ∀ b o, b ≠ I → s.heap.get? b = some o → (h'.push { cls := .type "tuple", data := .seq (bitsOf (if Float64.isZero (fsumAdd ps (Float64.ofInt (ns.getD i 0))).2 = true then [] else [] ++ [(fsumAdd ps (Float64.ofInt (ns.getD i 0))).2])).toArray }).get? b = some o :=
        fun b o hb e => Heap.get?_push_of_some _ (hk' b o (by simpa using hb) e)
      refine ih (i + 1) _ h'.objs.size _ (by omega) hlt (hst'.1.at fun o e => Heap.get?_push_of_some _ e) (hst'.2.at fun o e => Heap.get?_push_of_some _ e) ⟨_, _, Heap.get?_push_size _ rfl, rfl⟩ (hsp.at fun o e => k2 _ o hspI e) (Nat.ne_of_gt hI) hspI g3 ?_
      intro h'' tk'' x t'' hk'' hfl
      exact hR h'' tk'' x t'' (fun b o hb e => hk'' b o hb (k2 b o hb e)) hfl
    · split
      · exact by decide
      · show (1 : Nat) ≤ sizeLine
        decide

theorem fsum_call {ax : Addr} {vs : List Value} {ns : List Int} {Q : Value → Shared → Prop} (hA : Lo 0 A) (hl : s.heap.IsList ax vs.toArray) (hi : IntsAre vs ns) (hs : Sm ns)
    (h : ∀ s' x t, Evo s s' → Fl x (256 * ns.sum) → Q (.float x t) s') : wpAny (model prg w) A (call (.builtin "math.fsum") [.ref ax]) Q E s := by
  have hax : ax < s.heap.objs.size := by obtain ⟨_, e, _⟩ := hl; exact Heap.lt_size e
  refine call_function_tree kind_fsum plain_fsum entry_fsum (args_fsum _) ?_
  show wpAny _ A.in1 (Builtin.Math.mathOne "fsum" ⟨[.ref ax], []⟩ >>= _) _ _ s
  refine wpAny_bind (wpAny_of_eq (show Builtin.Math.mathOne "fsum" ⟨[.ref ax], []⟩ = pure (.ref ax) from rfl) ?_)
  show wpAny _ A.in1 (pyIter (.ref ax) >>= _) _ _ s
  refine wpAny_bind (wpAny_pyIter_list hl ?_)
  refine wpAny_bind (wpAny_newTuple (items := bitsOf []) ?_)
  refine wpAny_bind (wpAny_newTuple (items := bitsOf [Float64.zero false, Float64.zero false]) ?_)
  refine wpAny_pure ⟨plainId_quiet plain_fsumL _, ?_⟩
  generalize hh1 : s.heap.push { cls := .type "list_iterator", data := .fields #[.ref ax, .int 0 0] } = h1
  generalize hh2 : h1.push { cls := .type "tuple", data := .seq (bitsOf []).toArray } = h2
  have s1 : h1.objs.size = s.heap.objs.size + 1 := by rw [← hh1, Heap.size_push]
  have s2 : h2.objs.size = s.heap.objs.size + 2 := by rw [← hh2, Heap.size_push, s1]
  refine fsum_loop (A := A) hA.handled (Nat.ne_of_lt hax) hi hs ns.length 0 _ h1.objs.size [] (Nat.sub_zero _) (Nat.zero_le _) ?_ ?_ ?_ ?_ (by rw [s1]; exact Nat.succ_ne_self _) ?_ (.inl ⟨rfl, rfl⟩) ?_
  · have e1 : h1.get? s.heap.objs.size = some { cls := .type "list_iterator", data := .fields #[.ref ax, .int 0 0] } := by rw [← hh1]; exact Heap.get?_push_size _ rfl
    have e2 : h2.get? s.heap.objs.size = some { cls := .type "list_iterator", data := .fields #[.ref ax, .int 0 0] } := by rw [← hh2]; exact Heap.get?_push_of_some _ e1
    exact ⟨_, Heap.get?_push_of_some _ e2, rfl, rfl⟩
  · refine hl.at fun o e => Heap.get?_push_of_some _ ?_
    rw [← hh2]; refine Heap.get?_push_of_some _ ?_
    rw [← hh1]; exact Heap.get?_push_of_some _ e
  · have e2 : h2.get? h1.objs.size = some { cls := .type "tuple", data := .seq (bitsOf []).toArray } := by rw [← hh2]; exact Heap.get?_push_size _ rfl
    exact ⟨_, _, Heap.get?_push_of_some _ e2, rfl⟩
  · exact ⟨_, _, Heap.get?_push_size _ rfl, rfl⟩
  · show h2.objs.size ≠ _
    rw [s2]; omega
  · intro h' tk x t hk hfl
    refine h _ x t (Evo.kp (s := s) (tk := tk) fun b o e => hk b o (Nat.ne_of_lt (Heap.lt_size e)) ?_) hfl
    refine Heap.get?_push_of_some _ ?_
    rw [← hh2]; refine Heap.get?_push_of_some _ ?_
    rw [← hh1]; exact Heap.get?_push_of_some _ e
end
end Mine
end

section
open PySem PySem.W PyProof.Rows
set_option Elab.async false
set_option maxRecDepth 100000
namespace Mine

/-- what a generator of covariance gives -/
def GF (ns : List Int) (kb : Int) : Nat → Value → Prop := fun i y => ∃ x t, y = .float x t ∧ Fl x (256 * ns.getD i 0 - kb)

theorem GenAt.move {A : Around} {w : World} {a C : Addr} {g n₀ j : Nat} {fp wr : List Addr} {pz : Nat → Bool} {F : Nat → Value → Prop} {s s' : Shared}
    (x : GenAt prg w A a g C fp wr pz n₀ F j s) (hk : ∀ b, b = a ∨ b = C ∨ b ∈ fp → ∀ o, s.heap.get? b = some o → s'.heap.get? b = some o) (hcs : cStatics ∈ fp) (hg : s'.gens[g]? = s.gens[g]?) :
    GenAt prg w A a g C fp wr pz n₀ F j s' := by
  obtain ⟨⟨o, nm, qn, ho, r⟩, ⟨mc, hns, hnn⟩, gs, hgs, hgo⟩ := x
  refine ⟨⟨o, nm, qn, hk a (.inl rfl) o ho, r⟩, ⟨mc, hns.at' fun o e => hk _ (.inr (.inr hcs)) o e, hnn⟩, gs, hg.trans hgs, fun s'' hal => hgo s'' fun b hb o e => hal b hb o (hk b ?_ o e)⟩
  rcases List.mem_cons.mp hb with rfl | hb
  · exact .inr (.inl rfl)
  · exact .inr (.inr hb)

section
variable {w : World} {A : Around} {E : Value → Shared → Prop} {s : Shared} {env : Env}

theorem genCode {pos : Pos} {q : Str} {scope : Scope} {Q : Value → Shared → Prop} (W : Wd s.heap) (hc : env.code = .ref 69)
    (h : ∀ c s', Evo s s' → s'.gens = s.gens → Q c s') : wpAny (model prg w) A (genexprCode env pos q scope) Q E s := by
  obtain ⟨ps, hok, htab⟩ := W.tab
  cases hf : codeAmong pos ps.toList with
  | some c => exact wpAny_genexprCode_hit hc hok hf (h c s (.refl _ _) rfl)
  | none =>
    refine wpAny_genexprCodeX hc hok htab hf fun c' h' tk hk _ _ hok' _ htab' _ => h _ _ ⟨rfl, fun b o _ h65 e => hk b o h65 e, id, fun _ => ⟨_, hok', htab'⟩⟩ rfl

theorem genBi {Q : Addr → Shared → Prop} {r : Addr} (W : Wd s.heap) (h : Q builtinsNs s) : wpAny (model prg w) A (builtinsFor mainGlobals r) Q E s := by
  obtain ⟨ob, h1, h2, h3, h4⟩ := W.bmod
  obtain ⟨⟨mg, mb, g, b, n⟩, _⟩ := W
  exact wpAny_builtinsFor g n.bi (by decide) h1 h2 h3 h4 h

theorem gen_make {x bar ax' : Str} {px p1 p2 p3 pe : Pos} {scope : Scope} {cl : List (Str × Addr)} {pos : Pos} {ax c : Addr} {vs : List Value} {ns : List Int} {xb : UInt64} {tb : Tok} {kb : Int} {Q : Value → Shared → Prop}
    (hA : Lo 0 A) (W : Wd s.heap) (hl : s.heap.IsList ax vs.toArray) (hi : IntsAre vs ns) (hs : Sm ns) (hc : s.heap.IsCell c (some (.float xb tb))) (hfl : Fl xb kb) (hkb : kb.natAbs ≤ 2 ^ 30)
    (hcode : env.code = .ref 69) (hglob : env.globals = mainGlobals)
    (hev : ∀ Q : Value → Shared → Prop, Q (.ref ax) s → wpAny (model prg w) A (eval (.Name ax' p3) env) Q E s)
    (hclos : closureFor scope env = pure cl) (hcl : cl.lookup bar = some c)
    (hco : scope.isCoroutine = false) (hcell : ∀ y ∈ scope.names, y.2 ≠ .cell) (h0 : scope.names.lookup (".0" : Str) = some NameKind.local)
    (hx : scope.names.lookup x = some .local) (hbar : scope.names.lookup bar = some .free) (hkind : scope.kind = .function)
    (hdx : (x == ("__debug__" : Str)) = false) (hdb : (bar == ("__debug__" : Str)) = false) (hdc : (bar == ("__classdict__" : Str)) = false) (hcb : @LT.lt Nat _ 111 c)
    (h : ∀ a I C s', Evo s s' → s.heap.objs.size ≤ I → I < C → C < a → a < s'.heap.objs.size →
      s'.gens.size = s.gens.size + 1 → (∀ k, k < s.gens.size → s'.gens[k]? = s.gens[k]?) →
      GenAt prg w A.in4 a s.gens.size C [I, ax, c, cStatics] [I] (fun _ => true) ns.length (GF ns kb) 0 s' → Q (.ref a) s') :
    wpAny (model prg w) A (eval (.GeneratorExp (.BinOp (.Name x p1) .Sub (.Name bar p2) pe) [⟨.Name x px, .Name ax' p3, [], 0⟩] scope pos) env) Q E s := by
  have hb := W.size
  have hax : ax < s.heap.objs.size := by obtain ⟨_, e, _⟩ := hl; exact Heap.lt_size e
  have hcz : c < s.heap.objs.size := by obtain ⟨_, e, _⟩ := hc; exact Heap.lt_size e
  have ne5 := isList_ne W.tab hl
  have nc5 : c ≠ 65 := fun h => absurd hcb (by rw [h]; decide)
  refine wpAny_GeneratorExp_make hco hclos hcell h0 hkind (by have := hA.depth; omega) (hev _ ?_) (fun _ => rfl)
  refine wpAny_pyIter_list hl ?_
  generalize hh1 : s.heap.push { cls := .type "list_iterator", data := .fields #[.ref ax, .int 0 0] } = h1
  have z1 : h1.objs.size = s.heap.objs.size + 1 := by rw [← hh1, Heap.size_push]
  have k1 : ∀ b o, s.heap.get? b = some o → h1.get? b = some o := fun b o e => by rw [← hh1]; exact Heap.get?_push_of_some _ e
  have ev1 : Evo s { s with heap := h1 } := Evo.kp (tk := s.toks) k1
  have W1 : Wd h1 := W.keeps k1
  have it1 : h1.IsListIter s.heap.objs.size ax 0 := ⟨{ cls := .type "list_iterator", data := .fields #[.ref ax, .int 0 0] }, by rw [← hh1]; exact Heap.get?_push_size _ rfl, rfl, rfl⟩
  refine ⟨W1.nolimit, ?_⟩
  refine genCode (s := { s with heap := h1 }) W1 hcode fun code s₃ ev3 hg3 => ?_
  have W3 : Wd s₃.heap := Wd.evo (s := { s with heap := h1 }) W1 ev3
  rw [hglob]
  refine genBi W3 fun h' hn' hs' => ?_
  have ev03 := ev1.trans ev3
  have le3 : ∀ b, b < h1.objs.size → b ≠ 65 → (h1.get? b).isSome → b < s₃.heap.objs.size := fun b _ h5 e => by
    obtain ⟨o, ho⟩ := Option.isSome_iff_exists.mp e
    exact Heap.lt_size (ev3.keep b o (fun h => nomatch h) h5 ho)
  have nI5 : s.heap.objs.size ≠ 65 := fun h => absurd hb (by rw [h]; decide)
  have hI3 : s.heap.objs.size < s₃.heap.objs.size := le3 _ (by rw [z1]; exact Nat.lt_succ_self _) nI5 (by rw [← hh1, Heap.get?_push_size _ rfl]; rfl)
  have k4 : ∀ b o, s₃.heap.get? b = some o → h'.get? b = some o := fun b o e => hs'.extBut b o (Nat.ne_of_lt (Heap.lt_size e)) (Heap.get?_push_of_some _ e)
  have z4 : h'.objs.size = s₃.heap.objs.size + 1 := by rw [hs'.1, Heap.size_push]
  generalize hh5 : h'.push { cls := .type "generator", data := .fields #[.int s₃.gens.size 0, .str "<genexpr>" (s₃.toks + 1), .str (env.qual ++ "<genexpr>") (s₃.toks + 1 + 1)] } = h5
  have z5 : h5.objs.size = s₃.heap.objs.size + 2 := by rw [← hh5, Heap.size_push, z4]
  have k5 : ∀ b o, s₃.heap.get? b = some o → h5.get? b = some o := fun b o e => by rw [← hh5]; exact Heap.get?_push_of_some _ (k4 b o e)
  have hgs : s₃.gens = s.gens := hg3
  have evF : ∀ tk (gs : GenState), gs.bare = true → Evo s { s₃ with heap := h5, toks := tk, gens := s₃.gens.push gs } := by
    intro tk gs hgb
    refine ⟨ev03.os, fun b o hb h65 e => k5 b o (ev03.keep b o hb h65 e), fun hal y hy => ?_, fun t => (ev03.tab t).keeps (fun o e => k5 _ o e) fun o e => k5 _ o e⟩
    rcases Array.mem_push.mp hy with hy | rfl
    · exact ev03.gens hal y hy
    · exact hgb
  refine h h'.objs.size s.heap.objs.size s₃.heap.objs.size _ (evF _ _ rfl) (Nat.le_refl _) hI3 ?_ ?_ ?_ ?_ ?_
  · rw [z4]; exact Nat.lt_succ_self _
  · show h'.objs.size < h5.objs.size; rw [z4, z5]; omega
  · show (s₃.gens.push _).size = _; rw [Array.size_push, hgs]
  · intro k hk
    show (s₃.gens.push _)[k]? = _
    have hk' : k < s₃.gens.size := by rw [hgs]; exact hk
    rw [Array.getElem?_push_lt hk', ← hgs, Array.getElem?_eq_getElem hk']
  · have hcell5 : h5.IsCell c (some (.float xb tb)) := let ⟨o, e, d⟩ := hc; ⟨o, k5 c o (ev03.keep c o (fun h => nomatch h) nc5 e), d⟩
    have hl5 : h5.IsList ax vs.toArray := hl.at fun o e => k5 ax o (ev03.keep ax o (fun h => nomatch h) ne5 e)
    have hit5 : h5.IsListIter s.heap.objs.size ax 0 := it1.at fun o e => k5 _ o (ev3.keep _ o (fun h => nomatch h) nI5 e)
    have hlen := hi.length
    rw [← hgs, ← hlen]
    have hnl : ∀ {z : Shared}, z.heap = h5 → z.heap.NoLimit := fun e => by rw [e]; exact W3.nolimit.keeps k5
    refine GenAt.fresh (A := A.in4) (cenv := genEnv scope cl s₃.heap.objs.size code builtinsNs env) (P := fun i v => vs.toArray[i]? = some v) (St₀ := fun i h => h.IsListIter s.heap.objs.size ax i ∧ h.IsList ax vs.toArray)
      (elt := .BinOp (.Name x p1) .Sub (.Name bar p2) pe) (x := x) (px := px) (ifs := []) (scope := scope) (pos := pos) (iter := .Name ax' p3) (I := s.heap.objs.size) (m := fun y => if y = ".0" then some (.ref s.heap.objs.size) else none) hA.handled ?_ _ _ hx (by simp [genEnv, hkind]) hco ?_ ?_ ?_ ?_ ⟨hit5, hl5⟩ ?_ (hnl rfl)
    · intro A' hA'
      have := Walks.list (prog := prg) (w := w) hA' s.heap.objs.size ax (Nat.ne_of_lt hax) vs.toArray
      rw [List.size_toArray] at this
      refine this.mono_fp fun b hb => ?_
      rcases List.mem_cons.mp hb with rfl | hb
      · exact List.mem_cons_self ..
      · rw [List.mem_singleton] at hb; subst hb; exact List.mem_cons_of_mem _ (List.mem_cons_self ..)
    · show s₃.heap.objs.size ∉ _
      intro hm
      rcases List.mem_cons.mp hm with e | hm
      · exact absurd hI3 (by rw [e]; exact Nat.lt_irrefl _)
      rcases List.mem_cons.mp hm with e | hm
      · rw [← e] at hax; exact absurd (Nat.lt_trans hax hI3) (Nat.lt_irrefl _)
      rcases List.mem_cons.mp hm with e | hm
      · rw [← e] at hcz; exact absurd (Nat.lt_trans hcz hI3) (Nat.lt_irrefl _)
      · rw [List.mem_singleton] at hm
        have := Nat.lt_trans hb hI3
        rw [hm] at this; exact absurd this (by decide)
    · constructor
      · intro A' E' i v s₂ m₂ _ _ _ _ _
        exact wpAny_pure ⟨rfl, _, _, rfl, fun _ _ e => e⟩
      · intro A' E' i v s₂ m₂ hA' hP _ hn hm hk
        have hcell2 : s₂.heap.IsCell c (some (.float xb tb)) := by
          obtain ⟨o, e, d⟩ := hcell5
          refine ⟨o, hk c (by simp) ?_ o e, d⟩
          rw [List.mem_singleton]; exact Nat.ne_of_lt hcz
        refine wpAny_BinOp ?_
        refine nmN (env := genEnv scope cl s₃.heap.objs.size code builtinsNs env) hn hm ?_ hkind hx hdx
        refine wpAny_Name (wpAny_loadName_free (env := genEnv scope cl s₃.heap.objs.size code builtinsNs env) hkind hbar hcl hcell2 ?_ hdc) hdb
        · have hlt : i < ns.length := by
            rw [← hlen]
            by_cases q : i < vs.length
            · exact q
            · rw [List.getElem?_toArray, List.getElem?_eq_none (by omega)] at hP; cases hP
          obtain ⟨t, e⟩ := intsGet hi hlt
          obtain rfl : v = .int (ns.getD i 0) t := by
            rw [List.getElem?_toArray, e] at hP; cases hP; rfl
          refine AutoFloatOps.sub_if_1 (Flt.fin_of_fits (notOver (by have := hs.getD i; omega))) ?_
          refine ⟨⟨_, _, rfl, ?_⟩, _, _, rfl, fun _ _ e => e⟩
          exact (Fl.ofInt (by have := hs.getD i; omega)).sub hfl (by have := hs.getD i; omega)
    · show h5.IsGen h'.objs.size s₃.gens.size
      rw [← hh5]
      exact ⟨_, _, _, Heap.get?_push_size _ rfl, rfl, rfl, rfl⟩
    · exact Array.getElem?_push_size ..
    · show h5.Ns s₃.heap.objs.size _
      rw [← hh5]; exact hn'.push _
end
end Mine
end

section
open PySem PySem.W PyProof.Rows
set_option Elab.async false
set_option maxRecDepth 100000
namespace Mine
open PySem.Builtin.Math (tlFma tlToFloat)

theorem kind_sp : builtinKind "math.sumprod" = none := by decide +kernel
theorem plain_sp : plainId "math.sumprod" = true := by decide +kernel
theorem entry_sp : entryFor table "math.sumprod" = some Builtin.«math.sumprod» := entryFor_of_fast (by kernel_rfl)
theorem args_sp (a b : Value) : argsOk "math.sumprod" ⟨[a, b], []⟩ := by unfold argsOk; kernel_rfl
theorem plain_spL : plainId "math.sumprod.loop" = true := by decide +kernel
theorem entry_spL : entryFor table "math.sumprod.loop" = some Builtin.«math.sumprod.loop» := entryFor_of_fast (by kernel_rfl)

/-- a generator of covariance at its j-th turn -/
structure GSt (w : World) (A : Around) (a : Addr) (g : Nat) (C I ax c : Addr) (ns : List Int) (kb : Int) (j : Nat) (s : Shared) : Prop where
  at_ : GenAt prg w A.in4 a g C [I, ax, c, cStatics] [I] (fun _ => true) ns.length (GF ns kb) j s

theorem passing_all (n j : Nat) (h : j < n) : (passing (fun _ => true) n 0)[j]? = some j := by
  have e : passing (fun _ => true) n 0 = List.range n := by
    unfold passing
    rw [List.drop_zero, List.filter_eq_self]; exact fun _ _ => rfl
  rw [e, List.getElem?_range h]
theorem passing_len (n : Nat) : (passing (fun _ => true) n 0).length = n := by
  have e : passing (fun _ => true) n 0 = List.range n := by
    unfold passing
    rw [List.drop_zero, List.filter_eq_self]; exact fun _ _ => rfl
  rw [e, List.length_range]

section
variable {w : World} {A : Around} {E : Value → Shared → Prop} {s : Shared} {R : Result → Shared → Prop}

theorem gWalks {a : Addr} {g : Nat} {C I ax c : Addr} {ns : List Int} {kb : Int} (hA : Lo 0 A) (h1 : a ≠ C) (h2 : a ≠ I) (h3 : a ≠ ax) (h4 : a ≠ c) (h5 : @LT.lt Nat _ 111 a) (h6 : @LT.lt Nat _ 111 C) (h7 : @LT.lt Nat _ 111 I) :
    WalksS prg w A.in1 a (a :: C :: [I, ax, c, cStatics]) (C :: [I]) (GenOnlyQ g) (passing (fun _ => true) ns.length 0).length (fun j y => ∃ i, (passing (fun _ => true) ns.length 0)[j]? = some i ∧ GF ns kb i y) (GenAt prg w A.in4 a g C [I, ax, c, cStatics] [I] (fun _ => true) ns.length (GF ns kb)) := by
  refine WalksS.in4_1 (WalksS.genexpQ (A := A.in4) hA.handled a g C [I, ax, c, cStatics] [I] (fun _ => true) ns.length (GF ns kb) h1 ?_ ?_ (by have := hA.depth; show A.depth < _; omega) ?_ ?_ ?_)
  · intro hm
    rcases List.mem_cons.mp hm with e | hm
    · exact h2 e
    rcases List.mem_cons.mp hm with e | hm
    · exact h3 e
    rcases List.mem_cons.mp hm with e | hm
    · exact h4 e
    · rw [List.mem_singleton] at hm; rw [hm] at h5; exact absurd h5 (by decide)
  · intro b hb; rw [List.mem_singleton] at hb; rw [hb]; exact List.mem_cons_self ..
  · simp
  · intro e; rw [← e] at h6; exact absurd h6 (by decide)
  · intro hm; rw [List.mem_singleton] at hm; rw [← hm] at h7; exact absurd h7 (by decide)

theorem EvoB.moved {wr : List Addr} {g : Nat} {s s' : Shared} (x : Moved wr (GenOnlyQ g) s s') (h : ∀ b ∈ wr, @LT.lt Nat _ 111 b) : EvoB wr s s' :=
  ⟨x.os, fun b o hb _ e => x.heap b o hb e, fun ha => x.gens.bare ha, fun t => t.keeps (fun o e => x.heap _ o (fun hm => absurd (h _ hm) (by decide)) e) fun o e => x.heap _ o (fun hm => absurd (h _ hm) (by decide)) e⟩

theorem sp_loop {a1 C1 I1 ax c1 a2 C2 I2 ay c2 : Addr} {g1 g2 n : Nat} {xs ys : List Int} {kx ky : Int} {pl : Nat → Int} (hA : Lo 0 A) (hg : g1 ≠ g2) (hxl : xs.length = n) (hyl : ys.length = n)
    (W1 : WalksS prg w A.in1 a1 (a1 :: C1 :: [I1, ax, c1, cStatics]) (C1 :: [I1]) (GenOnlyQ g1) n (fun j y => GF xs kx j y) (GenAt prg w A.in4 a1 g1 C1 [I1, ax, c1, cStatics] [I1] (fun _ => true) xs.length (GF xs kx)))
    (W2 : WalksS prg w A.in1 a2 (a2 :: C2 :: [I2, ay, c2, cStatics]) (C2 :: [I2]) (GenOnlyQ g2) n (fun j y => GF ys ky j y) (GenAt prg w A.in4 a2 g2 C2 [I2, ay, c2, cStatics] [I2] (fun _ => true) ys.length (GF ys ky)))
    (d12 : ∀ b ∈ a2 :: C2 :: [I2, ay, c2, cStatics], b ∉ C1 :: [I1]) (d21 : ∀ b ∈ a1 :: C1 :: [I1, ax, c1, cStatics], b ∉ C2 :: [I2]) (big : ∀ b ∈ [C1, I1, C2, I2], @LT.lt Nat _ 111 b) (lt2 : ∀ b ∈ [C1, I1, C2, I2], b < a2)
    (hp : ∀ i, i < n → (256 * xs.getD i 0 - kx) * (256 * ys.getD i 0 - ky) = 256 * pl i ∧ (pl i).natAbs < 2 ^ 50) (hS : ∀ i, i ≤ n → (preSum pl i).natAbs < 2 ^ 50) (hn : 0 < n) :
    ∀ (k i : Nat) (s : Shared) (q : Addr) (t3 : UInt64 × UInt64 × UInt64) (t0 : Tok) (b u : Bool), n - i = k → i ≤ n → (u = true ∨ i = 0) →
      GenAt prg w A.in4 a1 g1 C1 [I1, ax, c1, cStatics] [I1] (fun _ => true) xs.length (GF xs kx) i s → GenAt prg w A.in4 a2 g2 C2 [I2, ay, c2, cStatics] [I2] (fun _ => true) ys.length (GF ys ky) i s →
      BitsAt s.heap q [t3.1, t3.2.1, t3.2.2] → q ∉ [C1, I1, C2, I2] → Fl t3.1 (preSum pl i) → Fl t3.2.1 0 → Fl t3.2.2 0 →
      (∀ s' x t, EvoB [C1, I1, C2, I2] s s' → Fl x (preSum pl n) → R (.ok (.ret (.float x t))) s') →
      codeAny (model prg w) A (.builtin "math.sumprod.loop" ⟨[.ref a1, .ref a2, .int 0 t0, .bool b, rawInt 0, .bool false, .bool true, .ref q, .bool u], []⟩) R s := by
  intro k
  induction k with
  | zero =>
    intro i s q t3 t0 b u hk hi hu st1 st2 hq hqn f1 f2 f3 hR
    have : i = n := by omega
    subst this
    obtain rfl : u = true := by rcases hu with h | h; exact h; omega
    obtain ⟨oq, nq, eq, dq⟩ := id hq
    refine codeAny_builtin entry_spL ?_
    rw [Around.under_plainId plain_spL _]
    show wpAny _ A.in1 (seqItems? (.ref q) >>= _) _ _ s
    refine wpAny_bind (wpAny_seqItems eq dq ?_)
    show wpAny _ A.in1 (pyNext (.ref a1) >>= _) _ _ s
    refine wpAny_bind (W1.done s _ _ st1 fun s1 m1 => ?_)
    have st2' := GenAt.move (s' := s1) st2 (fun b hb o e => m1.heap b o (d12 b (by rcases hb with rfl | rfl | hb; exact List.mem_cons_self ..; exact List.mem_cons_of_mem _ (List.mem_cons_self ..); exact List.mem_cons_of_mem _ (List.mem_cons_of_mem _ hb))) e) (by simp) (by
      rcases m1.gens with e | ⟨⟨_, e⟩, _⟩
      · rw [e]
      · exact e _ (Ne.symm hg))
    show wpAny _ A.in1 (holding _ (pyNext (.ref a2)) >>= _) _ _ _
    refine wpAny_bind (wpAny_holding (W2.done s1 _ _ st2' fun s2 m2 => ?_))
    have done : ∀ s3 : Shared, s3.heap = s2.heap → s3.gens = s2.gens → s3.os = s2.os → EvoB [C1, I1, C2, I2] s s3 := by
      intro s3 e1 e2 e3
      have x1 : EvoB [C1, I1, C2, I2] s s1 := (EvoB.moved m1 (fun b hb => big b (by rcases List.mem_cons.mp hb with rfl | hb; simp; rw [List.mem_singleton] at hb; subst hb; simp))).mono (by intro b hb; rcases List.mem_cons.mp hb with rfl | hb; simp; rw [List.mem_singleton] at hb; subst hb; simp)
      have x2 : EvoB [C1, I1, C2, I2] s1 s2 := (EvoB.moved m2 (fun b hb => big b (by rcases List.mem_cons.mp hb with rfl | hb; simp; rw [List.mem_singleton] at hb; subst hb; simp))).mono (by intro b hb; rcases List.mem_cons.mp hb with rfl | hb; simp; rw [List.mem_singleton] at hb; subst hb; simp)
      have x3 := x1.trans x2
      exact ⟨e3.trans x3.os, fun b o hb h65 e => by rw [e1]; exact x3.keep b o hb h65 e, fun h => by rw [e2]; exact x3.gens h, fun t => by rw [e1]; exact x3.tab t⟩
    have fin : wpAny (model prg w) A.in1 (do
        rule "math.sumprod.leaves-floats"
        let f ← mkFloat (tlToFloat (t3.1, t3.2.1, t3.2.2))
        let total ← holding (Value.int 0 t0 :: (none.toList ++ none.toList)) (binaryOp Operator.Add (Value.int 0 t0) f)
        ret total) (fun fin s' => match fin with
          | Fin.done f => R (Except.ok f) s'
          | Fin.again c' => c'.quiet = true ∧ codeAny (model prg w) A c' R s') (fun e s' => R (Except.error e) s') s2 := by
      refine wpAny_bind (wpAny_rule ?_)
      refine wpAny_bind (wpAny_mkFloat ?_)
      refine wpAny_bind (wpAny_holding (AutoFloatOps.add_if_1 (Flt.fin_of_fits (notOver (by decide))) ?_))
      refine wpAny_pure ?_
      refine hR _ _ _ (done _ rfl rfl rfl) ?_
      have h1 := tlEnd_fl (hS i hi) f1 f2 f3
      have h2 := (Fl.ofInt (i := 0) (by decide)).add h1 (by have := hS i hi; omega)
      rw [show (256 : Int) * 0 + preSum pl i = preSum pl i by omega] at h2
      exact h2
    simp only [Option.isSome_none, bne_self_eq_false, Bool.false_eq_true, if_false, bits_back]
    cases b
    · simp only [Bool.false_eq_true, if_false, if_true]
      exact fin
    · simp only [if_true]
      refine wpAny_bind (wpAny_rule ?_)
      exact fin
  | succ k ih =>
    intro i s q t3 t0 b u hk hi hu st1 st2 hq hqn f1 f2 f3 hR
    have hlt : i < n := by omega
    obtain ⟨oq, nq, eq, dq⟩ := id hq
    refine codeAny_builtin entry_spL ?_
    rw [Around.under_plainId plain_spL _]
    show wpAny _ A.in1 (seqItems? (.ref q) >>= _) _ _ s
    refine wpAny_bind (wpAny_seqItems eq dq ?_)
    show wpAny _ A.in1 (pyNext (.ref a1) >>= _) _ _ s
    refine wpAny_bind (W1.item i s _ _ hlt st1 fun v1 s1 hv1 st1' m1 => ?_)
    have st2' := GenAt.move (s' := s1) st2 (fun b hb o e => m1.heap b o (d12 b (by rcases hb with rfl | rfl | hb; exact List.mem_cons_self ..; exact List.mem_cons_of_mem _ (List.mem_cons_self ..); exact List.mem_cons_of_mem _ (List.mem_cons_of_mem _ hb))) e) (by simp) (by
      rcases m1.gens with e | ⟨⟨_, e⟩, _⟩
      · rw [e]
      · exact e _ (Ne.symm hg))
    show wpAny _ A.in1 (holding _ (pyNext (.ref a2)) >>= _) _ _ _
    refine wpAny_bind (wpAny_holding (W2.item i s1 _ _ hlt st2' fun v2 s2 hv2 st2'' m2 => ?_))
    have st1'' := GenAt.move (s' := s2) st1' (fun b hb o e => m2.heap b o (d21 b (by rcases hb with rfl | rfl | hb; exact List.mem_cons_self ..; exact List.mem_cons_of_mem _ (List.mem_cons_self ..); exact List.mem_cons_of_mem _ (List.mem_cons_of_mem _ hb))) e) (by simp) (by
      rcases m2.gens with e | ⟨⟨_, e⟩, _⟩
      · rw [e]
      · exact e _ hg)
    obtain ⟨x, t, rfl, fx⟩ := hv1
    obtain ⟨y, t', rfl, fy⟩ := hv2
    have x1 : EvoB [C1, I1, C2, I2] s s1 := (EvoB.moved m1 (fun b hb => big b (by rcases List.mem_cons.mp hb with rfl | hb; simp; rw [List.mem_singleton] at hb; subst hb; simp))).mono (by intro b hb; rcases List.mem_cons.mp hb with rfl | hb; simp; rw [List.mem_singleton] at hb; subst hb; simp)
    have x2 : EvoB [C1, I1, C2, I2] s1 s2 := (EvoB.moved m2 (fun b hb => big b (by rcases List.mem_cons.mp hb with rfl | hb; simp; rw [List.mem_singleton] at hb; subst hb; simp))).mono (by intro b hb; rcases List.mem_cons.mp hb with rfl | hb; simp; rw [List.mem_singleton] at hb; subst hb; simp)
    have x3 := x1.trans x2
    obtain ⟨hpi, hpb⟩ := hp i hlt
    obtain ⟨n1, n2, n3⟩ := tlFma_fl (t := (t3.1, t3.2.1, t3.2.2)) fx fy hpi hpb (hS i hi) f1 f2 f3
    have big2 : ∀ b ∈ [C1, I1, C2, I2], b ≠ s2.heap.objs.size := by
      intro b hb
      obtain ⟨⟨_, _, _, e, _⟩, _⟩ := st2''
      exact Nat.ne_of_lt (Nat.lt_trans (lt2 b hb) (Heap.lt_size e))
    have step : wpAny (model prg w) A.in1 (newTuple [rawInt (tlFma x y (t3.1, t3.2.1, t3.2.2)).1.toNat, rawInt (tlFma x y (t3.1, t3.2.1, t3.2.2)).2.1.toNat, rawInt (tlFma x y (t3.1, t3.2.1, t3.2.2)).2.2.toNat] >>= fun t =>
        again (.builtin "math.sumprod.loop" ⟨[.ref a1, .ref a2, .int 0 t0, .bool false, rawInt 0, .bool false, .bool true, t, .bool true], []⟩)) (fun fin s' => match fin with
          | Fin.done f => R (Except.ok f) s'
          | Fin.again c' => c'.quiet = true ∧ codeAny (model prg w) A c' R s') (fun e s' => R (Except.error e) s') s2 := by
      refine wpAny_bind (wpAny_newTuple (items := bitsOf [(tlFma x y (t3.1, t3.2.1, t3.2.2)).1, (tlFma x y (t3.1, t3.2.1, t3.2.2)).2.1, (tlFma x y (t3.1, t3.2.1, t3.2.2)).2.2]) ?_ (by show (3 : Nat) ≤ sizeLine; decide))
      refine wpAny_pure ⟨plainId_quiet plain_spL _, ?_⟩
      refine ih (i + 1) _ s2.heap.objs.size (tlFma x y (t3.1, t3.2.1, t3.2.2)) t0 false true (by omega) hlt (.inl rfl) ?_ ?_ ⟨_, _, Heap.get?_push_size _ rfl, rfl⟩ (fun hm => big2 _ hm rfl) n1 n2 n3 ?_
      · exact GenAt.move st1'' (fun b _ o e => Heap.get?_push_of_some _ e) (by simp) rfl
      · exact GenAt.move st2'' (fun b _ o e => Heap.get?_push_of_some _ e) (by simp) rfl
      · intro s' z tz ev fz
        refine hR s' z tz ((x3.trans ?_).trans ev) fz
        exact EvoB.ofEvo (Evo.kp (s := s2) (tk := s2.toks) fun b o e => Heap.get?_push_of_some _ e)
    simp only [Option.isSome_some, bne_self_eq_false, Bool.false_eq_true, if_false, bits_back]
    cases b
    · simp only [Bool.false_eq_true, if_false, if_true, n1.isFinite, Bool.or_true, Bool.true_or, bits_back]
      exact step
    · simp only [if_true, Bool.false_eq_true, if_false, n1.isFinite]
      refine wpAny_bind (wpAny_rule ?_)
      exact step

/-- a step that changes only what was not there before -/
theorem EvoB.drop {wr : List Addr} {s s' s'' : Shared} (x : Evo s s') (y : EvoB wr s' s'') (h : ∀ b ∈ wr, s.heap.objs.size ≤ b) : Evo s s'' :=
  ⟨y.os.trans x.os, fun b o hb h65 e => y.keep b o (fun hm => absurd (Heap.lt_size e) (Nat.not_lt.mpr (h b hm))) h65 (x.keep b o hb h65 e), fun g => y.gens (x.gens g), fun t => y.tab (x.tab t)⟩

theorem ord {I1 C1 a1 I2 C2 a2 ax c1 ay c2 cs z : Nat} (b1 : 111 < I1) (o1 : I1 < C1) (o2 : C1 < a1) (o3 : a1 < I2) (o4 : I2 < C2) (o5 : C2 < a2) (x1 : ax < I1) (x2 : c1 < I1) (x3 : ay < I1) (x4 : c2 < I1) (cs1 : cs < I1) (hz : a2 < z) :
    (a1 ≠ C1 ∧ a1 ≠ I1 ∧ a1 ≠ ax ∧ a1 ≠ c1 ∧ 111 < a1 ∧ 111 < C1) ∧ (a2 ≠ C2 ∧ a2 ≠ I2 ∧ a2 ≠ ay ∧ a2 ≠ c2 ∧ 111 < a2 ∧ 111 < C2 ∧ 111 < I2) ∧
    (∀ b ∈ a2 :: C2 :: [I2, ay, c2, cs], b ∉ C1 :: [I1]) ∧ (∀ b ∈ a1 :: C1 :: [I1, ax, c1, cs], b ∉ C2 :: [I2]) ∧ (∀ b ∈ [C1, I1, C2, I2], 111 < b) ∧ (∀ b ∈ [C1, I1, C2, I2], b < a2) ∧ z ∉ [C1, I1, C2, I2] := by
  refine ⟨by omega, by omega, ?_, ?_, ?_, ?_, ?_⟩
  · intro b hb hm
    simp only [List.mem_cons, List.not_mem_nil, or_false] at hb hm
    rcases hb with rfl | rfl | rfl | rfl | rfl | rfl <;> rcases hm with rfl | rfl <;> omega
  · intro b hb hm
    simp only [List.mem_cons, List.not_mem_nil, or_false] at hb hm
    rcases hb with rfl | rfl | rfl | rfl | rfl | rfl <;> rcases hm with rfl | rfl <;> omega
  · intro b hb
    simp only [List.mem_cons, List.not_mem_nil, or_false] at hb
    rcases hb with rfl | rfl | rfl | rfl <;> omega
  · intro b hb
    simp only [List.mem_cons, List.not_mem_nil, or_false] at hb
    rcases hb with rfl | rfl | rfl | rfl <;> omega
  · intro hm
    simp only [List.mem_cons, List.not_mem_nil, or_false] at hm
    rcases hm with e | e | e | e <;> omega

theorem sp_call {a1 C1 I1 ax c1 a2 C2 I2 ay c2 : Addr} {g1 g2 n : Nat} {xs ys : List Int} {kx ky : Int} {pl : Nat → Int} {Q : Value → Shared → Prop} (hA : Lo 0 A) (hg : g1 ≠ g2) (hxl : xs.length = n) (hyl : ys.length = n)
    (b1 : @LT.lt Nat _ 111 I1) (o1 : I1 < C1) (o2 : C1 < a1) (o3 : a1 < I2) (o4 : I2 < C2) (o5 : C2 < a2) (x1 : ax < I1) (x2 : c1 < I1) (x3 : ay < I1) (x4 : c2 < I1)
    (hp : ∀ i, i < n → (256 * xs.getD i 0 - kx) * (256 * ys.getD i 0 - ky) = 256 * pl i ∧ (pl i).natAbs < 2 ^ 50) (hS : ∀ i, i ≤ n → (preSum pl i).natAbs < 2 ^ 50) (hn : 0 < n)
    (st1 : GenAt prg w A.in4 a1 g1 C1 [I1, ax, c1, cStatics] [I1] (fun _ => true) xs.length (GF xs kx) 0 s) (st2 : GenAt prg w A.in4 a2 g2 C2 [I2, ay, c2, cStatics] [I2] (fun _ => true) ys.length (GF ys ky) 0 s)
    (h : ∀ s' x t, EvoB [C1, I1, C2, I2] s s' → Fl x (preSum pl n) → Q (.float x t) s') : wpAny (model prg w) A (call (.builtin "math.sumprod") [.ref a1, .ref a2]) Q E s := by
  have cs : cStatics < I1 := Nat.lt_trans (by decide) b1
  refine call_function_tree kind_sp plain_sp entry_sp (args_sp _ _) ?_
  show wpAny _ A.in1 (Builtin.Math.mathSome "sumprod" 2 2 ⟨[.ref a1, .ref a2], []⟩ >>= _) _ _ s
  refine wpAny_bind (wpAny_of_eq (show Builtin.Math.mathSome "sumprod" 2 2 ⟨[.ref a1, .ref a2], []⟩ = pure [.ref a1, .ref a2] from rfl) ?_)
  show wpAny _ A.in1 (pyIter (.ref a1) >>= _) _ _ s
  refine wpAny_bind (wpAny_pyIter_gen st1.1 ?_)
  refine wpAny_bind (wpAny_holding (wpAny_pyIter_gen st2.1 ?_))
  refine wpAny_bind (wpAny_mkInt ?_)
  refine wpAny_bind (wpAny_newTuple (items := bitsOf [Float64.zero false, Float64.zero false, Float64.zero false]) ?_ (by show (3 : Nat) ≤ sizeLine; decide))
  refine wpAny_pure ⟨plainId_quiet plain_spL _, ?_⟩
  have hz : a2 < s.heap.objs.size := by obtain ⟨⟨_, _, _, e, _⟩, _⟩ := st2; exact Heap.lt_size e
  have conv : ∀ {a : Addr} {fp wr : List Addr} {g : Nat} {zs : List Int} {kz : Int} {St : Nat → Shared → Prop}, zs.length = n →
      WalksS prg w A.in1 a fp wr (GenOnlyQ g) (passing (fun _ => true) zs.length 0).length (fun j y => ∃ i, (passing (fun _ => true) zs.length 0)[j]? = some i ∧ GF zs kz i y) St →
      WalksS prg w A.in1 a fp wr (GenOnlyQ g) n (fun j y => GF zs kz j y) St := by
    intro a fp wr g zs kz St hz' W
    rw [passing_len, hz'] at W
    refine ⟨W.sub, W.grefl, W.gtrans, W.frame, fun i s Q E hi st hQ => W.item i s Q E hi st fun v s' hP st' m => hQ v s' ?_ st' m, W.done, W.self⟩
    obtain ⟨i', e, f⟩ := hP
    rw [passing_all n i hi] at e; cases e; exact f
  obtain ⟨⟨p1, p2, p3, p4, p5, p6⟩, ⟨q1, q2, q3, q4, q5, q6, q7⟩, d12, d21, big, lt2, zn⟩ := ord b1 o1 o2 o3 o4 o5 x1 x2 x3 x4 cs hz
  refine sp_loop (w := w) (A := A) (n := n) (xs := xs) (ys := ys) (kx := kx) (ky := ky) (pl := pl) hA hg hxl hyl
    (conv hxl (gWalks (ax := ax) (c := c1) hA p1 p2 p3 p4 p5 p6 b1)) (conv hyl (gWalks (ax := ay) (c := c2) hA q1 q2 q3 q4 q5 q6 q7)) d12 d21 big lt2 hp hS hn n 0 _ s.heap.objs.size (Float64.zero false, Float64.zero false, Float64.zero false) s.toks true false (Nat.sub_zero _) (Nat.zero_le _) (.inr rfl) ?_ ?_
    ⟨_, _, Heap.get?_push_size _ rfl, rfl⟩ zn (.zero _) (.zero _) (.zero _) ?_
  · exact GenAt.move st1 (fun b _ o e => Heap.get?_push_of_some _ e) (by simp) rfl
  · exact GenAt.move st2 (fun b _ o e => Heap.get?_push_of_some _ e) (by simp) rfl
  · intro s' x t ev fx
    refine h s' x t (EvoB.trans ?_ ev) fx
    exact EvoB.ofEvo (Evo.kp (s := s) (tk := s.toks + 1) fun b o e => Heap.get?_push_of_some _ e)
end
end Mine
end

section
open PySem PySem.W PyProof.Rows
set_option Elab.async false
set_option maxRecDepth 100000
namespace Mine

/-- an item of sixteen times sixteen times covariance's sum -/
def covP (xs ys : List Int) (i : Nat) : Int := (16 * xs.getD i 0 - xs.sum) * (16 * ys.getD i 0 - ys.sum)
theorem covP_small {xs ys : List Int} (h1 : Sm xs) (h2 : Sm ys) (i : Nat) : (covP xs ys i).natAbs ≤ 1000000 := by
  unfold covP
  rw [Int.natAbs_mul]
  have a1 := h1.getD i
  have a2 := h2.getD i
  have b1 := h1.take xs.length
  have b2 := h2.take ys.length
  rw [List.take_length] at b1 b2
  have := Nat.mul_le_mul (show (16 * xs.getD i 0 - xs.sum).natAbs ≤ 1000 by omega) (show (16 * ys.getD i 0 - ys.sum).natAbs ≤ 1000 by omega)
  omega
theorem covS_small {xs ys : List Int} (h1 : Sm xs) (h2 : Sm ys) : ∀ i, (preSum (covP xs ys) i).natAbs ≤ 1000000 * i
  | 0 => by simp [preSum]
  | i + 1 => by
    have := covS_small h1 h2 i
    have := covP_small h1 h2 i
    simp only [preSum]
    omega

section
variable {w : World} {A : Around} {E : Value → Shared → Prop} {s : Shared}

theorem lenL {l : Addr} {vs : List Value} {Q : Value → Shared → Prop} (hl : s.heap.IsList l vs.toArray) (hz : vs.length < 1000) (h : Q (.int vs.length (s.toks + 1)) { s with toks := s.toks + 1 + 1 }) : wpAny (model prg w) A (call (.builtin "len") [.ref l]) Q E s := by
  refine len_list hl (by rw [List.size_toArray]; omega) ?_
  rw [List.size_toArray]; exact h

theorem cov_call {R : Result → Shared → Prop} {ax ay : Addr} {us vs : List Value} {xs ys : List Int} {l : Int}
    (W : Wd s.heap) (hA : Lo 1 A) (hx : s.heap.IsList ax us.toArray) (hy : s.heap.IsList ay vs.toArray) (ix : IntsAre us xs) (iy : IntsAre vs ys) (zx : xs.length = 16) (zy : ys.length = 16)
    (sx : Sm xs) (sy : Sm ys) (hl : 15 * l = preSum (covP xs ys) 16)
    (h : ∀ s' z t, Evo s s' → Fl z l → R (.ok (.ret (.float z t))) s') :
    codeAny (model prg w) A (.call (.ref 70) ⟨[.ref ax, .ref ay], []⟩) R s := by
  have lx := ix.length
  have ly := iy.length
  refine enter 4 W (by have := hA.depth; omega) W.cov (binds := [("x", .ref ax), ("y", .ref ay)]) (fun _ _ => rfl) rfl (fun s₁ F => ?_)
  replace F := (F.add (isList_evo W.tab hx F.ev)).add (isList_evo W.tab hy F.ev)
  have hA' : Lo 0 (A.deeper (fEnv 4 s.heap.objs.size 70 69)) := hA.deep _
  refine wpAny_execs_cons ?_
  refine wpAny_Assign_Name ?_
  refine callB F.W (by decide) bi_len ?_
  refine wpAny_items_cons ?_
  refine nmL F rfl ?_
  refine wpAny_items_nil ?_
  refine lenL (F.ls (ax, us.toArray) (by simp)) (by omega) ?_
  refine storeL (F.tok _) fun s₂ hs₂ F₂ _ => ?_
  refine wpAny_execs_cons ?_
  refine wpAny_If ?_
  refine wpAny_isTrue_Compare1 ?_
  refine callB F₂.W (by decide) bi_len ?_
  refine wpAny_items_cons ?_
  refine nmL F₂ rfl ?_
  refine wpAny_items_nil ?_
  refine lenL (F₂.ls (ay, vs.toArray) (by simp)) (by omega) ?_
  replace F₂ := F₂.tok (s₂.toks + 1 + 1)
  refine nmL F₂ rfl ?_
  refine ne_int ?_
  refine wpAny_truthy_bool ?_
  rw [if_neg (by simp only [lx, ly, zx, zy]; decide)]
  refine wpAny_execs_nil ?_
  refine wpAny_execs_cons ?_
  refine wpAny_If ?_
  refine wpAny_isTrue_Compare1 ?_
  refine nmL F₂ rfl ?_
  refine wpAny_Constant_int ?_
  refine lt_int ?_
  refine wpAny_truthy_bool ?_
  rw [if_neg (by simp only [lx, zx]; decide)]
  refine wpAny_execs_nil ?_
  replace F₂ := F₂.tok (s₂.toks + 1 + 1 + 1)
  have h16 : Fl (Float64.ofInt us.length) (256 * 16) := by rw [lx, zx]; exact Fl.ofInt (by decide)
  have nz16 : ¬ Float64.isZero (Float64.ofInt us.length) = true := by rw [h16.isZero]; decide
  have nI16 : ¬ Float64.isInf (Float64.ofInt us.length) = true := Flt.fin_of_fits (notOver (by omega))
  have bx := sx.take xs.length
  have by' := sy.take ys.length
  rw [List.take_length] at bx by'
  refine wpAny_execs_cons ?_
  refine wpAny_Assign_Name ?_
  refine wpAny_BinOp ?_
  refine callI F₂.W (fun _ _ n => n.fsum) ?_
  refine wpAny_items_cons ?_
  refine nmL F₂ rfl ?_
  refine wpAny_items_nil ?_
  refine fsum_call hA' (F₂.ls (ax, us.toArray) (by simp)) ix sx fun s₃ fx tx ev₃ hfx => ?_
  have F₃ := F₂.evo ev₃
  refine nmL F₃ rfl ?_
  refine AutoFloatOps.truediv_fi_2 nI16 nz16 ?_
  have hbx : Fl (Float64.div fx (Float64.ofInt us.length)) (16 * xs.sum) := hfx.div h16 (by omega) (by decide) (by omega)
  refine storeC (F₃.tok _) rfl rfl fun s₄ hs₄ F₄ ev₄ => ?_
  refine wpAny_execs_cons ?_
  refine wpAny_Assign_Name ?_
  refine wpAny_BinOp ?_
  refine callI F₄.W (fun _ _ n => n.fsum) ?_
  refine wpAny_items_cons ?_
  refine nmL F₄ rfl ?_
  refine wpAny_items_nil ?_
  refine fsum_call hA' (F₄.ls (ay, vs.toArray) (by simp)) iy sy fun s₅ fy ty ev₅ hfy => ?_
  have F₅ := F₄.evo ev₅
  refine nmL F₅ rfl ?_
  refine AutoFloatOps.truediv_fi_2 nI16 nz16 ?_
  have hby : Fl (Float64.div fy (Float64.ofInt us.length)) (16 * ys.sum) := hfy.div h16 (by omega) (by decide) (by omega)
  refine storeC (F₅.tok _) rfl rfl fun s₆ hs₆ F₆ ev₆ => ?_
  refine wpAny_execs_cons ?_
  refine wpAny_Assign_Name ?_
  refine callI F₆.W (fun _ _ n => n.sumprod) ?_
  refine wpAny_items_cons ?_
  have cx : s₆.heap.IsCell (s.heap.objs.size + 1) (some (.float (Float64.div fx (Float64.ofInt us.length)) s₃.toks)) := F₆.cell "xbar" _ rfl
  have cy : s₆.heap.IsCell (s.heap.objs.size + 1 + 1) (some (.float (Float64.div fy (Float64.ofInt us.length)) s₅.toks)) := F₆.cell "ybar" _ rfl
  have bcx : @LT.lt Nat _ 111 (s.heap.objs.size + 1) := F₆.cbig (n := "xbar") rfl
  have bcy : @LT.lt Nat _ 111 (s.heap.objs.size + 1 + 1) := F₆.cbig (n := "ybar") rfl
  have hx₆ := F₆.ls (ax, us.toArray) (by simp)
  have hy₆ := F₆.ls (ay, vs.toArray) (by simp)
  refine gen_make (w := w) (c := s.heap.objs.size + 1) hA' F₆.W hx₆ ix sx cx hbx (by omega) rfl rfl (fun Q h => nmL F₆ rfl h) (by with_unfolding_all rfl) rfl rfl (by decide) rfl rfl rfl rfl (by decide) (by decide) (by decide) bcx ?_
  intro a1 I1 C1 s₇ ev₇ u1 u2 u3 u4 gz₇ gk₇ st1
  have F₇ := F₆.evo ev₇
  refine wpAny_items_cons ?_
  have hy₇ := F₇.ls (ay, vs.toArray) (by simp)
  have cy₇ : s₇.heap.IsCell (s.heap.objs.size + 1 + 1) (some (.float (Float64.div fy (Float64.ofInt us.length)) s₅.toks)) := F₇.cell "ybar" _ rfl
  refine gen_make (w := w) (c := s.heap.objs.size + 1 + 1) hA' F₇.W hy₇ iy sy cy₇ hby (by omega) rfl rfl (fun Q h => nmL F₇ rfl h) (by with_unfolding_all rfl) rfl rfl (by decide) rfl rfl rfl rfl (by decide) (by decide) (by decide) bcy ?_
  intro a2 I2 C2 s₈ ev₈ v1 v2 v3 v4 gz₈ gk₈ st2
  have F₈ := F₇.evo ev₈
  refine wpAny_items_nil ?_
  have lt₆ : ∀ {b : Nat} {o : Obj}, s₆.heap.get? b = some o → b < s₆.heap.objs.size := fun e => Heap.lt_size e
  have e1 : ax < s₆.heap.objs.size := by obtain ⟨_, e, _⟩ := hx₆; exact lt₆ e
  have e2 : ay < s₆.heap.objs.size := by obtain ⟨_, e, _⟩ := hy₆; exact lt₆ e
  have e3 : s.heap.objs.size + 1 < s₆.heap.objs.size := by obtain ⟨_, e, _⟩ := cx; exact lt₆ e
  have e4 : s.heap.objs.size + 1 + 1 < s₆.heap.objs.size := by obtain ⟨_, e, _⟩ := cy; exact lt₆ e
  have big₆ := F₆.W.size
  have ord1 : ∀ {sz I1 C1 a1 z7 I2 C2 a2 x1 x2 x3 x4 : Nat}, 111 < sz → sz ≤ I1 → I1 < C1 → C1 < a1 → a1 < z7 → z7 ≤ I2 → I2 < C2 → C2 < a2 → x1 < sz → x2 < sz → x3 < sz → x4 < sz →
      (111 < I1 ∧ 111 < C1 ∧ 111 < a1 ∧ a1 < I2 ∧ x1 < I1 ∧ x2 < I1 ∧ x3 < I1 ∧ x4 < I1) ∧ ∀ b ∈ [C1, I1, C2, I2], sz ≤ b := by
    intro sz I1 C1 a1 z7 I2 C2 a2 x1 x2 x3 x4 h1 h2 h3 h4 h5 h6 h7 h8 h9 h10 h11 h12
    refine ⟨by omega, fun b hb => ?_⟩
    simp only [List.mem_cons, List.not_mem_nil, or_false] at hb
    rcases hb with rfl | rfl | rfl | rfl <;> omega
  obtain ⟨⟨k1, k2, k3, k4, k5, k6, k7, k8⟩, hnew⟩ := ord1 big₆ u1 u2 u3 u4 v1 v2 v3 e1 e3 e2 e4
  have st1' : GenAt prg w (A.deeper (fEnv 4 s.heap.objs.size 70 69)).in4 a1 s₆.gens.size C1 [I1, ax, s.heap.objs.size + 1, cStatics] [I1] (fun _ => true) xs.length (GF xs (16 * xs.sum)) 0 s₈ := by
    refine GenAt.move st1 (fun b hb o e => ev₈.keep b o (fun q => nomatch q) ?_ e) (by simp) (gk₈ _ (by rw [gz₇]; exact Nat.lt_succ_self _))
    have n65 : ∀ {b : Nat}, 111 < b → b ≠ 65 := fun h => by omega
    rcases hb with rfl | rfl | hb
    · exact n65 k3
    · exact n65 k2
    · simp only [List.mem_cons, List.not_mem_nil, or_false] at hb
      rcases hb with rfl | rfl | rfl | rfl
      · exact n65 k1
      · exact isList_ne F₆.W.tab hx₆
      · exact n65 bcx
      · decide
  refine sp_call (pl := covP xs ys) (n := 16) hA' (by rw [gz₇]; exact Nat.ne_of_lt (Nat.lt_succ_self _)) zx zy k1 u2 u3 k4 v2 v3 k5 k6 k7 k8 ?_ ?_ (by decide) st1' st2 ?_
  · intro i hi
    refine ⟨?_, by have := covP_small sx sy i; omega⟩
    have p1 : 256 * xs.getD i 0 - 16 * xs.sum = 16 * (16 * xs.getD i 0 - xs.sum) := by omega
    have p2 : 256 * ys.getD i 0 - 16 * ys.sum = 16 * (16 * ys.getD i 0 - ys.sum) := by omega
    rw [p1, p2]
    unfold covP
    generalize 16 * xs.getD i 0 - xs.sum = a
    generalize 16 * ys.getD i 0 - ys.sum = b
    have : 16 * a * (16 * b) = 256 * (a * b) := by
      rw [Int.mul_assoc, Int.mul_left_comm a 16 b, ← Int.mul_assoc]; rfl
    exact this
  · intro i hi
    have := covS_small sx sy i
    omega
  · intro s₉ z tz ev₉ hz
    have ev69 : Evo s₆ s₉ := EvoB.drop (ev₇.trans ev₈) ev₉ hnew
    have F₉ := F₆.evo ev69
    refine storeL F₉ fun s₁₀ hs₁₀ F₁₀ _ => ?_
    refine wpAny_execs_cons ?_
    refine wpAny_Return_some ?_
    refine wpAny_BinOp ?_
    refine nmL F₁₀ rfl ?_
    refine wpAny_BinOp ?_
    refine nmL F₁₀ rfl ?_
    refine wpAny_Constant_int ?_
    refine sub_int ?_
    have h15 : Fl (Float64.ofInt (us.length - 1)) (256 * 15) := by rw [lx, zx]; exact Fl.ofInt (by decide)
    refine AutoFloatOps.truediv_fi_2 (Flt.fin_of_fits (notOver (by omega))) (by rw [h15.isZero]; decide) ?_
    refine h _ _ _ ?_ (hz.div h15 (by rw [← hl]; omega) (by decide) (by have := covS_small sx sy 16; omega))
    exact F₁₀.ev.trans (Evo.kp fun _ _ e => e)
end
end Mine
end

section
open PySem PySem.W PyProof.Rows
set_option Elab.async false
set_option maxRecDepth 100000
namespace Mine

/-- what a comprehension walks over: P of its items, S of all of them -/
def Src (w : World) (A : Around) (E : Value → Shared → Prop) (P : Value → Prop) (S : List Value → Prop) (xv : Value) (s : Shared) : Prop :=
  ∀ (env : Env) (scope : Scope) (cl : List (Str × Addr)) (x : Str) (ifs : List Expr) (elt : Expr) (p : Value → Bool) (F : Value → Value → Prop) (Fin : Addr → Addr → Shared → Prop),
    (∀ C v s₃ m₃ E', s.heap.objs.size ≤ C → P v → s₃.heap.Ns C m₃ → m₃ x = some v → Evo s s₃ →
      wpAny (model prg w) A (forIn ifs true fun c r => if r = true then do let ok ← isTrue c (compEnvC scope cl C env) (eval c (compEnvC scope cl C env)); pure (ForInStep.yield ok) else pure (ForInStep.yield r))
        (fun ok s₄ => ok = p v ∧ Evo s₃ s₄) E' s₃) →
    (∀ C v s₃ m₃ E', s.heap.objs.size ≤ C → P v → p v = true → s₃.heap.Ns C m₃ → m₃ x = some v → Evo s s₃ →
        wpAny (model prg w) A (eval elt (compEnvC scope cl C env)) (fun y s₄ => F v y ∧ Evo s₃ s₄) E' s₃) →
    (∀ D C s' m' ys vs, s.heap.get? D = none → s.heap.get? C = none → D ≠ C → @LT.lt Nat _ 111 C → s'.heap.Ns C m' → s'.heap.PlainList D ys → S vs → Paired F (vs.filter p) ys.toList → Evo s s' → Fin D C s') →
    wpAny (model prg w) A (pyIter xv) (LcBody w A env scope cl x ifs elt p F Fin) E s

section
variable {w : World} {A : Around} {E : Value → Shared → Prop} {s s₀ : Shared} {env : Env} {L : Addr} {cs : List (Str × Addr)} {m cm : Str → Option Value} {Γ : List (Addr × Array Value)}

theorem Src.list {ax : Addr} {items : Array Value} (hh : A.handled = none) (W : Wd s.heap) (hl : s.heap.IsList ax items) (hsz : items.size ≤ sizeLine) : Src w A E (· ∈ items) (· = items.toList) (.ref ax) s := by
  intro env scope cl x ifs elt p F Fin hte hel fin
  exact src_list hh W hl hsz hte hel fun D C s' m' ys h1 h2 h3 h4 h5 h6 h7 h8 => fin D C s' m' ys _ h1 h2 h3 h4 h5 h6 rfl h7 h8
theorem Src.range {r : Addr} {a b : Int} {t u v : Tok} {n : Nat} (hh : A.handled = none) (W : Wd s.heap) (hr : IsRange s.heap r a b 1 t u v) (hsm : Builtin.Range.small a b 1 = true) (hn : Builtin.Range.rangeSize a b 1 = (n : Int)) (hsz : n ≤ sizeLine) :
    Src w A E (fun v => ∃ (i : Nat) (t : Tok), i < n ∧ v = .int (a + i) t) (fun vs => IntsAre vs ((List.range n).map fun (i : Nat) => a + (i : Int))) (.ref r) s := by
  intro env scope cl x ifs elt p F Fin hte hel fin
  exact src_range hh W hr hsm hn hsz (fun C i t s₃ m₃ E' hC hi hn' hm ev => hte C _ s₃ m₃ E' hC ⟨i, t, hi, rfl⟩ hn' hm ev) (fun C i t s₃ m₃ E' hC hi hp hn' hm ev => hel C _ s₃ m₃ E' hC ⟨i, t, hi, rfl⟩ hp hn' hm ev) fin

/-- range(n), written -/
theorem rangeE {n : Nat} {pf pc pp : Pos} {pk : Nat} {Q : Value → Shared → Prop} (W : Wd s.heap)
    (h : ∀ r s' t' v', Evo s s' → IsRange s'.heap r 0 n 1 t' s.toks v' → Q (.ref r) s')
    (hg : env.globals = mainGlobals := by rfl) (hb : env.builtins = builtinsNs := by rfl) (hk : env.scope.kind = .function := by rfl) (hx : env.kindOf "range" = some .globalImplicit := by rfl) :
    wpAny (model prg w) A (eval (.Call (.Name "range" pf) [.Constant (.int n) pk pc] [] pp) env) Q E s := by
  refine callT W (by decide) bi_range ?_ hg hb hk hx
  refine wpAny_items_cons ?_
  refine wpAny_Constant_int ?_
  refine wpAny_items_nil ?_
  refine range1 fun r s' t' v' ev hr => h r s' t' v' ((Evo.kp (tk := s.toks + 1) fun _ _ e => e).trans ev) hr

variable {elt iter : Expr} {x y : Str} {px py : Pos} {ifs : List Expr} {scope : Scope} {cl : List (Str × Addr)} {pos spos : Pos} {P : Value → Prop} {S : List Value → Prop}

/-- y = [..], y a local name -/
theorem lcL {Q : Flow → Shared → Prop} (p : Value → Bool) (F : Value → Value → Prop) (fm : Fm s₀ env.locals cs m cm Γ s)
    (hsw : swapsWith (.ListComp elt [⟨.Name x px, iter, ifs, 0⟩] scope pos) (some (.Name y py)) spos.line env = pure true)
    (hclos : closureFor scope env = pure cl) (hcell : ∀ y ∈ scope.names, y.2 ≠ .cell) (hkind : scope.kind = .function)
    (hnames : ∀ y ∈ scope.names, y.2 = .local → scope.names.lookup y.1 = some .local) (hx : scope.names.lookup x = some .local)
    (hk : env.scope.kind = .function) (hl : env.kindOf y = some .local)
    (hiter : wpAny (model prg w) A (eval iter env) (fun xv s₁ => Evo s s₁ ∧ Src w A E P S xv s₁) E s)
    (hte : ∀ C v s₃ m₃ E', P v → s₃.heap.Ns C m₃ → m₃ x = some v → Fm s₀ env.locals cs m cm Γ s₃ →
      wpAny (model prg w) A (forIn ifs true fun c r => if r = true then do let ok ← isTrue c (compEnvC scope cl C env) (eval c (compEnvC scope cl C env)); pure (ForInStep.yield ok) else pure (ForInStep.yield r))
        (fun ok s₄ => ok = p v ∧ Evo s₃ s₄) E' s₃)
    (hel : ∀ C v s₃ m₃ E', P v → p v = true → s₃.heap.Ns C m₃ → m₃ x = some v → Fm s₀ env.locals cs m cm Γ s₃ →
        wpAny (model prg w) A (eval elt (compEnvC scope cl C env)) (fun y s₄ => F v y ∧ Evo s₃ s₄) E' s₃)
    (fin : ∀ s' D ys vs, Fm s₀ env.locals cs (fun z => if z = y then some (.ref D) else m z) cm ((D, ys) :: Γ) s' → S vs → Paired F (vs.filter p) ys.toList → Q .next s')
    (hs : ∀ x, foldedSetIterable iter env x = pure x := by intro _; rfl) :
    wpAny (model prg w) A (exec (.Assign [.Name y py] (.ListComp elt [⟨.Name x px, iter, ifs, 0⟩] scope pos) spos) env) Q E s := by
  refine lcA p F hsw hclos hcell hkind hnames hx (wpAny_mono hiter (fun xv s₁ h₁ => ?_) fun _ _ e => e) hs
  obtain ⟨ev, src⟩ := h₁
  have f₁ := fm.evo ev
  refine src _ _ _ _ _ _ _ _ _ (fun C v s₃ m₃ E' _ hP hn hm ev' => hte C v s₃ m₃ E' hP hn hm (f₁.evo ev')) (fun C v s₃ m₃ E' _ hP hp hn hm ev' => hel C v s₃ m₃ E' hP hp hn hm (f₁.evo ev')) ?_
  intro D C s' m' ys vs hD hC hDC hCb hn hpl hS hP ev'
  have f₂ := (f₁.evo ev').add hpl.isList
  refine storeL f₂ (fun s'' hs'' f₃ _ => ?_) hk hl
  have lt : ∀ {b o}, s₁.heap.get? b = some o → b ≠ C := fun e h => by rw [h, hC] at e; cases e
  have hLC : env.locals ≠ C := let ⟨_, _, _, e, _⟩ := f₁.ns; lt e
  refine ⟨m', hn.sameBut hs'' (Ne.symm hLC), fun h' hs' => ?_⟩
  refine fin _ D ys vs (Fm.but (tk := s''.toks) f₃ f₁ hC hCb hs'.extBut ?_) hS hP
  intro q hq
  rcases List.mem_cons.mp hq with rfl | hq
  · exact hDC
  · obtain ⟨_, e, _⟩ := f₁.ls q hq; exact lt e
/-- [..] as an expression -/
theorem lcV {Q : Value → Shared → Prop} (p : Value → Bool) (F : Value → Value → Prop) (fm : Fm s₀ L cs m cm Γ s)
    (hclos : closureFor scope env = pure cl) (hcell : ∀ y ∈ scope.names, y.2 ≠ .cell) (hkind : scope.kind = .function)
    (hnames : ∀ y ∈ scope.names, y.2 = .local → scope.names.lookup y.1 = some .local) (hx : scope.names.lookup x = some .local)
    (hiter : wpAny (model prg w) A (eval iter env) (fun xv s₁ => Evo s s₁ ∧ Src w A E P S xv s₁) E s)
    (hte : ∀ C v s₃ m₃ E', P v → s₃.heap.Ns C m₃ → m₃ x = some v → Fm s₀ L cs m cm Γ s₃ →
      wpAny (model prg w) A (forIn ifs true fun c r => if r = true then do let ok ← isTrue c (compEnvC scope cl C env) (eval c (compEnvC scope cl C env)); pure (ForInStep.yield ok) else pure (ForInStep.yield r))
        (fun ok s₄ => ok = p v ∧ Evo s₃ s₄) E' s₃)
    (hel : ∀ C v s₃ m₃ E', P v → p v = true → s₃.heap.Ns C m₃ → m₃ x = some v → Fm s₀ L cs m cm Γ s₃ →
        wpAny (model prg w) A (eval elt (compEnvC scope cl C env)) (fun y s₄ => F v y ∧ Evo s₃ s₄) E' s₃)
    (fin : ∀ s' D ys vs, Fm s₀ L cs m cm ((D, ys) :: Γ) s' → Evo s s' → S vs → Paired F (vs.filter p) ys.toList → Q (.ref D) s')
    (hs : ∀ x, foldedSetIterable iter env x = pure x := by intro _; rfl) :
    wpAny (model prg w) A (eval (.ListComp elt [⟨.Name x px, iter, ifs, 0⟩] scope pos) env) Q E s := by
  refine lcE p F hclos hcell hkind hnames hx (wpAny_mono hiter (fun xv s₁ h₁ => ?_) fun _ _ e => e) hs
  obtain ⟨ev, src⟩ := h₁
  have f₁ := fm.evo ev
  refine src _ _ _ _ _ _ _ _ _ (fun C v s₃ m₃ E' _ hP hn hm ev' => hte C v s₃ m₃ E' hP hn hm (f₁.evo ev')) (fun C v s₃ m₃ E' _ hP hp hn hm ev' => hel C v s₃ m₃ E' hP hp hn hm (f₁.evo ev')) ?_
  intro D C s' m' ys vs hD hC hDC hCb hn hpl hS hP ev' h' hs'
  have f₂ := (f₁.evo ev').add hpl.isList
  have lt : ∀ {b o}, s₁.heap.get? b = some o → b ≠ C := fun e h => by rw [h, hC] at e; cases e
  refine fin _ D ys vs (Fm.but (tk := s'.toks) f₂ f₁ hC hCb hs'.extBut ?_) (ev.trans (ev'.nsC hC hCb hs')) hS hP
  intro q hq
  rcases List.mem_cons.mp hq with rfl | hq
  · exact hDC
  · obtain ⟨_, e, _⟩ := f₁.ls q hq; exact lt e
/-- y = [..], y a cell -/
theorem lcC {Q : Flow → Shared → Prop} {c : Addr} (p : Value → Bool) (F : Value → Value → Prop) (fm : Fm s₀ env.locals cs m cm Γ s)
    (hsw : swapsWith (.ListComp elt [⟨.Name x px, iter, ifs, 0⟩] scope pos) (some (.Name y py)) spos.line env = pure false)
    (hclos : closureFor scope env = pure cl) (hcell : ∀ y ∈ scope.names, y.2 ≠ .cell) (hkind : scope.kind = .function)
    (hnames : ∀ y ∈ scope.names, y.2 = .local → scope.names.lookup y.1 = some .local) (hx : scope.names.lookup x = some .local)
    (hk : env.scope.kind = .function) (hl : env.kindOf y = some .cell) (hc : env.cells.lookup y = some c) (hcs : cs.lookup y = some c)
    (hiter : wpAny (model prg w) A (eval iter env) (fun xv s₁ => Evo s s₁ ∧ Src w A E P S xv s₁) E s)
    (hte : ∀ C v s₃ m₃ E', P v → s₃.heap.Ns C m₃ → m₃ x = some v → Fm s₀ env.locals cs m cm Γ s₃ →
      wpAny (model prg w) A (forIn ifs true fun c r => if r = true then do let ok ← isTrue c (compEnvC scope cl C env) (eval c (compEnvC scope cl C env)); pure (ForInStep.yield ok) else pure (ForInStep.yield r))
        (fun ok s₄ => ok = p v ∧ Evo s₃ s₄) E' s₃)
    (hel : ∀ C v s₃ m₃ E', P v → p v = true → s₃.heap.Ns C m₃ → m₃ x = some v → Fm s₀ env.locals cs m cm Γ s₃ →
        wpAny (model prg w) A (eval elt (compEnvC scope cl C env)) (fun y s₄ => F v y ∧ Evo s₃ s₄) E' s₃)
    (fin : ∀ s' D ys vs, Fm s₀ env.locals cs m (fun z => if z = y then some (.ref D) else cm z) ((D, ys) :: Γ) s' → S vs → Paired F (vs.filter p) ys.toList → Q .next s')
    (hs : ∀ x, foldedSetIterable iter env x = pure x := by intro _; rfl) :
    wpAny (model prg w) A (exec (.Assign [.Name y py] (.ListComp elt [⟨.Name x px, iter, ifs, 0⟩] scope pos) spos) env) Q E s := by
  refine wpAny_Assign_Name ?_ hsw
  refine lcV p F fm hclos hcell hkind hnames hx hiter hte hel (fun s' D ys vs f₂ _ hS hP => ?_) hs
  exact storeC f₂ hc hcs (fun s'' _ f₃ _ => fin s'' D ys vs f₃ hS hP) hk hl
end
end Mine
end

section
open PySem PySem.W PyProof.Rows
set_option Elab.async false
set_option maxRecDepth 100000
namespace Mine

def inW (ws : List Int) (k : Int) : Bool := ws.any (· == k)
def marksF (ws : List Int) : List Int := (List.range 16).map fun (i : Nat) => if inW ws (i : Int) then 30 else 0
def thereF (k : Nat) : List Int := (List.range 16).map fun (i : Nat) => ((i : Int).fdiv (2 ^ k)).fmod 2
/-- the pull of the thing k -/
def pullF (ws : List Int) (k : Nat) : Int := ((List.range 16).map fun (i : Nat) => if inW ws (i : Int) then (if bit (i : Int) k then 1 else -1) else 0).sum

theorem marksF_eq (ws : List Int) : marksF ws = (List.range 16).map fun (i : Nat) => 30 * (if inW ws (i : Int) then 1 else 0) := by
  unfold marksF
  refine List.map_congr_left fun i _ => ?_
  split <;> rfl
theorem range16 : List.range 16 = [0, 1, 2, 3, 4, 5, 6, 7, 8, 9, 10, 11, 12, 13, 14, 15] := by decide

theorem pull_sum (W : Nat → Int) (k : Nat) (hk : k < 4) :
    15 * (256 * ((List.range 16).map fun (i : Nat) => W i * (if bit (i : Int) k then 1 else -1)).sum) = preSum (covP ((List.range 16).map fun i => 30 * W i) (thereF k)) 16 ∧
    15 * (256 * ((List.range 16).map fun (i : Nat) => W i * (if bit (i : Int) k then 1 else -1)).sum) = preSum (covP (thereF k) ((List.range 16).map fun i => 30 * W i)) 16 := by
  have hc : k = 0 ∨ k = 1 ∨ k = 2 ∨ k = 3 := by omega
  have t0 : thereF 0 = [0,1,0,1,0,1,0,1,0,1,0,1,0,1,0,1] := by decide +kernel
  have t1 : thereF 1 = [0,0,1,1,0,0,1,1,0,0,1,1,0,0,1,1] := by decide +kernel
  have t2 : thereF 2 = [0,0,0,0,1,1,1,1,0,0,0,0,1,1,1,1] := by decide +kernel
  have t3 : thereF 3 = [0,0,0,0,0,0,0,0,1,1,1,1,1,1,1,1] := by decide +kernel
  have b0 : ∀ i : Nat, i < 16 → (if bit (i : Int) 0 then 1 else -1 : Int) = 2 * (thereF 0).getD i 0 - 1 := by decide +kernel
  have b1 : ∀ i : Nat, i < 16 → (if bit (i : Int) 1 then 1 else -1 : Int) = 2 * (thereF 1).getD i 0 - 1 := by decide +kernel
  have b2 : ∀ i : Nat, i < 16 → (if bit (i : Int) 2 then 1 else -1 : Int) = 2 * (thereF 2).getD i 0 - 1 := by decide +kernel
  have b3 : ∀ i : Nat, i < 16 → (if bit (i : Int) 3 then 1 else -1 : Int) = 2 * (thereF 3).getD i 0 - 1 := by decide +kernel
  have e : ∀ k, (∀ i : Nat, i < 16 → (if bit (i : Int) k then 1 else -1 : Int) = 2 * (thereF k).getD i 0 - 1) → ((List.range 16).map fun (i : Nat) => W i * (if bit (i : Int) k then 1 else -1)) = (List.range 16).map fun (i : Nat) => W i * (2 * (thereF k).getD i 0 - 1) := by
    intro k h
    refine List.map_congr_left fun i hi => ?_
    rw [h i (List.mem_range.mp hi)]
  rcases hc with rfl | rfl | rfl | rfl
  · rw [e 0 b0, t0]
    simp only [range16, List.map_cons, List.map_nil, List.sum_cons, List.sum_nil, preSum, covP, List.getD_cons_zero, List.getD_cons_succ]
    generalize W 0 = w0; generalize W 1 = w1; generalize W 2 = w2; generalize W 3 = w3; generalize W 4 = w4; generalize W 5 = w5; generalize W 6 = w6; generalize W 7 = w7
    generalize W 8 = w8; generalize W 9 = w9; generalize W 10 = w10; generalize W 11 = w11; generalize W 12 = w12; generalize W 13 = w13; generalize W 14 = w14; generalize W 15 = w15
    constructor <;> omega
  · rw [e 1 b1, t1]
    simp only [range16, List.map_cons, List.map_nil, List.sum_cons, List.sum_nil, preSum, covP, List.getD_cons_zero, List.getD_cons_succ]
    generalize W 0 = w0; generalize W 1 = w1; generalize W 2 = w2; generalize W 3 = w3; generalize W 4 = w4; generalize W 5 = w5; generalize W 6 = w6; generalize W 7 = w7
    generalize W 8 = w8; generalize W 9 = w9; generalize W 10 = w10; generalize W 11 = w11; generalize W 12 = w12; generalize W 13 = w13; generalize W 14 = w14; generalize W 15 = w15
    constructor <;> omega
  · rw [e 2 b2, t2]
    simp only [range16, List.map_cons, List.map_nil, List.sum_cons, List.sum_nil, preSum, covP, List.getD_cons_zero, List.getD_cons_succ]
    generalize W 0 = w0; generalize W 1 = w1; generalize W 2 = w2; generalize W 3 = w3; generalize W 4 = w4; generalize W 5 = w5; generalize W 6 = w6; generalize W 7 = w7
    generalize W 8 = w8; generalize W 9 = w9; generalize W 10 = w10; generalize W 11 = w11; generalize W 12 = w12; generalize W 13 = w13; generalize W 14 = w14; generalize W 15 = w15
    constructor <;> omega
  · rw [e 3 b3, t3]
    simp only [range16, List.map_cons, List.map_nil, List.sum_cons, List.sum_nil, preSum, covP, List.getD_cons_zero, List.getD_cons_succ]
    generalize W 0 = w0; generalize W 1 = w1; generalize W 2 = w2; generalize W 3 = w3; generalize W 4 = w4; generalize W 5 = w5; generalize W 6 = w6; generalize W 7 = w7
    generalize W 8 = w8; generalize W 9 = w9; generalize W 10 = w10; generalize W 11 = w11; generalize W 12 = w12; generalize W 13 = w13; generalize W 14 = w14; generalize W 15 = w15
    constructor <;> omega

theorem pull_cov (ws : List Int) (k : Nat) (hk : k < 4) :
    15 * (256 * pullF ws k) = preSum (covP (marksF ws) (thereF k)) 16 ∧ 15 * (256 * pullF ws k) = preSum (covP (thereF k) (marksF ws)) 16 := by
  have h := pull_sum (fun i => if inW ws (i : Int) then 1 else 0) k hk
  rw [← marksF_eq] at h
  have : pullF ws k = ((List.range 16).map fun (i : Nat) => (if inW ws (i : Int) then 1 else 0) * (if bit (i : Int) k then 1 else -1)).sum := by
    unfold pullF
    congr 1
    refine List.map_congr_left fun i _ => ?_
    split
    · rw [Int.one_mul]
    · rw [Int.zero_mul]
  rw [this]; exact h
theorem marksF_sm (ws : List Int) : Sm (marksF ws) := by
  refine ⟨by simp [marksF], fun n hn => ?_⟩
  obtain ⟨i, _, rfl⟩ := List.mem_map.mp hn
  split <;> decide
theorem thereF_sm (k : Nat) : Sm (thereF k) := by
  refine ⟨by simp [thereF], fun n hn => ?_⟩
  obtain ⟨i, _, rfl⟩ := List.mem_map.mp hn
  have := fm2 ((i : Int).fdiv (2 ^ k))
  omega
theorem ints16 {p : Int → Bool} {f : Int → Int} {vs : List Value} {ys : List Value} (h1 : IntsAre vs ((List.range 16).map fun (i : Nat) => (0 : Int) + (i : Int))) (h2 : Paired (intF f) (vs.filter (intP p)) ys) :
    IntsAre ys ((((List.range 16).map fun (i : Nat) => (i : Int)).filter p).map f) := by
  have := pairInts h1 h2
  have e : ((List.range 16).map fun (i : Nat) => (0 : Int) + (i : Int)) = (List.range 16).map fun (i : Nat) => (i : Int) := List.map_congr_left fun i _ => Int.zero_add _
  rwa [e] at this
theorem ints16' {f : Int → Int} {vs : List Value} {ys : List Value} (h1 : IntsAre vs ((List.range 16).map fun (i : Nat) => (0 : Int) + (i : Int))) (h2 : Paired (intF f) (vs.filter (intP fun _ => true)) ys) :
    IntsAre ys ((List.range 16).map fun (i : Nat) => f (i : Int)) := by
  have := ints16 h1 h2
  rw [List.filter_eq_self.mpr (fun _ _ => rfl), List.map_map] at this
  exact this

section
variable {w : World} {A : Around} {E : Value → Shared → Prop} {s : Shared}

theorem no_tests {ifs : List Expr} {cenv : Env} {s₃ : Shared} {E' : Value → Shared → Prop} {v : Value} {k : Int} {t : Tok} (h0 : ifs = []) (h : v = .int k t) :
    wpAny (model prg w) A (forIn ifs true fun c r => if r = true then do let ok ← isTrue c cenv (eval c cenv); pure (ForInStep.yield ok) else pure (ForInStep.yield r))
        (fun ok s₄ => ok = intP (fun _ => true) v ∧ Evo s₃ s₄) E' s₃ := by
  subst h0 h
  exact wpAny_pure ⟨rfl, .refl _ _⟩

theorem pull_call {R : Result → Shared → Prop} {aw : Addr} {us : List Value} {ws : List Int} {k : Nat} {t : Tok}
    (W : Wd s.heap) (hA : Lo 2 A) (hw : s.heap.IsList aw us.toArray) (iw : IntsAre us ws) (hk : k < 4)
    (h : ∀ s' z t, Evo s s' → Fl z (256 * pullF ws k) → R (.ok (.ret (.float z t))) s') :
    codeAny (model prg w) A (.call (.ref 94) ⟨[.ref aw, .int k t], []⟩) R s := by
  refine enter 10 W (by have := hA.depth; omega) W.pull (binds := [("wins", .ref aw), ("k", .int k t)]) (fun _ _ => rfl) rfl (fun s₁ F => ?_)
  replace F := F.add (isList_evo W.tab hw F.ev)
  have hA' : Lo 1 (A.deeper (fEnv 10 s.heap.objs.size 94 93)) := hA.deep _
  refine wpAny_execs_cons ?_
  refine lcL (intP fun _ => true) (intF fun i => if inW ws i then 30 else 0) F (by with_unfolding_all rfl) (by with_unfolding_all rfl) (by decide) rfl (by decide) rfl rfl rfl ?_ ?_ ?_ ?_
    (P := fun v => ∃ (i : Nat) (t : Tok), i < 16 ∧ v = .int (0 + i) t) (S := fun vs => IntsAre vs ((List.range 16).map fun (i : Nat) => (0 : Int) + (i : Int)))
  · exact rangeE (n := 16) F.W fun r s' t' v' ev hr => ⟨ev, Src.range hA'.handled (F.evo ev).W hr (by decide) (by decide) (by decide)⟩
  · rintro C v s₃ m₃ E' ⟨i, ti, hi, rfl⟩ hn hm F₃
    exact no_tests rfl rfl
  · rintro C v s₃ m₃ E' ⟨i, ti, hi, rfl⟩ _ hn hm F₃
    refine wpAny_IfExp ?_
    refine wpAny_isTrue_Compare1 ?_
    refine nmN (hn : _) hm ?_
    refine nmC F₃ rfl rfl rfl ?_
    refine in_list_ints (F₃.ls _ (List.mem_cons_self ..)) iw ?_
    refine wpAny_truthy_bool ?_
    split
    · rename_i hb
      refine wpAny_Constant_int ⟨intF_mk (by rw [inW, if_pos hb]), Evo.kp fun _ _ e => e⟩
    · rename_i hb
      refine wpAny_Constant_int ⟨intF_mk (by rw [inW, if_neg hb]), Evo.kp fun _ _ e => e⟩
  · intro s₂ D ys vs F₂ hS hP
    have hmarks : IntsAre ys.toList (marksF ws) := ints16' hS hP
    clear hS hP
    refine wpAny_execs_cons ?_
    refine lcL (intP fun _ => true) (intF fun i => (i.fdiv (2 ^ k)).fmod 2) F₂ (by with_unfolding_all rfl) (by with_unfolding_all rfl) (by decide) rfl (by decide) rfl rfl rfl ?_ ?_ ?_ ?_
      (P := fun v => ∃ (i : Nat) (t : Tok), i < 16 ∧ v = .int (0 + i) t) (S := fun vs => IntsAre vs ((List.range 16).map fun (i : Nat) => (0 : Int) + (i : Int)))
    · exact rangeE (n := 16) F₂.W fun r s' t' v' ev hr => ⟨ev, Src.range hA'.handled (F₂.evo ev).W hr (by decide) (by decide) (by decide)⟩
    · rintro C v s₃ m₃ E' ⟨i, ti, hi, rfl⟩ hn hm F₃
      exact no_tests rfl rfl
    · rintro C v s₃ m₃ E' ⟨i, ti, hi, rfl⟩ _ hn hm F₃
      refine wpAny_BinOp ?_
      refine wpAny_BinOp ?_
      refine nmN (hn : _) hm ?_
      refine wpAny_BinOp ?_
      refine wpAny_Constant_int ?_
      refine nmC (F₃.tok _) rfl rfl rfl ?_
      refine pow2N (by omega) (by omega) ?_
      rw [Int.toNat_natCast]
      refine fdivN (Int.pow_pos (by decide)) (by rcases (by omega : k = 0 ∨ k = 1 ∨ k = 2 ∨ k = 3) with rfl | rfl | rfl | rfl <;> decide) ?_
      refine wpAny_Constant_int ?_
      refine fmodN (by decide) ?_
      exact ⟨intF_mk rfl, Evo.kp fun _ _ e => e⟩
    · intro s₃ D' ys' vs' F₃ hS hP
      have hthere : IntsAre ys'.toList (thereF k) := ints16' hS hP
      clear hS hP
      obtain ⟨c1, c2⟩ := pull_cov ws k hk
      refine wpAny_execs_cons ?_
      refine wpAny_If ?_
      refine wpAny_isTrue_Compare1 ?_
      refine wpAny_BinOp ?_
      refine nmC F₃ rfl rfl rfl ?_
      refine wpAny_Constant_int ?_
      refine fmodN (by decide) ?_
      refine wpAny_Constant_int ?_
      refine eq_int ?_
      refine wpAny_truthy_bool ?_
      split
      · refine wpAny_execs_cons ?_
        refine wpAny_Return_some ?_
        refine callF 4 (F₃.tok _).W (fun _ _ n => n.cov) (fun _ W => W.cov) (by decide) ?_
        refine wpAny_items_cons ?_
        refine nmL (F₃.tok _) rfl ?_
        refine wpAny_items_cons ?_
        refine nmL (F₃.tok _) rfl ?_
        refine wpAny_items_nil ⟨.refl _ _, ?_⟩
        refine cov_call (F₃.tok _).W hA' ((F₃.tok _).ls (D, ys) (by simp)) ((F₃.tok _).ls (D', ys') (by simp)) hmarks hthere (by simp [marksF]) (by simp [thereF]) (marksF_sm _) (thereF_sm _) c1 ?_
        intro s' z tz ev hz
        exact h _ _ _ (((F₃.tok _).ev).trans ev) hz
      · refine wpAny_execs_nil ?_
        refine wpAny_execs_cons ?_
        refine wpAny_Return_some ?_
        refine callF 4 (F₃.tok _).W (fun _ _ n => n.cov) (fun _ W => W.cov) (by decide) ?_
        refine wpAny_items_cons ?_
        refine nmL (F₃.tok _) rfl ?_
        refine wpAny_items_cons ?_
        refine nmL (F₃.tok _) rfl ?_
        refine wpAny_items_nil ⟨.refl _ _, ?_⟩
        refine cov_call (F₃.tok _).W hA' ((F₃.tok _).ls (D', ys') (by simp)) ((F₃.tok _).ls (D, ys) (by simp)) hthere hmarks (by simp [thereF]) (by simp [marksF]) (thereF_sm _) (marksF_sm _) c2 ?_
        intro s' z tz ev hz
        exact h _ _ _ (((F₃.tok _).ev).trans ev) hz
end
end Mine
end

section
open PySem PySem.W PyProof.Rows
set_option Elab.async false
set_option maxRecDepth 100000
namespace Mine

/-- how many of the sixteen are there -/
def cntF (ws : List Int) : Int := ((List.range 16).map fun (i : Nat) => if inW ws (i : Int) then (1 : Int) else 0).sum

section
variable {w : World} {A : Around} {E : Value → Shared → Prop} {s : Shared}

/-- a call of fmean -/
theorem callFm {env : Env} {p pos : Pos} {e : Expr} {rest : List Expr} {Q : Value → Shared → Prop} (W : Wd s.heap)
    (h : wpAny (model prg w) A (spliced (backTo pos (starEach (e :: rest) env))) (fun vs s₁ => Evo s s₁ ∧ codeAny (model prg w) A (.call (.ref 63) ⟨vs, []⟩) (fun r s' => match r with | .ok (.ret v) => Q v s' | .ok _ => False | .error e => E e s') s₁) E s)
    (hg : env.globals = mainGlobals := by rfl) (hk : env.scope.kind = .function := by rfl) (hx : env.kindOf "fmean" = some .globalImplicit := by rfl)
    (he : starEach (e :: rest) env = (false, eval e env) :: starEach rest env := by rfl) :
    wpAny (model prg w) A (eval (.Call (.Name "fmean" p) (e :: rest) [] pos) env) Q E s := by
  refine wpAny_Call_NameR (nameG W (fun _ _ n => n.fmean) ?_ hg hk hx (by decide))
  rw [he] at h ⊢
  obtain ⟨o, pm, doc, ho, hd, hc⟩ := W.fmean
  refine Calls.callWith_function (o := o) (Calls.evalArgs_plain (wpAny_mono h (fun vs s₁ h₁ => ⟨⟨h₁.1.keep _ o (fun h => nomatch h) (by decide) ho, hd⟩, ?_⟩) fun _ _ e => e))
  exact wpAny_call h₁.2

theorem enterFm {R : Result → Shared → Prop} {v : Value} (W : Wd s.heap) (hA : Lo 1 A)
    (h : ∀ s₁, Fm s s.heap.objs.size (cellsFrom (s.heap.objs.size + 1) (fScope (top 3)).names []) (bindL (fEnv 3 s.heap.objs.size 63 62).kindOf [("data", v), ("weights", .none)] fun _ => none) (bindC (fEnv 3 s.heap.objs.size 63 62).kindOf [("data", v), ("weights", .none)] fun _ => none) [] s₁ →
      wpAny (model prg w) (A.deeper (fEnv 3 s.heap.objs.size 63 62)) (execs (fBody (top 3)) (fEnv 3 s.heap.objs.size 63 62))
        (fun f s' => R (.ok (.ret (match f with | .ret v => v | _ => .none))) s') (fun _ _ => False) s₁) :
    codeAny (model prg w) A (.call (.ref 63) ⟨[v], []⟩) R s := by
  obtain ⟨o, pm, doc, ho, hd, hc⟩ := W.fmean
  obtain ⟨od, hod, hdc, nd, hdd⟩ := W.dflt
  refine codeAny_call_function (by have := hA.depth; omega) ho hd rfl rfl rfl hc ?_
  show wpAny _ A.in1 (seqItems? (.ref 56) >>= _) _ _ s
  refine wpAny_bind (wpAny_seqItems hod hdd ?_)
  refine wpAny_of_eq (a := ([("data", v), ("weights", .none)] : List (Str × Value))) ?eq ?_
  case eq => rfl
  refine wpAny_newFunctionEnv_cells rfl (kindsX (by rfl) _) fun env he s' x => ?_
  subst he
  refine ⟨W.nolimit.keeps x.toInCall.keep, codeAny_func ?_⟩
  refine wpAny_mono (h s' ⟨W, ?_, x.toInCall.ns, x.cell, Nat.le_refl _, x.apart, x.above, fun _ hp => nomatch hp⟩) (fun _ _ h => h) fun _ _ h => h.elim
  exact Evo.keeps x.done

theorem fmean_call {R : Result → Shared → Prop} {ax : Addr} {us : List Value} {xs : List Int} (W : Wd s.heap) (hA : Lo 1 A)
    (hx : s.heap.IsList ax us.toArray) (ix : IntsAre us xs) (zx : xs.length = 16) (sx : Sm xs)
    (h : ∀ s' z t, Evo s s' → Fl z (16 * xs.sum) → R (.ok (.ret (.float z t))) s') :
    codeAny (model prg w) A (.call (.ref 63) ⟨[.ref ax], []⟩) R s := by
  have lx := ix.length
  refine enterFm W hA fun s₁ F => ?_
  replace F := F.add (isList_evo W.tab hx F.ev)
  have hA' : Lo 0 (A.deeper (fEnv 3 s.heap.objs.size 63 62)) := hA.deep _
  refine wpAny_execs_cons ?_
  refine wpAny_If ?_
  refine wpAny_isTrue_Compare1 ?_
  refine nmL F rfl ?_
  refine wpAny_Constant_none ?_
  refine is_none ?_
  refine wpAny_truthy_bool ?_
  rw [if_pos (by rfl)]
  refine wpAny_execs_cons ?_
  refine wpAny_Try_except ?_
  refine wpAny_execs_cons ?_
  refine wpAny_Assign_Name ?_
  refine callB F.W (by decide) bi_len ?_
  refine wpAny_items_cons ?_
  refine nmL F rfl ?_
  refine wpAny_items_nil ?_
  refine lenL (F.ls (ax, us.toArray) (by simp)) (by omega) ?_
  refine storeC (F.tok _) rfl rfl fun s₂ hs₂ F₂ _ => ?_
  refine wpAny_execs_nil (wpAny_execs_nil ?_)
  have h16 : Fl (Float64.ofInt us.length) (256 * 16) := by rw [lx, zx]; exact Fl.ofInt (by decide)
  have nz16 : ¬ Float64.isZero (Float64.ofInt us.length) = true := by rw [h16.isZero]; decide
  have nI16 : ¬ Float64.isInf (Float64.ofInt us.length) = true := Flt.fin_of_fits (notOver (by omega))
  have bx := sx.take xs.length
  rw [List.take_length] at bx
  refine wpAny_execs_cons ?_
  refine wpAny_Assign_Name ?_
  refine callI F₂.W (fun _ _ n => n.fsum) ?_
  refine wpAny_items_cons ?_
  refine nmL F₂ rfl ?_
  refine wpAny_items_nil ?_
  refine fsum_call hA' (F₂.ls (ax, us.toArray) (by simp)) ix sx fun s₃ fx tx ev₃ hfx => ?_
  have F₃ := F₂.evo ev₃
  refine storeL F₃ fun s₄ hs₄ F₄ _ => ?_
  refine wpAny_execs_cons ?_
  refine wpAny_If ?_
  refine wpAny_isTrue_Not ?_
  refine wpAny_isTrue_value ?_
  refine nmC F₄ rfl rfl rfl ?_
  refine truthy_int ?_
  rw [if_neg (by simp only [lx, zx]; decide)]
  refine wpAny_execs_nil ?_
  refine wpAny_execs_cons ?_
  refine wpAny_Return_some ?_
  refine wpAny_BinOp ?_
  refine nmL F₄ rfl ?_
  refine nmC F₄ rfl rfl rfl ?_
  refine AutoFloatOps.truediv_fi_2 nI16 nz16 ?_
  exact h _ _ _ (F₄.ev.trans (Evo.kp fun _ _ e => e)) (hfx.div h16 (by omega) (by decide) (by omega))

theorem ones_sm (ws : List Int) : Sm ((List.range 16).map fun (i : Nat) => if inW ws (i : Int) then (1 : Int) else 0) := by
  refine ⟨by simp, fun n hn => ?_⟩
  obtain ⟨i, _, rfl⟩ := List.mem_map.mp hn
  split <;> decide

theorem share_call {R : Result → Shared → Prop} {aw : Addr} {us : List Value} {ws : List Int}
    (W : Wd s.heap) (hA : Lo 2 A) (hw : s.heap.IsList aw us.toArray) (iw : IntsAre us ws)
    (h : ∀ s' z t, Evo s s' → Fl z (256 * cntF ws) → R (.ok (.ret (.float z t))) s') :
    codeAny (model prg w) A (.call (.ref 99) ⟨[.ref aw], []⟩) R s := by
  refine enter 11 W (by have := hA.depth; omega) W.share (binds := [("wins", .ref aw)]) (fun _ _ => rfl) rfl (fun s₁ F => ?_)
  replace F := F.add (isList_evo W.tab hw F.ev)
  have hA' : Lo 1 (A.deeper (fEnv 11 s.heap.objs.size 99 98)) := hA.deep _
  refine wpAny_execs_cons ?_
  refine wpAny_Return_some ?_
  refine wpAny_BinOp ?_
  refine wpAny_Constant_int ?_
  replace F := F.tok (s₁.toks + 1)
  refine callFm F.W ?_
  refine wpAny_items_cons ?_
  refine lcV (intP fun _ => true) (intF fun i => if inW ws i then 1 else 0) F (by with_unfolding_all rfl) (by decide) rfl (by decide) rfl ?_ ?_ ?_ ?_
    (P := fun v => ∃ (i : Nat) (t : Tok), i < 16 ∧ v = .int (0 + i) t) (S := fun vs => IntsAre vs ((List.range 16).map fun (i : Nat) => (0 : Int) + (i : Int)))
  · exact rangeE (n := 16) F.W fun r s' t' v' ev hr => ⟨ev, Src.range hA'.handled (F.evo ev).W hr (by decide) (by decide) (by decide)⟩
  · rintro C v s₃ m₃ E' ⟨i, ti, hi, rfl⟩ hn hm F₃
    exact no_tests rfl rfl
  · rintro C v s₃ m₃ E' ⟨i, ti, hi, rfl⟩ _ hn hm F₃
    refine wpAny_IfExp ?_
    refine wpAny_isTrue_Compare1 ?_
    refine nmN (hn : _) hm ?_
    refine nmC F₃ rfl rfl rfl ?_
    refine in_list_ints (F₃.ls _ (List.mem_cons_self ..)) iw ?_
    refine wpAny_truthy_bool ?_
    split
    · rename_i hb
      refine wpAny_Constant_int ⟨intF_mk (by rw [inW, if_pos hb]), Evo.kp fun _ _ e => e⟩
    · rename_i hb
      refine wpAny_Constant_int ⟨intF_mk (by rw [inW, if_neg hb]), Evo.kp fun _ _ e => e⟩
  · intro s₂ D ys vs F₂ ev₂ hS hP
    have hones := ints16' hS hP
    refine wpAny_items_nil ⟨ev₂, ?_⟩
    refine fmean_call F₂.W hA' (F₂.ls (D, ys) (by simp)) hones (by simp) (ones_sm ws) ?_
    intro s' z tz ev hz
    refine AutoFloatOps.mul_if_1 (Flt.fin_of_fits (notOver (by decide))) ?_
    have bx := (ones_sm ws).take 16
    rw [List.take_of_length_le (by simp)] at bx
    refine h _ _ _ ((F₂.ev.trans ev).trans (Evo.kp fun _ _ e => e)) ?_
    exact (Fl.ofInt (i := 16) (by decide)).mul hz (by unfold cntF; omega) (by unfold cntF; omega)
end
end Mine
end

section
open PySem PySem.W PyProof.Rows PySem.SeqAt
set_option Elab.async false
set_option maxRecDepth 100000
namespace Mine

/-- law's body behind its k-th statement -/
def lawB (k : Nat) : List Stmt := (fBody (top 13)).drop k
/-- law's block -/
abbrev lE (s₀ : Shared) : Env := fEnv 13 s₀.heap.objs.size 111 110
abbrev LF (s₀ : Shared) (m cm : Str → Option Value) (Γ : List (Addr × Array Value)) (s : Shared) : Prop :=
  Fm s₀ s₀.heap.objs.size (cellsFrom (s₀.heap.objs.size + 1) (fScope (top 13)).names []) m cm Γ s

theorem hn_ne {h : Heap} {m : Str → Option Value} (W : TabOk h) (hn : h.Ns 65 m) : False := by
  obtain ⟨ps, _, _, t⟩ := W
  obtain ⟨o, es, ep, ho, hd, _⟩ := hn
  rw [t] at ho; cases ho; cases hd
theorem anyInts : ∀ {vs ys : List Value}, Paired (fun _ y => ∃ i u, y = .int i u) vs ys → ∃ ci, IntsAre ys ci
  | _, _, .nil => ⟨[], .nil⟩
  | _, _, .cons ⟨i, u, e⟩ r => let ⟨ci, h⟩ := anyInts r; ⟨i :: ci, e ▸ .cons i u h⟩

section
variable {w : World} {A : Around} {E : Value → Shared → Prop} {s s₀ : Shared} {m cm : Str → Option Value} {Γ : List (Addr × Array Value)}

theorem law1 {asc : Addr} {us : List Value} {sc : List Int} {Q : Flow → Shared → Prop} (hh : A.handled = none) (F : LF s₀ m cm Γ s) (h1 : cm "script" = some (.ref asc)) (hl : (asc, us.toArray) ∈ Γ) (iu : IntsAre us sc) (zs : sc.length ≤ 63)
    (k : ∀ s' m' cm' Γ' Dc cv ci Dw ws wi q t, LF s₀ m' cm' Γ' s' → cm' "cells" = some (.ref Dc) → (Dc, cv) ∈ Γ' → IntsAre cv.toList ci → ci.length = 6 → cm' "weights" = some (.ref Dw) → (Dw, ws) ∈ Γ' → IntsAre ws.toList wi → wi.length = 4 → cm' "quota" = some (.int q t) →
      wpAny (model prg w) A (execs (lawB 3) (lE s₀)) Q E s') :
    wpAny (model prg w) A (execs (lawB 0) (lE s₀)) Q E s := by
  refine wpAny_execs_cons ?_
  refine lcC (p := fun _ => true) (fun _ y => ∃ i u, y = .int i u) F (by with_unfolding_all rfl) (by with_unfolding_all rfl) (by decide) rfl (by decide) rfl rfl rfl rfl rfl ?_ ?_ ?_ ?_
    (P := fun v => ∃ (i : Nat) (t : Tok), i < 6 ∧ v = .int (0 + i) t) (S := fun vs => IntsAre vs ((List.range 6).map fun (i : Nat) => (0 : Int) + (i : Int)))
  · exact rangeE (n := 6) F.W fun r s' t' v' ev hr => ⟨ev, Src.range hh (F.evo ev).W hr (by decide) (by decide) (by decide)⟩
  · rintro C v s₃ m₃ E' ⟨i, ti, hi, rfl⟩ hn hm F₃
    exact wpAny_pure ⟨rfl, .refl _ _⟩
  · rintro C v s₃ m₃ E' ⟨i, ti, hi, rfl⟩ _ hn hm F₃
    refine wpAny_BinOp (wpAny_mono (Q := fun v s₄ => (∃ b tb, v = .int b tb) ∧ Evo s₃ s₄) ?_ (fun v s₄ h => ?_) fun _ _ e => e)
    · refine Subscript_ ?_
      refine wpAny_List ?_
      refine wpAny_items_cons ?_
      refine wpAny_Constant_int ?_
      refine wpAny_items_cons ?_
      refine wpAny_UnaryOp ?_
      refine wpAny_Constant_int ?_
      refine neg_int ?_
      refine wpAny_items_cons ?_
      refine wpAny_Constant_int ?_
      refine wpAny_items_cons ?_
      refine wpAny_Constant_int ?_
      refine wpAny_items_cons ?_
      refine wpAny_Constant_int ?_
      refine wpAny_items_cons ?_
      refine wpAny_Constant_int ?_
      refine wpAny_items_nil ⟨(show (6 : Nat) ≤ sizeLine by decide), ?_⟩
      refine nmN (hn.push _ : _) hm ?_
      rcases (by omega : i = 0 ∨ i = 1 ∨ i = 2 ∨ i = 3 ∨ i = 4 ∨ i = 5) with rfl | rfl | rfl | rfl | rfl | rfl <;>
      exact itemL (l := s₃.heap.objs.size) ⟨_, Heap.get?_push_size _ rfl, rfl, _, rfl⟩ (by omega) (by omega) rfl ⟨⟨_, _, rfl⟩, Evo.kp fun _ _ e => Heap.get?_push_of_some _ e⟩
    · obtain ⟨⟨b, tb, rfl⟩, ev₄⟩ := h
      have F₄ := F₃.evo ev₄
      have hn₄ : s₄.heap.Ns C m₃ := hn.at' fun o e => ev₄.keep C o (fun q => nomatch q) (fun q => hn_ne F₃.W.tab (q ▸ hn)) e
      refine callB F₄.W (by decide) bi_sum ?_
      refine wpAny_items_cons ?_
      refine Subscript_ ?_
      refine nmC F₄ rfl rfl h1 ?_
      refine wpAny_Slice ?_
      rw [evalPart_some, evalPart_none, evalPart_some]
      refine nmN (hn₄ : _) hm ?_
      refine wpAny_pure ?_
      refine wpAny_Constant_int ?_
      refine sliceE ((F₄.ls _ hl).push _) (Heap.IsSliceOf.new ..) (.int _ _) .none (.int _ _) (by simp) (by have := iu.length; simp only [List.size_toArray]; rw [show sizeLine = 16777216 by decide]; omega) ?_
      refine wpAny_items_nil ?_
      have hp := iu.pick (some (0 + (i : Int))) none (some 6)
      refine sumL (vs := (slicePick us.toArray (some (0 + (i : Int))) none (some 6)).toList) hh ⟨_, Heap.get?_push_size _ rfl, rfl, _, rfl⟩ hp fun s₅ tk ev₅ => ?_
      refine add_int ⟨⟨_, _, rfl⟩, ?_⟩
      refine ev₄.trans (((Evo.kp (s := s₄) (tk := s₄.toks + 1) ?_).trans ev₅).trans (Evo.kp fun _ _ e => e))
      intro b o e
      exact Heap.get?_push_of_some _ (Heap.get?_push_of_some _ e)
  · intro s₁ Dc cv vs F₁ hS hP
    obtain ⟨ci, hci, hc6⟩ : ∃ ci, IntsAre cv.toList ci ∧ ci.length = 6 := by
      rw [List.filter_eq_self.mpr (fun _ _ => rfl)] at hP
      have e1 := hS.length
      have e2 := hP.length
      rw [List.length_map, List.length_range] at e1
      obtain ⟨ci, h⟩ := anyInts hP
      exact ⟨ci, h, by have := h.length; omega⟩
    refine wpAny_execs_cons ?_
    refine wpAny_Assign_Name ?_
    refine Subscript_ ?_
    refine nmC F₁ rfl rfl rfl ?_
    refine wpAny_Slice ?_
    rw [evalPart_some, evalPart_none]
    refine wpAny_pure ?_
    refine wpAny_Constant_int ?_
    refine wpAny_pure ?_
    have hz : cv.size = 6 := by have := hci.length; simpa [hc6] using this
    refine sliceE ((F₁.ls (Dc, cv) (by simp)).push _) (Heap.IsSliceOf.new ..) .none (.int _ _) .none (by simp) (by rw [hz]; decide) ?_
    have hw : IntsAre (slicePick cv none (some 4) none).toList (ci.take 4) := by
      have := slice_ints_uptoW hci (y := 4) (by decide)
      simpa using this
    have F₂ := (F₁.evo (s' := { s₁ with heap := (s₁.heap.push { cls := .type "slice", data := .fields #[.none, .int 4 s₁.toks, .none] }).push { cls := .type "list", data := .seq (slicePick cv none (some 4) none) }, toks := s₁.toks + 1 }) (Evo.kp fun b o e => Heap.get?_push_of_some _ (Heap.get?_push_of_some _ e))).add (a := (s₁.heap.push { cls := .type "slice", data := .fields #[.none, .int 4 s₁.toks, .none] }).objs.size) ⟨_, Heap.get?_push_size _ rfl, rfl, _, rfl⟩
    refine storeC F₂ rfl rfl fun s₃ hs₃ F₃ _ => ?_
    refine wpAny_execs_cons ?_
    refine wpAny_Assign_Name ?_
    refine Subscript_ ?_
    refine nmC F₃ rfl rfl rfl ?_
    refine wpAny_Constant_int ?_
    obtain ⟨t4, e4⟩ := intsGet hci (i := 4) (by omega)
    refine itemL ((F₃.tok _).ls (Dc, cv) (by simp)) (by decide) (by decide) (v := .int (ci.getD 4 0) t4) (by simpa using e4) ?_
    refine storeC (F₃.tok _) rfl rfl fun s₄ hs₄ F₄ _ => ?_
    exact k _ _ _ _ Dc cv ci _ _ (ci.take 4) _ _ F₄ rfl (by simp) hci hc6 rfl (List.mem_cons_self ..) hw (by simp [hc6]) rfl
end
end Mine
end

section
open PySem PySem.W PyProof.Rows PySem.SeqAt
set_option Elab.async false
set_option maxRecDepth 100000
namespace Mine

def sgF (q k : Int) : Int := (if k > q then 1 else 0) - (if k < q then 1 else 0)
def all16 : List Int := (List.range 16).map fun (i : Nat) => (i : Int)
def worthsF (wi : List Int) : List Int := all16.map (worthF wi)
/-- the rule's winning sets -/
def ruleF (wi : List Int) (q : Int) : List Int := all16.filter fun k => sgF q (worthF wi k) == 1

theorem all16_ints {vs : List Value} (h : IntsAre vs ((List.range 16).map fun (i : Nat) => (0 : Int) + (i : Int))) : IntsAre vs all16 := by
  have e : ((List.range 16).map fun (i : Nat) => (0 : Int) + (i : Int)) = all16 := List.map_congr_left fun i _ => Int.zero_add _
  rwa [e] at h
theorem pairAll {f : Int → Int} {vs : List Value} {ks : List Int} {ys : List Value} (h : IntsAre vs ks) (hp : Paired (intF f) (vs.filter (intP fun _ => true)) ys) : IntsAre ys (ks.map f) := by
  have := pairInts h hp
  rwa [List.filter_eq_self.mpr (fun _ _ => rfl)] at this
theorem pairId {p : Int → Bool} {vs : List Value} {ks : List Int} {ys : List Value} (h : IntsAre vs ks) (hp : Paired (intF id) (vs.filter (intP p)) ys) : IntsAre ys (ks.filter p) := by
  have := pairInts h hp
  rwa [List.map_id] at this

/-- doubles that are these ints -/
def FlsAre (vs : List Value) (ns : List Int) : Prop := Paired (fun n v => ∃ z t, v = Value.float z t ∧ Fl z (256 * n)) ns vs
def flF (f : Int → Int) : Value → Value → Prop := fun v y => ∀ k t, v = .int k t → ∃ z u, y = .float z u ∧ Fl z (256 * f k)
theorem pairFls {f : Int → Int} : ∀ {vs : List Value} {ks : List Int} {ys : List Value}, IntsAre vs ks → Paired (flF f) (vs.filter (intP fun _ => true)) ys → FlsAre ys (ks.map f) := by
  intro vs ks ys h
  induction h generalizing ys with
  | nil => intro q; cases q; exact .nil
  | cons k t h ih =>
    intro q
    rw [List.filter_cons_of_pos (by rfl)] at q
    cases q with
    | cons a b => exact .cons (a k t rfl) (ih b)
theorem FlsAre.length {vs : List Value} {ns : List Int} (h : FlsAre vs ns) : vs.length = ns.length := (Paired.length h).symm
theorem FlsAre.get {vs : List Value} {ns : List Int} (h : FlsAre vs ns) {i : Nat} (hi : i < ns.length) : ∃ z t, vs[i]? = some (.float z t) ∧ Fl z (256 * ns.getD i 0) := by
  induction h generalizing i with
  | nil => exact absurd hi (Nat.not_lt_zero _)
  | cons a b ih =>
    cases i with
    | zero => obtain ⟨z, t, e, f⟩ := a; exact ⟨z, t, congrArg some e, f⟩
    | succ i => exact ih (by simpa using hi)
theorem FlsAre.mem {vs : List Value} {ns : List Int} (h : FlsAre vs ns) : ∀ v ∈ vs, ∃ z t, v = .float z t := by
  induction h with
  | nil => intro v hv; cases hv
  | cons a b ih =>
    intro v hv
    rcases List.mem_cons.mp hv with rfl | hv
    · obtain ⟨z, t, e, _⟩ := a; exact ⟨z, t, e⟩
    · exact ih v hv
theorem imem {vs : List Value} {ns : List Int} (h : IntsAre vs ns) : ∀ v ∈ vs, ∃ k t, v = .int k t ∧ k ∈ ns := by
  induction h with
  | nil => intro v hv; cases hv
  | cons k t r ih =>
    intro v hv
    rcases List.mem_cons.mp hv with rfl | hv
    · exact ⟨k, t, rfl, List.mem_cons_self ..⟩
    · obtain ⟨k', t', e, h⟩ := ih v hv; exact ⟨k', t', e, List.mem_cons_of_mem _ h⟩

section
variable {w : World} {A : Around} {E : Value → Shared → Prop} {s s₀ : Shared} {m cm : Str → Option Value} {Γ : List (Addr × Array Value)}

/-- the source of a list of ints in the ledger -/
theorem srcInts {L : Addr} {cs : List (Str × Addr)} {D : Addr} {ys : Array Value} {ks : List Int} (hh : A.handled = none) (F : Fm s₀ L cs m cm Γ s) (hm : (D, ys) ∈ Γ) (hi : IntsAre ys.toList ks) (hz : ks.length ≤ 1000) :
    Src w A E (fun v => ∃ k t, v = .int k t ∧ k ∈ ks) (fun vs => IntsAre vs ks) (.ref D) s := by
  have hsz : ys.size ≤ sizeLine := by have := hi.length; rw [show sizeLine = 16777216 by decide]; simp at this; omega
  have S := Src.list (w := w) (E := E) hh F.W (F.ls _ hm) hsz
  intro env scope cl x ifs elt p Fx Fin hte hel fin
  refine S env scope cl x ifs elt p Fx Fin (fun C v s₃ m₃ E' hC hP => hte C v s₃ m₃ E' hC (imem hi v (by simpa using hP))) (fun C v s₃ m₃ E' hC hP => hel C v s₃ m₃ E' hC (imem hi v (by simpa using hP))) ?_
  intro D C s' m' ys' vs h1 h2 h3 h4 h5 h6 h7 h8 h9
  exact fin D C s' m' ys' vs h1 h2 h3 h4 h5 h6 (h7 ▸ hi) h8 h9

theorem isi_int_int {k : Int} {t : Tok} {Q : Value → Shared → Prop} (h : Q (.bool true) s) : wpAny (model prg w) A (call (.builtin "isinstance") [.int k t, .type "int"]) Q E s :=
  call_isinstance_yes (Tx := "int") (typeIs_int s k t) PySem.F.isi_meta_int PySem.F.sub_int_int h
theorem isi_float {z : UInt64} {t : Tok} {Q : Value → Shared → Prop} (h : Q (.bool true) s) : wpAny (model prg w) A (call (.builtin "isinstance") [.float z t, .type "float"]) Q E s :=
  call_isinstance_yes (Tx := "float") (AutoFloatOps.typeIs_float s z t) PySem.F.isi_meta_float PySem.F.sub_float_float h
theorem isi_int_bool {k : Int} {t : Tok} {Q : Value → Shared → Prop} (h : Q (.bool false) { s with toks := s.toks + 1 }) : wpAny (model prg w) A (call (.builtin "isinstance") [.int k t, .type "bool"]) Q E s :=
  call_isinstance (isinstance_false_int (by decide +kernel) PySem.F.isi_meta_bool PySem.F.sub_int_bool) h

theorem law2 {q : Int} {tq : Tok} {Dw : Addr} {ws : Array Value} {wi : List Int} {Q : Flow → Shared → Prop} (hA : Air A) (F : LF s₀ m cm Γ s)
    (h1 : cm "weights" = some (.ref Dw)) (hl : (Dw, ws) ∈ Γ) (iw : IntsAre ws.toList wi) (zw : wi.length = 4) (hq : cm "quota" = some (.int q tq))
    (k : ∀ s' cm' Γ' Dn ns, LF s₀ m cm' Γ' s' → (∀ x : Str, x ∉ (["worths", "signs"] : List Str) → cm' x = cm x) → (∀ p ∈ Γ, p ∈ Γ') → cm' "worths" = some (.ref Dn) → (Dn, ns) ∈ Γ' → IntsAre ns.toList (worthsF wi) →
      (∃ Dg gs, cm' "signs" = some (.ref Dg) ∧ (Dg, gs) ∈ Γ' ∧ IntsAre gs.toList ((worthsF wi).map (sgF q))) → wpAny (model prg w) A (execs (lawB 7) (lE s₀)) Q E s') :
    wpAny (model prg w) A (execs (lawB 3) (lE s₀)) Q E s := by
  refine wpAny_execs_cons ?_
  refine lcC (intP fun _ => true) (intF (worthF wi)) F (by with_unfolding_all rfl) (by with_unfolding_all rfl) (by decide) rfl (by decide) rfl rfl rfl rfl rfl ?_ ?_ ?_ ?_
    (P := fun v => ∃ (i : Nat) (t : Tok), i < 16 ∧ v = .int (0 + i) t) (S := fun vs => IntsAre vs ((List.range 16).map fun (i : Nat) => (0 : Int) + (i : Int)))
  · exact rangeE (n := 16) F.W fun r s' t' v' ev hr => ⟨ev, Src.range hA.handled (F.evo ev).W hr (by decide) (by decide) (by decide)⟩
  · rintro C v s₃ m₃ E' ⟨i, ti, hi, rfl⟩ hn hm F₃
    exact no_tests rfl rfl
  · rintro C v s₃ m₃ E' ⟨i, ti, hi, rfl⟩ _ hn hm F₃
    refine callF 9 F₃.W (fun _ _ n => n.worth) (fun _ W => W.worth) (by decide) ?_
    refine wpAny_items_cons ?_
    refine nmC F₃ rfl rfl h1 ?_
    refine wpAny_items_cons ?_
    refine nmN (hn : _) hm ?_
    refine wpAny_items_nil ⟨.refl _ _, ?_⟩
    refine worth_call F₃.W hA (ws := ws.toList) (F₃.ls _ hl) iw zw fun s' tk ev => ⟨intF_mk rfl, ev⟩
  intro s₁ Dn ns vs F₁ hS hP
  have hns : IntsAre ns.toList (worthsF wi) := pairAll (all16_ints hS) hP
  have zn : (worthsF wi).length = 16 := by simp [worthsF, all16]
  clear hS hP
  refine wpAny_execs_cons ?_
  refine lcC (intP fun _ => true) (intF (sgF q)) F₁ (by with_unfolding_all rfl) (by with_unfolding_all rfl) (by decide) rfl (by decide) rfl rfl rfl rfl rfl ?_ ?_ ?_ ?_
    (P := fun v => ∃ k t, v = .int k t ∧ k ∈ worthsF wi) (S := fun vs => IntsAre vs (worthsF wi))
  · exact nmC F₁ rfl rfl rfl ⟨.refl _ _, srcInts hA.handled F₁ (List.mem_cons_self ..) hns (by omega)⟩
  · rintro C v s₃ m₃ E' ⟨i, ti, rfl, _⟩ hn hm F₃
    exact no_tests rfl rfl
  · rintro C v s₃ m₃ E' ⟨i, ti, rfl, _⟩ _ hn hm F₃
    refine callF 7 F₃.W (fun _ _ n => n.twc) (fun _ W => W.twc) (by decide) ?_
    refine wpAny_items_cons ?_
    refine nmN (hn : _) hm ?_
    refine wpAny_items_cons ?_
    refine nmC F₃ rfl rfl hq ?_
    refine wpAny_items_nil ⟨.refl _ _, ?_⟩
    exact twc_call F₃.W hA fun s' tk ev => ⟨intF_mk rfl, ev⟩
  intro s₂ Dg gs vs F₂ hS hP
  have hgs : IntsAre gs.toList ((worthsF wi).map (sgF q)) := pairAll hS hP
  clear hS hP
  refine wpAny_execs_cons ?_
  refine wpAny_If ?_
  refine wpAny_isTrue_Compare1 ?_
  refine nmC F₂ rfl rfl rfl ?_
  refine lcV (intP fun _ => true) (intF (sgF q)) F₂ (by with_unfolding_all rfl) (by decide) rfl (by decide) rfl ?_ ?_ ?_ ?_
    (P := fun v => ∃ k t, v = .int k t ∧ k ∈ worthsF wi) (S := fun vs => IntsAre vs (worthsF wi))
  · exact nmC F₂ rfl rfl rfl ⟨.refl _ _, srcInts hA.handled F₂ (List.mem_cons_of_mem _ (List.mem_cons_self ..)) hns (by omega)⟩
  · rintro C v s₃ m₃ E' ⟨i, ti, rfl, _⟩ hn hm F₃
    exact no_tests rfl rfl
  · rintro C v s₃ m₃ E' ⟨i, ti, rfl, _⟩ _ hn hm F₃
    refine wpAny_IfExp ?_
    refine wpAny_isTrue_Compare1 ?_
    refine nmN (hn : _) hm ?_
    refine nmC F₃ rfl rfl hq ?_
    refine gt_int ?_
    refine wpAny_truthy_bool ?_
    split
    · rename_i hb
      have hb' : i > q := by simpa using hb
      refine wpAny_Constant_int ⟨intF_mk (by rw [sgF, if_pos hb', if_neg (by omega)]; rfl), Evo.kp fun _ _ e => e⟩
    · rename_i hb
      have hb' : ¬ i > q := by simpa using hb
      refine wpAny_IfExp ?_
      refine wpAny_isTrue_Compare1 ?_
      refine nmN (hn : _) hm ?_
      refine nmC F₃ rfl rfl hq ?_
      refine eq_int ?_
      refine wpAny_truthy_bool ?_
      split
      · rename_i hc
        have hc' : i = q := by simpa using hc
        refine wpAny_Constant_int ⟨intF_mk (by rw [sgF, if_neg hb', if_neg (by omega)]; rfl), Evo.kp fun _ _ e => e⟩
      · rename_i hc
        have hc' : ¬ i = q := by simpa using hc
        refine wpAny_UnaryOp ?_
        refine wpAny_Constant_int ?_
        refine neg_int ⟨intF_mk (by rw [sgF, if_neg hb', if_pos (by omega)]; rfl), Evo.kp fun _ _ e => e⟩
  intro s₃ D₃ y₃ vs F₃ _ hS hP
  have h₃ : IntsAre y₃.toList ((worthsF wi).map (sgF q)) := pairAll hS hP
  clear hS hP
  have hu : A.units + 64 < cLine := by have := hA.units; omega
  refine ne_intsK (vs := gs.toList) (us := y₃.toList) (F₃.ls (Dg, gs) (by simp)) hgs (F₃.ls (D₃, y₃) (by simp)) h₃ hu ?_
  refine wpAny_truthy_bool ?_
  rw [if_neg (by simp)]
  refine wpAny_execs_nil ?_
  refine wpAny_execs_cons ?_
  refine wpAny_If ?_
  refine wpAny_isTrue_Compare1 ?_
  refine lcV (fun _ => false) (intF id) F₃ (by with_unfolding_all rfl) (by decide) rfl (by decide) rfl ?_ ?_ ?_ ?_
    (P := fun v => ∃ k t, v = .int k t ∧ k ∈ (worthsF wi).map (sgF q)) (S := fun vs => IntsAre vs ((worthsF wi).map (sgF q)))
  · exact nmC F₃ rfl rfl rfl ⟨.refl _ _, srcInts hA.handled F₃ (by simp) hgs (by simp [zn])⟩
  · rintro C v s₄ m₄ E' ⟨i, ti, rfl, _⟩ hn hm F₄
    refine wpAny_tests_one ?_
    refine wpAny_isTrue_BoolOp ?_
    refine wpAny_allTrue_Or_cons ?_
    refine wpAny_isTrue_Not ?_
    refine wpAny_isTrue_value ?_
    refine callB F₄.W (by decide) bi_isinstance ?_
    refine wpAny_items_cons ?_
    refine nmN (hn : _) hm ?_
    refine wpAny_items_cons ?_
    refine nameB F₄.W (by decide) bi_int ?_
    refine wpAny_items_nil ?_
    refine isi_int_int ?_
    refine wpAny_truthy_bool ?_
    rw [if_neg (by decide)]
    refine wpAny_allTrue_Or_cons ?_
    refine wpAny_isTrue_value ?_
    refine callB F₄.W (by decide) bi_isinstance ?_
    refine wpAny_items_cons ?_
    refine nmN (hn : _) hm ?_
    refine wpAny_items_cons ?_
    refine nameB F₄.W (by decide) bi_bool ?_
    refine wpAny_items_nil ?_
    refine isi_int_bool ?_
    refine wpAny_truthy_bool ?_
    rw [if_neg (by decide)]
    refine wpAny_allTrue_Or_nil ?_
    exact ⟨rfl, Evo.kp fun _ _ e => e⟩
  · rintro C v s₄ m₄ E' _ hf
    cases hf
  intro s₄ D₄ y₄ vs F₄ _ hS hP
  rw [List.filter_eq_nil_iff.mpr (fun _ _ => by simp)] at hP
  have h₄ : IntsAre y₄.toList [] := by cases y₄ with | mk l => cases hP; exact .nil
  refine wpAny_List ?_
  refine wpAny_items_nil ⟨by decide, ?_⟩
  refine ne_intsK (vs := y₄.toList) (us := []) (ns := []) (ms := []) ((F₄.ls (D₄, y₄) (by simp)).push _) h₄ ⟨_, Heap.get?_push_size _ rfl, rfl, _, rfl⟩ .nil hu ?_
  refine wpAny_truthy_bool ?_
  rw [if_neg (by simp)]
  refine wpAny_execs_nil ?_
  have F₅ := F₄.evo (s' := { s₄ with heap := s₄.heap.push { cls := .type "list", data := .seq ([] : List Value).toArray } }) (Evo.kp (tk := s₄.toks) fun _ _ e => Heap.get?_push_of_some _ e)
  refine k _ _ _ Dn ns F₅ ?_ ?_ rfl (by simp) hns ⟨Dg, gs, rfl, by simp, hgs⟩
  · intro x hx
    simp only [List.mem_cons, List.not_mem_nil, or_false, not_or] at hx
    rw [if_neg hx.2, if_neg hx.1]
  · intro p hp
    simp [hp]
end
end Mine
end

section
open PySem PySem.W PyProof.Rows PySem.SeqAt
set_option Elab.async false
set_option maxRecDepth 100000
namespace Mine

def all4 : List Int := (List.range 4).map fun (i : Nat) => (i : Int)
theorem all4_ints {vs : List Value} (h : IntsAre vs ((List.range 4).map fun (i : Nat) => (0 : Int) + (i : Int))) : IntsAre vs all4 := by
  have e : ((List.range 4).map fun (i : Nat) => (0 : Int) + (i : Int)) = all4 := List.map_congr_left fun i _ => Int.zero_add _
  rwa [e] at h
/-- the four pulls -/
def pullsF (ws : List Int) : List Int := all4.map fun k => pullF ws k.toNat
theorem all16_get {i : Nat} (hi : i < 16) : all16.getD i 0 = i := by
  unfold all16
  rw [List.getD_eq_getElem?_getD, List.getElem?_map, List.getElem?_range hi]; rfl
theorem map16_get {f : Int → Int} {i : Nat} (hi : i < 16) : (all16.map f).getD i 0 = f i := by
  unfold all16
  rw [List.map_map, List.getD_eq_getElem?_getD, List.getElem?_map, List.getElem?_range hi]; rfl

section
variable {w : World} {A : Around} {E : Value → Shared → Prop} {s s₀ : Shared} {m cm : Str → Option Value} {Γ : List (Addr × Array Value)}

/-- an empty list, written, beside an empty list of ours -/
theorem neEmpty {D : Addr} {Q : Value → Shared → Prop} (hu : A.units + 64 < cLine) (hl : s.heap.IsList D #[])
    (h : Q (.bool false) { s with heap := s.heap.push { cls := .type "list", data := .seq ([] : List Value).toArray } }) :
    wpAny (model prg w) A (compareOp .NotEq (.ref D) (.ref s.heap.objs.size)) Q E { s with heap := s.heap.push { cls := .type "list", data := .seq ([] : List Value).toArray } } :=
  ne_intsK (vs := []) (us := []) (ns := []) (ms := []) (hl.push _) .nil ⟨_, Heap.get?_push_size _ rfl, rfl, _, rfl⟩ .nil hu h

theorem srcList {L : Addr} {cs : List (Str × Addr)} {D : Addr} {ys : Array Value} (hh : A.handled = none) (F : Fm s₀ L cs m cm Γ s) (hm : (D, ys) ∈ Γ) (hz : ys.size ≤ 1000) :
    Src w A E (· ∈ ys.toList) (· = ys.toList) (.ref D) s := by
  have S := Src.list (w := w) (E := E) hh F.W (F.ls _ hm) (show ys.size ≤ sizeLine by rw [show sizeLine = 16777216 by decide]; omega)
  intro env scope cl x ifs elt p Fx Fin hte hel fin
  exact S env scope cl x ifs elt p Fx Fin (fun C v s₃ m₃ E' hC hP => hte C v s₃ m₃ E' hC (by simpa using hP)) (fun C v s₃ m₃ E' hC hP => hel C v s₃ m₃ E' hC (by simpa using hP)) fin

theorem law3 {q : Int} {Dn Dg : Addr} {ns gs : Array Value} {wi : List Int} {Q : Flow → Shared → Prop} (hA : Air A) (F : LF s₀ m cm Γ s)
    (hg : cm "signs" = some (.ref Dg)) (hgl : (Dg, gs) ∈ Γ) (ig : IntsAre gs.toList ((worthsF wi).map (sgF q)))
    (k : ∀ s' cm' Γ' Dr rs Dp ps, LF s₀ m cm' Γ' s' → (∀ x : Str, x ∉ (["rule", "pulls"] : List Str) → cm' x = cm x) → (∀ p ∈ Γ, p ∈ Γ') → cm' "rule" = some (.ref Dr) → (Dr, rs) ∈ Γ' → IntsAre rs.toList (ruleF wi q) →
      cm' "pulls" = some (.ref Dp) → (Dp, ps) ∈ Γ' → FlsAre ps.toList (pullsF (ruleF wi q)) → wpAny (model prg w) A (execs (lawB 10) (lE s₀)) Q E s') :
    wpAny (model prg w) A (execs (lawB 7) (lE s₀)) Q E s := by
  have hu : A.units + 64 < cLine := by have := hA.units; omega
  refine wpAny_execs_cons ?_
  refine lcC (intP fun k => sgF q (worthF wi k) == 1) (intF id) F (by with_unfolding_all rfl) (by with_unfolding_all rfl) (by decide) rfl (by decide) rfl rfl rfl rfl rfl ?_ ?_ ?_ ?_
    (P := fun v => ∃ (i : Nat) (t : Tok), i < 16 ∧ v = .int (0 + i) t) (S := fun vs => IntsAre vs ((List.range 16).map fun (i : Nat) => (0 : Int) + (i : Int)))
  · exact rangeE (n := 16) F.W fun r s' t' v' ev hr => ⟨ev, Src.range hA.handled (F.evo ev).W hr (by decide) (by decide) (by decide)⟩
  · rintro C v s₃ m₃ E' ⟨i, ti, hi, rfl⟩ hn hm F₃
    refine wpAny_tests_one ?_
    refine wpAny_isTrue_Compare1 ?_
    refine Subscript_ ?_
    refine nmC F₃ rfl rfl hg ?_
    refine nmN (hn : _) hm ?_
    obtain ⟨t', e⟩ := intsGet ig (i := i) (by simp [worthsF, all16]; omega)
    rw [show ((worthsF wi).map (sgF q)).getD i 0 = sgF q (worthF wi i) by rw [worthsF, List.map_map]; exact map16_get hi] at e
    refine itemL (F₃.ls _ hgl) (by omega) (by omega) (v := .int (sgF q (worthF wi i)) t') (by rw [show (0 + (i : Int)).toNat = i by omega, ← e]; simp) ?_
    refine wpAny_Constant_int ?_
    refine eq_int ?_
    refine wpAny_truthy_bool ⟨?_, Evo.kp fun _ _ e => e⟩
    show _ = (sgF q (worthF wi (0 + (i : Int))) == 1)
    rw [Int.zero_add]
  · rintro C v s₃ m₃ E' ⟨i, ti, hi, rfl⟩ _ hn hm F₃
    exact nmN (hn : _) hm ⟨intF_mk rfl, .refl _ _⟩
  intro s₁ Dr rs vs F₁ hS hP
  have hrs : IntsAre rs.toList (ruleF wi q) := pairId (all16_ints hS) hP
  clear hS hP
  refine wpAny_execs_cons ?_
  refine lcC (intP fun _ => true) (flF fun k => pullF (ruleF wi q) k.toNat) F₁ (by with_unfolding_all rfl) (by with_unfolding_all rfl) (by decide) rfl (by decide) rfl rfl rfl rfl rfl ?_ ?_ ?_ ?_
    (P := fun v => ∃ (i : Nat) (t : Tok), i < 4 ∧ v = .int (0 + i) t) (S := fun vs => IntsAre vs ((List.range 4).map fun (i : Nat) => (0 : Int) + (i : Int)))
  · exact rangeE (n := 4) F₁.W fun r s' t' v' ev hr => ⟨ev, Src.range hA.handled (F₁.evo ev).W hr (by decide) (by decide) (by decide)⟩
  · rintro C v s₃ m₃ E' ⟨i, ti, hi, rfl⟩ hn hm F₃
    exact no_tests rfl rfl
  · rintro C v s₃ m₃ E' ⟨i, ti, hi, rfl⟩ _ hn hm F₃
    refine callF 10 F₃.W (fun _ _ n => n.pull) (fun _ W => W.pull) (by decide) ?_
    refine wpAny_items_cons ?_
    refine nmC F₃ rfl rfl rfl ?_
    refine wpAny_items_cons ?_
    refine nmN (hn : _) hm ?_
    refine wpAny_items_nil ⟨.refl _ _, ?_⟩
    rw [Int.zero_add]
    refine pull_call F₃.W (hA.lo.mono (by decide)) (us := rs.toList) (F₃.ls (Dr, rs) (by simp)) hrs hi fun s' z t ev hz => ⟨?_, ev⟩
    intro k' t' e
    cases e
    exact ⟨z, t, rfl, by show Fl z (256 * pullF _ ((i : Int).toNat)); rw [Int.toNat_natCast]; exact hz⟩
  intro s₂ Dp ps vs F₂ hS hP
  have hps : FlsAre ps.toList (pullsF (ruleF wi q)) := pairFls (all4_ints hS) hP
  clear hS hP
  refine wpAny_execs_cons ?_
  refine wpAny_If ?_
  refine wpAny_isTrue_Compare1 ?_
  have zp : ps.size = 4 := by have := hps.length; simpa [pullsF, all4] using this
  refine lcV (fun _ => false) (intF id) F₂ (by with_unfolding_all rfl) (by decide) rfl (by decide) rfl ?_ ?_ ?_ ?_
    (P := (· ∈ ps.toList)) (S := (· = ps.toList))
  · exact nmC F₂ rfl rfl rfl ⟨.refl _ _, srcList hA.handled F₂ (by simp) (by omega)⟩
  · rintro C v s₄ m₄ E' hv hn hm F₄
    obtain ⟨z, t, rfl⟩ := hps.mem v hv
    refine wpAny_tests_one ?_
    refine wpAny_isTrue_Not ?_
    refine wpAny_isTrue_value ?_
    refine callB F₄.W (by decide) bi_isinstance ?_
    refine wpAny_items_cons ?_
    refine nmN (hn : _) hm ?_
    refine wpAny_items_cons ?_
    refine nameB F₄.W (by decide) bi_float ?_
    refine wpAny_items_nil ?_
    refine isi_float ?_
    refine wpAny_truthy_bool ?_
    exact ⟨rfl, .refl _ _⟩
  · rintro C v s₄ m₄ E' _ hf
    cases hf
  intro s₄ D₄ y₄ vs F₄ _ hS hP
  rw [List.filter_eq_nil_iff.mpr (fun _ _ => by simp)] at hP
  have h₄ : y₄ = #[] := by cases y₄ with | mk l => cases hP; rfl
  subst h₄
  refine wpAny_List ?_
  refine wpAny_items_nil ⟨by decide, ?_⟩
  refine neEmpty hu (F₄.ls (D₄, #[]) (by simp)) ?_
  refine wpAny_truthy_bool ?_
  rw [if_neg (by decide)]
  refine wpAny_execs_nil ?_
  have F₅ := F₄.evo (s' := { s₄ with heap := s₄.heap.push { cls := .type "list", data := .seq ([] : List Value).toArray } }) (Evo.kp (tk := s₄.toks) fun _ _ e => Heap.get?_push_of_some _ e)
  refine k _ _ _ Dr rs Dp ps F₅ ?_ ?_ rfl (by simp) hrs rfl (by simp) hps
  · intro x hx
    simp only [List.mem_cons, List.not_mem_nil, or_false, not_or] at hx
    rw [if_neg hx.2, if_neg hx.1]
  · intro p hp
    simp [hp]
end
end Mine
end

section
open PySem PySem.W PyProof.Rows PySem.SeqAt
set_option Elab.async false
set_option maxRecDepth 100000
namespace Mine
section
variable {w : World} {A : Around} {E : Value → Shared → Prop} {s s' s₀ : Shared} {L : Addr} {cs : List (Str × Addr)} {m cm : Str → Option Value} {Γ : List (Addr × Array Value)} {env : Env}

/-- a step that changes the block's own slots only -/
theorem Fm.evoL {m' : Str → Option Value} (x : Fm s₀ L cs m cm Γ s) (ev : EvoB [L] s s') (hn : s'.heap.Ns L m') : Fm s₀ L cs m' cm Γ s' := by
  have n65 : L ≠ 65 := fun h => absurd x.big (by rw [h]; decide)
  have kp : ∀ b o, b ≠ L → b ≠ 65 → s.heap.get? b = some o → s'.heap.get? b = some o := fun b o h1 h2 e => ev.keep b o (fun hm => h1 (List.mem_singleton.mp hm)) h2 e
  refine ⟨x.wd, ⟨ev.os.trans x.ev.os, fun b o hb h65 e => kp b o (fun h => absurd (Heap.lt_size e) (Nat.not_lt.mpr (h ▸ x.fresh))) h65 (x.ev.keep b o hb h65 e), fun g => ev.gens (x.ev.gens g), fun t => ev.tab (x.ev.tab t)⟩,
    hn, fun n c h => ?_, x.fresh, x.apart, x.above, fun p hp => ?_⟩
  · obtain ⟨o, ho, hd⟩ := x.cell n c h
    exact ⟨o, kp c o (Nat.ne_of_gt (x.above n c (mem_of_lookup h))) (fun q => absurd (x.cbig h) (by rw [q]; decide)) ho, hd⟩
  · exact (x.ls p hp).at fun o e => kp p.1 o (fun h => isList_not_ns (h ▸ x.ls p hp) x.ns) (isList_ne x.W.tab (x.ls p hp)) e

/-- a change of one object that is none of ours -/
theorem Fm.chg (x : Fm s₀ L cs m cm Γ s) {I : Addr} (hI : s₀.heap.objs.size ≤ I) (hIL : I ≠ L) (hIc : ∀ n c, cs.lookup n = some c → I ≠ c) (hIl : ∀ p ∈ Γ, p.1 ≠ I) {h' : Heap} {tk : Nat}
    (hk : ∀ b o, b ∉ [I] → s.heap.get? b = some o → h'.get? b = some o) : Fm s₀ L cs m cm Γ { s with heap := h', toks := tk } := by
  have hIb : @LT.lt Nat _ 111 I := Nat.lt_of_lt_of_le x.wd.size hI
  have kp : ∀ b o, b ≠ I → s.heap.get? b = some o → h'.get? b = some o := fun b o h1 e => hk b o (fun hm => h1 (List.mem_singleton.mp hm)) e
  refine ⟨x.wd, ⟨x.ev.os, fun b o hb h65 e => kp b o (fun h => absurd (Heap.lt_size e) (Nat.not_lt.mpr (h ▸ hI))) (x.ev.keep b o hb h65 e), x.ev.gens, fun t => (x.ev.tab t).keeps
      (fun o e => kp _ o (fun h => absurd hIb (by rw [← h]; decide)) e) fun o e => kp _ o (fun h => absurd hIb (by rw [← h]; decide)) e⟩,
    x.ns.at' fun o e => kp _ o (Ne.symm hIL) e, fun n c h => (let ⟨o, ho, hd⟩ := x.cell n c h; ⟨o, kp c o (Ne.symm (hIc n c h)) ho, hd⟩), x.fresh, x.apart, x.above, fun p hp => (x.ls p hp).at fun o e => kp p.1 o (hIl p hp) e⟩

/-- for x in range(a, b), to its end -/
theorem forR {x : Str} {px pos : Pos} {iter : PySem.Expr} {body : List Stmt} {a b : Int} {n : Nat} {Q : Flow → Shared → Prop} (pm : Nat → (Str → Option Value) → Prop) (hh : A.handled = none)
    (F : Fm s₀ env.locals cs m cm Γ s) (hiter : wpAny (model prg w) A (eval iter env) (fun xv s₁ => Evo s s₁ ∧ ∃ r t u v, xv = .ref r ∧ IsRange s₁.heap r a b 1 t u v) E s)
    (hsm : Builtin.Range.small a b 1 = true) (hn : Builtin.Range.rangeSize a b 1 = (n : Int)) (h0 : pm 0 m)
    (hk : env.scope.kind = .function) (hl : env.kindOf x = some .local)
    (hbody : ∀ (i : Nat) t s₂ m₂ E', i < n → pm i m₂ → Fm s₀ env.locals cs (fun y => if y = x then some (.int (a + i) t) else m₂ y) cm Γ s₂ →
      wpAny (model prg w) A (execs body env) (fun f s₄ => f = .next ∧ ∃ m₄, pm (i + 1) m₄ ∧ Fm s₀ env.locals cs m₄ cm Γ s₄ ∧ EvoB [env.locals] s₂ s₄) E' s₂)
    (hend : ∀ s' m', pm n m' → Fm s₀ env.locals cs m' cm Γ s' → EvoB [env.locals] s s' → Q .next s')
    (hs : ∀ x, foldedSetIterable iter env x = pure x := by intro _; rfl) (ht : ∀ it v, letOwnedTupleGo (.Name x px) it v = pure () := by intro _ _; rfl) :
    wpAny (model prg w) A (exec (.For (.Name x px) iter body [] pos) env) Q E s := by
  refine forX (wpAny_mono hiter (fun xv s₁ h₁ => ?_) fun _ _ e => e) hh hs ht
  obtain ⟨ev, r, t, u, v, rfl, hr⟩ := h₁
  have f₁ := F.evo ev
  refine wpAny_pyIter_range hr hsm ?_
  generalize hh2 : s₁.heap.push _ = h2
  have up : ∀ b o, s₁.heap.get? b = some o → h2.get? b = some o := fun b o e => by rw [← hh2]; exact Heap.get?_push_of_some _ e
  have f₂ : Fm s₀ env.locals cs m cm Γ { s₁ with heap := h2 } := f₁.evo (Evo.kp (tk := s₁.toks) up)
  have ev₂ : EvoB [env.locals] s { s₁ with heap := h2 } := EvoB.ofEvo (ev.trans (Evo.kp (tk := s₁.toks) up))
  have hI : s₀.heap.objs.size ≤ s₁.heap.objs.size := Nat.le_of_lt (Nat.lt_of_le_of_lt f₁.fresh f₁.ns.lt)
  have hIL : s₁.heap.objs.size ≠ env.locals := Nat.ne_of_gt f₁.ns.lt
  have hIc : ∀ n c, cs.lookup n = some c → s₁.heap.objs.size ≠ c := fun n c h => Nat.ne_of_gt (let ⟨_, e, _⟩ := f₁.cell n c h; Heap.lt_size e)
  have hIl : ∀ p ∈ Γ, p.1 ≠ s₁.heap.objs.size := fun p hp => Nat.ne_of_lt (let ⟨_, e, _⟩ := f₁.ls p hp; Heap.lt_size e)
  have hIs : ∀ {b o}, s.heap.get? b = some o → b ≠ 65 → b ≠ s₁.heap.objs.size := fun e h65 => Nat.ne_of_lt (Heap.lt_size (ev.keep _ _ (fun q => nomatch q) h65 e))
  refine ⟨s₁.heap.objs.size, [s₁.heap.objs.size], [s₁.heap.objs.size], [env.locals], n, _, _, fun i s' => ∃ m', pm i m' ∧ Fm s₀ env.locals cs m' cm Γ s' ∧ EvoB [env.locals] s s', rfl, fun A' hA' => (Walks.range hA' _ a 1 n).bound,
    (by show IsRangeIter _ _ _ _ _; rw [← hh2, hn]; simpa using Heap.get?_push_size _ rfl), ⟨m, h0, f₂, ev₂⟩, ?_, ?_, ?_, ?_, ?_⟩
  · rintro i s' h' tk ⟨m', h1, h2, h3⟩ hk'
    refine ⟨m', h1, h2.chg hI hIL hIc hIl hk', h3.os, fun b o hb h65 e => hk' b o (fun hm => hIs e h65 (List.mem_singleton.mp hm)) (h3.keep b o hb h65 e), h3.gens, fun t => ?_⟩
    have hb := Nat.lt_of_lt_of_le F.wd.size hI
    exact (h3.tab t).keeps (fun o e => hk' _ o (fun hm => by rw [← List.mem_singleton.mp hm] at hb; exact absurd hb (by decide)) e) fun o e => hk' _ o (fun hm => by rw [← List.mem_singleton.mp hm] at hb; exact absurd hb (by decide)) e
  · intro b hb hm
    rw [List.mem_singleton] at hb hm
    exact hIL (hb.symm.trans hm)
  · intro hm
    have hb := Nat.lt_of_lt_of_le F.wd.size hI
    rw [← List.mem_singleton.mp hm] at hb; exact absurd hb (by decide)
  · rintro i v s' E' hi ⟨hi', t', e⟩ ⟨m', h1, h2, h3⟩
    rw [Int.mul_one] at e; subst e
    refine storeL h2 (fun s₃ hs₃ f₃ ev₃ => ?_) hk hl
    refine wpAny_mono (hbody i t' s₃ m' _ hi h1 f₃) (fun f s₄ h => ?_) fun _ _ e => e
    obtain ⟨rfl, m₄, h4, h5, h6⟩ := h
    exact ⟨rfl, ⟨m₄, h4, h5, h3.trans (ev₃.trans h6)⟩, ev₃.trans h6⟩
  · rintro s' ⟨m', h1, h2, h3⟩
    exact hend s' m' h1 h2 h3
end
end Mine
end

section
open PySem PySem.W PyProof.Rows PySem.SeqAt
set_option Elab.async false
set_option maxRecDepth 100000
namespace Mine

theorem pullF_small (ws : List Int) (k : Nat) : (pullF ws k).natAbs ≤ 16 := by
  unfold pullF
  have : ∀ l : List Nat, ((l.map fun (i : Nat) => if inW ws (i : Int) then (if bit (i : Int) k then 1 else -1) else (0 : Int)).sum).natAbs ≤ l.length := by
    intro l
    induction l with
    | nil => simp
    | cons a r ih =>
      rw [List.map_cons, List.sum_cons, List.length_cons]
      have : (if inW ws (a : Int) then (if bit (a : Int) k then 1 else -1) else (0 : Int)).natAbs ≤ 1 := by
        split
        · split <;> decide
        · decide
      omega
  have h := this (List.range 16)
  rwa [List.length_range] at h
theorem pullsF_get {ws : List Int} {i : Nat} (h : i < 4) : (pullsF ws).getD i 0 = pullF ws i := by
  rcases (by omega : i = 0 ∨ i = 1 ∨ i = 2 ∨ i = 3) with rfl | rfl | rfl | rfl <;> rfl

theorem sg_small (q k : Int) : -(2 ^ 64) < sgF q k ∧ sgF q k < 2 ^ 64 := by
  unfold sgF
  split <;> split <;> decide

/-- what the plain law says of the loop -/
def LoopOk (R wi : List Int) : Prop := ∀ i j ns' ms us', i < 4 → j < 4 → i ≤ j → ns'.Perm (R.map (chgF i j)) → ns'.Pairwise (· ≤ ·) → Sld R ns' ms us' →
  ms.length < 64 ∧ (∀ zs, zs.Perm (ms.map (chgF i j)) → zs.Pairwise (· ≤ ·) → us' = zs) ∧ (i = j → pullF R i = sgF 0 (wi.getD i 0) * ms.length) ∧
  (i ≠ j → pullF R i - pullF R j = 2 * sgF (wi.getD j 0) (wi.getD i 0) * ms.length)

section
variable {w : World} {A : Around} {E : Value → Shared → Prop} {s s' s₀ : Shared} {m cm : Str → Option Value} {Γ : List (Addr × Array Value)}

theorem eqLists {a b : Addr} {xs ys : Array Value} {ns : List Int} (hu : A.units + 2 < cLine) (ha : s.heap.IsList a xs) (hb : s.heap.IsList b ys) (ia : IntsAre xs.toList ns) (ib : IntsAre ys.toList ns) : EqAt A s (.ref a) (.ref b) true := by
  by_cases e : a = b
  · subst e; exact EqAt.same _
  · have za : xs.size = ns.length := by have := ia.length; simpa using this
    have zb : ys.size = ns.length := by have := ib.length; simpa using this
    have := RcAt.lists (A := A) (e := fun _ => true) ha hb (by rw [za, zb]) (by omega) (fun j h1 h2 => ?_)
    · rw [show ((List.range xs.size).all fun _ => true) = true by simp] at this
      exact EqAt.of_refs e this
    · obtain ⟨t1, e1⟩ := intsGet ia (i := j) (by omega)
      obtain ⟨t2, e2⟩ := intsGet ib (i := j) (by omega)
      have f1 : xs[j] = .int (ns.getD j 0) t1 := by
        have : xs.toList[j]? = some xs[j] := by simp [h1]
        rw [e1] at this; exact (Option.some.inj this).symm
      have f2 : ys[j] = .int (ns.getD j 0) t2 := by
        have : ys.toList[j]? = some ys[j] := by simp [h2]
        rw [e2] at this; exact (Option.some.inj this).symm
      rw [f1, f2]
      have := EqAt.int_int (A := A.in1) (s := s) (ns.getD j 0) t1 (ns.getD j 0) t2
      rwa [beq_self_eq_true] at this

theorem neTup2 {T1 T2 a b c d : Addr} {Q : Value → Shared → Prop} (hu : A.units + 10 < cLine) (h1 : s.heap.IsTuple T1 #[.ref a, .ref b]) (h2 : s.heap.IsTuple T2 #[.ref c, .ref d])
    (e1 : EqAt A.in1 s (.ref a) (.ref c) true) (e2 : EqAt A.in1 s (.ref b) (.ref d) true) (h : Q (.bool false) s) : wpAny (model prg w) A (compareOp .NotEq (.ref T1) (.ref T2)) Q E s := by
  show wpAny _ A (richCompare .NotEq _ _) Q E s
  refine RcNeAt.tuples (e := fun _ => true) h1 h2 (by omega) (fun j q1 q2 => ?_) prg w E Q h
  have : j = 0 ∨ j = 1 := by simp at q1; omega
  rcases this with rfl | rfl
  · exact e1
  · exact e2

theorem itemT {value slice : PySem.Expr} {T a b : Addr} {u : Tok} {Q : Value → Shared → Prop}
    (hl : s.heap.IsTuple T #[.ref a, .ref b]) (h : Q (.ref a) s)
    (hs : subscripted slice false (.ref T) (.int 0 u) = operate [.ref T, .int 0 u] (getItem (.ref T) (.int 0 u)) := by with_unfolding_all rfl) (hg : ∀ r, letTemporaryGo value (.ref T) r = pure () := by intro _; with_unfolding_all rfl) :
    wpAny (model prg w) A (subscriptTail value slice (.ref T) (.int 0 u)) Q E s := by
  exact item_tuple (items := #[.ref a, .ref b]) (j := 0) hl (by decide) (by decide) (by rfl) rfl h hs hg

theorem flEq {z : UInt64} {a b : Int} (h : Fl z (256 * a)) (e : a = b) : (Float64.cmpInt z b != some Ordering.eq) = false := by
  rw [h.cmpInt, e]
  simp

theorem law4 {q tq' : Int} {Dr Dp Dw : Addr} {rs ps ws : Array Value} {wi R : List Int} {envL : Nat} {Q : Flow → Shared → Prop} (hA : Air A) (hfr : A.frames = some [lE s₀]) (F : LF s₀ m cm Γ s)
    (hr : cm "rule" = some (.ref Dr)) (hrl : (Dr, rs) ∈ Γ) (ir : IntsAre rs.toList R) (zr : R.length ≤ 16)
    (hp : cm "pulls" = some (.ref Dp)) (hpl : (Dp, ps) ∈ Γ) (ip : FlsAre ps.toList (pullsF R))
    (hw : cm "weights" = some (.ref Dw)) (hwl : (Dw, ws) ∈ Γ) (iw : IntsAre ws.toList wi) (zw : wi.length = 4) (ok : LoopOk R wi)
    (k : ∀ s' m', LF s₀ m' cm Γ s' → wpAny (model prg w) A (execs (lawB 11) (lE s₀)) Q E s') :
    wpAny (model prg w) A (execs (lawB 10) (lE s₀)) Q E s := by
  refine wpAny_execs_cons ?_
  refine forR (a := 0) (b := 4) (n := 4) (fun _ _ => True) hA.handled F ?_ (by decide) (by decide) trivial rfl rfl ?_ ?_
  · exact rangeE (n := 4) F.W fun r s' t' v' ev hr => ⟨ev, r, _, _, _, rfl, hr⟩
  · intro i ti s₁ m₁ E' hi _ F₁
    rw [Int.zero_add] at F₁
    refine wpAny_execs_cons ?_
    refine forR (a := i) (b := 4) (n := 4 - i) (fun _ m => m "i" = some (.int i ti)) hA.handled F₁ ?_ (by rcases (by omega : i = 0 ∨ i = 1 ∨ i = 2 ∨ i = 3) with rfl | rfl | rfl | rfl <;> decide) (by rcases (by omega : i = 0 ∨ i = 1 ∨ i = 2 ∨ i = 3) with rfl | rfl | rfl | rfl <;> decide) rfl rfl rfl ?_ ?_
    · refine callT F₁.W (by decide) bi_range ?_
      refine wpAny_items_cons ?_
      refine nmL F₁ rfl ?_
      refine wpAny_items_cons ?_
      refine wpAny_Constant_int ?_
      refine wpAny_items_nil ?_
      refine range2 fun r s' v' ev hr => ⟨(Evo.kp (tk := s₁.toks + 1) fun _ _ e => e).trans ev, r, _, _, _, rfl, hr⟩
    · intro j' tj s₂ m₂ E₂ hj' hm F₂
      obtain ⟨j, hj, hij, ej⟩ : ∃ j : Nat, j < 4 ∧ i ≤ j ∧ ((i : Int) + (j' : Int)) = (j : Int) := ⟨i + j', by omega, by omega, by omega⟩
      rw [ej] at F₂
      have hm' : (fun y => if y = ("j" : Str) then some (.int (j : Int) tj) else m₂ y) "i" = some (.int (i : Int) ti) := hm
      refine wpAny_execs_cons ?_
      refine wpAny_Assign_Name ?_
      refine callF 6 F₂.W (fun _ _ n => n.sld) (fun _ W => W.sld) (by decide) ?_
      refine wpAny_items_cons ?_
      refine nmC F₂ rfl rfl hr ?_
      refine wpAny_items_cons ?_
      refine callF 12 F₂.W (fun _ _ n => n.changed) (fun _ W => W.changed) (by decide) ?_
      refine wpAny_items_cons ?_
      refine nmC F₂ rfl rfl hr ?_
      refine wpAny_items_cons ?_
      refine nmL F₂ hm' ?_
      refine wpAny_items_cons ?_
      refine nmL F₂ rfl ?_
      refine wpAny_items_nil ⟨.refl _ _, ?_⟩
      refine changed_call F₂.W hA (us := rs.toList) (F₂.ls _ hrl) ir (by omega) hi hj fun s₃ D vs' ns' ev₃ hD hvs hperm hsort => ?_
      have F₃ := (F₂.evo ev₃).add hD
      refine wpAny_items_nil ⟨ev₃, ?_⟩
      have zns : ns'.length = R.length := by rw [hperm.length_eq, List.length_map]
      refine sld_call (envc := lE s₀) (us := rs.toList) F₃.W hA hfr rfl (show ScopeKind.function ≠ ScopeKind.module by decide) F₃.ns F₃.big (F₃.ls (Dr, rs) (List.mem_cons_of_mem _ hrl)) (F₃.ls (D, vs'.toArray) (by simp)) ir hvs (by omega) (by omega) ?_
      intro s₄ T D1 D2 M U ms us' ev₄ hns₄ hT hM hU im iu hsld
      obtain ⟨zm, ok1, ok2, ok3⟩ := ok i j ns' ms us' hi hj hij hperm hsort hsld
      have F₄ := ((F₃.evoL ev₄ hns₄).add hU.isList).add hM.isList
      have nT : T ≠ s₀.heap.objs.size := fun h => isTup_not_ns (h ▸ hT) F₄.ns
      refine storeL F₄ fun s₅ hs₅ F₅ ev₅ => ?_
      have hT₅ : s₅.heap.IsTuple T #[.ref D1, .ref D2] := hT.extBut hs₅.extBut nT
      refine wpAny_execs_cons ?_
      refine wpAny_If ?_
      refine wpAny_isTrue_Compare1 ?_
      refine nmL F₅ rfl ?_
      refine wpAny_Tuple ?_
      refine wpAny_items_cons ?_
      refine Subscript_ ?_
      refine nmL F₅ rfl ?_
      refine wpAny_Constant_int ?_
      replace F₅ := F₅.tok (s₅.toks + 1)
      refine itemT hT₅ ?_
      refine wpAny_items_cons ?_
      refine callF 12 F₅.W (fun _ _ n => n.changed) (fun _ W => W.changed) (by decide) ?_
      refine wpAny_items_cons ?_
      refine Subscript_ ?_
      refine nmL F₅ rfl ?_
      refine wpAny_Constant_int ?_
      have ev₅' : Evo { s₅ with toks := s₅.toks + 1 } { s₅ with toks := s₅.toks + 1 + 1 } := Evo.kp (s := { s₅ with toks := s₅.toks + 1 }) (tk := s₅.toks + 1 + 1) fun _ _ e => e
      replace F₅ := F₅.tok (s₅.toks + 1 + 1)
      refine itemT hT₅ ?_
      refine wpAny_items_cons ?_
      refine nmL F₅ hm' ?_
      refine wpAny_items_cons ?_
      refine nmL F₅ rfl ?_
      refine wpAny_items_nil ⟨ev₅', ?_⟩
      refine changed_call F₅.W hA (us := M.toList) (F₅.ls (D1, M) (by simp)) im zm hi hj fun s₆ D3 vs3 zs ev₆ hD3 hvs3 hperm3 hsort3 => ?_
      have F₆ := (F₅.evo ev₆).add hD3
      have hT₆ : s₆.heap.IsTuple T #[.ref D1, .ref D2] := isTup_evo F₅.W.tab hT₅ ev₆
      refine wpAny_items_nil ⟨(show (2 : Nat) ≤ sizeLine by decide), ?_⟩
      have F₇ := F₆.evo (s' := { s₆ with heap := s₆.heap.push { cls := .type "tuple", data := .seq [Value.ref D1, Value.ref D3].toArray } }) (Evo.kp (tk := s₆.toks) fun _ _ e => Heap.get?_push_of_some _ e)
      have hu := hA.units
      refine neTup2 (by omega) (hT₆.at fun o e => Heap.get?_push_of_some _ e) ⟨_, Heap.get?_push_size _ rfl, rfl, _, rfl⟩ (EqAt.same _) (eqLists (show A.units + 1 + 2 < cLine by omega) (F₇.ls (D2, U) (by simp)) (F₇.ls (D3, vs3.toArray) (by simp)) iu (ok1 zs hperm3 hsort3 ▸ hvs3)) ?_
      refine wpAny_truthy_bool ?_
      rw [if_neg (by decide)]
      refine wpAny_execs_nil ?_
      have hT₇ : (s₆.heap.push { cls := .type "tuple", data := .seq [Value.ref D1, Value.ref D3].toArray }).IsTuple T #[.ref D1, .ref D2] := hT₆.at fun o e => Heap.get?_push_of_some _ e
      have evB : EvoB [s₀.heap.objs.size] s₂ { s₆ with heap := s₆.heap.push { cls := .type "tuple", data := .seq [Value.ref D1, Value.ref D3].toArray } } := by
        refine (EvoB.ofEvo ev₃).trans (ev₄.trans (ev₅.trans (EvoB.ofEvo ?_)))
        exact ((Evo.kp (s := s₅) (tk := s₅.toks + 1 + 1) fun _ _ e => e).trans ev₆).trans (Evo.kp (tk := s₆.toks) fun _ _ e => Heap.get?_push_of_some _ e)
      generalize hgen : ({ s₆ with heap := s₆.heap.push { cls := .type "tuple", data := .seq [Value.ref D1, Value.ref D3].toArray } } : Shared) = s₇ at F₇ evB ⊢
      have hT₇' : s₇.heap.IsTuple T #[.ref D1, .ref D2] := by rw [← hgen]; exact hT₇
      clear hgen
      have zM : M.toList.length = ms.length := im.length
      refine wpAny_execs_cons ?_
      refine wpAny_If (wpAny_mono (Q := fun b s₈ => b = false ∧ Evo s₇ s₈) ?_ (fun b s₈ h => ?_) fun _ _ e => e)
      · refine wpAny_isTrue_BoolOp ?_
        refine wpAny_allTrue_And_cons ?_
        refine wpAny_isTrue_Compare1 ?_
        refine nmL F₇ hm' ?_
        refine nmL F₇ rfl ?_
        refine eq_int ?_
        refine wpAny_truthy_bool ?_
        by_cases hc : i = j
        · rw [if_pos (by simp [hc])]
          refine wpAny_allTrue_And_cons ?_
          refine wpAny_isTrue_Compare1 ?_
          refine Subscript_ ?_
          refine nmC F₇ rfl rfl hp ?_
          refine nmL F₇ hm' ?_
          obtain ⟨z, tz, ez, fz⟩ := ip.get (i := i) (by simp [pullsF, all4]; omega)
          rw [pullsF_get hi] at fz
          refine itemL (F₇.ls (Dp, ps) (by simp [hpl])) (by omega) (by omega) (v := .float z tz) (by rw [Int.toNat_natCast, ← ez]; simp) ?_
          refine wpAny_BinOp ?_
          refine callF 7 F₇.W (fun _ _ n => n.twc) (fun _ W => W.twc) (by decide) ?_
          refine wpAny_items_cons ?_
          refine Subscript_ ?_
          refine nmC F₇ rfl rfl hw ?_
          refine nmL F₇ hm' ?_
          obtain ⟨tw, ew⟩ := intsGet iw (i := i) (by omega)
          refine itemL (F₇.ls (Dw, ws) (by simp [hwl])) (by omega) (by omega) (v := .int (wi.getD i 0) tw) (by rw [Int.toNat_natCast, ← ew]; simp) ?_
          refine wpAny_items_cons ?_
          refine wpAny_Constant_int ?_
          refine wpAny_items_nil ⟨Evo.kp (s := s₇) (tk := s₇.toks + 1) fun _ _ e => e, ?_⟩
          refine twc_call (F₇.tok _).W hA fun s' tk ev => ?_
          have F₈ := (F₇.tok (s₇.toks + 1)).evo ev
          have hT₈ : s'.heap.IsTuple T #[.ref D1, .ref D2] := isTup_evo (s := { s₇ with toks := s₇.toks + 1 }) (F₇.tok _).W.tab hT₇' ev
          refine callB F₈.W (by decide) bi_len ?_
          refine wpAny_items_cons ?_
          refine Subscript_ ?_
          refine nmL F₈ rfl ?_
          refine wpAny_Constant_int ?_
          refine itemT hT₈ ?_
          refine wpAny_items_nil ?_
          refine lenL (vs := M.toList) ((F₈.tok _).ls (D1, M) (by simp)) (by omega) ?_
          refine mul_int ?_ (.of_left (intBits_le_64 (sg_small 0 (wi.getD i 0)).1 (sg_small 0 (wi.getD i 0)).2))
          refine ne_fi ?_
          refine wpAny_truthy_bool ?_
          rw [if_neg (by rw [flEq fz (by rw [zM]; exact ok2 hc)]; decide)]
          exact ⟨rfl, ((Evo.kp (s := s₇) (tk := s₇.toks + 1) fun _ _ e => e).trans ev).trans (Evo.kp fun _ _ e => e)⟩
        · rw [if_neg (by simp only [beq_iff_eq]; omega)]
          exact ⟨rfl, .refl _ _⟩
      obtain ⟨rfl, ev₈⟩ := h
      rw [if_neg (by decide)]
      refine wpAny_execs_nil ?_
      have F₈ := F₇.evo ev₈
      have hT₈ : s₈.heap.IsTuple T #[.ref D1, .ref D2] := isTup_evo F₇.W.tab hT₇' ev₈
      refine wpAny_execs_cons ?_
      refine wpAny_If (wpAny_mono (Q := fun b s₉ => b = false ∧ Evo s₈ s₉) ?_ (fun b s₉ h => ?_) fun _ _ e => e)
      · refine wpAny_isTrue_BoolOp ?_
        refine wpAny_allTrue_And_cons ?_
        refine wpAny_isTrue_Compare1 ?_
        refine nmL F₈ hm' ?_
        refine nmL F₈ rfl ?_
        refine ne_int ?_
        refine wpAny_truthy_bool ?_
        by_cases hc : i = j
        · rw [if_neg (by simp [hc])]
          exact ⟨rfl, .refl _ _⟩
        · rw [if_pos (bne_iff_ne.mpr (by omega))]
          refine wpAny_allTrue_And_cons ?_
          refine wpAny_isTrue_Compare1 ?_
          refine wpAny_BinOp ?_
          refine Subscript_ ?_
          refine nmC F₈ rfl rfl hp ?_
          refine nmL F₈ hm' ?_
          obtain ⟨z, tz, ez, fz⟩ := ip.get (i := i) (by simp [pullsF, all4]; omega)
          obtain ⟨y, ty, ey, fy⟩ := ip.get (i := j) (by simp [pullsF, all4]; omega)
          rw [pullsF_get hi] at fz
          rw [pullsF_get hj] at fy
          refine itemL (F₈.ls (Dp, ps) (by simp [hpl])) (by omega) (by omega) (v := .float z tz) (by rw [Int.toNat_natCast, ← ez]; simp) ?_
          refine Subscript_ ?_
          refine nmC F₈ rfl rfl hp ?_
          refine nmL F₈ rfl ?_
          refine itemL (F₈.ls (Dp, ps) (by simp [hpl])) (by omega) (by omega) (v := .float y ty) (by rw [Int.toNat_natCast, ← ey]; simp) ?_
          refine AutoFloatOps.sub_0 ?_
          have fzy : Fl (Float64.sub z y) (256 * (pullF R i - pullF R j)) := by
            have := fz.sub fy (by have := pullF_small R i; have := pullF_small R j; omega)
            rwa [← Int.mul_sub] at this
          refine wpAny_BinOp ?_
          refine wpAny_BinOp ?_
          refine wpAny_Constant_int ?_
          have ev0 : Evo s₈ { s₈ with toks := s₈.toks + 1 + 1 } := Evo.kp (s := s₈) (tk := s₈.toks + 1 + 1) fun _ _ e => e
          have F₉ := F₈.evo ev0
          refine callF 7 F₉.W (fun _ _ n => n.twc) (fun _ W => W.twc) (by decide) ?_
          refine wpAny_items_cons ?_
          refine Subscript_ ?_
          refine nmC F₉ rfl rfl hw ?_
          refine nmL F₉ hm' ?_
          obtain ⟨tw, ew⟩ := intsGet iw (i := i) (by omega)
          obtain ⟨tv, ew2⟩ := intsGet iw (i := j) (by omega)
          refine itemL (F₉.ls (Dw, ws) (by simp [hwl])) (by omega) (by omega) (v := .int (wi.getD i 0) tw) (by rw [Int.toNat_natCast, ← ew]; simp) ?_
          refine wpAny_items_cons ?_
          refine Subscript_ ?_
          refine nmC F₉ rfl rfl hw ?_
          refine nmL F₉ rfl ?_
          refine itemL (F₉.ls (Dw, ws) (by simp [hwl])) (by omega) (by omega) (v := .int (wi.getD j 0) tv) (by rw [Int.toNat_natCast, ← ew2]; simp) ?_
          refine wpAny_items_nil ⟨.refl _ _, ?_⟩
          refine twc_call F₉.W hA fun s' tk ev => ?_
          have F₁₀ := F₉.evo ev
          have hT₁₀ : s'.heap.IsTuple T #[.ref D1, .ref D2] := isTup_evo F₈.W.tab hT₈ (ev0.trans ev)
          have sb := sg_small (wi.getD j 0) (wi.getD i 0)
          refine mul_int ?_ (.of_left (intBits_le_64 (by decide) (by decide)))
          refine callB (F₁₀.tok _).W (by decide) bi_len ?_
          refine wpAny_items_cons ?_
          refine Subscript_ ?_
          refine nmL (F₁₀.tok _) rfl ?_
          refine wpAny_Constant_int ?_
          refine itemT hT₁₀ ?_
          refine wpAny_items_nil ?_
          refine lenL (vs := M.toList) ((F₁₀.tok _).ls (D1, M) (by simp)) (by omega) ?_
          refine mul_int ?_ (.of_right (intBits_le_64 (by omega) (by omega)))
          refine ne_fi ?_
          refine wpAny_truthy_bool ?_
          rw [if_neg (by rw [flEq fzy (by rw [zM]; exact ok3 hc)]; decide)]
          exact ⟨rfl, (ev0.trans ev).trans (Evo.kp fun _ _ e => e)⟩
      obtain ⟨rfl, ev₉⟩ := h
      rw [if_neg (by decide)]
      refine wpAny_execs_nil (wpAny_execs_nil ?_)
      refine ⟨rfl, _, ?_, (F₈.evo ev₉).drop (fun p hp => by simp [hp]), evB.trans (EvoB.ofEvo (ev₈.trans ev₉))⟩
      exact hm'
    · intro s' m' _ F' ev
      exact wpAny_execs_nil ⟨rfl, m', trivial, F', ev⟩
  · intro s' m' _ F' _
    exact k s' m' F'
end
end Mine
end

section
open PySem PySem.W PyProof.Rows PySem.SeqAt
set_option Elab.async false
set_option maxRecDepth 100000
namespace Mine

def turnF (c5 : Int) : List Int := all16.filter fun k => bit c5 k.toNat
def goneF (R T : List Int) : List Int := T.filter fun k => inW R k
def comeF (R T : List Int) : List Int := T.filter fun k => !inW R k
def otherF (R T : List Int) : List Int := all16.filter fun k => inW R k != inW T k

section
variable {w : World} {A : Around} {E : Value → Shared → Prop} {s s' s₀ : Shared} {m cm : Str → Option Value} {Γ : List (Addr × Array Value)}

theorem ne_bools {a b : Bool} {Q : Value → Shared → Prop} (h : Q (.bool (a != b)) s) : wpAny (model prg w) A (compareOp .NotEq (.bool a) (.bool b)) Q E s :=
  RcNeAt.bool_bool a b prg w E Q (by cases a <;> cases b <;> exact h)

theorem pow16 {i : Nat} (h : i < 16) : 0 < (2 : Int) ^ i ∧ (2 : Int) ^ i < 1073741824 := by
  have h1 : (0 : Int) < 2 ^ i := Int.pow_pos (by decide)
  have h2 : (2 : Nat) ^ i ≤ 2 ^ 15 := Nat.pow_le_pow_right (by decide) (by omega)
  have h3 : ((2 ^ i : Nat) : Int) = (2 : Int) ^ i := by simp
  omega

theorem law5 {Dc Dr : Addr} {cv rs : Array Value} {ci R : List Int} {Q : Flow → Shared → Prop} (hA : Air A) (F : LF s₀ m cm Γ s)
    (hc : cm "cells" = some (.ref Dc)) (hcl : (Dc, cv) ∈ Γ) (ic : IntsAre cv.toList ci) (zc : ci.length = 6)
    (hr : cm "rule" = some (.ref Dr)) (hrl : (Dr, rs) ∈ Γ) (ir : IntsAre rs.toList R)
    (k : ∀ s' m' cm' Γ' Dg gs De cs Do os, LF s₀ m' cm' Γ' s' → (∀ x : Str, x ∉ (["turned", "other"] : List Str) → cm' x = cm x) → (∀ p ∈ Γ, p ∈ Γ') →
      m' "gone" = some (.ref Dg) → (Dg, gs) ∈ Γ' → IntsAre gs.toList (goneF R (turnF (ci.getD 5 0))) → m' "come" = some (.ref De) → (De, cs) ∈ Γ' → IntsAre cs.toList (comeF R (turnF (ci.getD 5 0))) →
      cm' "other" = some (.ref Do) → (Do, os) ∈ Γ' → IntsAre os.toList (otherF R (turnF (ci.getD 5 0))) → wpAny (model prg w) A (execs (lawB 15) (lE s₀)) Q E s') :
    wpAny (model prg w) A (execs (lawB 11) (lE s₀)) Q E s := by
  refine wpAny_execs_cons ?_
  refine lcC (intP fun k => bit (ci.getD 5 0) k.toNat) (intF id) F (by with_unfolding_all rfl) (by with_unfolding_all rfl) (by decide) rfl (by decide) rfl rfl rfl rfl rfl ?_ ?_ ?_ ?_
    (P := fun v => ∃ (i : Nat) (t : Tok), i < 16 ∧ v = .int (0 + i) t) (S := fun vs => IntsAre vs ((List.range 16).map fun (i : Nat) => (0 : Int) + (i : Int)))
  · exact rangeE (n := 16) F.W fun r s' t' v' ev hr => ⟨ev, Src.range hA.handled (F.evo ev).W hr (by decide) (by decide) (by decide)⟩
  · rintro C v s₃ m₃ E' ⟨i, ti, hi, rfl⟩ hn hm F₃
    rw [Int.zero_add] at hm ⊢
    refine wpAny_tests_one ?_
    refine wpAny_isTrue_Compare1 ?_
    refine wpAny_BinOp ?_
    refine wpAny_BinOp ?_
    refine Subscript_ ?_
    refine nmC F₃ rfl rfl hc ?_
    refine wpAny_Constant_int ?_
    obtain ⟨t5, e5⟩ := intsGet ic (i := 5) (by omega)
    refine itemL ((F₃.tok _).ls _ hcl) (by decide) (by decide) (v := .int (ci.getD 5 0) t5) (by simpa using e5) ?_
    refine wpAny_BinOp ?_
    refine wpAny_Constant_int ?_
    refine nmN (hn : _) hm ?_
    refine pow2N (by omega) (by omega) ?_
    rw [Int.toNat_natCast]
    refine fdivN (pow16 hi).1 (pow16 hi).2 ?_
    refine wpAny_Constant_int ?_
    refine fmodN (by decide) ?_
    refine wpAny_Constant_int ?_
    refine eq_int ?_
    refine wpAny_truthy_bool ⟨?_, Evo.kp fun _ _ e => e⟩
    show _ = bit (ci.getD 5 0) ((i : Int).toNat)
    rw [Int.toNat_natCast]; rfl
  · rintro C v s₃ m₃ E' ⟨i, ti, hi, rfl⟩ _ hn hm F₃
    exact nmN (hn : _) hm ⟨intF_mk rfl, .refl _ _⟩
  intro s₁ Dt ts vs F₁ hS hP
  have hts : IntsAre ts.toList (turnF (ci.getD 5 0)) := pairId (all16_ints hS) hP
  have zt : (turnF (ci.getD 5 0)).length ≤ 16 := Nat.le_trans (List.length_filter_le ..) (by decide)
  clear hS hP
  generalize turnF (ci.getD 5 0) = T at *
  refine wpAny_execs_cons ?_
  refine lcL (intP fun k => inW R k) (intF id) F₁ (by with_unfolding_all rfl) (by with_unfolding_all rfl) (by decide) rfl (by decide) rfl rfl rfl ?_ ?_ ?_ ?_
    (P := fun v => ∃ k t, v = .int k t ∧ k ∈ T) (S := fun vs => IntsAre vs T)
  · exact nmC F₁ rfl rfl rfl ⟨.refl _ _, srcInts hA.handled F₁ (List.mem_cons_self ..) hts (by omega)⟩
  · rintro C v s₃ m₃ E' ⟨i, ti, rfl, _⟩ hn hm F₃
    refine wpAny_tests_one ?_
    refine wpAny_isTrue_Compare1 ?_
    refine nmN (hn : _) hm ?_
    refine nmC F₃ rfl rfl hr ?_
    refine in_list_ints (vs := rs.toList) (F₃.ls (Dr, rs) (by simp [hrl])) ir ?_
    exact wpAny_truthy_bool ⟨rfl, .refl _ _⟩
  · rintro C v s₃ m₃ E' ⟨i, ti, rfl, _⟩ _ hn hm F₃
    exact nmN (hn : _) hm ⟨intF_mk rfl, .refl _ _⟩
  intro s₂ Dg gs vs F₂ hS hP
  have hgs : IntsAre gs.toList (goneF R T) := pairId hS hP
  clear hS hP
  refine wpAny_execs_cons ?_
  refine lcL (intP fun k => !inW R k) (intF id) F₂ (by with_unfolding_all rfl) (by with_unfolding_all rfl) (by decide) rfl (by decide) rfl rfl rfl ?_ ?_ ?_ ?_
    (P := fun v => ∃ k t, v = .int k t ∧ k ∈ T) (S := fun vs => IntsAre vs T)
  · exact nmC F₂ rfl rfl rfl ⟨.refl _ _, srcInts hA.handled F₂ (by simp) hts (by omega)⟩
  · rintro C v s₃ m₃ E' ⟨i, ti, rfl, _⟩ hn hm F₃
    refine wpAny_tests_one ?_
    refine wpAny_isTrue_Compare1 ?_
    refine nmN (hn : _) hm ?_
    refine nmC F₃ rfl rfl hr ?_
    refine notin_list_ints (vs := rs.toList) (F₃.ls (Dr, rs) (by simp [hrl])) ir ?_
    exact wpAny_truthy_bool ⟨rfl, .refl _ _⟩
  · rintro C v s₃ m₃ E' ⟨i, ti, rfl, _⟩ _ hn hm F₃
    exact nmN (hn : _) hm ⟨intF_mk rfl, .refl _ _⟩
  intro s₃ De cs vs F₃ hS hP
  have hcs : IntsAre cs.toList (comeF R T) := pairId hS hP
  clear hS hP
  refine wpAny_execs_cons ?_
  refine lcC (intP fun k => inW R k != inW T k) (intF id) F₃ (by with_unfolding_all rfl) (by with_unfolding_all rfl) (by decide) rfl (by decide) rfl rfl rfl rfl rfl ?_ ?_ ?_ ?_
    (P := fun v => ∃ (i : Nat) (t : Tok), i < 16 ∧ v = .int (0 + i) t) (S := fun vs => IntsAre vs ((List.range 16).map fun (i : Nat) => (0 : Int) + (i : Int)))
  · exact rangeE (n := 16) F₃.W fun r s' t' v' ev hr => ⟨ev, Src.range hA.handled (F₃.evo ev).W hr (by decide) (by decide) (by decide)⟩
  · rintro C v s₄ m₄ E' ⟨i, ti, hi, rfl⟩ hn hm F₄
    refine wpAny_tests_one ?_
    refine wpAny_isTrue_Compare1 ?_
    refine wpAny_Compare1 ?_
    refine nmN (hn : _) hm ?_
    refine nmC F₄ rfl rfl hr ?_
    refine in_list_ints (vs := rs.toList) (F₄.ls (Dr, rs) (by simp [hrl])) ir ?_
    refine wpAny_Compare1 ?_
    refine nmN (hn : _) hm ?_
    refine nmC F₄ rfl rfl rfl ?_
    refine in_list_ints (vs := ts.toList) (F₄.ls (Dt, ts) (by simp)) hts ?_
    refine ne_bools ?_
    exact wpAny_truthy_bool ⟨rfl, .refl _ _⟩
  · rintro C v s₄ m₄ E' ⟨i, ti, hi, rfl⟩ _ hn hm F₄
    exact nmN (hn : _) hm ⟨intF_mk rfl, .refl _ _⟩
  intro s₄ Do os vs F₄ hS hP
  have hos : IntsAre os.toList (otherF R T) := pairId (all16_ints hS) hP
  clear hS hP
  refine k _ _ _ _ Dg gs De cs Do os F₄ ?_ ?_ rfl (by simp) hgs rfl (by simp) hcs rfl (by simp) hos
  · intro x hx
    simp only [List.mem_cons, List.not_mem_nil, or_false, not_or] at hx
    rw [if_neg hx.2, if_neg hx.1]
  · intro p hp
    simp [hp]
end
end Mine
end

section
open PySem PySem.W PyProof.Rows PySem.SeqAt
set_option Elab.async false
set_option maxRecDepth 100000
namespace Mine
section
variable {w : World} {A : Around} {E : Value → Shared → Prop} {s s' s₀ : Shared} {m cm : Str → Option Value} {Γ : List (Addr × Array Value)}

theorem eqFI {z : UInt64} {t u : Tok} {a b : Int} (h : Fl z (256 * a)) (e : a = b) : EqAt A s (.float z t) (.int b u) true := fun prog w E Q hq => by
  unfold eqBool
  refine wpAny_holding ?_
  refine wpAny_ite_split (fun hab => absurd (eq_of_beq hab) (fun x => nomatch x)) (fun _ => ?_)
  have hc : (Float64.cmpInt z b == some Ordering.eq) = true := by rw [h.cmpInt, e]; simp
  refine wpAny_bind ?_
  show wpAny _ A (compareOp .Eq (.float z t) (.int b u)) _ E s
  refine eq_fi ?_
  rw [hc]
  exact wpAny_truthy_bool hq

theorem neFlsInts {a b : Addr} {xs ys : Array Value} {ns : List Int} {Q : Value → Shared → Prop} (hu : A.units + 10 < cLine) (ha : s.heap.IsList a xs) (hb : s.heap.IsList b ys) (ia : FlsAre xs.toList ns) (ib : IntsAre ys.toList ns)
    (h : Q (.bool false) s) : wpAny (model prg w) A (compareOp .NotEq (.ref a) (.ref b)) Q E s := by
  have za : xs.size = ns.length := by have := ia.length; simpa using this
  have zb : ys.size = ns.length := by have := ib.length; simpa using this
  show wpAny _ A (richCompare .NotEq _ _) Q E s
  refine RcNeAt.lists (e := fun _ => true) ha hb (by rw [za, zb]) (by omega) (fun j h1 h2 => ?_) prg w E Q (by rw [show ((List.range xs.size).all fun _ => true) = true by simp]; exact h)
  obtain ⟨z, t1, e1, f1⟩ := ia.get (i := j) (by omega)
  obtain ⟨t2, e2⟩ := intsGet ib (i := j) (by omega)
  have g1 : xs[j] = .float z t1 := by
    have : xs.toList[j]? = some xs[j] := by simp [h1]
    rw [e1] at this; exact (Option.some.inj this).symm
  have g2 : ys[j] = .int (ns.getD j 0) t2 := by
    have : ys.toList[j]? = some ys[j] := by simp [h2]
    rw [e2] at this; exact (Option.some.inj this).symm
  rw [g1, g2]
  exact eqFI f1 rfl

theorem law6 {Dr Do : Addr} {rs os : Array Value} {R O : List Int} {Q : Flow → Shared → Prop} (hA : Air A) (F : LF s₀ m cm Γ s)
    (hr : cm "rule" = some (.ref Dr)) (hrl : (Dr, rs) ∈ Γ) (ir : IntsAre rs.toList R) (zr : R.length ≤ 16) (cR : cntF R = R.length)
    (ho : cm "other" = some (.ref Do)) (hol : (Do, os) ∈ Γ) (io : IntsAre os.toList O) (zo : O.length ≤ 16) (cO : cntF O = O.length)
    (k : ∀ s' m' Γ' Ds ss, LF s₀ m' cm Γ' s' → (∀ x : Str, x ≠ "shares" → m' x = m x) → (∀ p ∈ Γ, p ∈ Γ') → m' "shares" = some (.ref Ds) → (Ds, ss) ∈ Γ' → FlsAre ss.toList [(R.length : Int), (O.length : Int)] → wpAny (model prg w) A (execs (lawB 17) (lE s₀)) Q E s') :
    wpAny (model prg w) A (execs (lawB 15) (lE s₀)) Q E s := by
  have hu := hA.units
  have zrs : rs.toList.length = R.length := ir.length
  have zos : os.toList.length = O.length := io.length
  refine wpAny_execs_cons ?_
  refine wpAny_Assign_Name ?_
  refine wpAny_List ?_
  refine wpAny_items_cons ?_
  refine callF 11 F.W (fun _ _ n => n.share) (fun _ W => W.share) (by decide) ?_
  refine wpAny_items_cons ?_
  refine nmC F rfl rfl hr ?_
  refine wpAny_items_nil ⟨.refl _ _, ?_⟩
  refine share_call F.W (hA.lo.mono (by decide)) (us := rs.toList) (F.ls _ hrl) ir fun s₁ z1 t1 ev₁ fz1 => ?_
  have F₁ := F.evo ev₁
  refine wpAny_items_cons ?_
  refine callF 11 F₁.W (fun _ _ n => n.share) (fun _ W => W.share) (by decide) ?_
  refine wpAny_items_cons ?_
  refine nmC F₁ rfl rfl ho ?_
  refine wpAny_items_nil ⟨.refl _ _, ?_⟩
  refine share_call F₁.W (hA.lo.mono (by decide)) (us := os.toList) (F₁.ls _ hol) io fun s₂ z2 t2 ev₂ fz2 => ?_
  have F₂ := F₁.evo ev₂
  rw [cR] at fz1
  rw [cO] at fz2
  refine wpAny_items_nil ⟨(show (2 : Nat) ≤ sizeLine by decide), ?_⟩
  have F₃ := (F₂.evo (s' := { s₂ with heap := s₂.heap.push { cls := .type "list", data := .seq [Value.float z1 t1, Value.float z2 t2].toArray } }) (Evo.kp (tk := s₂.toks) fun _ _ e => Heap.get?_push_of_some _ e)).add (a := s₂.heap.objs.size) (items := #[.float z1 t1, .float z2 t2]) ⟨_, Heap.get?_push_size _ rfl, rfl, _, rfl⟩
  refine storeL F₃ fun s₄ hs₄ F₄ _ => ?_
  have hss : FlsAre [Value.float z1 t1, Value.float z2 t2] [(R.length : Int), (O.length : Int)] := .cons ⟨z1, t1, rfl, fz1⟩ (.cons ⟨z2, t2, rfl, fz2⟩ .nil)
  refine wpAny_execs_cons ?_
  refine wpAny_If (wpAny_mono (Q := fun b s₈ => b = false ∧ Evo s₄ s₈) ?_ (fun b s₈ h => ?_) fun _ _ e => e)
  · refine wpAny_isTrue_BoolOp ?_
    refine wpAny_allTrue_Or_cons ?_
    refine wpAny_isTrue_Compare1 ?_
    refine nmL F₄ rfl ?_
    refine wpAny_List ?_
    refine wpAny_items_cons ?_
    refine callB F₄.W (by decide) bi_len ?_
    refine wpAny_items_cons ?_
    refine nmC F₄ rfl rfl hr ?_
    refine wpAny_items_nil ?_
    refine lenL (vs := rs.toList) (F₄.ls (Dr, rs) (by simp [hrl])) (by omega) ?_
    have F₅ := F₄.tok (s₄.toks + 1 + 1)
    refine wpAny_items_cons ?_
    refine callB F₅.W (by decide) bi_len ?_
    refine wpAny_items_cons ?_
    refine nmC F₅ rfl rfl ho ?_
    refine wpAny_items_nil ?_
    refine lenL (vs := os.toList) (F₅.ls (Do, os) (by simp [hol])) (by omega) ?_
    refine wpAny_items_nil ⟨(show (2 : Nat) ≤ sizeLine by decide), ?_⟩
    have e6 : ∀ tk o, Evo s₄ { s₄ with heap := s₄.heap.push o, toks := tk } := fun tk o => Evo.kp (tk := tk) fun _ _ e => Heap.get?_push_of_some _ e
    have F₆ := F₄.evo (e6 (s₄.toks + 1 + 1 + 1 + 1) { cls := .type "list", data := .seq [Value.int rs.toList.length (s₄.toks + 1), Value.int os.toList.length (s₄.toks + 1 + 1 + 1)].toArray })
    refine neFlsInts (ns := [(R.length : Int), (O.length : Int)]) (by omega) (F₆.ls (s₂.heap.objs.size, #[.float z1 t1, .float z2 t2]) (by simp)) ⟨_, Heap.get?_push_size _ rfl, rfl, _, rfl⟩ hss (by
      show IntsAre [Value.int rs.toList.length _, Value.int os.toList.length _] _
      rw [zrs, zos]; exact .cons _ _ (.cons _ _ .nil)) ?_
    refine wpAny_truthy_bool ?_
    rw [if_neg (by decide)]
    refine wpAny_allTrue_Or_cons ?_
    refine wpAny_isTrue_Compare1 ?_
    refine lcV (fun _ => false) (intF id) F₆ (by with_unfolding_all rfl) (by decide) rfl (by decide) rfl ?_ ?_ ?_ ?_
      (P := (· ∈ [Value.float z1 t1, Value.float z2 t2])) (S := (· = [Value.float z1 t1, Value.float z2 t2]))
    · exact nmL F₆ rfl ⟨.refl _ _, srcList hA.handled F₆ (ys := #[.float z1 t1, .float z2 t2]) (by simp) (show (2 : Nat) ≤ 1000 by decide)⟩
    · rintro C v s₉ m₉ E' hv hn hm F₉
      obtain ⟨z, t, rfl⟩ := hss.mem v hv
      refine wpAny_tests_one ?_
      refine wpAny_isTrue_Not ?_
      refine wpAny_isTrue_value ?_
      refine callB F₉.W (by decide) bi_isinstance ?_
      refine wpAny_items_cons ?_
      refine nmN (hn : _) hm ?_
      refine wpAny_items_cons ?_
      refine nameB F₉.W (by decide) bi_float ?_
      refine wpAny_items_nil ?_
      refine isi_float ?_
      refine wpAny_truthy_bool ?_
      exact ⟨rfl, .refl _ _⟩
    · rintro C v s₉ m₉ E' _ hf
      cases hf
    intro s₇ D₇ y₇ vs F₇ ev₇ hS hP
    rw [List.filter_eq_nil_iff.mpr (fun _ _ => by simp)] at hP
    have h₇ : y₇ = #[] := by cases y₇ with | mk l => cases hP; rfl
    subst h₇
    refine wpAny_List ?_
    refine wpAny_items_nil ⟨by decide, ?_⟩
    refine neEmpty (by omega) (F₇.ls (D₇, #[]) (by simp)) ?_
    refine wpAny_truthy_bool ?_
    rw [if_neg (by decide)]
    refine wpAny_allTrue_Or_nil ⟨rfl, ?_⟩
    exact ((e6 _ _).trans ev₇).trans (Evo.kp (s := s₇) (tk := s₇.toks) fun _ _ e => Heap.get?_push_of_some _ e)
  obtain ⟨rfl, ev₈⟩ := h
  rw [if_neg (by decide)]
  refine wpAny_execs_nil ?_
  refine k _ _ _ s₂.heap.objs.size _ (F₄.evo ev₈) ?_ ?_ rfl (List.mem_cons_self ..) hss
  · intro x hx
    rw [if_neg hx]
  · intro p hp
    simp [hp]
end
end Mine
end

section
open PySem PySem.W PyProof.Rows PySem.SeqAt
set_option Elab.async false
set_option maxRecDepth 100000
namespace Mine

theorem turn_in (elt t1 i1 t2 i2 : Expr) (ifs : List Expr) (scope : Scope) (pos : Pos) (it acc : Value) (env : Env) :
    compTurn (.ListComp elt [⟨t1, i1, [], 0⟩, ⟨t2, i2, ifs, 0⟩] scope pos) 1 it acc env = (do
      standAt i2.pos
      match ← pyNext it with
      | none => pure (.done .next)
      | some v =>
        letOwnedTupleGo t2 it v
        assign t2 env v
        let mut ok := true
        for c in ifs do
          if ok then ok ← isTrue c env (eval c env)
        if ok then
          (do let _ ← call (.builtin "list.append") [acc, ← eval elt env])
        again (.compLoop (.ListComp elt [⟨t1, i1, [], 0⟩, ⟨t2, i2, ifs, 0⟩] scope pos) 1 it acc env)) := by rfl

theorem turn_out (elt t1 i1 t2 i2 : Expr) (ifs : List Expr) (scope : Scope) (pos : Pos) (it acc : Value) (env : Env) :
    compTurn (.ListComp elt [⟨t1, i1, [], 0⟩, ⟨t2, i2, ifs, 0⟩] scope pos) 0 it acc env = (do
      standAt i1.pos
      match ← pyNext it with
      | none => pure (.done .next)
      | some v =>
        letOwnedTupleGo t1 it v
        assign t1 env v
        let mut ok := true
        for c in ([] : List Expr) do
          if ok then ok ← isTrue c env (eval c env)
        if ok then
          let x ← eval i2 env
          standAt i2.pos
          let x ← foldedSetIterable i2 env x
          let _ ← runOwn (.compStart (.ListComp elt [⟨t1, i1, [], 0⟩, ⟨t2, i2, ifs, 0⟩] scope pos) 1 (← holding [x] (pyIter x)) acc env) env
        again (.compLoop (.ListComp elt [⟨t1, i1, [], 0⟩, ⟨t2, i2, ifs, 0⟩] scope pos) 0 it acc env)) := by rfl

section
variable {w : World} {A : Around} {E : Value → Shared → Prop} {R : Result → Shared → Prop} {s : Shared}

theorem loop_in {elt t1 i1 t2 i2 : Expr} {ifs : List Expr} {scope : Scope} {pos : Pos} {it acc : Value} {env : Env} (I : Nat → Shared → Prop)
    (turn : ∀ n s, I n s → wpAny (model prg w) A (pyNext it) (fun r s₁ => match r with
      | none => R (.ok .next) s₁
      | some v => wpAny (model prg w) A (assign t2 env v) (fun _ s₂ =>
          wpAny (model prg w) A (forIn ifs true fun c r => if r = true then do let ok ← isTrue c env (eval c env); pure (ForInStep.yield ok) else pure (ForInStep.yield r)) (fun ok s₃ =>
            if ok = true then wpAny (model prg w) A (eval elt env) (fun x s₄ =>
              wpAny (model prg w) A (call (.builtin "list.append") [acc, x]) (fun _ s₅ => ∃ m, m < n ∧ I m s₅) (notedBy (model prg w) A env fun e s' => R (.error e) s') s₄) (notedBy (model prg w) A env fun e s' => R (.error e) s') s₃
            else ∃ m, m < n ∧ I m s₃) (notedBy (model prg w) A env fun e s' => R (.error e) s') s₂) (notedBy (model prg w) A env fun e s' => R (.error e) s') s₁) (notedBy (model prg w) A env fun e s' => R (.error e) s') s)
    (n : Nat) (h : I n s) (ht : ∀ v, letOwnedTupleGo t2 it v = pure () := by intro _; rfl) :
    codeAny (model prg w) A (.compLoop (.ListComp elt [⟨t1, i1, [], 0⟩, ⟨t2, i2, ifs, 0⟩] scope pos) 1 it acc env) R s := by
  refine codeAny_loop rfl I (fun n s hI => ?_) n h
  show wpAny _ A ((compTurn (.ListComp elt [⟨t1, i1, [], 0⟩, ⟨t2, i2, ifs, 0⟩] scope pos) 1 it acc env).onRaise (fun x => do noteFrame x env; theTreesLotGoes x)) _ _ s
  refine wpAny_noted ?_
  rw [turn_in]
  refine wpAny_bind (wpAny_standAt (wpAny_bind (wpAny_mono (turn n s hI) (fun r s₁ h₁ => ?_) fun _ _ h' => h')))
  cases r with
  | none => exact wpAny_pure h₁
  | some v =>
    refine wpAny_bind (wpAny_of_eq (ht v) ?_)
    refine wpAny_bind (wpAny_mono h₁ (fun _ s₂ h₂ => wpAny_bind (wpAny_mono h₂ (fun ok s₃ h₃ => ?_) fun _ _ h' => h')) fun _ _ h' => h')
    cases ok with
    | false => exact wpAny_pure ⟨rfl, h₃⟩
    | true =>
      exact wpAny_bind (wpAny_bind (wpAny_mono h₃ (fun x s₄ h₄ => wpAny_bind (wpAny_mono h₄ (fun _ s₅ h₅ => wpAny_pure (wpAny_pure ⟨rfl, h₅⟩)) fun _ _ h' => h')) fun _ _ h' => h'))

theorem start_in {elt t1 i1 t2 i2 : Expr} {ifs : List Expr} {scope : Scope} {pos : Pos} {it acc : Value} {env : Env}
    (h0 : codeAny (model prg w) A (.compLoop (.ListComp elt [⟨t1, i1, [], 0⟩, ⟨t2, i2, ifs, 0⟩] scope pos) 1 it acc env) R s)
    (h : wpAny (model prg w) A (pyIter it) (fun it' s' => codeAny (model prg w) A (.compLoop (.ListComp elt [⟨t1, i1, [], 0⟩, ⟨t2, i2, ifs, 0⟩] scope pos) 1 it' acc env) R s')
      (notedBy (model prg w) A env fun x s' => R (.error x) s') s) :
    codeAny (model prg w) A (.compStart (.ListComp elt [⟨t1, i1, [], 0⟩, ⟨t2, i2, ifs, 0⟩] scope pos) 1 it acc env) R s := by
  refine codeAny_of_tree ?_
  show wpAny _ _ ((compStart (.ListComp elt [⟨t1, i1, [], 0⟩, ⟨t2, i2, ifs, 0⟩] scope pos) 1 it acc env).onRaise (fun x => do noteFrame x env; standAt theWindowsPlace)) _ _ s
  refine wpAny_notedAt ?_
  unfold compStart
  show wpAny _ _ (ask >>= _) _ _ s
  refine wpAny_bind (wpAny_askSetting (wpAny_ite ?_))
  split
  · first
      | exact wpAny_bind (wpAny_pure (wpAny_pure (And.intro rfl h0)))
      | exact wpAny_pure (And.intro rfl h0)
  · first
      | exact wpAny_bind (wpAny_rule (wpAny_bind (wpAny_standAt (wpAny_bind (wpAny_mono h (fun it' s' h' => wpAny_pure (And.intro rfl h')) fun _ _ x => x)))))
      | (refine wpAny_bind (wpAny_rule ?_); show wpAny _ _ (standAt i2.pos >>= _) _ _ s; exact wpAny_bind (wpAny_standAt (wpAny_bind (wpAny_mono h (fun it' s' h' => wpAny_pure (And.intro rfl h')) fun _ _ x => x))))

theorem loop_out {elt t1 i1 t2 i2 : Expr} {ifs : List Expr} {scope : Scope} {pos : Pos} {it acc : Value} {env : Env} (I : Nat → Shared → Prop)
    (turn : ∀ n s E', I n s → wpAny (model prg w) A (pyNext it) (fun r s₁ => match r with
      | none => R (.ok .next) s₁
      | some v => wpAny (model prg w) A (assign t1 env v) (fun _ s₂ =>
          wpAny (model prg w) A (eval i2 env) (fun x s₃ => wpAny (model prg w) A (pyIter x) (fun it2 s₄ =>
            codeAny (model prg w) A (.compStart (.ListComp elt [⟨t1, i1, [], 0⟩, ⟨t2, i2, ifs, 0⟩] scope pos) 1 it2 acc env) (fun r s₅ => match r with | .ok _ => ∃ m, m < n ∧ I m s₅ | .error _ => False) s₄) E' s₃) E' s₂) E' s₁) E' s)
    (n : Nat) (h : I n s) (hs : ∀ x, foldedSetIterable i2 env x = pure x) (ht : ∀ v, letOwnedTupleGo t1 it v = pure () := by intro _; rfl) :
    codeAny (model prg w) A (.compLoop (.ListComp elt [⟨t1, i1, [], 0⟩, ⟨t2, i2, ifs, 0⟩] scope pos) 0 it acc env) R s := by
  refine codeAny_loop rfl I (fun n s hI => ?_) n h
  show wpAny _ A ((compTurn (.ListComp elt [⟨t1, i1, [], 0⟩, ⟨t2, i2, ifs, 0⟩] scope pos) 0 it acc env).onRaise (fun x => do noteFrame x env; theTreesLotGoes x)) _ _ s
  refine wpAny_noted ?_
  rw [turn_out]
  refine wpAny_bind (wpAny_standAt (wpAny_bind (wpAny_mono (turn n s _ hI) (fun r s₁ h₁ => ?_) fun _ _ h' => h')))
  cases r with
  | none => exact wpAny_pure h₁
  | some v =>
    refine wpAny_bind (wpAny_of_eq (ht v) ?_)
    refine wpAny_bind (wpAny_mono h₁ (fun _ s₂ h₂ => ?_) fun _ _ h' => h')
    refine wpAny_bind (wpAny_pure ?_)
    rw [if_pos rfl]
    refine wpAny_bind (wpAny_mono h₂ (fun x s₃ h₃ => ?_) fun _ _ h' => h')
    refine wpAny_bind (wpAny_standAt (wpAny_bind (wpAny_of_eq (hs x) (wpAny_bind (wpAny_holding (wpAny_mono h₃ (fun it2 s₄ h₄ => ?_) fun _ _ h' => h'))))))
    refine wpAny_bind (wpAny_runOwn (codeAny_mono h₄ fun r s₅ h₅ => ?_))
    cases r with
    | ok f => exact wpAny_pure ⟨rfl, h₅⟩
    | error e => exact h₅.elim
end
end Mine
end

section
open PySem PySem.W PyProof.Rows PySem.SeqAt
set_option Elab.async false
set_option maxRecDepth 100000
namespace Mine

def intsR (a : Int) (n : Nat) : List Int := (List.range n).map fun (i : Nat) => a + (i : Int)
theorem intsR_succ (a : Int) (n : Nat) : intsR a (n + 1) = intsR a n ++ [a + n] := by
  unfold intsR; rw [List.range_succ, List.map_append]; rfl

section
variable {w : World} {A : Around} {E : Value → Shared → Prop} {R : Result → Shared → Prop} {s : Shared}

theorem in_loop {elt t1 i1 i2 : Expr} {ifs : List Expr} {scope : Scope} {pos py : Pos} {x y : Str} {cenv : Env} {D I2 : Addr} {n : Nat} {a : Int} {ys0 : Array Value} {m : Str → Option Value} {v : Value}
    (hh : A.handled = none) (hy : cenv.kindOf y = some .local) (hp : (cenv.scope.kind == .class || (cenv.scope.kind == .module && cenv.locals != cenv.globals)) = false)
    (hDC : D ≠ cenv.locals) (hDI : D ≠ I2) (hCI : cenv.locals ≠ I2) (bC : @LT.lt Nat _ 111 cenv.locals) (bD : @LT.lt Nat _ 111 D) (bI : @LT.lt Nat _ 111 I2)
    (p : Int → Bool) (F : Int → Value → Prop) (hxy : x ≠ y) (Inv : Shared → Prop) (hInv : ∀ s s', Inv s → EvoB [cenv.locals, D, I2] s s' → Inv s')
    (hte : ∀ k t s₂ m₂ E', Inv s₂ → s₂.heap.Ns cenv.locals m₂ → m₂ x = some v → m₂ y = some (.int k t) →
      wpAny (model prg w) A (forIn ifs true fun c r => if r = true then do let ok ← isTrue c cenv (eval c cenv); pure (ForInStep.yield ok) else pure (ForInStep.yield r)) (fun ok s₃ => ok = p k ∧ Evo s₂ s₃) E' s₂)
    (hel : ∀ k t s₂ m₂ E', Inv s₂ → p k = true → s₂.heap.Ns cenv.locals m₂ → m₂ x = some v → m₂ y = some (.int k t) → wpAny (model prg w) A (eval elt cenv) (fun z s₃ => F k z ∧ Evo s₂ s₃) E' s₂)
    (hst : IsRangeIter s.heap I2 (a + (0 : Nat) * 1) ((n : Int) - (0 : Nat)) 1) (hacc : s.heap.PlainList D ys0) (hn : s.heap.Ns cenv.locals m) (hm : m x = some v) (hi : Inv s) (hz : ys0.size + n ≤ sizeLine)
    (hR : ∀ s' m' zs, Inv s' → s'.heap.Ns cenv.locals m' → s'.heap.PlainList D (ys0 ++ zs) → Paired F ((intsR a n).filter p) zs.toList → R (.ok .next) s') :
    codeAny (model prg w) A (.compLoop (.ListComp elt [⟨t1, i1, [], 0⟩, ⟨.Name y py, i2, ifs, 0⟩] scope pos) 1 (.ref I2) (.ref D) cenv) R s := by
  have W := Walks.range (prog := prg) (w := w) hh I2 a 1 n
  have C65 : cenv.locals ≠ 65 := fun h => absurd bC (by rw [h]; decide)
  have D65 : D ≠ 65 := fun h => absurd bD (by rw [h]; decide)
  have I65 : I2 ≠ 65 := fun h => absurd bI (by rw [h]; decide)
  have plOk : ∀ {a b : Shared} {ys}, Evo a b → a.heap.PlainList D ys → b.heap.PlainList D ys := fun e h => h.at fun o e' => e.keep D o (fun h => nomatch h) D65 e'
  have nsOk : ∀ {a b : Shared} {m}, Evo a b → a.heap.Ns cenv.locals m → b.heap.Ns cenv.locals m := fun e h => h.at' fun o e' => e.keep _ o (fun h => nomatch h) C65 e'
  refine loop_in (fun kk s' => ∃ j m' zs, j ≤ n ∧ kk = n + 1 - j ∧ IsRangeIter s'.heap I2 (a + (j : Nat) * 1) ((n : Int) - (j : Nat)) 1 ∧ s'.heap.PlainList D (ys0 ++ zs) ∧ s'.heap.Ns cenv.locals m' ∧ m' x = some v ∧ Inv s' ∧
    Paired F ((intsR a j).filter p) zs.toList ∧ zs.size ≤ j) ?_ (n + 1) ⟨0, m, #[], Nat.zero_le _, rfl, hst, by simpa using hacc, hn, hm, hi, .nil, Nat.le_refl _⟩
  rintro kk s' ⟨j, m', zs, hj, rfl, st, pl, ns, hm', iv, pr, zz⟩
  by_cases hlt : j < n
  · refine W.item j s' _ _ hlt st fun u h₁ tk₁ hP st₁ hk₁ => ?_
    obtain ⟨t, rfl⟩ := hP
    rw [Int.mul_one]
    have pl₁ : h₁.PlainList D (ys0 ++ zs) := pl.at fun o e => hk₁ D o (by rw [List.mem_singleton]; exact hDI) e
    have ns₁ : h₁.Ns cenv.locals m' := ns.at' fun o e => hk₁ _ o (by rw [List.mem_singleton]; exact hCI) e
    have ev₁ : EvoB [cenv.locals, D, I2] s' { s' with heap := h₁, toks := tk₁ } :=
      (EvoB.heap hk₁ (fun hm => by rw [← List.mem_singleton.mp hm] at bI; exact absurd bI (by decide)) (fun hm => I65 (List.mem_singleton.mp hm).symm)).mono fun b hb => by rw [List.mem_singleton] at hb; subst hb; simp
    refine wpAny_assign_Name (wpAny_storeName_local hy ns₁ (fun h₂ ns₂ hs₂ => ?_) hp)
    have ev₂ : EvoB [cenv.locals, D, I2] s' { s' with heap := h₂, toks := tk₁ + 1 } := ev₁.trans ((EvoB.sameBut (s := { s' with heap := h₁, toks := tk₁ }) hs₂ bC).mono fun b hb => by rw [List.mem_singleton] at hb; subst hb; simp)
    have iv₂ := hInv _ _ iv ev₂
    have pl₂ : h₂.PlainList D (ys0 ++ zs) := pl₁.extBut hs₂.extBut hDC
    have st₂ := W.frame _ _ h₂ st₁ fun b hb o e => hs₂.extBut b o (by rw [List.mem_singleton] at hb; subst hb; exact Ne.symm hCI) e
    refine wpAny_mono (hte (a + j) t _ _ _ iv₂ ns₂ (by rw [if_neg hxy]; exact hm') (by rw [if_pos rfl])) (fun ok s₃ h₃ => ?_) fun _ _ e => e
    obtain ⟨rfl, ev₃⟩ := h₃
    have iv₃ := hInv _ _ iv₂ (EvoB.ofEvo ev₃)
    have pl₃ := plOk ev₃ pl₂
    have ns₃ := nsOk ev₃ ns₂
    have st₃ := W.frame _ _ s₃.heap st₂ fun b hb o e => ev₃.keep b o (fun h => nomatch h) (by rw [List.mem_singleton] at hb; subst hb; exact I65) e
    have e1 : (intsR a (j + 1)).filter p = (intsR a j).filter p ++ (if p (a + j) then [a + (j : Int)] else []) := by
      rw [intsR_succ, List.filter_append]
      cases hpj : p (a + j) <;> simp [hpj]
    cases hpv : p (a + j) with
    | false =>
      simp only [Bool.false_eq_true, if_false]
      refine ⟨n + 1 - (j + 1), by omega, j + 1, _, zs, hlt, rfl, st₃, pl₃, ns₃, (by rw [if_neg hxy]; exact hm'), iv₃, ?_, by omega⟩
      rw [e1, hpv]; simpa using pr
    | true =>
      simp only [if_true]
      refine wpAny_mono (hel (a + j) t _ _ _ iv₃ hpv ns₃ (by rw [if_neg hxy]; exact hm') (by rw [if_pos rfl])) (fun z s₄ h₄ => ?_) fun _ _ e => e
      obtain ⟨hF, ev₄⟩ := h₄
      refine wpAny_list_append_plain (hsz := by rw [Array.size_append]; omega) (plOk ev₄ pl₃) fun h₅ hl₅ hs₅ => ?_
      refine ⟨n + 1 - (j + 1), by omega, j + 1, _, zs.push z, hlt, rfl, ?_, ?_, (nsOk ev₄ ns₃).sameBut hs₅ (Ne.symm hDC), (by rw [if_neg hxy]; exact hm'), ?_, ?_, ?_⟩
      · exact W.frame _ _ h₅ st₃ fun b hb o e => hs₅.extBut b o (by rw [List.mem_singleton] at hb; subst hb; exact Ne.symm hDI) (ev₄.keep b o (fun h => nomatch h) (by rw [List.mem_singleton] at hb; subst hb; exact I65) e)
      · rw [Array.push_append] at hl₅
        exact hl₅
      · exact hInv _ _ iv₃ ((EvoB.ofEvo ev₄).trans ((EvoB.sameBut (s := s₄) (tk := s₄.toks) hs₅ bD).mono fun b hb => by rw [List.mem_singleton] at hb; subst hb; simp))
      · rw [e1, hpv, Array.toList_push]
        exact Paired.snoc (by simpa using pr) hF
      · rw [Array.size_push]; omega
  · have : j = n := by omega
    subst this
    refine W.done s' _ _ st fun h₁ tk₁ hk₁ => ?_
    have ev₁ : EvoB [cenv.locals, D, I2] s' { s' with heap := h₁, toks := tk₁ } :=
      (EvoB.heap hk₁ (fun hm => by rw [← List.mem_singleton.mp hm] at bI; exact absurd bI (by decide)) (fun hm => I65 (List.mem_singleton.mp hm).symm)).mono fun b hb => by rw [List.mem_singleton] at hb; subst hb; simp
    exact hR _ m' zs (hInv _ _ iv ev₁) (ns.at' fun o e => hk₁ _ o (by rw [List.mem_singleton]; exact hCI) e) (pl.at fun o e => hk₁ D o (by rw [List.mem_singleton]; exact hDI) e) pr
end
end Mine
end

section
open PySem PySem.W PyProof.Rows PySem.SeqAt
set_option Elab.async false
set_option maxRecDepth 100000
namespace Mine
section
variable {w : World} {A : Around} {E : Value → Shared → Prop} {R : Result → Shared → Prop} {s s₀ : Shared} {L : Addr} {cs : List (Str × Addr)} {m cm : Str → Option Value} {Γ : List (Addr × Array Value)} {env : Env}

/-- [.. for x in list for y in range(a, b) if ..] -/
theorem lc2V {elt i1 i2 : Expr} {ifs : List Expr} {scope : Scope} {cl : List (Str × Addr)} {pos px py : Pos} {x y : Str} {ax : Addr} {items : Array Value} {a b : Int} {n : Nat} {Q : Value → Shared → Prop}
    (fm : Fm s₀ L cs m cm Γ s) (hh : A.handled = none) (hax : (ax, items) ∈ Γ) (hzi : items.size ≤ 100) (hnn : n ≤ 100) (hsm : Builtin.Range.small a b 1 = true) (hrs : Builtin.Range.rangeSize a b 1 = (n : Int))
    (p : Value → Int → Bool) (F : Value → Int → Value → Prop)
    (hclos : closureFor scope env = pure cl) (hcell : ∀ y ∈ scope.names, y.2 ≠ .cell) (hkind : scope.kind = .function)
    (hnames : ∀ y ∈ scope.names, y.2 = .local → scope.names.lookup y.1 = some .local) (hx : scope.names.lookup x = some .local) (hy : scope.names.lookup y = some .local) (hxy : x ≠ y)
    (hiter : ∀ Q : Value → Shared → Prop, Q (.ref ax) s → wpAny (model prg w) A (eval i1 env) Q E s)
    (hin : ∀ C v s₃ m₃ E', v ∈ items.toList → s₃.heap.Ns C m₃ → m₃ x = some v → Fm s₀ L cs m cm Γ s₃ → wpAny (model prg w) A (eval i2 (compEnvC scope cl C env)) (fun xv s₄ => Evo s₃ s₄ ∧ ∃ r t u v', xv = .ref r ∧ IsRange s₄.heap r a b 1 t u v') E' s₃)
    (hte : ∀ C v k t s₃ m₃ E', v ∈ items.toList → s₃.heap.Ns C m₃ → m₃ x = some v → m₃ y = some (.int k t) → Fm s₀ L cs m cm Γ s₃ →
      wpAny (model prg w) A (forIn ifs true fun c r => if r = true then do let ok ← isTrue c (compEnvC scope cl C env) (eval c (compEnvC scope cl C env)); pure (ForInStep.yield ok) else pure (ForInStep.yield r))
        (fun ok s₄ => ok = p v k ∧ Evo s₃ s₄) E' s₃)
    (hel : ∀ C v k t s₃ m₃ E', v ∈ items.toList → p v k = true → s₃.heap.Ns C m₃ → m₃ x = some v → m₃ y = some (.int k t) → Fm s₀ L cs m cm Γ s₃ →
        wpAny (model prg w) A (eval elt (compEnvC scope cl C env)) (fun z s₄ => F v k z ∧ Evo s₃ s₄) E' s₃)
    (fin : ∀ s' D ys zss, Fm s₀ L cs m cm ((D, ys) :: Γ) s' → Evo s s' → Paired (fun v zs => Paired (F v) ((intsR a n).filter (p v)) zs) items.toList zss → ys.toList = zss.flatten → Q (.ref D) s')
    (hs : ∀ x, foldedSetIterable i1 env x = pure x := by intro _; rfl) (hs2 : ∀ C x, foldedSetIterable i2 (compEnvC scope cl C env) x = pure x := by intro _ _; rfl) :
    wpAny (model prg w) A (eval (.ListComp elt [⟨.Name x px, i1, [], 0⟩, ⟨.Name y py, i2, ifs, 0⟩] scope pos) env) Q E s := by
  have hl := fm.ls _ hax
  have hb := fm.W.size
  have haz : ax < s.heap.objs.size := by obtain ⟨_, e, _⟩ := hl; exact Heap.lt_size e
  have ax65 := isList_ne fm.W.tab hl
  rw [eval_ListComp]
  refine wpAny_comprehension_free (use := none) rfl hs hclos hkind hnames (hiter _ ?_)
  refine wpAny_pyIter_list hl ?_
  generalize hh2 : s.heap.push _ = h2
  have z2 : h2.objs.size = s.heap.objs.size + 1 := by rw [← hh2, Heap.size_push]
  have k2 : ∀ b o, s.heap.get? b = some o → h2.get? b = some o := fun b o e => by rw [← hh2]; exact Heap.get?_push_of_some _ e
  have hit2 : h2.IsListIter s.heap.objs.size ax 0 := ⟨{ cls := .type "list_iterator", data := .fields #[.ref ax, .int 0 0] }, by rw [← hh2]; exact Heap.get?_push_size _ rfl, rfl, rfl⟩
  refine wpAny_newObj_type (wpAny_newFunctionEnv hcell (by intro y hy; simp at hy) (fun h₁ hns₁ hsb₁ => ?_) hkind)
  dsimp only at hns₁ hsb₁ ⊢
  generalize hH3 : h2.push { cls := .type "list", dict := none, data := .seq ([] : List Value).toArray } = H3 at hns₁ hsb₁ ⊢
  have z3 : H3.objs.size = s.heap.objs.size + 2 := by rw [← hH3, Heap.size_push, z2]
  have old : ∀ b o, h2.get? b = some o → h₁.get? b = some o := fun b o e => hsb₁.extBut b o (Nat.ne_of_lt (Nat.lt_trans (Heap.lt_size e) (by rw [z3, z2]; exact Nat.lt_succ_self _))) (Heap.get?_push_of_some _ (hH3 ▸ Heap.get?_push_of_some _ e))
  have hDC : h2.objs.size ≠ H3.objs.size := by rw [z3, z2]; exact Nat.ne_of_lt (Nat.lt_succ_self _)
  have hacc : h₁.PlainList h2.objs.size #[] := ⟨_, hsb₁.extBut _ _ hDC (Heap.get?_push_of_some _ (hH3 ▸ Heap.get?_push_size _ rfl))⟩
  generalize hI : s.heap.objs.size = I1 at *
  generalize hD : h2.objs.size = D at *
  generalize hC : H3.objs.size = C at *
  have zD : D = I1 + 1 := z2
  have zC : C = I1 + 2 := z3
  have ord : I1 < D ∧ D < C ∧ I1 < C := by rw [zD, zC]; exact ⟨Nat.lt_succ_self _, Nat.lt_succ_self _, Nat.lt_succ_of_lt (Nat.lt_succ_self _)⟩
  have bI : @LT.lt Nat _ 111 I1 := hb
  have bD : @LT.lt Nat _ 111 D := Nat.lt_trans bI ord.1
  have bC : @LT.lt Nat _ 111 C := Nat.lt_trans bD ord.2.1
  have n65 : ∀ {b : Nat}, 111 < b → b ≠ 65 := fun h => by omega
  have base : Evo s { s with heap := h₁, toks := s.toks + ([] : List (Str × Value)).length } := Evo.kp fun b o e => old b o (k2 b o e)
  have loop : codeAny (model prg w) A (.compLoop (.ListComp elt [⟨.Name x px, i1, [], 0⟩, ⟨.Name y py, i2, ifs, 0⟩] scope pos) 0 (.ref I1) (.ref D) (compEnvC scope cl C env))
      (compPost (model prg w) A E none Q (.ref D) C) { s with heap := h₁, toks := s.toks + ([] : List (Str × Value)).length } := by
    have W := Walks.list (prog := prg) (w := w) hh I1 ax (Nat.ne_of_lt haz) items
    refine loop_out (fun kk s' => ∃ i m' ys zss, i ≤ items.size ∧ kk = items.size + 1 - i ∧ s'.heap.IsListIter I1 ax i ∧ s'.heap.PlainList D ys ∧ s'.heap.Ns C m' ∧ Evo s s' ∧
      Paired (fun v zs => Paired (F v) ((intsR a n).filter (p v)) zs) (items.toList.take i) zss ∧ ys.toList = zss.flatten ∧ ys.size ≤ i * n) ?_ (items.size + 1) ⟨0, _, #[], [], Nat.zero_le _, rfl, hit2.at fun o e => old _ o e, hacc, hns₁, base, .nil, rfl, Nat.zero_le _⟩ (hs2 C)
    rintro kk s' E' ⟨i, m', ys, zss, hi, rfl, st, pl, ns, ev, pr, fl, zz⟩
    have hlist : s'.heap.IsList ax items := isList_evo fm.W.tab hl ev
    by_cases hlt : i < items.size
    · refine W.item i s' _ _ hlt ⟨st, hlist⟩ fun u h₃ tk₃ hP st₃ hk₃ => ?_
      have humem : u ∈ items.toList := by
        have : items.toList[i]? = some u := by simpa using hP
        exact List.mem_of_getElem? this
      have e3 : EvoB [I1] s' { s' with heap := h₃, toks := tk₃ } := EvoB.heap hk₃ (fun hm => by rw [← List.mem_singleton.mp hm] at bI; exact absurd bI (by decide)) (fun hm => by rw [← List.mem_singleton.mp hm] at bI; exact absurd bI (by decide))
      have ev₃ : Evo s { s' with heap := h₃, toks := tk₃ } := EvoB.drop ev e3 (fun b hb => by rw [List.mem_singleton] at hb; rw [hb, hI]; exact Nat.le_refl _)
      have pl₃ : h₃.PlainList D ys := pl.at fun o e => hk₃ D o (by rw [List.mem_singleton]; exact Nat.ne_of_gt ord.1) e
      have ns₃ : h₃.Ns C m' := ns.at' fun o e => hk₃ C o (by rw [List.mem_singleton]; exact Nat.ne_of_gt ord.2.2) e
      refine wpAny_assign_Name (wpAny_storeName_local (env := compEnvC scope cl C env) (lookup_relabel_local hx) ns₃ (fun h₄ ns₄ hs₄ => ?_) (by simp [compEnvC, relabel, hkind]))
      have ev₄ : Evo s { s' with heap := h₄, toks := tk₃ + 1 } := EvoB.drop ev₃ (EvoB.sameBut (s := { s' with heap := h₃, toks := tk₃ }) hs₄ bC) (fun b hb => by rw [List.mem_singleton] at hb; rw [hb, hI]; exact Nat.le_of_lt ord.2.2)
      have pl₄ : h₄.PlainList D ys := pl₃.extBut hs₄.extBut (Nat.ne_of_lt ord.2.1)
      have st₄ : h₄.IsListIter I1 ax (i + 1) := st₃.1.at fun o e => hs₄.extBut _ o (Nat.ne_of_lt ord.2.2) e
      refine wpAny_mono (hin C u _ _ _ humem ns₄ (by rw [if_pos rfl]) (fm.evo ev₄)) (fun xv s₅ h₅ => ?_) fun _ _ e => e
      obtain ⟨ev₅, r, t, uu, v', rfl, hr⟩ := h₅
      have es₅ := ev₄.trans ev₅
      have pl₅ : s₅.heap.PlainList D ys := pl₄.at fun o e => ev₅.keep D o (fun h => nomatch h) (n65 bD) e
      have ns₅ := ns₄.at' fun o e => ev₅.keep C o (fun h => nomatch h) (n65 bC) e
      have st₅ : s₅.heap.IsListIter I1 ax (i + 1) := st₄.at fun o e => ev₅.keep I1 o (fun h => nomatch h) (n65 bI) e
      refine wpAny_pyIter_range hr hsm ?_
      generalize hh6 : s₅.heap.push _ = h6
      have k6 : ∀ b o, s₅.heap.get? b = some o → h6.get? b = some o := fun b o e => by rw [← hh6]; exact Heap.get?_push_of_some _ e
      have hD6 : D < s₅.heap.objs.size := by obtain ⟨_, e⟩ := pl₅; exact Heap.lt_size e
      have hC6 : C < s₅.heap.objs.size := ns₅.lt
      have hI6 : I1 < s₅.heap.objs.size := Nat.lt_trans ord.1 hD6
      have bI2 : @LT.lt Nat _ 111 s₅.heap.objs.size := Nat.lt_trans bI hI6
      have it6 : IsRangeIter h6 s₅.heap.objs.size (a + (0 : Nat) * 1) ((n : Int) - (0 : Nat)) 1 := by
        rw [← hh6, hrs]; simpa using Heap.get?_push_size _ rfl
      have es₆ : Evo s { s₅ with heap := h6 } := es₅.trans (Evo.kp (tk := s₅.toks) k6)
      have inner : codeAny (model prg w) A (.compLoop (.ListComp elt [⟨.Name x px, i1, [], 0⟩, ⟨.Name y py, i2, ifs, 0⟩] scope pos) 1 (.ref s₅.heap.objs.size) (.ref D) (compEnvC scope cl C env))
          (fun r s₅ => match r with | .ok _ => ∃ m, m < items.size + 1 - i ∧ (∃ i m' ys zss, i ≤ items.size ∧ m = items.size + 1 - i ∧ s₅.heap.IsListIter I1 ax i ∧ s₅.heap.PlainList D ys ∧ s₅.heap.Ns C m' ∧ Evo s s₅ ∧
            Paired (fun v zs => Paired (F v) ((intsR a n).filter (p v)) zs) (items.toList.take i) zss ∧ ys.toList = zss.flatten ∧ ys.size ≤ i * n) | .error _ => False) { s₅ with heap := h6 } := by
        refine in_loop (cenv := compEnvC scope cl C env) (v := u) (x := x) (n := n) (ys0 := ys) hh (lookup_relabel_local hy) (by simp [compEnvC, relabel, hkind]) (Nat.ne_of_lt ord.2.1) (Nat.ne_of_lt hD6) (Nat.ne_of_lt hC6) bC bD bI2 (p u) (F u) hxy
          (fun z => z.heap.IsListIter I1 ax (i + 1) ∧ Evo s z) ?_ ?_ ?_ it6 (pl₅.at fun o e => k6 _ o e) (ns₅.at' fun o e => k6 _ o e) (by rw [if_pos rfl]) ⟨st₅.at fun o e => k6 _ o e, es₆⟩ ?_ ?_
        · rintro z z' ⟨q1, q2⟩ q3
          refine ⟨q1.at fun o e => q3.keep I1 o (fun hm => ?_) (n65 bI) e, EvoB.drop q2 q3 fun b hb => ?_⟩
          · simp only [List.mem_cons, List.not_mem_nil, or_false] at hm
            rcases hm with h | h | h
            · exact absurd ord.2.2 (by rw [h]; exact Nat.lt_irrefl _)
            · exact absurd ord.1 (by rw [h]; exact Nat.lt_irrefl _)
            · exact absurd hI6 (by rw [← h]; exact Nat.lt_irrefl _)
          · rw [hI]
            simp only [List.mem_cons, List.not_mem_nil, or_false] at hb
            rcases hb with rfl | rfl | rfl
            · exact Nat.le_of_lt ord.2.2
            · exact Nat.le_of_lt ord.1
            · exact Nat.le_of_lt hI6
        · intro k t z mz E'' ⟨_, q2⟩ q3 q4 q5
          exact hte C u k t z mz E'' humem q3 q4 q5 (fm.evo q2)
        · intro k t z mz E'' ⟨_, q2⟩ qp q3 q4 q5
          exact hel C u k t z mz E'' humem qp q3 q4 q5 (fm.evo q2)
        · rw [show sizeLine = 16777216 by decide]
          have : i * n ≤ 100 * 100 := Nat.mul_le_mul (by omega) hnn
          omega
        · intro z mz zs ⟨q1, q2⟩ q3 q4 q5
          have zzs : zs.size ≤ n := by
            have e1 := q5.length
            have e2 := List.length_filter_le (p u) (intsR a n)
            have e3 : (intsR a n).length = n := by simp [intsR]
            rw [Array.length_toList] at e1
            exact Nat.le_trans (Nat.le_of_eq e1.symm) (Nat.le_trans e2 (Nat.le_of_eq e3))
          refine ⟨items.size + 1 - (i + 1), by omega, i + 1, mz, ys ++ zs, zss ++ [zs.toList], hlt, rfl, q1, q4, q3, q2, ?_, ?_, ?_⟩
          · rw [List.take_add_one]
            have : items.toList[i]? = some u := by simpa using hP
            rw [this]
            exact Paired.snoc pr q5
          · rw [Array.toList_append, fl, List.flatten_append]; simp
          · rw [Array.size_append, Nat.add_mul]; omega
      refine start_in inner ?_
      exact (Walks.range (prog := prg) (w := w) hh s₅.heap.objs.size a 1 n).self 0 _ _ _ it6 inner
    · have : i = items.size := by omega
      subst this
      refine W.done s' _ _ ⟨st, hlist⟩ fun h₃ tk₃ hk₃ => ?_
      have e3 : EvoB [I1] s' { s' with heap := h₃, toks := tk₃ } := EvoB.heap hk₃ (fun hm => by rw [← List.mem_singleton.mp hm] at bI; exact absurd bI (by decide)) (fun hm => by rw [← List.mem_singleton.mp hm] at bI; exact absurd bI (by decide))
      have ev₃ : Evo s { s' with heap := h₃, toks := tk₃ } := EvoB.drop ev e3 (fun b hb => by rw [List.mem_singleton] at hb; rw [hb, hI]; exact Nat.le_refl _)
      have pl₃ : h₃.PlainList D ys := pl.at fun o e => hk₃ D o (by rw [List.mem_singleton]; exact Nat.ne_of_gt ord.1) e
      have ns₃ : h₃.Ns C m' := ns.at' fun o e => hk₃ C o (by rw [List.mem_singleton]; exact Nat.ne_of_gt ord.2.2) e
      refine ⟨m', ns₃, fun h'' hs'' => ?_⟩
      have ev₄ : Evo s { s' with heap := h'', toks := tk₃ } := EvoB.drop ev₃ (EvoB.sameBut (s := { s' with heap := h₃, toks := tk₃ }) (tk := tk₃) hs'' bC) (fun b hb => by rw [List.mem_singleton] at hb; rw [hb, hI]; exact Nat.le_of_lt ord.2.2)
      have pl₄ : h''.PlainList D ys := pl₃.extBut hs''.extBut (Nat.ne_of_lt ord.2.1)
      rw [show items.size = items.toList.length by simp, List.take_length] at pr
      exact fin _ D ys zss ((fm.evo ev₄).add pl₄.isList) ev₄ pr fl
  have W := Walks.list (prog := prg) (w := w) hh I1 ax (Nat.ne_of_lt haz) items
  have st1 : h₁.IsListIter I1 ax 0 ∧ h₁.IsList ax items := ⟨hit2.at fun o e => old _ o e, isList_evo fm.W.tab hl base⟩
  exact codeAny_compStart_list loop (W.self 0 _ _ _ st1 loop)
end
end Mine
end

section
open PySem PySem.W PyProof.Rows PySem.SeqAt
set_option Elab.async false
set_option maxRecDepth 100000
namespace Mine
section
variable {w : World} {A : Around} {E : Value → Shared → Prop} {R : Result → Shared → Prop} {s s₀ : Shared} {L : Addr} {cs : List (Str × Addr)} {m cm : Str → Option Value} {Γ : List (Addr × Array Value)} {env : Env}

theorem Fm.addCell (F : Fm s₀ L cs m cm Γ s) {x : Str} {cw : Addr} {v : Value} (hc : s.heap.IsCell cw (some v)) (hL : L < cw) (hnew : ∀ p ∈ cs, p.2 ≠ cw) : Fm s₀ L ((x, cw) :: cs) m (fun y => if y = x then some v else cm y) Γ s := by
  refine ⟨F.wd, F.ev, F.ns, fun n c h => ?_, F.fresh, List.pairwise_cons.mpr ⟨fun p hp => (hnew p hp).symm, F.apart⟩, fun n c h => ?_, F.ls⟩
  · rw [List.lookup_cons] at h
    by_cases e : n = x
    · subst e
      simp only [beq_self_eq_true] at h
      cases h
      rw [if_pos rfl]; exact hc
    · have : (n == x) = false := beq_eq_false_iff_ne.mpr e
      rw [this] at h
      rw [if_neg e]; exact F.cell n c h
  · rcases List.mem_cons.mp h with h | h
    · cases h; exact hL
    · exact F.above n c h

theorem newEnvC {scope : Scope} {x g : Str} {kg : NameKind} {Q : Env → Shared → Prop} (hnm : scope.names = [((".0" : Str), .local), (x, .cell), (g, kg)]) (hkg : (kg == NameKind.cell) = false)
    (h : Q { scope, locals := s.heap.objs.size, globals := env.globals, cells := [(x, s.heap.objs.size + 1)], qual := env.qual, func := none, code := env.code, frame := env.frame, builtins := env.builtins }
      { s with heap := (s.heap.push { cls := .type "dict", data := .dict #[] }).push { cls := .type "cell", data := .cell none } }) :
    wpAny (model prg w) A (newFunctionEnv scope env.globals [] [] env.qual none .none (some env)) Q E s := by
  unfold newFunctionEnv
  rw [hnm]
  refine wpAny_bind (wpAny_alloc ?_)
  simp only [List.forIn_cons, List.forIn_nil, hkg, Bool.false_eq_true, if_false, beq_self_eq_true, if_true, show (NameKind.local == NameKind.cell) = false from rfl]
  refine wpAny_bind (wpAny_bind (wpAny_pure ?_))
  dsimp only
  refine wpAny_bind (wpAny_bind (wpAny_alloc ?_))
  refine wpAny_pure ?_
  dsimp only
  refine wpAny_bind (wpAny_pure ?_)
  dsimp only
  refine wpAny_pure ?_
  refine wpAny_bind (wpAny_pure ?_)
  refine wpAny_pure ?_
  rw [Heap.size_push]
  exact h

/-- y = [.. for x in list of two], x a cell, the elements lists of sixteen -/
theorem lcCellL {elt iter : Expr} {scope : Scope} {pos px py spos : Pos} {x y g : Str} {kg : NameKind} {v1 v2 : Value} {G : Value → Array Value → Prop} {Q : Flow → Shared → Prop}
    (fm : Fm s₀ env.locals cs m cm Γ s) (hsw : swapsWith (.ListComp elt [⟨.Name x px, iter, [], 0⟩] scope pos) (some (.Name y py)) spos.line env = pure true) (hk : env.scope.kind = .function) (hl : env.kindOf y = some .local) (hh : A.handled = none) (hnm : scope.names = [((".0" : Str), .local), (x, .cell), (g, kg)]) (hkg : (kg == NameKind.cell) = false)
    (hclos : closureFor scope env = pure []) (hkind : scope.kind = .function) (hnames : ∀ y ∈ scope.names, y.2 = .local → scope.names.lookup y.1 = some .local)
    (hx : ∀ C cw, (compEnvC scope [(x, cw)] C env).kindOf x = some .cell)
    (hiter : wpAny (model prg w) A (eval iter env) (fun xv s₁ => Evo s s₁ ∧ ∃ ax, xv = .ref ax ∧ s₁.heap.IsList ax #[v1, v2]) E s)
    (h16 : ∀ v its, G v its → its.size = 16) (hcsl : ∀ p ∈ cs, cs.lookup p.1 = some p.2)
    (hel : ∀ C cw v s₃ E', v = v1 ∨ v = v2 → Fm s₀ env.locals ((x, cw) :: cs) m (fun y => if y = x then some v else cm y) Γ s₃ →
      wpAny (model prg w) A (eval elt (compEnvC scope [(x, cw)] C env)) (fun z s₄ => Evo s₃ s₄ ∧ ∃ D its, z = .ref D ∧ s₄.heap.IsList D its ∧ G v its) E' s₃)
    (fin : ∀ s' D D1 i1 D2 i2, Fm s₀ env.locals cs (fun z => if z = y then some (.ref D) else m z) cm ((D, #[.ref D1, .ref D2]) :: (D1, i1) :: (D2, i2) :: Γ) s' → G v1 i1 → G v2 i2 → Q .next s')
    (hs : ∀ x, foldedSetIterable iter env x = pure x) :
    wpAny (model prg w) A (exec (.Assign [.Name y py] (.ListComp elt [⟨.Name x px, iter, [], 0⟩] scope pos) spos) env) Q E s := by
  rw [exec_Assign_Name_used _ _ _ _ hsw]
  refine wpAny_bind (wpAny_standAt (wpAny_bind ?_))
  show wpAny _ A (do let _ ← comprehension (.ListComp elt [⟨.Name x px, iter, [], 0⟩] scope pos) scope env _ (newList []) false (eval iter env) (some (assign (.Name y py) env))) _ _ s
  refine wpAny_bind (wpAny_mono (wpAny_comprehension_free (use := some (assign (.Name y py) env)) (Q := fun _ s' => Q .next s') rfl hs hclos hkind hnames
    (wpAny_mono hiter (fun xv s₁ h₁ => ?_) fun _ _ e => e)) (fun _ _ hq => wpAny_pure (wpAny_pure hq)) fun _ _ e => e)
  obtain ⟨ev₁, ax, rfl, hla⟩ := h₁
  have f₁ := fm.evo ev₁
  have hb := f₁.W.size
  have haz : ax < s₁.heap.objs.size := by obtain ⟨_, e, _⟩ := hla; exact Heap.lt_size e
  refine wpAny_pyIter_list hla ?_
  generalize hh2 : s₁.heap.push _ = h2
  have z2 : h2.objs.size = s₁.heap.objs.size + 1 := by rw [← hh2, Heap.size_push]
  have k2 : ∀ b o, s₁.heap.get? b = some o → h2.get? b = some o := fun b o e => by rw [← hh2]; exact Heap.get?_push_of_some _ e
  have hit2 : h2.IsListIter s₁.heap.objs.size ax 0 := ⟨{ cls := .type "list_iterator", data := .fields #[.ref ax, .int 0 0] }, by rw [← hh2]; exact Heap.get?_push_size _ rfl, rfl, rfl⟩
  refine wpAny_newObj_type (newEnvC hnm hkg ?_)
  dsimp only
  generalize hH3 : h2.push { cls := .type "list", dict := none, data := .seq ([] : List Value).toArray } = H3
  have z3 : H3.objs.size = s₁.heap.objs.size + 2 := by rw [← hH3, Heap.size_push, z2]
  have hD3 : H3.PlainList h2.objs.size #[] := ⟨_, by rw [← hH3]; exact Heap.get?_push_size _ rfl⟩
  have k3 : ∀ b o, h2.get? b = some o → H3.get? b = some o := fun b o e => by rw [← hH3]; exact Heap.get?_push_of_some _ e
  generalize hH4 : H3.push { cls := .type "dict", data := .dict #[] } = H4
  have z4 : H4.objs.size = H3.objs.size + 1 := by rw [← hH4, Heap.size_push]
  have k4 : ∀ b o, H3.get? b = some o → H4.get? b = some o := fun b o e => by rw [← hH4]; exact Heap.get?_push_of_some _ e
  have hN4 : H4.Ns H3.objs.size fun _ => none := by rw [← hH4]; exact Heap.Ns.new _ _
  generalize hH5 : H4.push { cls := .type "cell", data := .cell none } = H5
  have k5 : ∀ b o, H4.get? b = some o → H5.get? b = some o := fun b o e => by rw [← hH5]; exact Heap.get?_push_of_some _ e
  have hcell5 : H5.IsCell (H3.objs.size + 1) none := ⟨_, by rw [← z4, ← hH5]; exact Heap.get?_push_size _ rfl, rfl⟩
  have base : Evo s₁ { s₁ with heap := H5 } := Evo.kp (tk := s₁.toks) fun b o e => k5 b o (k4 b o (k3 b o (k2 b o e)))
  generalize hI : s₁.heap.objs.size = I1 at *
  generalize hD : h2.objs.size = D at *
  generalize hC : H3.objs.size = C at *
  have ord : I1 < D ∧ D < C ∧ I1 < C ∧ C < C + 1 := by rw [z2, z3]; exact ⟨Nat.lt_succ_self _, Nat.lt_succ_self _, Nat.lt_succ_of_lt (Nat.lt_succ_self _), Nat.lt_succ_self _⟩
  have bI : @LT.lt Nat _ 111 I1 := hb
  have bD : @LT.lt Nat _ 111 D := Nat.lt_trans bI ord.1
  have bC : @LT.lt Nat _ 111 C := Nat.lt_trans bD ord.2.1
  have bW : @LT.lt Nat _ 111 (C + 1) := Nat.lt_trans bC ord.2.2.2
  have n65 : ∀ {b : Nat}, 111 < b → b ≠ 65 := fun h => by omega
  have hLw : env.locals < C + 1 := Nat.lt_trans (Nat.lt_of_lt_of_eq f₁.ns.lt hI) (Nat.lt_trans ord.2.2.1 ord.2.2.2)
  have hcsw : ∀ p ∈ cs, p.2 ≠ C + 1 := fun p hp => by
    have h1 : p.2 < I1 := by
      have hlk : ∃ n, cs.lookup n = some p.2 := ⟨p.1, hcsl p hp⟩
      obtain ⟨n, hlk⟩ := hlk
      obtain ⟨_, e, _⟩ := f₁.cell n p.2 hlk
      exact Nat.lt_of_lt_of_eq (Heap.lt_size e) hI
    exact Nat.ne_of_lt (Nat.lt_trans h1 (Nat.lt_trans ord.2.2.1 ord.2.2.2))
  have loop : codeAny (model prg w) A (.compLoop (.ListComp elt [⟨.Name x px, iter, [], 0⟩] scope pos) 0 (.ref I1) (.ref D) (compEnvC scope [(x, C + 1)] C env))
      (compPost (model prg w) A E (some (assign (.Name y py) env)) (fun _ s' => Q .next s') (.ref D) C) { s₁ with heap := H5 } := by
    have W := Walks.list (prog := prg) (w := w) hh I1 ax (Nat.ne_of_lt haz) #[v1, v2]
    refine codeAny_compLoop_tests (fun kk s' => ∃ (i : Nat) (done : List (Addr × Array Value)) (cv : Option Value), i ≤ 2 ∧ kk = 3 - i ∧ s'.heap.IsListIter I1 ax i ∧ s'.heap.PlainList D (done.map fun p => Value.ref p.1).toArray ∧
      s'.heap.Ns C (fun _ => none) ∧ s'.heap.IsCell (C + 1) cv ∧ Evo s₁ s' ∧ done.length = i ∧ Paired (fun v p => G v p.2 ∧ s'.heap.IsList p.1 p.2) (([v1, v2] : List Value).take i) done) ?_ 3
      ⟨0, [], none, by decide, rfl, hit2.at fun o e => k5 _ o (k4 _ o (k3 _ o e)), hD3.at fun o e => k5 _ o (k4 _ o e), hN4.at' fun o e => k5 _ o e, hcell5, base, rfl, .nil⟩
    rintro kk s' ⟨i, done, cv, hi, rfl, st, pl, ns, hcv, ev, hdl, pr⟩
    have hlist : s'.heap.IsList ax #[v1, v2] := isList_evo f₁.W.tab hla ev
    have nI : ∀ {q its}, s'.heap.IsList q its → q ≠ I1 := by
      rintro q its ⟨o, ho, hc, _⟩ rfl
      obtain ⟨o', ho', hc', _⟩ := st
      rw [ho] at ho'; cases ho'; rw [hc] at hc'; exact absurd hc' (by decide)
    by_cases hlt : i < 2
    · refine W.item i s' _ _ hlt ⟨st, hlist⟩ fun u h₃ tk₃ hP st₃ hk₃ => ?_
      have hu : u = v1 ∨ u = v2 := by
        rcases (by omega : i = 0 ∨ i = 1) with rfl | rfl
        · left; simpa using hP.symm
        · right; simpa using hP.symm
      have e3 : EvoB [I1] s' { s' with heap := h₃, toks := tk₃ } := EvoB.heap hk₃ (fun hm => by rw [← List.mem_singleton.mp hm] at bI; exact absurd bI (by decide)) (fun hm => by rw [← List.mem_singleton.mp hm] at bI; exact absurd bI (by decide))
      have ev₃ : Evo s₁ { s' with heap := h₃, toks := tk₃ } := EvoB.drop ev e3 (fun b hb => by rw [List.mem_singleton] at hb; rw [hb, hI]; exact Nat.le_refl _)
      have pl₃ := pl.at fun o e => hk₃ D o (by rw [List.mem_singleton]; exact Nat.ne_of_gt ord.1) e
      have ns₃ := ns.at' fun o e => hk₃ C o (by rw [List.mem_singleton]; exact Nat.ne_of_gt ord.2.2.1) e
      have hcv₃ : h₃.IsCell (C + 1) cv := let ⟨o, e, d⟩ := hcv; ⟨o, hk₃ _ o (by rw [List.mem_singleton]; exact Nat.ne_of_gt (Nat.lt_trans ord.2.2.1 ord.2.2.2)) e, d⟩
      have pr₃ : Paired (fun v p => G v p.2 ∧ h₃.IsList p.1 p.2) (([v1, v2] : List Value).take i) done := pr.mono fun v p h => ⟨h.1, h.2.at fun o e => hk₃ _ o (by rw [List.mem_singleton]; exact nI h.2) e⟩
      refine wpAny_assign_Name (wpAny_storeName_cell (env := compEnvC scope [(x, C + 1)] C env) hkind (hx C (C + 1)) (by simp [compEnvC, List.lookup]) hcv₃ fun h₄ hc₄ hs₄ => ?_)
      have ev₄ : Evo s₁ { s' with heap := h₄, toks := tk₃ } := EvoB.drop ev₃ (EvoB.sameBut (s := { s' with heap := h₃, toks := tk₃ }) (tk := tk₃) hs₄ bW) (fun b hb => by rw [List.mem_singleton] at hb; rw [hb, hI]; exact Nat.le_of_lt (Nat.lt_trans ord.2.2.1 ord.2.2.2))
      have pl₄ := pl₃.extBut hs₄.extBut (Nat.ne_of_lt (Nat.lt_trans ord.2.1 ord.2.2.2))
      have ns₄ : h₄.Ns C fun _ => none := ns₃.sameBut hs₄ (Nat.ne_of_lt ord.2.2.2)
      have st₄ : h₄.IsListIter I1 ax (i + 1) := st₃.1.at fun o e => hs₄.extBut _ o (Nat.ne_of_lt (Nat.lt_trans ord.2.2.1 ord.2.2.2)) e
      have pr₄ : Paired (fun v p => G v p.2 ∧ h₄.IsList p.1 p.2) (([v1, v2] : List Value).take i) done := pr₃.mono fun v p h => ⟨h.1, h.2.extBut hs₄.extBut fun q => isList_not_cell (q ▸ h.2) hcv₃⟩
      refine wpAny_tests_nil ?_
      rw [if_pos rfl]
      have F₄ := (f₁.evo ev₄).addCell (x := x) hc₄ hLw hcsw
      refine wpAny_mono (hel C (C + 1) u _ _ hu F₄) (fun z s₅ h₅ => ?_) fun _ _ e => e
      obtain ⟨ev₅, D', its, rfl, hl', hG⟩ := h₅
      have es₅ := ev₄.trans ev₅
      have pl₅ : s₅.heap.PlainList D (done.map fun p => Value.ref p.1).toArray := pl₄.at fun o e => ev₅.keep D o (fun h => nomatch h) (n65 bD) e
      have ns₅ := ns₄.at' fun o e => ev₅.keep C o (fun h => nomatch h) (n65 bC) e
      have st₅ : s₅.heap.IsListIter I1 ax (i + 1) := st₄.at fun o e => ev₅.keep I1 o (fun h => nomatch h) (n65 bI) e
      have hcv₅ : s₅.heap.IsCell (C + 1) (some u) := let ⟨o, e, d⟩ := hc₄; ⟨o, ev₅.keep _ o (fun h => nomatch h) (n65 bW) e, d⟩
      have pr₅ : Paired (fun v p => G v p.2 ∧ s₅.heap.IsList p.1 p.2) (([v1, v2] : List Value).take i) done := pr₄.mono fun v p h => ⟨h.1, isList_evo (s := { s' with heap := h₄, toks := tk₃ }) F₄.W.tab h.2 ev₅⟩
      have nD : ∀ {q its}, s₅.heap.IsList q its → its.size = 16 → q ≠ D := by
        rintro q its ⟨o, ho, hc, n, hd⟩ hz rfl
        obtain ⟨n', e'⟩ := pl₅
        rw [ho] at e'; cases e'
        simp only at hd
        cases hd
        rw [List.size_toArray, List.length_map] at hz
        omega
      refine wpAny_list_append_plain (hsz := by rw [List.size_toArray, List.length_map, hdl]; exact Nat.le_trans hi (by decide)) pl₅ fun h₆ hl₆ hs₆ => ?_
      refine ⟨3 - (i + 1), by omega, i + 1, done ++ [(D', its)], some u, hlt, rfl, st₅.at fun o e => hs₆.extBut _ o (Nat.ne_of_lt ord.1) e, ?_, ns₅.sameBut hs₆ (Nat.ne_of_gt ord.2.1), hcv₅.sameBut hs₆ (Nat.ne_of_gt (Nat.lt_trans ord.2.1 ord.2.2.2)), ?_, by rw [List.length_append, hdl]; rfl, ?_⟩
      · have e0 : (done.map fun p => Value.ref p.1).toArray.push (.ref D') = ((done ++ [(D', its)]).map fun p => Value.ref p.1).toArray := by simp
        rw [← e0]; exact hl₆
      · exact EvoB.drop es₅ (EvoB.sameBut (s := s₅) (tk := s₅.toks) hs₆ bD) (fun b hb => by rw [List.mem_singleton] at hb; rw [hb, hI]; exact Nat.le_of_lt ord.1)
      · have e1 : ([v1, v2] : List Value).take (i + 1) = ([v1, v2] : List Value).take i ++ [u] := by
          rw [List.take_add_one]
          have : ([v1, v2] : List Value)[i]? = some u := by simpa using hP
          rw [this]; rfl
        rw [e1]
        exact Paired.snoc (pr₅.mono fun v p h => ⟨h.1, h.2.extBut hs₆.extBut (nD h.2 (h16 _ _ h.1))⟩) ⟨hG, hl'.extBut hs₆.extBut (nD hl' (h16 _ _ hG))⟩
    · have : i = 2 := by omega
      subst this
      refine W.done s' _ _ ⟨st, hlist⟩ fun h₃ tk₃ hk₃ => ?_
      have e3 : EvoB [I1] s' { s' with heap := h₃, toks := tk₃ } := EvoB.heap hk₃ (fun hm => by rw [← List.mem_singleton.mp hm] at bI; exact absurd bI (by decide)) (fun hm => by rw [← List.mem_singleton.mp hm] at bI; exact absurd bI (by decide))
      have ev₃ : Evo s₁ { s' with heap := h₃, toks := tk₃ } := EvoB.drop ev e3 (fun b hb => by rw [List.mem_singleton] at hb; rw [hb, hI]; exact Nat.le_refl _)
      have pl₃ := pl.at fun o e => hk₃ D o (by rw [List.mem_singleton]; exact Nat.ne_of_gt ord.1) e
      have ns₃ := ns.at' fun o e => hk₃ C o (by rw [List.mem_singleton]; exact Nat.ne_of_gt ord.2.2.1) e
      have pr₃ : Paired (fun v p => G v p.2 ∧ h₃.IsList p.1 p.2) [v1, v2] done := pr.mono fun v p h => ⟨h.1, h.2.at fun o e => hk₃ _ o (by rw [List.mem_singleton]; exact nI h.2) e⟩
      have hCn : s₁.heap.get? C = none := by
        cases e : s₁.heap.get? C with
        | none => rfl
        | some o' => exact absurd (Nat.lt_of_lt_of_eq (Heap.lt_size e) hI) (Nat.not_lt.mpr (Nat.le_of_lt ord.2.2.1))
      cases pr₃ with
      | cons q1 q2 =>
        cases q2 with
        | cons q2 q3 =>
          cases q3
          rename_i p1 p2
          have nC : ∀ {q its}, h₃.IsList q its → q ≠ C := fun h e => isList_not_ns (e ▸ h) ns₃
          have f₄ := (((f₁.evo ev₃).add q2.2).add q1.2).add pl₃.isList
          refine wpAny_assign_Name (storeL f₄ (fun s'' hs'' f₅ _ => ?_) hk hl)
          have hLC : env.locals ≠ C := Nat.ne_of_lt (Nat.lt_trans (Nat.lt_of_lt_of_eq f₁.ns.lt hI) ord.2.2.1)
          refine ⟨_, ns₃.sameBut hs'' (Ne.symm hLC), fun h'' hs3 => ?_⟩
          refine fin _ D p1.1 p1.2 p2.1 p2.2 (Fm.but (tk := s''.toks) f₅ f₁ hCn bC hs3.extBut ?_) q1.1 q2.1
          intro q hq
          rcases List.mem_cons.mp hq with rfl | hq
          · exact Nat.ne_of_lt ord.2.1
          rcases List.mem_cons.mp hq with rfl | hq
          · exact nC q1.2
          rcases List.mem_cons.mp hq with rfl | hq
          · exact nC q2.2
          · intro e
            obtain ⟨_, e', _⟩ := f₁.ls q hq
            rw [e, hCn] at e'; cases e'
  have W := Walks.list (prog := prg) (w := w) hh I1 ax (Nat.ne_of_lt haz) #[v1, v2]
  have st1 : H5.IsListIter I1 ax 0 ∧ H5.IsList ax #[v1, v2] := ⟨hit2.at fun o e => k5 _ o (k4 _ o (k3 _ o e)), isList_evo f₁.W.tab hla base⟩
  exact codeAny_compStart_list loop (W.self 0 _ _ _ st1 loop)
end
end Mine
end

section
open PySem PySem.W PyProof.Rows PySem.SeqAt
set_option Elab.async false
set_option maxRecDepth 100000
namespace Mine

theorem ints_inj : ∀ {vs : List Value} {a b : List Int}, IntsAre vs a → IntsAre vs b → a = b
  | _, _, _, .nil, h => by cases h; rfl
  | _, _, _, .cons n t h, h' => by cases h' with | cons _ _ h'' => rw [ints_inj h h'']
theorem lookup_nodup : ∀ {cs : List (Str × Addr)}, (cs.map (·.1)).Nodup → ∀ p ∈ cs, cs.lookup p.1 = some p.2
  | [], _, p, hp => nomatch hp
  | (n, c) :: r, h, p, hp => by
    rw [List.map_cons, List.nodup_cons] at h
    rcases List.mem_cons.mp hp with rfl | hp
    · simp [List.lookup_cons]
    · have hm : p.1 ∈ r.map (·.1) := List.mem_map.mpr ⟨p, hp, rfl⟩
      have : (p.1 == n) = false := beq_eq_false_iff_ne.mpr fun e => h.1 (by rw [e] at hm; exact hm)
      rw [List.lookup_cons, this]
      exact lookup_nodup h.2 p hp
theorem cellKeys : ∀ (names : List (Str × NameKind)) (n n' : Nat) (acc acc' : List (Str × Addr)), acc.map (·.1) = acc'.map (·.1) → (cellsFrom n names acc).map (·.1) = (cellsFrom n' names acc').map (·.1)
  | [], _, _, _, _, h => h
  | (x, k) :: r, n, n', acc, acc', h => by
    unfold cellsFrom
    by_cases hk : (k == NameKind.cell) = true
    · simp only [hk, if_true]
      exact cellKeys r _ _ _ _ (by simp [h])
    · simp only [hk, if_false, Bool.false_eq_true]
      exact cellKeys r _ _ _ _ h
theorem lawCells (L : Nat) : ∀ p ∈ cellsFrom (L + 1) (fScope (top 13)).names [], (cellsFrom (L + 1) (fScope (top 13)).names []).lookup p.1 = some p.2 := by
  refine lookup_nodup ?_
  rw [cellKeys _ (L + 1) 0 [] [] rfl]
  decide +kernel

/-- the winning sets both ways -/
def bothF (R O : List Int) : List Int := R.filter fun k => inW O k

section
variable {w : World} {A : Around} {E : Value → Shared → Prop} {s s' s₀ : Shared} {m cm : Str → Option Value} {Γ : List (Addr × Array Value)}

theorem list_inj {h : Heap} {a : Addr} {xs ys : Array Value} (h1 : h.IsList a xs) (h2 : h.IsList a ys) : xs = ys := by
  obtain ⟨o, ho, _, n, hd⟩ := h1
  obtain ⟨o', ho', _, n', hd'⟩ := h2
  rw [ho] at ho'; cases ho'
  rw [hd] at hd'; cases hd'; rfl

theorem law7 {Dr Do : Addr} {rs os : Array Value} {R O : List Int} {Q : Flow → Shared → Prop} (hA : Air A) (F : LF s₀ m cm Γ s)
    (hr : cm "rule" = some (.ref Dr)) (hrl : (Dr, rs) ∈ Γ) (ir : IntsAre rs.toList R) (zr : R.length ≤ 16)
    (ho : cm "other" = some (.ref Do)) (hol : (Do, os) ∈ Γ) (io : IntsAre os.toList O) (zo : O.length ≤ 16)
    (ok : 15 * (960 * (16 * ((bothF R O).length : Int) - (R.length : Int) * (O.length : Int))) = preSum (covP (marksF R) (marksF O)) 16)
    (k : ∀ s' m', LF s₀ m' cm Γ s' → (∀ x : Str, x ∉ (["marks", "both"] : List Str) → m' x = m x) → wpAny (model prg w) A (execs (lawB 20) (lE s₀)) Q E s') :
    wpAny (model prg w) A (execs (lawB 17) (lE s₀)) Q E s := by
  have hu := hA.units
  have zrs : rs.toList.length = R.length := ir.length
  have zos : os.toList.length = O.length := io.length
  refine wpAny_execs_cons ?_
  refine lcCellL (cs := cellsFrom (s₀.heap.objs.size + 1) (fScope (top 13)).names []) (v1 := .ref Dr) (v2 := .ref Do) (G := fun v its => its.size = 16 ∧ ∃ D' ds ks, v = .ref D' ∧ (D', ds) ∈ Γ ∧ IntsAre ds.toList ks ∧ IntsAre its.toList (marksF ks)) F (by with_unfolding_all rfl) rfl rfl hA.handled rfl rfl (by with_unfolding_all rfl) rfl (by decide) (fun _ _ => rfl) ?_ (fun _ _ h => h.1) (lawCells _) ?_ ?_ (fun _ => rfl)
  · refine wpAny_List ?_
    refine wpAny_items_cons ?_
    refine nmC F rfl rfl hr ?_
    refine wpAny_items_cons ?_
    refine nmC F rfl rfl ho ?_
    refine wpAny_items_nil ⟨(show (2 : Nat) ≤ sizeLine by decide), Evo.kp (tk := s.toks) fun _ _ e => Heap.get?_push_of_some _ e, _, rfl, ⟨_, Heap.get?_push_size _ rfl, rfl, _, rfl⟩⟩
  · intro C cw v s₃ E' hv F₃
    have hmem : ∃ D' ds ks, v = .ref D' ∧ (D', ds) ∈ Γ ∧ IntsAre ds.toList ks := by
      rcases hv with rfl | rfl
      · exact ⟨Dr, rs, R, rfl, hrl, ir⟩
      · exact ⟨Do, os, O, rfl, hol, io⟩
    obtain ⟨D', ds, ks, rfl, hdl, hds⟩ := hmem
    refine lcV (intP fun _ => true) (intF fun i => if inW ks i then 30 else 0) F₃ (by with_unfolding_all rfl) (by decide) rfl (by decide) rfl ?_ ?_ ?_ ?_
      (P := fun v => ∃ (i : Nat) (t : Tok), i < 16 ∧ v = .int (0 + i) t) (S := fun vs => IntsAre vs ((List.range 16).map fun (i : Nat) => (0 : Int) + (i : Int)))
    · exact rangeE (n := 16) F₃.W fun r s' t' v' ev hr => ⟨ev, Src.range hA.handled (F₃.evo ev).W hr (by decide) (by decide) (by decide)⟩
    · rintro C v s₄ m₄ E' ⟨i, ti, hi, rfl⟩ hn hm F₄
      exact no_tests rfl rfl
    · rintro C v s₄ m₄ E' ⟨i, ti, hi, rfl⟩ _ hn hm F₄
      refine wpAny_IfExp ?_
      refine wpAny_isTrue_Compare1 ?_
      refine nmN (hn : _) hm ?_
      refine nmC F₄ rfl rfl rfl ?_
      refine in_list_ints (vs := ds.toList) (F₄.ls (D', ds) hdl) hds ?_
      refine wpAny_truthy_bool ?_
      split
      · rename_i hb
        refine wpAny_Constant_int ⟨intF_mk (by rw [inW, if_pos hb]), Evo.kp fun _ _ e => e⟩
      · rename_i hb
        refine wpAny_Constant_int ⟨intF_mk (by rw [inW, if_neg hb]), Evo.kp fun _ _ e => e⟩
    · intro s₅ D₅ y₅ vs F₅ ev₅ hS hP
      have h5 : IntsAre y₅.toList (marksF ks) := ints16' hS hP
      exact ⟨ev₅, D₅, y₅, rfl, F₅.ls (D₅, y₅) (by simp), by have := h5.length; simpa [marksF] using this, D', ds, ks, rfl, hdl, hds, h5⟩
  intro s₁ Dm D1 i1 D2 i2 F₁ hG1 hG2
  obtain ⟨z1, Da, da, ka, ea, hda, ida, iia⟩ := hG1
  obtain ⟨z2, Db, db, kb, eb, hdb, idb, iib⟩ := hG2
  cases ea; cases eb
  obtain rfl : da = rs := list_inj (F₁.ls (Dr, da) (by simp [hda])) (F₁.ls (Dr, rs) (by simp [hrl]))
  obtain rfl : db = os := list_inj (F₁.ls (Do, db) (by simp [hdb])) (F₁.ls (Do, os) (by simp [hol]))
  obtain rfl := ints_inj ida ir
  obtain rfl := ints_inj idb io
  refine wpAny_execs_cons ?_
  refine wpAny_Assign_Name ?_
  refine callB F₁.W (by decide) bi_len ?_
  refine wpAny_items_cons ?_
  refine lcV (intP fun k => inW kb k) (intF id) F₁ (by with_unfolding_all rfl) (by decide) rfl (by decide) rfl ?_ ?_ ?_ ?_
    (P := fun v => ∃ k t, v = .int k t ∧ k ∈ ka) (S := fun vs => IntsAre vs ka)
  · exact nmC F₁ rfl rfl hr ⟨.refl _ _, srcInts hA.handled F₁ (D := Dr) (ys := da) (by simp [hda]) ida (by omega)⟩
  · rintro C v s₃ m₃ E' ⟨i, ti, rfl, _⟩ hn hm F₃
    refine wpAny_tests_one ?_
    refine wpAny_isTrue_Compare1 ?_
    refine nmN (hn : _) hm ?_
    refine nmC F₃ rfl rfl ho ?_
    refine in_list_ints (vs := db.toList) (F₃.ls (Do, db) (by simp [hol])) idb ?_
    exact wpAny_truthy_bool ⟨rfl, .refl _ _⟩
  · rintro C v s₃ m₃ E' ⟨i, ti, rfl, _⟩ _ hn hm F₃
    exact nmN (hn : _) hm ⟨intF_mk rfl, .refl _ _⟩
  intro s₂ D₂ y₂ vs F₂ _ hS hP
  have h2 : IntsAre y₂.toList (bothF ka kb) := pairId hS hP
  clear hS hP
  have zb : (bothF ka kb).length ≤ 16 := Nat.le_trans (List.length_filter_le ..) zr
  have zy : y₂.toList.length = (bothF ka kb).length := h2.length
  refine wpAny_items_nil ?_
  refine lenL (vs := y₂.toList) (F₂.ls (D₂, y₂) (by simp)) (by omega) ?_
  refine storeL (F₂.tok _) fun s₃ hs₃ F₃ _ => ?_
  refine wpAny_execs_cons ?_
  refine wpAny_If (wpAny_mono (Q := fun b s₈ => b = false ∧ Evo s₃ s₈) ?_ (fun b s₈ h => ?_) fun _ _ e => e)
  · refine wpAny_isTrue_Compare1 ?_
    refine wpAny_BinOp ?_
    refine wpAny_Constant_int ?_
    have F₄ := F₃.tok (s₃.toks + 1)
    refine callF 4 F₄.W (fun _ _ n => n.cov) (fun _ W => W.cov) (by decide) ?_
    refine wpAny_items_cons ?_
    refine Subscript_ ?_
    refine nmL F₄ rfl ?_
    refine wpAny_Constant_int ?_
    have F₅ := F₄.tok (s₃.toks + 1 + 1)
    refine itemL (F₅.ls (Dm, #[.ref D1, .ref D2]) (by simp)) (by decide) (by decide) (v := .ref D1) rfl ?_
    refine wpAny_items_cons ?_
    refine Subscript_ ?_
    refine nmL F₅ rfl ?_
    refine wpAny_Constant_int ?_
    have F₆ := F₅.tok (s₃.toks + 1 + 1 + 1)
    refine itemL (F₆.ls (Dm, #[.ref D1, .ref D2]) (by simp)) (by decide) (by decide) (v := .ref D2) rfl ?_
    refine wpAny_items_nil ⟨Evo.kp (s := { s₃ with toks := s₃.toks + 1 }) (tk := s₃.toks + 1 + 1 + 1) fun _ _ e => e, ?_⟩
    refine cov_call F₆.W (hA.lo.mono (by decide)) (us := i1.toList) (vs := i2.toList) (F₆.ls (D1, i1) (by simp)) (F₆.ls (D2, i2) (by simp)) iia iib (by simp [marksF]) (by simp [marksF]) (marksF_sm _) (marksF_sm _) ok ?_
    intro s₇ z tz ev₇ hz
    have F₇ := F₆.evo ev₇
    refine AutoFloatOps.mul_if_1 (Flt.fin_of_fits (notOver (by decide))) ?_
    have sm1 : ((ka.length : Int) * (kb.length : Int)).natAbs ≤ 256 := by
      rw [Int.natAbs_mul, Int.natAbs_natCast, Int.natAbs_natCast]
      exact Nat.mul_le_mul zr zo
    have hz4 : Fl (Float64.mul (Float64.ofInt 4) z) (256 * (15 * (16 * ((bothF ka kb).length : Int) - (ka.length : Int) * (kb.length : Int)))) := by
      refine (Fl.ofInt (i := 4) (by decide)).mul hz (by omega) (by omega)
    refine wpAny_BinOp ?_
    refine wpAny_Constant_int ?_
    refine wpAny_BinOp ?_
    refine wpAny_BinOp ?_
    refine wpAny_Constant_int ?_
    have F₈ := F₇.tok (s₇.toks + 1 + 1 + 1)
    refine nmL F₈ rfl ?_
    refine mul_int ?_ (.of_left (intBits_le_64 (by decide) (by decide)))
    have F₉ := F₈.tok (s₇.toks + 1 + 1 + 1 + 1)
    refine wpAny_BinOp ?_
    refine callB F₉.W (by decide) bi_len ?_
    refine wpAny_items_cons ?_
    refine nmC F₉ rfl rfl hr ?_
    refine wpAny_items_nil ?_
    refine lenL (vs := da.toList) (F₉.ls (Dr, da) (by simp [hda])) (by omega) ?_
    have F₁₀ := F₉.tok (s₇.toks + 1 + 1 + 1 + 1 + 1 + 1)
    refine callB F₁₀.W (by decide) bi_len ?_
    refine wpAny_items_cons ?_
    refine nmC F₁₀ rfl rfl ho ?_
    refine wpAny_items_nil ?_
    refine lenL (vs := db.toList) (F₁₀.ls (Do, db) (by simp [hol])) (by omega) ?_
    refine mul_int ?_ (.of_left (intBits_le_64 (by omega) (by omega)))
    refine sub_int ?_
    refine mul_int ?_ (.of_left (intBits_le_64 (by decide) (by decide)))
    refine ne_fi ?_
    refine wpAny_truthy_bool ?_
    refine ⟨flEq hz4 (by rw [zrs, zos, zy]), ?_⟩
    exact ((Evo.kp (s := s₃) (tk := s₃.toks + 1 + 1 + 1) fun _ _ e => e).trans ev₇).trans (Evo.kp fun _ _ e => e)
  obtain ⟨rfl, ev₈⟩ := h
  rw [if_neg (by decide)]
  refine wpAny_execs_nil ?_
  refine k _ _ ((F₃.evo ev₈).drop fun p hp => by simp [hp]) ?_
  intro x hx
  simp only [List.mem_cons, List.not_mem_nil, or_false, not_or] at hx
  rw [if_neg hx.2, if_neg hx.1]
end
end Mine
end

section
open PySem PySem.W PyProof.Rows PySem.SeqAt
set_option Elab.async false
set_option maxRecDepth 100000
namespace Mine

/-- each so many times -/
def manyF (n : Nat) (ks : List Int) : List Int := ks.flatMap fun k => List.replicate n k
theorem paired_same {v : Value} : ∀ {ks : List Int} {zs : List Value}, Paired (fun _ z => z = v) ks zs → zs = List.replicate ks.length v
  | _, _, .nil => rfl
  | _, _, .cons h r => by rw [paired_same r, h]; rfl
theorem intsRep (k : Int) (t : Tok) : ∀ n, IntsAre (List.replicate n (Value.int k t)) (List.replicate n k)
  | 0 => .nil
  | n + 1 => .cons k t (intsRep k t n)
theorem many_ints {n : Nat} {a : Int} : ∀ {items : List Value} {ks : List Int} {zss : List (List Value)}, IntsAre items ks →
    Paired (fun v zs => Paired (fun (_ : Int) z => z = v) ((intsR a n).filter fun _ => true) zs) items zss → IntsAre zss.flatten (manyF n ks) := by
  intro items ks zss h
  induction h generalizing zss with
  | nil => intro hp; cases hp; exact .nil
  | cons k t r ih =>
    intro hp
    cases hp with
    | cons q1 q2 =>
      have e := paired_same q1
      rw [List.filter_eq_self.mpr (fun _ _ => rfl)] at e
      have el : (intsR a n).length = n := by simp [intsR]
      rw [el] at e
      rw [e, List.flatten_cons]
      exact IntsAre.append (intsRep k t n) (ih q2)
theorem manyF_length (n : Nat) (ks : List Int) : (manyF n ks).length = ks.length * n := by
  induction ks with
  | nil => simp [manyF]
  | cons k r ih =>
    unfold manyF at ih ⊢
    rw [List.flatMap_cons, List.length_append, ih, List.length_replicate, List.length_cons, Nat.succ_mul]; omega

section
variable {w : World} {A : Around} {E : Value → Shared → Prop} {s s' s₀ : Shared} {m cm : Str → Option Value} {Γ : List (Addr × Array Value)}

theorem addL {l b : Addr} {xs ys : Array Value} {Q : Value → Shared → Prop} (hl : s.heap.IsList l xs) (hb : s.heap.IsList b ys) (hsz : xs.size + ys.size ≤ sizeLine)
    (h : Q (.ref s.heap.objs.size) { s with heap := s.heap.push { cls := .type "list", data := .seq (xs ++ ys) } }) : wpAny (model prg w) A (binaryOp .Add (.ref l) (.ref b)) Q E s := by
  obtain ⟨⟨cls, dd, data, sl⟩, ho, hc, n, hd⟩ := id hl
  obtain ⟨⟨cls2, dd2, data2, sl2⟩, ho2, hc2, n2, hd2⟩ := id hb
  simp only at hc hd hc2 hd2
  subst hc hd hc2 hd2
  exact concat_meets ⟨_, ho, rfl⟩ ⟨_, ho2, rfl⟩ noFill_list_add seq_list_add PySem.F.slot_list_add PySem.F.entry_list_add (PySem.F.args_list_add_2 _ _) (list_addW l b xs ys n n2 dd dd2 sl sl2 hsz) ⟨ho, ho2, h⟩

theorem law8 {Dr Do Dg De : Addr} {rs os gs es : Array Value} {R O G K : List Int} {Q : Flow → Shared → Prop} (hA : Air A) (hfr : A.frames = some [lE s₀]) (F : LF s₀ m cm Γ s)
    (hr : cm "rule" = some (.ref Dr)) (hrl : (Dr, rs) ∈ Γ) (ir : IntsAre rs.toList R) (zr : R.length ≤ 16)
    (ho : cm "other" = some (.ref Do)) (hol : (Do, os) ∈ Γ) (io : IntsAre os.toList O) (zo : O.length ≤ 16)
    (hg : m "gone" = some (.ref Dg)) (hgl : (Dg, gs) ∈ Γ) (ig : IntsAre gs.toList G) (he : m "come" = some (.ref De)) (hel : (De, es) ∈ Γ) (ie : IntsAre es.toList K)
    (ok : ∀ ms us, Sld (manyF 3 R ++ [16, 16, 16]) (manyF 4 O ++ [16, 16, 16, 16]) ms us → ms = G ∧ us = K)
    (k : ∀ s' m', LF s₀ m' cm Γ s' → (∀ x : Str, x ∉ (["threes", "fours"] : List Str) → m' x = m x) → wpAny (model prg w) A (execs (lawB 23) (lE s₀)) Q E s') :
    wpAny (model prg w) A (execs (lawB 20) (lE s₀)) Q E s := by
  have hu := hA.units
  have zrs : rs.toList.length = R.length := ir.length
  have zos : os.toList.length = O.length := io.length
  rw [Array.length_toList] at zrs zos
  refine wpAny_execs_cons ?_
  refine wpAny_Assign_Name ?_
  refine wpAny_BinOp ?_
  refine lc2V (n := 3) (a := 0) (b := 3) F hA.handled hrl (by omega) (by decide) (by decide) (by decide) (fun _ _ => true) (fun v _ z => z = v) (by with_unfolding_all rfl) (by decide) rfl (by decide) rfl rfl (by decide) (fun Q h => nmC F rfl rfl hr h) ?_ ?_ ?_ ?_
  · intro C v s₃ m₃ E' hv hn hm F₃
    exact rangeE (n := 3) F₃.W fun r s' t' v' ev hr => ⟨ev, r, _, _, _, rfl, hr⟩
  · intro C v k t s₃ m₃ E' hv hn hm hm2 F₃
    exact wpAny_pure ⟨rfl, .refl _ _⟩
  · intro C v k t s₃ m₃ E' hv _ hn hm hm2 F₃
    exact nmN (hn : _) hm ⟨rfl, .refl _ _⟩
  intro s₁ D₁ y₁ zss F₁ _ hP hfl
  have h1 : IntsAre y₁.toList (manyF 3 R) := by rw [hfl]; exact many_ints ir hP
  have z1 : y₁.size = R.length * 3 := by have := h1.length; rwa [manyF_length, Array.length_toList] at this
  clear hP hfl
  refine wpAny_List ?_
  refine wpAny_items_cons ?_
  refine wpAny_Constant_int ?_
  refine wpAny_items_cons ?_
  refine wpAny_Constant_int ?_
  refine wpAny_items_cons ?_
  refine wpAny_Constant_int ?_
  refine wpAny_items_nil ⟨(show (3 : Nat) ≤ sizeLine by decide), ?_⟩
  have e2 : ∀ (z : Shared) o tk, Evo z { z with heap := z.heap.push o, toks := tk } := fun z o tk => Evo.kp (tk := tk) fun _ _ e => Heap.get?_push_of_some _ e
  have F₂ := F₁.evo (e2 s₁ { cls := .type "list", data := .seq [Value.int 16 s₁.toks, Value.int 16 (s₁.toks + 1), Value.int 16 (s₁.toks + 1 + 1)].toArray } (s₁.toks + 1 + 1 + 1))
  refine addL (xs := y₁) (ys := #[.int 16 s₁.toks, .int 16 (s₁.toks + 1), .int 16 (s₁.toks + 1 + 1)]) (F₂.ls (D₁, y₁) (by simp)) ⟨_, Heap.get?_push_size _ rfl, rfl, _, rfl⟩ (show y₁.size + 3 ≤ sizeLine by rw [show sizeLine = 16777216 by decide]; omega) ?_
  have h1' : IntsAre (y₁ ++ #[Value.int 16 s₁.toks, .int 16 (s₁.toks + 1), .int 16 (s₁.toks + 1 + 1)]).toList (manyF 3 R ++ [16, 16, 16]) := by
    rw [Array.toList_append]; exact IntsAre.append h1 (.cons _ _ (.cons _ _ (.cons _ _ .nil)))
  generalize hz3 : y₁ ++ #[Value.int 16 s₁.toks, .int 16 (s₁.toks + 1), .int 16 (s₁.toks + 1 + 1)] = t3 at h1' ⊢
  have F₃ := (F₂.evo (e2 _ { cls := .type "list", data := .seq t3 } (s₁.toks + 1 + 1 + 1))).add (a := (s₁.heap.push { cls := .type "list", data := .seq [Value.int 16 s₁.toks, Value.int 16 (s₁.toks + 1), Value.int 16 (s₁.toks + 1 + 1)].toArray }).objs.size) (items := t3) ⟨_, Heap.get?_push_size _ rfl, rfl, _, rfl⟩
  refine storeL F₃ fun s₄ hs₄ F₄ _ => ?_
  generalize (s₁.heap.push { cls := .type "list", data := .seq [Value.int 16 s₁.toks, Value.int 16 (s₁.toks + 1), Value.int 16 (s₁.toks + 1 + 1)].toArray }).objs.size = D3 at F₃ F₄
  clear F₃ F₂ hs₄
  refine wpAny_execs_cons ?_
  refine wpAny_Assign_Name ?_
  refine wpAny_BinOp ?_
  refine lc2V (n := 4) (a := 0) (b := 4) (ax := Do) (items := os) F₄ hA.handled (by simp [hol]) (by omega) (by decide) (by decide) (by decide) (fun _ _ => true) (fun v _ z => z = v) (by with_unfolding_all rfl) (by decide) rfl (by decide) rfl rfl (by decide) (fun Q h => nmC F₄ rfl rfl ho h) ?_ ?_ ?_ ?_
  · intro C v s₃ m₃ E' hv hn hm F₃
    exact rangeE (n := 4) F₃.W fun r s' t' v' ev hr => ⟨ev, r, _, _, _, rfl, hr⟩
  · intro C v k t s₃ m₃ E' hv hn hm hm2 F₃
    exact wpAny_pure ⟨rfl, .refl _ _⟩
  · intro C v k t s₃ m₃ E' hv _ hn hm hm2 F₃
    exact nmN (hn : _) hm ⟨rfl, .refl _ _⟩
  intro s₅ D₅ y₅ zss F₅ _ hP hfl
  have h5 : IntsAre y₅.toList (manyF 4 O) := by rw [hfl]; exact many_ints io hP
  have z5 : y₅.size = O.length * 4 := by have := h5.length; rwa [manyF_length, Array.length_toList] at this
  clear hP hfl
  refine wpAny_List ?_
  refine wpAny_items_cons ?_
  refine wpAny_Constant_int ?_
  refine wpAny_items_cons ?_
  refine wpAny_Constant_int ?_
  refine wpAny_items_cons ?_
  refine wpAny_Constant_int ?_
  refine wpAny_items_cons ?_
  refine wpAny_Constant_int ?_
  refine wpAny_items_nil ⟨(show (4 : Nat) ≤ sizeLine by decide), ?_⟩
  have F₆ := F₅.evo (e2 s₅ { cls := .type "list", data := .seq [Value.int 16 s₅.toks, Value.int 16 (s₅.toks + 1), Value.int 16 (s₅.toks + 1 + 1), Value.int 16 (s₅.toks + 1 + 1 + 1)].toArray } (s₅.toks + 1 + 1 + 1 + 1))
  refine addL (xs := y₅) (ys := #[.int 16 s₅.toks, .int 16 (s₅.toks + 1), .int 16 (s₅.toks + 1 + 1), .int 16 (s₅.toks + 1 + 1 + 1)]) (F₆.ls (D₅, y₅) (by simp)) ⟨_, Heap.get?_push_size _ rfl, rfl, _, rfl⟩ (show y₅.size + 4 ≤ sizeLine by rw [show sizeLine = 16777216 by decide]; omega) ?_
  have h5' : IntsAre (y₅ ++ #[Value.int 16 s₅.toks, .int 16 (s₅.toks + 1), .int 16 (s₅.toks + 1 + 1), .int 16 (s₅.toks + 1 + 1 + 1)]).toList (manyF 4 O ++ [16, 16, 16, 16]) := by
    rw [Array.toList_append]; exact IntsAre.append h5 (.cons _ _ (.cons _ _ (.cons _ _ (.cons _ _ .nil))))
  generalize hz4 : y₅ ++ #[Value.int 16 s₅.toks, .int 16 (s₅.toks + 1), .int 16 (s₅.toks + 1 + 1), .int 16 (s₅.toks + 1 + 1 + 1)] = t4 at h5' ⊢
  have F₇ := (F₆.evo (e2 _ { cls := .type "list", data := .seq t4 } (s₅.toks + 1 + 1 + 1 + 1))).add (a := (s₅.heap.push { cls := .type "list", data := .seq [Value.int 16 s₅.toks, Value.int 16 (s₅.toks + 1), Value.int 16 (s₅.toks + 1 + 1), Value.int 16 (s₅.toks + 1 + 1 + 1)].toArray }).objs.size) (items := t4) ⟨_, Heap.get?_push_size _ rfl, rfl, _, rfl⟩
  refine storeL F₇ fun s₈ hs₈ F₈ _ => ?_
  generalize (s₅.heap.push { cls := .type "list", data := .seq [Value.int 16 s₅.toks, Value.int 16 (s₅.toks + 1), Value.int 16 (s₅.toks + 1 + 1), Value.int 16 (s₅.toks + 1 + 1 + 1)].toArray }).objs.size = D4 at F₇ F₈
  clear F₇ F₆ hs₈
  refine wpAny_execs_cons ?_
  refine wpAny_If ?_
  refine wpAny_isTrue_Compare1 ?_
  refine callF 6 F₈.W (fun _ _ n => n.sld) (fun _ W => W.sld) (by decide) ?_
  refine wpAny_items_cons ?_
  refine nmL F₈ rfl ?_
  refine wpAny_items_cons ?_
  refine nmL F₈ rfl ?_
  refine wpAny_items_nil ⟨.refl _ _, ?_⟩
  refine sld_call (envc := lE s₀) (us := t3.toList) (vs := t4.toList) F₈.W hA hfr rfl (show ScopeKind.function ≠ ScopeKind.module by decide) F₈.ns F₈.big (F₈.ls (D3, t3) (by simp)) (F₈.ls (D4, t4) (by simp)) h1' h5'
    (by rw [List.length_append, manyF_length]; show R.length * 3 + 3 < 500; omega) (by rw [List.length_append, manyF_length]; show O.length * 4 + 4 < 500; omega) ?_
  intro s₉ T D1 D2 M U ms us' ev₉ hns₉ hT hM hU im iu hsld
  obtain ⟨rfl, rfl⟩ := ok ms us' hsld
  have F₉ := ((F₈.evoL ev₉ hns₉).add hU.isList).add hM.isList
  refine wpAny_Tuple ?_
  refine wpAny_items_cons ?_
  refine nmL F₉ hg ?_
  refine wpAny_items_cons ?_
  refine nmL F₉ he ?_
  refine wpAny_items_nil ⟨(show (2 : Nat) ≤ sizeLine by decide), ?_⟩
  have F₁₀ := F₉.evo (e2 s₉ { cls := .type "tuple", data := .seq [Value.ref Dg, Value.ref De].toArray } s₉.toks)
  refine neTup2 (by omega) (hT.at fun o e => Heap.get?_push_of_some _ e) ⟨_, Heap.get?_push_size _ rfl, rfl, _, rfl⟩ (eqLists (show A.units + 1 + 2 < cLine by omega) (F₁₀.ls (D1, M) (by simp)) (F₁₀.ls (Dg, gs) (by simp [hgl])) im ig)
    (eqLists (show A.units + 1 + 2 < cLine by omega) (F₁₀.ls (D2, U) (by simp)) (F₁₀.ls (De, es) (by simp [hel])) iu ie) ?_
  refine wpAny_truthy_bool ?_
  rw [if_neg (by decide)]
  refine wpAny_execs_nil ?_
  refine k _ _ (F₁₀.drop fun p hp => by simp [hp]) ?_
  intro x hx
  simp only [List.mem_cons, List.not_mem_nil, or_false, not_or] at hx
  rw [if_neg hx.2, if_neg hx.1]
end
end Mine
end

section
open PySem PySem.W PyProof.Rows PySem.SeqAt
set_option Elab.async false
set_option maxRecDepth 100000
namespace Mine

def stepsF (R O : List Int) : List Int := (all4.map fun k => pullF R k.toNat - pullF O k.toNat) ++ [(R.length : Int) - (O.length : Int)]

/-- the test n == step -/
def atF : Value → Int → Bool := fun v k => match v with | .float z _ => Float64.cmpInt z k == some Ordering.eq | _ => false
theorem one_at {d : Int} (h1 : -16 ≤ d) (h2 : d ≤ 16) : (intsR (-16) 33).filter (fun k => k == d) = [d] := by
  obtain ⟨i, hi, rfl⟩ : ∃ i : Nat, i < 33 ∧ d = -16 + (i : Int) := ⟨(d + 16).toNat, by omega, by omega⟩
  have : ∀ i : Nat, i < 33 → (intsR (-16) 33).filter (fun k => k == -16 + (i : Int)) = [-16 + (i : Int)] := by decide +kernel
  exact this i hi
theorem whole_ints : ∀ {items : List Value} {ks : List Int} {zss : List (List Value)}, FlsAre items ks → (∀ d ∈ ks, -16 ≤ d ∧ d ≤ 16) →
    Paired (fun v zs => Paired (fun (k : Int) (z : Value) => ∃ u, z = .int k u) ((intsR (-16) 33).filter (atF v)) zs) items zss → IntsAre zss.flatten ks := by
  intro items ks zss h
  induction h generalizing zss with
  | nil => intro _ hp; cases hp; exact .nil
  | cons q r ih =>
    rename_i d v ds vs
    intro hd hp
    cases hp with
    | cons q1 q2 =>
      obtain ⟨z, t, rfl, hz⟩ := q
      have e : atF (.float z t) = fun k => k == d := by
        funext k
        show (Float64.cmpInt z k == some Ordering.eq) = (k == d)
        rw [hz.cmpInt]
        by_cases e : k = d
        · subst e; simp
        · have : compare (256 * d) (256 * k) ≠ .eq := fun h => e (by have := Int.compare_eq_eq.mp h; omega)
          have e2 : (k == d) = false := beq_eq_false_iff_ne.mpr e
          rw [e2]
          cases h : compare (256 * d) (256 * k) with
          | eq => exact absurd h this
          | lt => rfl
          | gt => rfl
      rw [e, one_at (hd d (List.mem_cons_self ..)).1 (hd d (List.mem_cons_self ..)).2] at q1
      cases q1 with
      | cons a b =>
        cases b
        obtain ⟨u, rfl⟩ := a
        rw [List.flatten_cons]
        exact .cons d u (ih (fun x hx => hd x (List.mem_cons_of_mem _ hx)) q2)
theorem FlsAre.append : ∀ {xs : List Value} {ks : List Int} {ys : List Value} {ls : List Int}, FlsAre xs ks → FlsAre ys ls → FlsAre (xs ++ ys) (ks ++ ls)
  | _, _, _, _, .nil, h => h
  | _, _, _, _, .cons a r, h => .cons a (FlsAre.append r h)

section
variable {w : World} {A : Around} {E : Value → Shared → Prop} {s s' s₀ : Shared} {m cm : Str → Option Value} {Γ : List (Addr × Array Value)}

theorem law9 {q : Int} {tq : Tok} {Dp Do Dh Dw Dn Dg De : Addr} {ps os hs ws ns gs es : Array Value} {R O G K wi : List Int} {Q : Flow → Shared → Prop} (hA : Air A) (F : LF s₀ m cm Γ s)
    (hp : cm "pulls" = some (.ref Dp)) (hpl : (Dp, ps) ∈ Γ) (ip : FlsAre ps.toList (pullsF R))
    (ho : cm "other" = some (.ref Do)) (hol : (Do, os) ∈ Γ) (io : IntsAre os.toList O)
    (hh : m "shares" = some (.ref Dh)) (hhl : (Dh, hs) ∈ Γ) (ih : FlsAre hs.toList [(R.length : Int), (O.length : Int)]) (zr : R.length ≤ 16) (zo : O.length ≤ 16)
    (hw : cm "weights" = some (.ref Dw)) (hwl : (Dw, ws) ∈ Γ) (iw : IntsAre ws.toList wi) (zw : wi.length = 4) (hq : cm "quota" = some (.int q tq))
    (hn : cm "worths" = some (.ref Dn)) (hnl : (Dn, ns) ∈ Γ) (inn : IntsAre ns.toList (worthsF wi))
    (hg : m "gone" = some (.ref Dg)) (hgl : (Dg, gs) ∈ Γ) (ig : IntsAre gs.toList G) (he : m "come" = some (.ref De)) (hel : (De, es) ∈ Γ) (ie : IntsAre es.toList K)
    (bG : ∀ k ∈ G, 0 ≤ k ∧ k < 16) (bK : ∀ k ∈ K, 0 ≤ k ∧ k < 16) (lG : G.length ≤ 16) (lK : K.length ≤ 16)
    (hd : ∀ d ∈ stepsF R O, -16 ≤ d ∧ d ≤ 16)
    (ok : (all4.map fun k => wi.getD k.toNat 0 * (stepsF R O).getD k.toNat 0).sum + (wi.sum - 2 * q) * (stepsF R O).getD 4 0 = 2 * ((G.map fun k => worthF wi k - q).sum + (K.map fun k => q - worthF wi k).sum))
    (k : ∀ s', Evo s₀ s' → Q (.ret (.bool true)) s') :
    wpAny (model prg w) A (execs (lawB 23) (lE s₀)) Q E s := by
  have hu := hA.units
  have e2 : ∀ (z : Shared) o tk, Evo z { z with heap := z.heap.push o, toks := tk } := fun z o tk => Evo.kp (tk := tk) fun _ _ e => Heap.get?_push_of_some _ e
  refine wpAny_execs_cons ?_
  refine wpAny_Assign_Name ?_
  refine wpAny_BinOp ?_
  refine lcV (intP fun _ => true) (flF fun k => pullF R k.toNat - pullF O k.toNat) F (by with_unfolding_all rfl) (by decide) rfl (by decide) rfl ?_ ?_ ?_ ?_
    (P := fun v => ∃ (i : Nat) (t : Tok), i < 4 ∧ v = .int (0 + i) t) (S := fun vs => IntsAre vs ((List.range 4).map fun (i : Nat) => (0 : Int) + (i : Int)))
  · exact rangeE (n := 4) F.W fun r s' t' v' ev hr => ⟨ev, Src.range hA.handled (F.evo ev).W hr (by decide) (by decide) (by decide)⟩
  · rintro C v s₃ m₃ E' ⟨i, ti, hi, rfl⟩ hn hm F₃
    exact no_tests rfl rfl
  · rintro C v s₃ m₃ E' ⟨i, ti, hi, rfl⟩ _ hn hm F₃
    rw [Int.zero_add] at hm ⊢
    refine wpAny_BinOp ?_
    refine Subscript_ ?_
    refine nmC F₃ rfl rfl hp ?_
    refine nmN (hn : _) hm ?_
    obtain ⟨z, tz, ez, fz⟩ := ip.get (i := i) (by simp [pullsF, all4]; omega)
    rw [pullsF_get hi] at fz
    refine itemL (F₃.ls _ hpl) (by omega) (by omega) (v := .float z tz) (by rw [Int.toNat_natCast, ← ez]; simp) ?_
    refine callF 10 F₃.W (fun _ _ n => n.pull) (fun _ W => W.pull) (by decide) ?_
    refine wpAny_items_cons ?_
    refine nmC F₃ rfl rfl ho ?_
    refine wpAny_items_cons ?_
    refine nmN (hn : _) hm ?_
    refine wpAny_items_nil ⟨.refl _ _, ?_⟩
    refine pull_call F₃.W (hA.lo.mono (by decide)) (us := os.toList) (F₃.ls _ hol) io hi fun s₄ y ty ev₄ fy => ?_
    refine AutoFloatOps.sub_0 ⟨?_, ev₄.trans (Evo.kp fun _ _ e => e)⟩
    intro k' t' e
    cases e
    refine ⟨_, _, rfl, ?_⟩
    show Fl _ (256 * (pullF R ((i : Int).toNat) - pullF O ((i : Int).toNat)))
    rw [Int.toNat_natCast, Int.mul_sub]
    exact fz.sub fy (by have := pullF_small R i; have := pullF_small O i; omega)
  intro s₁ D₁ y₁ vs F₁ _ hS hP
  have h1 : FlsAre y₁.toList (all4.map fun k => pullF R k.toNat - pullF O k.toNat) := pairFls (all4_ints hS) hP
  have z1 : y₁.size = 4 := by have := h1.length; simpa [all4] using this
  clear hS hP
  refine wpAny_List ?_
  refine wpAny_items_cons ?_
  refine wpAny_BinOp ?_
  obtain ⟨a, ta, ea, fa⟩ := ih.get (i := 0) (show (0 : Nat) < 2 by decide)
  obtain ⟨b, tb, eb, fb⟩ := ih.get (i := 1) (show (1 : Nat) < 2 by decide)
  replace fa : Fl a (256 * (R.length : Int)) := fa
  replace fb : Fl b (256 * (O.length : Int)) := fb
  refine Subscript_ ?_
  refine nmL F₁ hh ?_
  refine wpAny_Constant_int ?_
  refine itemL ((F₁.tok _).ls (Dh, hs) (by simp [hhl])) (by decide) (by decide) (v := .float a ta) (by simpa using ea) ?_
  refine Subscript_ ?_
  refine nmL (F₁.tok _) hh ?_
  refine wpAny_Constant_int ?_
  have F₂ := F₁.tok (s₁.toks + 1 + 1)
  refine itemL (F₂.ls (Dh, hs) (by simp [hhl])) (by decide) (by decide) (v := .float b tb) (by simpa using eb) ?_
  refine AutoFloatOps.sub_0 ?_
  refine wpAny_items_nil ⟨(show (1 : Nat) ≤ sizeLine by decide), ?_⟩
  have fab : Fl (Float64.sub a b) (256 * ((R.length : Int) - (O.length : Int))) := by
    rw [Int.mul_sub]; exact fa.sub fb (by omega)
  have F₃ := F₁.evo (e2 s₁ { cls := .type "list", data := .seq [Value.float (Float64.sub a b) (s₁.toks + 1 + 1)].toArray } (s₁.toks + 1 + 1 + 1))
  refine addL (xs := y₁) (ys := #[.float (Float64.sub a b) (s₁.toks + 1 + 1)]) (F₃.ls (D₁, y₁) (by simp)) ⟨_, Heap.get?_push_size _ rfl, rfl, _, rfl⟩ (show y₁.size + 1 ≤ sizeLine by rw [z1]; decide) ?_
  have h3 : FlsAre (y₁ ++ #[Value.float (Float64.sub a b) (s₁.toks + 1 + 1)]).toList (stepsF R O) := by
    rw [Array.toList_append]; exact FlsAre.append h1 (.cons ⟨_, _, rfl, fab⟩ .nil)
  generalize hz3 : y₁ ++ #[Value.float (Float64.sub a b) (s₁.toks + 1 + 1)] = t3 at h3 ⊢
  have F₄ := (F₃.evo (e2 _ { cls := .type "list", data := .seq t3 } (s₁.toks + 1 + 1 + 1))).add (a := (s₁.heap.push { cls := .type "list", data := .seq [Value.float (Float64.sub a b) (s₁.toks + 1 + 1)].toArray }).objs.size) (items := t3) ⟨_, Heap.get?_push_size _ rfl, rfl, _, rfl⟩
  refine storeL F₄ fun s₅ hs₅ F₅ _ => ?_
  generalize (s₁.heap.push { cls := .type "list", data := .seq [Value.float (Float64.sub a b) (s₁.toks + 1 + 1)].toArray }).objs.size = Ds at F₄ F₅
  clear F₄ F₃ hs₅
  have zst : (stepsF R O).length = 5 := by simp [stepsF, all4]
  have z3 : t3.size = 5 := by have := h3.length; rwa [zst, Array.length_toList] at this
  refine wpAny_execs_cons ?_
  refine wpAny_Assign_Name ?_
  refine lc2V (n := 33) (a := -16) (b := 17) (ax := Ds) (items := t3) F₅ hA.handled (by simp) (by omega) (by decide) (by decide) (by decide) atF (fun _ k z => ∃ u, z = .int k u) (by with_unfolding_all rfl) (by decide) rfl (by decide) rfl rfl (by decide) (fun Q h => nmL F₅ rfl h) ?_ ?_ ?_ ?_
  · intro C v s₆ m₆ E' hv hn hm F₆
    refine callT F₆.W (by decide) bi_range ?_
    refine wpAny_items_cons ?_
    refine wpAny_UnaryOp ?_
    refine wpAny_Constant_int ?_
    refine neg_int ?_
    refine wpAny_items_cons ?_
    refine wpAny_Constant_int ?_
    refine wpAny_items_nil ?_
    refine range2 fun r s' v' ev hr => ⟨(Evo.kp (tk := s₆.toks + 1 + 1 + 1) fun _ _ e => e).trans ev, r, _, _, _, rfl, hr⟩
  · intro C v k t s₆ m₆ E' hv hn hm hm2 F₆
    obtain ⟨z, tz, rfl⟩ := h3.mem v hv
    refine wpAny_tests_one ?_
    refine wpAny_isTrue_Compare1 ?_
    refine nmN (hn : _) hm2 ?_
    refine nmN (hn : _) hm ?_
    refine eq_if ?_
    exact wpAny_truthy_bool ⟨rfl, .refl _ _⟩
  · intro C v k t s₆ m₆ E' hv _ hn hm hm2 F₆
    exact nmN (hn : _) hm2 ⟨⟨t, rfl⟩, .refl _ _⟩
  intro s₆ Dv y₆ zss F₆ _ hP hfl
  have h6 : IntsAre y₆.toList (stepsF R O) := by rw [hfl]; exact whole_ints h3 hd hP
  clear hP hfl
  have z6 : y₆.toList.length = 5 := by rw [h6.length, zst]
  refine storeC F₆ rfl rfl fun s₇ hs₇ F₇ _ => ?_
  refine wpAny_execs_cons ?_
  refine wpAny_If ?_
  refine wpAny_isTrue_Compare1 ?_
  refine callB F₇.W (by decide) bi_len ?_
  refine wpAny_items_cons ?_
  refine nmC F₇ rfl rfl rfl ?_
  refine wpAny_items_nil ?_
  refine lenL (vs := y₆.toList) (F₇.ls (Dv, y₆) (by simp)) (by omega) ?_
  refine wpAny_Constant_int ?_
  refine ne_int ?_
  refine wpAny_truthy_bool ?_
  rw [if_neg (by rw [z6]; decide)]
  refine wpAny_execs_nil ?_
  have F₈ := F₇.tok (s₇.toks + 1 + 1 + 1)
  refine wpAny_execs_cons ?_
  refine wpAny_Assign_Name ?_
  refine wpAny_BinOp ?_
  refine callB F₈.W (by decide) bi_sum ?_
  refine wpAny_items_cons ?_
  refine lcV (intP fun _ => true) (intF fun k => wi.getD k.toNat 0 * (stepsF R O).getD k.toNat 0) F₈ (by with_unfolding_all rfl) (by decide) rfl (by decide) rfl ?_ ?_ ?_ ?_
    (P := fun v => ∃ (i : Nat) (t : Tok), i < 4 ∧ v = .int (0 + i) t) (S := fun vs => IntsAre vs ((List.range 4).map fun (i : Nat) => (0 : Int) + (i : Int)))
  · exact rangeE (n := 4) F₈.W fun r s' t' v' ev hr => ⟨ev, Src.range hA.handled (F₈.evo ev).W hr (by decide) (by decide) (by decide)⟩
  · rintro C v s₉ m₉ E' ⟨i, ti, hi, rfl⟩ hn hm F₉
    exact no_tests rfl rfl
  · rintro C v s₉ m₉ E' ⟨i, ti, hi, rfl⟩ _ hn hm F₉
    rw [Int.zero_add] at hm ⊢
    refine wpAny_BinOp ?_
    refine Subscript_ ?_
    refine nmC F₉ rfl rfl hw ?_
    refine nmN (hn : _) hm ?_
    obtain ⟨tw, ew⟩ := intsGet iw (i := i) (by omega)
    refine itemL (F₉.ls (Dw, ws) (by simp [hwl])) (by omega) (by omega) (v := .int (wi.getD i 0) tw) (by rw [Int.toNat_natCast, ← ew]; simp) ?_
    refine Subscript_ ?_
    refine nmC F₉ rfl rfl rfl ?_
    refine nmN (hn : _) hm ?_
    obtain ⟨tv, ev⟩ := intsGet h6 (i := i) (by omega)
    have bd : -16 ≤ (stepsF R O).getD i 0 ∧ (stepsF R O).getD i 0 ≤ 16 := by
      refine hd _ ?_
      rw [List.getD_eq_getElem?_getD, List.getElem?_eq_getElem (by omega)]
      exact List.getElem_mem ..
    refine itemL (F₉.ls (Dv, y₆) (by simp)) (by omega) (by omega) (v := .int ((stepsF R O).getD i 0) tv) (by rw [Int.toNat_natCast, ← ev]; simp) ?_
    refine mul_int ⟨intF_mk (by rw [Int.toNat_natCast]), Evo.kp fun _ _ e => e⟩ (.of_right (intBits_le_64 (by omega) (by omega)))
  intro s₉ D₉ y₉ vs F₉ _ hS hP
  have h9 : IntsAre y₉.toList (all4.map fun k => wi.getD k.toNat 0 * (stepsF R O).getD k.toNat 0) := pairAll (all4_ints hS) hP
  clear hS hP
  refine wpAny_items_nil ?_
  refine sumL (vs := y₉.toList) hA.handled (F₉.ls (D₉, y₉) (by simp)) h9 fun s₁₀ t₁₀ ev₁₀ => ?_
  have F₁₀ := F₉.evo ev₁₀
  refine wpAny_BinOp ?_
  refine wpAny_BinOp ?_
  refine callB F₁₀.W (by decide) bi_sum ?_
  refine wpAny_items_cons ?_
  refine nmC F₁₀ rfl rfl hw ?_
  refine wpAny_items_nil ?_
  refine sumL (vs := ws.toList) hA.handled (F₁₀.ls (Dw, ws) (by simp [hwl])) iw fun s₁₁ t₁₁ ev₁₁ => ?_
  have F₁₁ := F₁₀.evo ev₁₁
  refine wpAny_BinOp ?_
  refine wpAny_Constant_int ?_
  refine nmC (F₁₁.tok _) rfl rfl hq ?_
  refine mul_int ?_ (.of_left (intBits_le_64 (by decide) (by decide)))
  refine sub_int ?_
  have F₁₂ := F₁₁.tok (s₁₁.toks + 1 + 1 + 1)
  refine Subscript_ ?_
  refine nmC F₁₂ rfl rfl rfl ?_
  refine wpAny_Constant_int ?_
  have F₁₃ := F₁₁.tok (s₁₁.toks + 1 + 1 + 1 + 1)
  obtain ⟨t4, e4⟩ := intsGet h6 (i := 4) (by omega)
  have bd4 : -16 ≤ (stepsF R O).getD 4 0 ∧ (stepsF R O).getD 4 0 ≤ 16 := by
    refine hd _ ?_
    rw [List.getD_eq_getElem?_getD, List.getElem?_eq_getElem (by omega)]
    exact List.getElem_mem ..
  refine itemL (F₁₃.ls (Dv, y₆) (by simp)) (by decide) (by decide) (v := .int ((stepsF R O).getD 4 0) t4) (by simpa using e4) ?_
  refine mul_int ?_ (.of_right (intBits_le_64 (by omega) (by omega)))
  refine add_int ?_
  have F₁₄ := F₁₁.tok (s₁₁.toks + 1 + 1 + 1 + 1 + 1 + 1)
  refine storeL F₁₄ fun s₁₅ hs₁₅ F₁₅ _ => ?_
  refine wpAny_execs_cons ?_
  refine wpAny_Return_some ?_
  refine wpAny_Compare1 ?_
  refine nmL F₁₅ rfl ?_
  refine wpAny_BinOp ?_
  refine wpAny_Constant_int ?_
  have F₁₆ := F₁₅.tok (s₁₅.toks + 1)
  refine wpAny_BinOp ?_
  refine callB F₁₆.W (by decide) bi_sum ?_
  refine wpAny_items_cons ?_
  refine lcV (intP fun _ => true) (intF fun k => worthF wi k - q) F₁₆ (by with_unfolding_all rfl) (by decide) rfl (by decide) rfl ?_ ?_ ?_ ?_
    (P := fun v => ∃ k t, v = .int k t ∧ k ∈ G) (S := fun vs => IntsAre vs G)
  · exact nmL F₁₆ hg ⟨.refl _ _, srcInts hA.handled F₁₆ (D := Dg) (ys := gs) (by simp [hgl]) ig (by omega)⟩
  · rintro C v s₃ m₃ E' ⟨i, ti, rfl, _⟩ hn hm F₃
    exact no_tests rfl rfl
  · rintro C v s₃ m₃ E' ⟨i, ti, rfl, hi⟩ _ hn' hm F₃
    obtain ⟨b1, b2⟩ := bG i hi
    obtain ⟨j, hj, rfl⟩ : ∃ j : Nat, j < 16 ∧ i = (j : Int) := ⟨i.toNat, by omega, by omega⟩
    refine wpAny_BinOp ?_
    refine Subscript_ ?_
    refine nmC F₃ rfl rfl hn ?_
    refine nmN (hn' : _) hm ?_
    obtain ⟨tw, ew⟩ := intsGet inn (i := j) (by simp [worthsF, all16]; omega)
    rw [show (worthsF wi).getD j 0 = worthF wi j from map16_get hj] at ew
    refine itemL (F₃.ls (Dn, ns) (by simp [hnl])) (by omega) (by omega) (v := .int (worthF wi j) tw) (by rw [Int.toNat_natCast, ← ew]; simp) ?_
    refine nmC F₃ rfl rfl hq ?_
    exact sub_int ⟨intF_mk rfl, Evo.kp fun _ _ e => e⟩
  intro s₁₇ D₁₇ y₁₇ vs F₁₇ _ hS hP
  have h17 : IntsAre y₁₇.toList (G.map fun k => worthF wi k - q) := pairAll hS hP
  clear hS hP
  refine wpAny_items_nil ?_
  refine sumL (vs := y₁₇.toList) hA.handled (F₁₇.ls (D₁₇, y₁₇) (by simp)) h17 fun s₁₈ t₁₈ ev₁₈ => ?_
  have F₁₈ := F₁₇.evo ev₁₈
  refine callB F₁₈.W (by decide) bi_sum ?_
  refine wpAny_items_cons ?_
  refine lcV (intP fun _ => true) (intF fun k => q - worthF wi k) F₁₈ (by with_unfolding_all rfl) (by decide) rfl (by decide) rfl ?_ ?_ ?_ ?_
    (P := fun v => ∃ k t, v = .int k t ∧ k ∈ K) (S := fun vs => IntsAre vs K)
  · exact nmL F₁₈ he ⟨.refl _ _, srcInts hA.handled F₁₈ (D := De) (ys := es) (by simp [hel]) ie (by omega)⟩
  · rintro C v s₃ m₃ E' ⟨i, ti, rfl, _⟩ hn hm F₃
    exact no_tests rfl rfl
  · rintro C v s₃ m₃ E' ⟨i, ti, rfl, hi⟩ _ hn' hm F₃
    obtain ⟨b1, b2⟩ := bK i hi
    obtain ⟨j, hj, rfl⟩ : ∃ j : Nat, j < 16 ∧ i = (j : Int) := ⟨i.toNat, by omega, by omega⟩
    refine wpAny_BinOp ?_
    refine nmC F₃ rfl rfl hq ?_
    refine Subscript_ ?_
    refine nmC F₃ rfl rfl hn ?_
    refine nmN (hn' : _) hm ?_
    obtain ⟨tw, ew⟩ := intsGet inn (i := j) (by simp [worthsF, all16]; omega)
    rw [show (worthsF wi).getD j 0 = worthF wi j from map16_get hj] at ew
    refine itemL (F₃.ls (Dn, ns) (by simp [hnl])) (by omega) (by omega) (v := .int (worthF wi j) tw) (by rw [Int.toNat_natCast, ← ew]; simp) ?_
    exact sub_int ⟨intF_mk rfl, Evo.kp fun _ _ e => e⟩
  intro s₁₉ D₁₉ y₁₉ vs F₁₉ _ hS hP
  have h19 : IntsAre y₁₉.toList (K.map fun k => q - worthF wi k) := pairAll hS hP
  clear hS hP
  refine wpAny_items_nil ?_
  refine sumL (vs := y₁₉.toList) hA.handled (F₁₉.ls (D₁₉, y₁₉) (by simp)) h19 fun s₂₀ t₂₀ ev₂₀ => ?_
  have F₂₀ := F₁₉.evo ev₂₀
  refine add_int ?_
  refine mul_int ?_ (.of_left (intBits_le_64 (by decide) (by decide)))
  refine eq_int ?_
  rw [ok, beq_self_eq_true]
  exact k _ (F₂₀.ev.trans (Evo.kp fun _ _ e => e))
end
end Mine
end

section
open PySem PySem.W PyProof.Rows PySem.SeqAt
set_option Elab.async false
set_option maxRecDepth 100000
namespace Mine

/-- what the plain law says -/
structure Plain (wi : List Int) (q c5 : Int) (R T O G K : List Int) : Prop where
  loop : LoopOk R wi
  cR : cntF R = R.length
  cO : cntF O = O.length
  zR : R.length ≤ 16
  zO : O.length ≤ 16
  cov : 15 * (960 * (16 * ((bothF R O).length : Int) - (R.length : Int) * (O.length : Int))) = preSum (covP (marksF R) (marksF O)) 16
  sld : ∀ ms us, Sld (manyF 3 R ++ [16, 16, 16]) (manyF 4 O ++ [16, 16, 16, 16]) ms us → ms = G ∧ us = K
  bG : ∀ k ∈ G, 0 ≤ k ∧ k < 16
  bK : ∀ k ∈ K, 0 ≤ k ∧ k < 16
  lG : G.length ≤ 16
  lK : K.length ≤ 16
  hd : ∀ d ∈ stepsF R O, -16 ≤ d ∧ d ≤ 16
  ok : (all4.map fun k => wi.getD k.toNat 0 * (stepsF R O).getD k.toNat 0).sum + (wi.sum - 2 * q) * (stepsF R O).getD 4 0 = 2 * ((G.map fun k => worthF wi k - q).sum + (K.map fun k => q - worthF wi k).sum)

section
variable {w : World} {A : Around} {E : Value → Shared → Prop} {s s' s₀ : Shared} {m cm : Str → Option Value} {Γ : List (Addr × Array Value)}

theorem law_all {asc : Addr} {us : List Value} {sc : List Int} {Q : Flow → Shared → Prop}
    (plain : ∀ (wi : List Int) (q c5 : Int), wi.length = 4 → Plain wi q c5 (ruleF wi q) (turnF c5) (otherF (ruleF wi q) (turnF c5)) (goneF (ruleF wi q) (turnF c5)) (comeF (ruleF wi q) (turnF c5)))
    (hA : Air A) (hfr : A.frames = some [lE s₀]) (F : LF s₀ m cm Γ s) (h1 : cm "script" = some (.ref asc)) (hl : (asc, us.toArray) ∈ Γ) (iu : IntsAre us sc) (zs : sc.length ≤ 63)
    (k : ∀ s', Evo s₀ s' → Q (.ret (.bool true)) s') : wpAny (model prg w) A (execs (lawB 0) (lE s₀)) Q E s := by
  refine law1 hA.handled F h1 hl iu zs ?_
  intro s₁ m₁ cm₁ Γ₁ Dc cv ci Dw ws wi q t F₁ hc hcl ic zc hw hwl iw zw hq
  refine law2 hA F₁ hw hwl iw zw hq ?_
  intro s₂ cm₂ Γ₂ Dn ns F₂ e₂ sub₂ hn hnl inn hsg
  obtain ⟨Dg, gs, hg, hgl, ig⟩ := hsg
  refine law3 (q := q) (Dn := Dn) (ns := ns) hA F₂ hg hgl ig ?_
  intro s₃ cm₃ Γ₃ Dr rs Dp ps F₃ e₃ sub₃ hr hrl ir hp hpl ip
  have pl := plain wi q (ci.getD 5 0) zw
  have hw₃ : cm₃ "weights" = some (.ref Dw) := (e₃ _ (by decide)).trans ((e₂ _ (by decide)).trans hw)
  have hc₃ : cm₃ "cells" = some (.ref Dc) := (e₃ _ (by decide)).trans ((e₂ _ (by decide)).trans hc)
  have hq₃ : cm₃ "quota" = some (.int q t) := (e₃ _ (by decide)).trans ((e₂ _ (by decide)).trans hq)
  have hn₃ : cm₃ "worths" = some (.ref Dn) := (e₃ _ (by decide)).trans hn
  have hwl₃ := sub₃ _ (sub₂ _ hwl)
  have hcl₃ := sub₃ _ (sub₂ _ hcl)
  have hnl₃ := sub₃ _ hnl
  refine law4 (q := 0) (tq' := 0) (envL := 0) hA hfr F₃ hr hrl ir pl.zR hp hpl ip hw₃ hwl₃ iw zw pl.loop ?_
  intro s₄ m₄ F₄
  refine law5 hA F₄ hc₃ hcl₃ ic zc hr hrl ir ?_
  intro s₅ m₅ cm₅ Γ₅ Dg₅ gs₅ De es Do os F₅ e₅ sub₅ hg₅ hgl₅ ig₅ he hel ie ho hol io
  have hr₅ : cm₅ "rule" = some (.ref Dr) := (e₅ _ (by decide)).trans hr
  have hp₅ : cm₅ "pulls" = some (.ref Dp) := (e₅ _ (by decide)).trans hp
  have hw₅ : cm₅ "weights" = some (.ref Dw) := (e₅ _ (by decide)).trans hw₃
  have hq₅ : cm₅ "quota" = some (.int q t) := (e₅ _ (by decide)).trans hq₃
  have hn₅ : cm₅ "worths" = some (.ref Dn) := (e₅ _ (by decide)).trans hn₃
  refine law6 hA F₅ hr₅ (sub₅ _ hrl) ir pl.zR pl.cR ho hol io pl.zO pl.cO ?_
  intro s₆ m₆ Γ₆ Ds ss F₆ e₆ sub₆ hs hsl is
  have hg₆ : m₆ "gone" = some (.ref Dg₅) := (e₆ _ (by decide)).trans hg₅
  have he₆ : m₆ "come" = some (.ref De) := (e₆ _ (by decide)).trans he
  refine law7 hA F₆ hr₅ (sub₆ _ (sub₅ _ hrl)) ir pl.zR ho (sub₆ _ hol) io pl.zO pl.cov ?_
  intro s₇ m₇ F₇ e₇
  have hg₇ : m₇ "gone" = some (.ref Dg₅) := (e₇ _ (by decide)).trans hg₆
  have he₇ : m₇ "come" = some (.ref De) := (e₇ _ (by decide)).trans he₆
  have hs₇ : m₇ "shares" = some (.ref Ds) := (e₇ _ (by decide)).trans hs
  -- the ledger of stage seven is the old one
  refine law8 hA hfr F₇ hr₅ (sub₆ _ (sub₅ _ hrl)) ir pl.zR ho (sub₆ _ hol) io pl.zO hg₇ (sub₆ _ hgl₅) ig₅ he₇ (sub₆ _ hel) ie pl.sld ?_
  intro s₈ m₈ F₈ e₈
  have hg₈ : m₈ "gone" = some (.ref Dg₅) := (e₈ _ (by decide)).trans hg₇
  have he₈ : m₈ "come" = some (.ref De) := (e₈ _ (by decide)).trans he₇
  have hs₈ : m₈ "shares" = some (.ref Ds) := (e₈ _ (by decide)).trans hs₇
  exact law9 hA F₈ hp₅ (sub₆ _ (sub₅ _ hpl)) ip ho (sub₆ _ hol) io hs₈ hsl is pl.zR pl.zO hw₅ (sub₆ _ (sub₅ _ hwl₃)) iw zw hq₅ hn₅ (sub₆ _ (sub₅ _ hnl₃)) inn hg₈ (sub₆ _ hgl₅) ig₅ he₈ (sub₆ _ hel) ie pl.bG pl.bK pl.lG pl.lK pl.hd pl.ok k
end
end Mine
end

section
open PySem PySem.W PyProof.Rows PySem.SeqAt
set_option Elab.async false
set_option maxRecDepth 100000
namespace Mine

/-- the sum over all sets -/
def S (f : Int → Int) : Int := (all16.map f).sum
theorem sum_congr {f g : Int → Int} : ∀ {l : List Int}, (∀ k ∈ l, f k = g k) → (l.map f).sum = (l.map g).sum
  | [], _ => rfl
  | a :: r, h => by
    rw [List.map_cons, List.map_cons, List.sum_cons, List.sum_cons, h a (List.mem_cons_self ..), sum_congr fun k hk => h k (List.mem_cons_of_mem _ hk)]
theorem S_congr {f g : Int → Int} (h : ∀ k ∈ all16, f k = g k) : S f = S g := sum_congr h
theorem sum_add (f g : Int → Int) : ∀ l : List Int, (l.map fun k => f k + g k).sum = (l.map f).sum + (l.map g).sum
  | [] => rfl
  | a :: r => by simp only [List.map_cons, List.sum_cons]; rw [sum_add f g r]; omega
theorem sum_mul (c : Int) (f : Int → Int) : ∀ l : List Int, (l.map fun k => c * f k).sum = c * (l.map f).sum
  | [] => by simp
  | a :: r => by simp only [List.map_cons, List.sum_cons]; rw [sum_mul c f r, Int.mul_add]
theorem S_add (f g : Int → Int) : S (fun k => f k + g k) = S f + S g := sum_add f g _
theorem S_mul (c : Int) (f : Int → Int) : S (fun k => c * f k) = c * S f := sum_mul c f _
theorem sum_filter (p : Int → Bool) (f : Int → Int) : ∀ l : List Int, ((l.filter p).map f).sum = (l.map fun k => if p k then f k else 0).sum
  | [] => rfl
  | a :: r => by
    rw [List.filter_cons]
    by_cases h : p a = true
    · rw [if_pos h, List.map_cons, List.map_cons, List.sum_cons, List.sum_cons, sum_filter p f r, if_pos h]
    · rw [if_neg h, List.map_cons, List.sum_cons, sum_filter p f r, if_neg h, Int.zero_add]
theorem S_filter (p : Int → Bool) (f : Int → Int) : ((all16.filter p).map f).sum = S fun k => if p k then f k else 0 := sum_filter p f _
theorem len_sum : ∀ l : List Int, (l.length : Int) = (l.map fun _ => (1 : Int)).sum
  | [] => rfl
  | a :: r => by rw [List.length_cons, List.map_cons, List.sum_cons, ← len_sum r]; omega
theorem S_len (p : Int → Bool) : ((all16.filter p).length : Int) = S fun k => if p k then 1 else 0 := by
  rw [len_sum, S_filter]
theorem mem_all16 {k : Int} : k ∈ all16 ↔ 0 ≤ k ∧ k < 16 := by
  unfold all16
  rw [List.mem_map]
  constructor
  · rintro ⟨i, hi, rfl⟩
    have := List.mem_range.mp hi
    omega
  · rintro ⟨h1, h2⟩
    exact ⟨k.toNat, List.mem_range.mpr (by omega), by omega⟩
theorem inW_mem {l : List Int} {k : Int} : inW l k = true ↔ k ∈ l := by
  unfold inW
  rw [List.any_eq_true]
  constructor
  · rintro ⟨x, h1, h2⟩
    rwa [← beq_iff_eq.mp h2]
  · intro h; exact ⟨k, h, by simp⟩
theorem inW_filter {p : Int → Bool} {k : Int} (h : k ∈ all16) : inW (all16.filter p) k = p k := by
  rw [Bool.eq_iff_iff, inW_mem, List.mem_filter]
  exact ⟨fun x => x.2, fun x => ⟨h, x⟩⟩
theorem range_all (f : Int → Int) : ((List.range 16).map fun (i : Nat) => f (i : Int)).sum = S f := by
  unfold S all16
  rw [List.map_map]; rfl

/-- the sign of a place in a set -/
def sgn1 (k : Int) (b : Nat) : Int := if bit k b then 1 else -1
theorem pull_S (p : Int → Bool) (b : Nat) : pullF (all16.filter p) b = S fun k => if p k then sgn1 k b else 0 := by
  unfold pullF
  rw [range_all (fun k => if inW (all16.filter p) k then (if bit k b then 1 else -1) else 0)]
  refine S_congr fun k hk => ?_
  rw [inW_filter hk]; rfl
theorem cnt_S (p : Int → Bool) : cntF (all16.filter p) = ((all16.filter p).length : Int) := by
  unfold cntF
  rw [range_all (fun k => if inW (all16.filter p) k then 1 else 0), S_len]
  refine S_congr fun k hk => ?_
  rw [inW_filter hk]

theorem worth4 (wi : List Int) (k : Int) : worthF wi k = (if bit k 0 then wi.getD 0 0 else 0) + (if bit k 1 then wi.getD 1 0 else 0) + (if bit k 2 then wi.getD 2 0 else 0) + (if bit k 3 then wi.getD 3 0 else 0) := by
  unfold worthF
  simp only [List.filter_cons, List.filter_nil]
  rw [show (0 : Int).toNat = 0 from rfl, show (1 : Int).toNat = 1 from rfl, show (2 : Int).toNat = 2 from rfl, show (3 : Int).toNat = 3 from rfl]
  cases bit k 0 <;> cases bit k 1 <;> cases bit k 2 <;> cases bit k 3 <;> simp <;> omega

theorem S_sub (f g : Int → Int) : S (fun k => f k - g k) = S f - S g := by
  have h := S_add (fun k => f k - g k) g
  have e : S (fun k => f k - g k + g k) = S f := S_congr fun k _ => by omega
  omega
theorem comb5 (w0 w1 w2 w3 c : Int) (f0 g0 f1 g1 f2 g2 f3 g3 fl gl : Int → Int) :
    w0 * (S f0 - S g0) + w1 * (S f1 - S g1) + w2 * (S f2 - S g2) + w3 * (S f3 - S g3) + c * (S fl - S gl) =
      S fun k => w0 * (f0 k - g0 k) + w1 * (f1 k - g1 k) + w2 * (f2 k - g2 k) + w3 * (f3 k - g3 k) + c * (fl k - gl k) := by
  rw [← S_sub, ← S_sub, ← S_sub, ← S_sub, ← S_sub, ← S_mul, ← S_mul, ← S_mul, ← S_mul, ← S_mul, ← S_add, ← S_add, ← S_add, ← S_add]
theorem comb2 (f g : Int → Int) : 2 * (S f + S g) = S fun k => 2 * (f k + g k) := by
  rw [← S_add, ← S_mul]

/-- Chow -/
theorem chow (wi : List Int) (q : Int) (hw : wi.length = 4) (p t : Int → Bool) :
    (all4.map fun k => wi.getD k.toNat 0 * (stepsF (all16.filter p) (all16.filter fun k => p k != t k)).getD k.toNat 0).sum + (wi.sum - 2 * q) * (stepsF (all16.filter p) (all16.filter fun k => p k != t k)).getD 4 0 =
      2 * (((all16.filter fun k => t k && p k).map fun k => worthF wi k - q).sum + ((all16.filter fun k => t k && !p k).map fun k => q - worthF wi k).sum) := by
  have hsum : wi.sum = wi.getD 0 0 + wi.getD 1 0 + wi.getD 2 0 + wi.getD 3 0 := by
    match wi, hw with
    | [a, b, c, d], _ => simp; omega
  have e : ∀ R O, (all4.map fun k => wi.getD k.toNat 0 * (stepsF R O).getD k.toNat 0).sum + (wi.sum - 2 * q) * (stepsF R O).getD 4 0 =
      wi.getD 0 0 * (pullF R 0 - pullF O 0) + wi.getD 1 0 * (pullF R 1 - pullF O 1) + wi.getD 2 0 * (pullF R 2 - pullF O 2) + wi.getD 3 0 * (pullF R 3 - pullF O 3) + (wi.sum - 2 * q) * ((R.length : Int) - (O.length : Int)) := by
    intro R O
    show wi.getD 0 0 * (pullF R 0 - pullF O 0) + (wi.getD 1 0 * (pullF R 1 - pullF O 1) + (wi.getD 2 0 * (pullF R 2 - pullF O 2) + (wi.getD 3 0 * (pullF R 3 - pullF O 3) + 0))) + (wi.sum - 2 * q) * ((R.length : Int) - (O.length : Int)) = _
    omega
  rw [e, hsum, pull_S, pull_S, pull_S, pull_S, pull_S, pull_S, pull_S, pull_S, S_len, S_len, S_filter, S_filter]
  rw [comb5, comb2]
  refine S_congr fun k _ => ?_
  rw [worth4]
  generalize wi.getD 0 0 = w0
  generalize wi.getD 1 0 = w1
  generalize wi.getD 2 0 = w2
  generalize wi.getD 3 0 = w3
  unfold sgn1
  cases p k <;> cases t k <;> cases bit k 0 <;> cases bit k 1 <;> cases bit k 2 <;> cases bit k 3 <;> simp <;> omega
end Mine
end

section
open PySem PySem.W PyProof.Rows PySem.SeqAt
set_option Elab.async false
set_option maxRecDepth 100000
namespace Mine

theorem dw_gt {e : Int} : ∀ {xs : List Int}, (∀ x ∈ xs, e < x) → xs.dropWhile (· == e) = xs
  | [], _ => rfl
  | a :: r, h => by
    have : (a == e) = false := beq_eq_false_iff_ne.mpr (by have := h a (List.mem_cons_self ..); omega)
    rw [List.dropWhile_cons, this]; rfl
theorem inW_cons (a : Int) (l : List Int) (k : Int) : inW (a :: l) k = (a == k || inW l k) := by unfold inW; rw [List.any_cons]
theorem filt_ne {e : Int} {ys : List Int} {xs : List Int} (h : ∀ k ∈ xs, e ≠ k) : xs.filter (fun k => !inW (e :: ys) k) = xs.filter (fun k => !inW ys k) := by
  refine List.filter_congr fun k hk => ?_
  rw [inW_cons, beq_eq_false_iff_ne.mpr (h k hk), Bool.false_or]
theorem notIn_all {e : Int} {ys : List Int} (h : ∀ k ∈ ys, e ≠ k) : inW ys e = false := by
  rw [Bool.eq_false_iff]
  intro q
  exact h e (inW_mem.mp q) rfl

theorem sld_strict {xs ys ms us : List Int} (h : Sld xs ys ms us) : xs.Pairwise (· < ·) → ys.Pairwise (· < ·) → ms = xs.filter (fun k => !inW ys k) ∧ us = ys.filter (fun k => !inW xs k) := by
  induction h with
  | done_l ys => intro _ _; exact ⟨rfl, (List.filter_eq_self.mpr fun _ _ => rfl).symm⟩
  | done_r xs => intro _ _; exact ⟨(List.filter_eq_self.mpr fun _ _ => rfl).symm, rfl⟩
  | @lt e a xs ys ms us hlt _ ih =>
    intro hx hy
    obtain ⟨hx1, hx2⟩ := List.pairwise_cons.mp hx
    obtain ⟨hy1, hy2⟩ := List.pairwise_cons.mp hy
    rw [dw_gt hx1] at ih
    obtain ⟨e1, e2⟩ := ih hx2 hy
    have ne : ∀ k ∈ a :: ys, e ≠ k := fun k hk => by
      rcases List.mem_cons.mp hk with rfl | hk
      · omega
      · have := hy1 k hk; omega
    refine ⟨?_, ?_⟩
    · rw [List.filter_cons, notIn_all ne, e1]; rfl
    · rw [e2, filt_ne ne]
  | @gt e a xs ys ms us hlt _ ih =>
    intro hx hy
    obtain ⟨hx1, hx2⟩ := List.pairwise_cons.mp hx
    obtain ⟨hy1, hy2⟩ := List.pairwise_cons.mp hy
    rw [dw_gt hy1] at ih
    obtain ⟨e1, e2⟩ := ih hx hy2
    have ne : ∀ k ∈ e :: xs, a ≠ k := fun k hk => by
      rcases List.mem_cons.mp hk with rfl | hk
      · omega
      · have := hx1 k hk; omega
    refine ⟨?_, ?_⟩
    · rw [e1, filt_ne ne]
    · rw [List.filter_cons, notIn_all ne, e2]; rfl
  | @eq e xs ys ms us _ ih =>
    intro hx hy
    obtain ⟨hx1, hx2⟩ := List.pairwise_cons.mp hx
    obtain ⟨hy1, hy2⟩ := List.pairwise_cons.mp hy
    rw [dw_gt hx1, dw_gt hy1] at ih
    obtain ⟨e1, e2⟩ := ih hx2 hy2
    have i1 : inW (e :: ys) e = true := inW_mem.mpr (List.mem_cons_self ..)
    have i2 : inW (e :: xs) e = true := inW_mem.mpr (List.mem_cons_self ..)
    refine ⟨?_, ?_⟩
    · rw [List.filter_cons, i1, e1, filt_ne fun k hk => by have := hx1 k hk; omega]; rfl
    · rw [List.filter_cons, i2, e2, filt_ne fun k hk => by have := hy1 k hk; omega]; rfl

/-- each so many times, 16 as often behind -/
def M (n : Nat) (R : List Int) : List Int := manyF n R ++ List.replicate n 16
theorem M_cons (n : Nat) (r : Int) (R : List Int) : M (n + 1) (r :: R) = r :: (List.replicate n r ++ M (n + 1) R) := by
  unfold M manyF
  rw [List.flatMap_cons, List.append_assoc, List.replicate_succ]; rfl
theorem M_nil (n : Nat) : M (n + 1) [] = 16 :: List.replicate n 16 := rfl
theorem dw_rep (n : Nat) (r : Int) (l : List Int) : (List.replicate n r ++ l).dropWhile (· == r) = l.dropWhile (· == r) := by
  induction n with
  | zero => rfl
  | succ n ih => rw [List.replicate_succ, List.cons_append, List.dropWhile_cons]; simpa using ih
theorem dw_M {n : Nat} {r : Int} {R : List Int} (h : ∀ x ∈ R, r < x) (h16 : r < 16) : (M (n + 1) R).dropWhile (· == r) = M (n + 1) R := by
  cases R with
  | nil => rw [M_nil, List.dropWhile_cons, show ((16 : Int) == r) = false from beq_eq_false_iff_ne.mpr (by omega)]; rfl
  | cons a l => rw [M_cons, List.dropWhile_cons, show (a == r) = false from beq_eq_false_iff_ne.mpr (by have := h a (List.mem_cons_self ..); omega)]; rfl
theorem dw_all (n : Nat) (r : Int) : (List.replicate n r).dropWhile (· == r) = [] := by
  have := dw_rep n r []
  simpa using this

theorem sldM (n m : Nat) : ∀ (z : Nat) (R O ms us : List Int), R.length + O.length = z → R.Pairwise (· < ·) → O.Pairwise (· < ·) → (∀ x ∈ R, x < 16) → (∀ x ∈ O, x < 16) →
    Sld (M (n + 1) R) (M (m + 1) O) ms us → ms = R.filter (fun k => !inW O k) ∧ us = O.filter (fun k => !inW R k) := by
  intro z
  induction z using Nat.strongRecOn with
  | ind z ih =>
    intro R O ms us hz hR hO bR bO h
    cases R with
    | nil =>
      cases O with
      | nil =>
        rw [M_nil, M_nil] at h
        cases h with
        | lt h1 _ => omega
        | gt h1 _ => omega
        | eq h1 =>
          rw [dw_all, dw_all] at h1
          cases h1 <;> exact ⟨rfl, rfl⟩
      | cons o O' =>
        obtain ⟨o1, o2⟩ := List.pairwise_cons.mp hO
        have b := bO o (List.mem_cons_self ..)
        rw [M_nil, M_cons] at h
        cases h with
        | lt h1 _ => omega
        | eq h1 => omega
        | gt h1 h2 =>
          rw [dw_rep, dw_M o1 b, ← M_nil] at h2
          obtain ⟨e1, e2⟩ := ih _ (by simp at hz ⊢; omega) [] O' _ _ rfl hR o2 bR (fun x hx => bO x (List.mem_cons_of_mem _ hx)) h2
          refine ⟨e1, ?_⟩
          rw [e2]; rfl
    | cons r R' =>
      obtain ⟨r1, r2⟩ := List.pairwise_cons.mp hR
      have br := bR r (List.mem_cons_self ..)
      cases O with
      | nil =>
        rw [M_nil, M_cons] at h
        cases h with
        | gt h1 _ => omega
        | eq h1 => omega
        | lt h1 h2 =>
          rw [dw_rep, dw_M r1 br, ← M_nil] at h2
          obtain ⟨e1, e2⟩ := ih _ (by simp at hz ⊢; omega) R' [] _ _ rfl r2 hO (fun x hx => bR x (List.mem_cons_of_mem _ hx)) bO h2
          refine ⟨?_, e2⟩
          rw [e1]; rfl
      | cons o O' =>
        obtain ⟨o1, o2⟩ := List.pairwise_cons.mp hO
        have bo := bO o (List.mem_cons_self ..)
        have bR' : ∀ x ∈ R', x < 16 := fun x hx => bR x (List.mem_cons_of_mem _ hx)
        have bO' : ∀ x ∈ O', x < 16 := fun x hx => bO x (List.mem_cons_of_mem _ hx)
        rw [M_cons, M_cons] at h
        cases h with
        | lt h1 h2 =>
          rw [dw_rep, dw_M r1 br, ← M_cons] at h2
          obtain ⟨e1, e2⟩ := ih _ (by simp at hz ⊢; omega) R' (o :: O') _ _ rfl r2 hO bR' bO h2
          have ne : ∀ k ∈ o :: O', r ≠ k := fun k hk => by
            rcases List.mem_cons.mp hk with rfl | hk
            · omega
            · have := o1 k hk; omega
          exact ⟨by rw [List.filter_cons, notIn_all ne, e1]; rfl, by rw [e2, filt_ne ne]⟩
        | gt h1 h2 =>
          rw [dw_rep, dw_M o1 bo, ← M_cons] at h2
          obtain ⟨e1, e2⟩ := ih _ (by simp at hz ⊢; omega) (r :: R') O' _ _ rfl hR o2 bR bO' h2
          have ne : ∀ k ∈ r :: R', o ≠ k := fun k hk => by
            rcases List.mem_cons.mp hk with rfl | hk
            · omega
            · have := r1 k hk; omega
          exact ⟨by rw [e1, filt_ne ne], by rw [List.filter_cons, notIn_all ne, e2]; rfl⟩
        | eq h2 =>
          rw [dw_rep, dw_rep, dw_M r1 br, dw_M o1 bo] at h2
          obtain ⟨e1, e2⟩ := ih _ (by simp at hz ⊢; omega) R' O' _ _ rfl r2 o2 bR' bO' h2
          have i1 : inW (r :: O') r = true := inW_mem.mpr (List.mem_cons_self ..)
          have i2 : inW (r :: R') r = true := inW_mem.mpr (List.mem_cons_self ..)
          exact ⟨by rw [List.filter_cons, i1, e1, filt_ne fun k hk => by have := r1 k hk; omega]; rfl, by rw [List.filter_cons, i2, e2, filt_ne fun k hk => by have := o1 k hk; omega]; rfl⟩
end Mine
end

section
open PySem PySem.W PyProof.Rows PySem.SeqAt
set_option Elab.async false
set_option maxRecDepth 100000
namespace Mine

theorem perm_sum : ∀ {a b : List Int}, a.Perm b → a.sum = b.sum := by
  intro a b h
  induction h with
  | nil => rfl
  | cons x _ ih => rw [List.sum_cons, List.sum_cons, ih]
  | swap x y l => simp only [List.sum_cons]; omega
  | trans _ _ h1 h2 => rw [h1, h2]

/-- an exchange of sets -/
structure Ex (c : Int → Int) : Prop where
  perm : (all16.map c).Perm all16
  back : ∀ k ∈ all16, c (c k) = k
  mem : ∀ k ∈ all16, c k ∈ all16

theorem ex_chg {i j : Nat} (hi : i < 4) (hj : j < 4) : Ex (chgF i j) := by
  have h1 : ∀ i : Nat, i < 4 → ∀ j : Nat, j < 4 → (all16.map (chgF i j)).isPerm all16 = true := by decide +kernel
  have h2 : ∀ i : Nat, i < 4 → ∀ j : Nat, j < 4 → ∀ k ∈ all16, chgF i j (chgF i j k) = k := by decide +kernel
  have h3 : ∀ i : Nat, i < 4 → ∀ j : Nat, j < 4 → ∀ k ∈ all16, chgF i j k ∈ all16 := by decide +kernel
  exact ⟨List.isPerm_iff.mp (h1 i hi j hj), h2 i hi j hj, h3 i hi j hj⟩

theorem bits_chg {i j : Nat} (hi : i < 4) (hj : j < 4) {k : Int} (hk : k ∈ all16) {b : Nat} (hb : b < 4) :
    bit (chgF i j k) b = (if i = j then (if b = i then !bit k b else bit k b) else if b = i then bit k j else if b = j then bit k i else bit k b) := by
  have h : ∀ i : Nat, i < 4 → ∀ j : Nat, j < 4 → ∀ k ∈ all16, ∀ b : Nat, b < 4 → bit (chgF i j k) b = (if i = j then (if b = i then !bit k b else bit k b) else if b = i then bit k j else if b = j then bit k i else bit k b) := by decide +kernel
  exact h i hi j hj k hk b hb

theorem Ex.S {c : Int → Int} (x : Ex c) (g : Int → Int) : S (fun k => g (c k)) = S g := by
  unfold Mine.S
  have := perm_sum (x.perm.map g)
  rw [List.map_map] at this
  exact this
theorem all16_lt : all16.Pairwise (· < ·) := by decide +kernel
theorem Ex.eqF {c : Int → Int} (x : Ex c) {p : Int → Bool} {l : List Int} (h : l.Perm ((all16.filter p).map c)) (hs : l.Pairwise (· ≤ ·)) : l = all16.filter fun k => p (c k) := by
  have e : (all16.filter p).map c = (all16.map c).filter fun k => p (c k) := by
    rw [List.filter_map]
    congr 1
    exact List.filter_congr fun k hk => by show p k = p (c (c k)); rw [x.back k hk]
  rw [e] at h
  refine List.Perm.eq_of_pairwise (le := (· ≤ ·)) (fun a b _ _ h1 h2 => Int.le_antisymm h1 h2) hs ?_ (h.trans (x.perm.filter _))
  exact (all16_lt.filter _).imp fun h => Int.le_of_lt h

theorem swing {c : Int → Int} (x : Ex c) (p : Int → Bool) (s : Int → Int) (σ : Int)
    (h : ∀ k ∈ all16, s k * ((if p k then 1 else 0) - (if p (c k) then 1 else 0)) = σ * (if p k = p (c k) then 0 else 1)) (hs : ∀ k ∈ all16, s (c k) = -s k) :
    S (fun k => if p k then s k else 0) = σ * ((all16.filter fun k => p k && !p (c k)).length : Int) := by
  have h1 := x.S fun k => if p k then s k else 0
  have h2 := x.S fun k => if (p k && !p (c k)) = true then 1 else 0
  have h3 : S (fun k => (if p k then s k else 0) + (if p (c k) then s (c k) else 0)) = S fun k => σ * ((if (p k && !p (c k)) = true then 1 else 0) + (if (p (c k) && !p (c (c k))) = true then 1 else 0)) := by
    refine S_congr fun k hk => ?_
    have q := h k hk
    rw [hs k hk, x.back k hk]
    cases hp : p k <;> cases hc : p (c k) <;> simp [hp, hc] at q ⊢ <;> omega
  rw [S_mul, S_add, S_add] at h3
  rw [h1] at h3
  rw [h2] at h3
  rw [S_len]
  have e : σ * (S (fun k => if (p k && !p (c k)) = true then 1 else 0) + S (fun k => if (p k && !p (c k)) = true then 1 else 0)) = 2 * (σ * S fun k => if (p k && !p (c k)) = true then 1 else 0) := by
    rw [Int.mul_add]; omega
  rw [e] at h3
  omega

theorem sg_one {q x : Int} : (sgF q x == 1) = decide (x > q) := by
  unfold sgF
  by_cases h : x > q
  · rw [if_pos h, if_neg (by omega), decide_eq_true h]; rfl
  · rw [if_neg h, decide_eq_false h]
    split <;> rfl

theorem worth_turn (wi : List Int) {i : Nat} (hi : i < 4) {k : Int} (hk : k ∈ all16) : worthF wi (chgF i i k) = worthF wi k - sgn1 k i * wi.getD i 0 := by
  rw [worth4, worth4, bits_chg hi hi hk (by decide), bits_chg hi hi hk (by decide), bits_chg hi hi hk (by decide), bits_chg hi hi hk (by decide)]
  unfold sgn1
  rcases (by omega : i = 0 ∨ i = 1 ∨ i = 2 ∨ i = 3) with rfl | rfl | rfl | rfl
  all_goals
    generalize wi.getD 0 0 = w0
    generalize wi.getD 1 0 = w1
    generalize wi.getD 2 0 = w2
    generalize wi.getD 3 0 = w3
    cases bit k 0 <;> cases bit k 1 <;> cases bit k 2 <;> cases bit k 3 <;> simp <;> omega
theorem worth_swap (wi : List Int) {i j : Nat} (hi : i < 4) (hj : j < 4) (hij : i < j) {k : Int} (hk : k ∈ all16) : 2 * worthF wi (chgF i j k) = 2 * worthF wi k - (sgn1 k i - sgn1 k j) * (wi.getD i 0 - wi.getD j 0) := by
  rw [worth4, worth4, bits_chg hi hj hk (by decide), bits_chg hi hj hk (by decide), bits_chg hi hj hk (by decide), bits_chg hi hj hk (by decide)]
  unfold sgn1
  rcases (by omega : (i = 0 ∧ j = 1) ∨ (i = 0 ∧ j = 2) ∨ (i = 0 ∧ j = 3) ∨ (i = 1 ∧ j = 2) ∨ (i = 1 ∧ j = 3) ∨ (i = 2 ∧ j = 3)) with ⟨rfl, rfl⟩ | ⟨rfl, rfl⟩ | ⟨rfl, rfl⟩ | ⟨rfl, rfl⟩ | ⟨rfl, rfl⟩ | ⟨rfl, rfl⟩
  all_goals
    generalize wi.getD 0 0 = w0
    generalize wi.getD 1 0 = w1
    generalize wi.getD 2 0 = w2
    generalize wi.getD 3 0 = w3
    cases bit k 0 <;> cases bit k 1 <;> cases bit k 2 <;> cases bit k 3 <;> simp <;> omega
theorem sgn_turn {i : Nat} (hi : i < 4) {k : Int} (hk : k ∈ all16) : sgn1 (chgF i i k) i = -sgn1 k i := by
  unfold sgn1
  rw [bits_chg hi hi hk hi, if_pos rfl, if_pos rfl]
  cases bit k i <;> rfl
theorem sgn_swap {i j : Nat} (hi : i < 4) (hj : j < 4) (hij : i < j) {k : Int} (hk : k ∈ all16) : sgn1 (chgF i j k) i - sgn1 (chgF i j k) j = -(sgn1 k i - sgn1 k j) := by
  unfold sgn1
  have h1 : ¬ i = j := by omega
  have h2 : ¬ j = i := by omega
  rw [bits_chg hi hj hk hi, bits_chg hi hj hk hj]
  simp only [h1, h2, if_false, if_true]
  cases bit k i <;> cases bit k j <;> rfl

theorem ruleF_eq (wi : List Int) (q : Int) : ruleF wi q = all16.filter fun k => decide (worthF wi k > q) := by
  unfold ruleF
  exact List.filter_congr fun k _ => sg_one

theorem loopOk (wi : List Int) (q : Int) : LoopOk (ruleF wi q) wi := by
  intro i j ns' ms us' hi hj hij hperm hsort hsld
  rw [ruleF_eq] at *
  generalize hp : (fun k => decide (worthF wi k > q)) = p at *
  have x := ex_chg hi hj
  have e1 := x.eqF hperm hsort
  have st1 : (all16.filter p).Pairwise (· < ·) := all16_lt.filter _
  have st2 : (all16.filter fun k => p (chgF i j k)).Pairwise (· < ·) := all16_lt.filter _
  rw [e1] at hsld
  obtain ⟨em, eu⟩ := sld_strict hsld st1 st2
  have em' : ms = all16.filter fun k => p k && !p (chgF i j k) := by
    rw [em, List.filter_filter]
    refine List.filter_congr fun k hk => ?_
    rw [inW_filter hk, Bool.and_comm]
  have eu' : us' = all16.filter fun k => p (chgF i j k) && !p k := by
    rw [eu, List.filter_filter]
    refine List.filter_congr fun k hk => ?_
    rw [inW_filter hk, Bool.and_comm]
  refine ⟨?_, ?_, ?_, ?_⟩
  · rw [em']; exact Nat.lt_of_le_of_lt (List.length_filter_le ..) (by decide)
  · intro zs h1 h2
    rw [em'] at h1
    rw [eu', x.eqF h1 h2]
    refine List.filter_congr fun k hk => ?_
    rw [x.back k hk]
  · intro e
    subst e
    rw [pull_S, em']
    refine swing x p (fun k => sgn1 k i) _ (fun k hk => ?_) fun k hk => sgn_turn hi hk
    have hw := worth_turn wi hi hk
    rw [← hp]
    simp only [gt_iff_lt]
    rw [hw]
    unfold sgn1 sgF
    generalize worthF wi k = a
    generalize wi.getD i 0 = b
    cases bit k i
    · simp only [Bool.false_eq_true, if_false]
      by_cases c1 : q < a <;> by_cases c2 : q < a - -1 * b <;> by_cases c3 : b > 0 <;> by_cases c4 : b < 0 <;> simp [c1, c2, c3, c4] <;> omega
    · simp only [if_true]
      by_cases c1 : q < a <;> by_cases c2 : q < a - 1 * b <;> by_cases c3 : b > 0 <;> by_cases c4 : b < 0 <;> simp [c1, c2, c3, c4] <;> omega
  · intro e
    have hlt : i < j := by omega
    rw [pull_S, pull_S, ← S_sub, em']
    have e0 : S (fun k => (if p k = true then sgn1 k i else 0) - (if p k = true then sgn1 k j else 0)) = S fun k => if p k = true then sgn1 k i - sgn1 k j else 0 := by
      refine S_congr fun k _ => ?_
      cases p k <;> simp
    rw [e0]
    refine swing x p (fun k => sgn1 k i - sgn1 k j) _ (fun k hk => ?_) fun k hk => sgn_swap hi hj hlt hk
    have hw := worth_swap wi hi hj hlt hk
    rw [← hp]
    simp only [gt_iff_lt]
    generalize worthF wi (chgF i j k) = a' at *
    generalize worthF wi k = a at *
    unfold sgn1 at *
    unfold sgF
    generalize wi.getD i 0 = b at *
    generalize wi.getD j 0 = d at *
    revert hw
    cases bit k i <;> cases bit k j <;> intro hw <;> simp only [Bool.false_eq_true, if_false, if_true] at hw ⊢ <;>
      by_cases c1 : q < a <;> by_cases c2 : q < a' <;> by_cases c3 : b > d <;> by_cases c4 : b < d <;> simp [c1, c2, c3, c4] <;> omega
end Mine
end

section
open PySem PySem.W PyProof.Rows PySem.SeqAt
set_option Elab.async false
set_option maxRecDepth 100000
namespace Mine

theorem sum_le {f g : Int → Int} : ∀ {l : List Int}, (∀ k ∈ l, f k ≤ g k) → (l.map f).sum ≤ (l.map g).sum
  | [], _ => Int.le_refl _
  | a :: r, h => by
    rw [List.map_cons, List.map_cons, List.sum_cons, List.sum_cons]
    have h1 := h a (List.mem_cons_self ..)
    have h2 := sum_le fun k hk => h k (List.mem_cons_of_mem _ hk)
    omega
theorem pull_le (p : Int → Bool) {b : Nat} (hb : b < 4) : -8 ≤ pullF (all16.filter p) b ∧ pullF (all16.filter p) b ≤ 8 := by
  rw [pull_S]
  have u : ∀ b : Nat, b < 4 → S (fun k => if bit k b then 1 else 0) = 8 := by decide +kernel
  have l : ∀ b : Nat, b < 4 → S (fun k => if bit k b then 0 else -1) = -8 := by decide +kernel
  have h1 : S (fun k => if p k then sgn1 k b else 0) ≤ S fun k => if bit k b then 1 else 0 := sum_le fun k _ => by
    unfold sgn1; cases p k <;> cases bit k b <;> simp
  have h2 : S (fun k => if bit k b then 0 else -1) ≤ S fun k => if p k then sgn1 k b else 0 := sum_le fun k _ => by
    unfold sgn1; cases p k <;> cases bit k b <;> simp
  rw [u b hb] at h1
  rw [l b hb] at h2
  exact ⟨h2, h1⟩

theorem preSum_range (f : Nat → Int) : ∀ n, preSum f n = ((List.range n).map f).sum
  | 0 => rfl
  | n + 1 => by rw [preSum, preSum_range f n, List.range_succ, List.map_append, List.sum_append]; simp
theorem marks_get (R : List Int) {i : Nat} (h : i < 16) : (marksF R).getD i 0 = if inW R (i : Int) then 30 else 0 := by
  unfold marksF
  rw [List.getD_eq_getElem?_getD, List.getElem?_map, List.getElem?_range h]; rfl
theorem marks_sum (p : Int → Bool) : (marksF (all16.filter p)).sum = 30 * ((all16.filter p).length : Int) := by
  unfold marksF
  rw [range_all (fun k => if inW (all16.filter p) k then 30 else 0), S_len, ← S_mul]
  refine S_congr fun k hk => ?_
  rw [inW_filter hk]
  cases p k <;> rfl
theorem expand (a b r v : Int) : (a - 30 * r) * (b - 30 * v) = a * b - 30 * (a * v) - 30 * (r * b) + 900 * (r * v) := by
  rw [Int.sub_mul, Int.mul_sub, Int.mul_sub, Int.mul_left_comm a 30 v, Int.mul_assoc 30 r b, Int.mul_assoc 30 r (30 * v), Int.mul_left_comm r 30 v]
  omega
theorem cov_plain (p o : Int → Bool) : 15 * (960 * (16 * ((bothF (all16.filter p) (all16.filter o)).length : Int) - ((all16.filter p).length : Int) * ((all16.filter o).length : Int))) = preSum (covP (marksF (all16.filter p)) (marksF (all16.filter o))) 16 := by
  have hb : ((bothF (all16.filter p) (all16.filter o)).length : Int) = S fun k => if (p k && o k) = true then 1 else 0 := by
    unfold bothF
    rw [List.filter_filter]
    rw [show (all16.filter fun k => inW (all16.filter o) k && p k) = all16.filter fun k => p k && o k from List.filter_congr fun k hk => by rw [inW_filter hk, Bool.and_comm]]
    exact S_len _
  have hr := S_len p
  have hv := S_len o
  rw [hb, preSum_range]
  generalize hR : ((all16.filter p).length : Int) = r at *
  generalize hV : ((all16.filter o).length : Int) = v at *
  have e : ((List.range 16).map (covP (marksF (all16.filter p)) (marksF (all16.filter o)))).sum =
      ((List.range 16).map fun (i : Nat) => (fun k : Int => (16 * (if p k then 30 else 0) - 30 * r) * (16 * (if o k then 30 else 0) - 30 * v)) (i : Int)).sum := by
    congr 1
    refine List.map_congr_left fun i hi => ?_
    have hi' := List.mem_range.mp hi
    unfold covP
    rw [marks_get _ hi', marks_get _ hi', marks_sum, marks_sum, hR, hV, inW_filter (mem_all16.mpr (by omega)), inW_filter (mem_all16.mpr (by omega))]
  rw [e, range_all (fun k : Int => (16 * (if p k then 30 else 0) - 30 * r) * (16 * (if o k then 30 else 0) - 30 * v))]
  have e2 : S (fun k : Int => (16 * (if p k then 30 else 0) - 30 * r) * (16 * (if o k then 30 else 0) - 30 * v)) =
      S fun k => 230400 * (if (p k && o k) = true then 1 else 0) + (-14400 * v) * (if p k then 1 else 0) + (-14400 * r) * (if o k then 1 else 0) + (900 * (r * v)) * 1 := by
    refine S_congr fun k _ => ?_
    rw [expand]
    cases p k <;> cases o k <;> simp <;> omega
  rw [e2, S_add, S_add, S_add, S_mul, S_mul, S_mul, S_mul, ← hr, ← hv]
  have e3 : S (fun _ => (1 : Int)) = 16 := by decide +kernel
  rw [e3]
  generalize S (fun k => if (p k && o k) = true then 1 else 0) = B
  have c1 : -14400 * v * r = -14400 * (r * v) := by rw [Int.mul_assoc, Int.mul_comm v r]
  have c2 : -14400 * r * v = -14400 * (r * v) := by rw [Int.mul_assoc]
  rw [c1, c2]
  generalize r * v = x
  omega

theorem plain (wi : List Int) (q c5 : Int) (hw : wi.length = 4) :
    Plain wi q c5 (ruleF wi q) (turnF c5) (otherF (ruleF wi q) (turnF c5)) (goneF (ruleF wi q) (turnF c5)) (comeF (ruleF wi q) (turnF c5)) := by
  have hl := loopOk wi q
  rw [ruleF_eq] at *
  unfold turnF
  generalize (fun k => decide (worthF wi k > q)) = p at *
  generalize (fun k : Int => bit c5 k.toNat) = t at *
  have hO : otherF (all16.filter p) (all16.filter t) = all16.filter fun k => p k != t k := List.filter_congr fun k hk => by rw [inW_filter hk, inW_filter hk]
  have hG : goneF (all16.filter p) (all16.filter t) = all16.filter fun k => t k && p k := by
    unfold goneF
    rw [List.filter_filter]
    exact List.filter_congr fun k hk => by rw [inW_filter hk, Bool.and_comm]
  have hK : comeF (all16.filter p) (all16.filter t) = all16.filter fun k => t k && !p k := by
    unfold comeF
    rw [List.filter_filter]
    exact List.filter_congr fun k hk => by rw [inW_filter hk, Bool.and_comm]
  rw [hO, hG, hK]
  have len : ∀ f : Int → Bool, (all16.filter f).length ≤ 16 := fun f => Nat.le_trans (List.length_filter_le ..) (by decide)
  have lt16 : ∀ (f : Int → Bool), ∀ k ∈ all16.filter f, 0 ≤ k ∧ k < 16 := fun f k hk => mem_all16.mp (List.mem_filter.mp hk).1
  have st : ∀ f : Int → Bool, (all16.filter f).Pairwise (· < ·) := fun f => all16_lt.filter _
  refine ⟨hl, cnt_S _, cnt_S _, len _, len _, cov_plain _ _, ?_, lt16 _, lt16 _, len _, len _, ?_, chow wi q hw p t⟩
  · intro ms us h
    obtain ⟨e1, e2⟩ := sldM 2 3 _ _ _ ms us rfl (st p) (st _) (fun x hx => (lt16 _ x hx).2) (fun x hx => (lt16 _ x hx).2) h
    rw [e1, e2, List.filter_filter, List.filter_filter]
    refine ⟨List.filter_congr fun k hk => ?_, List.filter_congr fun k hk => ?_⟩
    · rw [inW_filter hk]; cases p k <;> cases t k <;> rfl
    · rw [inW_filter hk]; cases p k <;> cases t k <;> rfl
  · intro d hd
    unfold stepsF at hd
    rcases List.mem_append.mp hd with h | h
    · obtain ⟨k, hk, rfl⟩ := List.mem_map.mp h
      have hk4 : k.toNat < 4 := by
        unfold all4 at hk
        obtain ⟨i, hi, rfl⟩ := List.mem_map.mp hk
        have := List.mem_range.mp hi
        omega
      have h1 := pull_le p hk4
      have h2 := pull_le (fun k => p k != t k) hk4
      omega
    · rw [List.mem_singleton] at h
      subst h
      have h1 := len p
      have h2 := len fun k => p k != t k
      omega
end Mine
end

section
open PySem PySem.W PyProof.Rows
set_option Elab.async false
set_option maxRecDepth 100000
set_option maxHeartbeats 8000000
namespace Mine

theorem cov_mem : ∃ d ∈ recsOf Mine.hd.view_39, d.name = ("covariance" : Str) := by
  have h : ((recsOf Mine.hd.view_39).find? fun d => d.name == ("covariance" : Str)).isSome = true := by decide +kernel
  obtain ⟨d, hd⟩ := Option.isSome_iff_exists.mp h
  exact ⟨d, List.mem_of_find?_eq_some hd, beq_iff_eq.mp (List.find?_some (p := fun d : DefRec => d.name == ("covariance" : Str)) hd)⟩

def codeOf (o : Obj) : Value := match o.data with | .func fd => fd.code | _ => .none
def tabOf (o : Obj) : Option Value := match o.data with | .fields vs => vs[11]? | _ => none

theorem tab65 {P : Params} {h : Heap} {loose : List Str} {mean : ExcName → Option Value} {mg mb : Str → Option Value} (X : (Mine.hd.heap_39 P).In h) (T : Top Mine.hd.view_39 loose mean mg mb h) : h.IsCode 69 65 #[] ∧ h.TableAt 69 65 #[] := by
  obtain ⟨d, hd, hn⟩ := cov_mem
  obtain ⟨a, o, fd, c, P', h1, h2, h3, h4, h5, h6⟩ := T.tab d hd
  rw [hn, mg_of X T.g (v := .ref 70) (by kernel_rfl)] at h1
  cases h1
  obtain ⟨o70, h70, e70⟩ : ∃ o70, h.get? 70 = some o70 ∧ codeOf o70 = .ref 69 := ⟨_, X 70 _ rfl, rfl⟩
  rw [h2] at h70; cases h70
  have hc : codeOf o = fd.code := by unfold codeOf; rw [h3]
  rw [e70, h4] at hc
  cases hc
  obtain ⟨o69, h69, e69⟩ : ∃ o69, h.get? 69 = some o69 ∧ tabOf o69 = some (.ref 65) := ⟨_, X 69 _ rfl, rfl⟩
  obtain ⟨⟨oc, vs, g1, _, g3, g4⟩, _⟩ := id h6
  rw [h69] at g1; cases g1
  have ht : tabOf o69 = vs[11]? := by unfold tabOf; rw [g3]
  rw [e69, g4] at ht
  cases ht
  exact ⟨h5, h6⟩

theorem wd_of {P : Params} {h : Heap} {loose : List Str} {mean : ExcName → Option Value} {mg mb : Str → Option Value} (X : (Mine.hd.heap_39 P).In h) (T : Top Mine.hd.view_39 loose mean mg mb h) : Wd h := by
  obtain ⟨hok, htab⟩ := tab65 X T
  have nm : Nm mg mb := by
    refine ⟨mg_of X T.g (by kernel_rfl), mg_of X T.g (by kernel_rfl), mg_of X T.g (by kernel_rfl), mg_of X T.g (by kernel_rfl), mg_of X T.g (by kernel_rfl), mg_of X T.g (by kernel_rfl), mg_of X T.g (by kernel_rfl), mg_of X T.g (by kernel_rfl), mg_of X T.g (by kernel_rfl), mg_of X T.g (by kernel_rfl), mg_of X T.g (by kernel_rfl), ?_, T.builtins⟩
    intro x hx
    simp only [List.mem_cons, List.not_mem_nil, or_false] at hx
    rcases hx with rfl | rfl | rfl | rfl | rfl | rfl | rfl | rfl | rfl | rfl <;> exact ns_none_of X T.g (by kernel_rfl)
  obtain ⟨bm, ob, b1, _, b3, b4, b5, b6⟩ := T.bmain
  rw [nm.bi] at b1; cases b1
  exact ⟨⟨mg, mb, T.g, T.b, nm⟩, T.nolimit,
    ⟨_, _, _, X 70 _ rfl, rfl, _, _, _, _, rfl, X 69 _ rfl, rfl, rfl⟩, ⟨_, _, _, X 77 _ rfl, rfl, _, _, _, _, rfl, X 76 _ rfl, rfl, rfl⟩, ⟨_, _, _, X 84 _ rfl, rfl, _, _, _, _, rfl, X 83 _ rfl, rfl, rfl⟩,
    ⟨_, _, _, X 89 _ rfl, rfl, _, _, _, _, rfl, X 88 _ rfl, rfl, rfl⟩, ⟨_, _, _, X 94 _ rfl, rfl, _, _, _, _, rfl, X 93 _ rfl, rfl, rfl⟩, ⟨_, _, _, X 99 _ rfl, rfl, _, _, _, _, rfl, X 98 _ rfl, rfl, rfl⟩, ⟨_, _, _, X 106 _ rfl, rfl, _, _, _, _, rfl, X 105 _ rfl, rfl, rfl⟩,
    ⟨_, hok, htab⟩, ⟨_, X 111 _ rfl⟩, ⟨_, _, _, X 63 _ rfl, rfl, _, _, _, _, rfl, X 62 _ rfl, rfl, rfl⟩, ⟨_, X 56 _ rfl, rfl, _, rfl⟩, ⟨_, b3, b4, b5, b6⟩⟩

theorem fn111 {P : Params} {h : Heap} (X : (Mine.hd.heap_39 P).In h) : FnIs 13 111 110 h :=
  ⟨_, _, _, X 111 _ rfl, rfl, _, _, _, _, rfl, X 110 _ rfl, rfl, rfl⟩

theorem law_call {w : World} {s : Shared} {R : Result → Shared → Prop} {asc : Addr} {us : List Value} {sc : List Int} (W : Wd s.heap) (hf : FnIs 13 111 110 s.heap) (hl : s.heap.IsList asc us.toArray) (iu : IntsAre us sc) (zs : sc.length ≤ 63)
    (h : ∀ s', Evo s s' → R (.ok (.ret (.bool true))) s') : codeAny (model prg w) callerA (.call (.ref 111) ⟨[.ref asc], []⟩) R s := by
  have air : Air (callerA.deeper (lE s)) := ⟨rfl, by show 1 + claimMargin + 1 + 8 < recursionLimit; decide +kernel, by show 4 + 3 + 100 < cLine; decide +kernel⟩
  refine enter 13 W (by show 1 + claimMargin < recursionLimit; decide +kernel) hf (binds := [("script", .ref asc)]) (fun _ _ => rfl) rfl (fun s₁ F => ?_)
  replace F := F.add (isList_evo W.tab hl F.ev)
  exact law_all plain air rfl F rfl (List.mem_cons_self ..) iu zs fun s' ev => h s' ev

theorem old_of {s s' : Shared} (ht : s.heap.TableAt 69 65 #[]) (W : Wd s.heap) (ev : Evo s s') : OldK s.heap s'.heap := by
  obtain ⟨ps, _, ht'⟩ := ev.tab W.tab
  exact (OldK.refl s.heap).step_table ht ht (more := ps) (by simpa using ht') (fun b o hb e => ev.keep b o (fun q => nomatch q) hb e) (by decide)
end Mine
end

open PySem PySem.W PyProof.Rows
set_option Elab.async false
set_option maxRecDepth 100000
set_option maxHeartbeats 8000000
theorem PySem.Challenge.cw_tv0026_01_holds : PySem.Challenge.rw_tv0026_01.Holds :=
  Mine.hd (by
  k_fill
  intro w s₀ s₁ mg mb G Y fa o pm cd doc dV kV ho hd hcd hD hmg hg args vals as hpre hlay hrd hwl hlo
  have KX := km_in_of Y
  refine Ground.open G ?_
  intro T B D TE TW
  wrow_args hpre hlay hrd hwl hlo
  refine enter_call ?_
  rename_i ns hs hlay0 hLay hr1 hl2 bs cs asc us ds hL ra w1 r0 hI hr2 hc1 hc2
  have e111 : mg ("law" : Str) = some (.ref 111) := mg_of KX T.g (by kernel_rfl)
  obtain rfl : fa = 111 := by
    have : some (Value.ref fa) = some (.ref 111) := hmg.symm.trans e111
    injection this with this; injection this
  have W := Mine.wd_of KX T
  have t65 := (Mine.tab65 KX T).2
  refine Mine.law_call W (Mine.fn111 KX) hL hI (by omega) fun s' ev => ?_
  refine ⟨.inl ⟨.bool true, _, _, rfl, fun _ => rfl, readsW_of_reads (.bool true), (by with_unfolding_all rfl), fun _ => ⟨List.nodup_nil, fun a h => nomatch h⟩⟩, Mine.old_of t65 W ev, ev.os, ev.gens (by rw [hg]; intro y hy; simp at hy)⟩)
