import PyProof.Rows.All
import Wide.All
import OpenK.AllK
import Wide.FinOn
import Lean
import PySem.Challenge.RW_oy0177_01
set_option Elab.async false
-- HeadT
section
open PySem PySem.W PyProof.Rows
set_option Elab.async false
set_option maxRecDepth 100000
set_option maxHeartbeats 8000000
namespace Mine
section
local macro_rules | `(tactic| o_head $_) => `(tactic| (exact (‹∀ p : Prop, p›) _))
theorem fk (h : ∀ p : Prop, p) : PySem.Challenge.rw_oy0177_01.row.Holds := by k_head
end
noncomputable def bigK (P : Params) : Frag := (nat_lit 0, PySem.W.boot_o_0 P) :: (nat_lit 4, PySem.W.boot_o_4 P) :: fk.heap_1 P
abbrev pr : Program := PySem.Challenge.rw_oy0177_01.row.prog
def qv : Program := view pr [0, 2, 3, 6, 7, 9, 10, 11, 12, 13, 14, 21, 22, 23, 24, 25, 26, 28, 29, 30, 31, 32, 33]
def loose : List Str := ["_initial_missing", "reduce", "bytes_types", "a2b_base64", "b2a_base64", "b64encode", "b64decode"]
noncomputable def hk : Hook := kmHook Mine.bigK [0, 4, 2, 3, 15, 17, 18, 20, 21, 22, 24, 25, 27, 28, 29, 30, 31, 33, 34, 36, 37, 38, 39, 41, 42, 44, 45, 46, 53, 54, 55, 56, 59, 61, 62, 64, 65, 66, 68, 69, 71, 72, 73, 75, 76, 78, 79, 80, 82, 83, 85, 86, 87, 88, 90, 91, 93, 94, 95, 96, 98, 99, 101, 102, 103, 104, 106, 107, 109, 110, 111, 112, 114, 115, 117, 118, 119, 121, 122, 124, 125, 126, 128, 129, 131, 132, 133, 135, 136, 138, 139, 140, 142, 143, 145, 146, 147, 149, 150, 152, 153, 154, 156, 157, 159, 160, 161, 163, 164, 166, 167, 168, 170, 171, 173, 174, 175, 177, 178, 180, 181, 182, 184, 185, 187, 188, 189, 191, 192, 194, 195, 196, 199, 200] (fun _ => by kernel_rfl) [23, 197]
theorem big_eq (P : Params) : bigK P = (nat_lit 0, PySem.W.boot_o_0 P) :: (nat_lit 4, PySem.W.boot_o_4 P) :: Mine.fk.heap_1 P := rfl
abbrev lr : OpenRow := PySem.Challenge.rw_oy0177_01.row
theorem left_of_boot {p q : Program} {loose : List Str} {Xt : Shared → Bool} {α : Type} {Yf : Shared → α} {Ya : World → α} {N : Nat} {g0 : Bool}
    (e : opening p = plainProg p.main.scope.names) (hN : Nat.ble 600 N = true) (f : ∀ s, fenceModules? p s = some s)
    (h : ∀ w os, (topFrom treeTable p w N ⟨boot_heap w.params, Array.mk [], boot_drawn, boot_toks, os⟩).map (fun s => (openSeen q loose (importedModules p.main.body) Xt g0 s, Yf s)) = some (openGood q loose, Ya w)) :
    LeftO p q loose Xt Yf Ya N g0 := fun w => by
  obtain ⟨⟨h', gs, d, k, os⟩, e1, e2⟩ := Option.map_eq_some_iff.mp (boot_open e hN f w)
  obtain ⟨rfl, rfl, rfl, rfl⟩ : h' = boot_heap w.params ∧ gs = Array.mk [] ∧ d = boot_drawn ∧ k = boot_toks := by simpa using e2
  unfold openEnds
  rw [e1]
  exact h w os
theorem left_of_boot2 {p q : Program} {loose : List Str} {Xt : Shared → Bool} {α : Type} {Yf : Shared → α} {Ya : World → α} {N : Nat} {g0 : Bool} {m₀ : Nat} {ann : Option Value}
    {TR} (hTR : @topRun = TR) {tt} (htt : treeTable = tt) {OS} (hOS : @openSeen = OS)
    (e : opening p = plainProg p.main.scope.names) (hN : Nat.ble 600 N = true) (f : ∀ s, fenceModules? p s = some s)
    (size : ∀ w : World, ((boot_heap w.params).isNs mainGlobals, (boot_heap w.params).objs.size, (boot_heap w.params).nsMap mainGlobals "__annotations__") = (true, m₀, ann))
    (h : ∀ w os, (TR tt p w m₀ ann N ⟨boot_heap w.params, Array.mk [], boot_drawn, boot_toks, os⟩ (topStub p)).map (fun s => ((staticsOk (importedModules p.main.body) (boot_heap w.params) s.heap && namesBound p s.heap && gensDone s && laidKept (boot_heap w.params) s.heap), OS q loose (importedModules p.main.body) Xt g0 s, Yf s)) = some (true, openGood q loose, Ya w)) :
    LeftO p q loose Xt Yf Ya N g0 := by
  subst hTR htt hOS
  refine left_of_boot e hN f fun w os => ?_
  obtain ⟨s, h1, h2⟩ := Option.map_eq_some_iff.mp (h w os)
  obtain ⟨z1, z2, z3⟩ : _ ∧ _ ∧ _ := by simpa only [Prod.mk.injEq] using size w
  obtain ⟨h3, h4, h5⟩ : _ ∧ _ ∧ _ := by simpa only [Prod.mk.injEq] using h2
  have r : topFrom treeTable p w N ⟨boot_heap w.params, Array.mk [], boot_drawn, boot_toks, os⟩ = some s := by
    unfold topFrom
    dsimp only
    rw [z1, z2, z3, h1]
    show (match staticsOk (importedModules p.main.body) (boot_heap w.params) s.heap && namesBound p s.heap && gensDone s && laidKept (boot_heap w.params) s.heap with | true => _ | false => _) = _
    rw [h3]
  rw [r]
  exact congrArg some (Prod.ext h4 h5)
theorem left : LeftO pr qv loose (fun s => xlAt qv [] s && recOk (RowW.records lr.toRowW) s) (Hook.obs hk) (Hook.val hk) 2206 :=
  left_of_boot2 PySem.W.Fast.te14082659384304107361 PySem.W.Fast.te14364793385576792824 PySem.W.Fast.te4187177175401517315 (by kernel_rfl) (by rfl) (fun s => by kernel_rfl) (m₀ := 11) (ann := some (.ref 6)) (fun w => by kernel_rfl) fun w os => by kernel_rfl
theorem okl : PySem.Challenge.rw_oy0177_01.wellSaid = true := by
  refine (congrFun PySem.W.Fast.te9446332074065402090 _).trans ?_
  unfold PySem.W.Fast.tw9446332074065402090 PySem.W.Fast.tw17960256430627541270 PySem.W.Fast.tw2436336058641802641 PySem.W.Fast.tw12908688711261696721
  repeat' (with_reducible (refine look_both ?_ ?_))
  all_goals (decide +kernel)
theorem okq : (chainsOk qv && opensWell lr.prog && (frees lr.toRowW && lr.within.isEmpty)) = true := by kernel_rfl
theorem bare : lr.prog.bare := ⟨rfl, rfl, rfl, rfl, rfl, by decide +kernel⟩
theorem promised : lr.toRowW.promised := by w_witness2
theorem hd {d : DefRec} {kwd : List (Str × Expr)} (hdef : defOf qv lr.name = some (d, kwd)) (hp : lr.prog.theDef lr.name = some (d.params, d.body, d.scope)) (hkw : kwWritten? d.params.kwonlyargs d.params.kw_defaults = some kwd)
    (walk : WalkO qv loose (XL qv []) (Hook.says hk) lr.toRowW d kwd fun f vs => PySem.call f vs) : PySem.Challenge.rw_oy0177_01.Holds :=
  holds_law okl fun said => holds_open left (Hook.of hk) (Hook.keeps hk) (fun s e => xl_of s (Bool.and_eq_true_iff.mp e).1) XL.keeps hdef hp hkw (fun s e => recFacts_of (Bool.and_eq_true_iff.mp e).2) rfl said okq bare promised walk
end Mine
end
theorem Mine.zz1 : True := by
  k_with_none
  w_top off
  (have : True ∧ True := by
    (try walk1)
    all_goals (first | exact trivial | exact ⟨trivial, trivial⟩))
  trivial
-- Base
section
open PySem PySem.W PyProof.Rows PySem.Calls
set_option Elab.async false
set_option maxRecDepth 100000
namespace Mine

/-- all that stood stands as it stood -/
def Keeps (h h' : Heap) : Prop := ∀ b o, h.get? b = some o → h'.get? b = some o
theorem Keeps.refl (h : Heap) : Keeps h h := fun _ _ e => e
theorem Keeps.trans {a b c : Heap} (x : Keeps a b) (y : Keeps b c) : Keeps a c := fun i o e => y i o (x i o e)
theorem Keeps.fr {h₀ h h' : Heap} {L : Addr} {m : Str → Option Value} (k : Keeps h h') (F : Fr h₀ L h m) : Fr h₀ L h' m := by
  obtain ⟨oL, a1, a2, hL, a3⟩ := F.ns
  exact ⟨⟨oL, a1, a2, k _ _ hL, a3⟩, fun b o' e => k _ _ (F.keep b o' e), F.above⟩
theorem Keeps.news {h₀ h h' : Heap} {L : Addr} {news : List (Addr × Obj)} (k : Keeps h h') (N : News h₀ L h news) : News h₀ L h' news :=
  fun p hp => ⟨k _ _ (N p hp).1, (N p hp).2⟩

abbrev TopM (mean : ExcName → Option Value) (mg mb : Str → Option Value) (h : Heap) : Prop := Top topProg ((looseW qv loose) ++ (recsOf qv).map (fun x => x.name) ++ (litsOf qv).map (fun x => x.1) ++ (clssOf qv (looseW qv loose)).map (fun x => x.name)) mean mg mb h

/-- a call of the def at f with vs: it ends, gives back what R says, and all that stood stands -/
def Spec (w : World) (mean : ExcName → Option Value) (mg mb : Str → Option Value) (f : Addr) (dN uN : Nat) (vs : List Value) (kw : List (Str × Value)) (R : Value → Prop) : Prop :=
  ∀ (dp un : Nat) (gd : Option (List Code)) (cn : Str) (cs : Scope) (a : Addr) (ccd : Value) (cl : List (Str × Addr)) (outer : List Env) (A₀ : Around) (base h₀ : Heap) (L : Addr) (m : Str → Option Value) (s : Shared) (Q E : Value → Shared → Prop),
    Below A₀ base outer h₀ → Fr h₀ L s.heap m → (Mine.fk.heap_1 w.params).In h₀ → TopM mean mg mb h₀ → cs.kind = .function → dp + dN < recursionLimit → un + uN < cLine →
    (∀ v h' tk', R v → Keeps s.heap h' → Q v { s with heap := h', toks := tk' }) →
    wpAny (model PySem.Challenge.rw_oy0177_01.row.prog w) (ktrTop dp un gd cn cs L a ccd cl outer) (call (.ref f) vs kw) Q E s

def IntIs (x : Int) (v : Value) : Prop := ∃ t, v = .int x t
def BytesIs (b : Array UInt8) (v : Value) : Prop := ∃ t, v = .bytes b t
def StrIs (b : Str) (v : Value) : Prop := ∃ t, v = .str b t
def BoolIs (b : Bool) (v : Value) : Prop := ∃ _ : Nat, v = .bool b

section
variable {Q : Value → Shared → Prop} {s : Shared} {h' : Heap} {tk' : Nat} {t : Tok}
theorem ret_int {x y : Int} (hret : ∀ v h' tk', IntIs x v → Keeps s.heap h' → Q v { s with heap := h', toks := tk' }) (k : Keeps s.heap h') (e : y = x) : Q (.int y t) { s with heap := h', toks := tk' } := hret _ _ _ ⟨_, by rw [e]⟩ k
theorem ret_bytes {x y : Array UInt8} (hret : ∀ v h' tk', BytesIs x v → Keeps s.heap h' → Q v { s with heap := h', toks := tk' }) (k : Keeps s.heap h') (e : y = x) : Q (.bytes y t) { s with heap := h', toks := tk' } := hret _ _ _ ⟨_, by rw [e]⟩ k
theorem ret_str {x y : Str} (hret : ∀ v h' tk', StrIs x v → Keeps s.heap h' → Q v { s with heap := h', toks := tk' }) (k : Keeps s.heap h') (e : y = x) : Q (.str y t) { s with heap := h', toks := tk' } := hret _ _ _ ⟨_, by rw [e]⟩ k
theorem ret_bool {x y : Bool} (hret : ∀ v h' tk', BoolIs x v → Keeps s.heap h' → Q v { s with heap := h', toks := tk' }) (k : Keeps s.heap h') (e : y = x) : Q (.bool y) { s with heap := h', toks := tk' } := hret _ _ _ ⟨0, by rw [e]⟩ k
end
section
variable {prog : Program} {w : World} {A A₀ : Around} {s : Shared} {K : Frag} {L : Addr} {h₀ base : Heap} {m mg mb : Str → Option Value} {p : Program} {loose : List Str} {mean : ExcName → Option Value}
/-- entering a def, nothing of the caller's in hand -/
theorem enter_def {env : Env} {outer : List Env} {R : Result → Shared → Prop} {name qual : Str} {params : Arguments} {body : List Stmt} {scope : Scope} {dV kV doc pm cdv ct oc : Value} {an od : Option Addr} {osl : Array (Option Value)} {f : Addr} {args : Args} {binds : List (Str × Value)}
    (B : Below A₀ base outer h₀) (F : Fr h₀ L s.heap m) (X₀ : K.In h₀) (T : Top p loose mean mg mb h₀) (hA : A.frames = some (env :: outer)) (hf : env.frame = some L) (hke : env.scope.kind = .function)
    (ho : K.lookup f = some ⟨oc, od, .func (fnOf name qual params body scope dV kV doc pm an cdv ct), osl⟩) (hcd : codeIn K cdv qual = true) (hroom : A.depth < recursionLimit)
    (hbind : BindsTo s (fnOf name qual params body scope dV kV doc pm an cdv ct) args binds) (hloc : ∀ y ∈ binds, scope.names.lookup y.1 = some .local)
    (h : ∀ L' h₁, Fr s.heap L' h₁ (fun y => binds.reverse.lookup y) → News s.heap L' h₁ [] → Below A base (env :: outer) s.heap → K.In s.heap → Top p loose mean mg mb s.heap →
      wpAny (model prog w) (A.deeper (envOf qual scope L' f cdv)) (execs body (envOf qual scope L' f cdv))
        (fun fl s' => LeaveK h₀ L m s.heap (fun r s' => Keeps s.heap s'.heap → R r s') (match fl with | .ret v => v | _ => .none) s')
        (fun e s' => wpAny (model prog w) (A.deeper (envOf qual scope L' f cdv)) («leaving» (envOf qual scope L' f cdv) e) (fun _ s'' => R (.error e) s'') (fun e' s'' => R (.error e') s'') s')
        { s with heap := h₁, toks := s.toks + binds.length })
    (hco : scope.isCoroutine = false) (hgen : scope.isGenerator = false) (hk : scope.kind = .function)
    (hcell : ∀ x ∈ scope.names, x.2 ≠ .cell) : codeAny (model prog w) A (.call (.ref f) args) R s := by
  have X := X₀.keeps F.keep
  have T' := T.keeps F.keep
  refine codeAny_call_def (fd := fnOf name qual params body scope dV kV doc pm an cdv ct) (body := body) (binds := binds) hroom (X _ _ ho) rfl T'.nolimit (codeRec_of X hcd) rfl hbind hcell hloc (fun h₁ hns hk₁ => ?_) hco hgen hk
  have hnew : base.get? L = none := by
    cases hq : base.get? L with
    | none => rfl
    | some o => exact absurd (Nat.lt_of_lt_of_le (Heap.lt_size (B.stays L o hq)) F.above) (Nat.lt_irrefl _)
  have B' : Below A base (env :: outer) s.heap := by
    refine ⟨hA, fun b o e => F.keep b o (B.stays b o e), ?_⟩
    exact .cons (by rw [hke]; decide) hf F.ns hnew (B.frames.of_keeps fun b o e _ => ⟨o, F.keep b o e, rfl⟩)
  refine wpAny_mono (h s.heap.objs.size h₁ ⟨hns, hk₁, Nat.le_refl _⟩ News.nil B' X T') (fun fl s' hl => ?_) fun _ _ y => y
  obtain ⟨L', m', news', F', N', k⟩ := hl
  have kk : Keeps s.heap s'.heap := F'.keep
  refine k (kk.fr F) (fun q hq => ⟨(N' q hq).1, ?_, ?_⟩) kk
  · intro e
    obtain ⟨oL, _, _, hL, _⟩ := F.ns
    have := (N' q hq).2.2
    rw [e, hL] at this
    cases this
  · cases hq2 : h₀.get? q.1 with
    | none => rfl
    | some o => have := (N' q hq).2.2; rw [F.keep _ _ hq2] at this; cases this

theorem use_spec {f : Addr} {dN uN : Nat} {vs : List Value} {kw : List (Str × Value)} {R : Value → Prop} {dp un : Nat} {gd : Option (List Code)} {cn : Str} {cs : Scope} {a : Addr} {ccd : Value} {cl : List (Str × Addr)} {outer : List Env} {news : List (Addr × Obj)} {Q E : Value → Shared → Prop}
    (S : Spec w mean mg mb f dN uN vs kw R) (B : Below A₀ base outer h₀) (F : Fr h₀ L s.heap m) (X : (Mine.fk.heap_1 w.params).In h₀) (N : News h₀ L s.heap news) (T : TopM mean mg mb h₀) (hk : cs.kind = .function) (hd : dp + dN < recursionLimit) (hu : un + uN < cLine)
    (h : ∀ v h' tk', R v → Fr h₀ L h' m → News h₀ L h' news → Q v { s with heap := h', toks := tk' }) :
    wpAny (model PySem.Challenge.rw_oy0177_01.row.prog w) (ktrTop dp un gd cn cs L a ccd cl outer) (call (.ref f) vs kw) Q E s :=
  S _ _ _ _ _ _ _ _ _ _ _ _ _ _ _ _ _ B F X T hk hd hu fun v h' tk' r k => h v h' tk' r (k.fr F) (k.news N)
end
end Mine
end
theorem Mine.zz2 : True := by
  k_with_none
  w_top off
  (have : True ∧ True := by
    (try walk1)
    all_goals (first | exact trivial | exact ⟨trivial, trivial⟩))
  trivial
-- Rules6
section
open PySem PySem.W PyProof.Rows PySem.Calls
set_option Elab.async false
set_option maxRecDepth 100000
namespace Mine
section
variable {prog : Program} {w : World} {A : Around} {E : Value → Shared → Prop} {s : Shared} {h₀ : Heap} {L l : Addr} {m : Str → Option Value} {news : List (Addr × Obj)} {value slice : PySem.Expr} {its : Array Value} {vs zs : List Value} {ns : List Int} {vl vu : Value} {lo hi : Option Int} {x y : Int} {Q : Value → Shared → Prop}
/-- an item of what no name holds -/
theorem tail_ops {o i : Value} {T id : String} {ops : List Value} (hT : s.TypeIs o T)
    (hl : typeLookup (.type T) "__getitem__" = pure (some (.builtin id))) (h : wpAny (model prog w) A (getItem o i) Q E s)
    (hs : subscripted slice false o i = operate ops (getItem o i)) :
    wpAny (model prog w) A (subscriptTail value slice o i) Q E s := by
  unfold subscriptTail
  refine wpAny_bind ?_
  rw [getitemInPython_of_ne hT.not_modules]
  refine wpAny_bind (wpAny_specialOf hT hl ?_)
  have fin : wpAny (model prog w) A (subscripted slice false o i) (fun r s₃ => wpAny (model prog w) A (letTemporaryGo value o r >>= fun _ => pure r) Q E s₃) E s := by
    rw [hs]
    exact wpAny_operating (wpAny_mono h (fun r s₃ h₃ => wpAny_bind (wpAny_letTemporaryGo (wpAny_pure h₃))) fun _ _ x => x)
  first
    | exact wpAny_pure (wpAny_bind fin)
    | exact wpAny_bind (wpAny_pure (wpAny_bind fin))
    | exact wpAny_bind fin
theorem slice_temp {ms : List Int} (F : Fr h₀ L s.heap m) (N : News h₀ L s.heap news) (hl : s.heap.IsList l vs.toArray) (pl : IsPart vl lo) (pu : IsPart vu hi) (hi' : IntsAre vs ns) (hm : IntsAre (slicePick vs.toArray lo hi none).toList ms)
    (h : ∀ D ws h', Fr h₀ L h' m → News h₀ L h' ((D, listOf (List.toArray ws) 0) :: news) → (∀ p ∈ news, p.1 < D) → IntsAre ws ms → Q (.ref D) { s with heap := h' })
    (hs : subscripted slice false (.ref l) (.ref s.heap.objs.size) = operate [.ref s.heap.objs.size, .ref l] (getItem (.ref l) (.ref s.heap.objs.size))) (hz : vs.toArray.size ≤ sizeLine) :
    wpAny (model prog w) A (subscriptTail value slice (.ref l) (.ref s.heap.objs.size)) Q E { s with heap := s.heap.push { cls := .type "slice", data := .fields #[vl, vu, .none] } } := by
  refine tail_ops (Heap.IsList.typeIs (s := { s with heap := s.heap.push { cls := .type "slice", data := .fields #[vl, vu, .none] } }) (hl.push _)) list_getitem_lookup
    (wpAny_getItem_list_slice (hl.push _) (Heap.IsSliceOf.new ..) pl pu .none (by simp) ?_ hz) hs
  have N1 := News.push (F.push { cls := .type "slice", data := .fields #[vl, vu, .none] }) (N.grown fun _ _ e => Heap.get?_push_of_some _ e) { cls := .type "list", data := .seq (slicePick vs.toArray lo hi none) }
  rw [Heap.size_push] at N1
  show Q (.ref (s.heap.push _).objs.size) _
  rw [Heap.size_push]
  refine h _ (slicePick vs.toArray lo hi none).toList _ ((F.push _).push _) ?_ (fun p hp => Nat.lt_succ_of_lt (Heap.lt_size (N p hp).1)) hm
  rw [Array.toArray_toList]
  exact N1
end
end Mine
end
theorem Mine.zz3 : True := by
  k_with_none
  w_top off
  (have : True ∧ True := by
    (try walk1)
    all_goals (first | exact trivial | exact ⟨trivial, trivial⟩))
  trivial
-- Rules7
section
open PySem PySem.W PyProof.Rows PySem.Calls
set_option Elab.async false
set_option maxRecDepth 100000
namespace Mine
section
variable {prog : Program} {w : World} {A : Around} {h₀ : Heap} {L : Addr} {m : Str → Option Value} {env : Env} {s : Shared}
/-- the turns of a list comprehension whose elements each keep what stands -/
theorem rest_of {elt : Expr} {x : Str} {scope : Scope} {cl : List (Str × Addr)} {S : List (Addr × Obj) → Prop} {P : Nat → Value → Prop} {Fin : List Value → List (Addr × Obj) → Prop} {news : List (Addr × Obj)} (n : Nat) (R : Nat → Value → Prop)
    (hS : S news)
    (hEl : ∀ i v I oI C oC D ys m₂ h tk (E' : Value → Shared → Prop), i < n → P i v → LCg.NsObj oC m₂ → m₂ x = some v → Fr h₀ L h m → News h₀ L h ((I, oI) :: (C, oC) :: (D, LCg.lst ys) :: news) →
      wpAny (model prog w) A (eval elt (compEnvC scope cl C env)) (fun y s₂ => ∃ h' tk', s₂ = { s with heap := h', toks := tk' } ∧ Fr h₀ L h' m ∧ News h₀ L h' ((I, oI) :: (C, oC) :: (D, LCg.lst ys) :: news) ∧ R i y) E' { s with heap := h, toks := tk })
    (hFin : ∀ ys : List Value, ys.length = n → (∀ i y, ys[i]? = some y → R i y) → Fin ys news) :
    LCg.CompRest prog w A h₀ L m env elt x scope cl s S P Fin n 0 [] news := by
  have go : ∀ k i (ys : List Value), i + k = n → ys.length = i → (∀ j y, ys[j]? = some y → R j y) → LCg.CompRest prog w A h₀ L m env elt x scope cl s S P Fin k i ys news := by
    intro k
    induction k with
    | zero =>
      intro i ys e hl hR
      exact LCg.CompRest.zero (hFin ys (by (first | lia | omega)) hR)
    | succ k ih =>
      intro i ys e hl hR
      refine LCg.CompRest.succ fun v I oI C oC D m₂ h tk E' hP hC hx F N off _ => ?_
      refine wpAny_mono (hEl i v I oI C oC D ys m₂ h tk E' (by (first | lia | omega)) hP hC hx F N) (fun y s₂ q => ?_) fun _ _ e => e
      obtain ⟨h', tk', rfl, F', N', r⟩ := q
      refine LCg.CompEnd.intro (all := (I, oI) :: (C, oC) :: (D, LCg.lst ys) :: news) F' N' news (fun p hp => hp) off hS ?_
      refine ih (i + 1) (ys ++ [y]) (by (first | lia | omega)) (by rw [List.length_append, hl]; rfl) fun j z hz => ?_
      by_cases hj : j < ys.length
      · rw [List.getElem?_append_left hj] at hz; exact hR j z hz
      · rw [List.getElem?_append_right (by (first | lia | omega))] at hz
        have : j - ys.length = 0 := by
          rcases Nat.eq_zero_or_pos (j - ys.length) with h0 | h0
          · exact h0
          · rw [List.getElem?_eq_none (show [y].length ≤ j - ys.length from h0)] at hz; cases hz
        rw [this] at hz
        have ej : j = i := by (first | lia | omega)
        subst ej
        have : y = z := by simpa using hz
        exact this ▸ r
  exact go n 0 [] (by (first | lia | omega)) rfl (fun j y hy => by simp at hy)
end
/-- each of the values is the int that f gives -/
theorem ints_of {ys : List Value} {ns : List Int} (hl : ys.length = ns.length) (h : ∀ (i : Nat) (y : Value), ys[i]? = some y → ∃ (n : Int) (t : Tok), ns[i]? = some n ∧ y = Value.int n t) : IntsAre ys ns := by
  induction ys generalizing ns with
  | nil => cases ns with
    | nil => exact .nil
    | cons _ _ => cases hl
  | cons y r ih => cases ns with
    | nil => cases hl
    | cons n q =>
      obtain ⟨n', t, e1, rfl⟩ := h 0 y (by simp)
      have : n = n' := by simpa using e1
      subst this
      exact .cons _ _ (ih (by simpa using hl) fun i z hz => by simpa using h (i + 1) z (by simpa using hz))
section
variable {prog : Program} {w : World} {A : Around} {h₀ : Heap} {L : Addr} {m : Str → Option Value} {env : Env} {s : Shared}
/-- a list comprehension over a list of ints, its element an int of the item's -/
theorem comp_ints {elt : Expr} {x : Str} {scope : Scope} {cl : List (Str × Addr)} {ax : Addr} {vs : List Value} {ns : List Int} {Fin : List Value → List (Addr × Obj) → Prop} {news : List (Addr × Obj)} (f : Int → Int)
    (hi : IntsAre vs ns) (hS : LCg.SrcAt h₀ ax vs.toArray news)
    (hEl : ∀ n t I oI C oC D ys m₂ h tk (E' : Value → Shared → Prop), n ∈ ns → LCg.NsObj oC m₂ → m₂ x = some (.int n t) → Fr h₀ L h m → News h₀ L h ((I, oI) :: (C, oC) :: (D, LCg.lst ys) :: news) →
      wpAny (model prog w) A (eval elt (compEnvC scope cl C env)) (fun y s₂ => ∃ h' tk', s₂ = { s with heap := h', toks := tk' } ∧ Fr h₀ L h' m ∧ News h₀ L h' ((I, oI) :: (C, oC) :: (D, LCg.lst ys) :: news) ∧ IntIs (f n) y) E' { s with heap := h, toks := tk })
    (hFin : ∀ ys : List Value, IntsAre ys (ns.map f) → Fin ys news) :
    LCg.CompRest prog w A h₀ L m env elt x scope cl s (LCg.SrcAt h₀ ax vs.toArray) (fun i v => vs.toArray[i]? = some v) Fin vs.toArray.size 0 [] news := by
  have hlen : vs.toArray.size = ns.length := by rw [List.size_toArray, hi.length]
  rw [hlen]
  refine rest_of ns.length (fun i y => ∃ (n : Int) (t : Tok), (ns.map f)[i]? = some n ∧ y = Value.int n t) hS ?_ ?_
  · intro i v I oI C oC D ys m₂ h tk E' hin hP hC hx F N
    have hv : vs[i]? = some v := by simpa using hP
    obtain ⟨n, t, rfl, hn⟩ := hi.at i v hv
    refine wpAny_mono (hEl n t I oI C oC D ys m₂ h tk E' (List.mem_of_getElem? hn) hC hx F N) (fun y s₂ q => ?_) fun _ _ e => e
    obtain ⟨h', tk', e, F', N', ⟨t', rfl⟩⟩ := q
    exact ⟨h', tk', e, F', N', f n, t', by simp [hn], rfl⟩
  · intro ys hl hR
    exact hFin ys (ints_of (by rw [hl, List.length_map]) hR)
end
end Mine
end
theorem Mine.zz4 : True := by
  k_with_none
  w_top off
  (have : True ∧ True := by
    (try walk1)
    all_goals (first | exact trivial | exact ⟨trivial, trivial⟩))
  trivial
-- Gen
section
open PySem PySem.W PyProof.Rows PySem.Calls
set_option Elab.async false
set_option maxRecDepth 100000
namespace Mine
/-- the statement's continuation, known by a name alone: the terms of the walk stay small -/
def Back {α : Type} (Q : α → Shared → Prop) : α → Shared → Prop := Q
def Imp {α : Type} (Q Q₁ : α → Shared → Prop) : Prop := ∀ v s, Q v s → Q₁ v s
theorem back_of {α : Type} {Q Q₁ : α → Shared → Prop} {v : α} {s : Shared} (i : Imp Q Q₁) (h : Q v s) : Back Q₁ v s := i v s h
section
variable {prog : Program} {w : World} {A : Around} {st : Stmt} {rest : List Stmt} {env : Env} {s : Shared} {E : Value → Shared → Prop}
theorem gen_cons1 {Q : Flow → Shared → Prop}
    (h : ∀ Q₁, Imp (fun f s' => match f with | .next => wpAny (model prog w) A (execs rest env) (Back Q) E s' | f => Back Q f s') Q₁ → wpAny (model prog w) A (exec st env) (Back Q₁) E s) :
    wpAny (model prog w) A (execs (st :: rest) env) (Back Q) E s := wpAny_execs_cons (h _ fun _ _ x => x)
theorem gen_cons2 {Q : Flow → Shared → Prop}
    (h : ∀ Q₀, Imp Q Q₀ → ∀ Q₁, Imp (fun f s' => match f with | .next => wpAny (model prog w) A (execs rest env) (Back Q₀) E s' | f => Back Q₀ f s') Q₁ → wpAny (model prog w) A (exec st env) (Back Q₁) E s) :
    wpAny (model prog w) A (execs (st :: rest) env) Q E s := gen_cons1 (h Q fun _ _ x => x)
end
theorem tup2 {A0 A1 : Type} {P : A0 × A1 → Prop} (h : ∀ x0 x1, P (x0, x1)) : ∀ c, P c := fun (x0, x1) => h x0 x1
theorem tup3 {A0 A1 A2 : Type} {P : A0 × A1 × A2 → Prop} (h : ∀ x0 x1 x2, P (x0, x1, x2)) : ∀ c, P c := fun (x0, x1, x2) => h x0 x1 x2
theorem tup7 {A0 A1 A2 A3 A4 A5 A6 : Type} {P : A0 × A1 × A2 × A3 × A4 × A5 × A6 → Prop} (h : ∀ x0 x1 x2 x3 x4 x5 x6, P (x0, x1, x2, x3, x4, x5, x6)) : ∀ c, P c := fun (x0, x1, x2, x3, x4, x5, x6) => h x0 x1 x2 x3 x4 x5 x6
theorem tup10 {A0 A1 A2 A3 A4 A5 A6 A7 A8 A9 : Type} {P : A0 × A1 × A2 × A3 × A4 × A5 × A6 × A7 × A8 × A9 → Prop} (h : ∀ x0 x1 x2 x3 x4 x5 x6 x7 x8 x9, P (x0, x1, x2, x3, x4, x5, x6, x7, x8, x9)) : ∀ c, P c := fun (x0, x1, x2, x3, x4, x5, x6, x7, x8, x9) => h x0 x1 x2 x3 x4 x5 x6 x7 x8 x9
end Mine
end
theorem Mine.zz5 : True := by
  k_with_none
  w_top off
  (have : True ∧ True := by
    (try walk1)
    all_goals (first | exact trivial | exact ⟨trivial, trivial⟩))
  trivial
-- T10
section
open PySem PySem.W PyProof.Rows PySem.Calls
set_option Elab.async false
set_option maxRecDepth 100000
set_option maxHeartbeats 8000000
set_option linter.unusedSimpArgs false
namespace Mine

/-- the figure that a number draws -/
def figF (x : Int) : Int := if x.fmod 8 = 0 then 62 else if x.fmod 8 = 1 then 63 else if x.fmod 8 = 2 then 26 else if x.fmod 8 = 3 then 38 else if x.fmod 8 = 4 then 41 else if x.fmod 8 = 5 then 0 else if x.fmod 8 = 6 then 61 else 26 + (x.fdiv 8).fmod 38
theorem figure_spec (w : World) (mean : ExcName → Option Value) (mg mb : Str → Option Value) (x : Int) (t : Tok) : Spec w mean mg mb 167 1 10 [.int x t] [] (IntIs (figF x)) := by
  unfold Spec
  k_fill
  intro dp un gd cn cs a ccd cl outer A₀ base h₀ L m s Q E B F X T hk hd hu hret
  refine wpAny_call ?_
  k_dflt ((refine' enter_def ?k1 ?k2 ?k3 ?k5 ?kA ?kF ?kK ?k6 ?k7 ?k8 ?k9 ?kB ?_ ?c2 ?c3 ?c4 ?c5; (case kA => exact rfl); (case kF => exact rfl); (case kK => assumption); (case k1 => k_asm); (case k2 => k_asm); (case k3 => k_asm); (case k5 => k_asm); (case k6 => k_is); (case k7 => k_is); (case k8 => ktr_room); (case k9 => first | exact BindsTo.of_eq rfl | (refine' kp_binds ?kx ?ke; (case kx => k_in); (case ke => exact fun _ => rfl))); (case c5 => decide); (case kB => exact locs rfl); (case c2 => exact rfl); (case c3 => exact rfl); (case c4 => exact rfl); k_whole; intro L' h' F' N' B' X' T'; (try dsimp only); (try k_lift B'); (try k_fold)))
  (repeat' (first | (k_unfold; (try dsimp only)) | ((with_reducible show wpAny _ _ (execs (_ :: _) _) _ _ _); k_here; (try k_made); (try k_gentoks); first | ((with_reducible refine gen_cons1 ?_); intro _ _) | ((with_reducible refine gen_cons2 ?_); intro _ _ _ _)) | ((with_reducible show Back _ _ _); (refine back_of (by with_reducible assumption) ?_); (try dsimp only)) | ((with_reducible show wpAny _ _ (call _ [Value.bytes _ _]) _ _ _); refine call_type_of (Tx := "bytes") rfl (by decide +kernel) ?_) | (k_end; wrow_close) | walk1 | (dsimp only; (first | ((with_reducible show wpAny _ _ (execs (_ :: _) _) _ _ _); k_here; (try k_made); (try k_gentoks); first | ((with_reducible refine gen_cons1 ?_); intro _ _) | ((with_reducible refine gen_cons2 ?_); intro _ _ _ _)) | ((with_reducible show Back _ _ _); (refine back_of (by with_reducible assumption) ?_); (try dsimp only)) | ((with_reducible show wpAny _ _ (call _ [Value.bytes _ _]) _ _ _); refine call_type_of (Tx := "bytes") rfl (by decide +kernel) ?_) | walk1)) | (leave1; walk_say "STEP leave1"; try dsimp only) | fail "no step"))
  all_goals (refine ret_int (Q := Q) (s := s) hret (by assumption) ?_; clear hret; unfold figF; generalize x.fmod 8 = r at *; (repeat' split) <;> omega)
end Mine
end
theorem Mine.zz6 : True := by
  k_with_none
  w_top off
  (have : True ∧ True := by
    (try walk1)
    all_goals (first | exact trivial | exact ⟨trivial, trivial⟩))
  trivial
-- MBase
section
open PySem PySem.W PyProof.Rows PySem.Calls PySem.W.X
set_option Elab.async false
set_option maxRecDepth 100000
namespace Mine
theorem dt (c : Code) : denote table c = ZFast.zw11892475500146522536 ZFast.tableZ c := by
  rw [ZFast.tableZ_eq]
  exact congrFun (congrFun ZFast.ze11892475500146522536 _) _
/-- in a list of objects, the one at a is another now -/
inductive Put (a : Addr) (o o' : Obj) : List (Addr × Obj) → List (Addr × Obj) → Prop where
  | head {r} : Put a o o' ((a, o) :: r) ((a, o') :: r)
  | tail {p r r'} : Put a o o' r r' → Put a o o' (p :: r) (p :: r')
theorem Put.at {a : Addr} {o o' : Obj} {l l' : List (Addr × Obj)} (h : Put a o o' l l') : ∃ i, l[i]? = some (a, o) ∧ l' = l.set i (a, o') := by
  induction h with
  | head => exact ⟨0, rfl, rfl⟩
  | tail _ ih => obtain ⟨i, h1, h2⟩ := ih; exact ⟨i + 1, h1, by rw [h2]; rfl⟩
section
variable {α : Type} {prog : Program} {w : World} {A : Around} {E : Value → Shared → Prop} {s : Shared} {Q : α → Shared → Prop} {h₀ h : Heap} {g : Array GenState} {d : Drawn} {t : Nat} {os : OsState} {news news' : List (Addr × Obj)} {K : Frag}
theorem m_bf {p q : Sem α} {b : Bool} (e : b = false) (h : wpAny (model prog w) A p Q E s) : wpAny (model prog w) A (@Bool.rec (fun _ => Sem α) p q b) Q E s := by subst e; exact h
theorem m_bt {p q : Sem α} {b : Bool} (e : b = true) (h : wpAny (model prog w) A q Q E s) : wpAny (model prog w) A (@Bool.rec (fun _ => Sem α) p q b) Q E s := by subst e; exact h
theorem m_cf {p q : Sem α} {b : Bool} (e : b = false) (h : wpAny (model prog w) A q Q E s) : wpAny (model prog w) A (cond b p q) Q E s := by subst e; exact h
theorem m_ct {p q : Sem α} {b : Bool} (e : b = true) (h : wpAny (model prog w) A p Q E s) : wpAny (model prog w) A (cond b p q) Q E s := by subst e; exact h
theorem m_bind {β : Type} {m : Sem β} {f : β → Sem α} (h : wpAny (model prog w) A m (fun a s' => wpAny (model prog w) A (f a) Q E s') E s) : wpAny (model prog w) A (m.bind f) Q E s := wpAny_bind h
theorem m_bindR {β : Type} {m : Sem β} {f : β → Sem α} (h : wpAny (model prog w) A m (fun a s' => wpAny (model prog w) A (f a) Q E s') E s) : wpAny (model prog w) A (R.bindR m f) Q E s := by rw [← R.bindR_eq]; exact wpAny_bind h
theorem m_onRaiseR {m : Sem α} {k : Value → Sem Unit} (h : wpAny (model prog w) A m Q (fun e s' => wpAny (model prog w) A (k e) (fun _ s'' => E e s'') E s') s) : wpAny (model prog w) A (R.onRaiseR m k) Q E s := by rw [← R.onRaiseR_eq]; exact wpAny_onRaise h
theorem m_tryR {m : Sem α} {k : Value → Sem α} (h : wpAny (model prog w) A m Q (fun e s' => wpAny (model prog w) A (k e) Q E s') s) : wpAny (model prog w) A (R.catchR m k) Q E s := by rw [← R.catchR_eq]; exact wpAny_tryCatch h
theorem m_keepR {m : Sem α} {vs : List Value} (h : wpAny (model prog w) A m Q E s) : wpAny (model prog w) A (R.keepR vs m) Q E s := by rw [← R.keepR_eq]; exact wpAny_keep h
theorem m_onRaise {m : Sem α} {k : Value → Sem Unit} (h : wpAny (model prog w) A m Q (fun e s' => wpAny (model prog w) A (k e) (fun _ s'' => E e s'') E s') s) : wpAny (model prog w) A (m.onRaise k) Q E s := wpAny_onRaise h
theorem m_try {m : Sem α} {k : Value → Sem α} (h : wpAny (model prog w) A m Q (fun e s' => wpAny (model prog w) A (k e) Q E s') s) : wpAny (model prog w) A (m.tryCatch k) Q E s := wpAny_tryCatch h
theorem m_keep {m : Sem α} {vs : List Value} (h : wpAny (model prog w) A m Q E s) : wpAny (model prog w) A (m.keep vs) Q E s := wpAny_keep h
theorem m_call {c' : Code} {hd : Option Value} {g : Bool} {l : List Value} {k : Result → Sem α} (x : codeAny (model prog w) (A.mark hd) c' (postA prog w A Q E k) s) (hnb : hd ≠ some byPass) : wpAny (model prog w) A (.call c' hd g l k) Q E s := x_call x hnb
theorem m_code {R : Result → Shared → Prop} {c : Code} {t : Sem Fin} (e : ZFast.zw11892475500146522536 ZFast.tableZ c = t) (h : wpAny (model prog w) (A.under c) t (postC prog w A R) (postE R) s) : codeAny (model prog w) A c R s := by
  refine x_code ?_
  rw [dt, e]
  exact wpAny_mono h (fun fin s' x => by cases fin <;> exact x) fun _ _ x => x
theorem m_done {R : Result → Shared → Prop} {f : Flow} (h : R (.ok f) s) : postC prog w A R (.done f) s := h
theorem m_again {R : Result → Shared → Prop} {c : Code} (h : codeAny (model prog w) A c R s) (q : c.quiet = true) : postC prog w A R (.again c) s := ⟨q, h⟩
theorem m_back {k : Result → Sem α} {r : Result} (h : wpAny (model prog w) A (k r) Q E s) : postA prog w A Q E k r s := h
theorem m_load {a : Addr} {q : Option Value} {k : Obj → Sem α} {o : Obj} (D : Mem h₀ h [] news) (hm : (a, o) ∈ news) (x : wpAny (model prog w) A (k o) Q E ⟨h, g, d, t, os⟩) : wpAny (model prog w) A (.load a q k) Q E ⟨h, g, d, t, os⟩ := x_load (D.nw _ hm).1 x
theorem m_old {a : Addr} {q : Option Value} {k : Obj → Sem α} {o : Obj} (D : Mem h₀ h [] news) (e : h₀.get? a = some o) (x : wpAny (model prog w) A (k o) Q E ⟨h, g, d, t, os⟩) : wpAny (model prog w) A (.load a q k) Q E ⟨h, g, d, t, os⟩ := x_load (D.keep _ _ e (by show (_ || true) = true; rw [Bool.or_true])) x
theorem m_fresh {k : Tok → Sem α} (x : wpAny (model prog w) A (k t) Q E ⟨h, g, d, t + 1, os⟩) : wpAny (model prog w) A (.fresh k) Q E ⟨h, g, d, t, os⟩ := x_fresh x
/-- the newest of the list lies below -/
def TopLt (a : Nat) : List (Addr × Obj) → Prop
  | [] => True
  | p :: _ => @LT.lt Nat _ p.1 a
theorem topLt_of {a : Nat} : ∀ {l : List (Addr × Obj)}, (∀ p ∈ l, p.1 < a) → TopLt a l
  | [], _ => trivial
  | p :: _, h => h p (.head _)
theorem m_alloc {o o₂ : Obj} {k : Addr → Sem α} (D : Mem h₀ h [] news) (e : h₀.get? 200 = some o₂) (x : ∀ a h', Mem h₀ h' [] ((a, o) :: news) → TopLt a news → @LT.lt Nat _ 200 a → wpAny (model prog w) A (k a) Q E ⟨h', g, d, t, os⟩) (hf : o.isFreed = false) : wpAny (model prog w) A (.alloc o k) Q E ⟨h, g, d, t, os⟩ := by
  obtain ⟨o', e'⟩ := D.there e
  exact wpAny_bind (m := alloc o) (f := k) (wpAny_alloc (x _ _ (D.alloc hf) (topLt_of fun p hp => Heap.lt_size (D.nw p hp).1) (Heap.lt_size e')))
theorem m_update {a : Addr} {q : Option Value} {f : Obj → Obj} {k : Unit → Sem α} {o o' : Obj} (D : Mem h₀ h [] news) (U : Put a o o' news news') (e : f o = o') (hf : o'.isFreed = false) (x : ∀ h', Mem h₀ h' [] news' → wpAny (model prog w) A (k ()) Q E ⟨h', g, d, t, os⟩) :
    wpAny (model prog w) A (.update a q f k) Q E ⟨h, g, d, t, os⟩ := by
  obtain ⟨i, h1, h2⟩ := U.at
  subst e
  have D' := D.update h1 hf
  rw [← h2] at D'
  exact wpAny_bind (m := updatePart a q f) (f := k) (wpAny_updatePart (D.at i a o h1) (x _ D'))
theorem m_stack {k : List (Code × Pos) → Sem α} (x : ∀ st, Lies A st → wpAny (model prog w) A (k st) Q E s) : wpAny (model prog w) A (.stack k) Q E s := fun Γ p hΓ => x _ (lies_of hΓ) Γ p hΓ
theorem m_handled {k : Option Value → Sem α} (x : wpAny (model prog w) A (k A.handled) Q E s) : wpAny (model prog w) A (.handled false k) Q E s := x_handled x
theorem m_alive {a : Addr} {k : Option Obj → Sem α} {o : Obj} (D : Mem h₀ h [] news) (hm : (a, o) ∈ news) (x : wpAny (model prog w) A (k (some o)) Q E ⟨h, g, d, t, os⟩) : wpAny (model prog w) A (.loadIfAlive a k) Q E ⟨h, g, d, t, os⟩ := by
  intro Γ p hΓ
  show Sem.wp _ _ (k (h.get? a)) _ _ _ _
  rw [(D.nw _ hm).1]; exact x Γ p hΓ
theorem filt_self (a : Addr) (tl : List Value) : R.filterR (fun x => x != Value.ref a) (Value.ref a :: tl) = R.filterR (fun x => x != Value.ref a) tl := by rw [← R.filterR_eq]; simp
theorem m_anyM {A' : Around} {Q' : Bool → Shared → Prop} {inst : Monad Sem} {β : Type} {f : β → Sem Bool} {l l' : List β} (e : l = l') (h : wpAny (model prog w) A' (@List.anyM Sem inst β f l') Q' E s) : wpAny (model prog w) A' (@List.anyM Sem inst β f l) Q' E s := by subst e; exact h
theorem filt_one (a : Addr) (n : String) : R.filterR (fun x => x != Value.ref a) (Value.ref a :: [Value.type n]) = [Value.type n] := by rw [filt_self, ← R.filterR_eq]; rfl
theorem beq_ne {a b : Nat} (h : a ≠ b) : (a == b) = false := by simpa using h
end
end Mine
end
theorem Mine.zz7 : True := by
  k_with_none
  w_top off
  (have : True ∧ True := by
    (try walk1)
    all_goals (first | exact trivial | exact ⟨trivial, trivial⟩))
  trivial
-- MNorm
section
open PySem PySem.W PyProof.Rows PySem.Calls PySem.W.X
set_option Elab.async false
set_option maxRecDepth 100000
namespace Mine
def tokOf : Value → Tok
  | .str _ t => t
  | .int _ t => t
  | _ => 0
def keyTok (o : Obj) (i : Nat) : Tok := match o with
  | ⟨_, _, .dict es _, _⟩ => tokOf ((es[i]?).map (·.key) |>.getD .none)
  | _ => 0
def valAt (o : Obj) (i : Nat) : Value := match o with
  | ⟨_, _, .dict es _, _⟩ => (es[i]?).map (·.val) |>.getD .none
  | _ => .none
def slotAt (o : Obj) (i : Nat) : Value := ((o.slots[i]?).getD none).getD .none
abbrev clsA (C nsd : Addr) (T : Value) (t1 t2 : Tok) : Obj :=
  { cls := .type "type", data := .cls { name := Str.ofString "K", bases := [.type "object"], mro := [.ref C, .type "object"], ns := nsd, qualname := Str.ofString "cmp_to_key.<locals>.K" },
    slots := #[some T, none, some (.str (Str.ofString "K") t1), some (.str (Str.ofString "cmp_to_key.<locals>.K") t2), some (.builtin "object.__new__")] }
abbrev entryO (P : Params) (x : Str) (t : Tok) (v : Value) : DictEntry := ⟨PyData.keyHash P x, .str x t, v⟩
noncomputable def zHash (P : Params) (x : Str) : Int := PySem.W.X.condFn Int x.cps.isEmpty 0 (PySem.W.ZFast.zw12210062019545310541 (P.strHash x.cps))
theorem zHash_eq (P : Params) (x : Str) : zHash P x = PyData.keyHash P x := by
  unfold zHash PyData.keyHash
  rw [← PySem.W.ZFast.ze12210062019545310541]
  cases x.cps.isEmpty <;> rfl
noncomputable abbrev entryZ (P : Params) (x : Str) (t : Tok) (v : Value) : DictEntry := ⟨zHash P x, .str x t, v⟩
theorem entryZ_eq (P : Params) (x : Str) (t : Tok) (v : Value) : entryZ P x t v = entryO P x t v := by unfold entryZ; rw [zHash_eq]
noncomputable abbrev nsZ (P : Params) (tk : Nat → Tok) (t0 t1 : Tok) (ls ini lt gt eq le ge st : Addr) : Obj :=
  { cls := .type "dict", data := .dict #[entryZ P (Str.ofString "__module__") (tk 0) (.str (Str.ofString "cpy313.functools") t0), entryZ P (Str.ofString "__firstlineno__") (tk 1) (.int 7 t1), entryZ P (Str.ofString "__slots__") (tk 2) (.ref ls),
      entryZ P (Str.ofString "__init__") (tk 3) (.ref ini), entryZ P (Str.ofString "__lt__") (tk 4) (.ref lt), entryZ P (Str.ofString "__gt__") (tk 5) (.ref gt), entryZ P (Str.ofString "__eq__") (tk 6) (.ref eq),
      entryZ P (Str.ofString "__le__") (tk 7) (.ref le), entryZ P (Str.ofString "__ge__") (tk 8) (.ref ge), entryZ P (Str.ofString "__hash__") (tk 9) .none, entryZ P (Str.ofString "__static_attributes__") (tk 10) (.ref st)] 1 }
abbrev esA (P : Params) (tk : Nat → Tok) (t0 t1 : Tok) (ls ini lt gt eq le ge st : Addr) : Array DictEntry :=
  #[entryO P (Str.ofString "__module__") (tk 0) (.str (Str.ofString "cpy313.functools") t0), entryO P (Str.ofString "__firstlineno__") (tk 1) (.int 7 t1), entryO P (Str.ofString "__slots__") (tk 2) (.ref ls),
      entryO P (Str.ofString "__init__") (tk 3) (.ref ini), entryO P (Str.ofString "__lt__") (tk 4) (.ref lt), entryO P (Str.ofString "__gt__") (tk 5) (.ref gt), entryO P (Str.ofString "__eq__") (tk 6) (.ref eq),
      entryO P (Str.ofString "__le__") (tk 7) (.ref le), entryO P (Str.ofString "__ge__") (tk 8) (.ref ge), entryO P (Str.ofString "__hash__") (tk 9) .none, entryO P (Str.ofString "__static_attributes__") (tk 10) (.ref st)]
abbrev nsA (P : Params) (tk : Nat → Tok) (t0 t1 : Tok) (ls ini lt gt eq le ge st : Addr) : Obj :=
  { cls := .type "dict", data := .dict (esA P tk t0 t1 ls ini lt gt eq le ge st) 1 }
section
variable {α : Type} {M : Model} {A : Around} {E : Value → Shared → Prop} {Q : α → Shared → Prop} {h₀ h : Heap} {g : Array GenState} {d : Drawn} {t : Nat} {os : OsState} {T : Sem α}
theorem m_kf {b : Bool} {x y : Sem α} {s : Shared} (e : b = false) (h : wpAny M A y Q E s) : wpAny M A (PySem.W.X.condFn (Sem α) b x y) Q E s := by subst e; exact h
theorem m_kt {b : Bool} {x y : Sem α} {s : Shared} (e : b = true) (h : wpAny M A x Q E s) : wpAny M A (PySem.W.X.condFn (Sem α) b x y) Q E s := by subst e; exact h
theorem zin_self (inst : DecidableEq Value) (C : Addr) (l : List Value) : @ZFast.zw3471404346716756564 Value (@instBEqOfDecidableEq Value inst) (Value.ref C :: l) (Value.ref C) = true := by
  rw [← ZFast.ze3471404346716756564]; simp
theorem and_rf {a b : Bool} (h : b = false) : (a && b) = false := by rw [h, Bool.and_false]
theorem m_lrec {β : Type} {nil : β → Sem α} {cons : Value → List Value → (β → Sem α) → β → Sem α} {l l' : List Value} {b : β} {s : Shared} (e : l = l') (h : wpAny M A (@List.rec Value (fun _ => β → Sem α) nil cons l' b) Q E s) : wpAny M A (@List.rec Value (fun _ => β → Sem α) nil cons l b) Q E s := by subst e; exact h
theorem zdrop (C : Addr) (n : String) : List.drop 1 (List.dropWhile (fun x => x != Value.ref C) [Value.ref C, Value.type n]) = [Value.type n] := by
  simp [List.dropWhile_cons]
theorem m_norm (P : Params) {C N ls ini lt gt eq le ge st : Addr} {o on : Obj} {o2 o3 o4 o5 o6 o7 o8 o9 : Obj} {news : List (Addr × Obj)} {r : List (Addr × Obj)} (D : Mem h₀ h [] news)
    (e : news = (C, o) :: (N, on) :: r)
    (x2 : news[51]? = some (ls, o2)) (x3 : news[44]? = some (ini, o3)) (x4 : news[36]? = some (lt, o4)) (x5 : news[28]? = some (gt, o5)) (x6 : news[20]? = some (eq, o6)) (x7 : news[12]? = some (le, o7)) (x8 : news[4]? = some (ge, o8)) (x9 : news[3]? = some (st, o9))
    (q : o = clsA C N (slotAt o 0) (tokOf (slotAt o 2)) (tokOf (slotAt o 3))) (qn : on = nsZ P (keyTok on) (tokOf (valAt on 0)) (tokOf (valAt on 1)) ls ini lt gt eq le ge st)
    (k : ∀ T' t1 t2 tk t3 t4, Mem h₀ h [] ((C, clsA C N T' t1 t2) :: (N, nsA P tk t3 t4 ls ini lt gt eq le ge st) :: r) → wpAny M A T Q E ⟨h, g, d, t, os⟩) : wpAny M A T Q E ⟨h, g, d, t, os⟩ := by
  subst e
  simp only [nsZ, entryZ_eq] at qn
  have D' : Mem h₀ h [] ((C, clsA C N (slotAt o 0) (tokOf (slotAt o 2)) (tokOf (slotAt o 3))) :: (N, nsA P (keyTok on) (tokOf (valAt on 0)) (tokOf (valAt on 1)) ls ini lt gt eq le ge st) :: r) := by
    rw [← q]
    have e2 : nsA P (keyTok on) (tokOf (valAt on 0)) (tokOf (valAt on 1)) ls ini lt gt eq le ge st = on := qn.symm
    rw [e2]
    exact D
  exact k _ _ _ _ _ _ D'
end
end Mine
end
theorem Mine.zz8 : True := by
  k_with_none
  w_top off
  (have : True ∧ True := by
    (try walk1)
    all_goals (first | exact trivial | exact ⟨trivial, trivial⟩))
  trivial
-- KeyK
section
open PySem PySem.W PyProof.Rows PySem.Calls
set_option Elab.async false
set_option maxRecDepth 100000
namespace Mine
abbrev clsO (C nsd : Addr) (T : Value) (t1 t2 : Tok) : Obj :=
  { cls := .type "type", data := .cls { name := Str.ofString "K", bases := [.type "object"], mro := [.ref C, .type "object"], ns := nsd, qualname := Str.ofString "cmp_to_key.<locals>.K", hasDict := false, slotNames := [Str.ofString "obj"] },
    slots := #[some T, none, some (.str (Str.ofString "K") t1), some (.str (Str.ofString "cmp_to_key.<locals>.K") t2), some (.builtin "object.__new__"), some (.bool false)] }
abbrev nsO (P : Params) (tk : Nat → Tok) (t0 t1 : Tok) (ls ini lt gt eq le ge st ds : Addr) : Obj :=
  { cls := .type "dict", data := .dict (esA P tk t0 t1 ls ini lt gt eq le ge st ++ #[entryO P (Str.ofString "obj") (tk 11) (.ref ds), entryO P (Str.ofString "__doc__") (tk 12) .none]) 3 }
abbrev dsO (C : Addr) (t u : Tok) : Obj := { cls := .type "member_descriptor", data := .fields #[.str (Str.ofString "obj") t, .ref C, .builtin "proto.slot", .builtin "proto.slot#set", .int 0 u] }
/-- what a fragment says of the class that cmp_to_key makes -/
structure KeyK (K : Frag) (C N ds ini lt : Addr) : Prop where
  cls : ∃ T t1 t2, K.lookup C = some (clsO C N T t1 t2)
  ns : ∃ P tk t0 t1 ls gt eq le ge st, K.lookup N = some (nsO P tk t0 t1 ls ini lt gt eq le ge st ds)
  ds : ∃ t u, K.lookup ds = some (dsO C t u)
  ini : ∃ fd, K.lookup ini = some { cls := .type "function", data := .func fd }
  lt : ∃ fd, K.lookup lt = some { cls := .type "function", data := .func fd }
section
variable {K : Frag} {C N ds ini lt : Addr} (H : KeyK K C N ds ini lt)
include H
theorem KeyK.cd : ∃ cd, clsIn K C = some cd ∧ cd.mro = [.ref C, .type "object"] ∧ cd.ns = N ∧ cd.hasDict = false ∧ cd.slotNames = [Str.ofString "obj"] ∧ cd.abstract = false ∧ cd.hasDel = false := by
  obtain ⟨T, t1, t2, e⟩ := H.cls
  exact ⟨_, by unfold clsIn; rw [e], rfl, rfl, rfl, rfl, rfl, rfl⟩
theorem KeyK.along (name : Str) : findIn K (.ref C) name = alongIn K name [.ref C, .type "object"] := by
  obtain ⟨T, t1, t2, e⟩ := H.cls
  unfold findIn; dsimp only; rw [e]
theorem KeyK.own (name : Str) : ownIn K name (.ref C) = nsIn K N name := by
  obtain ⟨T, t1, t2, e⟩ := H.cls
  unfold ownIn; dsimp only; rw [e]
theorem KeyK.find_ini : findIn K (.ref C) "__init__" = some (some (.ref ini)) := by
  obtain ⟨P, tk, t0, t1, ls, gt, eq, le, ge, st, e⟩ := H.ns
  rw [H.along]; unfold alongIn; rw [H.own]; unfold nsIn; rw [e]; rfl
theorem KeyK.find_lt : findIn K (.ref C) "__lt__" = some (some (.ref lt)) := by
  obtain ⟨P, tk, t0, t1, ls, gt, eq, le, ge, st, e⟩ := H.ns
  rw [H.along]; unfold alongIn; rw [H.own]; unfold nsIn; rw [e]; rfl
theorem KeyK.find_obj : findIn K (.ref C) "obj" = some (some (.ref ds)) := by
  obtain ⟨P, tk, t0, t1, ls, gt, eq, le, ge, st, e⟩ := H.ns
  rw [H.along]; unfold alongIn; rw [H.own]; unfold nsIn; rw [e]; rfl
theorem KeyK.find_none (name : Str) {r : Option Value} (h : ∀ P tk t0 t1 ls gt eq le ge st, ((esA P tk t0 t1 ls ini lt gt eq le ge st ++ #[entryO P (Str.ofString "obj") (tk 11) (.ref ds), entryO P (Str.ofString "__doc__") (tk 12) .none]).toList.find? (·.key.isStr name)) = none)
    (hb : fastBuiltinOwn "object" name = r) (hr : alongIn K name [] = some none) : findIn K (.ref C) name = some r := by
  obtain ⟨P, tk, t0, t1, ls, gt, eq, le, ge, st, e⟩ := H.ns
  rw [H.along]; unfold alongIn; rw [H.own]; unfold nsIn; rw [e]; dsimp only; rw [h]; dsimp only
  rw [if_neg (by simp [DictEntry.refKey])]
  dsimp only
  unfold alongIn ownIn
  dsimp only
  rw [hb, hr]
  cases r <;> rfl
theorem KeyK.typ : typeIn K (.ref C) = some (.type "type") := by
  obtain ⟨T, t1, t2, e⟩ := H.cls
  unfold typeIn; dsimp only; rw [e]; rfl
theorem KeyK.typ_ds : typeIn K (.ref ds) = some (.type "member_descriptor") := by
  obtain ⟨t, u, e⟩ := H.ds
  unfold typeIn; dsimp only; rw [e]; rfl
theorem KeyK.typ_ini : typeIn K (.ref ini) = some (.type "function") := by
  obtain ⟨fd, e⟩ := H.ini
  unfold typeIn; dsimp only; rw [e]; rfl
theorem KeyK.typ_lt : typeIn K (.ref lt) = some (.type "function") := by
  obtain ⟨fd, e⟩ := H.lt
  unfold typeIn; dsimp only; rw [e]; rfl
theorem KeyK.isCls : isClsIn K C = true := by
  obtain ⟨cd, e, _⟩ := H.cd
  unfold isClsIn; rw [e]; rfl
theorem KeyK.slot : slotIn K ds C = some 0 := by
  obtain ⟨cd, e, h1, h2, h3, h4, h5, h6⟩ := H.cd
  obtain ⟨t, u, e2⟩ := H.ds
  unfold slotIn recIn; rw [e, e2]
  dsimp only
  rw [if_pos (by decide)]
  dsimp only
  rw [h1, h4]
  simp
theorem KeyK.getattribute : findIn K (.ref C) "__getattribute__" = some (some (.builtin "object.__getattribute__")) :=
  H.find_none _ (fun _ _ _ _ _ _ _ _ _ _ => rfl) (by kernel_rfl) rfl
theorem KeyK.getattr : findIn K (.ref C) "__getattr__" = some none :=
  H.find_none _ (fun _ _ _ _ _ _ _ _ _ _ => rfl) (by kernel_rfl) rfl
theorem KeyK.setattr : findIn K (.ref C) "__setattr__" = some (some (.builtin "object.__setattr__")) :=
  H.find_none _ (fun _ _ _ _ _ _ _ _ _ _ => rfl) (by kernel_rfl) rfl
theorem KeyK.plainG (name : Str) : plainGet K C name = true := by
  unfold plainGet; rw [H.getattribute, H.getattr]; simp
theorem KeyK.ds_get : specialIn K (.ref ds) "__get__" = some (some (.builtin "member_descriptor.__get__")) := by
  unfold specialIn; rw [H.typ_ds]; kernel_rfl
theorem KeyK.ds_takes : takesIn K (.ref ds) = some true := by
  unfold takesIn specialIn; rw [H.typ_ds]; kernel_rfl
theorem KeyK.over : plainOver K C = true := by
  obtain ⟨cd, e, h1, _⟩ := H.cd
  unfold plainOver; rw [e, Option.any_some, h1]; rfl
theorem KeyK.taker : takerIn K C "obj" = some (some (.ref ds)) := by
  unfold takerIn; rw [H.find_obj]
  show Option.map _ (takesIn K (.ref ds)) = _
  rw [H.ds_takes]; rfl
theorem KeyK.makes : makesIn K C = true := by
  obtain ⟨T, t1, t2, e⟩ := H.cls
  unfold makesIn; rw [e]
  dsimp only
  have h1 : specialIn K (.ref C) "__call__" = some (some (.builtin "type.__call__")) := by unfold specialIn; rw [H.typ]; kernel_rfl
  have h2 : instIn K (.ref C) (.type "type") = some true := by unfold instIn; rw [H.typ]; kernel_rfl
  rw [h1, h2]
  simp
theorem KeyK.fn_lt : isFn K (.ref lt) = true := by unfold isFn; rw [H.typ_lt]; simp
end
end Mine
end
theorem Mine.zz9 : True := by
  k_with_none
  w_top off
  (have : True ∧ True := by
    (try walk1)
    all_goals (first | exact trivial | exact ⟨trivial, trivial⟩))
  trivial
-- KeyI
section
open PySem PySem.W PyProof.Rows PySem.Calls
set_option Elab.async false
set_option maxRecDepth 100000
namespace Mine
/-- an object of the heap as the top leaves it -/
noncomputable def topObj (P : Params) (a : Addr) : Obj := ((Mine.fk.heap_1 P).lookup a).getD default
/-- the defs of the class that cmp_to_key makes -/
def defIn (n : Str) : List Stmt → Option (Arguments × List Stmt × Scope)
  | [] => none
  | .FunctionDef m ps b _ _ _ sc _ _ _ :: r => if m == n then some (ps, b, sc) else defIn n r
  | _ :: r => defIn n r
def clsBody : List Stmt → List Stmt
  | [] => []
  | .ClassDef _ _ _ b _ _ _ _ _ _ _ :: _ => b
  | _ :: r => clsBody r
def stmtsOf : Obj → List Stmt
  | ⟨_, _, .func fd, _⟩ => (match fd.body with | .stmts b => b | _ => [])
  | _ => []
noncomputable def keyDef (P : Params) (n : Str) : Arguments × List Stmt × Scope := (defIn n (clsBody (stmtsOf (topObj P 28)))).getD default
/-- all that one made class differs by -/
structure KP where
  (C N ds ini ic lt lc cell ls gt eq le ge st : Addr)
  T : Value
  (t1 t2 t3 t4 t5 t6 t7 t8 : Tok)
  tk : Nat → Tok
  (d1 p1 c1 d2 p2 c2 : Value)
  (v1 v2 : Array Value)
noncomputable def KP.ofn (k : KP) (P : Params) : Obj := fnMade (Str.ofString "__init__") (Str.ofString "cmp_to_key.<locals>.K.__init__") (keyDef P "__init__").1 (keyDef P "__init__").2.1 (keyDef P "__init__").2.2 [] k.d1 k.p1 k.ic k.c1
noncomputable def KP.oln (k : KP) (P : Params) : Obj := fnMade (Str.ofString "__lt__") (Str.ofString "cmp_to_key.<locals>.K.__lt__") (keyDef P "__lt__").1 (keyDef P "__lt__").2.1 (keyDef P "__lt__").2.2 [(Str.ofString "mycmp", k.cell)] k.d2 k.p2 k.lc k.c2
abbrev codeObj (vs : Array Value) : Obj := { cls := .type "code", data := .fields vs }
abbrev cellObj (v : Value) : Obj := { cls := .type "cell", data := .cell (some v) }
/-- the objects of the class made for f -/
noncomputable def KP.news (k : KP) (P : Params) (f : Addr) : List (Addr × Obj) :=
  (k.C, clsO k.C k.N k.T k.t1 k.t2) :: (k.N, nsO P k.tk k.t3 k.t4 k.ls k.ini k.lt k.gt k.eq k.le k.ge k.st k.ds) :: (k.ds, dsO k.C k.t5 k.t6) :: (k.ini, k.ofn P) :: (k.ic, codeObj k.v1) :: (k.lt, k.oln P) :: (k.lc, codeObj k.v2) :: (k.cell, cellObj (.ref f)) :: []
structure KP.OK (k : KP) : Prop where
  v1 : k.v1[1]? = some (.str (Str.ofString "cmp_to_key.<locals>.K.__init__") k.t7)
  v2 : k.v2[1]? = some (.str (Str.ofString "cmp_to_key.<locals>.K.__lt__") k.t8)
theorem ne_of_get {h : Heap} {a b : Addr} {oa ob : Obj} (ha : h.get? a = some oa) (hb : h.get? b = some ob) (hne : oa ≠ ob) : a ≠ b := fun e => by
  subst e; rw [ha] at hb; exact hne (Option.some.inj hb)
noncomputable def KP.frag (k : KP) (P : Params) : Frag :=
  (k.C, clsO k.C k.N k.T k.t1 k.t2) :: (k.N, nsO P k.tk k.t3 k.t4 k.ls k.ini k.lt k.gt k.eq k.le k.ge k.st k.ds) :: (k.ds, dsO k.C k.t5 k.t6) :: (k.ini, k.ofn P) :: (k.lt, k.oln P) :: []
theorem KP.in {k : KP} {P : Params} {f : Addr} {h : Heap} (H : ∀ p ∈ k.news P f, h.get? p.1 = some p.2) : (k.frag P).In h := by
  intro a o e
  have hm := mem_of_lookupK e
  refine H (a, o) ?_
  unfold KP.frag at hm
  unfold KP.news
  simp only [List.mem_cons, List.not_mem_nil, or_false] at hm ⊢
  rcases hm with h | h | h | h | h
  · exact .inl h
  · exact .inr (.inl h)
  · exact .inr (.inr (.inl h))
  · exact .inr (.inr (.inr (.inl h)))
  · exact .inr (.inr (.inr (.inr (.inr (.inl h)))))
theorem KP.isK {k : KP} {P : Params} {f : Addr} {h : Heap} (H : ∀ p ∈ k.news P f, h.get? p.1 = some p.2) : KeyK (k.frag P) k.C k.N k.ds k.ini k.lt := by
  have g1 := H _ (List.Mem.head _)
  have g2 := H _ (List.Mem.tail _ (List.Mem.head _))
  have g3 := H _ (List.Mem.tail _ (List.Mem.tail _ (List.Mem.head _)))
  have g4 := H _ (List.Mem.tail _ (List.Mem.tail _ (List.Mem.tail _ (List.Mem.head _))))
  have g5 := H _ (List.Mem.tail _ (List.Mem.tail _ (List.Mem.tail _ (List.Mem.tail _ (List.Mem.tail _ (List.Mem.head _))))))
  dsimp only at g1 g2 g3 g4 g5
  have n21 : (k.N == k.C) = false := beq_eq_false_iff_ne.mpr (ne_of_get g2 g1 (fun e => by injection e with e1 e2 e3; cases e3))
  have n31 : (k.ds == k.C) = false := beq_eq_false_iff_ne.mpr (ne_of_get g3 g1 (fun e => by injection e with e1 e2 e3; cases e3))
  have n32 : (k.ds == k.N) = false := beq_eq_false_iff_ne.mpr (ne_of_get g3 g2 (fun e => by injection e with e1 e2 e3; cases e3))
  have n41 : (k.ini == k.C) = false := beq_eq_false_iff_ne.mpr (ne_of_get g4 g1 (fun e => by unfold KP.ofn at e; injection e with e1 e2 e3; cases e3))
  have n42 : (k.ini == k.N) = false := beq_eq_false_iff_ne.mpr (ne_of_get g4 g2 (fun e => by unfold KP.ofn at e; injection e with e1 e2 e3; cases e3))
  have n43 : (k.ini == k.ds) = false := beq_eq_false_iff_ne.mpr (ne_of_get g4 g3 (fun e => by unfold KP.ofn at e; injection e with e1 e2 e3; cases e3))
  have n51 : (k.lt == k.C) = false := beq_eq_false_iff_ne.mpr (ne_of_get g5 g1 (fun e => by unfold KP.oln at e; injection e with e1 e2 e3; cases e3))
  have n52 : (k.lt == k.N) = false := beq_eq_false_iff_ne.mpr (ne_of_get g5 g2 (fun e => by unfold KP.oln at e; injection e with e1 e2 e3; cases e3))
  have n53 : (k.lt == k.ds) = false := beq_eq_false_iff_ne.mpr (ne_of_get g5 g3 (fun e => by unfold KP.oln at e; injection e with e1 e2 e3; cases e3))
  have n54 : (k.lt == k.ini) = false := beq_eq_false_iff_ne.mpr (ne_of_get g5 g4 (fun e => by
    unfold KP.oln KP.ofn at e
    injection e with e1 e2 e3
    injection e3 with e4
    injection e4 with e5
    exact absurd e5 (by decide)))
  constructor
  · exact ⟨_, _, _, by unfold KP.frag; rw [List.lookup_cons, beq_self_eq_true]⟩
  · exact ⟨_, _, _, _, _, _, _, _, _, _, by unfold KP.frag; rw [List.lookup_cons, n21]; dsimp only; rw [List.lookup_cons, beq_self_eq_true]⟩
  · exact ⟨_, _, by unfold KP.frag; rw [List.lookup_cons, n31]; dsimp only; rw [List.lookup_cons, n32]; dsimp only; rw [List.lookup_cons, beq_self_eq_true]⟩
  · exact ⟨_, by unfold KP.frag; rw [List.lookup_cons, n41]; dsimp only; rw [List.lookup_cons, n42]; dsimp only; rw [List.lookup_cons, n43]; dsimp only; rw [List.lookup_cons, beq_self_eq_true]; rfl⟩
  · exact ⟨_, by unfold KP.frag; rw [List.lookup_cons, n51]; dsimp only; rw [List.lookup_cons, n52]; dsimp only; rw [List.lookup_cons, n53]; dsimp only; rw [List.lookup_cons, n54]; dsimp only; rw [List.lookup_cons, beq_self_eq_true]; rfl⟩
end Mine
end
theorem Mine.zz10 : True := by
  k_with_none
  w_top off
  (have : True ∧ True := by
    (try walk1)
    all_goals (first | exact trivial | exact ⟨trivial, trivial⟩))
  trivial
-- KeyF
section
open PySem PySem.W PyProof.Rows PySem.Calls PySem.W.X
set_option Elab.async false
set_option maxRecDepth 100000
namespace Mine
def fieldsArr : Obj → Array Value
  | ⟨_, _, .fields vs, _⟩ => vs
  | _ => #[]
def fdOf : Obj → FuncData
  | ⟨_, _, .func fd, _⟩ => fd
  | _ => default
noncomputable abbrev nsM (P : Params) (tk : Nat → Tok) (t0 t1 : Tok) (ls ini lt gt eq le ge st ds : Addr) : Obj :=
  { cls := .type "dict", data := .dict (esA P tk t0 t1 ls ini lt gt eq le ge st ++ #[entryZ P (Str.ofString "obj") (tk 11) (.ref ds), entryZ P (Str.ofString "__doc__") (tk 12) .none]) 3 }
theorem nsM_eq (P : Params) (tk : Nat → Tok) (t0 t1 : Tok) (ls ini lt gt eq le ge st ds : Addr) : nsM P tk t0 t1 ls ini lt gt eq le ge st ds = nsO P tk t0 t1 ls ini lt gt eq le ge st ds := by
  unfold nsM; rw [entryZ_eq, entryZ_eq]
theorem m_fin (P : Params) {f : Addr} {G : Prop} {h₀ h : Heap} {news : List (Addr × Obj)} {C N ds ini ic lt lc cell ls gt eq le ge st : Addr} {oD oC oN oi oic ol olc ocell oT y1 y2 y3 y4 y5 y6 : Obj} {T : Value} {t1 t2 t3 t4 : Tok} (D : Mem h₀ h [] news)
    (x2 : news[2]? = some (ds, oD)) (x3 : news[3]? = some (C, oC)) (x4 : news[4]? = some (N, oN)) (x6 : news[6]? = some (st, y1)) (x7 : news[7]? = some (ge, y2)) (x15 : news[15]? = some (le, y3)) (x23 : news[23]? = some (eq, y4)) (x31 : news[31]? = some (gt, y5))
    (x39 : news[39]? = some (lt, ol)) (x40 : news[40]? = some (lc, olc)) (x47 : news[47]? = some (ini, oi)) (x48 : news[48]? = some (ic, oic)) (x54 : news[54]? = some (ls, y6)) (x62 : news[62]? = some (cell, ocell)) (x64 : news[64]? = some (23, oT))
    (q2 : oD = dsO C (tokOf ((fieldsArr oD).getD 0 .none)) (tokOf ((fieldsArr oD).getD 4 .none))) (q3 : oC = clsO C N T t1 t2) (q4 : oN = nsM P (keyTok oN) t3 t4 ls ini lt gt eq le ge st ds)
    (q5 : oi = fnMade (Str.ofString "__init__") (Str.ofString "cmp_to_key.<locals>.K.__init__") (keyDef P "__init__").1 (keyDef P "__init__").2.1 (keyDef P "__init__").2.2 [] (fdOf oi).doc (fdOf oi).pyModule ic (fdOf oi).closureTuple)
    (q6 : oic = codeObj (fieldsArr oic)) (q7 : (fieldsArr oic)[1]? = some (.str (Str.ofString "cmp_to_key.<locals>.K.__init__") (tokOf ((fieldsArr oic).getD 1 .none))))
    (q8 : ol = fnMade (Str.ofString "__lt__") (Str.ofString "cmp_to_key.<locals>.K.__lt__") (keyDef P "__lt__").1 (keyDef P "__lt__").2.1 (keyDef P "__lt__").2.2 [(Str.ofString "mycmp", cell)] (fdOf ol).doc (fdOf ol).pyModule lc (fdOf ol).closureTuple)
    (q9 : olc = codeObj (fieldsArr olc)) (q10 : (fieldsArr olc)[1]? = some (.str (Str.ofString "cmp_to_key.<locals>.K.__lt__") (tokOf ((fieldsArr olc).getD 1 .none)))) (q11 : ocell = cellObj (.ref f)) (q12 : oT = tabObj (fieldsArr oT))
    (kk : ∀ k : KP, k.C = C → k.OK → (∀ p ∈ k.news P f, h.get? p.1 = some p.2 ∧ h₀.get? p.1 = none) → (∃ ps, h.get? 23 = some (tabObj ps)) → (∀ b o, h₀.get? b = some o → h.get? b = some o) → G) : G := by
  have M : ∀ {i : Nat} {a : Addr} {o : Obj}, news[i]? = some (a, o) → h.get? a = some o ∧ h₀.get? a = none := fun e => D.nw _ (List.mem_of_getElem? e)
  rw [nsM_eq] at q4
  refine kk (KP.mk C N ds ini ic lt lc cell ls gt eq le ge st T t1 t2 t3 t4 (tokOf ((fieldsArr oD).getD 0 .none)) (tokOf ((fieldsArr oD).getD 4 .none)) (tokOf ((fieldsArr oic).getD 1 .none)) (tokOf ((fieldsArr olc).getD 1 .none)) (keyTok oN)
      (fdOf oi).doc (fdOf oi).pyModule (fdOf oi).closureTuple (fdOf ol).doc (fdOf ol).pyModule (fdOf ol).closureTuple (fieldsArr oic) (fieldsArr olc)) rfl ⟨q7, q10⟩ ?_ ⟨_, q12 ▸ (M x64).1⟩
    (fun b o e => D.keep b o e (by show (_ || true) = true; rw [Bool.or_true]))
  intro p hp
  unfold KP.news at hp
  simp only [List.mem_cons, List.not_mem_nil, or_false] at hp
  rcases hp with rfl | rfl | rfl | rfl | rfl | rfl | rfl | rfl
  · have := M x3; rw [q3] at this; exact this
  · have := M x4; rw [q4] at this; exact this
  · have := M x2; rw [q2] at this; exact this
  · have := M x47; rw [q5] at this; exact this
  · have := M x48; rw [q6] at this; exact this
  · have := M x39; rw [q8] at this; exact this
  · have := M x40; rw [q9] at this; exact this
  · have := M x62; rw [q11] at this; exact this
end Mine
end
theorem Mine.zz11 : True := by
  k_with_none
  w_top off
  (have : True ∧ True := by
    (try walk1)
    all_goals (first | exact trivial | exact ⟨trivial, trivial⟩))
  trivial
-- JBase
section
open PySem PySem.W PyProof.Rows PySem.Calls PySem.W.X
set_option Elab.async false
set_option maxRecDepth 100000
namespace Mine
/-- the made objects by number, the newest word first -/
noncomputable def look (l : List (Nat × Obj)) (k : Nat) : Option Obj := @List.rec (Nat × Obj) (fun _ => Option Obj) none (fun p _ ih => @Bool.rec (fun _ => Option Obj) ih (some p.2) (Nat.beq p.1 k)) l
theorem look_cons (p : Nat × Obj) (l : List (Nat × Obj)) (k : Nat) : look (p :: l) k = if p.1 = k then some p.2 else look l k := by
  show @Bool.rec (fun _ => Option Obj) (look l k) (some p.2) (Nat.beq p.1 k) = _
  cases h : Nat.beq p.1 k with
  | true => rw [if_pos (Nat.eq_of_beq_eq_true h)]
  | false => rw [if_neg (Nat.ne_of_beq_eq_false h)]
/-- what does not change in the walk -/
structure JC where
  h0 : Heap
  adr : Nat → Nat
  g : Array GenState
  d : Drawn
  os : OsState
structure Adr (c : JC) : Prop where
  zero : c.adr 0 = 23
  lo : 200 < c.adr 1
  up : ∀ i, c.adr (i + 2) = c.adr (i + 1) + 1
theorem Adr.is {c : JC} (H : Adr c) (i : Nat) : c.adr (i + 1) = c.adr 1 + i := by
  induction i with
  | zero => rfl
  | succ i ih => rw [H.up, ih]; (first | lia | omega)
theorem Adr.ne {c : JC} (H : Adr c) {j k : Nat} (h : j ≠ k) : c.adr j ≠ c.adr k := by
  have := H.lo
  have := H.zero
  cases j with
  | zero => cases k with
    | zero => exact absurd rfl h
    | succ k => have := H.is k; (first | lia | omega)
  | succ j => cases k with
    | zero => have := H.is j; (first | lia | omega)
    | succ k => have := H.is j; have := H.is k; (first | lia | omega)
theorem Adr.beq {c : JC} (H : Adr c) {j k : Nat} (h : Nat.beq j k = false) : (c.adr j == c.adr k) = false := beq_eq_false_iff_ne.mpr (H.ne (Nat.ne_of_beq_eq_false h))
theorem Adr.lit {c : JC} (H : Adr c) {j n : Nat} (h : (Nat.ble n 200 && Nat.ble 1 j) = true) : (c.adr j == n) = false := by
  obtain ⟨h1, h2⟩ := Bool.and_eq_true_iff.mp h
  have h1 := Nat.le_of_ble_eq_true h1
  have h2 := Nat.le_of_ble_eq_true h2
  obtain ⟨j, rfl⟩ : ∃ i, j = i + 1 := ⟨j - 1, by (first | lia | omega)⟩
  have := H.is j; have := H.lo
  exact beq_eq_false_iff_ne.mpr (by (first | lia | omega))
theorem Adr.lit' {c : JC} (H : Adr c) {j n : Nat} (h : (Nat.ble n 200 && Nat.ble 1 j) = true) : (n == c.adr j) = false := by rw [Bool.beq_comm]; exact H.lit h
structure St (c : JC) (i : Nat) (news : List (Nat × Obj)) (h : Heap) : Prop where
  keep : ∀ b o, c.h0.get? b = some o → h.get? b = some o
  nw : ∀ k o, look news k = some o → h.get? (c.adr k) = some o ∧ c.h0.get? (c.adr k) = none
  lt : ∀ k o, look news k = some o → k < i
  sz : h.objs.size = c.adr i
  pos : 1 ≤ i
  ad : Adr c
theorem St.alloc {c : JC} {i : Nat} {news : List (Nat × Obj)} {h : Heap} {o : Obj} (D : St c i news h) (hf : o.isFreed = false) : St c (i + 1) ((i, o) :: news) (h.push o) := by
  obtain ⟨keep, nw, lt, sz, pos, ad⟩ := D
  refine ⟨fun b o' e => Heap.get?_push_of_some _ (keep b o' e), fun k o' e => ?_, fun k o' e => ?_, ?_, by (first | lia | omega), ad⟩
  · rw [look_cons] at e
    split at e
    · rename_i q
      dsimp only at q e
      subst q
      cases e
      rw [← sz]
      refine ⟨Heap.get?_push_size _ hf, ?_⟩
      cases q : c.h0.get? h.objs.size with
      | none => rfl
      | some o' => exact absurd (Heap.lt_size (keep _ _ q)) (Nat.lt_irrefl _)
    · exact ⟨Heap.get?_push_of_some _ (nw k o' e).1, (nw k o' e).2⟩
  · rw [look_cons] at e
    split at e
    · rename_i q; dsimp only at q; (first | lia | omega)
    · have := lt k o' e; (first | lia | omega)
  · obtain ⟨j, rfl⟩ : ∃ j, i = j + 1 := ⟨i - 1, by (first | lia | omega)⟩
    rw [ad.up, ← sz]
    show (h.objs.push o).size = _
    rw [Array.size_push]
theorem St.update {c : JC} {i k : Nat} {news : List (Nat × Obj)} {h : Heap} {o : Obj} {f : Obj → Obj} (D : St c i news h) (hk : look news k = some o) (hf : (f o).isFreed = false) : St c i ((k, f o) :: news) (h.update (c.adr k) f) := by
  obtain ⟨keep, nw, lt, sz, pos, ad⟩ := D
  have hs : Heap.SameBut (c.adr k) h (h.update (c.adr k) f) := Heap.SameBut.update ..
  have ho := nw k o hk
  have ge : (h.update (c.adr k) f).get? (c.adr k) = some (f o) := by first | exact Heap.get?_update_self f ho.1 hf | exact Heap.get?_update_self _ ho.1 hf
  refine ⟨fun b o' e => (hs.2 b (fun q => by rw [q, ho.2] at e; cases e)).trans (keep b o' e), fun j o' e => ?_, fun j o' e => ?_, ?_, pos, ad⟩
  · rw [look_cons] at e
    split at e
    · rename_i q; dsimp only at q e; subst q; cases e; exact ⟨ge, ho.2⟩
    · rename_i q; exact ⟨(hs.2 _ (ad.ne (Ne.symm q))).trans (nw j o' e).1, (nw j o' e).2⟩
  · rw [look_cons] at e
    split at e
    · rename_i q; dsimp only at q; subst q; exact lt _ _ hk
    · exact lt j o' e
  · rw [← sz]; exact Heap.size_update ..
/-- an application that waits -/
def ap.{u, v} {α : Sort u} {β : Sort v} (f : α → β) (a : α) : β := f a
/-- the walk's judgement: from every heap that is as the list says -/
def J (c : JC) (i : Nat) (news : List (Nat × Obj)) (t : Nat) (P : Shared → Prop) : Prop := ∀ h, St c i news h → P ⟨h, c.g, c.d, t, c.os⟩
abbrev PG : Program := PySem.Challenge.rw_oy0177_01.row.prog
section
variable {α : Type} {w : World} {A : Around} {E : Value → Shared → Prop} {Q : α → Shared → Prop} {c : JC} {i : Nat} {news : List (Nat × Obj)} {t : Nat}
theorem j_bf {p q : Sem α} {b : Bool} (e : b = false) (h : J c i news t (wpAny (model PG w) A p Q E)) : J c i news t (wpAny (model PG w) A (@Bool.rec (fun _ => Sem α) p q b) Q E) := fun hp st => m_bf e (h hp st)
theorem j_bt {p q : Sem α} {b : Bool} (e : b = true) (h : J c i news t (wpAny (model PG w) A q Q E)) : J c i news t (wpAny (model PG w) A (@Bool.rec (fun _ => Sem α) p q b) Q E) := fun hp st => m_bt e (h hp st)
theorem j_cf {p q : Sem α} {b : Bool} (e : b = false) (h : J c i news t (wpAny (model PG w) A q Q E)) : J c i news t (wpAny (model PG w) A (cond b p q) Q E) := fun hp st => m_cf e (h hp st)
theorem j_ct {p q : Sem α} {b : Bool} (e : b = true) (h : J c i news t (wpAny (model PG w) A p Q E)) : J c i news t (wpAny (model PG w) A (cond b p q) Q E) := fun hp st => m_ct e (h hp st)
theorem j_kf {b : Bool} {x y : Sem α} (e : b = false) (h : J c i news t (wpAny (model PG w) A y Q E)) : J c i news t (wpAny (model PG w) A (PySem.W.X.condFn (Sem α) b x y) Q E) := fun hp st => m_kf e (h hp st)
theorem j_bindR {β : Type} {m : Sem β} {f : β → Sem α} (h : J c i news t (wpAny (model PG w) A m (fun a => wpAny (model PG w) A (ap f a) Q E) E)) : J c i news t (wpAny (model PG w) A (R.bindR m f) Q E) := fun hp st => m_bindR (h hp st)
theorem j_onRaiseR {m : Sem α} {k : Value → Sem Unit} (h : J c i news t (wpAny (model PG w) A m Q (fun e => wpAny (model PG w) A (ap k e) (fun _ => E e) E))) : J c i news t (wpAny (model PG w) A (R.onRaiseR m k) Q E) := fun hp st => m_onRaiseR (h hp st)
theorem j_tryR {m : Sem α} {k : Value → Sem α} (h : J c i news t (wpAny (model PG w) A m Q (fun e => wpAny (model PG w) A (ap k e) Q E))) : J c i news t (wpAny (model PG w) A (R.catchR m k) Q E) := fun hp st => m_tryR (h hp st)
theorem j_keepR {m : Sem α} {vs : List Value} (h : J c i news t (wpAny (model PG w) A m Q E)) : J c i news t (wpAny (model PG w) A (R.keepR vs m) Q E) := fun hp st => m_keepR (h hp st)
theorem j_call {c' : Code} {hd : Option Value} {g : Bool} {l : List Value} {k : Result → Sem α} (x : J c i news t (codeAny (model PG w) (A.mark hd) c' (postA PG w A Q E k))) (hnb : hd ≠ some byPass) : J c i news t (wpAny (model PG w) A (.call c' hd g l k) Q E) := fun hp st => m_call (x hp st) hnb
theorem j_code {R : Result → Shared → Prop} {cd : Code} {tr : Sem Fin} (e : ZFast.zw11892475500146522536 ZFast.tableZ cd = tr) (h : J c i news t (wpAny (model PG w) (A.under cd) tr (postC PG w A R) (postE R))) : J c i news t (codeAny (model PG w) A cd R) := fun hp st => m_code e (h hp st)
theorem j_done {R : Result → Shared → Prop} {f : Flow} (h : J c i news t (R (.ok f))) : J c i news t (postC PG w A R (.done f)) := fun hp st => m_done (h hp st)
theorem j_again {R : Result → Shared → Prop} {cd : Code} (h : J c i news t (codeAny (model PG w) A cd R)) (q : cd.quiet = true) : J c i news t (postC PG w A R (.again cd)) := fun hp st => m_again (h hp st) q
theorem j_back {k : Result → Sem α} {r : Result} (h : J c i news t (wpAny (model PG w) A (ap k r) Q E)) : J c i news t (postA PG w A Q E k r) := fun hp st => m_back (h hp st)
theorem j_load {q : Option Value} {k : Obj → Sem α} {o : Obj} {j : Nat} (hm : look news j = some o) (x : J c i news t (wpAny (model PG w) A (ap k o) Q E)) : J c i news t (wpAny (model PG w) A (.load (c.adr j) q k) Q E) := fun hp st => x_load (st.nw _ _ hm).1 (x hp st)
theorem j_tab {q : Option Value} {k : Obj → Sem α} {o : Obj} (hm : look news 0 = some o) (x : J c i news t (wpAny (model PG w) A (ap k o) Q E)) : J c i news t (wpAny (model PG w) A (.load 23 q k) Q E) := fun hp st => x_load (by rw [← st.ad.zero]; exact (st.nw _ _ hm).1) (x hp st)
theorem j_old {a : Addr} {q : Option Value} {k : Obj → Sem α} {o : Obj} (e : c.h0.get? a = some o) (x : J c i news t (wpAny (model PG w) A (ap k o) Q E)) : J c i news t (wpAny (model PG w) A (.load a q k) Q E) := fun hp st => x_load (st.keep _ _ e) (x hp st)
theorem j_fresh {k : Tok → Sem α} (x : J c i news (Nat.succ t) (wpAny (model PG w) A (ap k t) Q E)) : J c i news t (wpAny (model PG w) A (.fresh k) Q E) := fun hp st => m_fresh (x hp st)
theorem j_alloc {o : Obj} {k : Addr → Sem α} {j : Nat} (ej : i + 1 = j) (x : J c j ((i, o) :: news) t (wpAny (model PG w) A (ap k (c.adr i)) Q E)) (hf : o.isFreed = false) : J c i news t (wpAny (model PG w) A (.alloc o k) Q E) := fun hp st => by
  subst ej
  refine wpAny_bind (m := alloc o) (f := k) (wpAny_alloc ?_)
  have := x _ (st.alloc hf)
  rw [← st.sz] at this
  exact this
theorem j_update {q : Option Value} {f : Obj → Obj} {k : Unit → Sem α} {o o' : Obj} {j : Nat} (hm : look news j = some o) (e : f o = o') (hf : o'.isFreed = false) (x : J c i ((j, o') :: news) t (wpAny (model PG w) A (ap k ()) Q E)) :
    J c i news t (wpAny (model PG w) A (.update (c.adr j) q f k) Q E) := fun hp st => by
  subst e
  exact wpAny_bind (m := updatePart _ q f) (f := k) (wpAny_updatePart (st.nw _ _ hm).1 (x _ (st.update hm hf)))
theorem j_updateT {q : Option Value} {f : Obj → Obj} {k : Unit → Sem α} {o o' : Obj} (hm : look news 0 = some o) (e : f o = o') (hf : o'.isFreed = false) (x : J c i ((0, o') :: news) t (wpAny (model PG w) A (ap k ()) Q E)) :
    J c i news t (wpAny (model PG w) A (.update 23 q f k) Q E) := fun hp st => by
  have := j_update (c := c) (i := i) (news := news) (t := t) (q := q) (k := k) (j := 0) hm e hf x hp st
  rw [st.ad.zero] at this
  exact this
theorem j_stack {k : List (Code × Pos) → Sem α} (x : ∀ st, Lies A st → J c i news t (wpAny (model PG w) A (ap k st) Q E)) : J c i news t (wpAny (model PG w) A (.stack k) Q E) := fun hp s => m_stack fun st l => x st l hp s
theorem j_handled {k : Option Value → Sem α} (x : J c i news t (wpAny (model PG w) A (ap k A.handled) Q E)) : J c i news t (wpAny (model PG w) A (.handled false k) Q E) := fun hp s => m_handled (x hp s)
theorem j_alive {k : Option Obj → Sem α} {o : Obj} {j : Nat} (hm : look news j = some o) (x : J c i news t (wpAny (model PG w) A (ap k (some o)) Q E)) : J c i news t (wpAny (model PG w) A (.loadIfAlive (c.adr j) k) Q E) := fun h st => by
  intro Γ p hΓ
  show Sem.wp _ _ (k (h.get? (c.adr j))) _ _ _ _
  rw [(st.nw _ _ hm).1]; exact x h st Γ p hΓ
theorem j_pure {a : α} (h : J c i news t (Q a)) : J c i news t (wpAny (model PG w) A (Sem.pure a) Q E) := fun hp st => x_pure (h hp st)
theorem j_rule {tx : String} {k : Unit → Sem α} (h : J c i news t (wpAny (model PG w) A (ap k ()) Q E)) : J c i news t (wpAny (model PG w) A (.rule tx k) Q E) := fun hp st => x_rule (h hp st)
theorem j_at {q : Pos} {k : Unit → Sem α} (h : J c i news t (wpAny (model PG w) A (ap k ()) Q E)) : J c i news t (wpAny (model PG w) A (.at q k) Q E) := fun hp st => x_at (h hp st)
theorem j_point {l : List Value} {k : Unit → Sem α} (h : J c i news t (wpAny (model PG w) A (ap k ()) Q E)) : J c i news t (wpAny (model PG w) A (.point l k) Q E) := fun hp st => x_point (h hp st)
theorem j_ask {k : Setting → Sem α} (h : J c i news t (wpAny (model PG w) A (ap k ⟨PG, w.params⟩) Q E)) : J c i news t (wpAny (model PG w) A (.ask k) Q E) := fun hp st => x_ask (h hp st)
theorem j_anyM {Q' : Bool → Shared → Prop} {inst : Monad Sem} {β : Type} {f : β → Sem Bool} {l l' : List β} (e : l = l') (h : J c i news t (wpAny (model PG w) A (@List.anyM Sem inst β f l') Q' E)) : J c i news t (wpAny (model PG w) A (@List.anyM Sem inst β f l) Q' E) := by subst e; exact h
theorem j_lrec {β : Type} {nil : β → Sem α} {cons : Value → List Value → (β → Sem α) → β → Sem α} {l l' : List Value} {b : β} (e : l = l') (h : J c i news t (wpAny (model PG w) A (@List.rec Value (fun _ => β → Sem α) nil cons l' b) Q E)) : J c i news t (wpAny (model PG w) A (@List.rec Value (fun _ => β → Sem α) nil cons l b) Q E) := by subst e; exact h
end
/-- other words for the same objects -/
theorem j_word {c : JC} {i : Nat} {news news' : List (Nat × Obj)} {t : Nat} {P : Shared → Prop} (e : ∀ k o, look news' k = some o → look news k = some o) (x : J c i news' t P) : J c i news t P := fun h st =>
  x h ⟨st.keep, fun k o q => st.nw k o (e k o q), fun k o q => st.lt k o (e k o q), st.sz, st.pos, st.ad⟩
theorem j_same {c : JC} {i j : Nat} {news : List (Nat × Obj)} {t : Nat} {o o' : Obj} {P : Shared → Prop} (e : look news j = some o) (q : o = o') (x : J c i ((j, o') :: news) t P) : J c i news t P := by
  refine j_word (fun k o2 h => ?_) x
  rw [look_cons] at h
  split at h
  · rename_i z; dsimp only at z h; subst z; cases h; rw [e, q]
  · exact h
theorem j_norm (P : Params) {c : JC} {i t : Nat} {news : List (Nat × Obj)} {o on : Obj} {G : Shared → Prop}
    (x : look news 61 = some o) (xn : look news 60 = some on)
    (q : o = clsA (c.adr 61) (c.adr 60) (slotAt o 0) (tokOf (slotAt o 2)) (tokOf (slotAt o 3)))
    (qn : on = nsZ P (keyTok on) (tokOf (valAt on 0)) (tokOf (valAt on 1)) (c.adr 10) (c.adr 17) (c.adr 25) (c.adr 33) (c.adr 41) (c.adr 49) (c.adr 57) (c.adr 58))
    (k : ∀ T' t1 t2 tk t3 t4, J c i ((61, clsA (c.adr 61) (c.adr 60) T' t1 t2) :: (60, nsA P tk t3 t4 (c.adr 10) (c.adr 17) (c.adr 25) (c.adr 33) (c.adr 41) (c.adr 49) (c.adr 57) (c.adr 58)) :: news) t G) : J c i news t G := by
  simp only [nsZ, entryZ_eq] at qn
  refine j_same xn qn ?_
  refine j_same (o := o) (j := 61) ?_ q (k _ _ _ _ _ _)
  rw [look_cons, if_neg (show ¬ ((60 : Nat) = 61) by decide)]; exact x
theorem j_fin (P : Params) {f : Addr} {c : JC} {i t : Nat} {news : List (Nat × Obj)} {oD oC oN oi oic ol olc ocell oT : Obj} {T : Value} {t1 t2 t3 t4 : Tok} {Q : Value → Shared → Prop}
    (x2 : look news 62 = some oD) (x3 : look news 61 = some oC) (x4 : look news 60 = some oN) (x39 : look news 25 = some ol) (x40 : look news 24 = some olc) (x47 : look news 17 = some oi) (x48 : look news 16 = some oic) (x62 : look news 2 = some ocell) (x64 : look news 0 = some oT)
    (q2 : oD = dsO (c.adr 61) (tokOf ((fieldsArr oD).getD 0 .none)) (tokOf ((fieldsArr oD).getD 4 .none))) (q3 : oC = clsO (c.adr 61) (c.adr 60) T t1 t2)
    (q4 : oN = nsM P (keyTok oN) t3 t4 (c.adr 10) (c.adr 17) (c.adr 25) (c.adr 33) (c.adr 41) (c.adr 49) (c.adr 57) (c.adr 58) (c.adr 62))
    (q5 : oi = fnMade (Str.ofString "__init__") (Str.ofString "cmp_to_key.<locals>.K.__init__") (keyDef P "__init__").1 (keyDef P "__init__").2.1 (keyDef P "__init__").2.2 [] (fdOf oi).doc (fdOf oi).pyModule (c.adr 16) (fdOf oi).closureTuple)
    (q6 : oic = codeObj (fieldsArr oic)) (q7 : (fieldsArr oic)[1]? = some (.str (Str.ofString "cmp_to_key.<locals>.K.__init__") (tokOf ((fieldsArr oic).getD 1 .none))))
    (q8 : ol = fnMade (Str.ofString "__lt__") (Str.ofString "cmp_to_key.<locals>.K.__lt__") (keyDef P "__lt__").1 (keyDef P "__lt__").2.1 (keyDef P "__lt__").2.2 [(Str.ofString "mycmp", c.adr 2)] (fdOf ol).doc (fdOf ol).pyModule (c.adr 24) (fdOf ol).closureTuple)
    (q9 : olc = codeObj (fieldsArr olc)) (q10 : (fieldsArr olc)[1]? = some (.str (Str.ofString "cmp_to_key.<locals>.K.__lt__") (tokOf ((fieldsArr olc).getD 1 .none)))) (q11 : ocell = cellObj (.ref f)) (q12 : oT = tabObj (fieldsArr oT))
    (hret : ∀ (k : KP) h' tk', k.OK → (∀ p ∈ k.news P f, h'.get? p.1 = some p.2 ∧ c.h0.get? p.1 = none) → (∃ ps, h'.get? 23 = some (tabObj ps)) → (∀ b o, c.h0.get? b = some o → h'.get? b = some o) → Q (.ref k.C) ⟨h', c.g, c.d, tk', c.os⟩) :
    J c i news t (Q (.ref (c.adr 61))) := fun h D => by
  have M : ∀ {k : Nat} {o : Obj}, look news k = some o → h.get? (c.adr k) = some o ∧ c.h0.get? (c.adr k) = none := fun e => D.nw _ _ e
  rw [nsM_eq] at q4
  refine hret (KP.mk (c.adr 61) (c.adr 60) (c.adr 62) (c.adr 17) (c.adr 16) (c.adr 25) (c.adr 24) (c.adr 2) (c.adr 10) (c.adr 33) (c.adr 41) (c.adr 49) (c.adr 57) (c.adr 58) T t1 t2 t3 t4 (tokOf ((fieldsArr oD).getD 0 .none)) (tokOf ((fieldsArr oD).getD 4 .none)) (tokOf ((fieldsArr oic).getD 1 .none)) (tokOf ((fieldsArr olc).getD 1 .none)) (keyTok oN)
      (fdOf oi).doc (fdOf oi).pyModule (fdOf oi).closureTuple (fdOf ol).doc (fdOf ol).pyModule (fdOf ol).closureTuple (fieldsArr oic) (fieldsArr olc)) h t ⟨q7, q10⟩ ?_ ⟨fieldsArr oT, by rw [← q12, ← D.ad.zero]; exact (M x64).1⟩ D.keep
  intro p hp
  unfold KP.news at hp
  simp only [List.mem_cons, List.not_mem_nil, or_false] at hp
  rcases hp with rfl | rfl | rfl | rfl | rfl | rfl | rfl | rfl
  · have := M x3; rw [q3] at this; exact this
  · have := M x4; rw [q4] at this; exact this
  · have := M x2; rw [q2] at this; exact this
  · have := M x47; rw [q5] at this; exact this
  · have := M x48; rw [q6] at this; exact this
  · have := M x39; rw [q8] at this; exact this
  · have := M x40; rw [q9] at this; exact this
  · have := M x62; rw [q11] at this; exact this
end Mine
end
theorem Mine.zz12 : True := by
  k_with_none
  w_top off
  (have : True ∧ True := by
    (try walk1)
    all_goals (first | exact trivial | exact ⟨trivial, trivial⟩))
  trivial
-- KeyJ
section
open PySem PySem.W PyProof.Rows PySem.Calls PySem.W.X
set_option Elab.async false
set_option maxRecDepth 100000
set_option maxHeartbeats 0
namespace Mine
local macro_rules | `(tactic| walk_at "XP") => `(tactic| (
  first
  | (with_reducible refine j_back ?_)
  | (with_reducible refine j_done ?_)
  | (with_reducible refine' j_again ?_ ?q; (case q => with_unfolding_all rfl))
  | ((with_reducible show J _ _ _ _ (postC _ _ _ _ _)); (conv => arg 5; arg 5; whnf); (first | (with_reducible refine j_done ?_) | (with_reducible refine' j_again ?_ ?q; (case q => with_unfolding_all rfl))))))
local macro_rules | `(tactic| walk_at "XW") => `(tactic| (
  first
  | (with_reducible refine j_pure ?_)
  | (with_reducible refine j_fresh ?_)
  | (with_reducible refine j_rule ?_)
  | (with_reducible refine j_at ?_)
  | (with_reducible refine j_point ?_)
  | (with_reducible refine j_ask ?_)
  | ((with_reducible show J _ _ _ _ (wpAny _ _ (Sem.call _ _ _ _ _) _ _)); refine' j_call ?_ ?nb; (case nb => first | (intro h; cases h) | decide))
  | ((with_reducible show J _ _ _ _ (wpAny _ _ (Sem.load _ _ _) _ _)); first | (refine' j_load ?m ?_; (case m => exact rfl)) | (refine' j_tab ?m ?_; (case m => exact rfl)) | (refine' j_old ?e ?_; (case e => assumption)))
  | ((with_reducible show J _ _ _ _ (wpAny _ _ (Sem.alloc _ _) _ _)); refine' j_alloc ?e ?_ ?f; (case e => ((conv => lhs; whnf); first | done | exact rfl)); (case f => rfl))
  | ((with_reducible show J _ _ _ _ (wpAny _ _ (Sem.update _ _ _ _) _ _)); first | (refine' j_update ?U ?e ?f ?_; (case U => exact rfl); (case e => ((conv => lhs; whnf); first | done | exact rfl)); (case f => rfl)) | (refine' j_updateT ?U ?e ?f ?_; (case U => exact rfl); (case e => ((conv => lhs; whnf); first | done | exact rfl)); (case f => rfl)))
  | ((with_reducible show J _ _ _ _ (wpAny _ _ (Sem.stack _) _ _)); refine j_stack ?_; intro _ _)
  | ((with_reducible show J _ _ _ _ (wpAny _ _ (Sem.handled _ _) _ _)); refine j_handled ?_)
  | ((with_reducible show J _ _ _ _ (wpAny _ _ (Sem.loadIfAlive _ _) _ _)); refine' j_alive ?m ?_; (case m => exact rfl))))
local macro_rules | `(tactic| walk_at "XB") => `(tactic| (first
  | exact Lies.near' (by assumption) (Nat.le_of_ble_eq_true rfl) _
  | exact Lies.over (by assumption) (Nat.le_of_ble_eq_true rfl) _
  | exact Lies.warm (by assumption) (Nat.le_of_ble_eq_true rfl) _
  | exact Lies.room (by assumption) (Nat.le_of_ble_eq_true rfl)
  | exact Adr.beq (by assumption) rfl
  | exact Adr.lit (by assumption) rfl
  | exact Adr.lit' (by assumption) rfl
  | exact Bool.or_eq_false_iff.mpr ⟨Adr.lit (by assumption) rfl, by decide +kernel⟩))
local macro_rules | `(tactic| walk_at "XS") => `(tactic| (
  first
  | (with_reducible refine' j_code ?e ?_; (case e => exact rfl))
  | walk_at "XP"
  | walk_at "XW"
  | ((with_reducible show J _ _ _ _ (wpAny _ _ _ _ _)); (conv => arg 5; arg 3; whnf); first
      | walk_at "XW"
      | refine j_bindR ?_
      | refine j_onRaiseR ?_
      | refine j_keepR ?_
      | refine j_tryR ?_
      | (refine' j_cf ?e ?_; (case e => walk_at "XB"))
      | (refine' j_bf ?e ?_; (case e => walk_at "XB"))
      | (refine' j_bf ?e ?_; (case e => decide +kernel))
      | (refine' j_bt ?e ?_; (case e => decide +kernel))
      | (refine' j_bt ?e ?_; (case e => first | exact Bool.or_eq_true_iff.mpr (.inr (by rfl)) | exact Bool.or_eq_true_iff.mpr (.inl (Bool.or_eq_true_iff.mpr (.inr (by rfl))))))
      | (goal_has Array.any; refine' j_bf ?e ?_; (case e => kernel_rfl!)))))
noncomputable def kJ (P : Params) : Frag := (nat_lit 0, PySem.W.boot_o_0 P) :: (nat_lit 4, PySem.W.boot_o_4 P) :: Mine.fk.heap_1 P
theorem j_cmp (w : World) (c : JC) (hA : Adr c) (t : Nat) (f : Addr) (cn : Str) (cs : Scope) (L a : Addr) (ccd : Value) (cl : List (Str × Addr)) (Q E : Value → Shared → Prop) (X : (kJ w.params).In c.h0)
  (hret : ∀ (k : KP) h' tk', k.OK → (∀ p ∈ k.news w.params f, h'.get? p.1 = some p.2 ∧ c.h0.get? p.1 = none) → (∃ ps, h'.get? 23 = some (tabObj ps)) → (∀ b o, c.h0.get? b = some o → h'.get? b = some o) → Q (.ref k.C) ⟨h', c.g, c.d, tk', c.os⟩) :
   J c 1 [(0, tabObj #[])] t (wpAny (model PG w) (ktrTop 302 7 (some []) cn cs L a ccd cl []) (call (.ref 28) [.ref f]) Q E) := by
  have e28 := X 28 _ rfl
  have e27 := X 27 _ rfl
  have e0 := X 0 _ rfl
  have e200 := X 200 _ rfl
  have e2 := X 2 _ rfl
  have e3 := X 3 _ rfl
  have e4 := X 4 _ rfl
  clear X
  iterate 417 walk_at "XS"
  (conv => arg 5; arg 3; whnf)
  rw [show ZFast.zw10133417225327028743 (Str.ofString "obj") = some true from by kernel_rfl]
  iterate 29 walk_at "XS"
  (conv => arg 5; arg 3; whnf)
  refine' j_anyM ?e ?_
  (case e => exact filt_one _ _)
  iterate 11 walk_at "XS"
  walk_at "XS"
  (try (conv => arg 5; arg 3; delta Mine.ap))
  with_reducible conv => arg 5; arg 3; whnf
  refine j_bindR ?_
  refine' j_norm w.params rfl rfl ?q ?qn ?_
  (case q => kernel_rfl)
  (case qn => kernel_rfl)
  intro T1 k1 k2 tk k3 k4
  delta ZFast.zw2292210677410107715
  (try (conv => arg 5; arg 3; delta Mine.ap))
  with_reducible conv => arg 5; arg 3; whnf
  refine j_bindR ?_
  iterate 93 walk_at "XS"
  (conv => arg 5; arg 3; whnf)
  refine' j_bt ?e ?_
  (case e => exact zin_self _ _ _)
  iterate 27 walk_at "XS"
  (conv => arg 5; arg 3; whnf)
  refine' j_lrec ?e ?_
  (case e => exact zdrop _ _)
  iterate 6 walk_at "XS"
  (conv => arg 5; arg 3; whnf)
  refine' j_bf ?e ?_
  (case e => exact and_rf (by kernel_rfl))
  iterate 58 walk_at "XS"
  refine' j_fin w.params (f := f) (T := T1) (t1 := k1) (t2 := k2) (t3 := k3) (t4 := k4) rfl rfl rfl rfl rfl rfl rfl rfl rfl ?q2 ?q3 ?q4 ?q5 ?q6 ?q7 ?q8 ?q9 ?q10 ?q11 ?q12 hret
  (case q2 => kernel_rfl)
  (case q3 => kernel_rfl)
  (case q4 => kernel_rfl)
  (case q5 => kernel_rfl)
  (case q6 => kernel_rfl)
  (case q7 => kernel_rfl)
  (case q8 => kernel_rfl)
  (case q9 => kernel_rfl)
  (case q10 => kernel_rfl)
  (case q11 => kernel_rfl)
  (case q12 => kernel_rfl)
end Mine
end
theorem Mine.zz13 : True := by
  k_with_none
  w_top off
  (have : True ∧ True := by
    (try walk1)
    all_goals (first | exact trivial | exact ⟨trivial, trivial⟩))
  trivial
-- KeyB
section
open PySem PySem.W PyProof.Rows PySem.Calls PySem.W.X
set_option Elab.async false
set_option maxRecDepth 100000
namespace Mine
theorem m_cmp (w : World) (s : Shared) (f : Addr) (cn : Str) (cs : Scope) (L a : Addr) (ccd : Value) (cl : List (Str × Addr)) (Q E : Value → Shared → Prop) (h₀ : Heap)
  (D : Mem h₀ s.heap [] [(23, tabObj #[])]) (X : (kJ w.params).In h₀)
  (hret : ∀ (k : KP) h' tk', k.OK → (∀ p ∈ k.news w.params f, h'.get? p.1 = some p.2 ∧ h₀.get? p.1 = none) → (∃ ps, h'.get? 23 = some (tabObj ps)) → (∀ b o, h₀.get? b = some o → h'.get? b = some o) → Q (.ref k.C) { s with heap := h', toks := tk' }) :
   wpAny (model PySem.Challenge.rw_oy0177_01.row.prog w) (ktrTop 302 7 (some []) cn cs L a ccd cl []) (call (.ref 28) [.ref f]) Q E s := by
  have keep : ∀ b o, h₀.get? b = some o → s.heap.get? b = some o := fun b o e => D.keep b o e (by show (_ || true) = true; rw [Bool.or_true])
  have hlo : 200 < s.heap.objs.size := Heap.lt_size (keep _ _ (X 200 _ rfl))
  have hA : Adr ⟨h₀, fun k => if k = 0 then 23 else s.heap.objs.size + (k - 1), s.gens, s.drawn, s.os⟩ :=
    ⟨rfl, by simpa using hlo, fun i => by simp only [Nat.add_eq_zero_iff]; simp; omega⟩
  refine j_cmp w ⟨h₀, fun k => if k = 0 then 23 else s.heap.objs.size + (k - 1), s.gens, s.drawn, s.os⟩ hA s.toks f cn cs L a ccd cl Q E X hret s.heap ⟨keep, ?_, ?_, ?_, Nat.le_refl 1, hA⟩
  · intro k o e
    rw [look_cons] at e
    split at e
    · rename_i q; dsimp only at q e; subst q; cases e
      exact D.nw _ (List.mem_singleton.mpr rfl)
    · cases e
  · intro k o e
    rw [look_cons] at e
    split at e
    · rename_i q; dsimp only at q; subst q; decide
    · cases e
  · simp
end Mine
end
theorem Mine.zz14 : True := by
  k_with_none
  w_top off
  (have : True ∧ True := by
    (try walk1)
    all_goals (first | exact trivial | exact ⟨trivial, trivial⟩))
  trivial
-- KeyM
section
open PySem PySem.W PyProof.Rows PySem.Calls
set_option Elab.async false
set_option maxRecDepth 100000
set_option maxHeartbeats 8000000
namespace Mine
section
variable {prog : Program} {w : World} {A : Around} {E : Value → Shared → Prop} {s : Shared} {h₀ : Heap} {L : Addr} {m : Str → Option Value} {news : List (Addr × Obj)} {k : KP} {P : Params} {f x dx : Addr} {v : Value}
/-- a key object: its value stands in the slot -/
def keyObj (C dx : Addr) (v : Value) : Obj := { cls := .ref C, dict := some dx, data := .plain, slots := #[some v] }
theorem key_at (H : ∀ p ∈ k.news P f, p ∈ news) (N : News h₀ L s.heap news) : ∀ p ∈ k.news P f, s.heap.get? p.1 = some p.2 := fun p hp => (N p (H p hp)).1
theorem key_set {pre post : List (Addr × Obj)} {Q : Unit → Shared → Prop} (F : Fr h₀ L s.heap m) (N : News h₀ L s.heap (pre ++ (x, instObj k.C dx) :: post)) (H : ∀ p ∈ k.news P f, p ∈ pre ++ (x, instObj k.C dx) :: post) (hd : (dx, emptyDict) ∈ pre ++ (x, instObj k.C dx) :: post)
    (h1 : ∀ p ∈ pre, p.1 ≠ x) (h2 : ∀ p ∈ post, p.1 ≠ x)
    (h : ∀ h', Fr h₀ L h' m → News h₀ L h' (pre ++ (x, keyObj k.C dx v) :: post) → Q () { s with heap := h', toks := s.toks + 1 }) : wpAny (model prog w) A (setAttr (.ref x) "obj" v) Q E s := by
  have g := key_at H N
  have X := KP.in g
  have KK := KP.isK g
  have I : InstAt s.heap x (instObj k.C dx) k.C (some emptyDict) := ⟨(N _ (List.mem_append_right _ (.head _))).1, rfl, rfl, (N _ hd).1⟩
  exact set_plain X I KK.setattr (osa_descr (s := { s with toks := s.toks + 1 }) KF.slot_mset X I KK.over KK.taker KK.typ_ds (slot_set (s := { s with toks := s.toks + 1 }) F N X I KK.slot (by decide) h1 h2 rfl rfl fun h' F' N' => h h' F' N'))
theorem key_get {Q : Value → Shared → Prop} {expr : Bool} (N : News h₀ L s.heap news) (H : ∀ p ∈ k.news P f, p ∈ news) (hx : (x, keyObj k.C dx v) ∈ news) (hd : (dx, emptyDict) ∈ news) (hh : handedIn v = true)
    (h : Q v { s with toks := s.toks + 1 }) : wpAny (model prog w) A (getAttr (.ref x) "obj" expr) Q E s := by
  have g := key_at H N
  have X := KP.in g
  have KK := KP.isK g
  have I : InstAt s.heap x (keyObj k.C dx v) k.C (some emptyDict) := ⟨(N _ hx).1, rfl, rfl, (N _ hd).1⟩
  exact get_bind X I KK.getattribute (findObj_data KK.isCls KK.find_obj KK.ds_get KK.ds_takes) KK.getattr (wpAny_call (slot_get (s := { s with toks := s.toks + 1 }) X I KK.slot rfl (handed_on hh h)))
theorem key_lt {y : Value} {Q : Bool → Shared → Prop} (hu : A.units < cLine) (N : News h₀ L s.heap news) (H : ∀ p ∈ k.news P f, p ∈ news) (hx : (x, keyObj k.C dx v) ∈ news) (hd : (dx, emptyDict) ∈ news)
    (h : wpAny (model prog w) A (call (.ref k.lt) [.ref x, y]) (PySem.W.BoolBack Q) E s) : wpAny (model prog w) A (keyLt' oneType' (.ref x) y) Q E s := by
  have g := key_at H N
  have X := KP.in g
  have KK := KP.isK g
  have I : InstAt s.heap x (keyObj k.C dx v) k.C (some emptyDict) := ⟨(N _ hx).1, rfl, rfl, (N _ hd).1⟩
  rw [keyLt'_oneType, oneLt'_eq]
  simp only [if_true]
  refine wpAny_bind (wpAny_cRoomFor hu ?_)
  refine wpAny_bind (ifBound_K X I KK.find_lt KK.fn_lt (wpAny_mono h (fun v s' hv => ?_) fun _ _ e => e))
  cases v <;> first | exact hv.elim | skip
  exact wpAny_truthy_bool hv
theorem key_make {rest : List Value} {R : Result → Shared → Prop} (F : Fr h₀ L s.heap m) (N : News h₀ L s.heap news) (H : ∀ p ∈ k.news P f, p ∈ news)
    (h : ∀ x dx h', Fr h₀ L h' m → News h₀ L h' ((x, instObj k.C dx) :: (dx, emptyDict) :: news) → (∀ p ∈ news, p.1 < dx) → dx < x →
      codeAny (model prog w) (A.under (.builtin "type.__call__" ⟨.ref k.C :: rest, []⟩)) (.call (.ref k.ini) ⟨.ref x :: rest, []⟩) (InitBack x R) { s with heap := h' }) :
    codeAny (model prog w) A (.call (.ref k.C) ⟨rest, []⟩) R s := by
  have g := key_at H N
  have KK := KP.isK g
  exact make_K F N (KP.in g) KK.makes KK.find_ini KK.typ_ini h
end
end Mine
end
theorem Mine.zz15 : True := by
  k_with_none
  w_top off
  (have : True ∧ True := by
    (try walk1)
    all_goals (first | exact trivial | exact ⟨trivial, trivial⟩))
  trivial
-- LawBody
section
open PySem PySem.W PyProof.Rows PySem.Calls
set_option Elab.async false
set_option maxRecDepth 100000
namespace Mine
noncomputable def lawFn (P : Params) : FuncData := match (Mine.fk.heap_1 P).lookup 200 with
  | some ⟨_, _, .func fd, _⟩ => fd
  | _ => default
theorem news_sub {h₀ h : Heap} {L : Addr} {l l' : List (Addr × Obj)} (N : News h₀ L h l) (k : ∀ p ∈ l', p ∈ l) : News h₀ L h l' := fun p hp => N p (k p hp)
def rowOf (dr : List Int) : List Int := dr ++ (List.replicate ((-(dr.length : Int)).fmod 4).toNat [0]).flatten
theorem pad_lt (n : Nat) : ((-(n : Int)).fmod 4).toNat ≤ 3 := by
  have := Int.fmod_nonneg_of_pos (-(n : Int)) (show (0 : Int) < 4 by decide)
  have := Int.fmod_lt_of_pos (-(n : Int)) (show (0 : Int) < 4 by decide)
  omega
theorem pad_len (n : Nat) : ((List.replicate ((-(n : Int)).fmod 4).toNat [(0 : Int)]).flatten).length ≤ 3 := by
  have := pad_lt n
  simp [List.length_flatten]
  omega
theorem pad_size {dr : List Int} (h : dr.length ≤ 8) : dr.length + ((List.replicate ((-(dr.length : Int)).fmod 4).toNat [(0 : Int)]).flatten).length ≤ sizeLine := by
  have := pad_len dr.length
  rw [sizeLine_eq]; omega
end Mine
end
theorem Mine.zz16 : True := by
  k_with_none
  w_top off
  (have : True ∧ True := by
    (try walk1)
    all_goals (first | exact trivial | exact ⟨trivial, trivial⟩))
  trivial
-- KeyN
section
open PySem PySem.W PyProof.Rows PySem.Calls
set_option Elab.async false
set_option maxRecDepth 100000
set_option maxHeartbeats 8000000
set_option linter.unusedSimpArgs false
set_option linter.unusedVariables false
namespace Mine
noncomputable abbrev lawA (w : World) (L fa : Addr) : Around := callerA.deeper (envOfC (Str.ofString "law") (lawFn w.params).scope L fa (Value.ref 199))
/-- one key object made -/
theorem key_new (w : World) (mean : ExcName → Option Value) (mg mb : Str → Option Value) (L fa : Addr) (base h₀ : Heap) (m : Str → Option Value) (s : Shared) (Q E : Value → Shared → Prop) (k : KP) (f : Addr) (i : Int) (t : Tok) (news : List (Addr × Obj))
    (B : Below callerA base [] h₀) (X : (Mine.fk.heap_1 w.params).In h₀) (T : TopM mean mg mb h₀) (F : Fr h₀ L s.heap m) (N : News h₀ L s.heap news) (H : ∀ p ∈ k.news w.params f, p ∈ news) (ok : k.OK)
    (h : ∀ x dx h' tk', Fr h₀ L h' m → News h₀ L h' ((x, keyObj k.C dx (.int i t)) :: (dx, emptyDict) :: news) → (∀ p ∈ news, p.1 < dx) → dx < x → Q (.ref x) { s with heap := h', toks := tk' }) :
    wpAny (model PySem.Challenge.rw_oy0177_01.row.prog w) (lawA w L fa).in1.in1 (call (.ref k.C) [.int i t]) Q E s := by
  (have reg : ∀ (w : World) (h : Heap), (Mine.fk.heap_1 w.params).In h → PySem.Challenge.rw_oy0177_01.row.prog = PySem.Challenge.rw_oy0177_01.row.prog := by (k_fill; intros; rfl))
  clear reg
  refine wpAny_call ?_
  refine key_make F N H fun x dx h1 F1 N1 l1 l2 => ?_
  have hi : (k.ini, k.ofn w.params) ∈ (x, instObj k.C dx) :: (dx, emptyDict) :: news := List.Mem.tail _ (List.Mem.tail _ (H _ (List.Mem.tail _ (List.Mem.tail _ (List.Mem.tail _ (List.Mem.head _))))))
  have hc : (k.ic, codeObj k.v1) ∈ (x, instObj k.C dx) :: (dx, emptyDict) :: news := List.Mem.tail _ (List.Mem.tail _ (H _ (List.Mem.tail _ (List.Mem.tail _ (List.Mem.tail _ (List.Mem.tail _ (List.Mem.head _)))))))
  unfold KP.ofn at hi
  (conv at hi in (keyDef _ _) => whnf)
  dsimp only at hi
  refine' code_nest (binds := [(Str.ofString "self", .ref x), (Str.ofString "obj", .int i t)]) B F1 X N1 T ?hA ?hf ?hke hi (codeRec_news N1 hc rfl ok.v1) ?hroom ?hbind ?hloc ?_ ?c1 ?c2 ?c3 ?c4
  case hA => rfl
  case hf => rfl
  case hke => rfl
  case hroom => k_room
  case hbind => exact BindsTo.of_eq rfl
  case hloc => exact locs rfl
  case c1 => rfl
  case c2 => rfl
  case c3 => rfl
  case c4 => ((conv in (keyDef _ _) => whnf); decide)
  intro g L' h2 FG F' N' B' X' T'
  dsimp only
  k_lift B'
  (repeat' ((fail_if_success (with_reducible show wpAny _ _ (setAttr _ _ _) _ _ _)); (first | (k_unfold; (try dsimp only)) | walk1 | (dsimp only; walk1))))
  have l2' : dx ≠ x := Nat.ne_of_lt l2
  refine key_set (pre := []) (post := (dx, emptyDict) :: news) F' N' (fun p hp => List.Mem.tail _ (List.Mem.tail _ (H p hp))) (List.Mem.tail _ (List.Mem.head _)) (fun p hp => by cases hp) (fun p hp => ?_) ?_
  · rcases List.mem_cons.mp hp with rfl | hp
    · exact l2'
    · exact Nat.ne_of_lt (Nat.lt_trans (l1 p hp) l2)
  intro h3 F3 N3
  walk1
  refine ⟨L', _, _, F3, N3, fun F4 N4 => ?_⟩
  exact ⟨rfl, h x dx _ _ F4 N4 l1 l2⟩
end Mine
end
theorem Mine.zz17 : True := by
  k_with_none
  w_top off
  (have : True ∧ True := by
    (try walk1)
    all_goals (first | exact trivial | exact ⟨trivial, trivial⟩))
  trivial
-- KeyD
section
open PySem PySem.W PyProof.Rows PySem.Calls PySem.W.X
set_option Elab.async false
set_option maxRecDepth 100000
set_option maxHeartbeats 2000000
namespace Mine
structure BigIn (P : Params) (h : Heap) : Prop where
  is : (bigK P).In h
theorem news_cons {h₀ h : Heap} {L a : Addr} {o : Obj} {news : List (Addr × Obj)} (N : News h₀ L h news) (e : h.get? a = some o) (h1 : a ≠ L) (h2 : h₀.get? a = none) : News h₀ L h ((a, o) :: news) := fun q hq => by
  rcases List.mem_cons.mp hq with rfl | hq
  · exact ⟨e, h1, h2⟩
  · exact N q hq
theorem tab_mem {h₀ h : Heap} {L a : Addr} {ps : Array Value} {news : List (Addr × Obj)} (_ : News h₀ L h news) (hm : (a, tabObj ps) ∈ news) : ∃ ps', (a, tabObj ps') ∈ news := ⟨ps, hm⟩
theorem news_cls (k : KP) (P : Params) (f : Addr) : ∀ p ∈ k.news P f, p.2.cls ≠ Value.none := by
  intro p hp
  unfold KP.news at hp
  simp only [List.mem_cons, List.not_mem_nil, or_false] at hp
  rcases hp with rfl | rfl | rfl | rfl | rfl | rfl | rfl | rfl <;> (intro e; cases e)
/-- cmp_to_key called in the law -/
theorem key_cls (w : World) (L fa : Addr) (h₀ : Heap) (m : Str → Option Value) (s : Shared) (Q E : Value → Shared → Prop) (f : Addr) (news : List (Addr × Obj))
    (XB : BigIn w.params h₀) (F : Fr h₀ L s.heap m) (N : News h₀ L s.heap news) (h23 : (23, tabObj #[]) ∈ news) (l0 : @LT.lt Nat _ 23 L)
    (h : ∀ (k : KP) ps h' tk', k.OK → Fr h₀ L h' m → (∀ rest, (∀ p ∈ rest, p ∈ news ∧ p.1 ≠ 23) → News h₀ L h' (k.news w.params f ++ (23, tabObj ps) :: rest)) → Q (.ref k.C) { s with heap := h', toks := tk' }) :
    wpAny (model PySem.Challenge.rw_oy0177_01.row.prog w) (lawA w L fa) (call (.ref 28) [.ref f]) Q E s := by
  have n23 := N _ h23
  dsimp only at n23
  have hid : ∀ b o, b ≠ 23 → s.heap.get? b = some o → (hideAll s.heap [23]).get? b = some o := fun b o hb e => hideAll_get _ e (by simpa using hb)
  have hne : ∀ b o, h₀.get? b = some o → b ≠ 23 := fun b o e q => by subst q; rw [n23.2.2] at e; cases e
  have D : Mem (hideAll s.heap [23]) s.heap [] [(23, tabObj #[])] := by
    refine ⟨fun b o e _ => of_hideAll _ e, (fun p hp => by cases hp), List.Pairwise.nil, ?_, ?_⟩
    · intro p hp
      rw [List.mem_singleton.mp hp]
      exact ⟨n23.1, hideAll_none _ (List.mem_singleton.mpr rfl)⟩
    · exact List.pairwise_singleton _ _
  have X : (kJ w.params).In (hideAll s.heap [23]) := fun a o e => by
    have e1 : (bigK w.params).lookup a = some o := by rw [big_eq]; exact e
    have e2 := XB.is a o e1
    exact hid a o (hne a o e2) (F.keep _ _ e2)
  refine m_cmp w s f _ _ _ _ _ _ Q E _ D X fun k h' tk' ok hm hT hk => ?_
  obtain ⟨ps, hT⟩ := hT
  have hkeep : ∀ b o, b ≠ 23 → s.heap.get? b = some o → h'.get? b = some o := fun b o hb e => hk b o (hid b o hb e)
  have hLne : L ≠ 23 := Ne.symm (Nat.ne_of_lt l0)
  have hnone : ∀ p ∈ k.news w.params f, s.heap.get? p.1 = none := fun p hp => by
    have hp2 := hm p hp
    have hb : p.1 ≠ 23 := fun e => by
      have e3 := hp2.1
      rw [e, hT] at e3
      exact news_cls k w.params f p hp (by rw [← Option.some.inj e3])
    cases e : s.heap.get? p.1 with
    | none => rfl
    | some o => have := hid _ _ hb e; rw [hp2.2] at this; cases this
  obtain ⟨oL, a1, a2, hL, a3⟩ := F.ns
  have F' : Fr h₀ L h' m := ⟨⟨oL, a1, a2, hkeep _ _ hLne hL, a3⟩, fun b o e => hkeep b o (hne b o e) (F.keep b o e), F.above⟩
  refine h k ps h' tk' ok F' fun rest hr p hp => ?_
  rcases List.mem_append.mp hp with hp | hp
  · have e := hnone p hp
    refine ⟨(hm p hp).1, fun q => ?_, ?_⟩
    · rw [q, hL] at e; cases e
    · cases e2 : h₀.get? p.1 with
      | none => rfl
      | some o => have := F.keep _ _ e2; rw [e] at this; cases this
  · rcases List.mem_cons.mp hp with rfl | hp
    · exact ⟨hT, n23.2⟩
    · obtain ⟨hp1, hp2⟩ := hr p hp
      have n := N p hp1
      exact ⟨hkeep _ _ hp2 n.1, n.2⟩
end Mine
end
theorem Mine.zz18 : True := by
  k_with_none
  w_top off
  (have : True ∧ True := by
    (try walk1)
    all_goals (first | exact trivial | exact ⟨trivial, trivial⟩))
  trivial
-- LawRow
section
open PySem PySem.W PyProof.Rows PySem.Calls
set_option Elab.async false
set_option maxRecDepth 100000
set_option maxHeartbeats 8000000
set_option linter.unusedSimpArgs false
set_option linter.unusedVariables false
namespace Mine

theorem law_row (w : World) (mean : ExcName → Option Value) (mg mb : Str → Option Value) (L fa : Addr) (base h₀ : Heap) (m : Str → Option Value) (s : Shared) (Q : Flow → Shared → Prop) (E : Value → Shared → Prop) (o1 o2 o3 o4 o5 : Obj) (Dd Dn : Addr) (n nn : Nat) (ws vn : List Value) (dr : List Int) (B : Below callerA base [] h₀) (X : (Mine.fk.heap_1 w.params).In h₀) (T : TopM mean mg mb h₀) (l0 : @LT.lt Nat _ 23 L ∧ @LT.lt Nat _ 197 L)
    (F : Fr h₀ L s.heap (fun y => if y = Str.ofString "drawn" then some (.ref Dd) else m y))
    (N : News h₀ L s.heap ((Dd, W.listOf ws.toArray n) :: (Dn, W.listOf vn.toArray nn) :: (L + 1 + 1 + 1 + 1 + 1, o5) :: (L + 1 + 1 + 1 + 1, o4) :: (L + 1 + 1 + 1, o3) :: (L + 1 + 1, o2) :: (L + 1, o1) :: (23, tabObj #[]) :: (197, tabObj #[]) :: []))
    (lN : @LT.lt Nat _ (L + 1 + 1 + 1 + 1 + 1) Dn) (lD : @LT.lt Nat _ Dn Dd) (c1 : o1.data = .cell (some (.ref Dn))) (c2 : o2.data = .cell none) (c3 : o3.data = .cell none) (c4 : o4.data = .cell none) (c5 : o5.data = .cell none) (hi : IntsAre ws dr) (h8 : dr.length ≤ 8)
    (hk : ∀ h' tk' Dr wr o2', Fr h₀ L h' (fun y => if y = Str.ofString "drawn" then some (.ref Dd) else m y) → News h₀ L h' ((Dr, W.listOf (List.toArray wr) 0) :: (Dn, W.listOf vn.toArray nn) :: (L + 1 + 1 + 1 + 1 + 1, o5) :: (L + 1 + 1 + 1 + 1, o4) :: (L + 1 + 1 + 1, o3) :: (L + 1 + 1, o2') :: (L + 1, o1) :: (23, tabObj #[]) :: (197, tabObj #[]) :: []) → @LT.lt Nat _ Dn Dr → o2'.data = .cell (some (.ref Dr)) → IntsAre wr (rowOf dr) →
      wpAny (model PySem.Challenge.rw_oy0177_01.row.prog w) (callerA.deeper (envOfC (Str.ofString "law") (lawFn w.params).scope L fa (Value.ref 199))) (execs (List.drop 3 (match (lawFn w.params).body with | .stmts l => l | _ => [])) (envOfC (Str.ofString "law") (lawFn w.params).scope L fa (Value.ref 199))) Q E { s with heap := h', toks := tk' }) :
    wpAny (model PySem.Challenge.rw_oy0177_01.row.prog w) (callerA.deeper (envOfC (Str.ofString "law") (lawFn w.params).scope L fa (Value.ref 199))) (execs (List.drop 2 (match (lawFn w.params).body with | .stmts l => l | _ => [])) (envOfC (Str.ofString "law") (lawFn w.params).scope L fa (Value.ref 199))) Q E s := by
  (conv in (List.drop 2 _) => whnf)
  repeat (conv in (FuncData.scope _) => whnf)
  (have reg : ∀ (w : World) (h : Heap), (Mine.fk.heap_1 w.params).In h → PySem.Challenge.rw_oy0177_01.row.prog = PySem.Challenge.rw_oy0177_01.row.prog := by (k_fill; intros; rfl))
  clear reg
  (repeat' ((fail_if_success (with_reducible show wpAny _ _ (binaryOp Operator.Add (Value.ref _) (Value.ref _)) _ _ _)); (first | (k_unfold; (try dsimp only)) | walk1 | (dsimp only; walk1))))
  refine' kmk_add_ints ?F ?N ?a ?b ?i ?j ?_ ?z
  case F => k_asm
  case N => k_asm
  case a => kmk_list
  case b => kmk_list
  case i => assumption
  case j => assumption
  case z => exact pad_size h8
  intro D' ws' h' F' N' l1 hI'
  (try k_lt l1)
  (try k_sweep)
  walk1
  walk1
  refine' hk _ _ D' ws' ?o ?f ?n ?l ?d ?i
  case d => assumption
  case f => assumption
  case n => exact news_sub (by assumption) (by lcg_sub)
  case l => omega
  case i => assumption
end Mine
end
theorem Mine.zz19 : True := by
  k_with_none
  w_top off
  (have : True ∧ True := by
    (try walk1)
    all_goals (first | exact trivial | exact ⟨trivial, trivial⟩))
  trivial
-- Loop1
section
open PySem PySem.W PyProof.Rows PySem.Calls PySem.Spec PyProof.V
set_option Elab.async false
set_option maxRecDepth 100000
namespace Mine
/-- the ints of a range with a step -/
def stepKs (a c : Int) (n : Nat) : List Int := (List.range n).map fun (i : Nat) => a + (i : Int) * c
theorem stepKs_length (a c : Int) (n : Nat) : (stepKs a c n).length = n := by simp [stepKs]
section
variable {prog : Program} {w : World} {A : Around} {E : Value → Shared → Prop} {s : Shared} {env : Env} {h₀ : Heap} {x : Str} {body : List Stmt} {Q : Flow → Shared → Prop}
theorem kst_step {σ : Type} {r : Addr} {a₀ b₀ c : Int} {t₀ u₀ v₀ : Tok} {n : Nat} {m₀ : Str → Option Value} (Led : σ → List (Addr × Obj)) (ps : σ → List (Str × Value)) (Facts : σ → Prop) (stored : List Str) (P : List Int → σ → Prop) (c₀ : σ)
    (hh : A.handled = none) (hr : IsRange s.heap r a₀ b₀ c t₀ u₀ v₀) (hsmall : Builtin.Range.small a₀ b₀ c = true) (hn : Builtin.Range.rangeSize a₀ b₀ c = (n : Int)) (F : Fr h₀ env.locals s.heap m₀) (N : News h₀ env.locals s.heap (Led c₀)) (hf : Facts c₀) (hk : ∀ p ∈ ps c₀, m₀ p.1 = some p.2) (hp : P [] c₀)
    (turn : ∀ (d : σ) (pre : List Int) (k : Int) t (u : Str → Option Value) h tk own, k = a₀ + (pre.length : Int) * c → pre.length < n → OwnOff own ((Led c₀).map (·.1)) → Facts d → P pre d →
      Fr h₀ env.locals h (fun y => if y = x then some (.int k t) else kstB (fun z => if stored.contains z then u z else m₀ z) (ps d) y) → News h₀ env.locals h (Led d ++ own) →
      wpAny (model prog w) A (execs body env) (InvPostN h₀ env.locals (KstS Led ps Facts x stored m₀ P (pre ++ [k])) own ((Led c₀).map (·.1)) { s with heap := h, toks := tk } Q) E { s with heap := h, toks := tk })
    (done : ∀ (d : σ) (u : Str → Option Value) h tk, Facts d → P (stepKs a₀ c n) d → Fr h₀ env.locals h (fun y => if y = x then u y else kstB (fun z => if stored.contains z then u z else m₀ z) (ps d) y) → News h₀ env.locals h (Led d) → Q .next { s with heap := h, toks := tk }) :
    wpAny (model prog w) A (pyIter (.ref r)) (fun it s₂ => LoopAtV prog w A h₀ env x body Q E it s₂) E s := by
  refine wpAny_pyIter_range hr hsmall ?_
  have W : Walks prog w A s.heap.objs.size [s.heap.objs.size] [s.heap.objs.size] n (fun i v => i < n ∧ ∃ t, v = .int (a₀ + i * c) t)
      (fun i h => IsRangeIter h s.heap.objs.size (a₀ + (i : Nat) * c) ((n : Int) - (i : Nat)) c) := (Walks.range hh _ a₀ c n).bound
  refine loop_invN (fun i m nx => KstS Led ps Facts x stored m₀ P ((stepKs a₀ c n).take i) m nx) W ?_ ?_ ?_ ?_ (by show IsRangeIter _ _ _ _ _; rw [hn]; simpa using Heap.get?_push_size _ rfl) (F.push _) (fun p hp => ⟨Heap.get?_push_of_some _ (N p hp).1, (N p hp).2⟩) ⟨c₀, rfl, hf, hk, fun _ _ _ _ => rfl, by simpa using hp⟩ ?_ ?_
  · intro hm
    exact absurd F.ns.lt ((List.mem_singleton.mp hm) ▸ Nat.lt_irrefl _)
  · intro b hb
    rw [List.mem_singleton.mp hb]
    exact next_is_new F
  · intro p hp hI
    exact absurd (Heap.lt_size (N p hp).1) ((List.mem_singleton.mp hI) ▸ Nat.lt_irrefl _)
  · intro p hp hI
    exact absurd (Heap.lt_size (N p hp).1) ((List.mem_singleton.mp hI) ▸ Nat.lt_irrefl _)
  · rintro i v m₁ nx h tk own hi ⟨_, t, rfl⟩ _ hoff ⟨d, rfl, hf', h1, h2, hp'⟩ F₁ N₁
    have hk' : (stepKs a₀ c n)[i]? = some (a₀ + (i : Int) * c) := by simp [stepKs, hi]
    have hs : (stepKs a₀ c n).take (i + 1) = (stepKs a₀ c n).take i ++ [a₀ + (i : Int) * c] := by simp [List.take_add_one, hk']
    have hlen : ((stepKs a₀ c n).take i).length = i := by rw [List.length_take, stepKs_length]; (first | lia | omega)
    rw [hs]
    exact turn d _ _ t m₁ h tk own (by rw [hlen]) (by rw [hlen]; exact hi) hoff hf' hp' (kst_fr h1 h2 F₁) N₁
  · rintro m₁ nx h tk ⟨d, rfl, hf', h1, h2, hp'⟩ F₁ N₁
    have hl : (stepKs a₀ c n).take n = stepKs a₀ c n := List.take_of_length_le (Nat.le_of_eq (stepKs_length _ _ _))
    rw [hl] at hp'
    exact done d m₁ h tk hf' hp' (kst_frOut h1 h2 F₁) N₁
end
/-- a contract that asks something of the heap -/
def SpecH (w : World) (mean : ExcName → Option Value) (mg mb : Str → Option Value) (f : Addr) (dN uN : Nat) (vs : List Value) (kw : List (Str × Value)) (P : Heap → Prop) (R : Value → Prop) : Prop :=
  ∀ (dp un : Nat) (gd : Option (List Code)) (cn : Str) (cs : Scope) (a : Addr) (ccd : Value) (cl : List (Str × Addr)) (outer : List Env) (A₀ : Around) (base h₀ : Heap) (L : Addr) (m : Str → Option Value) (s : Shared) (Q E : Value → Shared → Prop),
    Below A₀ base outer h₀ → Fr h₀ L s.heap m → (Mine.fk.heap_1 w.params).In h₀ → TopM mean mg mb h₀ → cs.kind = .function → dp + dN < recursionLimit → un + uN < cLine → P s.heap →
    (∀ v h' tk', R v → Keeps s.heap h' → Q v { s with heap := h', toks := tk' }) →
    wpAny (model PySem.Challenge.rw_oy0177_01.row.prog w) (ktrTop dp un gd cn cs L a ccd cl outer) (call (.ref f) vs kw) Q E s
theorem use_specH {w : World} {A₀ : Around} {s : Shared} {L : Addr} {h₀ base : Heap} {m mg mb : Str → Option Value} {mean : ExcName → Option Value} {f : Addr} {dN uN : Nat} {vs : List Value} {kw : List (Str × Value)} {P : Heap → Prop} {R : Value → Prop} {dp un : Nat} {gd : Option (List Code)} {cn : Str} {cs : Scope} {a : Addr} {ccd : Value} {cl : List (Str × Addr)} {outer : List Env} {news : List (Addr × Obj)} {Q E : Value → Shared → Prop}
    (S : SpecH w mean mg mb f dN uN vs kw P R) (B : Below A₀ base outer h₀) (F : Fr h₀ L s.heap m) (X : (Mine.fk.heap_1 w.params).In h₀) (N : News h₀ L s.heap news) (T : TopM mean mg mb h₀) (hk : cs.kind = .function) (hd : dp + dN < recursionLimit) (hu : un + uN < cLine) (hP : P s.heap)
    (h : ∀ v h' tk', R v → Fr h₀ L h' m → News h₀ L h' news → Q v { s with heap := h', toks := tk' }) :
    wpAny (model PySem.Challenge.rw_oy0177_01.row.prog w) (ktrTop dp un gd cn cs L a ccd cl outer) (call (.ref f) vs kw) Q E s :=
  S _ _ _ _ _ _ _ _ _ _ _ _ _ _ _ _ _ B F X T hk hd hu hP fun v h' tk' r k => h v h' tk' r (k.fr F) (k.news N)
end Mine
end
theorem Mine.zz20 : True := by
  k_with_none
  w_top off
  (have : True ∧ True := by
    (try walk1)
    all_goals (first | exact trivial | exact ⟨trivial, trivial⟩))
  trivial
-- Pure1
section
open PySem PySem.W PyProof.Rows PySem.Calls
set_option Elab.async false
namespace Mine
/-! plain facts: bits, the 64 signs -/
theorem and_shift_zero (a b k : Nat) (h : b < 2 ^ k) : (a * 2 ^ k) &&& b = 0 := by
  apply Nat.eq_of_testBit_eq
  intro i
  rw [Nat.testBit_and, Nat.zero_testBit]
  by_cases hi : i < k
  · have : (a * 2 ^ k).testBit i = false := by
      rw [Nat.testBit_mul_two_pow]
      simp; (first | lia | omega)
    rw [this]; rfl
  · have : b.testBit i = false := Nat.testBit_lt_two_pow (Nat.lt_of_lt_of_le h (Nat.pow_le_pow_right (by decide) (by (first | lia | omega))))
    rw [this]; simp
theorem bitOr_shift (a b : Int) (k : Nat) (ha : 0 ≤ a) (h0 : 0 ≤ b) (h1 : b < 2 ^ k) : Builtin.bitOr (a * 2 ^ k) b = a * 2 ^ k + b := by
  rw [bitOr_and]
  obtain ⟨m, rfl⟩ := Int.eq_ofNat_of_zero_le ha
  obtain ⟨n, rfl⟩ := Int.eq_ofNat_of_zero_le h0
  have e : ((m : Int) * 2 ^ k) = ((m * 2 ^ k : Nat) : Int) := by simp
  have hn : n < 2 ^ k := by
    have : ((n : Nat) : Int) < ((2 ^ k : Nat) : Int) := by rw [kbt_cast]; exact h1
    exact Int.ofNat_lt.mp this
  have : Builtin.bitAnd ((m : Int) * 2 ^ k) (n : Int) = 0 := by
    rw [e]
    unfold Builtin.bitAnd
    rw [decide_eq_true (by (first | lia | omega) : (0 : Int) ≤ ((m * 2 ^ k : Nat) : Int)), decide_eq_true (by (first | lia | omega) : (0 : Int) ≤ (n : Int))]
    simp only [Int.toNat_natCast]
    rw [and_shift_zero m n k hn]; rfl
  (first | lia | omega)
def b64l : List Int := [65, 66, 67, 68, 69, 70, 71, 72, 73, 74, 75, 76, 77, 78, 79, 80, 81, 82, 83, 84, 85, 86, 87, 88, 89, 90, 97, 98, 99, 100, 101, 102, 103, 104, 105, 106, 107, 108, 109, 110, 111, 112, 113, 114, 115, 116, 117, 118, 119, 120, 121, 122, 48, 49, 50, 51, 52, 53, 54, 55, 56, 57, 43, 47]
/-- the sign of a figure -/
def b64c (x : Int) : Int := b64l.getD x.toNat 0
theorem b64c_in (x : Int) : 0 ≤ b64c x ∧ b64c x < 256 := by
  unfold b64c
  by_cases h : x.toNat < 64
  · have key : ∀ n : Fin 64, 0 ≤ b64l.getD n.val 0 ∧ b64l.getD n.val 0 < 256 := by decide
    exact key ⟨x.toNat, h⟩
  · rw [List.getD_eq_getElem?_getD, List.getElem?_eq_none (by show b64l.length ≤ _; have : b64l.length = 64 := rfl; (first | lia | omega))]
    decide
def encStep (st : Int × Int × List Int) (b : Int) : Int × Int × List Int :=
  if st.2.1 = 0 then ((st.1 * 256 + b) % 65536, 2, st.2.2 ++ [b64c ((st.1 * 256 + b) % 65536 / 4 % 64)])
  else if st.2.1 = 2 then ((st.1 * 256 + b) % 65536, 4, st.2.2 ++ [b64c ((st.1 * 256 + b) % 65536 / 16 % 64)])
  else ((st.1 * 256 + b) % 65536, 0, st.2.2 ++ [b64c ((st.1 * 256 + b) % 65536 / 64 % 64), b64c ((st.1 * 256 + b) % 65536 % 64)])
def EncInv (pre : List Int) (lc lb : Int) (out : List Int) : Prop := pre.foldl encStep (0, 0, []) = (lc, lb, out)
theorem enc_start : EncInv [] 0 0 [] := rfl
theorem enc_facts {pre : List Int} {lc lb : Int} {out : List Int} (h : EncInv pre lc lb out) : 0 ≤ lc ∧ lc < 65536 ∧ (lb = 0 ∨ lb = 2 ∨ lb = 4) ∧ out.length ≤ 2 * pre.length ∧ (∀ n ∈ out, 0 ≤ n ∧ n < 256) := by
  have key : ∀ (l : List Int) (st : Int × Int × List Int), (0 ≤ st.1 ∧ st.1 < 65536 ∧ (st.2.1 = 0 ∨ st.2.1 = 2 ∨ st.2.1 = 4) ∧ (∀ n ∈ st.2.2, 0 ≤ n ∧ n < 256)) →
      let r := l.foldl encStep st
      0 ≤ r.1 ∧ r.1 < 65536 ∧ (r.2.1 = 0 ∨ r.2.1 = 2 ∨ r.2.1 = 4) ∧ r.2.2.length ≤ st.2.2.length + 2 * l.length ∧ (∀ n ∈ r.2.2, 0 ≤ n ∧ n < 256) := by
    intro l
    induction l with
    | nil => intro st ⟨a, b, c, d⟩; exact ⟨a, b, c, by simp, d⟩
    | cons x l ih =>
      rintro ⟨p, q, o⟩ ⟨a, b, c, d⟩
      simp only [List.foldl_cons]
      have hstep : 0 ≤ (encStep (p, q, o) x).1 ∧ (encStep (p, q, o) x).1 < 65536 ∧ ((encStep (p, q, o) x).2.1 = 0 ∨ (encStep (p, q, o) x).2.1 = 2 ∨ (encStep (p, q, o) x).2.1 = 4) ∧ (∀ n ∈ (encStep (p, q, o) x).2.2, 0 ≤ n ∧ n < 256) ∧ (encStep (p, q, o) x).2.2.length ≤ o.length + 2 := by
        unfold encStep
        dsimp only at *
        split
        · refine ⟨by (first | lia | omega), by (first | lia | omega), by simp, ?_, by simp⟩
          intro n hn
          rcases List.mem_append.mp hn with h | h
          · exact d n h
          · rw [List.mem_singleton.mp h]; exact b64c_in _
        · split
          · refine ⟨by (first | lia | omega), by (first | lia | omega), by simp, ?_, by simp⟩
            intro n hn
            rcases List.mem_append.mp hn with h | h
            · exact d n h
            · rw [List.mem_singleton.mp h]; exact b64c_in _
          · refine ⟨by (first | lia | omega), by (first | lia | omega), by simp, ?_, by simp⟩
            intro n hn
            rcases List.mem_append.mp hn with h | h
            · exact d n h
            · rcases List.mem_cons.mp h with h | h
              · rw [h]; exact b64c_in _
              · rw [List.mem_singleton.mp h]; exact b64c_in _
      obtain ⟨h1, h2, h3, h4, h5⟩ := hstep
      obtain ⟨g1, g2, g3, g4, g5⟩ := ih (encStep (p, q, o) x) ⟨h1, h2, h3, h4⟩
      refine ⟨g1, g2, g3, ?_, g5⟩
      simp only [List.length_cons]
      dsimp only at *
      (first | lia | omega)
  have := key pre (0, 0, []) ⟨by decide, by decide, by decide, by simp⟩
  rw [show pre.foldl encStep (0, 0, []) = (lc, lb, out) from h] at this
  simpa using this
theorem enc_t0 {pre : List Int} {lc k : Int} {out : List Int} (h : EncInv pre lc 0 out) : EncInv (pre ++ [k]) ((lc * 256 + k) % 65536) 2 (out ++ [b64c ((lc * 256 + k) % 65536 / 4 % 64)]) := by
  unfold EncInv at *; rw [List.foldl_append, h]; rfl
theorem enc_t2 {pre : List Int} {lc k : Int} {out : List Int} (h : EncInv pre lc 2 out) : EncInv (pre ++ [k]) ((lc * 256 + k) % 65536) 4 (out ++ [b64c ((lc * 256 + k) % 65536 / 16 % 64)]) := by
  unfold EncInv at *; rw [List.foldl_append, h]; rfl
theorem enc_t4 {pre : List Int} {lc k : Int} {out : List Int} (h : EncInv pre lc 4 out) : EncInv (pre ++ [k]) ((lc * 256 + k) % 65536) 0 (out ++ [b64c ((lc * 256 + k) % 65536 / 64 % 64), b64c ((lc * 256 + k) % 65536 % 64)]) := by
  unfold EncInv at *; rw [List.foldl_append, h]; rfl

theorem enc_val {lc k : Int} (f1 : 0 ≤ lc) (h0 : 0 ≤ k) (h1 : k < 256) : Builtin.bitAnd (Builtin.bitOr (lc * 2 ^ Int.toNat 8) k) 65535 = (lc * 256 + k) % 65536 := by
  rw [bitOr_shift lc k (Int.toNat 8) f1 h0 h1, bitAnd_m16]; rfl
theorem enc_e0 {pre : List Int} {lc k : Int} {out : List Int} (h : EncInv pre lc 0 out) (f1 : 0 ≤ lc) (h0 : 0 ≤ k) (h1 : k < 256) :
    EncInv (pre ++ [k]) (Builtin.bitAnd (Builtin.bitOr (lc * 2 ^ Int.toNat 8) k) 65535) (0 + 8 - 6) (out ++ [b64c ((Builtin.bitAnd (Builtin.bitOr (lc * 2 ^ Int.toNat 8) k) 65535).fdiv (2 ^ (0 + 8 - 6 : Int).toNat) % 64)]) := by
  rw [enc_val f1 h0 h1]
  have e : ((lc * 256 + k) % 65536).fdiv (2 ^ (0 + 8 - 6 : Int).toNat) = (lc * 256 + k) % 65536 / 4 := Int.fdiv_eq_ediv_of_nonneg _ (by decide)
  rw [e]
  exact enc_t0 h
theorem enc_e2 {pre : List Int} {lc k : Int} {out : List Int} (h : EncInv pre lc 2 out) (f1 : 0 ≤ lc) (h0 : 0 ≤ k) (h1 : k < 256) :
    EncInv (pre ++ [k]) (Builtin.bitAnd (Builtin.bitOr (lc * 2 ^ Int.toNat 8) k) 65535) (2 + 8 - 6) (out ++ [b64c ((Builtin.bitAnd (Builtin.bitOr (lc * 2 ^ Int.toNat 8) k) 65535).fdiv (2 ^ (2 + 8 - 6 : Int).toNat) % 64)]) := by
  rw [enc_val f1 h0 h1]
  have e : ((lc * 256 + k) % 65536).fdiv (2 ^ (2 + 8 - 6 : Int).toNat) = (lc * 256 + k) % 65536 / 16 := Int.fdiv_eq_ediv_of_nonneg _ (by decide)
  rw [e]
  exact enc_t2 h
theorem enc_e4 {pre : List Int} {lc k : Int} {out : List Int} (h : EncInv pre lc 4 out) (f1 : 0 ≤ lc) (h0 : 0 ≤ k) (h1 : k < 256) :
    EncInv (pre ++ [k]) (Builtin.bitAnd (Builtin.bitOr (lc * 2 ^ Int.toNat 8) k) 65535) (4 + 8 - 6 - 6)
      (out ++ [b64c ((Builtin.bitAnd (Builtin.bitOr (lc * 2 ^ Int.toNat 8) k) 65535).fdiv (2 ^ (4 + 8 - 6 : Int).toNat) % 64)] ++ [b64c ((Builtin.bitAnd (Builtin.bitOr (lc * 2 ^ Int.toNat 8) k) 65535).fdiv (2 ^ (4 + 8 - 6 - 6 : Int).toNat) % 64)]) := by
  rw [enc_val f1 h0 h1]
  have e : ((lc * 256 + k) % 65536).fdiv (2 ^ (4 + 8 - 6 : Int).toNat) = (lc * 256 + k) % 65536 / 64 := Int.fdiv_eq_ediv_of_nonneg _ (by decide)
  have e' : ((lc * 256 + k) % 65536).fdiv (2 ^ (4 + 8 - 6 - 6 : Int).toNat) = (lc * 256 + k) % 65536 := by
    rw [Int.fdiv_eq_ediv_of_nonneg _ (by decide)]; exact Int.ediv_one _
  rw [e, e', List.append_assoc]
  exact enc_t4 h
/-- the signs of octets -/
def encL (l : List Int) : List Int := (l.foldl encStep (0, 0, [])).2.2
theorem enc_lb : ∀ (l : List Int) (st : Int × Int × List Int), (st.2.1 = 0 ∨ st.2.1 = 2 ∨ st.2.1 = 4) → (l.foldl encStep st).2.1 = (st.2.1 + 2 * (l.length : Int)) % 6
  | [], st, h => by rcases h with h | h | h <;> simp [h]
  | x :: l, ⟨p, q, o⟩, h => by
    dsimp only at h
    rcases h with rfl | rfl | rfl
    all_goals
      rw [List.foldl_cons, enc_lb l _ (by simp [encStep]), List.length_cons]
      simp only [encStep]
      simp
      (first | lia | omega)
theorem enc_end {l : List Int} {lc lb : Int} {out : List Int} (h : EncInv l lc lb out) (h3 : l.length % 3 = 0) : lb = 0 ∧ out = encL l := by
  have e := enc_lb l (0, 0, []) (by simp)
  unfold EncInv at h
  have h' : encL l = out := by unfold encL; rw [h]
  rw [h] at e
  dsimp only at e
  exact ⟨by (first | lia | omega), h'.symm⟩

section
variable {prog : Program} {w : World} {A : Around} {E : Value → Shared → Prop} {s : Shared} {value slice : PySem.Expr} {Q : Value → Shared → Prop}
theorem item_b64 {y : Int} {u : Tok} (h : ∀ t' k, Q (.int (b64c (y % 64)) t') { s with toks := k })
    (hs : subscripted slice false (.bytes #[65, 66, 67, 68, 69, 70, 71, 72, 73, 74, 75, 76, 77, 78, 79, 80, 81, 82, 83, 84, 85, 86, 87, 88, 89, 90, 97, 98, 99, 100, 101, 102, 103, 104, 105, 106, 107, 108, 109, 110, 111, 112, 113, 114, 115, 116, 117, 118, 119, 120, 121, 122, 48, 49, 50, 51, 52, 53, 54, 55, 56, 57, 43, 47] 272) (.int (Builtin.bitAnd y 63) u) = operate [.bytes #[65, 66, 67, 68, 69, 70, 71, 72, 73, 74, 75, 76, 77, 78, 79, 80, 81, 82, 83, 84, 85, 86, 87, 88, 89, 90, 97, 98, 99, 100, 101, 102, 103, 104, 105, 106, 107, 108, 109, 110, 111, 112, 113, 114, 115, 116, 117, 118, 119, 120, 121, 122, 48, 49, 50, 51, 52, 53, 54, 55, 56, 57, 43, 47] 272, .int (Builtin.bitAnd y 63) u] (getItem (.bytes #[65, 66, 67, 68, 69, 70, 71, 72, 73, 74, 75, 76, 77, 78, 79, 80, 81, 82, 83, 84, 85, 86, 87, 88, 89, 90, 97, 98, 99, 100, 101, 102, 103, 104, 105, 106, 107, 108, 109, 110, 111, 112, 113, 114, 115, 116, 117, 118, 119, 120, 121, 122, 48, 49, 50, 51, 52, 53, 54, 55, 56, 57, 43, 47] 272) (.int (Builtin.bitAnd y 63) u)) := by with_unfolding_all rfl)
    (ht : ∀ r, letTemporaryGo value (.bytes #[65, 66, 67, 68, 69, 70, 71, 72, 73, 74, 75, 76, 77, 78, 79, 80, 81, 82, 83, 84, 85, 86, 87, 88, 89, 90, 97, 98, 99, 100, 101, 102, 103, 104, 105, 106, 107, 108, 109, 110, 111, 112, 113, 114, 115, 116, 117, 118, 119, 120, 121, 122, 48, 49, 50, 51, 52, 53, 54, 55, 56, 57, 43, 47] 272) r = pure () := by intro _; with_unfolding_all rfl) :
    wpAny (model prog w) A (subscriptTail value slice (.bytes #[65, 66, 67, 68, 69, 70, 71, 72, 73, 74, 75, 76, 77, 78, 79, 80, 81, 82, 83, 84, 85, 86, 87, 88, 89, 90, 97, 98, 99, 100, 101, 102, 103, 104, 105, 106, 107, 108, 109, 110, 111, 112, 113, 114, 115, 116, 117, 118, 119, 120, 121, 122, 48, 49, 50, 51, 52, 53, 54, 55, 56, 57, 43, 47] 272) (.int (Builtin.bitAnd y 63) u)) Q E s := by
  have e : Builtin.bitAnd y 63 = y % 64 := bitAnd_m6 y
  have hb : KBw.bInts #[65, 66, 67, 68, 69, 70, 71, 72, 73, 74, 75, 76, 77, 78, 79, 80, 81, 82, 83, 84, 85, 86, 87, 88, 89, 90, 97, 98, 99, 100, 101, 102, 103, 104, 105, 106, 107, 108, 109, 110, 111, 112, 113, 114, 115, 116, 117, 118, 119, 120, 121, 122, 48, 49, 50, 51, 52, 53, 54, 55, 56, 57, 43, 47] = b64l := by decide +kernel
  have hl : b64l.length = 64 := rfl
  refine KBw.item_K hb (by decide) (by rw [e]; (first | lia | omega)) (by rw [e, hl]; (first | lia | omega)) (fun t' k _ _ => ?_) hs ht
  rw [e]
  exact h t' k
end
end Mine
end
theorem Mine.zz21 : True := by
  k_with_none
  w_top off
  (have : True ∧ True := by
    (try walk1)
    all_goals (first | exact trivial | exact ⟨trivial, trivial⟩))
  trivial
-- Rules1
section
open PySem PySem.W PyProof.Rows PySem.Calls PySem.Builtin
set_option Elab.async false
set_option maxRecDepth 100000
set_option maxHeartbeats 4000000
namespace Mine
/-! rules for built-ins that the library has none for: bytes.translate, bytes.maketrans -/
theorem slot_bytes_translate : Slot "bytes" "translate" "bytes.translate" :=
  .of (owner := "bytes") (n := "translate") (by rw [typeLookup_type, builtinLookup_eq_fast]; kernel_rfl) (by decide +kernel) (by decide +kernel) (by decide +kernel)
    (by first | exact .inl (by decide +kernel) | exact .inr (by decide +kernel)) (by rw [isSubtype_type]; kernel_rfl)
theorem type_bytes_translate : typeOf (.builtin "bytes.translate") = pure (.type "method_descriptor") := by show builtinType _ = _; rw [builtinType_eq_fast]; kernel_rfl
theorem entry_bytes_translate : entryFor table "bytes.translate" = some Builtin.«bytes.translate» := entryFor_of_tree (by kernel_rfl)
theorem args_bytes_translate (a b : Value) : argsOk "bytes.translate" ⟨[a, b], []⟩ := by
  unfold argsOk; rw [signature?_of (id := "bytes.translate") (n := "etalsnart".toList) (o := ['s', 'e', 't', 'y', 'b']) (by kernel_rfl) FB.owner_bytes]; kernel_rfl
section
variable {M : Model} {prog : Program} {w : World} {A : Around} {E : Value → Shared → Prop} {s : Shared} {b T c d : Array UInt8} {t t2 : Tok}
theorem method_translate {pl : Sem Bool} {Q : Value × List Value → Shared → Prop} (h : Q (.builtin "bytes.translate", [.bytes b t]) s) : wpAny M A (getMethod (.bytes b t) "translate" pl) Q E s := by
  with_reducible exact KBd.method_of (.bytes b t) (typeIs_bytes _ _ _) slot_bytes_translate type_bytes_translate KBd.noRef h
theorem filter_all (b : Array UInt8) : b.filter (fun x => !(#[] : Array UInt8).contains x) = b := by
  simp
theorem meets_translate (hT : T.size = 256) :
    Meets («bytes.translate» ⟨[.bytes b t, .bytes T t2], []⟩) (fun _ R s => b.size ≤ sizeLine ∧ ∀ t' k, R (.ok (.ret (.bytes (b.map fun c => T.getD c.toNat c) t'))) { s with toks := k }) := by
  refine .of_wp fun prog w A R s hS => ?_
  obtain ⟨hsz, h⟩ := hS
  unfold «bytes.translate» Bytes.translateM
  dsimp only
  rw [if_neg (by show ¬ (1 + 0 > 2); decide), if_neg (by decide), if_neg (show ¬ ((Value.bytes T t2 == Value.none) = true) from Bool.false_ne_true)]
  refine wpAny_bind (wpAny_of_eq KBd.like_eq ?_)
  have e1 : ¬ ((T.size != 256) = true) := by rw [hT]; decide
  rw [if_neg e1]
  refine wpAny_bind (wpAny_pure ?_)
  refine wpAny_bind (wpAny_pure ?_)
  refine wpAny_bind (wpAny_of_eq (a := b) rfl ?_)
  dsimp only
  rw [filter_all]
  by_cases hb : ((b.map fun c => T.getD c.toNat c) == b) = true
  · rw [if_pos hb]
    have e : (b.map fun c => T.getD c.toNat c) = b := eq_of_beq hb
    rw [e] at h
    exact wpAny_bind (wpAny_rule (wpAny_bind (wpAny_pure (wpAny_pure ⟨_, rfl, h _ s.toks⟩))))
  · rw [if_neg hb]
    refine wpAny_bind ?_
    show wpAny _ _ (mkBytes _) _ _ s
    unfold mkBytes
    rw [if_neg (by rw [Array.size_map]; (first | lia | omega))]
    exact wpAny_bind (wpAny_fresh (wpAny_pure (wpAny_pure ⟨_, rfl, h _ _⟩)))
theorem call_translate {Q : Value → Shared → Prop} (hT : T.size = 256) (hb : b.size ≤ 16777216) (h : ∀ t' k, Q (.bytes (b.map fun c => T.getD c.toNat c) t') { s with toks := k }) :
    wpAny (model prog w) A (call (.builtin "bytes.translate") [.bytes b t, .bytes T t2]) Q E s :=
  call_meets slot_bytes_translate (typeIs_bytes _ _ _) entry_bytes_translate (args_bytes_translate _ _) (meets_translate hT) ⟨by rw [sizeLine_eq]; exact hb, h⟩
/-- the table that maketrans makes -/
def transTab (c d : Array UInt8) : Array UInt8 := (c.toList.zip d.toList).foldl (fun t (p : UInt8 × UInt8) => t.setIfInBounds p.1.toNat p.2) ((Array.range 256).map (·.toUInt8))
theorem transTab_size (c d : Array UInt8) : (transTab c d).size = 256 := by
  unfold transTab
  have key : ∀ (l : List (UInt8 × UInt8)) (a : Array UInt8), (l.foldl (fun t (p : UInt8 × UInt8) => t.setIfInBounds p.1.toNat p.2) a).size = a.size := by
    intro l
    induction l with
    | nil => intro a; rfl
    | cons p l ih => intro a; rw [List.foldl_cons, ih]; simp
  rw [key]; simp
theorem check_maketrans (a b : Value) : checkBuiltinCall "bytes.maketrans" ⟨[a, b], []⟩ = pure () := by kernel_rfl
theorem plain_maketrans : plainId "bytes.maketrans" = true := by decide +kernel
theorem entry_maketrans : entryFor table "bytes.maketrans" = some Builtin.«bytes.maketrans» := entryFor_of_tree (by kernel_rfl)
theorem meets_maketrans (hc : c.size = d.size) :
    Meets («bytes.maketrans» ⟨[.bytes c t, .bytes d t2], []⟩) (fun _ R s => ∀ t' k, R (.ok (.ret (.bytes (transTab c d) t'))) { s with toks := k }) := by
  refine .of_wp fun prog w A R s h => ?_
  show wpAny _ _ (Bytes.bytesLike "bytes.maketrans" (.bytes c t) >>= fun r => _) _ _ s
  refine wpAny_bind (wpAny_of_eq KBd.like_eq ?_)
  show wpAny _ _ (Bytes.bytesLike "bytes.maketrans" (.bytes d t2) >>= fun r => _) _ _ s
  refine wpAny_bind (wpAny_of_eq KBd.like_eq ?_)
  have e1 : (c.size != d.size) = false := by rw [hc]; simp
  dsimp only
  rw [e1]
  show wpAny _ _ (mkBytes (transTab c d) >>= fun r => ret r) _ _ s
  unfold mkBytes
  rw [if_neg (by rw [transTab_size, sizeLine_eq]; (first | lia | omega))]
  exact wpAny_bind (wpAny_bind (wpAny_fresh (wpAny_pure (wpAny_pure ⟨_, rfl, h _ _⟩))))
theorem call_maketrans {Q : Value → Shared → Prop} (hc : c.size = d.size) (h : ∀ t' k, Q (.bytes (transTab c d) t') { s with toks := k }) :
    wpAny (model prog w) A (call (.builtin "bytes.maketrans") [.bytes c t, .bytes d t2]) Q E s :=
by
  refine wpAny_call (codeAny_call_builtin plain_maketrans entry_maketrans ?_)
  rw [check_maketrans]
  exact wpAny_pure (meets_maketrans hc prog w A (wants Q E) s h)
theorem in_nil (h : Heap) : Frag.In [] h := fun _ _ e => by cases e
theorem find_maketrans : findCls [] (.type "bytes") (.type "type") "maketrans" = some (.val (.builtin "bytes.maketrans")) := by kernel_rfl
theorem method_maketrans {pl : Sem Bool} {Q : Value × List Value → Shared → Prop} (h : Q (.builtin "bytes.maketrans", []) { s with toks := s.toks + 1 }) : wpAny (model prog w) A (getMethod (.type "bytes") "maketrans" pl) Q E s := by
  have X : Frag.In [] s.heap := in_nil _
  have hs : Manifest.isStub "bytes" = false := by decide +kernel
  have ht : typeOf (.type "bytes") = pure (.type "type") := TypeEq.meta_bytes {}
  have hstub : opaqueClassAbove (.type "bytes") = pure none := by unfold opaqueClassAbove; dsimp only; rw [hs]; rfl
  have L0 : Looks (model prog w) s.heap (typeOf (.type "bytes")) (.type "type") := Looks.of_pure ht
  have hg : findIn [] (.type "type") "__getattribute__" = some (some (.builtin "type.__getattribute__")) := type_tga
  unfold getMethod specialOf
  refine wpAny_bind (wpAny_bind (L0.here ((looks_findIn X hg).here ?_)))
  dsimp only
  rw [if_pos canon_tga]
  refine wpAny_bind (wpAny_mono (Q := fun v => Q (v, [])) (E := E) ?_ (fun _ _ z => wpAny_pure z) fun _ _ z => z)
  have LO : Looks (model prog w) s.heap (opaqueClassAbove (.type "bytes")) none := Looks.of_pure hstub
  refine cls_open X LO L0 hg (looks_hook X (r := none) (by rfl)) (by show subIn [] _ _ = _; rfl) find_maketrans
    (wpAny_pure (by show wpAny _ _ (handedOut _) _ _ _; rw [handedOut_of rfl]; exact wpAny_pure h))
end
end Mine
end
theorem Mine.zz22 : True := by
  k_with_none
  w_top off
  (have : True ∧ True := by
    (try walk1)
    all_goals (first | exact trivial | exact ⟨trivial, trivial⟩))
  trivial
-- Pure2
section
open PySem PySem.W PyProof.Rows PySem.Calls
set_option Elab.async false
set_option maxRecDepth 100000
namespace Mine
/-- + and / become & and ; -/
def altOut (x : Int) : Int := if x = 43 then 38 else if x = 47 then 59 else x
/-- & and ; become + and / -/
def altIn (x : Int) : Int := if x = 38 then 43 else if x = 59 then 47 else x
theorem altOut_tab : ∀ n : Fin 256, (transTab #[43, 47] #[38, 59]).getD n.val.toUInt8.toNat n.val.toUInt8 = (altOut (n.val : Int)).toNat.toUInt8 := by decide +kernel
theorem altIn_tab : ∀ n : Fin 256, (transTab #[38, 59] #[43, 47]).getD n.val.toUInt8.toNat n.val.toUInt8 = (altIn (n.val : Int)).toNat.toUInt8 := by decide +kernel
theorem translate_byteArr {f : Int → Int} {T : Array UInt8} (h : ∀ n : Fin 256, T.getD n.val.toUInt8.toNat n.val.toUInt8 = (f (n.val : Int)).toNat.toUInt8) (ns : List Int) (hin : ∀ n ∈ ns, 0 ≤ n ∧ n < 256) :
    (byteArr ns).map (fun c => T.getD c.toNat c) = byteArr (ns.map f) := by
  unfold byteArr
  simp only [List.map_toArray, List.map_map]
  congr 1
  apply List.map_congr_left
  intro n hn
  have hb := hin n hn
  have := h ⟨n.toNat, by (first | lia | omega)⟩
  simp only [Function.comp]
  rw [this]
  congr 3
  dsimp only
  (first | lia | omega)
theorem altOut_in {ns : List Int} (hin : ∀ n ∈ ns, 0 ≤ n ∧ n < 256) : ∀ n ∈ ns.map altOut, 0 ≤ n ∧ n < 256 := by
  intro n hn
  obtain ⟨x, hx, rfl⟩ := List.mem_map.mp hn
  have := hin x hx
  unfold altOut
  (repeat' split) <;> (first | lia | omega)
theorem altIn_in {ns : List Int} (hin : ∀ n ∈ ns, 0 ≤ n ∧ n < 256) : ∀ n ∈ ns.map altIn, 0 ≤ n ∧ n < 256 := by
  intro n hn
  obtain ⟨x, hx, rfl⟩ := List.mem_map.mp hn
  have := hin x hx
  unfold altIn
  (repeat' split) <;> (first | lia | omega)
theorem byteArr_size (ns : List Int) : (byteArr ns).size = ns.length := by simp [byteArr]
theorem byteArr_bInts (b : Array UInt8) : byteArr (KBw.bInts b) = b := by
  unfold byteArr KBw.bInts
  rw [List.map_map]
  have : ((fun n : Int => n.toNat.toUInt8) ∘ fun c : UInt8 => (c.toNat : Int)) = id := by
    funext c
    simp only [Function.comp, Int.toNat_natCast, id]
    exact UInt8.ofNat_toNat
  rw [this, List.map_id]
theorem encL_len (l : List Int) : (encL l).length ≤ 2 * l.length ∧ ∀ n ∈ encL l, 0 ≤ n ∧ n < 256 := by
  have h : EncInv l (l.foldl encStep (0, 0, [])).1 (l.foldl encStep (0, 0, [])).2.1 (encL l) := rfl
  obtain ⟨_, _, _, a, b⟩ := enc_facts h
  exact ⟨a, b⟩
end Mine
end
theorem Mine.zz23 : True := by
  k_with_none
  w_top off
  (have : True ∧ True := by
    (try walk1)
    all_goals (first | exact trivial | exact ⟨trivial, trivial⟩))
  trivial
-- T1
section
open PySem PySem.W PyProof.Rows PySem.Calls
set_option Elab.async false
set_option maxRecDepth 100000
set_option maxHeartbeats 8000000
namespace Mine
def b64v (c : Int) : Int := if 65 ≤ c ∧ c ≤ 90 then c - 65 else if 97 ≤ c ∧ c ≤ 122 then c - 71 else if 48 ≤ c ∧ c ≤ 57 then c + 4 else if c = 43 then 62 else if c = 47 then 63 else 64
theorem b64_value_spec (w : World) (mean : ExcName → Option Value) (mg mb : Str → Option Value) (c : Int) (t : Tok) : Spec w mean mg mb 86 1 8 [.int c t] [] (IntIs (b64v c)) := by
  unfold Spec
  k_fill
  intro dp un gd cn cs a ccd cl outer A₀ base h₀ L m s Q E B F X T hk hd hu hret
  refine wpAny_call ?_
  k_dflt ((refine' enter_def ?k1 ?k2 ?k3 ?k5 ?kA ?kF ?kK ?k6 ?k7 ?k8 ?k9 ?kB ?_ ?c2 ?c3 ?c4 ?c5; (case kA => exact rfl); (case kF => exact rfl); (case kK => assumption); (case k1 => k_asm); (case k2 => k_asm); (case k3 => k_asm); (case k5 => k_asm); (case k6 => k_is); (case k7 => k_is); (case k8 => ktr_room); (case k9 => exact BindsTo.of_eq rfl); (case c5 => decide); (case kB => exact locs rfl); (case c2 => exact rfl); (case c3 => exact rfl); (case c4 => exact rfl); k_whole; intro L' h' F' N' B' X' T'; (try dsimp only); (try k_lift B'); (try k_fold)))
  (repeat' (first | (k_unfold; (try dsimp only)) | ((with_reducible show wpAny _ _ (execs (_ :: _) _) _ _ _); k_here; (try k_made); (try k_gentoks); first | ((with_reducible refine gen_cons1 ?_); intro _ _) | ((with_reducible refine gen_cons2 ?_); intro _ _ _ _)) | ((with_reducible show Back _ _ _); (refine back_of (by with_reducible assumption) ?_); (try dsimp only)) | (k_end; wrow_close) | walk1 | (dsimp only; (first | ((with_reducible show wpAny _ _ (execs (_ :: _) _) _ _ _); k_here; (try k_made); (try k_gentoks); first | ((with_reducible refine gen_cons1 ?_); intro _ _) | ((with_reducible refine gen_cons2 ?_); intro _ _ _ _)) | ((with_reducible show Back _ _ _); (refine back_of (by with_reducible assumption) ?_); (try dsimp only)) | walk1)) | (leave1; walk_say "STEP leave1"; try dsimp only) | fail "no step"))
  all_goals (refine ret_int (Q := Q) (s := s) hret (by assumption) ?_; clear hret; simp only [decide_eq_true_eq, decide_eq_false_iff_not, Int.not_le, Int.not_lt, b64v] at *; (repeat' split) <;> omega)
end Mine
end
theorem Mine.zz24 : True := by
  k_with_none
  w_top off
  (have : True ∧ True := by
    (try walk1)
    all_goals (first | exact trivial | exact ⟨trivial, trivial⟩))
  trivial
-- Pure3
section
open PySem PySem.W PyProof.Rows PySem.Calls
set_option Elab.async false
set_option maxRecDepth 100000
namespace Mine
/-! figures and octets: what a2b_base64 does -/
def decStep (st : Int × Int × List Int) (x : Int) : Int × Int × List Int :=
  if st.1 = 0 then (1, x, st.2.2)
  else if st.1 = 1 then (2, x % 16, st.2.2 ++ [st.2.1 * 4 + x / 16])
  else if st.1 = 2 then (3, x % 4, st.2.2 ++ [st.2.1 * 16 + x / 4])
  else (0, 0, st.2.2 ++ [st.2.1 * 64 + x])
/-- a sign of the 64 -/
def IsB64 (c : Int) : Prop := ∃ x : Int, 0 ≤ x ∧ x < 64 ∧ c = b64c x
theorem b64v_c : ∀ x : Int, 0 ≤ x → x < 64 → b64v (b64c x) = x := by
  intro x h0 h1
  have key : ∀ n : Fin 64, b64v (b64c (n.val : Int)) = (n.val : Int) := by decide
  have := key ⟨x.toNat, by (first | lia | omega)⟩
  dsimp only at this
  have e : ((x.toNat : Nat) : Int) = x := by (first | lia | omega)
  rw [e] at this
  exact this
theorem isB64_facts {c : Int} (h : IsB64 c) : c ≠ 61 ∧ 0 ≤ b64v c ∧ b64v c < 64 := by
  obtain ⟨x, h0, h1, rfl⟩ := h
  rw [b64v_c x h0 h1]
  refine ⟨?_, h0, h1⟩
  have key : ∀ n : Fin 64, b64c (n.val : Int) ≠ 61 := by decide
  have := key ⟨x.toNat, by (first | lia | omega)⟩
  dsimp only at this
  have e : ((x.toNat : Nat) : Int) = x := by (first | lia | omega)
  rw [e] at this
  exact this
def DecInv (pre : List Int) (q lc : Int) (out : List Int) : Prop := (pre.map b64v).foldl decStep (0, 0, []) = (q, lc, out)
theorem dec_start : DecInv [] 0 0 [] := rfl
theorem dec_facts {pre : List Int} {q lc : Int} {out : List Int} (h : DecInv pre q lc out) (hp : ∀ c ∈ pre, IsB64 c) :
    (q = 0 ∨ q = 1 ∨ q = 2 ∨ q = 3) ∧ 0 ≤ lc ∧ (q = 1 → lc < 64) ∧ (q = 2 → lc < 16) ∧ (q = 3 → lc < 4) ∧ out.length ≤ pre.length ∧ (∀ n ∈ out, 0 ≤ n ∧ n < 256) := by
  have key : ∀ (l : List Int), (∀ x ∈ l, 0 ≤ x ∧ x < 64) → ∀ (st : Int × Int × List Int),
      ((st.1 = 0 ∨ st.1 = 1 ∨ st.1 = 2 ∨ st.1 = 3) ∧ 0 ≤ st.2.1 ∧ (st.1 = 1 → st.2.1 < 64) ∧ (st.1 = 2 → st.2.1 < 16) ∧ (st.1 = 3 → st.2.1 < 4) ∧ (∀ n ∈ st.2.2, 0 ≤ n ∧ n < 256)) →
      let r := l.foldl decStep st
      (r.1 = 0 ∨ r.1 = 1 ∨ r.1 = 2 ∨ r.1 = 3) ∧ 0 ≤ r.2.1 ∧ (r.1 = 1 → r.2.1 < 64) ∧ (r.1 = 2 → r.2.1 < 16) ∧ (r.1 = 3 → r.2.1 < 4) ∧ r.2.2.length ≤ st.2.2.length + l.length ∧ (∀ n ∈ r.2.2, 0 ≤ n ∧ n < 256) := by
    intro l
    induction l with
    | nil => intro _ st ⟨a, b, c, d, e, f⟩; exact ⟨a, b, c, d, e, by simp, f⟩
    | cons x l ih =>
      rintro hl ⟨q, lc, o⟩ ⟨a, b, c, d, e, f⟩
      have hx := hl x (by simp)
      have hl' : ∀ x ∈ l, 0 ≤ x ∧ x < 64 := fun y hy => hl y (by simp [hy])
      rw [List.foldl_cons]
      dsimp only at a b c d e f
      have app : ∀ z : Int, 0 ≤ z → z < 256 → ∀ n ∈ o ++ [z], 0 ≤ n ∧ n < 256 := by
        intro z z0 z1 n hn
        rcases List.mem_append.mp hn with h | h
        · exact f n h
        · rw [List.mem_singleton.mp h]; exact ⟨z0, z1⟩
      rcases a with rfl | rfl | rfl | rfl
      · have hs : decStep (0, lc, o) x = (1, x, o) := rfl
        obtain ⟨g1, g2, g3, g4, g5, g6, g7⟩ := ih hl' (decStep (0, lc, o) x) (by rw [hs]; exact ⟨by simp, hx.1, fun _ => hx.2, by simp, by simp, f⟩)
        refine ⟨g1, g2, g3, g4, g5, ?_, g7⟩
        rw [hs] at g6 ⊢; dsimp only [List.length_cons] at *; (first | lia | omega)
      · have hs : decStep (1, lc, o) x = (2, x % 16, o ++ [lc * 4 + x / 16]) := rfl
        have hc := c rfl
        obtain ⟨g1, g2, g3, g4, g5, g6, g7⟩ := ih hl' (decStep (1, lc, o) x) (by rw [hs]; exact ⟨by simp, by dsimp only; (first | lia | omega), by simp, fun _ => by dsimp only; (first | lia | omega), by simp, app _ (by (first | lia | omega)) (by (first | lia | omega))⟩)
        refine ⟨g1, g2, g3, g4, g5, ?_, g7⟩
        rw [hs] at g6 ⊢; simp only [List.length_cons, List.length_append, List.length_nil] at *; (first | lia | omega)
      · have hs : decStep (2, lc, o) x = (3, x % 4, o ++ [lc * 16 + x / 4]) := rfl
        have hc := d rfl
        obtain ⟨g1, g2, g3, g4, g5, g6, g7⟩ := ih hl' (decStep (2, lc, o) x) (by rw [hs]; exact ⟨by simp, by dsimp only; (first | lia | omega), by simp, by simp, fun _ => by dsimp only; (first | lia | omega), app _ (by (first | lia | omega)) (by (first | lia | omega))⟩)
        refine ⟨g1, g2, g3, g4, g5, ?_, g7⟩
        rw [hs] at g6 ⊢; simp only [List.length_cons, List.length_append, List.length_nil] at *; (first | lia | omega)
      · have hs : decStep (3, lc, o) x = (0, 0, o ++ [lc * 64 + x]) := rfl
        have hc := e rfl
        obtain ⟨g1, g2, g3, g4, g5, g6, g7⟩ := ih hl' (decStep (3, lc, o) x) (by rw [hs]; exact ⟨by simp, by simp, by simp, by simp, by simp, app _ (by (first | lia | omega)) (by (first | lia | omega))⟩)
        refine ⟨g1, g2, g3, g4, g5, ?_, g7⟩
        rw [hs] at g6 ⊢; simp only [List.length_cons, List.length_append, List.length_nil] at *; (first | lia | omega)
  have hx : ∀ x ∈ pre.map b64v, 0 ≤ x ∧ x < 64 := by
    intro x hx
    obtain ⟨c, hc, rfl⟩ := List.mem_map.mp hx
    exact (isB64_facts (hp c hc)).2
  have := key (pre.map b64v) hx (0, 0, []) ⟨by simp, by simp, by simp, by simp, by simp, by simp⟩
  rw [show (pre.map b64v).foldl decStep (0, 0, []) = (q, lc, out) from h] at this
  simpa using this
theorem dec_t {pre : List Int} {q lc k : Int} {out : List Int} (h : DecInv pre q lc out) : DecInv (pre ++ [k]) (decStep (q, lc, out) (b64v k)).1 (decStep (q, lc, out) (b64v k)).2.1 (decStep (q, lc, out) (b64v k)).2.2 := by
  unfold DecInv at *; rw [List.map_append, List.foldl_append, h]; rfl
/-- the octets of figures -/
def octL (xs : List Int) : List Int := (xs.foldl decStep (0, 0, [])).2.2
theorem dec_q : ∀ (l : List Int) (st : Int × Int × List Int), (st.1 = 0 ∨ st.1 = 1 ∨ st.1 = 2 ∨ st.1 = 3) → (l.foldl decStep st).1 = (st.1 + (l.length : Int)) % 4
  | [], st, h => by rcases h with h | h | h | h <;> simp [h]
  | x :: l, ⟨q, lc, o⟩, h => by
    dsimp only at h
    rcases h with rfl | rfl | rfl | rfl
    all_goals
      rw [List.foldl_cons, dec_q l _ (by simp [decStep]), List.length_cons]
      simp only [decStep]
      simp
      (first | lia | omega)
theorem dec_end {l : List Int} {q lc : Int} {out : List Int} (h : DecInv l q lc out) (h4 : l.length % 4 = 0) : q = 0 ∧ out = octL (l.map b64v) := by
  have e := dec_q (l.map b64v) (0, 0, []) (by simp)
  unfold DecInv at h
  have h' : octL (l.map b64v) = out := by unfold octL; rw [h]
  rw [h] at e
  dsimp only at e
  rw [List.length_map] at e
  exact ⟨by (first | lia | omega), h'.symm⟩
theorem dec_e0 {pre : List Int} {lc k : Int} {out : List Int} (h : DecInv pre 0 lc out) : DecInv (pre ++ [k]) 1 (b64v k) out := dec_t h
theorem dec_e1 {pre : List Int} {lc k : Int} {out : List Int} (h : DecInv pre 1 lc out) (h0 : 0 ≤ lc) (k0 : 0 ≤ b64v k) (k1 : b64v k < 64) :
    DecInv (pre ++ [k]) 2 (Builtin.bitAnd (b64v k) 15) (out ++ [Builtin.bitOr (lc * 2 ^ Int.toNat 2) ((b64v k).fdiv (2 ^ Int.toNat 4))]) := by
  have e : (b64v k).fdiv (2 ^ Int.toNat 4) = b64v k / 16 := Int.fdiv_eq_ediv_of_nonneg _ (by decide)
  have h4 : (2 : Int) ^ Int.toNat 2 = 4 := rfl
  rw [bitAnd_m4, e, bitOr_shift lc _ (Int.toNat 2) h0 (by (first | lia | omega)) (by rw [h4]; (first | lia | omega)), h4]
  exact dec_t h
theorem dec_e2 {pre : List Int} {lc k : Int} {out : List Int} (h : DecInv pre 2 lc out) (h0 : 0 ≤ lc) (k0 : 0 ≤ b64v k) (k1 : b64v k < 64) :
    DecInv (pre ++ [k]) 3 (Builtin.bitAnd (b64v k) 3) (out ++ [Builtin.bitOr (lc * 2 ^ Int.toNat 4) ((b64v k).fdiv (2 ^ Int.toNat 2))]) := by
  have e : (b64v k).fdiv (2 ^ Int.toNat 2) = b64v k / 4 := Int.fdiv_eq_ediv_of_nonneg _ (by decide)
  have h4 : (2 : Int) ^ Int.toNat 4 = 16 := rfl
  rw [bitAnd_m2, e, bitOr_shift lc _ (Int.toNat 4) h0 (by (first | lia | omega)) (by rw [h4]; (first | lia | omega)), h4]
  exact dec_t h
theorem dec_e3 {pre : List Int} {lc k : Int} {out : List Int} (h : DecInv pre 3 lc out) (h0 : 0 ≤ lc) (k0 : 0 ≤ b64v k) (k1 : b64v k < 64) :
    DecInv (pre ++ [k]) 0 0 (out ++ [Builtin.bitOr (lc * 2 ^ Int.toNat 6) (b64v k)]) := by
  have h4 : (2 : Int) ^ Int.toNat 6 = 64 := rfl
  rw [bitOr_shift lc _ (Int.toNat 6) h0 (by (first | lia | omega)) (by rw [h4]; (first | lia | omega)), h4]
  exact dec_t h
theorem eq_int_ne {prog : Program} {w : World} {A : Around} {E : Value → Shared → Prop} {s : Shared} {Q : Value → Shared → Prop} {a b : Int} {t u : Tok} (hn : a ≠ b) (h : Q (.bool false) s) : wpAny (model prog w) A (compareOp .Eq (.int a t) (.int b u)) Q E s :=
  eq_int (by rw [beq_eq_false_iff_ne.mpr hn]; exact h)
end Mine
end
theorem Mine.zz25 : True := by
  k_with_none
  w_top off
  (have : True ∧ True := by
    (try walk1)
    all_goals (first | exact trivial | exact ⟨trivial, trivial⟩))
  trivial
-- Rules2
section
open PySem PySem.W PyProof.Rows PySem.Calls PySem.Builtin
set_option Elab.async false
set_option maxRecDepth 100000
set_option maxHeartbeats 4000000
namespace Mine
/-! bytes.decode('ascii') and str.encode('ascii') of plain signs -/
/-- the text of signs -/
def strArr (ns : List Int) : Str := ⟨(ns.map fun n => n.toNat).toArray⟩
theorem strArr_length (ns : List Int) : (strArr ns).length = ns.length := by simp [strArr, Str.length]
theorem forIn_pure {β : Type} (f : Nat → β → Sem (ForInStep β)) (g : Nat → β) : ∀ (n a : Nat), (∀ i, i < n → f (a + i) (g (a + i)) = pure (.yield (g (a + i + 1)))) → (forIn (List.range' a n) (g a) f : Sem β) = pure (g (a + n))
  | 0, a, _ => rfl
  | n + 1, a, h => by
    have h0 := h 0 (by (first | lia | omega))
    simp only [Nat.add_zero] at h0
    rw [List.range'_succ, List.forIn_cons, h0]
    show (forIn (List.range' (a + 1) n) (g (a + 1)) f : Sem β) = _
    rw [forIn_pure f g n (a + 1) (fun i hi => by have := h (i + 1) (by (first | lia | omega)); rw [show a + 1 + i = a + (i + 1) by (first | lia | omega)]; exact this)]
    rw [show a + 1 + n = a + (n + 1) by (first | lia | omega)]
theorem forIn_range {β : Type} (f : Nat → β → Sem (ForInStep β)) (c : β) (n : Nat) : (forIn [0:n] c f : Sem β) = forIn (List.range' 0 n) c f := by
  rw [Std.Legacy.Range.forIn_eq_forIn_range']
  have hsz : ([0:n] : Std.Legacy.Range).size = n := by simp [Std.Legacy.Range.size]
  show forIn (List.range' 0 ([0:n] : Std.Legacy.Range).size 1) c f = _
  rw [hsz]
theorem ascii_decode (id : String) (ns : List Int) (held : List Value) (hin : ∀ n ∈ ns, 0 ≤ n ∧ n < 128) (hz : ns.length ≤ 16777216) :
    _codecs.runDecoder id _codecs.asciiDecoder none true (byteArr ns) 0 held = pure ((strArr ns).cps, ns.length) := by
  unfold _codecs.runDecoder
  dsimp only
  rw [forIn_range, byteArr_size]
  refine (congrArg (fun (x : Sem (Nat × Array Nat × _codecs.Faults)) => x >>= _) (forIn_pure _ (fun i => (i, ((ns.map fun n => n.toNat).take i).toArray, ({ held := held } : _codecs.Faults))) ns.length 0 ?_)).trans ?_
  · intro i hi
    simp only [Nat.zero_add]
    have hlt : (ns.map fun n => n.toNat).length = ns.length := by simp
    rw [if_neg (by rw [List.size_toArray, List.length_take, hlt, sizeLine_eq]; (first | lia | omega)), if_neg (by (first | lia | omega))]
    have hg : ns[i]? = some ns[i] := by simp [hi]
    have hb : (byteArr ns).getD i 0 = ns[i].toNat.toUInt8 := by
      unfold byteArr
      simp [Array.getD_eq_getD_getElem?, hi]
    have hn := hin ns[i] (List.getElem_mem hi)
    have h1 : (ns[i].toNat.toUInt8).toNat = ns[i].toNat := by
      show (UInt8.ofNat ns[i].toNat).toNat = ns[i].toNat; rw [UInt8.toNat_ofNat']; (first | lia | omega)
    have hf : _codecs.asciiDecoder.find true (byteArr ns) i = .char ns[i].toNat (i + 1) := by
      show (let c := ((byteArr ns).getD i 0).toNat; if c < 128 then _ else _) = _
      rw [hb, h1]
      exact if_pos (by (first | lia | omega))
    rw [hf]
    show (pure (ForInStep.yield (i + 1, ((ns.map fun n => n.toNat).take i).toArray ++ [ns[i].toNat].toArray, _)) : Sem _) = _
    congr 4
    rw [List.append_toArray]
    congr 1
    rw [List.take_add_one]
    simp [hi]
  · show (pure (((ns.map fun n => n.toNat).take (0 + ns.length)).toArray, 0 + ns.length) : Sem _) = _
    congr 2
    · rw [Nat.zero_add, List.take_of_length_le (by simp)]
      rfl
    · (first | lia | omega)

theorem road_ascii {id : String} {b : Array UInt8} : _codecs.decodeRoad id b (PySem.Str.ofString "ascii") none [] = (_codecs.runDecoder id _codecs.asciiDecoder none true b 0 [] >>= fun r => mkStr ⟨r.1⟩) := by kernel_rfl
theorem meets_text_ascii {b : Array UInt8} {x : Str} {n : Nat} {t t1 t2 : Tok} {d : PySem.Str} (hd : ∀ id, _codecs.runDecoder id _codecs.asciiDecoder none true b 0 [] = pure (x.cps, n)) :
    Meets («_codecs.decode.text» ⟨[.bytes b t, .str (PySem.Str.ofString "ascii") t1, .none, .str d t2], []⟩) (fun _ R s => x.length ≤ sizeLine ∧ R (.ok (.ret (.str x s.toks))) { s with toks := s.toks + 1 }) := by
  refine .of_wp fun prog w A R s hS => ?_
  obtain ⟨hsz, h⟩ := hS
  show wpAny _ _ (Bytes.bytesLike _ (.bytes b t) >>= fun r => _) _ _ s
  refine wpAny_bind (wpAny_of_eq KBd.like_eq ?_)
  refine wpAny_bind (wpAny_of_eq KBd.held_eq ?_)
  show wpAny _ _ (_codecs.decodeRoad _ b (PySem.Str.ofString "ascii") none [] >>= fun v => _) _ _ s
  rw [road_ascii, hd]
  refine wpAny_bind (wpAny_bind (wpAny_pure ?_))
  exact wpAny_mkStr (wpAny_pure ⟨_, rfl, h⟩) hsz
theorem entry_decode_eq {c : UInt8} {cs : List UInt8} {t t1 : Tok} : «bytes.decode» ⟨[.bytes (c :: cs).toArray t, .str (PySem.Str.ofString "ascii") t1], []⟩ =
    (mkStr (PySem.Str.ofString "utf-8") >>= fun _ => mkStr (PySem.Str.ofString "ascii") >>= fun e => mkStr (PySem.Str.ofString "bytes.decode") >>= fun d =>
    call (.builtin "_codecs.decode.text") [.bytes (c :: cs).toArray t, e, .none, d] >>= fun v => ret v) := by kernel_rfl
theorem args_decode_2 (a b : Value) : argsOk "bytes.decode" ⟨[a, b], []⟩ := by
  unfold argsOk; rw [signature?_of (id := "bytes.decode") (n := ['e', 'd', 'o', 'c', 'e', 'd']) (o := ['s', 'e', 't', 'y', 'b']) (by kernel_rfl) FB.owner_bytes]; kernel_rfl
theorem meets_decode_ascii {c : UInt8} {cs : List UInt8} {t t1 : Tok} {x : Str} {n : Nat} (hd : ∀ id, _codecs.runDecoder id _codecs.asciiDecoder none true (c :: cs).toArray 0 [] = pure (x.cps, n)) :
    Meets («bytes.decode» ⟨[.bytes (c :: cs).toArray t, .str (PySem.Str.ofString "ascii") t1], []⟩) (fun _ R s => x.length ≤ sizeLine ∧ ∀ t' k, R (.ok (.ret (.str x t'))) { s with toks := k }) := by
  refine .of_wp fun prog w A R s hS => ?_
  obtain ⟨hsz, h⟩ := hS
  rw [entry_decode_eq]
  refine wpAny_bind (wpAny_mkStr ?_ (by decide))
  refine wpAny_bind (wpAny_mkStr ?_ (by decide))
  refine wpAny_bind (wpAny_mkStr ?_ (by decide))
  exact wpAny_bind (call_function_meets KBd.kind_text KBd.plain_text KBd.entry_text (KBd.args_text _ _ _ _) (meets_text_ascii hd) ⟨hsz, wpAny_pure ⟨_, rfl, h _ _⟩⟩)
section
variable {prog : Program} {w : World} {A : Around} {E : Value → Shared → Prop} {s : Shared} {t t1 : Tok}
theorem call_decode_ascii {Q : Value → Shared → Prop} {ns : List Int} (hin : ∀ n ∈ ns, 0 ≤ n ∧ n < 128) (hz : ns.length ≤ 16777216) (h0 : 0 < ns.length) (h : ∀ t' k, Q (.str (strArr ns) t') { s with toks := k }) :
    wpAny (model prog w) A (call (.builtin "bytes.decode") [.bytes (byteArr ns) t, .str (PySem.Str.ofString "ascii") t1]) Q E s := by
  have hd := fun id => ascii_decode id ns [] hin hz
  have hl := strArr_length ns
  cases ns with
  | nil => exact absurd h0 (by decide)
  | cons a r => exact call_meets FB.slot_bytes_decode (typeIs_bytes _ _ _) FB.entry_bytes_decode (args_decode_2 _ _) (meets_decode_ascii hd) ⟨by rw [hl, sizeLine_eq]; exact hz, h⟩
theorem typeIs_str' (s : Shared) (x : Str) (t : Tok) : s.TypeIs (.str x t) "str" := rfl
theorem method_encode {M : Model} {x : Str} {pl : Sem Bool} {Q : Value × List Value → Shared → Prop} (h : Q (.builtin "str.encode", [.str x t]) s) : wpAny M A (getMethod (.str x t) "encode" pl) Q E s := by
  with_reducible exact getMethod_builtin (T := "str") (typeIs_str' s x t) F.plainAttrs_str F.slot_str_encode F.type_str_encode (fun _ e => nomatch e) h
end
theorem encode_tree_ascii (x : Str) (t u : Tok) : «str.encode» ⟨[.str x t, .str (PySem.Str.ofString "ascii") u], []⟩ = ((_codecs.encodeNarrow "str.encode" _codecs.asciiCodec none (.str x t) x >>= fun b => mkBytes b) >>= fun v => ret v) := by kernel_rfl
theorem strArr_get (ns : List Int) (i : Nat) : (strArr ns).cps[i]? = (ns[i]?).map fun n => n.toNat := by simp [strArr]
theorem foldl_push (l : List Nat) (acc : Array UInt8) : l.foldl (fun acc y => acc ++ (_codecs.asciiCodec.bytesOf y).toArray) acc = acc ++ (l.map fun y => y.toUInt8).toArray := by
  induction l generalizing acc with
  | nil => simp
  | cons a l ih => rw [List.foldl_cons, ih]; show acc ++ [a.toUInt8].toArray ++ _ = _; simp
theorem ascii_encode (id : String) (self : Value) (ns : List Int) (hin : ∀ n ∈ ns, 0 ≤ n ∧ n < 128) (hz : ns.length ≤ 16777216) : _codecs.encodeNarrow id _codecs.asciiCodec none self (strArr ns) = pure (byteArr ns) := by
  have hext : (strArr ns).cps.extract 0 (strArr ns).cps.size = (strArr ns).cps := Array.extract_size
  have hbad : ∀ x ∈ (strArr ns).cps, _codecs.asciiCodec.bad x = false := by
    intro x hx
    simp only [strArr, List.mem_toArray, List.mem_map] at hx
    obtain ⟨n, hn, rfl⟩ := hx
    have := hin n hn
    show decide (n.toNat ≥ 128) = false
    exact decide_eq_false (by (first | lia | omega))
  have hfind : Array.findIdx? _codecs.asciiCodec.bad (strArr ns).cps = none := Array.findIdx?_eq_none_iff.mpr hbad
  have hfold : Array.foldl (fun acc y => acc ++ (_codecs.asciiCodec.bytesOf y).toArray) #[] (strArr ns).cps = byteArr ns := by
    rw [← Array.foldl_toList, foldl_push]
    simp [strArr, byteArr, List.map_map, Function.comp_def]
  have hsz : (strArr ns).cps.size = ns.length := by simp [strArr]
  unfold _codecs.encodeNarrow
  dsimp only
  rw [forIn_range, strArr_length]
  cases ns with
  | nil => rfl
  | cons a r =>
    have h1 : ∀ (β : Type) (f : Nat → β → Sem (ForInStep β)) (c d : β) (n : Nat), f 0 c = pure (.yield d) → (∀ i, 0 < i → f i d = pure (.done d)) → (forIn (List.range' 0 (n + 1)) c f : Sem β) = pure d := by
      intro β f c d n e1 e2
      rw [List.range'_succ, List.forIn_cons, e1]
      show (forIn (List.range' (0 + 1) n) d f : Sem β) = pure d
      cases n with
      | zero => rfl
      | succ n => rw [List.range'_succ, List.forIn_cons, e2 _ (by (first | lia | omega))]; rfl
    refine (congrArg (fun (x : Sem (Nat × Array UInt8 × _codecs.Faults)) => x >>= _) (h1 _ _ _ ((a :: r).length, byteArr (a :: r), ({ } : _codecs.Faults)) r.length ?_ ?_)).trans ?_
    · dsimp only
      rw [if_neg (by show ¬ (0 > sizeLine); (first | lia | omega)), strArr_get]
      dsimp only [List.getElem?_cons_zero, Option.map]
      have hb0 : _codecs.asciiCodec.bad a.toNat = false := hbad _ (by simp [strArr])
      rw [hb0]
      rw [hext, hfind]
      dsimp only [Option.getD]
      rw [hext, hfold, hsz]
      simp
    · intro i hi
      dsimp only
      rw [if_neg (by rw [byteArr_size, sizeLine_eq]; (first | lia | omega)), strArr_get, List.getElem?_eq_none (by (first | lia | omega))]
      rfl
    · rfl
section
variable {prog : Program} {w : World} {A : Around} {E : Value → Shared → Prop} {s : Shared} {t t1 : Tok}
theorem meets_encode_ascii {ns : List Int} (hin : ∀ n ∈ ns, 0 ≤ n ∧ n < 128) (hz : ns.length ≤ 16777216) :
    Meets («str.encode» ⟨[.str (strArr ns) t, .str (PySem.Str.ofString "ascii") t1], []⟩) (fun _ R s => ∀ t' k, R (.ok (.ret (.bytes (byteArr ns) t'))) { s with toks := k }) := by
  refine .of_wp fun prog w A R s h => ?_
  rw [encode_tree_ascii, ascii_encode _ _ ns hin hz]
  refine wpAny_bind (wpAny_bind (wpAny_pure ?_))
  unfold mkBytes
  rw [if_neg (by rw [byteArr_size, sizeLine_eq]; (first | lia | omega))]
  exact wpAny_bind (wpAny_fresh (wpAny_pure (wpAny_pure ⟨_, rfl, h _ _⟩)))
theorem call_encode_ascii {Q : Value → Shared → Prop} {ns : List Int} (hin : ∀ n ∈ ns, 0 ≤ n ∧ n < 128) (hz : ns.length ≤ 16777216) (h : ∀ t' k, Q (.bytes (byteArr ns) t') { s with toks := k }) :
    wpAny (model prog w) A (call (.builtin "str.encode") [.str (strArr ns) t, .str (PySem.Str.ofString "ascii") t1]) Q E s :=
  call_meets F.slot_str_encode (show s.TypeIs (.str (strArr ns) t) "str" from rfl) F.entry_str_encode (F.args_str_encode_2 _ _) (meets_encode_ascii hin hz) h
end
end Mine
end
theorem Mine.zz26 : True := by
  k_with_none
  w_top off
  (have : True ∧ True := by
    (try walk1)
    all_goals (first | exact trivial | exact ⟨trivial, trivial⟩))
  trivial
-- Pure4
section
open PySem PySem.W PyProof.Rows PySem.Calls
set_option Elab.async false
set_option maxRecDepth 100000
namespace Mine
/-! figures, octets and signs: whole fours and threes -/
theorem octL_acc : ∀ (n : Nat) (xs out : List Int), xs.length = 4 * n → xs.foldl decStep (0, 0, out) = (0, 0, out ++ octL xs)
  | 0, xs, out, h => by
    have : xs = [] := List.length_eq_zero_iff.mp (by (first | lia | omega))
    subst this
    show (0, 0, out) = (0, 0, out ++ ([] : List Int))
    rw [List.append_nil]
  | n + 1, a :: b :: c :: d :: r, out, h => by
    have hr : r.length = 4 * n := by simp only [List.length_cons] at h; (first | lia | omega)
    have e : ∀ o : List Int, (a :: b :: c :: d :: r).foldl decStep (0, 0, o) = r.foldl decStep (0, 0, o ++ [a * 4 + b / 16] ++ [b % 16 * 16 + c / 4] ++ [c % 4 * 64 + d]) := fun o => rfl
    have e2 : octL (a :: b :: c :: d :: r) = [a * 4 + b / 16, b % 16 * 16 + c / 4, c % 4 * 64 + d] ++ octL r := by
      show ((a :: b :: c :: d :: r).foldl decStep (0, 0, [])).2.2 = _
      rw [e, octL_acc n r _ hr]
      rfl
    rw [e, octL_acc n r _ hr, e2]
    simp
  | n + 1, [], _, h => by simp at h
  | n + 1, [_], _, h => by simp at h; (first | lia | omega)
  | n + 1, [_, _], _, h => by simp at h; (first | lia | omega)
  | n + 1, [_, _, _], _, h => by simp at h; (first | lia | omega)
theorem octL_four {r : List Int} (a b c d : Int) (hr : r.length % 4 = 0) : octL (a :: b :: c :: d :: r) = (a * 4 + b / 16) :: (b % 16 * 16 + c / 4) :: (c % 4 * 64 + d) :: octL r := by
  show ((a :: b :: c :: d :: r).foldl decStep (0, 0, [])).2.2 = _
  have e : (a :: b :: c :: d :: r).foldl decStep (0, 0, []) = r.foldl decStep (0, 0, [a * 4 + b / 16, b % 16 * 16 + c / 4, c % 4 * 64 + d]) := rfl
  rw [e, octL_acc (r.length / 4) r _ (by (first | lia | omega))]
  rfl
theorem octL_append {xs ys : List Int} (hx : xs.length % 4 = 0) (hy : ys.length % 4 = 0) : octL (xs ++ ys) = octL xs ++ octL ys := by
  show ((xs ++ ys).foldl decStep (0, 0, [])).2.2 = _
  rw [List.foldl_append, octL_acc (xs.length / 4) xs [] (by (first | lia | omega)), octL_acc (ys.length / 4) ys _ (by (first | lia | omega))]
  simp
/-- a rule of fours -/
theorem four_ind {P : List Int → Prop} (h0 : P []) (h4 : ∀ a b c d r, r.length % 4 = 0 → P r → P (a :: b :: c :: d :: r)) : ∀ (n : Nat) (xs : List Int), xs.length = 4 * n → P xs
  | 0, xs, h => by
    have : xs = [] := List.length_eq_zero_iff.mp (by (first | lia | omega))
    subst this; exact h0
  | n + 1, a :: b :: c :: d :: r, h => by
    have hr : r.length = 4 * n := by simp only [List.length_cons] at h; (first | lia | omega)
    exact h4 a b c d r (by (first | lia | omega)) (four_ind h0 h4 n r hr)
  | n + 1, [], h => by simp at h
  | n + 1, [_], h => by simp at h; (first | lia | omega)
  | n + 1, [_, _], h => by simp at h; (first | lia | omega)
  | n + 1, [_, _, _], h => by simp at h; (first | lia | omega)
theorem four_ind' {P : List Int → Prop} (h0 : P []) (h4 : ∀ a b c d r, r.length % 4 = 0 → P r → P (a :: b :: c :: d :: r)) (xs : List Int) (h : xs.length % 4 = 0) : P xs := four_ind h0 h4 (xs.length / 4) xs (by (first | lia | omega))
/-- figures: six bits -/
def Fig (xs : List Int) : Prop := ∀ x ∈ xs, 0 ≤ x ∧ x < 64
theorem octL_len (xs : List Int) (h : xs.length % 4 = 0) : (octL xs).length * 4 = xs.length * 3 := by
  refine four_ind' (P := fun xs => (octL xs).length * 4 = xs.length * 3) rfl (fun a b c d r hr ih => ?_) xs h
  show (octL (a :: b :: c :: d :: r)).length * 4 = _
  rw [octL_four _ _ _ _ hr]
  simp only [List.length_cons]
  (first | lia | omega)
theorem octL_in (xs : List Int) (h : xs.length % 4 = 0) (hf : Fig xs) : ∀ n ∈ octL xs, 0 ≤ n ∧ n < 256 := by
  refine four_ind' (P := fun xs => Fig xs → ∀ n ∈ octL xs, 0 ≤ n ∧ n < 256) (fun _ n hn => by cases hn) (fun a b c d r hr ih hf => ?_) xs h hf
  have ha := hf a (by simp)
  have hb := hf b (by simp)
  have hc := hf c (by simp)
  have hd := hf d (by simp)
  rw [octL_four _ _ _ _ hr]
  intro n hn
  simp only [List.mem_cons] at hn
  rcases hn with rfl | rfl | rfl | hn
  · (first | lia | omega)
  · (first | lia | omega)
  · (first | lia | omega)
  · exact ih (fun x hx => hf x (by simp [hx])) n hn
theorem encL_acc : ∀ (xs : List Int), xs.length % 4 = 0 → Fig xs → ∀ (lc : Int) (out : List Int), ∃ lc', (octL xs).foldl encStep (lc, 0, out) = (lc', 0, out ++ xs.map b64c) := by
  intro xs h hf
  refine four_ind' (P := fun xs => Fig xs → ∀ (lc : Int) (out : List Int), ∃ lc', (octL xs).foldl encStep (lc, 0, out) = (lc', 0, out ++ xs.map b64c)) (fun _ lc out => ⟨lc, by show (lc, 0, out) = (lc, 0, out ++ []); rw [List.append_nil]⟩) (fun a b c d r hr ih hf lc out => ?_) xs h hf
  have ha := hf a (by simp)
  have hb := hf b (by simp)
  have hc := hf c (by simp)
  have hd := hf d (by simp)
  rw [octL_four _ _ _ _ hr]
  generalize h1 : a * 4 + b / 16 = o1
  generalize h2 : b % 16 * 16 + c / 4 = o2
  generalize h3 : c % 4 * 64 + d = o3
  generalize g1 : (lc * 256 + o1) % 65536 = l1
  generalize g2 : (l1 * 256 + o2) % 65536 = l2
  generalize g3 : (l2 * 256 + o3) % 65536 = l3
  have e : (o1 :: o2 :: o3 :: octL r).foldl encStep (lc, 0, out) = (octL r).foldl encStep (l3, 0, out ++ [b64c (l1 / 4 % 64)] ++ [b64c (l2 / 16 % 64)] ++ [b64c (l3 / 64 % 64), b64c (l3 % 64)]) := by
    subst g1 g2 g3; rfl
  have e1 : l1 / 4 % 64 = a := by omega
  have e2 : l2 / 16 % 64 = b := by omega
  have e3 : l3 / 64 % 64 = c := by omega
  have e4 : l3 % 64 = d := by omega
  rw [e, e1, e2, e3, e4]
  obtain ⟨lc', h'⟩ := ih (fun x hx => hf x (by simp [hx])) l3 (out ++ [b64c a] ++ [b64c b] ++ [b64c c, b64c d])
  exact ⟨lc', by rw [h']; simp⟩
theorem encL_octL {xs : List Int} (h : xs.length % 4 = 0) (hf : Fig xs) : encL (octL xs) = xs.map b64c := by
  obtain ⟨lc', e⟩ := encL_acc xs h hf 0 []
  unfold encL
  rw [e]; rfl
/-- the sign of a figure, & and ; for the last two -/
def sgn (x : Int) : Int := altOut (b64c x)
theorem sgn_facts (x : Int) (h0 : 0 ≤ x) (h1 : x < 64) : 0 ≤ sgn x ∧ sgn x < 128 ∧ altIn (sgn x) = b64c x := by
  have key : ∀ n : Fin 64, 0 ≤ sgn (n.val : Int) ∧ sgn (n.val : Int) < 128 ∧ altIn (sgn (n.val : Int)) = b64c (n.val : Int) := by decide
  have := key ⟨x.toNat, by (first | lia | omega)⟩
  dsimp only at this
  have e : ((x.toNat : Nat) : Int) = x := by (first | lia | omega)
  rw [e] at this
  exact this
theorem sgn_in {xs : List Int} (hf : Fig xs) : ∀ n ∈ xs.map sgn, 0 ≤ n ∧ n < 128 := by
  intro n hn
  obtain ⟨x, hx, rfl⟩ := List.mem_map.mp hn
  exact ⟨(sgn_facts x (hf x hx).1 (hf x hx).2).1, (sgn_facts x (hf x hx).1 (hf x hx).2).2.1⟩
theorem altIn_sgn {xs : List Int} (hf : Fig xs) : (xs.map sgn).map altIn = xs.map b64c := by
  rw [List.map_map]
  exact List.map_congr_left fun x hx => (sgn_facts x (hf x hx).1 (hf x hx).2).2.2
theorem b64v_map {xs : List Int} (hf : Fig xs) : (xs.map b64c).map b64v = xs := by
  rw [List.map_map]
  have : ∀ x ∈ xs, (b64v ∘ b64c) x = id x := fun x hx => b64v_c x (hf x hx).1 (hf x hx).2
  rw [List.map_congr_left this, List.map_id]
theorem b64c_isB64 {xs : List Int} (hf : Fig xs) : ∀ c ∈ xs.map b64c, IsB64 c := by
  intro c hc
  obtain ⟨x, hx, rfl⟩ := List.mem_map.mp hc
  exact ⟨x, (hf x hx).1, (hf x hx).2, rfl⟩
theorem b64c_map_in (xs : List Int) : ∀ n ∈ xs.map b64c, 0 ≤ n ∧ n < 256 := by
  intro n hn
  obtain ⟨x, hx, rfl⟩ := List.mem_map.mp hn
  exact b64c_in x
end Mine
end
theorem Mine.zz27 : True := by
  k_with_none
  w_top off
  (have : True ∧ True := by
    (try walk1)
    all_goals (first | exact trivial | exact ⟨trivial, trivial⟩))
  trivial
-- Rules3
section
open PySem PySem.W PyProof.Rows PySem.Calls PySem.Builtin PySem.Builtin.Str
set_option Elab.async false
set_option maxRecDepth 100000
set_option maxHeartbeats 4000000
namespace Mine
/-! the escapes: & alone is touched -/
/-- each 62 is followed by the figures of amp; -/
def esc (xs : List Int) : List Int := xs.flatMap fun x => if x = 62 then [62, 26, 38, 41, 63] else [x]
theorem esc_cons (x : Int) (r : List Int) : esc (x :: r) = (if x = 62 then [62, 26, 38, 41, 63] else [x]) ++ esc r := rfl
theorem esc_fig {xs : List Int} (hf : Fig xs) : Fig (esc xs) := by
  intro y hy
  obtain ⟨x, hx, h⟩ := List.mem_flatMap.mp hy
  have := hf x hx
  split at h
  · simp only [List.mem_cons, List.not_mem_nil, or_false] at h
    rcases h with rfl | rfl | rfl | rfl | rfl <;> decide
  · rw [List.mem_singleton.mp h]; exact this
theorem esc_len : ∀ (xs : List Int), (esc xs).length = xs.length + 4 * xs.count 62
  | [] => rfl
  | x :: r => by
    rw [esc_cons, List.length_append, esc_len r, List.count_cons, List.length_cons]
    by_cases h : x = 62
    · simp [h]; (first | lia | omega)
    · simp [h]; (first | lia | omega)
theorem flat_free (c : Nat) (z : List Nat) : ∀ l : List Nat, c ∉ l → l.flatMap (fun k => if k = c then z else [k]) = l
  | [], _ => rfl
  | k :: r, h => by
    have h1 : k ≠ c := fun e => h (e ▸ List.mem_cons_self ..)
    rw [List.flatMap_cons, if_neg h1, flat_free c z r fun m => h (List.mem_cons_of_mem _ m)]
    rfl
theorem flat_join (c : Nat) (z : Str) : ∀ parts : List Str, (∀ p ∈ parts, c ∉ p.cps.toList) → (Str.join ⟨#[c]⟩ parts).cps.toList.flatMap (fun k => if k = c then z.cps.toList else [k]) = (Str.join z parts).cps.toList
  | [], _ => rfl
  | [p], h => flat_free c _ _ (h p (List.mem_singleton.mpr rfl))
  | p :: q :: r, h => by
    have ih := flat_join c z (q :: r) fun a ha => h a (List.mem_cons_of_mem _ ha)
    show (p ++ ⟨#[c]⟩ ++ Str.join ⟨#[c]⟩ (q :: r)).cps.toList.flatMap _ = (p ++ z ++ Str.join z (q :: r)).cps.toList
    simp only [Str.cps_append, Array.toList_append, List.flatMap_append]
    rw [ih, flat_free c _ _ (h p (List.mem_cons_self ..))]
    simp
theorem replace_flat (x z : Str) (c : Nat) : (Txt.replace x ⟨#[c]⟩ z).cps.toList = x.cps.toList.flatMap (fun k => if k = c then z.cps.toList else [k]) := by
  rw [StrLaws.replace_one, ← flat_join c z _ (StrLaws.split_free x c), StrLaws.join_split]
theorem sgn_amp (x : Int) (h0 : 0 ≤ x) (h1 : x < 64) : ((sgn x).toNat = 38 ↔ x = 62) := by
  have key : ∀ n : Fin 64, ((sgn (n.val : Int)).toNat = 38 ↔ (n.val : Int) = 62) := by decide
  have := key ⟨x.toNat, by (first | lia | omega)⟩
  dsimp only at this
  have e : ((x.toNat : Nat) : Int) = x := by (first | lia | omega)
  rw [e] at this
  exact this
theorem replace_amp {xs : List Int} (hf : Fig xs) : Txt.replace (strArr (xs.map sgn)) ⟨#[38]⟩ (Str.ofString "&amp;") = strArr ((esc xs).map sgn) := by
  have h := replace_flat (strArr (xs.map sgn)) (Str.ofString "&amp;") 38
  have e : (strArr (xs.map sgn)).cps.toList.flatMap (fun k => if k = 38 then (Str.ofString "&amp;").cps.toList else [k]) = (strArr ((esc xs).map sgn)).cps.toList := by
    unfold strArr
    simp only [List.map_map]
    clear h
    induction xs with
    | nil => rfl
    | cons x r ih =>
      have hx := hf x (by simp)
      have ih' := ih (fun y hy => hf y (by simp [hy]))
      rw [esc_cons, List.map_cons, List.map_append, List.flatMap_cons]
      rw [ih']
      by_cases h : x = 62
      · subst h; rfl
      · have h' : ¬ ((Int.toNat ∘ sgn) x = 38) := fun e => h ((sgn_amp x hx.1 hx.2).mp e)
        rw [if_neg h, if_neg h']
        rfl
  rw [e] at h
  generalize Txt.replace (strArr (xs.map sgn)) ⟨#[38]⟩ (Str.ofString "&amp;") = r at h
  generalize strArr ((esc xs).map sgn) = q at h
  obtain ⟨⟨l⟩⟩ := r
  obtain ⟨⟨k⟩⟩ := q
  dsimp only at h
  rw [h]
def badSign (y : Str) : Bool := y == Str.ofString "<" || y == Str.ofString ">" || y == Str.ofString "\"" || y == Str.ofString "\r" || y == Str.ofString "\n" || y == Str.ofString "\t"
theorem sgn_no (x : Int) (h0 : 0 ≤ x) (h1 : x < 64) : (sgn x).toNat ≠ 60 ∧ (sgn x).toNat ≠ 62 ∧ (sgn x).toNat ≠ 34 ∧ (sgn x).toNat ≠ 13 ∧ (sgn x).toNat ≠ 10 ∧ (sgn x).toNat ≠ 9 := by
  have key : ∀ n : Fin 64, (sgn (n.val : Int)).toNat ≠ 60 ∧ (sgn (n.val : Int)).toNat ≠ 62 ∧ (sgn (n.val : Int)).toNat ≠ 34 ∧ (sgn (n.val : Int)).toNat ≠ 13 ∧ (sgn (n.val : Int)).toNat ≠ 10 ∧ (sgn (n.val : Int)).toNat ≠ 9 := by decide
  have := key ⟨x.toNat, by (first | lia | omega)⟩
  dsimp only at this
  have e : ((x.toNat : Nat) : Int) = x := by (first | lia | omega)
  rw [e] at this
  exact this
theorem badSign_out {y : Str} (h : badSign y = true) {xs : List Int} (hf : Fig xs) : ∃ c, y = ⟨#[c]⟩ ∧ c ∉ (strArr (xs.map sgn)).cps.toList := by
  have hm : ∀ c, c = 60 ∨ c = 62 ∨ c = 34 ∨ c = 13 ∨ c = 10 ∨ c = 9 → c ∉ (strArr (xs.map sgn)).cps.toList := by
    intro c hc hin
    simp only [strArr, List.map_map, List.mem_map] at hin
    obtain ⟨x, hx, e⟩ := hin
    have := sgn_no x (hf x hx).1 (hf x hx).2
    have e' : (sgn x).toNat = c := e
    (first | lia | omega)
  unfold badSign at h
  simp only [Bool.or_eq_true, beq_iff_eq] at h
  rcases h with ((((h | h) | h) | h) | h) | h
  · exact ⟨60, h.trans (by decide), hm _ (by simp)⟩
  · exact ⟨62, h.trans (by decide), hm _ (by simp)⟩
  · exact ⟨34, h.trans (by decide), hm _ (by simp)⟩
  · exact ⟨13, h.trans (by decide), hm _ (by simp)⟩
  · exact ⟨10, h.trans (by decide), hm _ (by simp)⟩
  · exact ⟨9, h.trans (by decide), hm _ (by simp)⟩
section
variable {prog : Program} {w : World} {A : Around} {E : Value → Shared → Prop} {s : Shared} {t u v : Tok} {Q : Value → Shared → Prop} {xs : List Int}
theorem in_no {y : Str} (h : badSign y = true) (hf : Fig xs) (hq : Q (.bool false) s) : wpAny (model prog w) A (compareOp .In (.str y u) (.str (strArr (xs.map sgn)) t)) Q E s := by
  obtain ⟨c, rfl, hc⟩ := badSign_out h hf
  refine PyProof.Rows.in_str ?_
  rw [StrLaws.found_one, decide_eq_false hc]
  exact hq
theorem in_amp (h : (62 : Int) ∈ xs) (hq : Q (.bool true) s) : wpAny (model prog w) A (compareOp .In (.str (Str.ofString "&") u) (.str (strArr (xs.map sgn)) t)) Q E s := by
  have e : Str.ofString "&" = ⟨#[38]⟩ := by decide
  rw [e]
  refine PyProof.Rows.in_str ?_
  rw [StrLaws.found_one, decide_eq_true]
  · exact hq
  · simp only [strArr, List.map_map, List.mem_map]
    exact ⟨62, h, by decide⟩
theorem call_replace_amp (hf : Fig xs) (hz : xs.length ≤ 10000) (hu : u ≠ 0) (hv : v ≠ 0) (huv : u ≠ v) (h : ∀ t' k, Q (.str (strArr ((esc xs).map sgn)) t') { s with toks := k }) :
    wpAny (model prog w) A (call (.builtin "str.replace") [.str (strArr (xs.map sgn)) t, .str (Str.ofString "&") u, .str (Str.ofString "&amp;") v]) Q E s := by
  have e : Str.ofString "&" = ⟨#[38]⟩ := by decide
  have el : (Str.ofString "&amp;").length = 5 := by decide
  refine SC.replace hu hv huv (by decide) (by rw [strArr_length, List.length_map, el]; (first | lia | omega)) fun t' k => ?_
  rw [e, replace_amp hf]
  exact h t' k
theorem gen_toks {M : Model} {T : Sem Flow} {Q : Flow → Shared → Prop} {hp : Heap} {g : Array GenState} {d : Drawn} {tk : Nat} {os : OsState} (h : ∀ tk, 0 < tk → wpAny M A T Q E ⟨hp, g, d, tk, os⟩) (h0 : 0 < tk) : wpAny M A T Q E ⟨hp, g, d, tk, os⟩ := h tk h0
end
end Mine
end
theorem Mine.zz28 : True := by
  k_with_none
  w_top off
  (have : True ∧ True := by
    (try walk1)
    all_goals (first | exact trivial | exact ⟨trivial, trivial⟩))
  trivial
-- Pure5
section
open PySem PySem.W PyProof.Rows PySem.Calls
set_option Elab.async false
set_option maxRecDepth 100000
namespace Mine
theorem byteArr_append (a b : List Int) : byteArr a ++ byteArr b = byteArr (a ++ b) := by simp [byteArr]
section
variable {prog : Program} {w : World} {A : Around} {E : Value → Shared → Prop} {s : Shared} {t u : Tok} {Q : Value → Shared → Prop} {xs ys : List Int}
theorem add_oct (hx : xs.length % 4 = 0) (hy : ys.length % 4 = 0) (zx : xs.length ≤ 10000) (zy : ys.length ≤ 10000) (h : ∀ t' k, Q (.bytes (byteArr (octL (xs ++ ys))) t') { s with toks := k }) :
    wpAny (model prog w) A (binaryOp .Add (.bytes (byteArr (octL xs)) t) (.bytes (byteArr (octL ys)) u)) Q E s := by
  have hl := octL_len xs hx
  have hl' := octL_len ys hy
  refine KBy.add_bytes (by rw [byteArr_size, byteArr_size]; (first | lia | omega)) fun t' k => ?_
  rw [byteArr_append, ← octL_append hx hy]
  exact h t' k
end
/-- a deed on figures -/
def deedF (xs : List Int) (n : Int) : List Int := (if n.fmod 2 = 1 then esc xs else xs) ++ (if (n.fdiv 2).fmod 2 = 1 then esc xs else xs)
end Mine
end
theorem Mine.zz29 : True := by
  k_with_none
  w_top off
  (have : True ∧ True := by
    (try walk1)
    all_goals (first | exact trivial | exact ⟨trivial, trivial⟩))
  trivial
-- Rules4
section
open PySem PySem.W PyProof.Rows PySem.Calls
set_option Elab.async false
set_option maxRecDepth 100000
namespace Mine
section
variable {prog : Program} {w : World} {A : Around} {E : Value → Shared → Prop} {s : Shared} {h₀ : Heap} {L D b : Addr} {m : Str → Option Value} {news news' : List (Addr × Obj)} {us ws : List Value} {n n2 : Nat}
theorem extend_lists {Q : Value → Shared → Prop} (F : Fr h₀ L s.heap m) (N : News h₀ L s.heap news) (hb : (b, listOf ws.toArray n2) ∈ news) (hne : ws.length ≠ 0)
    (U : Upd D (listOf us.toArray n) (listOf (us ++ ws).toArray (n + 1)) news news') (hz : us.length + ws.length ≤ 16777216)
    (h : ∀ h', Fr h₀ L h' m → News h₀ L h' news' → Q .none { s with heap := h' }) : wpAny (model prog w) A (call (.builtin "list.extend") [.ref D, .ref b]) Q E s :=
  kl_extend F N hb rfl hne U (extend_door (by rw [List.size_toArray, List.size_toArray, sizeLine_eq]; exact hz)) (by show us.length ≤ sizeLine; rw [sizeLine_eq]; (first | lia | omega)) (by rw [List.size_toArray, List.size_toArray, sizeLine_eq]; (first | lia | omega)) h
theorem extend_none {Q : Value → Shared → Prop} (F : Fr h₀ L s.heap m) (N : News h₀ L s.heap news) (hb : (b, listOf ws.toArray n2) ∈ news) (e0 : ws = [])
    (U : Upd D (listOf us.toArray n) (listOf us.toArray n) news news') (hz : us.length ≤ 16777216)
    (h : ∀ h', Fr h₀ L h' m → News h₀ L h' news' → Q .none { s with heap := h' }) : wpAny (model prog w) A (call (.builtin "list.extend") [.ref D, .ref b]) Q E s :=
  kxn_extend F N hb e0 U (extend_door (by subst e0; rw [List.size_toArray, List.size_toArray, sizeLine_eq]; exact hz)) (by show us.length ≤ sizeLine; rw [sizeLine_eq]; (first | lia | omega)) (by subst e0; rw [List.size_toArray, List.size_toArray, sizeLine_eq]; show us.length + 0 ≤ _; (first | lia | omega)) h
end
end Mine
end
theorem Mine.zz30 : True := by
  k_with_none
  w_top off
  (have : True ∧ True := by
    (try walk1)
    all_goals (first | exact trivial | exact ⟨trivial, trivial⟩))
  trivial
-- Pure6
section
open PySem PySem.W PyProof.Rows PySem.Calls
set_option Elab.async false
set_option maxRecDepth 100000
namespace Mine
theorem size_four (n : Nat) (h4 : n % 4 = 0) : Builtin.Range.rangeSize 0 (n : Int) 4 = ((n / 4 : Nat) : Int) := by
  unfold Builtin.Range.rangeSize
  simp
  (first | lia | omega)
theorem small_four (n : Nat) (hz : n ≤ 10000) : Builtin.Range.small 0 (n : Int) 4 = true := by
  have h : ∀ x : Int, -(2 ^ 62) ≤ x → x < 2 ^ 62 → Builtin.Range.rangeFitsLong x = true := by
    intro x h1 h2
    unfold Builtin.Range.rangeFitsLong
    simp
    (first | lia | omega)
  have hr : Builtin.Range.rangeSize 0 (n : Int) 4 ≤ 10000 ∧ 0 ≤ Builtin.Range.rangeSize 0 (n : Int) 4 := by
    unfold Builtin.Range.rangeSize
    simp only [show ((4 : Int) > 0) = True by simp, if_true]
    split <;> (first | lia | omega)
  unfold Builtin.Range.small
  simp only [Bool.and_eq_true, Bool.or_eq_true]
  refine ⟨⟨⟨⟨h _ (by (first | lia | omega)) (by (first | lia | omega)), h _ (by (first | lia | omega)) (by (first | lia | omega))⟩, h _ (by (first | lia | omega)) (by (first | lia | omega))⟩, h _ (by (first | lia | omega)) (by (first | lia | omega))⟩, .inr (h _ (by (first | lia | omega)) (by (first | lia | omega)))⟩
theorem oct_turn {ns : List Int} (hf : Fig ns) (p : Nat) (hlt : p < ns.length / 4) (k w : Int) (hk : k = 0 + (p : Int) * 4) (hw : w = ((ns.getD k.toNat 0 * 64 + ns.getD (k + 1).toNat 0) * 64 + ns.getD (k + 2).toNat 0) * 64 + ns.getD (k + 3).toNat 0) :
    octL (ns.take (4 * (p + 1))) = octL (ns.take (4 * p)) ++ [w.fdiv 65536, (w.fdiv 256).fmod 256, w.fmod 256] := by
  have e0 : k.toNat = 4 * p := by (first | lia | omega)
  have e1 : (k + 1).toNat = 4 * p + 1 := by (first | lia | omega)
  have e2 : (k + 2).toNat = 4 * p + 2 := by (first | lia | omega)
  have e3 : (k + 3).toNat = 4 * p + 3 := by (first | lia | omega)
  have l0 : 4 * p < ns.length := by (first | lia | omega)
  have l1 : 4 * p + 1 < ns.length := by (first | lia | omega)
  have l2 : 4 * p + 2 < ns.length := by (first | lia | omega)
  have l3 : 4 * p + 3 < ns.length := by (first | lia | omega)
  rw [e0, e1, e2, e3] at hw
  have g : ∀ i, i < ns.length → ns.getD i 0 = (ns[i]?).getD 0 := fun i _ => by rw [List.getD_eq_getElem?_getD]
  have hin : ∀ i (h : i < ns.length), 0 ≤ ns.getD i 0 ∧ ns.getD i 0 < 64 := fun i h => by
    have : ns.getD i 0 = ns[i] := by simp [h]
    rw [this]
    exact hf _ (List.getElem_mem h)
  have ha := hin _ l0
  have hb := hin _ l1
  have hc := hin _ l2
  have hd := hin _ l3
  have ht : ns.take (4 * (p + 1)) = ns.take (4 * p) ++ [ns.getD (4 * p) 0, ns.getD (4 * p + 1) 0, ns.getD (4 * p + 2) 0, ns.getD (4 * p + 3) 0] := by
    have f0 : ns.getD (4 * p) 0 = ns[4 * p] := by simp [l0]
    have f1 : ns.getD (4 * p + 1) 0 = ns[4 * p + 1] := by simp [l1]
    have f2 : ns.getD (4 * p + 2) 0 = ns[4 * p + 2] := by simp [l2]
    have f3 : ns.getD (4 * p + 3) 0 = ns[4 * p + 3] := by simp [l3]
    rw [f0, f1, f2, f3, show 4 * (p + 1) = 4 * p + 1 + 1 + 1 + 1 by (first | lia | omega)]
    have g3 : ns.take (4 * p + 1 + 1 + 1 + 1) = ns.take (4 * p + 1 + 1 + 1) ++ [ns[4 * p + 3]] := List.take_succ_eq_append_getElem l3
    have g2 : ns.take (4 * p + 1 + 1 + 1) = ns.take (4 * p + 1 + 1) ++ [ns[4 * p + 2]] := List.take_succ_eq_append_getElem l2
    have g1 : ns.take (4 * p + 1 + 1) = ns.take (4 * p + 1) ++ [ns[4 * p + 1]] := List.take_succ_eq_append_getElem l1
    have g0 : ns.take (4 * p + 1) = ns.take (4 * p) ++ [ns[4 * p]] := List.take_succ_eq_append_getElem l0
    rw [g3, g2, g1, g0]
    simp only [List.append_assoc, List.cons_append, List.nil_append]
  have hl : (ns.take (4 * p)).length % 4 = 0 := by rw [List.length_take]; (first | lia | omega)
  rw [ht, octL_append hl (by simp)]
  congr 1
  rw [octL_four _ _ _ _ (by simp)]
  generalize ns.getD (4 * p) 0 = a at *
  generalize ns.getD (4 * p + 1) 0 = b at *
  generalize ns.getD (4 * p + 2) 0 = c at *
  generalize ns.getD (4 * p + 3) 0 = d at *
  have q1 : w.fdiv 65536 = w / 65536 := Int.fdiv_eq_ediv_of_nonneg _ (by decide)
  have q2 : w.fdiv 256 = w / 256 := Int.fdiv_eq_ediv_of_nonneg _ (by decide)
  have q3 : (w / 256).fmod 256 = w / 256 % 256 := Int.fmod_eq_emod_of_nonneg _ (by decide)
  have q4 : w.fmod 256 = w % 256 := Int.fmod_eq_emod_of_nonneg _ (by decide)
  rw [q1, q2, q3, q4]
  have r1 : a * 4 + b / 16 = w / 65536 := by (first | lia | omega)
  have r2 : b % 16 * 16 + c / 4 = w / 256 % 256 := by (first | lia | omega)
  have r3 : c % 4 * 64 + d = w % 256 := by (first | lia | omega)
  rw [r1, r2, r3]
  rfl
theorem oct_state {ns pre out : List Int} {k : Int} (hf : Fig ns) (hp : out = octL (ns.take (4 * pre.length))) (hK : k = 0 + (pre.length : Int) * 4) (hlt : pre.length < ns.length / 4) :
    out ++ [((((ns.getD k.toNat 0 * 64 + ns.getD (k + 1).toNat 0) * 64 + ns.getD (k + 2).toNat 0) * 64 + ns.getD (k + 3).toNat 0).fdiv 65536), (((((ns.getD k.toNat 0 * 64 + ns.getD (k + 1).toNat 0) * 64 + ns.getD (k + 2).toNat 0) * 64 + ns.getD (k + 3).toNat 0).fdiv 256).fmod 256), ((((ns.getD k.toNat 0 * 64 + ns.getD (k + 1).toNat 0) * 64 + ns.getD (k + 2).toNat 0) * 64 + ns.getD (k + 3).toNat 0).fmod 256)] = octL (ns.take (4 * (pre ++ [k]).length)) := by
  rw [List.length_append, List.length_singleton, oct_turn hf pre.length hlt k _ hK rfl, hp]
theorem take_all {α : Type} (l : List α) (n : Nat) (h : l.length ≤ n) : l.take n = l := List.take_of_length_le h
end Mine
end
theorem Mine.zz31 : True := by
  k_with_none
  w_top off
  (have : True ∧ True := by
    (try walk1)
    all_goals (first | exact trivial | exact ⟨trivial, trivial⟩))
  trivial
-- T11
section
open PySem PySem.W PyProof.Rows PySem.Calls
set_option Elab.async false
set_option maxRecDepth 100000
set_option maxHeartbeats 8000000
set_option linter.unusedSimpArgs false
namespace Mine

theorem octets_spec (w : World) (mean : ExcName → Option Value) (mg mb : Str → Option Value) (l : Addr) (vs : List Value) (ns : List Int) (hi : IntsAre vs ns) (hf : Fig ns) (h4 : ns.length % 4 = 0) (hz : ns.length ≤ 10000) : SpecH w mean mg mb 174 1 20 [.ref l] [] (fun h => h.IsList l vs.toArray) (BytesIs (byteArr (octL ns))) := by
  have hlv := hi.length
  unfold SpecH
  k_fill
  intro dp un gd cn cs a ccd cl outer A₀ base h₀ L m s Q E B F X T hk hd hu hP hret
  refine wpAny_call ?_
  k_dflt ((refine' enter_def ?k1 ?k2 ?k3 ?k5 ?kA ?kF ?kK ?k6 ?k7 ?k8 ?k9 ?kB ?_ ?c2 ?c3 ?c4 ?c5; (case kA => exact rfl); (case kF => exact rfl); (case kK => assumption); (case k1 => k_asm); (case k2 => k_asm); (case k3 => k_asm); (case k5 => k_asm); (case k6 => k_is); (case k7 => k_is); (case k8 => ktr_room); (case k9 => first | exact BindsTo.of_eq rfl | (refine' kp_binds ?kx ?ke; (case kx => k_in); (case ke => exact fun _ => rfl))); (case c5 => decide); (case kB => exact locs rfl); (case c2 => exact rfl); (case c3 => exact rfl); (case c4 => exact rfl); k_whole; intro L' h' F' N' B' X' T'; (try dsimp only); (try k_lift B'); (try k_fold)))
  (repeat' (first | (k_unfold; (try dsimp only)) | ((with_reducible show wpAny _ _ (execs (_ :: _) _) _ _ _); k_here; (try k_made); (try k_gentoks); first | ((with_reducible refine gen_cons1 ?_); intro _ _) | ((with_reducible refine gen_cons2 ?_); intro _ _ _ _)) | ((with_reducible show Back _ _ _); (refine back_of (by with_reducible assumption) ?_); (try dsimp only)) | ((with_reducible show wpAny _ _ (call _ [Value.bytes _ _]) _ _ _); refine call_type_of (Tx := "bytes") rfl (by decide +kernel) ?_) | (k_end; wrow_close) | walk1 | (dsimp only; (first | ((with_reducible show wpAny _ _ (execs (_ :: _) _) _ _ _); k_here; (try k_made); (try k_gentoks); first | ((with_reducible refine gen_cons1 ?_); intro _ _) | ((with_reducible refine gen_cons2 ?_); intro _ _ _ _)) | ((with_reducible show Back _ _ _); (refine back_of (by with_reducible assumption) ?_); (try dsimp only)) | ((with_reducible show wpAny _ _ (call _ [Value.bytes _ _]) _ _ _); refine call_type_of (Tx := "bytes") rfl (by decide +kernel) ?_) | walk1)) | (leave1; walk_say "STEP leave1"; try dsimp only) | fail "no step"))
  refine' kst_step (n := ns.length / 4) (σ := List Value × List Int × Nat) (fun c => [(_, listOf c.1.toArray c.2.2)]) (fun c => []) (fun c => IntsAre c.1 c.2.1) [Str.ofString "whole"] (fun pre c => c.2.1 = octL (ns.take (4 * pre.length))) ⟨[], [], 0⟩ rfl (by assumption) (small_four _ hz) (size_four _ h4) (by k_asm) ?kn ?kf ?kk ?kp ?_ ?_
  (case kn => k_asm)
  (case kf => exact .nil)
  (case kk => kst_all)
  (case kp => rfl)
  · refine tup3 ?_
    rintro us out n pre k tt u h tk own hK hlt hoff hfa hp F1 N1
    have kMark := kstMark
    dsimp only [kstB, List.map, List.cons_append, List.nil_append] at hfa hp F1 N1 hoff ⊢
    have hlu := hfa.length
    have hou : out.length * 4 = 4 * pre.length * 3 := by rw [hp, octL_len _ (by rw [List.length_take]; omega), List.length_take]; omega
    (repeat' (first | (k_unfold; (try dsimp only)) | ((with_reducible show wpAny _ _ (execs (_ :: _) _) _ _ _); k_here; (try k_made); (try k_gentoks); first | ((with_reducible refine gen_cons1 ?_); intro _ _) | ((with_reducible refine gen_cons2 ?_); intro _ _ _ _)) | ((with_reducible show Back _ _ _); (refine back_of (by with_reducible assumption) ?_); (try dsimp only)) | ((with_reducible show wpAny _ _ (call _ [Value.bytes _ _]) _ _ _); refine call_type_of (Tx := "bytes") rfl (by decide +kernel) ?_) | (k_end; wrow_close) | walk1 | (dsimp only; (first | ((with_reducible show wpAny _ _ (execs (_ :: _) _) _ _ _); k_here; (try k_made); (try k_gentoks); first | ((with_reducible refine gen_cons1 ?_); intro _ _) | ((with_reducible refine gen_cons2 ?_); intro _ _ _ _)) | ((with_reducible show Back _ _ _); (refine back_of (by with_reducible assumption) ?_); (try dsimp only)) | ((with_reducible show wpAny _ _ (call _ [Value.bytes _ _]) _ _ _); refine call_type_of (Tx := "bytes") rfl (by decide +kernel) ?_) | walk1)) | (leave1; walk_say "STEP leave1"; try dsimp only) | fail "no step"))
    refine' extend_lists ?F ?N ?hb ?hne ?U ?hz ?_
    case F => k_asm
    case N => k_asm
    case hb => k_mem
    case hne => simp
    case U => k_upd
    case hz => (simp only [List.length_cons, List.length_nil]; omega)
    intro h9 F9 N9
    ((try ((with_reducible show Back _ _ _); (refine back_of (by with_reducible assumption) ?_); (try dsimp only))); walk1)
    ((try ((with_reducible show Back _ _ _); (refine back_of (by with_reducible assumption) ?_); (try dsimp only))); walk1)
    ((try ((with_reducible show Back _ _ _); (refine back_of (by with_reducible assumption) ?_); (try dsimp only))); walk1)
    refine kst_end (c := ⟨us ++ [?v1, ?v2, ?v3], out ++ [?n1, ?n2, ?n3], n + 1⟩) F9 N9 ?hn ?ho ?ha ?hf ?hk ?hr ?hp
    case hp => exact oct_state hf hp hK hlt
    case hn => intro p hp2; rw [List.mem_singleton.mp hp2]; k_mem
    case ho => intro p hp2; (first | (exact List.mem_append_right _ hp2) | (exact List.Mem.tail _ (List.Mem.tail _ hp2)) | (exact List.Mem.tail _ (List.Mem.tail _ (List.Mem.tail _ hp2))))
    case ha => rfl
    case hf => exact IntsAre.append hfa (.cons _ _ (.cons _ _ (.cons _ _ .nil)))
    case hk => intro p hp2; cases hp2
    case hr =>
      intro z h1 h2 h3
      simp_all
  · refine tup3 ?_
    rintro us out n u h tk hfa hp F1 N1
    have kMark := kstMark
    dsimp only [kstB, List.map, List.cons_append, List.nil_append] at hfa hp F1 N1 ⊢
    have hlu := hfa.length
    rw [stepKs_length, show 4 * (ns.length / 4) = ns.length by omega, take_all _ _ (Nat.le_refl _)] at hp
    subst hp
    have hol := octL_len ns h4
    have hin : KBa.In (octL ns) := octL_in ns h4 hf
    (repeat' (first | (k_unfold; (try dsimp only)) | ((with_reducible show wpAny _ _ (execs (_ :: _) _) _ _ _); k_here; (try k_made); (try k_gentoks); first | ((with_reducible refine gen_cons1 ?_); intro _ _) | ((with_reducible refine gen_cons2 ?_); intro _ _ _ _)) | ((with_reducible show Back _ _ _); (refine back_of (by with_reducible assumption) ?_); (try dsimp only)) | ((with_reducible show wpAny _ _ (call _ [Value.bytes _ _]) _ _ _); refine call_type_of (Tx := "bytes") rfl (by decide +kernel) ?_) | (k_end; wrow_close) | walk1 | (dsimp only; (first | ((with_reducible show wpAny _ _ (execs (_ :: _) _) _ _ _); k_here; (try k_made); (try k_gentoks); first | ((with_reducible refine gen_cons1 ?_); intro _ _) | ((with_reducible refine gen_cons2 ?_); intro _ _ _ _)) | ((with_reducible show Back _ _ _); (refine back_of (by with_reducible assumption) ?_); (try dsimp only)) | ((with_reducible show wpAny _ _ (call _ [Value.bytes _ _]) _ _ _); refine call_type_of (Tx := "bytes") rfl (by decide +kernel) ?_) | walk1)) | (leave1; walk_say "STEP leave1"; try dsimp only) | fail "no step"))
    exact ret_bytes (Q := Q) (s := s) hret (by assumption) rfl
end Mine
end
theorem Mine.zz32 : True := by
  k_with_none
  w_top off
  (have : True ∧ True := by
    (try walk1)
    all_goals (first | exact trivial | exact ⟨trivial, trivial⟩))
  trivial
-- Pure7
section
open PySem PySem.W PyProof.Rows PySem.Calls
set_option Elab.async false
set_option maxRecDepth 100000
namespace Mine
/-- amp; k times, in figures -/
def amps (k : Nat) : List Int := (List.replicate k [26, 38, 41, 63]).flatten
/-- each 62 is followed by amp; k times -/
def cpF (xs : List Int) (k : Nat) : List Int := xs.flatMap fun x => if x = 62 then 62 :: amps k else [x]
theorem cpF_nil (k : Nat) : cpF [] k = [] := rfl
theorem cpF_snoc (xs : List Int) (x : Int) (k : Nat) : cpF (xs ++ [x]) k = cpF xs k ++ (if x = 62 then 62 :: amps k else [x]) := by simp [cpF]
theorem cpF_yes {xs out : List Int} {x : Int} {k : Nat} (h : out = cpF xs k) (e : x = 62) : out ++ [x] ++ amps k = cpF (xs ++ [x]) k := by rw [cpF_snoc, if_pos e, h, e]; simp
theorem cpF_no {xs out : List Int} {x : Int} {k : Nat} (h : out = cpF xs k) (e : ¬ x = 62) : out ++ [x] = cpF (xs ++ [x]) k := by rw [cpF_snoc, if_neg e, h]
theorem amps_len (k : Nat) : (amps k).length = 4 * k := by
  induction k with
  | zero => rfl
  | succ k ih => rw [amps, List.replicate_succ, List.flatten_cons, List.length_append]; rw [amps] at ih; rw [ih]; simp; (first | lia | omega)
theorem amps_fig (k : Nat) : Fig (amps k) := by
  intro x hx
  obtain ⟨l, hl, hx⟩ := List.mem_flatten.mp hx
  rw [(List.mem_replicate.mp hl).2] at hx
  simp only [List.mem_cons, List.not_mem_nil, or_false] at hx
  rcases hx with rfl | rfl | rfl | rfl <;> decide
theorem cpF_len : ∀ (xs : List Int) (k : Nat), (cpF xs k).length = xs.length + 4 * k * xs.count 62
  | [], k => by simp [cpF]
  | x :: r, k => by
    have ih := cpF_len r k
    have e : cpF (x :: r) k = (if x = 62 then 62 :: amps k else [x]) ++ cpF r k := rfl
    rw [e, List.length_append, ih, List.count_cons, List.length_cons]
    by_cases h : x = 62
    · subst h
      simp only [if_pos, List.length_cons, amps_len, beq_self_eq_true, if_true, Nat.mul_add, Nat.mul_one]
      (first | lia | omega)
    · have hb : (x == 62) = false := by simpa using h
      simp only [if_neg h, hb, List.length_singleton, Bool.false_eq_true, if_false, Nat.add_zero]
      (first | lia | omega)
theorem cpF_fig {xs : List Int} (hf : Fig xs) (k : Nat) : Fig (cpF xs k) := by
  intro y hy
  obtain ⟨x, hx, h⟩ := List.mem_flatMap.mp hy
  have := hf x hx
  split at h
  · rcases List.mem_cons.mp h with rfl | h
    · decide
    · exact amps_fig k y h
  · rw [List.mem_singleton.mp h]; exact this
theorem cpF_le (xs : List Int) (k : Nat) : (cpF xs k).length ≤ xs.length * (4 * k + 1) := by
  rw [cpF_len]
  have := List.count_le_length (a := (62 : Int)) (l := xs)
  have h2 : 4 * k * xs.count 62 ≤ 4 * k * xs.length := Nat.mul_le_mul_left _ this
  rw [Nat.mul_add, Nat.mul_one, Nat.mul_comm xs.length]
  (first | lia | omega)
end Mine
end
theorem Mine.zz33 : True := by
  k_with_none
  w_top off
  (have : True ∧ True := by
    (try walk1)
    all_goals (first | exact trivial | exact ⟨trivial, trivial⟩))
  trivial
-- Pure8
section
set_option Elab.async false
set_option maxRecDepth 100000
namespace Mine
def rowsF (row : List Int) (ts : List Nat) : List Int := ts.flatMap (cpF row)
def tsD (ts : List Nat) (n : Int) : List Nat := (if n.fmod 2 = 1 then ts.map (· + 1) else ts) ++ (if (n.fdiv 2).fmod 2 = 1 then ts.map (· + 1) else ts)
theorem amps_succ (k : Nat) : amps (k + 1) = [26, 38, 41, 63] ++ amps k := by simp [amps, List.replicate_succ]
theorem esc_append (a b : List Int) : esc (a ++ b) = esc a ++ esc b := by simp [esc]
theorem esc_amps (k : Nat) : esc (amps k) = amps k := by
  induction k with
  | zero => rfl
  | succ k ih => rw [amps_succ, esc_append, ih]; rfl
theorem esc_cpF (row : List Int) (k : Nat) : esc (cpF row k) = cpF row (k + 1) := by
  induction row with
  | nil => rfl
  | cons x r ih =>
    have e : ∀ j, cpF (x :: r) j = (if x = 62 then 62 :: amps j else [x]) ++ cpF r j := fun j => by simp [cpF]
    rw [e, e, esc_append, ih]
    congr 1
    split
    · show esc ([62] ++ amps k) = _
      rw [esc_append, esc_amps, amps_succ]; rfl
    · simp [esc, *]
theorem cpF_zero (row : List Int) : cpF row 0 = row := by
  induction row with
  | nil => rfl
  | cons x r ih =>
    have e : cpF (x :: r) 0 = (if x = 62 then 62 :: amps 0 else [x]) ++ cpF r 0 := by simp [cpF]
    rw [e, ih]; split <;> simp [amps, *]
theorem esc_rows (row : List Int) (ts : List Nat) : esc (rowsF row ts) = rowsF row (ts.map (· + 1)) := by
  induction ts with
  | nil => rfl
  | cons t r ih =>
    show esc (cpF row t ++ rowsF row r) = cpF row (t + 1) ++ rowsF row (r.map (· + 1))
    rw [esc_append, esc_cpF, ih]
theorem rowsF_append (row : List Int) (a b : List Nat) : rowsF row (a ++ b) = rowsF row a ++ rowsF row b := by simp [rowsF]
theorem deed_rows (row : List Int) (ts : List Nat) (n : Int) : deedF (rowsF row ts) n = rowsF row (tsD ts n) := by
  unfold deedF tsD
  rw [rowsF_append, esc_rows]
  congr 1 <;> split <;> rfl
theorem fold_rows (row : List Int) (ns : List Int) : ∀ ts, ns.foldl deedF (rowsF row ts) = rowsF row (ns.foldl tsD ts) := by
  induction ns with
  | nil => intro ts; rfl
  | cons n r ih => intro ts; rw [List.foldl_cons, List.foldl_cons, deed_rows, ih]
theorem rowsF_one (row : List Int) : rowsF row [0] = row := by simp [rowsF, cpF_zero]
theorem rowsF_len (row : List Int) (ts : List Nat) (k : Nat) (h : ∀ t ∈ ts, t ≤ k) : (rowsF row ts).length ≤ ts.length * (row.length * (4 * k + 1)) := by
  induction ts with
  | nil => exact Nat.zero_le _
  | cons t r ih =>
    have h1 := ih fun x hx => h x (List.mem_cons_of_mem _ hx)
    have h2 := cpF_le row t
    have h3 : row.length * (4 * t + 1) ≤ row.length * (4 * k + 1) := Nat.mul_le_mul (Nat.le_refl _) (by have := h t (List.mem_cons_self ..); (first | lia | omega))
    show (cpF row t ++ rowsF row r).length ≤ (r.length + 1) * _
    rw [List.length_append, Nat.add_mul]
    (first | lia | omega)
theorem tsD_len (ts : List Nat) (n : Int) : (tsD ts n).length = 2 * ts.length := by
  unfold tsD; rw [List.length_append]; split <;> split <;> (try simp only [List.length_map]) <;> (first | lia | omega)
theorem tsD_le (ts : List Nat) (n : Int) (k : Nat) (h : ∀ t ∈ ts, t ≤ k) : ∀ t ∈ tsD ts n, t ≤ k + 1 := by
  have h1 : ∀ t ∈ ts.map (· + 1), t ≤ k + 1 := by
    intro t ht; obtain ⟨x, hx, rfl⟩ := List.mem_map.mp ht; have := h x hx; (first | lia | omega)
  have h2 : ∀ t ∈ ts, t ≤ k + 1 := fun t ht => Nat.le_succ_of_le (h t ht)
  intro t ht
  unfold tsD at ht
  rcases List.mem_append.mp ht with h' | h' <;> split at h' <;> first | exact h1 t h' | exact h2 t h'
theorem fold_ts (ns : List Int) : ∀ ts k, (∀ t ∈ ts, t ≤ k) → (ns.foldl tsD ts).length = 2 ^ ns.length * ts.length ∧ ∀ t ∈ ns.foldl tsD ts, t ≤ k + ns.length := by
  induction ns with
  | nil => intro ts k h; exact ⟨by simp, h⟩
  | cons n r ih =>
    intro ts k h
    obtain ⟨h1, h2⟩ := ih (tsD ts n) (k + 1) (tsD_le ts n k h)
    refine ⟨?_, fun t ht => ?_⟩
    · rw [List.foldl_cons, h1, tsD_len, List.length_cons, Nat.pow_succ, Nat.mul_assoc]
    · have := h2 t ht; rw [List.length_cons]; (first | lia | omega)
theorem rowsF_four (row : List Int) (h4 : row.length % 4 = 0) (ts : List Nat) : (rowsF row ts).length % 4 = 0 := by
  induction ts with
  | nil => rfl
  | cons t r ih =>
    show (cpF row t ++ rowsF row r).length % 4 = 0
    have := cpF_len row t
    rw [Nat.mul_assoc] at this
    rw [List.length_append]; (first | lia | omega)
theorem rowsF_fig (row : List Int) (hf : Fig row) (ts : List Nat) : Fig (rowsF row ts) := by
  intro x hx
  obtain ⟨t, _, h⟩ := List.mem_flatMap.mp hx
  exact cpF_fig hf t x h
theorem cpF_62 (row : List Int) (h : (62 : Int) ∈ row) (t : Nat) : (62 : Int) ∈ cpF row t :=
  List.mem_flatMap.mpr ⟨62, h, by rw [if_pos rfl]; exact List.mem_cons_self ..⟩
/-- all that a deed asks of the octets after some deeds -/
structure Sound (row ys : List Int) : Prop where
  fig : Fig ys
  four : ys.length % 4 = 0
  le : ys.length ≤ 10000
  eescLe : (esc ys).length ≤ 10000
  has : (62 : Int) ∈ ys
theorem sound_fold {row pre ys : List Int} (hf : Fig row) (h4 : row.length % 4 = 0) (h8 : row.length ≤ 8) (h62 : (62 : Int) ∈ row) (hp : pre.length ≤ 4) (e : ys = pre.foldl deedF row) : Sound row ys := by
  have e' : ys = rowsF row (pre.foldl tsD [0]) := by rw [← fold_rows, rowsF_one, e]
  obtain ⟨h1, h2⟩ := fold_ts pre [0] 0 (by simp)
  have hl : (pre.foldl tsD [0]).length ≤ 16 := by
    rw [h1]
    have := Nat.pow_le_pow_right (show 0 < 2 by decide) hp
    simpa using this
  have hpos : 0 < (pre.foldl tsD [0]).length := by rw [h1]; simp [Nat.pow_pos]
  have bound : ∀ ts : List Nat, ts.length ≤ 16 → (∀ t ∈ ts, t ≤ 5) → (rowsF row ts).length ≤ 10000 := by
    intro ts a b
    have h3 := rowsF_len row ts 5 b
    have h5 : ts.length * (row.length * (4 * 5 + 1)) ≤ 16 * (8 * 21) := Nat.mul_le_mul a (Nat.mul_le_mul h8 (by decide))
    (first | lia | omega)
  subst e'
  refine ⟨rowsF_fig row hf _, rowsF_four row h4 _, bound _ hl fun t ht => by have := h2 t ht; (first | lia | omega), ?_, ?_⟩
  · rw [esc_rows]
    refine bound _ (by rw [List.length_map]; exact hl) fun t ht => ?_
    obtain ⟨x, hx, rfl⟩ := List.mem_map.mp ht
    have := h2 x hx
    (first | lia | omega)
  · obtain ⟨t, ht⟩ := List.exists_mem_of_length_pos hpos
    exact List.mem_flatMap.mpr ⟨t, ht, cpF_62 row h62 t⟩
end Mine
end
theorem Mine.zz34 : True := by
  k_with_none
  w_top off
  (have : True ∧ True := by
    (try walk1)
    all_goals (first | exact trivial | exact ⟨trivial, trivial⟩))
  trivial
-- Rules5
section
open PySem PySem.W PyProof.Rows PySem.Calls PySem.Spec PyProof.V
set_option Elab.async false
set_option maxRecDepth 100000
namespace Mine
/-- an iterator that stands ahead of a list's first item -/
def liter (l : Addr) : Obj := { cls := .type "list_iterator", data := .fields #[.ref l, .int 0 0] }
section
variable {prog : Program} {w : World} {A : Around} {E : Value → Shared → Prop} {s : Shared} {env : Env} {h₀ : Heap} {L l : Addr} {m : Str → Option Value} {news : List (Addr × Obj)} {x : Str} {body : List Stmt}
theorem iter_list {Q : Value → Shared → Prop} {items : Array Value} (F : Fr h₀ L s.heap m) (N : News h₀ L s.heap news) (hl : h₀.IsList l items)
    (h : ∀ (I : Addr) h', Fr h₀ L h' m → News h₀ L h' ((I, liter l) :: news) → (∀ p ∈ news, p.1 < I) → Q (.ref I) { s with heap := h' }) :
    wpAny (model prog w) A (call (.builtin "iter") [.ref l]) Q E s := by
  refine call_function_entry (by decide +kernel) (by decide +kernel) kdk_entry_iter (kdk_args_iter _) ?_
  unfold Builtin.«iter»
  refine wpAny_bind (m := someArgs "iter" 1 2 _) (wpAny_of_eq (a := [Value.ref l]) (by first | rfl | kernel_rfl!) ?_)
  show wpAny _ _ (pyIter (.ref l) >>= _) _ _ _
  refine wpAny_bind (wpAny_pyIter_list (hl.at fun o e => F.keep l o e) ?_)
  exact wpAny_pure ⟨_, rfl, h _ _ (F.push _) (News.push F N _ rfl) (fun q hq => Heap.lt_size (N q hq).1)⟩
theorem kst_liter {Q : Flow → Shared → Prop} {σ : Type} {I : Addr} {vs : List Value} {ns : List Int} {m₀ : Str → Option Value} (ps : σ → List (Str × Value)) (Facts : σ → Prop) (stored : List Str) (P : List Int → σ → Prop) (c₀ : σ)
    (hh : A.handled = none) (hl : h₀.IsList l vs.toArray) (hi : IntsAre vs ns) (F : Fr h₀ env.locals s.heap m₀) (N : News h₀ env.locals s.heap [(I, liter l)]) (hf : Facts c₀) (hk : ∀ p ∈ ps c₀, m₀ p.1 = some p.2) (hp : P [] c₀)
    (turn : ∀ (c : σ) pre post n t (u : Str → Option Value) h tk own, ns = pre ++ n :: post → n ∈ ns → OwnOff own [] → Facts c → P pre c →
      Fr h₀ env.locals h (fun y => if y = x then some (.int n t) else kstB (fun z => if stored.contains z then u z else m₀ z) (ps c) y) → News h₀ env.locals h own →
      wpAny (model prog w) A (execs body env) (InvPostN h₀ env.locals (KstS (fun _ => []) ps Facts x stored m₀ P (pre ++ [n])) own [] { s with heap := h, toks := tk } Q) E { s with heap := h, toks := tk })
    (done : ∀ (c : σ) (u : Str → Option Value) h tk, Facts c → P ns c → Fr h₀ env.locals h (fun y => if y = x then u y else kstB (fun z => if stored.contains z then u z else m₀ z) (ps c) y) → News h₀ env.locals h [] → Q .next { s with heap := h, toks := tk }) :
    wpAny (model prog w) A (pyIter (.ref I)) (fun it s₂ => LoopAtV prog w A h₀ env x body Q E it s₂) E s := by
  have hI := N _ (.head _)
  have hit : s.heap.IsListIter I l 0 := ⟨_, hI.1, rfl, rfl⟩
  have hls : s.heap.IsList l vs.toArray := hl.at fun o e => F.keep l o e
  obtain ⟨ol, hol, _⟩ := id hl
  have hlt : l < h₀.objs.size := Heap.lt_size hol
  have hne : l ≠ I := fun e => by subst e; rw [hI.2.2] at hol; cases hol
  refine wpAny_pyIter_listiter hit ?_
  have W := Walks.list (prog := prog) (w := w) hh I l hne vs.toArray
  have hlen : vs.toArray.size = ns.length := by simp [hi.length]
  rw [hlen] at W
  refine loop_invN (news := []) (fun i m nx => KstS (fun _ => []) ps Facts x stored m₀ P (ns.take i) m nx) W ?_ ?_ (fun _ h => nomatch h) (fun _ h => nomatch h) ⟨hit, hls⟩ F (fun _ h => nomatch h) ⟨c₀, rfl, hf, hk, fun _ _ _ _ => rfl, by simpa using hp⟩ ?_ ?_
  · intro hm
    rcases List.mem_cons.mp hm with e | hm
    · exact hI.2.1 e.symm
    · exact absurd (Nat.lt_of_lt_of_le hlt F.above) ((List.mem_singleton.mp hm) ▸ Nat.lt_irrefl _)
  · intro b hb
    rw [List.mem_singleton.mp hb]
    exact hI.2.2
  · rintro i v m₁ nx h tk own hi' hv _ hoff ⟨d, rfl, hf', h1, h2, hp'⟩ F₁ N₁
    obtain ⟨n, t, rfl, hn⟩ : ∃ n t, v = .int n t ∧ ns[i]? = some n := by
      have hv' : vs[i]? = some v := by simpa using hv
      exact hi.at i v hv'
    have hs : ns.take (i + 1) = ns.take i ++ [n] := by simp [List.take_add_one, hn]
    have e : ns = ns.take i ++ n :: ns.drop (i + 1) := by
      have ht := List.take_append_drop (i + 1) ns
      rw [hs, List.append_assoc] at ht
      exact ht.symm
    rw [hs]
    exact turn d _ _ n t m₁ h tk own e (List.mem_of_getElem? hn) hoff hf' hp' (kst_fr h1 h2 F₁) N₁
  · rintro m₁ nx h tk ⟨d, rfl, hf', h1, h2, hp'⟩ F₁ N₁
    rw [List.take_length] at hp'
    exact done d m₁ h tk hf' hp' (kst_frOut h1 h2 F₁) (fun _ h => nomatch h)
end
end Mine
end
theorem Mine.zz35 : True := by
  k_with_none
  w_top off
  (have : True ∧ True := by
    (try walk1)
    all_goals (first | exact trivial | exact ⟨trivial, trivial⟩))
  trivial
-- T2
section
open PySem PySem.W PyProof.Rows PySem.Calls
set_option Elab.async false
set_option maxRecDepth 100000
set_option maxHeartbeats 8000000
set_option linter.unusedSimpArgs false
namespace Mine

theorem buffer_spec (w : World) (mean : ExcName → Option Value) (mg mb : Str → Option Value) (b : Array UInt8) (t : Tok) : Spec w mean mg mb 72 1 8 [.bytes b t] [] (BytesIs b) := by
  unfold Spec
  k_fill
  intro dp un gd cn cs a ccd cl outer A₀ base h₀ L m s Q E B F X T hk hd hu hret
  refine wpAny_call ?_
  k_dflt ((refine' enter_def ?k1 ?k2 ?k3 ?k5 ?kA ?kF ?kK ?k6 ?k7 ?k8 ?k9 ?kB ?_ ?c2 ?c3 ?c4 ?c5; (case kA => exact rfl); (case kF => exact rfl); (case kK => assumption); (case k1 => k_asm); (case k2 => k_asm); (case k3 => k_asm); (case k5 => k_asm); (case k6 => k_is); (case k7 => k_is); (case k8 => ktr_room); (case k9 => first | exact BindsTo.of_eq rfl | (refine' kp_binds ?kx ?ke; (case kx => k_in); (case ke => exact fun _ => rfl))); (case c5 => decide); (case kB => exact locs rfl); (case c2 => exact rfl); (case c3 => exact rfl); (case c4 => exact rfl); k_whole; intro L' h' F' N' B' X' T'; (try dsimp only); (try k_lift B'); (try k_fold)))
  (repeat' (first | (k_unfold; (try dsimp only)) | ((with_reducible show wpAny _ _ (execs (_ :: _) _) _ _ _); k_here; (try k_made); (try k_gentoks); first | ((with_reducible refine gen_cons1 ?_); intro _ _) | ((with_reducible refine gen_cons2 ?_); intro _ _ _ _)) | ((with_reducible show Back _ _ _); (refine back_of (by with_reducible assumption) ?_); (try dsimp only)) | ((with_reducible show wpAny _ _ (call _ [Value.bytes _ _]) _ _ _); refine call_type_of (Tx := "bytes") rfl (by decide +kernel) ?_) | (k_end; wrow_close) | walk1 | (dsimp only; (first | ((with_reducible show wpAny _ _ (execs (_ :: _) _) _ _ _); k_here; (try k_made); (try k_gentoks); first | ((with_reducible refine gen_cons1 ?_); intro _ _) | ((with_reducible refine gen_cons2 ?_); intro _ _ _ _)) | ((with_reducible show Back _ _ _); (refine back_of (by with_reducible assumption) ?_); (try dsimp only)) | ((with_reducible show wpAny _ _ (call _ [Value.bytes _ _]) _ _ _); refine call_type_of (Tx := "bytes") rfl (by decide +kernel) ?_) | walk1)) | (leave1; walk_say "STEP leave1"; try dsimp only) | fail "no step"))
  all_goals (refine ret_bytes (Q := Q) (s := s) hret (by assumption) rfl)
theorem truth_spec (w : World) (mean : ExcName → Option Value) (mg mb : Str → Option Value) (b : Bool) : Spec w mean mg mb 79 1 8 [.bool b] [] (BoolIs b) := by
  unfold Spec
  k_fill
  intro dp un gd cn cs a ccd cl outer A₀ base h₀ L m s Q E B F X T hk hd hu hret
  refine wpAny_call ?_
  k_dflt ((refine' enter_def ?k1 ?k2 ?k3 ?k5 ?kA ?kF ?kK ?k6 ?k7 ?k8 ?k9 ?kB ?_ ?c2 ?c3 ?c4 ?c5; (case kA => exact rfl); (case kF => exact rfl); (case kK => assumption); (case k1 => k_asm); (case k2 => k_asm); (case k3 => k_asm); (case k5 => k_asm); (case k6 => k_is); (case k7 => k_is); (case k8 => ktr_room); (case k9 => first | exact BindsTo.of_eq rfl | (refine' kp_binds ?kx ?ke; (case kx => k_in); (case ke => exact fun _ => rfl))); (case c5 => decide); (case kB => exact locs rfl); (case c2 => exact rfl); (case c3 => exact rfl); (case c4 => exact rfl); k_whole; intro L' h' F' N' B' X' T'; (try dsimp only); (try k_lift B'); (try k_fold)))
  (repeat' (first | (k_unfold; (try dsimp only)) | ((with_reducible show wpAny _ _ (execs (_ :: _) _) _ _ _); k_here; (try k_made); (try k_gentoks); first | ((with_reducible refine gen_cons1 ?_); intro _ _) | ((with_reducible refine gen_cons2 ?_); intro _ _ _ _)) | ((with_reducible show Back _ _ _); (refine back_of (by with_reducible assumption) ?_); (try dsimp only)) | ((with_reducible show wpAny _ _ (call _ [Value.bytes _ _]) _ _ _); refine call_type_of (Tx := "bytes") rfl (by decide +kernel) ?_) | (k_end; wrow_close) | walk1 | (dsimp only; (first | ((with_reducible show wpAny _ _ (execs (_ :: _) _) _ _ _); k_here; (try k_made); (try k_gentoks); first | ((with_reducible refine gen_cons1 ?_); intro _ _) | ((with_reducible refine gen_cons2 ?_); intro _ _ _ _)) | ((with_reducible show Back _ _ _); (refine back_of (by with_reducible assumption) ?_); (try dsimp only)) | ((with_reducible show wpAny _ _ (call _ [Value.bytes _ _]) _ _ _); refine call_type_of (Tx := "bytes") rfl (by decide +kernel) ?_) | walk1)) | (leave1; walk_say "STEP leave1"; try dsimp only) | fail "no step"))
  all_goals (refine ret_bool (Q := Q) (s := s) hret (by assumption) (by simp_all))
end Mine
end
theorem Mine.zz36 : True := by
  k_with_none
  w_top off
  (have : True ∧ True := by
    (try walk1)
    all_goals (first | exact trivial | exact ⟨trivial, trivial⟩))
  trivial
-- T3
section
open PySem PySem.W PyProof.Rows PySem.Calls
set_option Elab.async false
set_option maxRecDepth 100000
set_option maxHeartbeats 8000000
set_option linter.unusedSimpArgs false
namespace Mine

theorem b2a_spec (w : World) (mean : ExcName → Option Value) (mg mb : Str → Option Value) (b : Array UInt8) (t : Tok) (hb : b.size ≤ 10000) (h3 : b.size % 3 = 0) : Spec w mean mg mb 102 4 20 [.bytes b t] [(Str.ofString "newline", .bool false)] (BytesIs (byteArr (encL (KBw.bInts b)))) := by
  k_with "state" => (first | exact enc_e0 hp f1 h0 h255 | exact enc_e2 hp f1 h0 h255 | exact enc_e4 hp f1 h0 h255)
  unfold Spec
  k_fill
  intro dp un gd cn cs a ccd cl outer A₀ base h₀ L m s Q E B F X T hk hd hu hret
  refine wpAny_call ?_
  k_dflt ((refine' enter_def ?k1 ?k2 ?k3 ?k5 ?kA ?kF ?kK ?k6 ?k7 ?k8 ?k9 ?kB ?_ ?c2 ?c3 ?c4 ?c5; (case kA => exact rfl); (case kF => exact rfl); (case kK => assumption); (case k1 => k_asm); (case k2 => k_asm); (case k3 => k_asm); (case k5 => k_asm); (case k6 => k_is); (case k7 => k_is); (case k8 => ktr_room); (case k9 => first | exact BindsTo.of_eq rfl | (refine' kp_binds ?kx ?ke; (case kx => k_in); (case ke => exact fun _ => rfl))); (case c5 => decide); (case kB => exact locs rfl); (case c2 => exact rfl); (case c3 => exact rfl); (case c4 => exact rfl); k_whole; intro L' h' F' N' B' X' T'; (try dsimp only); (try k_lift B'); (try k_fold)))
  (repeat' (first | (k_unfold; (try dsimp only)) | ((with_reducible show wpAny _ _ (execs (_ :: _) _) _ _ _); k_here; (try k_made); (try k_gentoks); first | ((with_reducible refine gen_cons1 ?_); intro _ _) | ((with_reducible refine gen_cons2 ?_); intro _ _ _ _)) | ((with_reducible show Back _ _ _); (refine back_of (by with_reducible assumption) ?_); (try dsimp only)) | (k_here; (with_reducible show wpAny _ _ (call (Value.ref 79) [Value.bool _] _) _ _ _); k_dflt (refine' use_spec (truth_spec _ _ _ _ _) (by k_asm) (by k_asm) (by k_asm) (by k_asm) (by k_asm) (by first | exact rfl | assumption) (by ktr_room) (by ktr_units) ?_; k_whole); intro v9 h9 tk9 R9 F9 N9; obtain ⟨t9, hv9⟩ := R9; subst hv9; (try k_sweep)) | (k_here; (with_reducible show wpAny _ _ (call (Value.ref 72) [Value.bytes _ _] _) _ _ _); k_dflt (refine' use_spec (buffer_spec _ _ _ _ _ _) (by k_asm) (by k_asm) (by k_asm) (by k_asm) (by k_asm) (by first | exact rfl | assumption) (by ktr_room) (by ktr_units) ?_; k_whole); intro v9 h9 tk9 R9 F9 N9; obtain ⟨t9, hv9⟩ := R9; subst hv9; (try k_sweep)) | (k_here; (with_reducible show wpAny _ _ (subscriptTail _ _ (Value.bytes _ 272) (Value.int (Builtin.bitAnd _ 63) _)) _ _ _); (refine item_b64 ?_); intro t9 k9) | ((with_reducible show wpAny _ _ (call _ [Value.bytes _ _]) _ _ _); refine call_type_of (Tx := "bytes") rfl (by decide +kernel) ?_) | (k_end; wrow_close) | walk1 | (dsimp only; (first | ((with_reducible show wpAny _ _ (execs (_ :: _) _) _ _ _); k_here; (try k_made); (try k_gentoks); first | ((with_reducible refine gen_cons1 ?_); intro _ _) | ((with_reducible refine gen_cons2 ?_); intro _ _ _ _)) | ((with_reducible show Back _ _ _); (refine back_of (by with_reducible assumption) ?_); (try dsimp only)) | (k_here; (with_reducible show wpAny _ _ (call (Value.ref 79) [Value.bool _] _) _ _ _); k_dflt (refine' use_spec (truth_spec _ _ _ _ _) (by k_asm) (by k_asm) (by k_asm) (by k_asm) (by k_asm) (by first | exact rfl | assumption) (by ktr_room) (by ktr_units) ?_; k_whole); intro v9 h9 tk9 R9 F9 N9; obtain ⟨t9, hv9⟩ := R9; subst hv9; (try k_sweep)) | (k_here; (with_reducible show wpAny _ _ (call (Value.ref 72) [Value.bytes _ _] _) _ _ _); k_dflt (refine' use_spec (buffer_spec _ _ _ _ _ _) (by k_asm) (by k_asm) (by k_asm) (by k_asm) (by k_asm) (by first | exact rfl | assumption) (by ktr_room) (by ktr_units) ?_; k_whole); intro v9 h9 tk9 R9 F9 N9; obtain ⟨t9, hv9⟩ := R9; subst hv9; (try k_sweep)) | (k_here; (with_reducible show wpAny _ _ (subscriptTail _ _ (Value.bytes _ 272) (Value.int (Builtin.bitAnd _ 63) _)) _ _ _); (refine item_b64 ?_); intro t9 k9) | ((with_reducible show wpAny _ _ (call _ [Value.bytes _ _]) _ _ _); refine call_type_of (Tx := "bytes") rfl (by decide +kernel) ?_) | walk1)) | (leave1; walk_say "STEP leave1"; try dsimp only) | fail "no step"))
  refine' KStb.kst_bytes (σ := Int × Tok × Int × Tok × List Value × List Int × Nat) (fun c => [(_, listOf c.2.2.2.2.1.toArray c.2.2.2.2.2.2)]) (fun c => [(Str.ofString "leftchar", Value.int c.1 c.2.1), (Str.ofString "leftbits", Value.int c.2.2.1 c.2.2.2.1)]) (fun c => IntsAre c.2.2.2.2.1 c.2.2.2.2.2.1) [] (fun pre c => EncInv pre c.1 c.2.2.1 c.2.2.2.2.2.1) ⟨0, _, 0, _, [], [], 0⟩ rfl (KBw.ints_length b) rfl (by k_asm) ?kn ?kf ?kk ?kp ?_ ?_
  (case kn => k_asm)
  (case kf => exact .nil)
  (case kk => kst_all)
  (case kp => exact enc_start)
  · refine tup7 ?_
    rintro lc t1 lb t2 vs out n pre post k tt u h tk own hE hlt h0 h255 hoff hf hp F1 N1
    have kMark := kstMark
    dsimp only [kstB, List.map, List.cons_append, List.nil_append] at hf hp F1 N1 hoff ⊢
    have hlv := hf.length
    obtain ⟨f1, f2, f3, f4, f5⟩ := enc_facts hp
    rcases f3 with rfl | rfl | rfl
    · (repeat' (first | (k_unfold; (try dsimp only)) | ((with_reducible show wpAny _ _ (execs (_ :: _) _) _ _ _); k_here; (try k_made); (try k_gentoks); first | ((with_reducible refine gen_cons1 ?_); intro _ _) | ((with_reducible refine gen_cons2 ?_); intro _ _ _ _)) | ((with_reducible show Back _ _ _); (refine back_of (by with_reducible assumption) ?_); (try dsimp only)) | (k_here; (with_reducible show wpAny _ _ (call (Value.ref 79) [Value.bool _] _) _ _ _); k_dflt (refine' use_spec (truth_spec _ _ _ _ _) (by k_asm) (by k_asm) (by k_asm) (by k_asm) (by k_asm) (by first | exact rfl | assumption) (by ktr_room) (by ktr_units) ?_; k_whole); intro v9 h9 tk9 R9 F9 N9; obtain ⟨t9, hv9⟩ := R9; subst hv9; (try k_sweep)) | (k_here; (with_reducible show wpAny _ _ (call (Value.ref 72) [Value.bytes _ _] _) _ _ _); k_dflt (refine' use_spec (buffer_spec _ _ _ _ _ _) (by k_asm) (by k_asm) (by k_asm) (by k_asm) (by k_asm) (by first | exact rfl | assumption) (by ktr_room) (by ktr_units) ?_; k_whole); intro v9 h9 tk9 R9 F9 N9; obtain ⟨t9, hv9⟩ := R9; subst hv9; (try k_sweep)) | (k_here; (with_reducible show wpAny _ _ (subscriptTail _ _ (Value.bytes _ 272) (Value.int (Builtin.bitAnd _ 63) _)) _ _ _); (refine item_b64 ?_); intro t9 k9) | ((with_reducible show wpAny _ _ (call _ [Value.bytes _ _]) _ _ _); refine call_type_of (Tx := "bytes") rfl (by decide +kernel) ?_) | (k_end; wrow_close) | walk1 | (dsimp only; (first | ((with_reducible show wpAny _ _ (execs (_ :: _) _) _ _ _); k_here; (try k_made); (try k_gentoks); first | ((with_reducible refine gen_cons1 ?_); intro _ _) | ((with_reducible refine gen_cons2 ?_); intro _ _ _ _)) | ((with_reducible show Back _ _ _); (refine back_of (by with_reducible assumption) ?_); (try dsimp only)) | (k_here; (with_reducible show wpAny _ _ (call (Value.ref 79) [Value.bool _] _) _ _ _); k_dflt (refine' use_spec (truth_spec _ _ _ _ _) (by k_asm) (by k_asm) (by k_asm) (by k_asm) (by k_asm) (by first | exact rfl | assumption) (by ktr_room) (by ktr_units) ?_; k_whole); intro v9 h9 tk9 R9 F9 N9; obtain ⟨t9, hv9⟩ := R9; subst hv9; (try k_sweep)) | (k_here; (with_reducible show wpAny _ _ (call (Value.ref 72) [Value.bytes _ _] _) _ _ _); k_dflt (refine' use_spec (buffer_spec _ _ _ _ _ _) (by k_asm) (by k_asm) (by k_asm) (by k_asm) (by k_asm) (by first | exact rfl | assumption) (by ktr_room) (by ktr_units) ?_; k_whole); intro v9 h9 tk9 R9 F9 N9; obtain ⟨t9, hv9⟩ := R9; subst hv9; (try k_sweep)) | (k_here; (with_reducible show wpAny _ _ (subscriptTail _ _ (Value.bytes _ 272) (Value.int (Builtin.bitAnd _ 63) _)) _ _ _); (refine item_b64 ?_); intro t9 k9) | ((with_reducible show wpAny _ _ (call _ [Value.bytes _ _]) _ _ _); refine call_type_of (Tx := "bytes") rfl (by decide +kernel) ?_) | walk1)) | (leave1; walk_say "STEP leave1"; try dsimp only) | fail "no step"))
    · (repeat' (first | (k_unfold; (try dsimp only)) | ((with_reducible show wpAny _ _ (execs (_ :: _) _) _ _ _); k_here; (try k_made); (try k_gentoks); first | ((with_reducible refine gen_cons1 ?_); intro _ _) | ((with_reducible refine gen_cons2 ?_); intro _ _ _ _)) | ((with_reducible show Back _ _ _); (refine back_of (by with_reducible assumption) ?_); (try dsimp only)) | (k_here; (with_reducible show wpAny _ _ (call (Value.ref 79) [Value.bool _] _) _ _ _); k_dflt (refine' use_spec (truth_spec _ _ _ _ _) (by k_asm) (by k_asm) (by k_asm) (by k_asm) (by k_asm) (by first | exact rfl | assumption) (by ktr_room) (by ktr_units) ?_; k_whole); intro v9 h9 tk9 R9 F9 N9; obtain ⟨t9, hv9⟩ := R9; subst hv9; (try k_sweep)) | (k_here; (with_reducible show wpAny _ _ (call (Value.ref 72) [Value.bytes _ _] _) _ _ _); k_dflt (refine' use_spec (buffer_spec _ _ _ _ _ _) (by k_asm) (by k_asm) (by k_asm) (by k_asm) (by k_asm) (by first | exact rfl | assumption) (by ktr_room) (by ktr_units) ?_; k_whole); intro v9 h9 tk9 R9 F9 N9; obtain ⟨t9, hv9⟩ := R9; subst hv9; (try k_sweep)) | (k_here; (with_reducible show wpAny _ _ (subscriptTail _ _ (Value.bytes _ 272) (Value.int (Builtin.bitAnd _ 63) _)) _ _ _); (refine item_b64 ?_); intro t9 k9) | ((with_reducible show wpAny _ _ (call _ [Value.bytes _ _]) _ _ _); refine call_type_of (Tx := "bytes") rfl (by decide +kernel) ?_) | (k_end; wrow_close) | walk1 | (dsimp only; (first | ((with_reducible show wpAny _ _ (execs (_ :: _) _) _ _ _); k_here; (try k_made); (try k_gentoks); first | ((with_reducible refine gen_cons1 ?_); intro _ _) | ((with_reducible refine gen_cons2 ?_); intro _ _ _ _)) | ((with_reducible show Back _ _ _); (refine back_of (by with_reducible assumption) ?_); (try dsimp only)) | (k_here; (with_reducible show wpAny _ _ (call (Value.ref 79) [Value.bool _] _) _ _ _); k_dflt (refine' use_spec (truth_spec _ _ _ _ _) (by k_asm) (by k_asm) (by k_asm) (by k_asm) (by k_asm) (by first | exact rfl | assumption) (by ktr_room) (by ktr_units) ?_; k_whole); intro v9 h9 tk9 R9 F9 N9; obtain ⟨t9, hv9⟩ := R9; subst hv9; (try k_sweep)) | (k_here; (with_reducible show wpAny _ _ (call (Value.ref 72) [Value.bytes _ _] _) _ _ _); k_dflt (refine' use_spec (buffer_spec _ _ _ _ _ _) (by k_asm) (by k_asm) (by k_asm) (by k_asm) (by k_asm) (by first | exact rfl | assumption) (by ktr_room) (by ktr_units) ?_; k_whole); intro v9 h9 tk9 R9 F9 N9; obtain ⟨t9, hv9⟩ := R9; subst hv9; (try k_sweep)) | (k_here; (with_reducible show wpAny _ _ (subscriptTail _ _ (Value.bytes _ 272) (Value.int (Builtin.bitAnd _ 63) _)) _ _ _); (refine item_b64 ?_); intro t9 k9) | ((with_reducible show wpAny _ _ (call _ [Value.bytes _ _]) _ _ _); refine call_type_of (Tx := "bytes") rfl (by decide +kernel) ?_) | walk1)) | (leave1; walk_say "STEP leave1"; try dsimp only) | fail "no step"))
    · (repeat' (first | (k_unfold; (try dsimp only)) | ((with_reducible show wpAny _ _ (execs (_ :: _) _) _ _ _); k_here; (try k_made); (try k_gentoks); first | ((with_reducible refine gen_cons1 ?_); intro _ _) | ((with_reducible refine gen_cons2 ?_); intro _ _ _ _)) | ((with_reducible show Back _ _ _); (refine back_of (by with_reducible assumption) ?_); (try dsimp only)) | (k_here; (with_reducible show wpAny _ _ (call (Value.ref 79) [Value.bool _] _) _ _ _); k_dflt (refine' use_spec (truth_spec _ _ _ _ _) (by k_asm) (by k_asm) (by k_asm) (by k_asm) (by k_asm) (by first | exact rfl | assumption) (by ktr_room) (by ktr_units) ?_; k_whole); intro v9 h9 tk9 R9 F9 N9; obtain ⟨t9, hv9⟩ := R9; subst hv9; (try k_sweep)) | (k_here; (with_reducible show wpAny _ _ (call (Value.ref 72) [Value.bytes _ _] _) _ _ _); k_dflt (refine' use_spec (buffer_spec _ _ _ _ _ _) (by k_asm) (by k_asm) (by k_asm) (by k_asm) (by k_asm) (by first | exact rfl | assumption) (by ktr_room) (by ktr_units) ?_; k_whole); intro v9 h9 tk9 R9 F9 N9; obtain ⟨t9, hv9⟩ := R9; subst hv9; (try k_sweep)) | (k_here; (with_reducible show wpAny _ _ (subscriptTail _ _ (Value.bytes _ 272) (Value.int (Builtin.bitAnd _ 63) _)) _ _ _); (refine item_b64 ?_); intro t9 k9) | ((with_reducible show wpAny _ _ (call _ [Value.bytes _ _]) _ _ _); refine call_type_of (Tx := "bytes") rfl (by decide +kernel) ?_) | (k_end; wrow_close) | walk1 | (dsimp only; (first | ((with_reducible show wpAny _ _ (execs (_ :: _) _) _ _ _); k_here; (try k_made); (try k_gentoks); first | ((with_reducible refine gen_cons1 ?_); intro _ _) | ((with_reducible refine gen_cons2 ?_); intro _ _ _ _)) | ((with_reducible show Back _ _ _); (refine back_of (by with_reducible assumption) ?_); (try dsimp only)) | (k_here; (with_reducible show wpAny _ _ (call (Value.ref 79) [Value.bool _] _) _ _ _); k_dflt (refine' use_spec (truth_spec _ _ _ _ _) (by k_asm) (by k_asm) (by k_asm) (by k_asm) (by k_asm) (by first | exact rfl | assumption) (by ktr_room) (by ktr_units) ?_; k_whole); intro v9 h9 tk9 R9 F9 N9; obtain ⟨t9, hv9⟩ := R9; subst hv9; (try k_sweep)) | (k_here; (with_reducible show wpAny _ _ (call (Value.ref 72) [Value.bytes _ _] _) _ _ _); k_dflt (refine' use_spec (buffer_spec _ _ _ _ _ _) (by k_asm) (by k_asm) (by k_asm) (by k_asm) (by k_asm) (by first | exact rfl | assumption) (by ktr_room) (by ktr_units) ?_; k_whole); intro v9 h9 tk9 R9 F9 N9; obtain ⟨t9, hv9⟩ := R9; subst hv9; (try k_sweep)) | (k_here; (with_reducible show wpAny _ _ (subscriptTail _ _ (Value.bytes _ 272) (Value.int (Builtin.bitAnd _ 63) _)) _ _ _); (refine item_b64 ?_); intro t9 k9) | ((with_reducible show wpAny _ _ (call _ [Value.bytes _ _]) _ _ _); refine call_type_of (Tx := "bytes") rfl (by decide +kernel) ?_) | walk1)) | (leave1; walk_say "STEP leave1"; try dsimp only) | fail "no step"))
  · refine tup7 ?_
    rintro lc t1 lb t2 vs out n u h tk hE hf hp F1 N1
    have kMark := kstMark
    dsimp only [kstB, List.map, List.cons_append, List.nil_append] at hf hp F1 N1 ⊢
    have hlv := hf.length
    obtain ⟨f1, f2, f3, f4, f5⟩ := enc_facts hp
    have hkl := KBw.ints_length b
    obtain ⟨rfl, e2⟩ := enc_end hp (by rw [hkl]; exact h3)
    subst e2
    have hin : KBa.In (encL (KBw.bInts b)) := f5
    (repeat' (first | (k_unfold; (try dsimp only)) | ((with_reducible show wpAny _ _ (execs (_ :: _) _) _ _ _); k_here; (try k_made); (try k_gentoks); first | ((with_reducible refine gen_cons1 ?_); intro _ _) | ((with_reducible refine gen_cons2 ?_); intro _ _ _ _)) | ((with_reducible show Back _ _ _); (refine back_of (by with_reducible assumption) ?_); (try dsimp only)) | (k_here; (with_reducible show wpAny _ _ (call (Value.ref 79) [Value.bool _] _) _ _ _); k_dflt (refine' use_spec (truth_spec _ _ _ _ _) (by k_asm) (by k_asm) (by k_asm) (by k_asm) (by k_asm) (by first | exact rfl | assumption) (by ktr_room) (by ktr_units) ?_; k_whole); intro v9 h9 tk9 R9 F9 N9; obtain ⟨t9, hv9⟩ := R9; subst hv9; (try k_sweep)) | (k_here; (with_reducible show wpAny _ _ (call (Value.ref 72) [Value.bytes _ _] _) _ _ _); k_dflt (refine' use_spec (buffer_spec _ _ _ _ _ _) (by k_asm) (by k_asm) (by k_asm) (by k_asm) (by k_asm) (by first | exact rfl | assumption) (by ktr_room) (by ktr_units) ?_; k_whole); intro v9 h9 tk9 R9 F9 N9; obtain ⟨t9, hv9⟩ := R9; subst hv9; (try k_sweep)) | (k_here; (with_reducible show wpAny _ _ (subscriptTail _ _ (Value.bytes _ 272) (Value.int (Builtin.bitAnd _ 63) _)) _ _ _); (refine item_b64 ?_); intro t9 k9) | ((with_reducible show wpAny _ _ (call _ [Value.bytes _ _]) _ _ _); refine call_type_of (Tx := "bytes") rfl (by decide +kernel) ?_) | (k_end; wrow_close) | walk1 | (dsimp only; (first | ((with_reducible show wpAny _ _ (execs (_ :: _) _) _ _ _); k_here; (try k_made); (try k_gentoks); first | ((with_reducible refine gen_cons1 ?_); intro _ _) | ((with_reducible refine gen_cons2 ?_); intro _ _ _ _)) | ((with_reducible show Back _ _ _); (refine back_of (by with_reducible assumption) ?_); (try dsimp only)) | (k_here; (with_reducible show wpAny _ _ (call (Value.ref 79) [Value.bool _] _) _ _ _); k_dflt (refine' use_spec (truth_spec _ _ _ _ _) (by k_asm) (by k_asm) (by k_asm) (by k_asm) (by k_asm) (by first | exact rfl | assumption) (by ktr_room) (by ktr_units) ?_; k_whole); intro v9 h9 tk9 R9 F9 N9; obtain ⟨t9, hv9⟩ := R9; subst hv9; (try k_sweep)) | (k_here; (with_reducible show wpAny _ _ (call (Value.ref 72) [Value.bytes _ _] _) _ _ _); k_dflt (refine' use_spec (buffer_spec _ _ _ _ _ _) (by k_asm) (by k_asm) (by k_asm) (by k_asm) (by k_asm) (by first | exact rfl | assumption) (by ktr_room) (by ktr_units) ?_; k_whole); intro v9 h9 tk9 R9 F9 N9; obtain ⟨t9, hv9⟩ := R9; subst hv9; (try k_sweep)) | (k_here; (with_reducible show wpAny _ _ (subscriptTail _ _ (Value.bytes _ 272) (Value.int (Builtin.bitAnd _ 63) _)) _ _ _); (refine item_b64 ?_); intro t9 k9) | ((with_reducible show wpAny _ _ (call _ [Value.bytes _ _]) _ _ _); refine call_type_of (Tx := "bytes") rfl (by decide +kernel) ?_) | walk1)) | (leave1; walk_say "STEP leave1"; try dsimp only) | fail "no step"))
    exact ret_bytes (Q := Q) (s := s) hret (by assumption) rfl
end Mine
end
theorem Mine.zz37 : True := by
  k_with_none
  w_top off
  (have : True ∧ True := by
    (try walk1)
    all_goals (first | exact trivial | exact ⟨trivial, trivial⟩))
  trivial
-- T4
section
open PySem PySem.W PyProof.Rows PySem.Calls
set_option Elab.async false
set_option maxRecDepth 100000
set_option maxHeartbeats 8000000
set_option linter.unusedSimpArgs false
namespace Mine

theorem b64encode_spec (w : World) (mean : ExcName → Option Value) (mg mb : Str → Option Value) (b : Array UInt8) (t t2 : Tok) (hb : b.size ≤ 10000) (h3 : b.size % 3 = 0) : Spec w mean mg mb 110 5 30 [.bytes b t, .bytes #[38, 59] t2] [] (BytesIs (byteArr ((encL (KBw.bInts b)).map altOut))) := by
  have hl := encL_len (KBw.bInts b)
  have hl1 := KBw.ints_length b
  unfold Spec
  k_fill
  intro dp un gd cn cs a ccd cl outer A₀ base h₀ L m s Q E B F X T hk hd hu hret
  refine wpAny_call ?_
  k_dflt ((refine' enter_def ?k1 ?k2 ?k3 ?k5 ?kA ?kF ?kK ?k6 ?k7 ?k8 ?k9 ?kB ?_ ?c2 ?c3 ?c4 ?c5; (case kA => exact rfl); (case kF => exact rfl); (case kK => assumption); (case k1 => k_asm); (case k2 => k_asm); (case k3 => k_asm); (case k5 => k_asm); (case k6 => k_is); (case k7 => k_is); (case k8 => ktr_room); (case k9 => first | exact BindsTo.of_eq rfl | (refine' kp_binds ?kx ?ke; (case kx => k_in); (case ke => exact fun _ => rfl))); (case c5 => decide); (case kB => exact locs rfl); (case c2 => exact rfl); (case c3 => exact rfl); (case c4 => exact rfl); k_whole; intro L' h' F' N' B' X' T'; (try dsimp only); (try k_lift B'); (try k_fold)))
  (repeat' (first | (k_unfold; (try dsimp only)) | ((with_reducible show wpAny _ _ (execs (_ :: _) _) _ _ _); k_here; (try k_made); (try k_gentoks); first | ((with_reducible refine gen_cons1 ?_); intro _ _) | ((with_reducible refine gen_cons2 ?_); intro _ _ _ _)) | ((with_reducible show Back _ _ _); (refine back_of (by with_reducible assumption) ?_); (try dsimp only)) | (k_here; (with_reducible show wpAny _ _ (call (Value.ref 102) [Value.bytes _ _] _) _ _ _); k_dflt (refine' use_spec (b2a_spec _ _ _ _ _ _ (by assumption) (by assumption)) (by k_asm) (by k_asm) (by k_asm) (by k_asm) (by k_asm) (by first | exact rfl | assumption) (by ktr_room) (by ktr_units) ?_; k_whole); intro v9 h9 tk9 R9 F9 N9; obtain ⟨t9, hv9⟩ := R9; subst hv9; (try k_sweep)) | (k_here; (with_reducible show wpAny _ _ (call (Value.builtin "bytes.translate") [Value.bytes _ _, Value.bytes _ _]) _ _ _); (refine' call_translate (transTab_size _ _) (by (first | (simp only [byteArr_size]; omega) | omega | assumption)) ?_; k_whole); intro t9 k9) | (k_here; (with_reducible show wpAny _ _ (call (Value.builtin "bytes.maketrans") [Value.bytes _ _, Value.bytes _ _]) _ _ _); (refine call_maketrans rfl ?_); intro t9 k9) | (k_here; (with_reducible refine method_maketrans ?_)) | (k_here; (with_reducible refine method_translate ?_)) | ((with_reducible show wpAny _ _ (call _ [Value.bytes _ _]) _ _ _); refine call_type_of (Tx := "bytes") rfl (by decide +kernel) ?_) | (k_end; wrow_close) | walk1 | (dsimp only; (first | ((with_reducible show wpAny _ _ (execs (_ :: _) _) _ _ _); k_here; (try k_made); (try k_gentoks); first | ((with_reducible refine gen_cons1 ?_); intro _ _) | ((with_reducible refine gen_cons2 ?_); intro _ _ _ _)) | ((with_reducible show Back _ _ _); (refine back_of (by with_reducible assumption) ?_); (try dsimp only)) | (k_here; (with_reducible show wpAny _ _ (call (Value.ref 102) [Value.bytes _ _] _) _ _ _); k_dflt (refine' use_spec (b2a_spec _ _ _ _ _ _ (by assumption) (by assumption)) (by k_asm) (by k_asm) (by k_asm) (by k_asm) (by k_asm) (by first | exact rfl | assumption) (by ktr_room) (by ktr_units) ?_; k_whole); intro v9 h9 tk9 R9 F9 N9; obtain ⟨t9, hv9⟩ := R9; subst hv9; (try k_sweep)) | (k_here; (with_reducible show wpAny _ _ (call (Value.builtin "bytes.translate") [Value.bytes _ _, Value.bytes _ _]) _ _ _); (refine' call_translate (transTab_size _ _) (by (first | (simp only [byteArr_size]; omega) | omega | assumption)) ?_; k_whole); intro t9 k9) | (k_here; (with_reducible show wpAny _ _ (call (Value.builtin "bytes.maketrans") [Value.bytes _ _, Value.bytes _ _]) _ _ _); (refine call_maketrans rfl ?_); intro t9 k9) | (k_here; (with_reducible refine method_maketrans ?_)) | (k_here; (with_reducible refine method_translate ?_)) | ((with_reducible show wpAny _ _ (call _ [Value.bytes _ _]) _ _ _); refine call_type_of (Tx := "bytes") rfl (by decide +kernel) ?_) | walk1)) | (leave1; walk_say "STEP leave1"; try dsimp only) | fail "no step"))
  exact ret_bytes (Q := Q) (s := s) hret (by assumption) (translate_byteArr altOut_tab _ hl.2)
end Mine
end
theorem Mine.zz38 : True := by
  k_with_none
  w_top off
  (have : True ∧ True := by
    (try walk1)
    all_goals (first | exact trivial | exact ⟨trivial, trivial⟩))
  trivial
-- T5
section
open PySem PySem.W PyProof.Rows PySem.Calls
set_option Elab.async false
set_option maxRecDepth 100000
set_option maxHeartbeats 8000000
set_option linter.unusedSimpArgs false
namespace Mine

theorem ascii_buffer_spec (w : World) (mean : ExcName → Option Value) (mg mb : Str → Option Value) (b : Array UInt8) (t : Tok) : Spec w mean mg mb 65 1 8 [.bytes b t] [] (BytesIs b) := by
  unfold Spec
  k_fill
  intro dp un gd cn cs a ccd cl outer A₀ base h₀ L m s Q E B F X T hk hd hu hret
  refine wpAny_call ?_
  k_dflt ((refine' enter_def ?k1 ?k2 ?k3 ?k5 ?kA ?kF ?kK ?k6 ?k7 ?k8 ?k9 ?kB ?_ ?c2 ?c3 ?c4 ?c5; (case kA => exact rfl); (case kF => exact rfl); (case kK => assumption); (case k1 => k_asm); (case k2 => k_asm); (case k3 => k_asm); (case k5 => k_asm); (case k6 => k_is); (case k7 => k_is); (case k8 => ktr_room); (case k9 => first | exact BindsTo.of_eq rfl | (refine' kp_binds ?kx ?ke; (case kx => k_in); (case ke => exact fun _ => rfl))); (case c5 => decide); (case kB => exact locs rfl); (case c2 => exact rfl); (case c3 => exact rfl); (case c4 => exact rfl); k_whole; intro L' h' F' N' B' X' T'; (try dsimp only); (try k_lift B'); (try k_fold)))
  (repeat' (first | (k_unfold; (try dsimp only)) | ((with_reducible show wpAny _ _ (execs (_ :: _) _) _ _ _); k_here; (try k_made); (try k_gentoks); first | ((with_reducible refine gen_cons1 ?_); intro _ _) | ((with_reducible refine gen_cons2 ?_); intro _ _ _ _)) | ((with_reducible show Back _ _ _); (refine back_of (by with_reducible assumption) ?_); (try dsimp only)) | (k_here; (with_reducible show wpAny _ _ (call (Value.ref 65) [Value.bytes _ _] _) _ _ _); k_dflt (refine' use_spec (ascii_buffer_spec _ _ _ _ _ _) (by k_asm) (by k_asm) (by k_asm) (by k_asm) (by k_asm) (by first | exact rfl | assumption) (by ktr_room) (by ktr_units) ?_; k_whole); intro v9 h9 tk9 R9 F9 N9; obtain ⟨t9, hv9⟩ := R9; subst hv9; (try k_sweep)) | (k_here; (with_reducible show wpAny _ _ (call (Value.ref 86) [Value.int _ _] _) _ _ _); k_dflt (refine' use_spec (b64_value_spec _ _ _ _ _ _) (by k_asm) (by k_asm) (by k_asm) (by k_asm) (by k_asm) (by first | exact rfl | assumption) (by ktr_room) (by ktr_units) ?_; k_whole); intro v9 h9 tk9 R9 F9 N9; obtain ⟨t9, hv9⟩ := R9; subst hv9; (try k_sweep)) | (k_here; (with_reducible show wpAny _ _ (call (Value.ref 79) [Value.bool _] _) _ _ _); k_dflt (refine' use_spec (truth_spec _ _ _ _ _) (by k_asm) (by k_asm) (by k_asm) (by k_asm) (by k_asm) (by first | exact rfl | assumption) (by ktr_room) (by ktr_units) ?_; k_whole); intro v9 h9 tk9 R9 F9 N9; obtain ⟨t9, hv9⟩ := R9; subst hv9; (try k_sweep)) | ((with_reducible show wpAny _ _ (compareOp CmpOp.Eq (Value.int _ _) (Value.int 61 _)) _ _ _); refine eq_int_ne (by assumption) ?_) | ((with_reducible show wpAny _ _ (call _ [Value.bytes _ _]) _ _ _); refine call_type_of (Tx := "bytes") rfl (by decide +kernel) ?_) | (k_end; wrow_close) | walk1 | (dsimp only; (first | ((with_reducible show wpAny _ _ (execs (_ :: _) _) _ _ _); k_here; (try k_made); (try k_gentoks); first | ((with_reducible refine gen_cons1 ?_); intro _ _) | ((with_reducible refine gen_cons2 ?_); intro _ _ _ _)) | ((with_reducible show Back _ _ _); (refine back_of (by with_reducible assumption) ?_); (try dsimp only)) | (k_here; (with_reducible show wpAny _ _ (call (Value.ref 65) [Value.bytes _ _] _) _ _ _); k_dflt (refine' use_spec (ascii_buffer_spec _ _ _ _ _ _) (by k_asm) (by k_asm) (by k_asm) (by k_asm) (by k_asm) (by first | exact rfl | assumption) (by ktr_room) (by ktr_units) ?_; k_whole); intro v9 h9 tk9 R9 F9 N9; obtain ⟨t9, hv9⟩ := R9; subst hv9; (try k_sweep)) | (k_here; (with_reducible show wpAny _ _ (call (Value.ref 86) [Value.int _ _] _) _ _ _); k_dflt (refine' use_spec (b64_value_spec _ _ _ _ _ _) (by k_asm) (by k_asm) (by k_asm) (by k_asm) (by k_asm) (by first | exact rfl | assumption) (by ktr_room) (by ktr_units) ?_; k_whole); intro v9 h9 tk9 R9 F9 N9; obtain ⟨t9, hv9⟩ := R9; subst hv9; (try k_sweep)) | (k_here; (with_reducible show wpAny _ _ (call (Value.ref 79) [Value.bool _] _) _ _ _); k_dflt (refine' use_spec (truth_spec _ _ _ _ _) (by k_asm) (by k_asm) (by k_asm) (by k_asm) (by k_asm) (by first | exact rfl | assumption) (by ktr_room) (by ktr_units) ?_; k_whole); intro v9 h9 tk9 R9 F9 N9; obtain ⟨t9, hv9⟩ := R9; subst hv9; (try k_sweep)) | ((with_reducible show wpAny _ _ (compareOp CmpOp.Eq (Value.int _ _) (Value.int 61 _)) _ _ _); refine eq_int_ne (by assumption) ?_) | ((with_reducible show wpAny _ _ (call _ [Value.bytes _ _]) _ _ _); refine call_type_of (Tx := "bytes") rfl (by decide +kernel) ?_) | walk1)) | (leave1; walk_say "STEP leave1"; try dsimp only) | fail "no step"))
  all_goals (refine ret_bytes (Q := Q) (s := s) hret (by assumption) rfl)

theorem a2b_spec (w : World) (mean : ExcName → Option Value) (mg mb : Str → Option Value) (b : Array UInt8) (t : Tok) (hb : b.size ≤ 10000) (h4 : b.size % 4 = 0) (hal : ∀ c ∈ KBw.bInts b, IsB64 c) : Spec w mean mg mb 94 4 20 [.bytes b t] [(Str.ofString "strict_mode", .bool true)] (BytesIs (byteArr (octL ((KBw.bInts b).map b64v)))) := by
  k_with "state" => (refine ⟨?_, by rw [hi]; simp⟩; first | exact dec_e0 hp | exact dec_e1 hp f2 k0 k1 | exact dec_e2 hp f2 k0 k1 | exact dec_e3 hp f2 k0 k1)
  unfold Spec
  k_fill
  intro dp un gd cn cs a ccd cl outer A₀ base h₀ L m s Q E B F X T hk hd hu hret
  refine wpAny_call ?_
  k_dflt ((refine' enter_def ?k1 ?k2 ?k3 ?k5 ?kA ?kF ?kK ?k6 ?k7 ?k8 ?k9 ?kB ?_ ?c2 ?c3 ?c4 ?c5; (case kA => exact rfl); (case kF => exact rfl); (case kK => assumption); (case k1 => k_asm); (case k2 => k_asm); (case k3 => k_asm); (case k5 => k_asm); (case k6 => k_is); (case k7 => k_is); (case k8 => ktr_room); (case k9 => first | exact BindsTo.of_eq rfl | (refine' kp_binds ?kx ?ke; (case kx => k_in); (case ke => exact fun _ => rfl))); (case c5 => decide); (case kB => exact locs rfl); (case c2 => exact rfl); (case c3 => exact rfl); (case c4 => exact rfl); k_whole; intro L' h' F' N' B' X' T'; (try dsimp only); (try k_lift B'); (try k_fold)))
  (repeat' (first | (k_unfold; (try dsimp only)) | ((with_reducible show wpAny _ _ (execs (_ :: _) _) _ _ _); k_here; (try k_made); (try k_gentoks); first | ((with_reducible refine gen_cons1 ?_); intro _ _) | ((with_reducible refine gen_cons2 ?_); intro _ _ _ _)) | ((with_reducible show Back _ _ _); (refine back_of (by with_reducible assumption) ?_); (try dsimp only)) | (k_here; (with_reducible show wpAny _ _ (call (Value.ref 65) [Value.bytes _ _] _) _ _ _); k_dflt (refine' use_spec (ascii_buffer_spec _ _ _ _ _ _) (by k_asm) (by k_asm) (by k_asm) (by k_asm) (by k_asm) (by first | exact rfl | assumption) (by ktr_room) (by ktr_units) ?_; k_whole); intro v9 h9 tk9 R9 F9 N9; obtain ⟨t9, hv9⟩ := R9; subst hv9; (try k_sweep)) | (k_here; (with_reducible show wpAny _ _ (call (Value.ref 86) [Value.int _ _] _) _ _ _); k_dflt (refine' use_spec (b64_value_spec _ _ _ _ _ _) (by k_asm) (by k_asm) (by k_asm) (by k_asm) (by k_asm) (by first | exact rfl | assumption) (by ktr_room) (by ktr_units) ?_; k_whole); intro v9 h9 tk9 R9 F9 N9; obtain ⟨t9, hv9⟩ := R9; subst hv9; (try k_sweep)) | (k_here; (with_reducible show wpAny _ _ (call (Value.ref 79) [Value.bool _] _) _ _ _); k_dflt (refine' use_spec (truth_spec _ _ _ _ _) (by k_asm) (by k_asm) (by k_asm) (by k_asm) (by k_asm) (by first | exact rfl | assumption) (by ktr_room) (by ktr_units) ?_; k_whole); intro v9 h9 tk9 R9 F9 N9; obtain ⟨t9, hv9⟩ := R9; subst hv9; (try k_sweep)) | ((with_reducible show wpAny _ _ (compareOp CmpOp.Eq (Value.int _ _) (Value.int 61 _)) _ _ _); refine eq_int_ne (by assumption) ?_) | ((with_reducible show wpAny _ _ (call _ [Value.bytes _ _]) _ _ _); refine call_type_of (Tx := "bytes") rfl (by decide +kernel) ?_) | (k_end; wrow_close) | walk1 | (dsimp only; (first | ((with_reducible show wpAny _ _ (execs (_ :: _) _) _ _ _); k_here; (try k_made); (try k_gentoks); first | ((with_reducible refine gen_cons1 ?_); intro _ _) | ((with_reducible refine gen_cons2 ?_); intro _ _ _ _)) | ((with_reducible show Back _ _ _); (refine back_of (by with_reducible assumption) ?_); (try dsimp only)) | (k_here; (with_reducible show wpAny _ _ (call (Value.ref 65) [Value.bytes _ _] _) _ _ _); k_dflt (refine' use_spec (ascii_buffer_spec _ _ _ _ _ _) (by k_asm) (by k_asm) (by k_asm) (by k_asm) (by k_asm) (by first | exact rfl | assumption) (by ktr_room) (by ktr_units) ?_; k_whole); intro v9 h9 tk9 R9 F9 N9; obtain ⟨t9, hv9⟩ := R9; subst hv9; (try k_sweep)) | (k_here; (with_reducible show wpAny _ _ (call (Value.ref 86) [Value.int _ _] _) _ _ _); k_dflt (refine' use_spec (b64_value_spec _ _ _ _ _ _) (by k_asm) (by k_asm) (by k_asm) (by k_asm) (by k_asm) (by first | exact rfl | assumption) (by ktr_room) (by ktr_units) ?_; k_whole); intro v9 h9 tk9 R9 F9 N9; obtain ⟨t9, hv9⟩ := R9; subst hv9; (try k_sweep)) | (k_here; (with_reducible show wpAny _ _ (call (Value.ref 79) [Value.bool _] _) _ _ _); k_dflt (refine' use_spec (truth_spec _ _ _ _ _) (by k_asm) (by k_asm) (by k_asm) (by k_asm) (by k_asm) (by first | exact rfl | assumption) (by ktr_room) (by ktr_units) ?_; k_whole); intro v9 h9 tk9 R9 F9 N9; obtain ⟨t9, hv9⟩ := R9; subst hv9; (try k_sweep)) | ((with_reducible show wpAny _ _ (compareOp CmpOp.Eq (Value.int _ _) (Value.int 61 _)) _ _ _); refine eq_int_ne (by assumption) ?_) | ((with_reducible show wpAny _ _ (call _ [Value.bytes _ _]) _ _ _); refine call_type_of (Tx := "bytes") rfl (by decide +kernel) ?_) | walk1)) | (leave1; walk_say "STEP leave1"; try dsimp only) | fail "no step"))
  refine' KStb.kst_bytes (σ := Int × Tok × Int × Tok × Tok × Int × Tok × List Value × List Int × Nat) (fun c => [(_, listOf c.2.2.2.2.2.2.2.1.toArray c.2.2.2.2.2.2.2.2.2)]) (fun c => [(Str.ofString "quad_pos", Value.int c.1 c.2.1), (Str.ofString "leftchar", Value.int c.2.2.1 c.2.2.2.1), (Str.ofString "pads", Value.int 0 c.2.2.2.2.1), (Str.ofString "i", Value.int c.2.2.2.2.2.1 c.2.2.2.2.2.2.1)]) (fun c => IntsAre c.2.2.2.2.2.2.2.1 c.2.2.2.2.2.2.2.2.1) [] (fun pre c => DecInv pre c.1 c.2.2.1 c.2.2.2.2.2.2.2.2.1 ∧ c.2.2.2.2.2.1 = (pre.length : Int)) ⟨0, _, 0, _, _, 0, _, [], [], 0⟩ rfl (KBw.ints_length b) rfl (by k_asm) ?kn ?kf ?kk ?kp ?_ ?_
  (case kn => k_asm)
  (case kf => exact .nil)
  (case kk => kst_all)
  (case kp => exact ⟨dec_start, rfl⟩)
  · refine tup10 ?_
    rintro q t1 lc t2 t3 i t4 vs out n pre post k tt u h tk own hE hlt h0 h255 hoff hf ⟨hp, hi⟩ F1 N1
    have kMark := kstMark
    dsimp only [kstB, List.map, List.cons_append, List.nil_append] at hf hp hi F1 N1 hoff ⊢
    have hlv := hf.length
    have hpre : ∀ c ∈ pre, IsB64 c := fun c hc => hal c (by rw [hE]; exact List.mem_append_left _ hc)
    obtain ⟨kn, k0, k1⟩ := isB64_facts (hal k (by rw [hE]; simp))
    obtain ⟨f1, f2, f3, f4, f5, f6, f7⟩ := dec_facts hp hpre
    (repeat' ((fail_if_success (with_reducible show wpAny _ _ (exec (Stmt.If (PySem.Expr.Compare (PySem.Expr.Name _ _) [CmpOp.Eq] [PySem.Expr.Constant (Const.int 0) _ _] _) _ _ _) _) _ _ _)); (first | (k_unfold; (try dsimp only)) | (first | ((with_reducible show wpAny _ _ (execs (_ :: _) _) _ _ _); k_here; (try k_made); (try k_gentoks); first | ((with_reducible refine gen_cons1 ?_); intro _ _) | ((with_reducible refine gen_cons2 ?_); intro _ _ _ _)) | ((with_reducible show Back _ _ _); (refine back_of (by with_reducible assumption) ?_); (try dsimp only)) | (k_here; (with_reducible show wpAny _ _ (call (Value.ref 65) [Value.bytes _ _] _) _ _ _); k_dflt (refine' use_spec (ascii_buffer_spec _ _ _ _ _ _) (by k_asm) (by k_asm) (by k_asm) (by k_asm) (by k_asm) (by first | exact rfl | assumption) (by ktr_room) (by ktr_units) ?_; k_whole); intro v9 h9 tk9 R9 F9 N9; obtain ⟨t9, hv9⟩ := R9; subst hv9; (try k_sweep)) | (k_here; (with_reducible show wpAny _ _ (call (Value.ref 86) [Value.int _ _] _) _ _ _); k_dflt (refine' use_spec (b64_value_spec _ _ _ _ _ _) (by k_asm) (by k_asm) (by k_asm) (by k_asm) (by k_asm) (by first | exact rfl | assumption) (by ktr_room) (by ktr_units) ?_; k_whole); intro v9 h9 tk9 R9 F9 N9; obtain ⟨t9, hv9⟩ := R9; subst hv9; (try k_sweep)) | (k_here; (with_reducible show wpAny _ _ (call (Value.ref 79) [Value.bool _] _) _ _ _); k_dflt (refine' use_spec (truth_spec _ _ _ _ _) (by k_asm) (by k_asm) (by k_asm) (by k_asm) (by k_asm) (by first | exact rfl | assumption) (by ktr_room) (by ktr_units) ?_; k_whole); intro v9 h9 tk9 R9 F9 N9; obtain ⟨t9, hv9⟩ := R9; subst hv9; (try k_sweep)) | ((with_reducible show wpAny _ _ (compareOp CmpOp.Eq (Value.int _ _) (Value.int 61 _)) _ _ _); refine eq_int_ne (by assumption) ?_) | ((with_reducible show wpAny _ _ (call _ [Value.bytes _ _]) _ _ _); refine call_type_of (Tx := "bytes") rfl (by decide +kernel) ?_) | walk1) | (dsimp only; (first | ((with_reducible show wpAny _ _ (execs (_ :: _) _) _ _ _); k_here; (try k_made); (try k_gentoks); first | ((with_reducible refine gen_cons1 ?_); intro _ _) | ((with_reducible refine gen_cons2 ?_); intro _ _ _ _)) | ((with_reducible show Back _ _ _); (refine back_of (by with_reducible assumption) ?_); (try dsimp only)) | (k_here; (with_reducible show wpAny _ _ (call (Value.ref 65) [Value.bytes _ _] _) _ _ _); k_dflt (refine' use_spec (ascii_buffer_spec _ _ _ _ _ _) (by k_asm) (by k_asm) (by k_asm) (by k_asm) (by k_asm) (by first | exact rfl | assumption) (by ktr_room) (by ktr_units) ?_; k_whole); intro v9 h9 tk9 R9 F9 N9; obtain ⟨t9, hv9⟩ := R9; subst hv9; (try k_sweep)) | (k_here; (with_reducible show wpAny _ _ (call (Value.ref 86) [Value.int _ _] _) _ _ _); k_dflt (refine' use_spec (b64_value_spec _ _ _ _ _ _) (by k_asm) (by k_asm) (by k_asm) (by k_asm) (by k_asm) (by first | exact rfl | assumption) (by ktr_room) (by ktr_units) ?_; k_whole); intro v9 h9 tk9 R9 F9 N9; obtain ⟨t9, hv9⟩ := R9; subst hv9; (try k_sweep)) | (k_here; (with_reducible show wpAny _ _ (call (Value.ref 79) [Value.bool _] _) _ _ _); k_dflt (refine' use_spec (truth_spec _ _ _ _ _) (by k_asm) (by k_asm) (by k_asm) (by k_asm) (by k_asm) (by first | exact rfl | assumption) (by ktr_room) (by ktr_units) ?_; k_whole); intro v9 h9 tk9 R9 F9 N9; obtain ⟨t9, hv9⟩ := R9; subst hv9; (try k_sweep)) | ((with_reducible show wpAny _ _ (compareOp CmpOp.Eq (Value.int _ _) (Value.int 61 _)) _ _ _); refine eq_int_ne (by assumption) ?_) | ((with_reducible show wpAny _ _ (call _ [Value.bytes _ _]) _ _ _); refine call_type_of (Tx := "bytes") rfl (by decide +kernel) ?_) | walk1)) | (leave1; walk_say "STEP leave1"; try dsimp only))))
    all_goals (rcases f1 with rfl | rfl | rfl | rfl)
    all_goals ((repeat' (first | (k_unfold; (try dsimp only)) | ((with_reducible show wpAny _ _ (execs (_ :: _) _) _ _ _); k_here; (try k_made); (try k_gentoks); first | ((with_reducible refine gen_cons1 ?_); intro _ _) | ((with_reducible refine gen_cons2 ?_); intro _ _ _ _)) | ((with_reducible show Back _ _ _); (refine back_of (by with_reducible assumption) ?_); (try dsimp only)) | (k_here; (with_reducible show wpAny _ _ (call (Value.ref 65) [Value.bytes _ _] _) _ _ _); k_dflt (refine' use_spec (ascii_buffer_spec _ _ _ _ _ _) (by k_asm) (by k_asm) (by k_asm) (by k_asm) (by k_asm) (by first | exact rfl | assumption) (by ktr_room) (by ktr_units) ?_; k_whole); intro v9 h9 tk9 R9 F9 N9; obtain ⟨t9, hv9⟩ := R9; subst hv9; (try k_sweep)) | (k_here; (with_reducible show wpAny _ _ (call (Value.ref 86) [Value.int _ _] _) _ _ _); k_dflt (refine' use_spec (b64_value_spec _ _ _ _ _ _) (by k_asm) (by k_asm) (by k_asm) (by k_asm) (by k_asm) (by first | exact rfl | assumption) (by ktr_room) (by ktr_units) ?_; k_whole); intro v9 h9 tk9 R9 F9 N9; obtain ⟨t9, hv9⟩ := R9; subst hv9; (try k_sweep)) | (k_here; (with_reducible show wpAny _ _ (call (Value.ref 79) [Value.bool _] _) _ _ _); k_dflt (refine' use_spec (truth_spec _ _ _ _ _) (by k_asm) (by k_asm) (by k_asm) (by k_asm) (by k_asm) (by first | exact rfl | assumption) (by ktr_room) (by ktr_units) ?_; k_whole); intro v9 h9 tk9 R9 F9 N9; obtain ⟨t9, hv9⟩ := R9; subst hv9; (try k_sweep)) | ((with_reducible show wpAny _ _ (compareOp CmpOp.Eq (Value.int _ _) (Value.int 61 _)) _ _ _); refine eq_int_ne (by assumption) ?_) | ((with_reducible show wpAny _ _ (call _ [Value.bytes _ _]) _ _ _); refine call_type_of (Tx := "bytes") rfl (by decide +kernel) ?_) | (k_end; wrow_close) | walk1 | (dsimp only; (first | ((with_reducible show wpAny _ _ (execs (_ :: _) _) _ _ _); k_here; (try k_made); (try k_gentoks); first | ((with_reducible refine gen_cons1 ?_); intro _ _) | ((with_reducible refine gen_cons2 ?_); intro _ _ _ _)) | ((with_reducible show Back _ _ _); (refine back_of (by with_reducible assumption) ?_); (try dsimp only)) | (k_here; (with_reducible show wpAny _ _ (call (Value.ref 65) [Value.bytes _ _] _) _ _ _); k_dflt (refine' use_spec (ascii_buffer_spec _ _ _ _ _ _) (by k_asm) (by k_asm) (by k_asm) (by k_asm) (by k_asm) (by first | exact rfl | assumption) (by ktr_room) (by ktr_units) ?_; k_whole); intro v9 h9 tk9 R9 F9 N9; obtain ⟨t9, hv9⟩ := R9; subst hv9; (try k_sweep)) | (k_here; (with_reducible show wpAny _ _ (call (Value.ref 86) [Value.int _ _] _) _ _ _); k_dflt (refine' use_spec (b64_value_spec _ _ _ _ _ _) (by k_asm) (by k_asm) (by k_asm) (by k_asm) (by k_asm) (by first | exact rfl | assumption) (by ktr_room) (by ktr_units) ?_; k_whole); intro v9 h9 tk9 R9 F9 N9; obtain ⟨t9, hv9⟩ := R9; subst hv9; (try k_sweep)) | (k_here; (with_reducible show wpAny _ _ (call (Value.ref 79) [Value.bool _] _) _ _ _); k_dflt (refine' use_spec (truth_spec _ _ _ _ _) (by k_asm) (by k_asm) (by k_asm) (by k_asm) (by k_asm) (by first | exact rfl | assumption) (by ktr_room) (by ktr_units) ?_; k_whole); intro v9 h9 tk9 R9 F9 N9; obtain ⟨t9, hv9⟩ := R9; subst hv9; (try k_sweep)) | ((with_reducible show wpAny _ _ (compareOp CmpOp.Eq (Value.int _ _) (Value.int 61 _)) _ _ _); refine eq_int_ne (by assumption) ?_) | ((with_reducible show wpAny _ _ (call _ [Value.bytes _ _]) _ _ _); refine call_type_of (Tx := "bytes") rfl (by decide +kernel) ?_) | walk1)) | (leave1; walk_say "STEP leave1"; try dsimp only) | fail "no step")))
  · refine tup10 ?_
    rintro q t1 lc t2 t3 i t4 vs out n u h tk hE hf ⟨hp, hi⟩ F1 N1
    have kMark := kstMark
    dsimp only [kstB, List.map, List.cons_append, List.nil_append] at hf hp hi F1 N1 ⊢
    have hlv := hf.length
    obtain ⟨f1, f2, f3, f4, f5, f6, f7⟩ := dec_facts hp hal
    have hkl := KBw.ints_length b
    obtain ⟨rfl, e2⟩ := dec_end hp (by rw [hkl]; exact h4)
    subst e2
    have hin : KBa.In (octL ((KBw.bInts b).map b64v)) := f7
    (repeat' (first | (k_unfold; (try dsimp only)) | ((with_reducible show wpAny _ _ (execs (_ :: _) _) _ _ _); k_here; (try k_made); (try k_gentoks); first | ((with_reducible refine gen_cons1 ?_); intro _ _) | ((with_reducible refine gen_cons2 ?_); intro _ _ _ _)) | ((with_reducible show Back _ _ _); (refine back_of (by with_reducible assumption) ?_); (try dsimp only)) | (k_here; (with_reducible show wpAny _ _ (call (Value.ref 65) [Value.bytes _ _] _) _ _ _); k_dflt (refine' use_spec (ascii_buffer_spec _ _ _ _ _ _) (by k_asm) (by k_asm) (by k_asm) (by k_asm) (by k_asm) (by first | exact rfl | assumption) (by ktr_room) (by ktr_units) ?_; k_whole); intro v9 h9 tk9 R9 F9 N9; obtain ⟨t9, hv9⟩ := R9; subst hv9; (try k_sweep)) | (k_here; (with_reducible show wpAny _ _ (call (Value.ref 86) [Value.int _ _] _) _ _ _); k_dflt (refine' use_spec (b64_value_spec _ _ _ _ _ _) (by k_asm) (by k_asm) (by k_asm) (by k_asm) (by k_asm) (by first | exact rfl | assumption) (by ktr_room) (by ktr_units) ?_; k_whole); intro v9 h9 tk9 R9 F9 N9; obtain ⟨t9, hv9⟩ := R9; subst hv9; (try k_sweep)) | (k_here; (with_reducible show wpAny _ _ (call (Value.ref 79) [Value.bool _] _) _ _ _); k_dflt (refine' use_spec (truth_spec _ _ _ _ _) (by k_asm) (by k_asm) (by k_asm) (by k_asm) (by k_asm) (by first | exact rfl | assumption) (by ktr_room) (by ktr_units) ?_; k_whole); intro v9 h9 tk9 R9 F9 N9; obtain ⟨t9, hv9⟩ := R9; subst hv9; (try k_sweep)) | ((with_reducible show wpAny _ _ (compareOp CmpOp.Eq (Value.int _ _) (Value.int 61 _)) _ _ _); refine eq_int_ne (by assumption) ?_) | ((with_reducible show wpAny _ _ (call _ [Value.bytes _ _]) _ _ _); refine call_type_of (Tx := "bytes") rfl (by decide +kernel) ?_) | (k_end; wrow_close) | walk1 | (dsimp only; (first | ((with_reducible show wpAny _ _ (execs (_ :: _) _) _ _ _); k_here; (try k_made); (try k_gentoks); first | ((with_reducible refine gen_cons1 ?_); intro _ _) | ((with_reducible refine gen_cons2 ?_); intro _ _ _ _)) | ((with_reducible show Back _ _ _); (refine back_of (by with_reducible assumption) ?_); (try dsimp only)) | (k_here; (with_reducible show wpAny _ _ (call (Value.ref 65) [Value.bytes _ _] _) _ _ _); k_dflt (refine' use_spec (ascii_buffer_spec _ _ _ _ _ _) (by k_asm) (by k_asm) (by k_asm) (by k_asm) (by k_asm) (by first | exact rfl | assumption) (by ktr_room) (by ktr_units) ?_; k_whole); intro v9 h9 tk9 R9 F9 N9; obtain ⟨t9, hv9⟩ := R9; subst hv9; (try k_sweep)) | (k_here; (with_reducible show wpAny _ _ (call (Value.ref 86) [Value.int _ _] _) _ _ _); k_dflt (refine' use_spec (b64_value_spec _ _ _ _ _ _) (by k_asm) (by k_asm) (by k_asm) (by k_asm) (by k_asm) (by first | exact rfl | assumption) (by ktr_room) (by ktr_units) ?_; k_whole); intro v9 h9 tk9 R9 F9 N9; obtain ⟨t9, hv9⟩ := R9; subst hv9; (try k_sweep)) | (k_here; (with_reducible show wpAny _ _ (call (Value.ref 79) [Value.bool _] _) _ _ _); k_dflt (refine' use_spec (truth_spec _ _ _ _ _) (by k_asm) (by k_asm) (by k_asm) (by k_asm) (by k_asm) (by first | exact rfl | assumption) (by ktr_room) (by ktr_units) ?_; k_whole); intro v9 h9 tk9 R9 F9 N9; obtain ⟨t9, hv9⟩ := R9; subst hv9; (try k_sweep)) | ((with_reducible show wpAny _ _ (compareOp CmpOp.Eq (Value.int _ _) (Value.int 61 _)) _ _ _); refine eq_int_ne (by assumption) ?_) | ((with_reducible show wpAny _ _ (call _ [Value.bytes _ _]) _ _ _); refine call_type_of (Tx := "bytes") rfl (by decide +kernel) ?_) | walk1)) | (leave1; walk_say "STEP leave1"; try dsimp only) | fail "no step"))
    exact ret_bytes (Q := Q) (s := s) hret (by assumption) rfl
end Mine
end
theorem Mine.zz39 : True := by
  k_with_none
  w_top off
  (have : True ∧ True := by
    (try walk1)
    all_goals (first | exact trivial | exact ⟨trivial, trivial⟩))
  trivial
-- T6
section
open PySem PySem.W PyProof.Rows PySem.Calls
set_option Elab.async false
set_option maxRecDepth 100000
set_option maxHeartbeats 8000000
set_option linter.unusedSimpArgs false
namespace Mine

theorem bfdd_bytes_spec (w : World) (mean : ExcName → Option Value) (mg mb : Str → Option Value) (b : Array UInt8) (t : Tok) : Spec w mean mg mb 45 1 8 [.bytes b t] [] (BytesIs b) := by
  unfold Spec
  k_fill
  intro dp un gd cn cs a ccd cl outer A₀ base h₀ L m s Q E B F X T hk hd hu hret
  refine wpAny_call ?_
  k_dflt ((refine' enter_def ?k1 ?k2 ?k3 ?k5 ?kA ?kF ?kK ?k6 ?k7 ?k8 ?k9 ?kB ?_ ?c2 ?c3 ?c4 ?c5; (case kA => exact rfl); (case kF => exact rfl); (case kK => assumption); (case k1 => k_asm); (case k2 => k_asm); (case k3 => k_asm); (case k5 => k_asm); (case k6 => k_is); (case k7 => k_is); (case k8 => ktr_room); (case k9 => first | exact BindsTo.of_eq rfl | (refine' kp_binds ?kx ?ke; (case kx => k_in); (case ke => exact fun _ => rfl))); (case c5 => decide); (case kB => exact locs rfl); (case c2 => exact rfl); (case c3 => exact rfl); (case c4 => exact rfl); k_whole; intro L' h' F' N' B' X' T'; (try dsimp only); (try k_lift B'); (try k_fold)))
  (repeat' (first | (k_unfold; (try dsimp only)) | ((with_reducible show wpAny _ _ (execs (_ :: _) _) _ _ _); k_here; (try k_made); (try k_gentoks); first | ((with_reducible refine gen_cons1 ?_); intro _ _) | ((with_reducible refine gen_cons2 ?_); intro _ _ _ _)) | ((with_reducible show Back _ _ _); (refine back_of (by with_reducible assumption) ?_); (try dsimp only)) | (k_here; (with_reducible show wpAny _ _ (call (Value.ref 94) [Value.bytes _ _] _) _ _ _); k_dflt (refine' use_spec (a2b_spec _ _ _ _ _ _ (by assumption) (by assumption) (by assumption)) (by k_asm) (by k_asm) (by k_asm) (by k_asm) (by k_asm) (by first | exact rfl | assumption) (by ktr_room) (by ktr_units) ?_; k_whole); intro v9 h9 tk9 R9 F9 N9; obtain ⟨t9, hv9⟩ := R9; subst hv9; (try k_sweep)) | (k_here; (with_reducible show wpAny _ _ (call (Value.ref 45) [Value.str (strArr _) _] _) _ _ _); k_dflt (refine' use_spec (bfdd_str_spec _ _ _ _ _ _ (by assumption) (by assumption)) (by k_asm) (by k_asm) (by k_asm) (by k_asm) (by k_asm) (by first | exact rfl | assumption) (by ktr_room) (by ktr_units) ?_; k_whole); intro v9 h9 tk9 R9 F9 N9; obtain ⟨t9, hv9⟩ := R9; subst hv9; (try k_sweep)) | (k_here; (with_reducible show wpAny _ _ (call (Value.ref 45) [Value.bytes _ _] _) _ _ _); k_dflt (refine' use_spec (bfdd_bytes_spec _ _ _ _ _ _) (by k_asm) (by k_asm) (by k_asm) (by k_asm) (by k_asm) (by first | exact rfl | assumption) (by ktr_room) (by ktr_units) ?_; k_whole); intro v9 h9 tk9 R9 F9 N9; obtain ⟨t9, hv9⟩ := R9; subst hv9; (try k_sweep)) | (k_here; (with_reducible show wpAny _ _ (call (Value.builtin "bytes.translate") [Value.bytes _ _, Value.bytes _ _]) _ _ _); (refine' call_translate (transTab_size _ _) (by (first | (simp only [byteArr_size]; omega) | omega | assumption)) ?_; k_whole); intro t9 k9) | (k_here; (with_reducible show wpAny _ _ (call (Value.builtin "bytes.maketrans") [Value.bytes _ _, Value.bytes _ _]) _ _ _); (refine call_maketrans rfl ?_); intro t9 k9) | (k_here; (with_reducible refine method_maketrans ?_)) | (k_here; (with_reducible refine method_translate ?_)) | (k_here; (with_reducible show wpAny _ _ (call (Value.builtin "str.encode") [Value.str (strArr _) _, Value.str _ _]) _ _ _); (refine call_encode_ascii (by assumption) (by assumption) ?_); intro t9 k9) | (k_here; (with_reducible refine method_encode ?_)) | ((with_reducible show wpAny _ _ (call _ [Value.bytes _ _]) _ _ _); refine call_type_of (Tx := "bytes") rfl (by decide +kernel) ?_) | (k_end; wrow_close) | walk1 | (dsimp only; (first | ((with_reducible show wpAny _ _ (execs (_ :: _) _) _ _ _); k_here; (try k_made); (try k_gentoks); first | ((with_reducible refine gen_cons1 ?_); intro _ _) | ((with_reducible refine gen_cons2 ?_); intro _ _ _ _)) | ((with_reducible show Back _ _ _); (refine back_of (by with_reducible assumption) ?_); (try dsimp only)) | (k_here; (with_reducible show wpAny _ _ (call (Value.ref 94) [Value.bytes _ _] _) _ _ _); k_dflt (refine' use_spec (a2b_spec _ _ _ _ _ _ (by assumption) (by assumption) (by assumption)) (by k_asm) (by k_asm) (by k_asm) (by k_asm) (by k_asm) (by first | exact rfl | assumption) (by ktr_room) (by ktr_units) ?_; k_whole); intro v9 h9 tk9 R9 F9 N9; obtain ⟨t9, hv9⟩ := R9; subst hv9; (try k_sweep)) | (k_here; (with_reducible show wpAny _ _ (call (Value.ref 45) [Value.str (strArr _) _] _) _ _ _); k_dflt (refine' use_spec (bfdd_str_spec _ _ _ _ _ _ (by assumption) (by assumption)) (by k_asm) (by k_asm) (by k_asm) (by k_asm) (by k_asm) (by first | exact rfl | assumption) (by ktr_room) (by ktr_units) ?_; k_whole); intro v9 h9 tk9 R9 F9 N9; obtain ⟨t9, hv9⟩ := R9; subst hv9; (try k_sweep)) | (k_here; (with_reducible show wpAny _ _ (call (Value.ref 45) [Value.bytes _ _] _) _ _ _); k_dflt (refine' use_spec (bfdd_bytes_spec _ _ _ _ _ _) (by k_asm) (by k_asm) (by k_asm) (by k_asm) (by k_asm) (by first | exact rfl | assumption) (by ktr_room) (by ktr_units) ?_; k_whole); intro v9 h9 tk9 R9 F9 N9; obtain ⟨t9, hv9⟩ := R9; subst hv9; (try k_sweep)) | (k_here; (with_reducible show wpAny _ _ (call (Value.builtin "bytes.translate") [Value.bytes _ _, Value.bytes _ _]) _ _ _); (refine' call_translate (transTab_size _ _) (by (first | (simp only [byteArr_size]; omega) | omega | assumption)) ?_; k_whole); intro t9 k9) | (k_here; (with_reducible show wpAny _ _ (call (Value.builtin "bytes.maketrans") [Value.bytes _ _, Value.bytes _ _]) _ _ _); (refine call_maketrans rfl ?_); intro t9 k9) | (k_here; (with_reducible refine method_maketrans ?_)) | (k_here; (with_reducible refine method_translate ?_)) | (k_here; (with_reducible show wpAny _ _ (call (Value.builtin "str.encode") [Value.str (strArr _) _, Value.str _ _]) _ _ _); (refine call_encode_ascii (by assumption) (by assumption) ?_); intro t9 k9) | (k_here; (with_reducible refine method_encode ?_)) | ((with_reducible show wpAny _ _ (call _ [Value.bytes _ _]) _ _ _); refine call_type_of (Tx := "bytes") rfl (by decide +kernel) ?_) | walk1)) | (leave1; walk_say "STEP leave1"; try dsimp only) | fail "no step"))
  all_goals (refine ret_bytes (Q := Q) (s := s) hret (by assumption) rfl)
theorem bfdd_str_spec (w : World) (mean : ExcName → Option Value) (mg mb : Str → Option Value) (ns : List Int) (t : Tok) (hin : ∀ n ∈ ns, 0 ≤ n ∧ n < 128) (hz : ns.length ≤ 16777216) : Spec w mean mg mb 45 1 8 [.str (strArr ns) t] [] (BytesIs (byteArr ns)) := by
  unfold Spec
  k_fill
  intro dp un gd cn cs a ccd cl outer A₀ base h₀ L m s Q E B F X T hk hd hu hret
  refine wpAny_call ?_
  k_dflt ((refine' enter_def ?k1 ?k2 ?k3 ?k5 ?kA ?kF ?kK ?k6 ?k7 ?k8 ?k9 ?kB ?_ ?c2 ?c3 ?c4 ?c5; (case kA => exact rfl); (case kF => exact rfl); (case kK => assumption); (case k1 => k_asm); (case k2 => k_asm); (case k3 => k_asm); (case k5 => k_asm); (case k6 => k_is); (case k7 => k_is); (case k8 => ktr_room); (case k9 => first | exact BindsTo.of_eq rfl | (refine' kp_binds ?kx ?ke; (case kx => k_in); (case ke => exact fun _ => rfl))); (case c5 => decide); (case kB => exact locs rfl); (case c2 => exact rfl); (case c3 => exact rfl); (case c4 => exact rfl); k_whole; intro L' h' F' N' B' X' T'; (try dsimp only); (try k_lift B'); (try k_fold)))
  (repeat' (first | (k_unfold; (try dsimp only)) | ((with_reducible show wpAny _ _ (execs (_ :: _) _) _ _ _); k_here; (try k_made); (try k_gentoks); first | ((with_reducible refine gen_cons1 ?_); intro _ _) | ((with_reducible refine gen_cons2 ?_); intro _ _ _ _)) | ((with_reducible show Back _ _ _); (refine back_of (by with_reducible assumption) ?_); (try dsimp only)) | (k_here; (with_reducible show wpAny _ _ (call (Value.ref 94) [Value.bytes _ _] _) _ _ _); k_dflt (refine' use_spec (a2b_spec _ _ _ _ _ _ (by assumption) (by assumption) (by assumption)) (by k_asm) (by k_asm) (by k_asm) (by k_asm) (by k_asm) (by first | exact rfl | assumption) (by ktr_room) (by ktr_units) ?_; k_whole); intro v9 h9 tk9 R9 F9 N9; obtain ⟨t9, hv9⟩ := R9; subst hv9; (try k_sweep)) | (k_here; (with_reducible show wpAny _ _ (call (Value.ref 45) [Value.str (strArr _) _] _) _ _ _); k_dflt (refine' use_spec (bfdd_str_spec _ _ _ _ _ _ (by assumption) (by assumption)) (by k_asm) (by k_asm) (by k_asm) (by k_asm) (by k_asm) (by first | exact rfl | assumption) (by ktr_room) (by ktr_units) ?_; k_whole); intro v9 h9 tk9 R9 F9 N9; obtain ⟨t9, hv9⟩ := R9; subst hv9; (try k_sweep)) | (k_here; (with_reducible show wpAny _ _ (call (Value.ref 45) [Value.bytes _ _] _) _ _ _); k_dflt (refine' use_spec (bfdd_bytes_spec _ _ _ _ _ _) (by k_asm) (by k_asm) (by k_asm) (by k_asm) (by k_asm) (by first | exact rfl | assumption) (by ktr_room) (by ktr_units) ?_; k_whole); intro v9 h9 tk9 R9 F9 N9; obtain ⟨t9, hv9⟩ := R9; subst hv9; (try k_sweep)) | (k_here; (with_reducible show wpAny _ _ (call (Value.builtin "bytes.translate") [Value.bytes _ _, Value.bytes _ _]) _ _ _); (refine' call_translate (transTab_size _ _) (by (first | (simp only [byteArr_size]; omega) | omega | assumption)) ?_; k_whole); intro t9 k9) | (k_here; (with_reducible show wpAny _ _ (call (Value.builtin "bytes.maketrans") [Value.bytes _ _, Value.bytes _ _]) _ _ _); (refine call_maketrans rfl ?_); intro t9 k9) | (k_here; (with_reducible refine method_maketrans ?_)) | (k_here; (with_reducible refine method_translate ?_)) | (k_here; (with_reducible show wpAny _ _ (call (Value.builtin "str.encode") [Value.str (strArr _) _, Value.str _ _]) _ _ _); (refine call_encode_ascii (by assumption) (by assumption) ?_); intro t9 k9) | (k_here; (with_reducible refine method_encode ?_)) | ((with_reducible show wpAny _ _ (call _ [Value.bytes _ _]) _ _ _); refine call_type_of (Tx := "bytes") rfl (by decide +kernel) ?_) | (k_end; wrow_close) | walk1 | (dsimp only; (first | ((with_reducible show wpAny _ _ (execs (_ :: _) _) _ _ _); k_here; (try k_made); (try k_gentoks); first | ((with_reducible refine gen_cons1 ?_); intro _ _) | ((with_reducible refine gen_cons2 ?_); intro _ _ _ _)) | ((with_reducible show Back _ _ _); (refine back_of (by with_reducible assumption) ?_); (try dsimp only)) | (k_here; (with_reducible show wpAny _ _ (call (Value.ref 94) [Value.bytes _ _] _) _ _ _); k_dflt (refine' use_spec (a2b_spec _ _ _ _ _ _ (by assumption) (by assumption) (by assumption)) (by k_asm) (by k_asm) (by k_asm) (by k_asm) (by k_asm) (by first | exact rfl | assumption) (by ktr_room) (by ktr_units) ?_; k_whole); intro v9 h9 tk9 R9 F9 N9; obtain ⟨t9, hv9⟩ := R9; subst hv9; (try k_sweep)) | (k_here; (with_reducible show wpAny _ _ (call (Value.ref 45) [Value.str (strArr _) _] _) _ _ _); k_dflt (refine' use_spec (bfdd_str_spec _ _ _ _ _ _ (by assumption) (by assumption)) (by k_asm) (by k_asm) (by k_asm) (by k_asm) (by k_asm) (by first | exact rfl | assumption) (by ktr_room) (by ktr_units) ?_; k_whole); intro v9 h9 tk9 R9 F9 N9; obtain ⟨t9, hv9⟩ := R9; subst hv9; (try k_sweep)) | (k_here; (with_reducible show wpAny _ _ (call (Value.ref 45) [Value.bytes _ _] _) _ _ _); k_dflt (refine' use_spec (bfdd_bytes_spec _ _ _ _ _ _) (by k_asm) (by k_asm) (by k_asm) (by k_asm) (by k_asm) (by first | exact rfl | assumption) (by ktr_room) (by ktr_units) ?_; k_whole); intro v9 h9 tk9 R9 F9 N9; obtain ⟨t9, hv9⟩ := R9; subst hv9; (try k_sweep)) | (k_here; (with_reducible show wpAny _ _ (call (Value.builtin "bytes.translate") [Value.bytes _ _, Value.bytes _ _]) _ _ _); (refine' call_translate (transTab_size _ _) (by (first | (simp only [byteArr_size]; omega) | omega | assumption)) ?_; k_whole); intro t9 k9) | (k_here; (with_reducible show wpAny _ _ (call (Value.builtin "bytes.maketrans") [Value.bytes _ _, Value.bytes _ _]) _ _ _); (refine call_maketrans rfl ?_); intro t9 k9) | (k_here; (with_reducible refine method_maketrans ?_)) | (k_here; (with_reducible refine method_translate ?_)) | (k_here; (with_reducible show wpAny _ _ (call (Value.builtin "str.encode") [Value.str (strArr _) _, Value.str _ _]) _ _ _); (refine call_encode_ascii (by assumption) (by assumption) ?_); intro t9 k9) | (k_here; (with_reducible refine method_encode ?_)) | ((with_reducible show wpAny _ _ (call _ [Value.bytes _ _]) _ _ _); refine call_type_of (Tx := "bytes") rfl (by decide +kernel) ?_) | walk1)) | (leave1; walk_say "STEP leave1"; try dsimp only) | fail "no step"))
  all_goals (refine ret_bytes (Q := Q) (s := s) hret (by assumption) rfl)

theorem b64decode_spec (w : World) (mean : ExcName → Option Value) (mg mb : Str → Option Value) (xs : List Int) (t t2 : Tok) (hf : Fig xs) (h4 : xs.length % 4 = 0) (hz : xs.length ≤ 10000) : Spec w mean mg mb 118 6 40 [.str (strArr (xs.map sgn)) t, .bytes #[38, 59] t2, .bool true] [] (BytesIs (byteArr (octL xs))) := by
  have i1 := sgn_in hf
  have i2 : (xs.map sgn).length ≤ 16777216 := by rw [List.length_map]; omega
  have i3 : (byteArr (xs.map sgn)).map (fun c => (transTab #[38, 59] #[43, 47]).getD c.toNat c) = byteArr (xs.map b64c) := by
    rw [translate_byteArr altIn_tab _ (fun n hn => ⟨(i1 n hn).1, by have := (i1 n hn).2; omega⟩), altIn_sgn hf]
  have i4 : KBw.bInts (byteArr (xs.map b64c)) = xs.map b64c := KBa.ints_make (b64c_map_in xs)
  have i5 : (byteArr (xs.map b64c)).size ≤ 10000 := by rw [byteArr_size, List.length_map]; exact hz
  have i6 : (byteArr (xs.map b64c)).size % 4 = 0 := by rw [byteArr_size, List.length_map]; exact h4
  have i7 : ∀ c ∈ KBw.bInts (byteArr (xs.map b64c)), IsB64 c := by rw [i4]; exact b64c_isB64 hf
  unfold Spec
  k_fill
  intro dp un gd cn cs a ccd cl outer A₀ base h₀ L m s Q E B F X T hk hd hu hret
  refine wpAny_call ?_
  k_dflt ((refine' enter_def ?k1 ?k2 ?k3 ?k5 ?kA ?kF ?kK ?k6 ?k7 ?k8 ?k9 ?kB ?_ ?c2 ?c3 ?c4 ?c5; (case kA => exact rfl); (case kF => exact rfl); (case kK => assumption); (case k1 => k_asm); (case k2 => k_asm); (case k3 => k_asm); (case k5 => k_asm); (case k6 => k_is); (case k7 => k_is); (case k8 => ktr_room); (case k9 => first | exact BindsTo.of_eq rfl | (refine' kp_binds ?kx ?ke; (case kx => k_in); (case ke => exact fun _ => rfl))); (case c5 => decide); (case kB => exact locs rfl); (case c2 => exact rfl); (case c3 => exact rfl); (case c4 => exact rfl); k_whole; intro L' h' F' N' B' X' T'; (try dsimp only); (try k_lift B'); (try k_fold)))
  (repeat' (first | (k_unfold; (try dsimp only)) | ((with_reducible show wpAny _ _ (execs (_ :: _) _) _ _ _); k_here; (try k_made); (try k_gentoks); first | ((with_reducible refine gen_cons1 ?_); intro _ _) | ((with_reducible refine gen_cons2 ?_); intro _ _ _ _)) | ((with_reducible show Back _ _ _); (refine back_of (by with_reducible assumption) ?_); (try dsimp only)) | (k_here; (with_reducible show wpAny _ _ (call (Value.ref 94) [Value.bytes _ _] _) _ _ _); k_dflt (refine' use_spec (a2b_spec _ _ _ _ _ _ (by assumption) (by assumption) (by assumption)) (by k_asm) (by k_asm) (by k_asm) (by k_asm) (by k_asm) (by first | exact rfl | assumption) (by ktr_room) (by ktr_units) ?_; k_whole); intro v9 h9 tk9 R9 F9 N9; obtain ⟨t9, hv9⟩ := R9; subst hv9; (try k_sweep)) | (k_here; (with_reducible show wpAny _ _ (call (Value.ref 45) [Value.str (strArr _) _] _) _ _ _); k_dflt (refine' use_spec (bfdd_str_spec _ _ _ _ _ _ (by assumption) (by assumption)) (by k_asm) (by k_asm) (by k_asm) (by k_asm) (by k_asm) (by first | exact rfl | assumption) (by ktr_room) (by ktr_units) ?_; k_whole); intro v9 h9 tk9 R9 F9 N9; obtain ⟨t9, hv9⟩ := R9; subst hv9; (try k_sweep)) | (k_here; (with_reducible show wpAny _ _ (call (Value.ref 45) [Value.bytes _ _] _) _ _ _); k_dflt (refine' use_spec (bfdd_bytes_spec _ _ _ _ _ _) (by k_asm) (by k_asm) (by k_asm) (by k_asm) (by k_asm) (by first | exact rfl | assumption) (by ktr_room) (by ktr_units) ?_; k_whole); intro v9 h9 tk9 R9 F9 N9; obtain ⟨t9, hv9⟩ := R9; subst hv9; (try k_sweep)) | (k_here; (with_reducible show wpAny _ _ (call (Value.builtin "bytes.translate") [Value.bytes _ _, Value.bytes _ _]) _ _ _); (refine' call_translate (transTab_size _ _) (by (first | (simp only [byteArr_size]; omega) | omega | assumption)) ?_; k_whole); intro t9 k9) | (k_here; (with_reducible show wpAny _ _ (call (Value.builtin "bytes.maketrans") [Value.bytes _ _, Value.bytes _ _]) _ _ _); (refine call_maketrans rfl ?_); intro t9 k9) | (k_here; (with_reducible refine method_maketrans ?_)) | (k_here; (with_reducible refine method_translate ?_)) | (k_here; (with_reducible show wpAny _ _ (call (Value.builtin "str.encode") [Value.str (strArr _) _, Value.str _ _]) _ _ _); (refine call_encode_ascii (by assumption) (by assumption) ?_); intro t9 k9) | (k_here; (with_reducible refine method_encode ?_)) | ((with_reducible show wpAny _ _ (call _ [Value.bytes _ _]) _ _ _); refine call_type_of (Tx := "bytes") rfl (by decide +kernel) ?_) | (k_end; wrow_close) | walk1 | (dsimp only; (first | ((with_reducible show wpAny _ _ (execs (_ :: _) _) _ _ _); k_here; (try k_made); (try k_gentoks); first | ((with_reducible refine gen_cons1 ?_); intro _ _) | ((with_reducible refine gen_cons2 ?_); intro _ _ _ _)) | ((with_reducible show Back _ _ _); (refine back_of (by with_reducible assumption) ?_); (try dsimp only)) | (k_here; (with_reducible show wpAny _ _ (call (Value.ref 94) [Value.bytes _ _] _) _ _ _); k_dflt (refine' use_spec (a2b_spec _ _ _ _ _ _ (by assumption) (by assumption) (by assumption)) (by k_asm) (by k_asm) (by k_asm) (by k_asm) (by k_asm) (by first | exact rfl | assumption) (by ktr_room) (by ktr_units) ?_; k_whole); intro v9 h9 tk9 R9 F9 N9; obtain ⟨t9, hv9⟩ := R9; subst hv9; (try k_sweep)) | (k_here; (with_reducible show wpAny _ _ (call (Value.ref 45) [Value.str (strArr _) _] _) _ _ _); k_dflt (refine' use_spec (bfdd_str_spec _ _ _ _ _ _ (by assumption) (by assumption)) (by k_asm) (by k_asm) (by k_asm) (by k_asm) (by k_asm) (by first | exact rfl | assumption) (by ktr_room) (by ktr_units) ?_; k_whole); intro v9 h9 tk9 R9 F9 N9; obtain ⟨t9, hv9⟩ := R9; subst hv9; (try k_sweep)) | (k_here; (with_reducible show wpAny _ _ (call (Value.ref 45) [Value.bytes _ _] _) _ _ _); k_dflt (refine' use_spec (bfdd_bytes_spec _ _ _ _ _ _) (by k_asm) (by k_asm) (by k_asm) (by k_asm) (by k_asm) (by first | exact rfl | assumption) (by ktr_room) (by ktr_units) ?_; k_whole); intro v9 h9 tk9 R9 F9 N9; obtain ⟨t9, hv9⟩ := R9; subst hv9; (try k_sweep)) | (k_here; (with_reducible show wpAny _ _ (call (Value.builtin "bytes.translate") [Value.bytes _ _, Value.bytes _ _]) _ _ _); (refine' call_translate (transTab_size _ _) (by (first | (simp only [byteArr_size]; omega) | omega | assumption)) ?_; k_whole); intro t9 k9) | (k_here; (with_reducible show wpAny _ _ (call (Value.builtin "bytes.maketrans") [Value.bytes _ _, Value.bytes _ _]) _ _ _); (refine call_maketrans rfl ?_); intro t9 k9) | (k_here; (with_reducible refine method_maketrans ?_)) | (k_here; (with_reducible refine method_translate ?_)) | (k_here; (with_reducible show wpAny _ _ (call (Value.builtin "str.encode") [Value.str (strArr _) _, Value.str _ _]) _ _ _); (refine call_encode_ascii (by assumption) (by assumption) ?_); intro t9 k9) | (k_here; (with_reducible refine method_encode ?_)) | ((with_reducible show wpAny _ _ (call _ [Value.bytes _ _]) _ _ _); refine call_type_of (Tx := "bytes") rfl (by decide +kernel) ?_) | walk1)) | (leave1; walk_say "STEP leave1"; try dsimp only) | fail "no step"))
  rw [i3]
  (repeat' (first | (k_unfold; (try dsimp only)) | ((with_reducible show wpAny _ _ (execs (_ :: _) _) _ _ _); k_here; (try k_made); (try k_gentoks); first | ((with_reducible refine gen_cons1 ?_); intro _ _) | ((with_reducible refine gen_cons2 ?_); intro _ _ _ _)) | ((with_reducible show Back _ _ _); (refine back_of (by with_reducible assumption) ?_); (try dsimp only)) | (k_here; (with_reducible show wpAny _ _ (call (Value.ref 94) [Value.bytes _ _] _) _ _ _); k_dflt (refine' use_spec (a2b_spec _ _ _ _ _ _ (by assumption) (by assumption) (by assumption)) (by k_asm) (by k_asm) (by k_asm) (by k_asm) (by k_asm) (by first | exact rfl | assumption) (by ktr_room) (by ktr_units) ?_; k_whole); intro v9 h9 tk9 R9 F9 N9; obtain ⟨t9, hv9⟩ := R9; subst hv9; (try k_sweep)) | (k_here; (with_reducible show wpAny _ _ (call (Value.ref 45) [Value.str (strArr _) _] _) _ _ _); k_dflt (refine' use_spec (bfdd_str_spec _ _ _ _ _ _ (by assumption) (by assumption)) (by k_asm) (by k_asm) (by k_asm) (by k_asm) (by k_asm) (by first | exact rfl | assumption) (by ktr_room) (by ktr_units) ?_; k_whole); intro v9 h9 tk9 R9 F9 N9; obtain ⟨t9, hv9⟩ := R9; subst hv9; (try k_sweep)) | (k_here; (with_reducible show wpAny _ _ (call (Value.ref 45) [Value.bytes _ _] _) _ _ _); k_dflt (refine' use_spec (bfdd_bytes_spec _ _ _ _ _ _) (by k_asm) (by k_asm) (by k_asm) (by k_asm) (by k_asm) (by first | exact rfl | assumption) (by ktr_room) (by ktr_units) ?_; k_whole); intro v9 h9 tk9 R9 F9 N9; obtain ⟨t9, hv9⟩ := R9; subst hv9; (try k_sweep)) | (k_here; (with_reducible show wpAny _ _ (call (Value.builtin "bytes.translate") [Value.bytes _ _, Value.bytes _ _]) _ _ _); (refine' call_translate (transTab_size _ _) (by (first | (simp only [byteArr_size]; omega) | omega | assumption)) ?_; k_whole); intro t9 k9) | (k_here; (with_reducible show wpAny _ _ (call (Value.builtin "bytes.maketrans") [Value.bytes _ _, Value.bytes _ _]) _ _ _); (refine call_maketrans rfl ?_); intro t9 k9) | (k_here; (with_reducible refine method_maketrans ?_)) | (k_here; (with_reducible refine method_translate ?_)) | (k_here; (with_reducible show wpAny _ _ (call (Value.builtin "str.encode") [Value.str (strArr _) _, Value.str _ _]) _ _ _); (refine call_encode_ascii (by assumption) (by assumption) ?_); intro t9 k9) | (k_here; (with_reducible refine method_encode ?_)) | ((with_reducible show wpAny _ _ (call _ [Value.bytes _ _]) _ _ _); refine call_type_of (Tx := "bytes") rfl (by decide +kernel) ?_) | (k_end; wrow_close) | walk1 | (dsimp only; (first | ((with_reducible show wpAny _ _ (execs (_ :: _) _) _ _ _); k_here; (try k_made); (try k_gentoks); first | ((with_reducible refine gen_cons1 ?_); intro _ _) | ((with_reducible refine gen_cons2 ?_); intro _ _ _ _)) | ((with_reducible show Back _ _ _); (refine back_of (by with_reducible assumption) ?_); (try dsimp only)) | (k_here; (with_reducible show wpAny _ _ (call (Value.ref 94) [Value.bytes _ _] _) _ _ _); k_dflt (refine' use_spec (a2b_spec _ _ _ _ _ _ (by assumption) (by assumption) (by assumption)) (by k_asm) (by k_asm) (by k_asm) (by k_asm) (by k_asm) (by first | exact rfl | assumption) (by ktr_room) (by ktr_units) ?_; k_whole); intro v9 h9 tk9 R9 F9 N9; obtain ⟨t9, hv9⟩ := R9; subst hv9; (try k_sweep)) | (k_here; (with_reducible show wpAny _ _ (call (Value.ref 45) [Value.str (strArr _) _] _) _ _ _); k_dflt (refine' use_spec (bfdd_str_spec _ _ _ _ _ _ (by assumption) (by assumption)) (by k_asm) (by k_asm) (by k_asm) (by k_asm) (by k_asm) (by first | exact rfl | assumption) (by ktr_room) (by ktr_units) ?_; k_whole); intro v9 h9 tk9 R9 F9 N9; obtain ⟨t9, hv9⟩ := R9; subst hv9; (try k_sweep)) | (k_here; (with_reducible show wpAny _ _ (call (Value.ref 45) [Value.bytes _ _] _) _ _ _); k_dflt (refine' use_spec (bfdd_bytes_spec _ _ _ _ _ _) (by k_asm) (by k_asm) (by k_asm) (by k_asm) (by k_asm) (by first | exact rfl | assumption) (by ktr_room) (by ktr_units) ?_; k_whole); intro v9 h9 tk9 R9 F9 N9; obtain ⟨t9, hv9⟩ := R9; subst hv9; (try k_sweep)) | (k_here; (with_reducible show wpAny _ _ (call (Value.builtin "bytes.translate") [Value.bytes _ _, Value.bytes _ _]) _ _ _); (refine' call_translate (transTab_size _ _) (by (first | (simp only [byteArr_size]; omega) | omega | assumption)) ?_; k_whole); intro t9 k9) | (k_here; (with_reducible show wpAny _ _ (call (Value.builtin "bytes.maketrans") [Value.bytes _ _, Value.bytes _ _]) _ _ _); (refine call_maketrans rfl ?_); intro t9 k9) | (k_here; (with_reducible refine method_maketrans ?_)) | (k_here; (with_reducible refine method_translate ?_)) | (k_here; (with_reducible show wpAny _ _ (call (Value.builtin "str.encode") [Value.str (strArr _) _, Value.str _ _]) _ _ _); (refine call_encode_ascii (by assumption) (by assumption) ?_); intro t9 k9) | (k_here; (with_reducible refine method_encode ?_)) | ((with_reducible show wpAny _ _ (call _ [Value.bytes _ _]) _ _ _); refine call_type_of (Tx := "bytes") rfl (by decide +kernel) ?_) | walk1)) | (leave1; walk_say "STEP leave1"; try dsimp only) | fail "no step"))
  exact ret_bytes (Q := Q) (s := s) hret (by assumption) (by rw [i4, b64v_map hf])
theorem b64encode_fig (w : World) (mean : ExcName → Option Value) (mg mb : Str → Option Value) (xs : List Int) (t t2 : Tok) (hf : Fig xs) (h4 : xs.length % 4 = 0) (hz : xs.length ≤ 10000) : Spec w mean mg mb 110 5 30 [.bytes (byteArr (octL xs)) t, .bytes #[38, 59] t2] [] (BytesIs (byteArr (xs.map sgn))) := by
  have hl := octL_len xs h4
  have i4 : KBw.bInts (byteArr (octL xs)) = octL xs := KBa.ints_make (octL_in xs h4 hf)
  have h := b64encode_spec w mean mg mb (byteArr (octL xs)) t t2 (by rw [byteArr_size]; omega) (by rw [byteArr_size]; omega)
  rw [i4, encL_octL h4 hf, List.map_map] at h
  exact h
end Mine
end
theorem Mine.zz40 : True := by
  k_with_none
  w_top off
  (have : True ∧ True := by
    (try walk1)
    all_goals (first | exact trivial | exact ⟨trivial, trivial⟩))
  trivial
-- T7
section
open PySem PySem.W PyProof.Rows PySem.Calls
set_option Elab.async false
set_option maxRecDepth 100000
set_option maxHeartbeats 8000000
set_option linter.unusedSimpArgs false
namespace Mine

theorem esc_cdata_spec (w : World) (mean : ExcName → Option Value) (mg mb : Str → Option Value) (xs : List Int) (t : Tok) (hf : Fig xs) (hz : xs.length ≤ 10000) (h62 : (62 : Int) ∈ xs) : Spec w mean mg mb 132 1 10 [.str (strArr (xs.map sgn)) t] [] (StrIs (strArr ((esc xs).map sgn))) := by
  have hfe := esc_fig hf
  unfold Spec
  k_fill
  intro dp un gd cn cs a ccd cl outer A₀ base h₀ L m s Q E B F X T hk hd hu hret
  refine wpAny_call ?_
  k_dflt ((refine' enter_def ?k1 ?k2 ?k3 ?k5 ?kA ?kF ?kK ?k6 ?k7 ?k8 ?k9 ?kB ?_ ?c2 ?c3 ?c4 ?c5; (case kA => exact rfl); (case kF => exact rfl); (case kK => assumption); (case k1 => k_asm); (case k2 => k_asm); (case k3 => k_asm); (case k5 => k_asm); (case k6 => k_is); (case k7 => k_is); (case k8 => ktr_room); (case k9 => first | exact BindsTo.of_eq rfl | (refine' kp_binds ?kx ?ke; (case kx => k_in); (case ke => exact fun _ => rfl))); (case c5 => decide); (case kB => exact locs rfl); (case c2 => exact rfl); (case c3 => exact rfl); (case c4 => exact rfl); k_whole; intro L' h' F' N' B' X' T'; (try dsimp only); (try k_lift B'); (try k_fold)))
  refine gen_toks ?_ (Nat.succ_pos _)
  intro tk0 htk0
  (repeat' (first | (k_unfold; (try dsimp only)) | ((with_reducible show wpAny _ _ (execs (_ :: _) _) _ _ (Shared.mk _ _ _ (_ + 1) _)); (refine gen_toks ?_ (Nat.succ_pos _)); intro tk9 hk9) | (k_here; (with_reducible show wpAny _ _ (call (Value.builtin "str.replace") [Value.str (strArr _) _, Value.str _ _, Value.str _ _]) _ _ _); (refine call_replace_amp (by assumption) (by assumption) (by refine neN ?_; omega) (by refine neN ?_; omega) (by refine neN ?_; omega) ?_); intro t9 k9) | ((with_reducible show wpAny _ _ (compareOp CmpOp.In _ _) _ _ _); with_reducible (k_here; first | (refine in_amp (by assumption) ?_) | (refine in_no (by decide) (by assumption) ?_))) | ((with_reducible show wpAny _ _ (call _ [Value.bytes _ _]) _ _ _); refine call_type_of (Tx := "bytes") rfl (by decide +kernel) ?_) | (k_end; wrow_close) | walk1 | (dsimp only; (first | ((with_reducible show wpAny _ _ (execs (_ :: _) _) _ _ (Shared.mk _ _ _ (_ + 1) _)); (refine gen_toks ?_ (Nat.succ_pos _)); intro tk9 hk9) | (k_here; (with_reducible show wpAny _ _ (call (Value.builtin "str.replace") [Value.str (strArr _) _, Value.str _ _, Value.str _ _]) _ _ _); (refine call_replace_amp (by assumption) (by assumption) (by refine neN ?_; omega) (by refine neN ?_; omega) (by refine neN ?_; omega) ?_); intro t9 k9) | ((with_reducible show wpAny _ _ (compareOp CmpOp.In _ _) _ _ _); with_reducible (k_here; first | (refine in_amp (by assumption) ?_) | (refine in_no (by decide) (by assumption) ?_))) | ((with_reducible show wpAny _ _ (call _ [Value.bytes _ _]) _ _ _); refine call_type_of (Tx := "bytes") rfl (by decide +kernel) ?_) | walk1)) | (leave1; walk_say "STEP leave1"; try dsimp only) | fail "no step"))
  all_goals exact ret_str (Q := Q) (s := s) hret (by assumption) rfl

theorem esc_attrib_spec (w : World) (mean : ExcName → Option Value) (mg mb : Str → Option Value) (xs : List Int) (t : Tok) (hf : Fig xs) (hz : xs.length ≤ 10000) (h62 : (62 : Int) ∈ xs) : Spec w mean mg mb 139 1 10 [.str (strArr (xs.map sgn)) t] [] (StrIs (strArr ((esc xs).map sgn))) := by
  have hfe := esc_fig hf
  unfold Spec
  k_fill
  intro dp un gd cn cs a ccd cl outer A₀ base h₀ L m s Q E B F X T hk hd hu hret
  refine wpAny_call ?_
  k_dflt ((refine' enter_def ?k1 ?k2 ?k3 ?k5 ?kA ?kF ?kK ?k6 ?k7 ?k8 ?k9 ?kB ?_ ?c2 ?c3 ?c4 ?c5; (case kA => exact rfl); (case kF => exact rfl); (case kK => assumption); (case k1 => k_asm); (case k2 => k_asm); (case k3 => k_asm); (case k5 => k_asm); (case k6 => k_is); (case k7 => k_is); (case k8 => ktr_room); (case k9 => first | exact BindsTo.of_eq rfl | (refine' kp_binds ?kx ?ke; (case kx => k_in); (case ke => exact fun _ => rfl))); (case c5 => decide); (case kB => exact locs rfl); (case c2 => exact rfl); (case c3 => exact rfl); (case c4 => exact rfl); k_whole; intro L' h' F' N' B' X' T'; (try dsimp only); (try k_lift B'); (try k_fold)))
  refine gen_toks ?_ (Nat.succ_pos _)
  intro tk0 htk0
  (repeat' (first | (k_unfold; (try dsimp only)) | ((with_reducible show wpAny _ _ (execs (_ :: _) _) _ _ (Shared.mk _ _ _ (_ + 1) _)); (refine gen_toks ?_ (Nat.succ_pos _)); intro tk9 hk9) | (k_here; (with_reducible show wpAny _ _ (call (Value.builtin "str.replace") [Value.str (strArr _) _, Value.str _ _, Value.str _ _]) _ _ _); (refine call_replace_amp (by assumption) (by assumption) (by refine neN ?_; omega) (by refine neN ?_; omega) (by refine neN ?_; omega) ?_); intro t9 k9) | ((with_reducible show wpAny _ _ (compareOp CmpOp.In _ _) _ _ _); with_reducible (k_here; first | (refine in_amp (by assumption) ?_) | (refine in_no (by decide) (by assumption) ?_))) | ((with_reducible show wpAny _ _ (call _ [Value.bytes _ _]) _ _ _); refine call_type_of (Tx := "bytes") rfl (by decide +kernel) ?_) | (k_end; wrow_close) | walk1 | (dsimp only; (first | ((with_reducible show wpAny _ _ (execs (_ :: _) _) _ _ (Shared.mk _ _ _ (_ + 1) _)); (refine gen_toks ?_ (Nat.succ_pos _)); intro tk9 hk9) | (k_here; (with_reducible show wpAny _ _ (call (Value.builtin "str.replace") [Value.str (strArr _) _, Value.str _ _, Value.str _ _]) _ _ _); (refine call_replace_amp (by assumption) (by assumption) (by refine neN ?_; omega) (by refine neN ?_; omega) (by refine neN ?_; omega) ?_); intro t9 k9) | ((with_reducible show wpAny _ _ (compareOp CmpOp.In _ _) _ _ _); with_reducible (k_here; first | (refine in_amp (by assumption) ?_) | (refine in_no (by decide) (by assumption) ?_))) | ((with_reducible show wpAny _ _ (call _ [Value.bytes _ _]) _ _ _); refine call_type_of (Tx := "bytes") rfl (by decide +kernel) ?_) | walk1)) | (leave1; walk_say "STEP leave1"; try dsimp only) | fail "no step"))
  all_goals exact ret_str (Q := Q) (s := s) hret (by assumption) rfl

theorem esc_attrib_html_spec (w : World) (mean : ExcName → Option Value) (mg mb : Str → Option Value) (xs : List Int) (t : Tok) (hf : Fig xs) (hz : xs.length ≤ 10000) (h62 : (62 : Int) ∈ xs) : Spec w mean mg mb 146 1 10 [.str (strArr (xs.map sgn)) t] [] (StrIs (strArr ((esc xs).map sgn))) := by
  have hfe := esc_fig hf
  unfold Spec
  k_fill
  intro dp un gd cn cs a ccd cl outer A₀ base h₀ L m s Q E B F X T hk hd hu hret
  refine wpAny_call ?_
  k_dflt ((refine' enter_def ?k1 ?k2 ?k3 ?k5 ?kA ?kF ?kK ?k6 ?k7 ?k8 ?k9 ?kB ?_ ?c2 ?c3 ?c4 ?c5; (case kA => exact rfl); (case kF => exact rfl); (case kK => assumption); (case k1 => k_asm); (case k2 => k_asm); (case k3 => k_asm); (case k5 => k_asm); (case k6 => k_is); (case k7 => k_is); (case k8 => ktr_room); (case k9 => first | exact BindsTo.of_eq rfl | (refine' kp_binds ?kx ?ke; (case kx => k_in); (case ke => exact fun _ => rfl))); (case c5 => decide); (case kB => exact locs rfl); (case c2 => exact rfl); (case c3 => exact rfl); (case c4 => exact rfl); k_whole; intro L' h' F' N' B' X' T'; (try dsimp only); (try k_lift B'); (try k_fold)))
  refine gen_toks ?_ (Nat.succ_pos _)
  intro tk0 htk0
  (repeat' (first | (k_unfold; (try dsimp only)) | ((with_reducible show wpAny _ _ (execs (_ :: _) _) _ _ (Shared.mk _ _ _ (_ + 1) _)); (refine gen_toks ?_ (Nat.succ_pos _)); intro tk9 hk9) | (k_here; (with_reducible show wpAny _ _ (call (Value.builtin "str.replace") [Value.str (strArr _) _, Value.str _ _, Value.str _ _]) _ _ _); (refine call_replace_amp (by assumption) (by assumption) (by refine neN ?_; omega) (by refine neN ?_; omega) (by refine neN ?_; omega) ?_); intro t9 k9) | ((with_reducible show wpAny _ _ (compareOp CmpOp.In _ _) _ _ _); with_reducible (k_here; first | (refine in_amp (by assumption) ?_) | (refine in_no (by decide) (by assumption) ?_))) | ((with_reducible show wpAny _ _ (call _ [Value.bytes _ _]) _ _ _); refine call_type_of (Tx := "bytes") rfl (by decide +kernel) ?_) | (k_end; wrow_close) | walk1 | (dsimp only; (first | ((with_reducible show wpAny _ _ (execs (_ :: _) _) _ _ (Shared.mk _ _ _ (_ + 1) _)); (refine gen_toks ?_ (Nat.succ_pos _)); intro tk9 hk9) | (k_here; (with_reducible show wpAny _ _ (call (Value.builtin "str.replace") [Value.str (strArr _) _, Value.str _ _, Value.str _ _]) _ _ _); (refine call_replace_amp (by assumption) (by assumption) (by refine neN ?_; omega) (by refine neN ?_; omega) (by refine neN ?_; omega) ?_); intro t9 k9) | ((with_reducible show wpAny _ _ (compareOp CmpOp.In _ _) _ _ _); with_reducible (k_here; first | (refine in_amp (by assumption) ?_) | (refine in_no (by decide) (by assumption) ?_))) | ((with_reducible show wpAny _ _ (call _ [Value.bytes _ _]) _ _ _); refine call_type_of (Tx := "bytes") rfl (by decide +kernel) ?_) | walk1)) | (leave1; walk_say "STEP leave1"; try dsimp only) | fail "no step"))
  all_goals exact ret_str (Q := Q) (s := s) hret (by assumption) rfl

theorem esc_cdata_c14n_spec (w : World) (mean : ExcName → Option Value) (mg mb : Str → Option Value) (xs : List Int) (t : Tok) (hf : Fig xs) (hz : xs.length ≤ 10000) (h62 : (62 : Int) ∈ xs) : Spec w mean mg mb 153 1 10 [.str (strArr (xs.map sgn)) t] [] (StrIs (strArr ((esc xs).map sgn))) := by
  have hfe := esc_fig hf
  unfold Spec
  k_fill
  intro dp un gd cn cs a ccd cl outer A₀ base h₀ L m s Q E B F X T hk hd hu hret
  refine wpAny_call ?_
  k_dflt ((refine' enter_def ?k1 ?k2 ?k3 ?k5 ?kA ?kF ?kK ?k6 ?k7 ?k8 ?k9 ?kB ?_ ?c2 ?c3 ?c4 ?c5; (case kA => exact rfl); (case kF => exact rfl); (case kK => assumption); (case k1 => k_asm); (case k2 => k_asm); (case k3 => k_asm); (case k5 => k_asm); (case k6 => k_is); (case k7 => k_is); (case k8 => ktr_room); (case k9 => first | exact BindsTo.of_eq rfl | (refine' kp_binds ?kx ?ke; (case kx => k_in); (case ke => exact fun _ => rfl))); (case c5 => decide); (case kB => exact locs rfl); (case c2 => exact rfl); (case c3 => exact rfl); (case c4 => exact rfl); k_whole; intro L' h' F' N' B' X' T'; (try dsimp only); (try k_lift B'); (try k_fold)))
  refine gen_toks ?_ (Nat.succ_pos _)
  intro tk0 htk0
  (repeat' (first | (k_unfold; (try dsimp only)) | ((with_reducible show wpAny _ _ (execs (_ :: _) _) _ _ (Shared.mk _ _ _ (_ + 1) _)); (refine gen_toks ?_ (Nat.succ_pos _)); intro tk9 hk9) | (k_here; (with_reducible show wpAny _ _ (call (Value.builtin "str.replace") [Value.str (strArr _) _, Value.str _ _, Value.str _ _]) _ _ _); (refine call_replace_amp (by assumption) (by assumption) (by refine neN ?_; omega) (by refine neN ?_; omega) (by refine neN ?_; omega) ?_); intro t9 k9) | ((with_reducible show wpAny _ _ (compareOp CmpOp.In _ _) _ _ _); with_reducible (k_here; first | (refine in_amp (by assumption) ?_) | (refine in_no (by decide) (by assumption) ?_))) | ((with_reducible show wpAny _ _ (call _ [Value.bytes _ _]) _ _ _); refine call_type_of (Tx := "bytes") rfl (by decide +kernel) ?_) | (k_end; wrow_close) | walk1 | (dsimp only; (first | ((with_reducible show wpAny _ _ (execs (_ :: _) _) _ _ (Shared.mk _ _ _ (_ + 1) _)); (refine gen_toks ?_ (Nat.succ_pos _)); intro tk9 hk9) | (k_here; (with_reducible show wpAny _ _ (call (Value.builtin "str.replace") [Value.str (strArr _) _, Value.str _ _, Value.str _ _]) _ _ _); (refine call_replace_amp (by assumption) (by assumption) (by refine neN ?_; omega) (by refine neN ?_; omega) (by refine neN ?_; omega) ?_); intro t9 k9) | ((with_reducible show wpAny _ _ (compareOp CmpOp.In _ _) _ _ _); with_reducible (k_here; first | (refine in_amp (by assumption) ?_) | (refine in_no (by decide) (by assumption) ?_))) | ((with_reducible show wpAny _ _ (call _ [Value.bytes _ _]) _ _ _); refine call_type_of (Tx := "bytes") rfl (by decide +kernel) ?_) | walk1)) | (leave1; walk_say "STEP leave1"; try dsimp only) | fail "no step"))
  all_goals exact ret_str (Q := Q) (s := s) hret (by assumption) rfl

theorem esc_attrib_c14n_spec (w : World) (mean : ExcName → Option Value) (mg mb : Str → Option Value) (xs : List Int) (t : Tok) (hf : Fig xs) (hz : xs.length ≤ 10000) (h62 : (62 : Int) ∈ xs) : Spec w mean mg mb 160 1 10 [.str (strArr (xs.map sgn)) t] [] (StrIs (strArr ((esc xs).map sgn))) := by
  have hfe := esc_fig hf
  unfold Spec
  k_fill
  intro dp un gd cn cs a ccd cl outer A₀ base h₀ L m s Q E B F X T hk hd hu hret
  refine wpAny_call ?_
  k_dflt ((refine' enter_def ?k1 ?k2 ?k3 ?k5 ?kA ?kF ?kK ?k6 ?k7 ?k8 ?k9 ?kB ?_ ?c2 ?c3 ?c4 ?c5; (case kA => exact rfl); (case kF => exact rfl); (case kK => assumption); (case k1 => k_asm); (case k2 => k_asm); (case k3 => k_asm); (case k5 => k_asm); (case k6 => k_is); (case k7 => k_is); (case k8 => ktr_room); (case k9 => first | exact BindsTo.of_eq rfl | (refine' kp_binds ?kx ?ke; (case kx => k_in); (case ke => exact fun _ => rfl))); (case c5 => decide); (case kB => exact locs rfl); (case c2 => exact rfl); (case c3 => exact rfl); (case c4 => exact rfl); k_whole; intro L' h' F' N' B' X' T'; (try dsimp only); (try k_lift B'); (try k_fold)))
  refine gen_toks ?_ (Nat.succ_pos _)
  intro tk0 htk0
  (repeat' (first | (k_unfold; (try dsimp only)) | ((with_reducible show wpAny _ _ (execs (_ :: _) _) _ _ (Shared.mk _ _ _ (_ + 1) _)); (refine gen_toks ?_ (Nat.succ_pos _)); intro tk9 hk9) | (k_here; (with_reducible show wpAny _ _ (call (Value.builtin "str.replace") [Value.str (strArr _) _, Value.str _ _, Value.str _ _]) _ _ _); (refine call_replace_amp (by assumption) (by assumption) (by refine neN ?_; omega) (by refine neN ?_; omega) (by refine neN ?_; omega) ?_); intro t9 k9) | ((with_reducible show wpAny _ _ (compareOp CmpOp.In _ _) _ _ _); with_reducible (k_here; first | (refine in_amp (by assumption) ?_) | (refine in_no (by decide) (by assumption) ?_))) | ((with_reducible show wpAny _ _ (call _ [Value.bytes _ _]) _ _ _); refine call_type_of (Tx := "bytes") rfl (by decide +kernel) ?_) | (k_end; wrow_close) | walk1 | (dsimp only; (first | ((with_reducible show wpAny _ _ (execs (_ :: _) _) _ _ (Shared.mk _ _ _ (_ + 1) _)); (refine gen_toks ?_ (Nat.succ_pos _)); intro tk9 hk9) | (k_here; (with_reducible show wpAny _ _ (call (Value.builtin "str.replace") [Value.str (strArr _) _, Value.str _ _, Value.str _ _]) _ _ _); (refine call_replace_amp (by assumption) (by assumption) (by refine neN ?_; omega) (by refine neN ?_; omega) (by refine neN ?_; omega) ?_); intro t9 k9) | ((with_reducible show wpAny _ _ (compareOp CmpOp.In _ _) _ _ _); with_reducible (k_here; first | (refine in_amp (by assumption) ?_) | (refine in_no (by decide) (by assumption) ?_))) | ((with_reducible show wpAny _ _ (call _ [Value.bytes _ _]) _ _ _); refine call_type_of (Tx := "bytes") rfl (by decide +kernel) ?_) | walk1)) | (leave1; walk_say "STEP leave1"; try dsimp only) | fail "no step"))
  all_goals exact ret_str (Q := Q) (s := s) hret (by assumption) rfl
end Mine
end
theorem Mine.zz41 : True := by
  k_with_none
  w_top off
  (have : True ∧ True := by
    (try walk1)
    all_goals (first | exact trivial | exact ⟨trivial, trivial⟩))
  trivial
-- T8
section
open PySem PySem.W PyProof.Rows PySem.Calls
set_option Elab.async false
set_option maxRecDepth 100000
set_option maxHeartbeats 8000000
set_option linter.unusedSimpArgs false
namespace Mine

theorem written_spec (w : World) (mean : ExcName → Option Value) (mg mb : Str → Option Value) (xs : List Int) (t u : Tok) (k : Int) (hf : Fig xs) (h4 : xs.length % 4 = 0) (hz : xs.length ≤ 10000) (hze : (esc xs).length ≤ 10000) (h62 : (62 : Int) ∈ xs) : Spec w mean mg mb 181 8 60 [.bytes (byteArr (octL xs)) t, .int k u] [] (BytesIs (byteArr (octL (esc xs)))) := by
  have hfe := esc_fig hf
  have h4e : (esc xs).length % 4 = 0 := by rw [esc_len]; omega
  have i1 := sgn_in hf
  have i2 : (xs.map sgn).length ≤ 16777216 := by rw [List.length_map]; omega
  have i3 : 0 < (xs.map sgn).length := by rw [List.length_map]; exact List.length_pos_of_mem h62
  unfold Spec
  k_fill
  intro dp un gd cn cs a ccd cl outer A₀ base h₀ L m s Q E B F X T hk hd hu hret
  refine wpAny_call ?_
  k_dflt ((refine' enter_def ?k1 ?k2 ?k3 ?k5 ?kA ?kF ?kK ?k6 ?k7 ?k8 ?k9 ?kB ?_ ?c2 ?c3 ?c4 ?c5; (case kA => exact rfl); (case kF => exact rfl); (case kK => assumption); (case k1 => k_asm); (case k2 => k_asm); (case k3 => k_asm); (case k5 => k_asm); (case k6 => k_is); (case k7 => k_is); (case k8 => ktr_room); (case k9 => first | exact BindsTo.of_eq rfl | (refine' kp_binds ?kx ?ke; (case kx => k_in); (case ke => exact fun _ => rfl))); (case c5 => decide); (case kB => exact locs rfl); (case c2 => exact rfl); (case c3 => exact rfl); (case c4 => exact rfl); k_whole; intro L' h' F' N' B' X' T'; (try dsimp only); (try k_lift B'); (try k_fold)))
  (repeat' (first | (k_unfold; (try dsimp only)) | ((with_reducible show wpAny _ _ (execs (_ :: _) _) _ _ _); k_here; (try k_made); (try k_gentoks); first | ((with_reducible refine gen_cons1 ?_); intro _ _) | ((with_reducible refine gen_cons2 ?_); intro _ _ _ _)) | ((with_reducible show Back _ _ _); (refine back_of (by with_reducible assumption) ?_); (try dsimp only)) | (k_here; (with_reducible show wpAny _ _ (call (Value.ref 160) [Value.str (strArr _) _] _) _ _ _); k_dflt (refine' use_spec (esc_attrib_c14n_spec _ _ _ _ _ _ (by assumption) (by assumption) (by assumption)) (by k_asm) (by k_asm) (by k_asm) (by k_asm) (by k_asm) (by first | exact rfl | assumption) (by ktr_room) (by ktr_units) ?_; k_whole); intro v9 h9 tk9 R9 F9 N9; obtain ⟨t9, hv9⟩ := R9; subst hv9; (try k_sweep)) | (k_here; (with_reducible show wpAny _ _ (call (Value.ref 153) [Value.str (strArr _) _] _) _ _ _); k_dflt (refine' use_spec (esc_cdata_c14n_spec _ _ _ _ _ _ (by assumption) (by assumption) (by assumption)) (by k_asm) (by k_asm) (by k_asm) (by k_asm) (by k_asm) (by first | exact rfl | assumption) (by ktr_room) (by ktr_units) ?_; k_whole); intro v9 h9 tk9 R9 F9 N9; obtain ⟨t9, hv9⟩ := R9; subst hv9; (try k_sweep)) | (k_here; (with_reducible show wpAny _ _ (call (Value.ref 146) [Value.str (strArr _) _] _) _ _ _); k_dflt (refine' use_spec (esc_attrib_html_spec _ _ _ _ _ _ (by assumption) (by assumption) (by assumption)) (by k_asm) (by k_asm) (by k_asm) (by k_asm) (by k_asm) (by first | exact rfl | assumption) (by ktr_room) (by ktr_units) ?_; k_whole); intro v9 h9 tk9 R9 F9 N9; obtain ⟨t9, hv9⟩ := R9; subst hv9; (try k_sweep)) | (k_here; (with_reducible show wpAny _ _ (call (Value.ref 139) [Value.str (strArr _) _] _) _ _ _); k_dflt (refine' use_spec (esc_attrib_spec _ _ _ _ _ _ (by assumption) (by assumption) (by assumption)) (by k_asm) (by k_asm) (by k_asm) (by k_asm) (by k_asm) (by first | exact rfl | assumption) (by ktr_room) (by ktr_units) ?_; k_whole); intro v9 h9 tk9 R9 F9 N9; obtain ⟨t9, hv9⟩ := R9; subst hv9; (try k_sweep)) | (k_here; (with_reducible show wpAny _ _ (call (Value.ref 132) [Value.str (strArr _) _] _) _ _ _); k_dflt (refine' use_spec (esc_cdata_spec _ _ _ _ _ _ (by assumption) (by assumption) (by assumption)) (by k_asm) (by k_asm) (by k_asm) (by k_asm) (by k_asm) (by first | exact rfl | assumption) (by ktr_room) (by ktr_units) ?_; k_whole); intro v9 h9 tk9 R9 F9 N9; obtain ⟨t9, hv9⟩ := R9; subst hv9; (try k_sweep)) | (k_here; (with_reducible show wpAny _ _ (call (Value.ref 118) [Value.str (strArr _) _, Value.bytes _ _, Value.bool _] _) _ _ _); k_dflt (refine' use_spec (b64decode_spec _ _ _ _ _ _ _ (by assumption) (by assumption) (by assumption)) (by k_asm) (by k_asm) (by k_asm) (by k_asm) (by k_asm) (by first | exact rfl | assumption) (by ktr_room) (by ktr_units) ?_; k_whole); intro v9 h9 tk9 R9 F9 N9; obtain ⟨t9, hv9⟩ := R9; subst hv9; (try k_sweep)) | (k_here; (with_reducible show wpAny _ _ (call (Value.ref 110) [Value.bytes (byteArr (octL _)) _, Value.bytes _ _] _) _ _ _); k_dflt (refine' use_spec (b64encode_fig _ _ _ _ _ _ _ (by assumption) (by assumption) (by assumption)) (by k_asm) (by k_asm) (by k_asm) (by k_asm) (by k_asm) (by first | exact rfl | assumption) (by ktr_room) (by ktr_units) ?_; k_whole); intro v9 h9 tk9 R9 F9 N9; obtain ⟨t9, hv9⟩ := R9; subst hv9; (try k_sweep)) | (k_here; (with_reducible show wpAny _ _ (call (Value.builtin "bytes.decode") [Value.bytes (byteArr _) _, Value.str _ _]) _ _ _); (refine call_decode_ascii (by assumption) (by assumption) (by assumption) ?_); intro t9 k9) | ((with_reducible show wpAny _ _ (call _ [Value.bytes _ _]) _ _ _); refine call_type_of (Tx := "bytes") rfl (by decide +kernel) ?_) | (k_end; wrow_close) | walk1 | (dsimp only; (first | ((with_reducible show wpAny _ _ (execs (_ :: _) _) _ _ _); k_here; (try k_made); (try k_gentoks); first | ((with_reducible refine gen_cons1 ?_); intro _ _) | ((with_reducible refine gen_cons2 ?_); intro _ _ _ _)) | ((with_reducible show Back _ _ _); (refine back_of (by with_reducible assumption) ?_); (try dsimp only)) | (k_here; (with_reducible show wpAny _ _ (call (Value.ref 160) [Value.str (strArr _) _] _) _ _ _); k_dflt (refine' use_spec (esc_attrib_c14n_spec _ _ _ _ _ _ (by assumption) (by assumption) (by assumption)) (by k_asm) (by k_asm) (by k_asm) (by k_asm) (by k_asm) (by first | exact rfl | assumption) (by ktr_room) (by ktr_units) ?_; k_whole); intro v9 h9 tk9 R9 F9 N9; obtain ⟨t9, hv9⟩ := R9; subst hv9; (try k_sweep)) | (k_here; (with_reducible show wpAny _ _ (call (Value.ref 153) [Value.str (strArr _) _] _) _ _ _); k_dflt (refine' use_spec (esc_cdata_c14n_spec _ _ _ _ _ _ (by assumption) (by assumption) (by assumption)) (by k_asm) (by k_asm) (by k_asm) (by k_asm) (by k_asm) (by first | exact rfl | assumption) (by ktr_room) (by ktr_units) ?_; k_whole); intro v9 h9 tk9 R9 F9 N9; obtain ⟨t9, hv9⟩ := R9; subst hv9; (try k_sweep)) | (k_here; (with_reducible show wpAny _ _ (call (Value.ref 146) [Value.str (strArr _) _] _) _ _ _); k_dflt (refine' use_spec (esc_attrib_html_spec _ _ _ _ _ _ (by assumption) (by assumption) (by assumption)) (by k_asm) (by k_asm) (by k_asm) (by k_asm) (by k_asm) (by first | exact rfl | assumption) (by ktr_room) (by ktr_units) ?_; k_whole); intro v9 h9 tk9 R9 F9 N9; obtain ⟨t9, hv9⟩ := R9; subst hv9; (try k_sweep)) | (k_here; (with_reducible show wpAny _ _ (call (Value.ref 139) [Value.str (strArr _) _] _) _ _ _); k_dflt (refine' use_spec (esc_attrib_spec _ _ _ _ _ _ (by assumption) (by assumption) (by assumption)) (by k_asm) (by k_asm) (by k_asm) (by k_asm) (by k_asm) (by first | exact rfl | assumption) (by ktr_room) (by ktr_units) ?_; k_whole); intro v9 h9 tk9 R9 F9 N9; obtain ⟨t9, hv9⟩ := R9; subst hv9; (try k_sweep)) | (k_here; (with_reducible show wpAny _ _ (call (Value.ref 132) [Value.str (strArr _) _] _) _ _ _); k_dflt (refine' use_spec (esc_cdata_spec _ _ _ _ _ _ (by assumption) (by assumption) (by assumption)) (by k_asm) (by k_asm) (by k_asm) (by k_asm) (by k_asm) (by first | exact rfl | assumption) (by ktr_room) (by ktr_units) ?_; k_whole); intro v9 h9 tk9 R9 F9 N9; obtain ⟨t9, hv9⟩ := R9; subst hv9; (try k_sweep)) | (k_here; (with_reducible show wpAny _ _ (call (Value.ref 118) [Value.str (strArr _) _, Value.bytes _ _, Value.bool _] _) _ _ _); k_dflt (refine' use_spec (b64decode_spec _ _ _ _ _ _ _ (by assumption) (by assumption) (by assumption)) (by k_asm) (by k_asm) (by k_asm) (by k_asm) (by k_asm) (by first | exact rfl | assumption) (by ktr_room) (by ktr_units) ?_; k_whole); intro v9 h9 tk9 R9 F9 N9; obtain ⟨t9, hv9⟩ := R9; subst hv9; (try k_sweep)) | (k_here; (with_reducible show wpAny _ _ (call (Value.ref 110) [Value.bytes (byteArr (octL _)) _, Value.bytes _ _] _) _ _ _); k_dflt (refine' use_spec (b64encode_fig _ _ _ _ _ _ _ (by assumption) (by assumption) (by assumption)) (by k_asm) (by k_asm) (by k_asm) (by k_asm) (by k_asm) (by first | exact rfl | assumption) (by ktr_room) (by ktr_units) ?_; k_whole); intro v9 h9 tk9 R9 F9 N9; obtain ⟨t9, hv9⟩ := R9; subst hv9; (try k_sweep)) | (k_here; (with_reducible show wpAny _ _ (call (Value.builtin "bytes.decode") [Value.bytes (byteArr _) _, Value.str _ _]) _ _ _); (refine call_decode_ascii (by assumption) (by assumption) (by assumption) ?_); intro t9 k9) | ((with_reducible show wpAny _ _ (call _ [Value.bytes _ _]) _ _ _); refine call_type_of (Tx := "bytes") rfl (by decide +kernel) ?_) | walk1)) | (leave1; walk_say "STEP leave1"; try dsimp only) | fail "no step"))
  all_goals exact ret_bytes (Q := Q) (s := s) hret (by assumption) rfl
end Mine
end
theorem Mine.zz42 : True := by
  k_with_none
  w_top off
  (have : True ∧ True := by
    (try walk1)
    all_goals (first | exact trivial | exact ⟨trivial, trivial⟩))
  trivial
-- T9
section
open PySem PySem.W PyProof.Rows PySem.Calls
set_option Elab.async false
set_option maxRecDepth 100000
set_option maxHeartbeats 8000000
set_option linter.unusedSimpArgs false
namespace Mine

theorem deed_spec (w : World) (mean : ExcName → Option Value) (mg mb : Str → Option Value) (xs : List Int) (t u : Tok) (n : Int) (hf : Fig xs) (h4 : xs.length % 4 = 0) (hz : xs.length ≤ 10000) (hze : (esc xs).length ≤ 10000) (h62 : (62 : Int) ∈ xs) : Spec w mean mg mb 188 10 70 [.bytes (byteArr (octL xs)) t, .int n u] [] (BytesIs (byteArr (octL (deedF xs n)))) := by
  have hfe := esc_fig hf
  have h4e : (esc xs).length % 4 = 0 := by rw [esc_len]; omega
  unfold Spec
  k_fill
  intro dp un gd cn cs a ccd cl outer A₀ base h₀ L m s Q E B F X T hk hd hu hret
  refine wpAny_call ?_
  k_dflt ((refine' enter_def ?k1 ?k2 ?k3 ?k5 ?kA ?kF ?kK ?k6 ?k7 ?k8 ?k9 ?kB ?_ ?c2 ?c3 ?c4 ?c5; (case kA => exact rfl); (case kF => exact rfl); (case kK => assumption); (case k1 => k_asm); (case k2 => k_asm); (case k3 => k_asm); (case k5 => k_asm); (case k6 => k_is); (case k7 => k_is); (case k8 => ktr_room); (case k9 => first | exact BindsTo.of_eq rfl | (refine' kp_binds ?kx ?ke; (case kx => k_in); (case ke => exact fun _ => rfl))); (case c5 => decide); (case kB => exact locs rfl); (case c2 => exact rfl); (case c3 => exact rfl); (case c4 => exact rfl); k_whole; intro L' h' F' N' B' X' T'; (try dsimp only); (try k_lift B'); (try k_fold)))
  (repeat' (first | (k_unfold; (try dsimp only)) | ((with_reducible show wpAny _ _ (execs (_ :: _) _) _ _ _); k_here; (try k_made); (try k_gentoks); first | ((with_reducible refine gen_cons1 ?_); intro _ _) | ((with_reducible refine gen_cons2 ?_); intro _ _ _ _)) | ((with_reducible show Back _ _ _); (refine back_of (by with_reducible assumption) ?_); (try dsimp only)) | (k_here; (with_reducible show wpAny _ _ (call (Value.ref 181) [Value.bytes (byteArr (octL _)) _, Value.int _ _] _) _ _ _); k_dflt (refine' use_spec (written_spec _ _ _ _ _ _ _ _ (by assumption) (by assumption) (by assumption) (by assumption) (by assumption)) (by k_asm) (by k_asm) (by k_asm) (by k_asm) (by k_asm) (by first | exact rfl | assumption) (by ktr_room) (by ktr_units) ?_; k_whole); intro v9 h9 tk9 R9 F9 N9; obtain ⟨t9, hv9⟩ := R9; subst hv9; (try k_sweep)) | (k_here; (with_reducible show wpAny _ _ (binaryOp Operator.Add (Value.bytes (byteArr (octL _)) _) (Value.bytes (byteArr (octL _)) _)) _ _ _); (refine add_oct (by assumption) (by assumption) (by assumption) (by assumption) ?_); intro t9 k9) | ((with_reducible show wpAny _ _ (call _ [Value.bytes _ _]) _ _ _); refine call_type_of (Tx := "bytes") rfl (by decide +kernel) ?_) | (k_end; wrow_close) | walk1 | (dsimp only; (first | ((with_reducible show wpAny _ _ (execs (_ :: _) _) _ _ _); k_here; (try k_made); (try k_gentoks); first | ((with_reducible refine gen_cons1 ?_); intro _ _) | ((with_reducible refine gen_cons2 ?_); intro _ _ _ _)) | ((with_reducible show Back _ _ _); (refine back_of (by with_reducible assumption) ?_); (try dsimp only)) | (k_here; (with_reducible show wpAny _ _ (call (Value.ref 181) [Value.bytes (byteArr (octL _)) _, Value.int _ _] _) _ _ _); k_dflt (refine' use_spec (written_spec _ _ _ _ _ _ _ _ (by assumption) (by assumption) (by assumption) (by assumption) (by assumption)) (by k_asm) (by k_asm) (by k_asm) (by k_asm) (by k_asm) (by first | exact rfl | assumption) (by ktr_room) (by ktr_units) ?_; k_whole); intro v9 h9 tk9 R9 F9 N9; obtain ⟨t9, hv9⟩ := R9; subst hv9; (try k_sweep)) | (k_here; (with_reducible show wpAny _ _ (binaryOp Operator.Add (Value.bytes (byteArr (octL _)) _) (Value.bytes (byteArr (octL _)) _)) _ _ _); (refine add_oct (by assumption) (by assumption) (by assumption) (by assumption) ?_); intro t9 k9) | ((with_reducible show wpAny _ _ (call _ [Value.bytes _ _]) _ _ _); refine call_type_of (Tx := "bytes") rfl (by decide +kernel) ?_) | walk1)) | (leave1; walk_say "STEP leave1"; try dsimp only) | fail "no step"))
  all_goals exact ret_bytes (Q := Q) (s := s) hret (by assumption) (by rw [deedF]; first | rw [if_pos (by assumption), if_pos (by assumption)] | rw [if_pos (by assumption), if_neg (by assumption)] | rw [if_neg (by assumption), if_pos (by assumption)] | rw [if_neg (by assumption), if_neg (by assumption)])
end Mine
end
theorem Mine.zz43 : True := by
  k_with_none
  w_top off
  (have : True ∧ True := by
    (try walk1)
    all_goals (first | exact trivial | exact ⟨trivial, trivial⟩))
  trivial
-- T13
section
open PySem PySem.W PyProof.Rows PySem.Calls
set_option Elab.async false
set_option maxRecDepth 100000
set_option maxHeartbeats 8000000
set_option linter.unusedSimpArgs false
namespace Mine

theorem reduce_spec (w : World) (mean : ExcName → Option Value) (mg mb : Str → Option Value) (l : Addr) (t : Tok) (vs : List Value) (ns row : List Int) (hi : IntsAre vs ns) (hn : ns.length ≤ 4) (hf : Fig row) (h4 : row.length % 4 = 0) (h8 : row.length ≤ 8) (h62 : (62 : Int) ∈ row) : SpecH w mean mg mb 37 12 90 [.ref 188, .ref l, .bytes (byteArr (octL row)) t] [] (fun h => h.IsList l vs.toArray) (BytesIs (byteArr (octL (ns.foldl deedF row)))) := by
  unfold SpecH
  k_fill
  intro dp un gd cn cs a ccd cl outer A₀ base h₀ L m s Q E B F X T hk hd hu hP hret
  refine wpAny_call ?_
  k_dflt ((refine' enter_def ?k1 ?k2 ?k3 ?k5 ?kA ?kF ?kK ?k6 ?k7 ?k8 ?k9 ?kB ?_ ?c2 ?c3 ?c4 ?c5; (case kA => exact rfl); (case kF => exact rfl); (case kK => assumption); (case k1 => k_asm); (case k2 => k_asm); (case k3 => k_asm); (case k5 => k_asm); (case k6 => k_is); (case k7 => k_is); (case k8 => ktr_room); (case k9 => first | exact BindsTo.of_eq rfl | (refine' kp_binds ?kx ?ke; (case kx => k_in); (case ke => exact fun _ => rfl))); (case c5 => decide); (case kB => exact locs rfl); (case c2 => exact rfl); (case c3 => exact rfl); (case c4 => exact rfl); k_whole; intro L' h' F' N' B' X' T'; (try dsimp only); (try k_lift B'); (try k_fold)))
  (repeat' ((fail_if_success (with_reducible show wpAny _ _ (pyIter _) _ _ _)); (first | (k_unfold; (try dsimp only)) | (first | ((with_reducible show wpAny _ _ (execs (_ :: _) _) _ _ _); k_here; (try k_made); (try k_gentoks); first | ((with_reducible refine gen_cons1 ?_); intro _ _) | ((with_reducible refine gen_cons2 ?_); intro _ _ _ _)) | ((with_reducible show Back _ _ _); (refine back_of (by with_reducible assumption) ?_); (try dsimp only)) | (k_here; (with_reducible show wpAny _ _ (call (Value.ref 188) [Value.bytes (byteArr (octL _)) _, Value.int _ _] _) _ _ _); k_dflt (refine' use_spec (deed_spec _ _ _ _ _ _ _ _ (by assumption) (by assumption) (by assumption) (by assumption) (by assumption)) (by k_asm) (by k_asm) (by k_asm) (by k_asm) (by k_asm) (by first | exact rfl | assumption) (by ktr_room) (by ktr_units) ?_; k_whole); intro v9 h9 tk9 R9 F9 N9; obtain ⟨t9, hv9⟩ := R9; subst hv9; (try k_sweep)) | (k_here; (with_reducible show wpAny _ _ (compareOp CmpOp.Is (Value.bytes _ _) (Value.ref _)) _ _ _); refine wpAny_is_other (by rfl) (by intro x; cases x) ?_) | (k_here; (with_reducible show wpAny _ _ (call (Value.builtin "iter") [Value.ref _]) _ _ _); k_dflt (refine iter_list (by k_asm) (by k_asm) (by assumption) ?_); intro I9 h9 F9 N9 l9; (try k_lt l9)) | ((with_reducible show wpAny _ _ (call _ [Value.bytes _ _]) _ _ _); refine call_type_of (Tx := "bytes") rfl (by decide +kernel) ?_) | walk1) | (dsimp only; (first | ((with_reducible show wpAny _ _ (execs (_ :: _) _) _ _ _); k_here; (try k_made); (try k_gentoks); first | ((with_reducible refine gen_cons1 ?_); intro _ _) | ((with_reducible refine gen_cons2 ?_); intro _ _ _ _)) | ((with_reducible show Back _ _ _); (refine back_of (by with_reducible assumption) ?_); (try dsimp only)) | (k_here; (with_reducible show wpAny _ _ (call (Value.ref 188) [Value.bytes (byteArr (octL _)) _, Value.int _ _] _) _ _ _); k_dflt (refine' use_spec (deed_spec _ _ _ _ _ _ _ _ (by assumption) (by assumption) (by assumption) (by assumption) (by assumption)) (by k_asm) (by k_asm) (by k_asm) (by k_asm) (by k_asm) (by first | exact rfl | assumption) (by ktr_room) (by ktr_units) ?_; k_whole); intro v9 h9 tk9 R9 F9 N9; obtain ⟨t9, hv9⟩ := R9; subst hv9; (try k_sweep)) | (k_here; (with_reducible show wpAny _ _ (compareOp CmpOp.Is (Value.bytes _ _) (Value.ref _)) _ _ _); refine wpAny_is_other (by rfl) (by intro x; cases x) ?_) | (k_here; (with_reducible show wpAny _ _ (call (Value.builtin "iter") [Value.ref _]) _ _ _); k_dflt (refine iter_list (by k_asm) (by k_asm) (by assumption) ?_); intro I9 h9 F9 N9 l9; (try k_lt l9)) | ((with_reducible show wpAny _ _ (call _ [Value.bytes _ _]) _ _ _); refine call_type_of (Tx := "bytes") rfl (by decide +kernel) ?_) | walk1)))))
  refine' kst_liter (σ := List Int × Tok) (vs := vs) (ns := ns) (fun c => [(Str.ofString "value", .bytes (byteArr (octL c.1)) c.2)]) (fun c => True) [] (fun pre d => d.1 = pre.foldl deedF row) ⟨row, _⟩ rfl (by assumption) (by assumption) (by k_asm) ?kn ?kf ?kk ?kp ?_ ?_
  (case kn => k_asm)
  (case kf => trivial)
  (case kk => kst_all)
  (case kp => rfl)
  · refine tup2 ?_
    rintro ys ty pre post k tt u h tk own hE hmem hoff hfa hp F1 N1
    have kMark := kstMark
    dsimp only [kstB, List.map, List.cons_append, List.nil_append] at hfa hp F1 N1 hoff ⊢
    have hpl : pre.length ≤ 4 := by
      have h1 : ns.length = pre.length + (post.length + 1) := by rw [hE]; simp
      omega
    obtain ⟨s1, s2, s3, s4, s5⟩ := sound_fold hf h4 h8 h62 hpl hp
    k_with "state" => (first | (rw [List.foldl_append, ← hp]; rfl))
    (repeat' (first | (k_unfold; (try dsimp only)) | ((with_reducible show wpAny _ _ (execs (_ :: _) _) _ _ _); k_here; (try k_made); (try k_gentoks); first | ((with_reducible refine gen_cons1 ?_); intro _ _) | ((with_reducible refine gen_cons2 ?_); intro _ _ _ _)) | ((with_reducible show Back _ _ _); (refine back_of (by with_reducible assumption) ?_); (try dsimp only)) | (k_here; (with_reducible show wpAny _ _ (call (Value.ref 188) [Value.bytes (byteArr (octL _)) _, Value.int _ _] _) _ _ _); k_dflt (refine' use_spec (deed_spec _ _ _ _ _ _ _ _ (by assumption) (by assumption) (by assumption) (by assumption) (by assumption)) (by k_asm) (by k_asm) (by k_asm) (by k_asm) (by k_asm) (by first | exact rfl | assumption) (by ktr_room) (by ktr_units) ?_; k_whole); intro v9 h9 tk9 R9 F9 N9; obtain ⟨t9, hv9⟩ := R9; subst hv9; (try k_sweep)) | (k_here; (with_reducible show wpAny _ _ (compareOp CmpOp.Is (Value.bytes _ _) (Value.ref _)) _ _ _); refine wpAny_is_other (by rfl) (by intro x; cases x) ?_) | (k_here; (with_reducible show wpAny _ _ (call (Value.builtin "iter") [Value.ref _]) _ _ _); k_dflt (refine iter_list (by k_asm) (by k_asm) (by assumption) ?_); intro I9 h9 F9 N9 l9; (try k_lt l9)) | ((with_reducible show wpAny _ _ (call _ [Value.bytes _ _]) _ _ _); refine call_type_of (Tx := "bytes") rfl (by decide +kernel) ?_) | (k_end; wrow_close) | walk1 | (dsimp only; (first | ((with_reducible show wpAny _ _ (execs (_ :: _) _) _ _ _); k_here; (try k_made); (try k_gentoks); first | ((with_reducible refine gen_cons1 ?_); intro _ _) | ((with_reducible refine gen_cons2 ?_); intro _ _ _ _)) | ((with_reducible show Back _ _ _); (refine back_of (by with_reducible assumption) ?_); (try dsimp only)) | (k_here; (with_reducible show wpAny _ _ (call (Value.ref 188) [Value.bytes (byteArr (octL _)) _, Value.int _ _] _) _ _ _); k_dflt (refine' use_spec (deed_spec _ _ _ _ _ _ _ _ (by assumption) (by assumption) (by assumption) (by assumption) (by assumption)) (by k_asm) (by k_asm) (by k_asm) (by k_asm) (by k_asm) (by first | exact rfl | assumption) (by ktr_room) (by ktr_units) ?_; k_whole); intro v9 h9 tk9 R9 F9 N9; obtain ⟨t9, hv9⟩ := R9; subst hv9; (try k_sweep)) | (k_here; (with_reducible show wpAny _ _ (compareOp CmpOp.Is (Value.bytes _ _) (Value.ref _)) _ _ _); refine wpAny_is_other (by rfl) (by intro x; cases x) ?_) | (k_here; (with_reducible show wpAny _ _ (call (Value.builtin "iter") [Value.ref _]) _ _ _); k_dflt (refine iter_list (by k_asm) (by k_asm) (by assumption) ?_); intro I9 h9 F9 N9 l9; (try k_lt l9)) | ((with_reducible show wpAny _ _ (call _ [Value.bytes _ _]) _ _ _); refine call_type_of (Tx := "bytes") rfl (by decide +kernel) ?_) | walk1)) | (leave1; walk_say "STEP leave1"; try dsimp only) | fail "no step"))
  · refine tup2 ?_
    rintro ys ty u h tk hfa hp F1 N1
    have kMark := kstMark
    dsimp only [kstB, List.map, List.cons_append, List.nil_append] at hfa hp F1 ⊢
    subst hp
    (repeat' (first | (k_unfold; (try dsimp only)) | ((with_reducible show wpAny _ _ (execs (_ :: _) _) _ _ _); k_here; (try k_made); (try k_gentoks); first | ((with_reducible refine gen_cons1 ?_); intro _ _) | ((with_reducible refine gen_cons2 ?_); intro _ _ _ _)) | ((with_reducible show Back _ _ _); (refine back_of (by with_reducible assumption) ?_); (try dsimp only)) | (k_here; (with_reducible show wpAny _ _ (call (Value.ref 188) [Value.bytes (byteArr (octL _)) _, Value.int _ _] _) _ _ _); k_dflt (refine' use_spec (deed_spec _ _ _ _ _ _ _ _ (by assumption) (by assumption) (by assumption) (by assumption) (by assumption)) (by k_asm) (by k_asm) (by k_asm) (by k_asm) (by k_asm) (by first | exact rfl | assumption) (by ktr_room) (by ktr_units) ?_; k_whole); intro v9 h9 tk9 R9 F9 N9; obtain ⟨t9, hv9⟩ := R9; subst hv9; (try k_sweep)) | (k_here; (with_reducible show wpAny _ _ (compareOp CmpOp.Is (Value.bytes _ _) (Value.ref _)) _ _ _); refine wpAny_is_other (by rfl) (by intro x; cases x) ?_) | (k_here; (with_reducible show wpAny _ _ (call (Value.builtin "iter") [Value.ref _]) _ _ _); k_dflt (refine iter_list (by k_asm) (by k_asm) (by assumption) ?_); intro I9 h9 F9 N9 l9; (try k_lt l9)) | ((with_reducible show wpAny _ _ (call _ [Value.bytes _ _]) _ _ _); refine call_type_of (Tx := "bytes") rfl (by decide +kernel) ?_) | (k_end; wrow_close) | walk1 | (dsimp only; (first | ((with_reducible show wpAny _ _ (execs (_ :: _) _) _ _ _); k_here; (try k_made); (try k_gentoks); first | ((with_reducible refine gen_cons1 ?_); intro _ _) | ((with_reducible refine gen_cons2 ?_); intro _ _ _ _)) | ((with_reducible show Back _ _ _); (refine back_of (by with_reducible assumption) ?_); (try dsimp only)) | (k_here; (with_reducible show wpAny _ _ (call (Value.ref 188) [Value.bytes (byteArr (octL _)) _, Value.int _ _] _) _ _ _); k_dflt (refine' use_spec (deed_spec _ _ _ _ _ _ _ _ (by assumption) (by assumption) (by assumption) (by assumption) (by assumption)) (by k_asm) (by k_asm) (by k_asm) (by k_asm) (by k_asm) (by first | exact rfl | assumption) (by ktr_room) (by ktr_units) ?_; k_whole); intro v9 h9 tk9 R9 F9 N9; obtain ⟨t9, hv9⟩ := R9; subst hv9; (try k_sweep)) | (k_here; (with_reducible show wpAny _ _ (compareOp CmpOp.Is (Value.bytes _ _) (Value.ref _)) _ _ _); refine wpAny_is_other (by rfl) (by intro x; cases x) ?_) | (k_here; (with_reducible show wpAny _ _ (call (Value.builtin "iter") [Value.ref _]) _ _ _); k_dflt (refine iter_list (by k_asm) (by k_asm) (by assumption) ?_); intro I9 h9 F9 N9 l9; (try k_lt l9)) | ((with_reducible show wpAny _ _ (call _ [Value.bytes _ _]) _ _ _); refine call_type_of (Tx := "bytes") rfl (by decide +kernel) ?_) | walk1)) | (leave1; walk_say "STEP leave1"; try dsimp only) | fail "no step"))
    exact ret_bytes (Q := Q) (s := s) hret (by assumption) rfl
end Mine
end
theorem Mine.zz44 : True := by
  k_with_none
  w_top off
  (have : True ∧ True := by
    (try walk1)
    all_goals (first | exact trivial | exact ⟨trivial, trivial⟩))
  trivial
-- LawTold
section
open PySem PySem.W PyProof.Rows PySem.Calls
set_option Elab.async false
set_option maxRecDepth 100000
set_option maxHeartbeats 8000000
set_option linter.unusedSimpArgs false
set_option linter.unusedVariables false
namespace Mine

theorem law_told (w : World) (mean : ExcName → Option Value) (mg mb : Str → Option Value) (L fa : Addr) (base h₀ : Heap) (m : Str → Option Value) (s : Shared) (Q : Flow → Shared → Prop) (E : Value → Shared → Prop) (o1 o2 o3 o4 o5 : Obj) (Dr Dn : Addr) (nr nn : Nat) (wr vn : List Value) (row nu : List Int) (B : Below callerA base [] h₀) (X : (Mine.fk.heap_1 w.params).In h₀) (T : TopM mean mg mb h₀) (l0 : @LT.lt Nat _ 23 L ∧ @LT.lt Nat _ 197 L)
    (F : Fr h₀ L s.heap m)
    (N : News h₀ L s.heap ((Dr, W.listOf wr.toArray nr) :: (Dn, W.listOf vn.toArray nn) :: (L + 1 + 1 + 1 + 1 + 1, o5) :: (L + 1 + 1 + 1 + 1, o4) :: (L + 1 + 1 + 1, o3) :: (L + 1 + 1, o2) :: (L + 1, o1) :: (23, tabObj #[]) :: (197, tabObj #[]) :: []))
    (lN : @LT.lt Nat _ (L + 1 + 1 + 1 + 1 + 1) Dn) (lR : @LT.lt Nat _ Dn Dr) (c1 : o1.data = .cell (some (.ref Dn)))(c2 : o2.data = .cell (some (.ref Dr))) (c3 : o3.data = .cell none) (c4 : o4.data = .cell none) (c5 : o5.data = .cell none) (hi : IntsAre wr row) (hj : IntsAre vn nu) (hf : Fig row) (h4 : row.length % 4 = 0) (h8 : row.length ≤ 8) (h62 : (62 : Int) ∈ row) (hn : nu.length ≤ 4)
    (hk : ∀ h' tk' tt, Fr h₀ L h' (fun y => if y = Str.ofString "told" then some (.bytes (byteArr (octL (nu.foldl deedF row))) tt) else m y) → News h₀ L h' ((Dr, W.listOf wr.toArray nr) :: (Dn, W.listOf vn.toArray nn) :: (L + 1 + 1 + 1 + 1 + 1, o5) :: (L + 1 + 1 + 1 + 1, o4) :: (L + 1 + 1 + 1, o3) :: (L + 1 + 1, o2) :: (L + 1, o1) :: (23, tabObj #[]) :: (197, tabObj #[]) :: []) →
      wpAny (model PySem.Challenge.rw_oy0177_01.row.prog w) (callerA.deeper (envOfC (Str.ofString "law") (lawFn w.params).scope L fa (Value.ref 199))) (execs (List.drop 4 (match (lawFn w.params).body with | .stmts l => l | _ => [])) (envOfC (Str.ofString "law") (lawFn w.params).scope L fa (Value.ref 199))) Q E { s with heap := h', toks := tk' }) :
    wpAny (model PySem.Challenge.rw_oy0177_01.row.prog w) (callerA.deeper (envOfC (Str.ofString "law") (lawFn w.params).scope L fa (Value.ref 199))) (execs (List.drop 3 (match (lawFn w.params).body with | .stmts l => l | _ => [])) (envOfC (Str.ofString "law") (lawFn w.params).scope L fa (Value.ref 199))) Q E s := by
  (conv in (List.drop 3 _) => whnf)
  repeat (conv in (FuncData.scope _) => whnf)
  (have reg : ∀ (w : World) (h : Heap), (Mine.fk.heap_1 w.params).In h → PySem.Challenge.rw_oy0177_01.row.prog = PySem.Challenge.rw_oy0177_01.row.prog := by (k_fill; intros; rfl))
  clear reg
  (repeat' ((fail_if_success (with_reducible show wpAny _ _ (call (Value.ref 174) _ _) _ _ _)); (first | (k_unfold; (try dsimp only)) | walk1 | (dsimp only; walk1))))
  (refine' use_specH (octets_spec _ _ _ _ _ _ _ hi hf h4 (by omega)) (by k_asm) (by k_asm) (by k_asm) (by k_asm) (by k_asm) (by first | exact rfl | assumption) (by ktr_room) (by ktr_units) (by kmk_list) ?_; intro v9 h9 tk9 R9 F9 N9; obtain ⟨t9, hv9⟩ := R9; subst hv9)
  (repeat' ((fail_if_success (with_reducible show wpAny _ _ (call (Value.ref 37) _ _) _ _ _)); (first | (k_unfold; (try dsimp only)) | walk1 | (dsimp only; walk1))))
  (refine' use_specH (reduce_spec _ _ _ _ _ _ _ _ _ hj hn hf h4 h8 h62) (by k_asm) (by k_asm) (by k_asm) (by k_asm) (by k_asm) (by first | exact rfl | assumption) (by ktr_room) (by ktr_units) (by kmk_list) ?_; intro v9 h9 tk9 R9 F9 N9; obtain ⟨t9, hv9⟩ := R9; subst hv9)
  walk1
  walk1
  refine' hk _ _ _ ?f ?n
  case f => assumption
  case n => exact news_sub (by assumption) (by lcg_sub)
end Mine
end
theorem Mine.zz45 : True := by
  k_with_none
  w_top off
  (have : True ∧ True := by
    (try walk1)
    all_goals (first | exact trivial | exact ⟨trivial, trivial⟩))
  trivial
-- CompCell
section
open PySem PySem.W PyProof.Rows PySem.Calls
set_option Elab.async false
set_option maxRecDepth 100000
namespace Mine
section
variable {prog : Program} {w : World} {A : Around} {E : Value → Shared → Prop} {s : Shared} {h₀ : Heap} {L : Addr} {m : Str → Option Value} {env : Env}
def cell0 : Obj := { cls := .type "cell", data := .cell none }
def dict0 : Obj := { cls := .type "dict", data := .dict #[] }
/-- the namespace of a block whose one cell is x -/
theorem fenv_one {x : Str} {scope : Scope} {cl : List (Str × Addr)} {Q : Env → Shared → Prop}
    (hcf : ∀ n, cellsFrom n scope.names cl = (x, n) :: cl) (hpc : ∀ h, pushCells h scope.names = h.push cell0)
    (hQ : Q { scope := scope, locals := s.heap.objs.size, globals := env.globals, cells := (x, s.heap.objs.size + 1) :: cl, qual := env.qual, func := none, code := env.code, frame := env.frame, builtins := env.builtins } { s with heap := (s.heap.push dict0).push cell0 }) :
    wpAny (model prog w) A (newFunctionEnv scope env.globals cl [] env.qual none .none (some env)) Q E s := by
  simp only [newFunctionEnv, Option.isSome_some, if_true]
  refine wpAny_bind (wpAny_alloc ?_)
  refine wpAny_bind (wpAny_layCells _ (fun name kind cells => by cases hkc : kind == NameKind.cell <;> simp [hkc]) _ _ _ _ ?_)
  rw [show ({ s with heap := s.heap.push { cls := .type "dict", data := .dict #[] } } : Shared).heap.objs.size = s.heap.objs.size + 1 from Heap.size_push ..]
  rw [hcf]
  dsimp only
  rw [hpc]
  refine wpAny_bind ?_
  rw [List.forIn_nil]
  exact wpAny_pure (wpAny_pure hQ)
/-- the turns over a range, the target in a cell -/
theorem cell_loop {elt iter : Expr} {x : Str} {px : Pos} {scope : Scope} {cl : List (Str × Addr)} {pos : Pos} {I D C c : Addr} {a : Int} {n : Nat} {news : List (Addr × Obj)} {RR : Result → Shared → Prop} {s₁ : Shared} (R : Nat → Value → Prop) (hh : A.handled = none) (hsz : n ≤ sizeLine)
    (hkind : scope.kind = .function) (hxk : (compEnvC scope ((x, c) :: cl) C env).kindOf x = some .cell)
    (l1 : ∀ p ∈ news, @LT.lt Nat _ p.1 I) (l2 : @LT.lt Nat _ I D) (l3 : @LT.lt Nat _ D C) (l4 : @LT.lt Nat _ C c) (hIL : L ≠ I) (hI₀ : h₀.get? I = none)
    (hEl : ∀ (i : Nat) t oI oc ys h tk (E' : Value → Shared → Prop), i < n → oc.data = .cell (some (.int (a + (i : Int)) t)) → Fr h₀ L h m → News h₀ L h ((c, oc) :: (C, dict0) :: (D, LCg.lst ys) :: (I, oI) :: news) →
        wpAny (model prog w) A (eval elt (compEnvC scope ((x, c) :: cl) C env)) (fun y s₃ => ∃ h' tk', s₃ = { s₁ with heap := h', toks := tk' } ∧ Fr h₀ L h' m ∧ News h₀ L h' ((c, oc) :: (C, dict0) :: (D, LCg.lst ys) :: (I, oI) :: news) ∧ R i y) E' { s₁ with heap := h, toks := tk })
    (hRR : ∀ h tk oc ys, Fr h₀ L h m → News h₀ L h ((c, oc) :: (C, dict0) :: (D, LCg.lst ys) :: news) → ys.length = n → (∀ (i : Nat) (y : Value), ys[i]? = some y → R i y) → RR (.ok .next) { s₁ with heap := h, toks := tk })
    {h : Heap} {tk₀ : Nat} {oc : Obj} {v₀ : Option Value} (F : Fr h₀ L h m) (N : News h₀ L h ((c, oc) :: (C, dict0) :: (D, LCg.lst []) :: news)) (hoc : oc.data = .cell v₀) (hst : IsRangeIter h I (a + (0 : Nat) * 1) ((n : Int) - (0 : Nat)) 1) :
    codeAny (model prog w) A (.compLoop (.ListComp elt [⟨.Name x px, iter, [], 0⟩] scope pos) 0 (.ref I) (.ref D) (compEnvC scope ((x, c) :: cl) C env)) RR { s₁ with heap := h, toks := tk₀ } := by
  have W := LCg.range_walks (prog := prog) (w := w) (A := A) (I := I) hh a n
  have nDI : D ≠ I := Ne.symm (Nat.ne_of_lt l2)
  have nCI : C ≠ I := Ne.symm (Nat.ne_of_lt (Nat.lt_trans l2 l3))
  have ncI : c ≠ I := Ne.symm (Nat.ne_of_lt (Nat.lt_trans (Nat.lt_trans l2 l3) l4))
  have nCD : C ≠ D := Ne.symm (Nat.ne_of_lt l3)
  have ncD : c ≠ D := Ne.symm (Nat.ne_of_lt (Nat.lt_trans l3 l4))
  have ncC : c ≠ C := Ne.symm (Nat.ne_of_lt l4)
  have nI : ∀ p ∈ news, p.1 ≠ I := fun p hp => Nat.ne_of_lt (l1 p hp)
  have nD : ∀ p ∈ news, p.1 ≠ D := fun p hp => Nat.ne_of_lt (Nat.lt_trans (l1 p hp) l2)
  have nc : ∀ p ∈ news, p.1 ≠ c := fun p hp => Nat.ne_of_lt (Nat.lt_trans (Nat.lt_trans (Nat.lt_trans (l1 p hp) l2) l3) l4)
  refine codeAny_compLoop_tests
    (fun k s' => ∃ h' tk i ys oc v₀, s' = { s₁ with heap := h', toks := tk } ∧ i ≤ n ∧ k = n + 1 - i ∧ ys.length = i ∧ IsRangeIter h' I (a + (i : Nat) * 1) ((n : Int) - (i : Nat)) 1 ∧ Fr h₀ L h' m ∧ oc.data = .cell v₀ ∧
      News h₀ L h' ((c, oc) :: (C, dict0) :: (D, LCg.lst ys) :: news) ∧ (∀ (j : Nat) (y : Value), ys[j]? = some y → R j y)) ?_ (n + 1)
    ⟨h, tk₀, 0, [], oc, v₀, rfl, Nat.zero_le _, rfl, rfl, hst, F, hoc, N, fun j y hy => by simp at hy⟩
  rintro k s' ⟨h', tk, i, ys, oc', v', rfl, hi, rfl, hyl, hst', F', hoc', N', hR⟩
  have hc' := N' _ (.head _)
  have hC' := N' _ (.tail _ (.head _))
  have hD' := N' _ (.tail _ (.tail _ (.head _)))
  have off' : ∀ p ∈ (c, oc') :: (C, dict0) :: (D, LCg.lst ys) :: news, p.1 ≠ I := by
    intro p hp
    rcases List.mem_cons.mp hp with rfl | hp
    · exact ncI
    rcases List.mem_cons.mp hp with rfl | hp
    · exact nCI
    rcases List.mem_cons.mp hp with rfl | hp
    · exact nDI
    · exact nI p hp
  by_cases hlt : i < n
  · refine W.item i _ _ _ hlt hst' fun v h₂ tk₂ hPv hst₂ hk₂ => ?_
    obtain ⟨t, rfl⟩ := hPv
    have F₂ := LCg.fr_but F' hk₂ hIL hI₀
    have N₂ := LCg.news_but N' hk₂ off'
    have hc₂ := N₂ _ (.head _)
    refine wpAny_assign_Name (wpAny_storeName_cell (c := c) (by show (relabel scope env).kind = _; exact hkind) hxk (by simp [compEnvC]) ⟨oc', hc₂.1, hoc'⟩ fun h₃ hv₃ hs₃ => ?_)
    refine wpAny_tests_nil ?_
    simp only [if_true]
    obtain ⟨oc₃, ho₃, hd₃⟩ := hv₃
    have F₃ : Fr h₀ L h₃ m := F₂.change hs₃ hc₂.2.1 hc₂.2.2
    obtain ⟨oI, heI⟩ : ∃ oI, h₂.get? I = some oI := ⟨_, hst₂⟩
    have heI₃ : h₃.get? I = some oI := hs₃.extBut _ _ (Ne.symm ncI) heI
    have N₃ : News h₀ L h₃ ((c, oc₃) :: (C, dict0) :: (D, LCg.lst ys) :: (I, oI) :: news) := by
      intro p hp
      rcases List.mem_cons.mp hp with rfl | hp
      · exact ⟨ho₃, hc₂.2⟩
      rcases List.mem_cons.mp hp with rfl | hp
      · have z := N₂ _ (.tail _ (.head _)); exact ⟨hs₃.extBut _ _ (Ne.symm ncC) z.1, z.2⟩
      rcases List.mem_cons.mp hp with rfl | hp
      · have z := N₂ _ (.tail _ (.tail _ (.head _))); exact ⟨hs₃.extBut _ _ (Ne.symm ncD) z.1, z.2⟩
      rcases List.mem_cons.mp hp with rfl | hp
      · exact ⟨heI₃, Ne.symm hIL, hI₀⟩
      · have z := N₂ p (.tail _ (.tail _ (.tail _ hp))); exact ⟨hs₃.extBut _ _ (nc p hp) z.1, z.2⟩
    refine wpAny_mono (hEl i t oI oc₃ ys h₃ tk₂ _ hlt hd₃ F₃ N₃) (fun y s₄ h₄ => ?_) fun _ _ e => e
    obtain ⟨h₄, tk₄, rfl, F₄, N₄, r₄⟩ := h₄
    have zD := N₄ _ (.tail _ (.tail _ (.head _)))
    have zI := (N₄ _ (.tail _ (.tail _ (.tail _ (.head _))))).1
    refine append_at (hsz := by show ys.toArray.size ≤ sizeLine; rw [List.size_toArray, hyl]; exact Nat.le_trans hi hsz) zD.1 fun h₅ hs₅ hD₅ => ?_
    have hst₅ : IsRangeIter h₅ I (a + ((i + 1 : Nat) : Int) * 1) ((n : Int) - (i + 1 : Nat)) 1 := by
      have e1 : h₂.get? I = some _ := hst₂
      have e2 : h₅.get? I = some oI := hs₅.extBut _ _ (Ne.symm nDI) zI
      show h₅.get? I = some _
      rw [e2, ← heI]; exact e1
    refine ⟨n + 1 - (i + 1), by (first | lia | omega), h₅, tk₄, i + 1, ys ++ [y], oc₃, _, rfl, hlt, rfl, by rw [List.length_append, List.length_singleton, hyl], hst₅, F₄.change hs₅ zD.2.1 zD.2.2, hd₃, ?_, ?_⟩
    · intro p hp
      rcases List.mem_cons.mp hp with rfl | hp
      · have z := N₄ _ (.head _); exact ⟨hs₅.extBut _ _ ncD z.1, z.2⟩
      rcases List.mem_cons.mp hp with rfl | hp
      · have z := N₄ _ (.tail _ (.head _)); exact ⟨hs₅.extBut _ _ nCD z.1, z.2⟩
      rcases List.mem_cons.mp hp with rfl | hp
      · exact ⟨hD₅.trans (congrArg some (LCg.lst_snoc ys y)), zD.2⟩
      · have z := N₄ p (.tail _ (.tail _ (.tail _ (.tail _ hp)))); exact ⟨hs₅.extBut _ _ (nD p hp) z.1, z.2⟩
    · intro j z hz
      by_cases hj : j < ys.length
      · rw [List.getElem?_append_left hj] at hz; exact hR j z hz
      · rw [List.getElem?_append_right (by (first | lia | omega))] at hz
        have e0 : j - ys.length = 0 := by
          rcases Nat.eq_zero_or_pos (j - ys.length) with h0 | h0
          · exact h0
          · rw [List.getElem?_eq_none (show [y].length ≤ j - ys.length from h0)] at hz; cases hz
        rw [e0] at hz
        have ej : j = i := by (first | lia | omega)
        subst ej
        have : y = z := by simpa using hz
        exact this ▸ r₄
  · obtain rfl : i = n := Nat.le_antisymm hi (Nat.not_lt.mp hlt)
    refine W.done _ _ _ hst' fun h₂ tk₂ hk₂ => ?_
    exact hRR h₂ tk₂ oc' ys (LCg.fr_but F' hk₂ hIL hI₀) (LCg.news_but N' hk₂ off') hyl hR
theorem comp_cell {elt iter : Expr} {x : Str} {px : Pos} {scope : Scope} {cl : List (Str × Addr)} {pos : Pos} {Q : Value → Shared → Prop} (R : Nat → Value → Prop)
    (hclos : closureFor scope env = pure cl) (hkind : scope.kind = .function) (hnames : ∀ y ∈ scope.names, y.2 = .local → scope.names.lookup y.1 = some .local)
    (hcf : ∀ n, cellsFrom n scope.names cl = (x, n) :: cl) (hpc : ∀ h, pushCells h scope.names = h.push cell0)
    (hxk : ∀ C c, (compEnvC scope ((x, c) :: cl) C env).kindOf x = some .cell)
    (h : wpAny (model prog w) A (eval iter env) (fun xv s₁ => ∃ r a b t u v n news, xv = .ref r ∧ A.handled = none ∧ Fr h₀ L s₁.heap m ∧ News h₀ L s₁.heap news ∧ IsRange s₁.heap r a b 1 t u v ∧ Builtin.Range.small a b 1 = true ∧ Builtin.Range.rangeSize a b 1 = ((n : Nat) : Int) ∧ n ≤ sizeLine ∧
      (∀ (i : Nat) t I oI C oC c oc D ys h tk (E' : Value → Shared → Prop), i < n → oc.data = .cell (some (.int (a + (i : Int)) t)) → (∀ p ∈ news, p.1 < I) → @LT.lt Nat _ I D → @LT.lt Nat _ D C → @LT.lt Nat _ C c → Fr h₀ L h m → News h₀ L h ((c, oc) :: (C, oC) :: (D, LCg.lst ys) :: (I, oI) :: news) →
        wpAny (model prog w) A (eval elt (compEnvC scope ((x, c) :: cl) C env)) (fun y s₃ => ∃ h' tk', s₃ = { s₁ with heap := h', toks := tk' } ∧ Fr h₀ L h' m ∧ News h₀ L h' ((c, oc) :: (C, oC) :: (D, LCg.lst ys) :: (I, oI) :: news) ∧ R i y) E' { s₁ with heap := h, toks := tk }) ∧
      (∀ D h tk ys, Fr h₀ L h m → News h₀ L h ((D, LCg.lst ys) :: news) → (∀ p ∈ news, p.1 < D) → ys.length = n → (∀ i y, ys[i]? = some y → R i y) → Q (.ref D) { s₁ with heap := h, toks := tk })) E s)
    (hs : ∀ x, foldedSetIterable iter env x = pure x := by intro _; rfl) :
    wpAny (model prog w) A (eval (.ListComp elt [⟨.Name x px, iter, [], 0⟩] scope pos) env) Q E s := by
  rw [eval_ListComp]
  refine wpAny_comprehension_free (use := none) rfl hs hclos hkind hnames (wpAny_mono h (fun xv s₁ h₁ => ?_) fun _ _ e => e)
  obtain ⟨r, a, b, t, u, v, n, news, rfl, hh, F, N, hr, hsm, hn, hsz, hEl, hFin⟩ := h₁
  refine wpAny_pyIter_range hr hsm ?_
  refine wpAny_newObj_type (fenv_one hcf hpc ?_)
  dsimp only
  generalize hit : ({ cls := .type "range_iterator", data := .fields #[rawInt a, rawInt (Builtin.Range.rangeSize a b 1), rawInt 1] } : Obj) = it
  generalize hH1 : s₁.heap.push it = H1
  have z1 : H1.objs.size = s₁.heap.objs.size + 1 := by rw [← hH1, Heap.size_push]
  generalize hl : ({ cls := .type "list", data := .seq #[] } : Obj) = lo
  generalize hH2 : H1.push lo = H2
  have z2 : H2.objs.size = H1.objs.size + 1 := by rw [← hH2, Heap.size_push]
  generalize hH3 : H2.push dict0 = H3
  have z3 : H3.objs.size = H2.objs.size + 1 := by rw [← hH3, Heap.size_push]
  have k1 : ∀ b o, s₁.heap.get? b = some o → H1.get? b = some o := fun b o e => hH1 ▸ Heap.get?_push_of_some _ e
  have k2 : ∀ b o, H1.get? b = some o → H2.get? b = some o := fun b o e => hH2 ▸ Heap.get?_push_of_some _ e
  have k3 : ∀ b o, H2.get? b = some o → H3.get? b = some o := fun b o e => hH3 ▸ Heap.get?_push_of_some _ e
  have k4 : ∀ b o, H3.get? b = some o → (H3.push cell0).get? b = some o := fun b o e => Heap.get?_push_of_some _ e
  have kk : ∀ b o, s₁.heap.get? b = some o → (H3.push cell0).get? b = some o := fun b o e => k4 b o (k3 b o (k2 b o (k1 b o e)))
  have hI : (H3.push cell0).get? s₁.heap.objs.size = some it := k4 _ _ (k3 _ _ (k2 _ _ (hH1 ▸ Heap.get?_push_size _ (by subst hit; rfl))))
  have hD : (H3.push cell0).get? H1.objs.size = some (LCg.lst []) := k4 _ _ (k3 _ _ (hH2 ▸ (Heap.get?_push_size _ (by subst hl; rfl)).trans (by subst hl; rfl)))
  have hC : (H3.push cell0).get? H2.objs.size = some dict0 := k4 _ _ (hH3 ▸ Heap.get?_push_size _ rfl)
  have hc : (H3.push cell0).get? (H2.objs.size + 1) = some cell0 := by rw [← z3]; exact Heap.get?_push_size _ rfl
  have hLlt : @LT.lt Nat _ L s₁.heap.objs.size := F.ns.lt
  have fresh : ∀ q : Nat, s₁.heap.objs.size ≤ q → h₀.get? q = none := fun q hq => by
    cases e : h₀.get? q with
    | none => rfl
    | some o' => exact absurd (Heap.lt_size (F.keep q o' e)) (Nat.not_lt.mpr hq)
  have l1 : ∀ p ∈ news, @LT.lt Nat _ p.1 s₁.heap.objs.size := fun p hp => Heap.lt_size (N p hp).1
  have l2 : @LT.lt Nat _ s₁.heap.objs.size H1.objs.size := by (first | lia | omega)
  have l3 : @LT.lt Nat _ H1.objs.size H2.objs.size := by (first | lia | omega)
  have l4 : @LT.lt Nat _ H2.objs.size (H2.objs.size + 1) := by (first | lia | omega)
  have ap : ∀ q : Nat, s₁.heap.objs.size ≤ q → q ≠ L ∧ h₀.get? q = none := fun q hq => ⟨Ne.symm (Nat.ne_of_lt (Nat.lt_of_lt_of_le hLlt hq)), fresh q hq⟩
  have hst : IsRangeIter (H3.push cell0) s₁.heap.objs.size (a + (0 : Nat) * 1) ((n : Int) - (0 : Nat)) 1 := by
    show (H3.push cell0).get? s₁.heap.objs.size = some _
    rw [hI, ← hit, hn]; simp [rawInt]
  have N₀ : News h₀ L (H3.push cell0) ((H2.objs.size + 1, cell0) :: (H2.objs.size, dict0) :: (H1.objs.size, LCg.lst []) :: news) := by
    intro p hp
    rcases List.mem_cons.mp hp with rfl | hp
    · exact ⟨hc, ap _ (by show s₁.heap.objs.size ≤ H2.objs.size + 1; (first | lia | omega))⟩
    rcases List.mem_cons.mp hp with rfl | hp
    · exact ⟨hC, ap _ (by show s₁.heap.objs.size ≤ H2.objs.size; (first | lia | omega))⟩
    rcases List.mem_cons.mp hp with rfl | hp
    · exact ⟨hD, ap _ (by show s₁.heap.objs.size ≤ H1.objs.size; (first | lia | omega))⟩
    · exact ⟨kk _ _ (N p hp).1, (N p hp).2⟩
  have loop := cell_loop (elt := elt) (iter := iter) (px := px) (pos := pos) (x := x) (cl := cl) (scope := scope) (I := s₁.heap.objs.size) (D := H1.objs.size) (C := H2.objs.size) (c := H2.objs.size + 1) (env := env) (RR := compPost (model prog w) A E none Q (.ref H1.objs.size) H2.objs.size) (tk₀ := s₁.toks) R hh hsz hkind (hxk _ _) l1 l2 l3 l4 (Nat.ne_of_lt hLlt) (fresh _ (Nat.le_refl _))
    (fun i t oI oc ys h tk E' hi hd F N => hEl i t _ oI _ dict0 _ oc _ ys h tk E' hi hd l1 l2 l3 l4 F N)
    (fun h tk oc ys F N hy hR => by
      have zC := N _ (.tail _ (.head _))
      refine ⟨fun _ => none, ⟨dict0, #[], _, zC.1, rfl, ?_, fun _ => rfl⟩, fun h'' hs'' => hFin _ h'' tk ys (F.change hs'' zC.2.1 zC.2.2) (fun p hp => ?_) (fun p hp => Nat.lt_trans (l1 p hp) l2) hy hR⟩
      · intro e he; simp at he
      · rcases List.mem_cons.mp hp with rfl | hp
        · have z := N _ (.tail _ (.tail _ (.head _))); exact ⟨hs''.extBut _ _ (Nat.ne_of_lt l3) z.1, z.2⟩
        · have z := N p (.tail _ (.tail _ (.tail _ hp))); exact ⟨hs''.extBut _ _ (Nat.ne_of_lt (Nat.lt_trans (Nat.lt_trans (l1 p hp) l2) l3)) z.1, z.2⟩)
    (F.keeps kk) N₀ rfl hst
  exact codeAny_compStart_list loop ((LCg.range_walks (prog := prog) (w := w) (I := s₁.heap.objs.size) hh a n).self 0 _ _ _ hst loop)
end
end Mine
end
theorem Mine.zz46 : True := by
  k_with_none
  w_top off
  (have : True ∧ True := by
    (try walk1)
    all_goals (first | exact trivial | exact ⟨trivial, trivial⟩))
  trivial
-- RulesS
section
open PySem PySem.W PyProof.Rows PySem.Calls
set_option Elab.async false
set_option maxRecDepth 100000
namespace Mine
section
variable {prog : Program} {w : World} {A : Around} {E : Value → Shared → Prop} {s : Shared} {h₀ : Heap} {L : Addr} {m : Str → Option Value} {news : List (Addr × Obj)}
theorem sum_new {D : Addr} {vs : List Value} {ns : List Int} {Q : Value → Shared → Prop} (hh : A.handled = none) (F : Fr h₀ L s.heap m) (N : News h₀ L s.heap news) (hm : (D, LCg.lst vs) ∈ news) (hi : IntsAre vs ns)
    (h : ∀ h' tk t', Fr h₀ L h' m → News h₀ L h' news → Q (.int ns.sum t') { s with heap := h', toks := tk }) :
    wpAny (model prog w) A (call (.builtin "sum") [.ref D]) Q E s := by
  have hl : s.heap.IsList D vs.toArray := ⟨_, (N _ hm).1, rfl, _, rfl⟩
  obtain ⟨xs, hx⟩ := hi.allInts.items
  have hn : numsOf vs.toArray.toList = ns := by rw [show vs.toArray.toList = vs from rfl, hi.numsOf]
  rw [hx] at hl hn
  rw [nums_intItems] at hn
  refine sum_intListG hh hl fun h' tk t' hk => ?_
  have := h h' tk t' (F.keeps hk) (N.grown hk)
  rw [preSum_eq, List.take_of_length_le (by simp), hn]
  exact this
end
end Mine
end
theorem Mine.zz47 : True := by
  k_with_none
  w_top off
  (have : True ∧ True := by
    (try walk1)
    all_goals (first | exact trivial | exact ⟨trivial, trivial⟩))
  trivial
-- LawTimes
section
open PySem PySem.W PyProof.Rows PySem.Calls
set_option Elab.async false
set_option maxRecDepth 100000
set_option maxHeartbeats 8000000
set_option linter.unusedSimpArgs false
set_option linter.unusedVariables false
namespace Mine
def tS (nu : List Int) (i s : Nat) : Int := ((nu.getD s 0).fdiv (2 ^ ((((i : Int)).fdiv (2 ^ s)).fmod 2).toNat)).fmod 2
theorem int_tok {a b : Int} {t : Tok} (e : a = b) : ∃ t2, Value.int a t = Value.int b t2 := ⟨t, by rw [e]⟩
def tI (nu : List Int) (i : Nat) : Int := [tS nu i 0, tS nu i 1, tS nu i 2, tS nu i 3].sum
def tL (nu : List Int) : List Int := (List.range 16).map (tI nu)
theorem law_times (w : World) (mean : ExcName → Option Value) (mg mb : Str → Option Value) (L fa : Addr) (base h₀ : Heap) (m : Str → Option Value) (s : Shared) (Q : Flow → Shared → Prop) (E : Value → Shared → Prop) (o1 o2 o3 o4 o5 : Obj) (Dr Dn : Addr) (nr nn : Nat) (wr vn : List Value) (row nu : List Int) (B : Below callerA base [] h₀) (X : (Mine.fk.heap_1 w.params).In h₀) (T : TopM mean mg mb h₀) (l0 : @LT.lt Nat _ 23 L ∧ @LT.lt Nat _ 197 L)
    (F : Fr h₀ L s.heap m)
    (N : News h₀ L s.heap ((Dr, W.listOf wr.toArray nr) :: (Dn, W.listOf vn.toArray nn) :: (L + 1 + 1 + 1 + 1 + 1, o5) :: (L + 1 + 1 + 1 + 1, o4) :: (L + 1 + 1 + 1, o3) :: (L + 1 + 1, o2) :: (L + 1, o1) :: (23, tabObj #[]) :: (197, tabObj #[]) :: []))
    (lN : @LT.lt Nat _ (L + 1 + 1 + 1 + 1 + 1) Dn) (lR : @LT.lt Nat _ Dn Dr) (c1 : o1.data = .cell (some (.ref Dn)))(c2 : o2.data = .cell (some (.ref Dr))) (c3 : o3.data = .cell none) (c4 : o4.data = .cell none) (c5 : o5.data = .cell none) (hi : IntsAre wr row) (hj : IntsAre vn nu) (hn : nu.length = 4)
    (hk : ∀ h' tk' Dt nt wt o3', Fr h₀ L h' m → News h₀ L h' ((Dt, W.listOf (List.toArray wt) nt) :: (Dr, W.listOf wr.toArray nr) :: (Dn, W.listOf vn.toArray nn) :: (L + 1 + 1 + 1 + 1 + 1, o5) :: (L + 1 + 1 + 1 + 1, o4) :: (L + 1 + 1 + 1, o3') :: (L + 1 + 1, o2) :: (L + 1, o1) :: (23, tabObj #[]) :: (197, tabObj #[]) :: []) → @LT.lt Nat _ Dr Dt → o3'.data = .cell (some (.ref Dt)) → IntsAre wt (tL nu) →
      wpAny (model PySem.Challenge.rw_oy0177_01.row.prog w) (callerA.deeper (envOfC (Str.ofString "law") (lawFn w.params).scope L fa (Value.ref 199))) (execs (List.drop 5 (match (lawFn w.params).body with | .stmts l => l | _ => [])) (envOfC (Str.ofString "law") (lawFn w.params).scope L fa (Value.ref 199))) Q E { s with heap := h', toks := tk' }) :
    wpAny (model PySem.Challenge.rw_oy0177_01.row.prog w) (callerA.deeper (envOfC (Str.ofString "law") (lawFn w.params).scope L fa (Value.ref 199))) (execs (List.drop 4 (match (lawFn w.params).body with | .stmts l => l | _ => [])) (envOfC (Str.ofString "law") (lawFn w.params).scope L fa (Value.ref 199))) Q E s := by
  (conv in (List.drop 4 _) => whnf)
  repeat (conv in (FuncData.scope _) => whnf)
  (have reg : ∀ (w : World) (h : Heap), (Mine.fk.heap_1 w.params).In h → PySem.Challenge.rw_oy0177_01.row.prog = PySem.Challenge.rw_oy0177_01.row.prog := by (k_fill; intros; rfl))
  clear reg
  (repeat' ((fail_if_success (with_reducible show wpAny _ _ (eval (Expr.ListComp _ _ _ _) _) _ _ _)); (first | ((with_reducible show wpAny _ _ (subscriptTail (Expr.BinOp _ _ _ _) _ _ _) _ _ _); (k_here; (with_reducible show wpAny _ _ (subscriptTail _ (PySem.Expr.Slice _ _ none _) (Value.ref _) (Value.ref _)) _ _ _); k_dflt (refine' slice_temp (by k_asm) (by k_asm) (by kmk_list) (by kmk_part) (by kmk_part) (by l_ints) (by kmk_nums) ?_ (by with_unfolding_all rfl) (by kmk_size); ); intro D' ws' h' F' N' l1 hI'; (try simp only [Int.reduceNeg, Int.neg_neg, Int.reduceToNat] at hI'); (try k_lt l1); (try k_sweep))) | (k_unfold; (try dsimp only)) | walk1 | (dsimp only; walk1))))
  refine comp_cell (h₀ := h₀) (L := L) (m := m) (fun i y => ∃ t, y = .int (tI nu i) t) (by rfl) (by rfl) (by decide) (by intro _; rfl) (by intro _; rfl) (by intro _ _; rfl) ?_
  (repeat' ((fail_if_success (with_reducible show Exists _)); (first | (k_unfold; (try dsimp only)) | walk1 | (dsimp only; walk1))))
  refine ⟨_, _, _, _, _, _, 16, _, rfl, by rfl, by k_asm, by k_asm, by assumption, by decide, by decide, by decide, ?_, ?_⟩
  · intro i t I oI C oC c oc D ys h tk E' hi hd l1 l2 l3 l4 F1 N1
    walk1
    walk1
    walk1
    walk1
    refine LCg.ListComp_U (F₀ := by k_asm) (by rfl) (by decide) (by rfl) (by decide) (by rfl) ?_
    (repeat' ((fail_if_success (with_reducible show LCg.CompSrc _ _ _ _ _ _ _ _ _ _ _ _ _ _)); (first | (k_unfold; (try dsimp only)) | walk1 | (dsimp only; walk1))))
    refine LCg.CompSrc.range (n := 4) (by rfl) (by k_asm) (by k_asm) (by assumption) (by decide) (by decide) (by decide) ?_
    intro g'
    refine rest_of 4 (fun sI y => ∃ t, y = .int (tS nu i sI) t) trivial ?_ ?_
    · intro sI v I2 oI2 C2 oC2 D2 ys2 m2 h2 tk2 E2 hi2 hP hC2 hx F2 N2
      obtain ⟨ts, rfl⟩ := hP
      have hx : m2 (Str.ofString "s") = some (.int (sI : Int) ts) := by rw [hx, Int.zero_add]
      have hs0 : (0 : Int) ≤ (sI : Int) := by omega
      have hs3 : (sI : Int) ≤ 3 := by omega
      (repeat' ((fail_if_success (with_reducible show Exists _)); (first | (k_unfold; (try dsimp only)) | walk1 | (dsimp only; walk1))))
      refine ⟨_, _, rfl, by assumption, by assumption, int_tok ?_⟩
      unfold tS
      rw [Int.zero_add]
      rfl
    · intro ys2 hl2 hR2
      intro D9 h9 tk9 F9 N9 o9
      (repeat' ((fail_if_success (with_reducible show Exists _)); (first | (k_unfold; (try dsimp only)) | walk1 | (dsimp only; walk1))))
      refine' sum_new (ns := [tS nu i 0, tS nu i 1, tS nu i 2, tS nu i 3]) ?hh ?F ?N ?m ?i ?_
      case hh => rfl
      case F => k_asm
      case N => k_asm
      case m => exact List.Mem.head _
      case i =>
        refine ints_of (by rw [hl2]; rfl) fun j y hy => ?_
        obtain ⟨t, rfl⟩ := hR2 j y hy
        have hj4 : j < 4 := by
          have := (List.getElem?_eq_some_iff.mp hy).1
          omega
        rcases (show j = 0 ∨ j = 1 ∨ j = 2 ∨ j = 3 by omega) with rfl | rfl | rfl | rfl <;> exact ⟨_, _, rfl, rfl⟩
      intro h8 tk8 t8 F8 N8
      exact ⟨_, _, rfl, by assumption, news_sub (by assumption) (fun p hp => List.Mem.tail _ hp), _, rfl⟩
  · intro D h tk ys F1 N1 l1 hl hR
    have hT : IntsAre ys ((List.range 16).map (tI nu)) := by
      refine ints_of (by rw [hl]; rfl) fun j y hy => ?_
      obtain ⟨t, rfl⟩ := hR j y hy
      have hj := (List.getElem?_eq_some_iff.mp hy).1
      refine ⟨_, _, ?_, rfl⟩
      rw [List.getElem?_map, List.getElem?_range (by omega)]; rfl
    k_lt l1
    walk1
    walk1
    refine' hk _ _ D _ ys ?o ?f ?n ?l ?d ?i
    case d => assumption
    case f => assumption
    case n => exact news_sub (by assumption) (by lcg_sub)
    case l => exact l1.1
    case i => exact hT
end Mine
end
theorem Mine.zz48 : True := by
  k_with_none
  w_top off
  (have : True ∧ True := by
    (try walk1)
    all_goals (first | exact trivial | exact ⟨trivial, trivial⟩))
  trivial
-- T12
section
open PySem PySem.W PyProof.Rows PySem.Calls
set_option Elab.async false
set_option maxRecDepth 100000
set_option maxHeartbeats 8000000
set_option linter.unusedSimpArgs false
namespace Mine

theorem amps_some {x : Int} (h : x = 1 ∨ x = 2 ∨ x = 3 ∨ x = 4) : amps x.toNat = (List.replicate x.toNat [26, 38, 41, 63]).flatten := rfl
theorem copy_specI (w : World) (mean : ExcName → Option Value) (mg mb : Str → Option Value) (l : Addr) (t : Tok) (vs : List Value) (ns : List Int) (hi : IntsAre vs ns) (hf : Fig ns) (h4 : ns.length % 4 = 0) (hz : ns.length ≤ 100) (x : Int) (hx : x = 0 ∨ x = 1 ∨ x = 2 ∨ x = 3 ∨ x = 4) : SpecH w mean mg mb 195 2 40 [.ref l, .int x t] [] (fun h => h.IsList l vs.toArray) (BytesIs (byteArr (octL (cpF ns x.toNat)))) := by
  have hlv := hi.length
  have hx4 : x.toNat ≤ 4 := by omega
  unfold SpecH
  k_fill
  intro dp un gd cn cs a ccd cl outer A₀ base h₀ L m s Q E B F X T hk hd hu hP hret
  refine wpAny_call ?_
  k_dflt ((refine' enter_def ?k1 ?k2 ?k3 ?k5 ?kA ?kF ?kK ?k6 ?k7 ?k8 ?k9 ?kB ?_ ?c2 ?c3 ?c4 ?c5; (case kA => exact rfl); (case kF => exact rfl); (case kK => assumption); (case k1 => k_asm); (case k2 => k_asm); (case k3 => k_asm); (case k5 => k_asm); (case k6 => k_is); (case k7 => k_is); (case k8 => ktr_room); (case k9 => first | exact BindsTo.of_eq rfl | (refine' kp_binds ?kx ?ke; (case kx => k_in); (case ke => exact fun _ => rfl))); (case c5 => decide); (case kB => exact locs rfl); (case c2 => exact rfl); (case c3 => exact rfl); (case c4 => exact rfl); k_whole; intro L' h' F' N' B' X' T'; (try dsimp only); (try k_lift B'); (try k_fold)))
  (repeat' ((fail_if_success (with_reducible show wpAny _ _ (pyIter _) _ _ _)); (first | (k_unfold; (try dsimp only)) | (first | ((with_reducible show wpAny _ _ (execs (_ :: _) _) _ _ _); k_here; (try k_made); (try k_gentoks); first | ((with_reducible refine gen_cons1 ?_); intro _ _) | ((with_reducible refine gen_cons2 ?_); intro _ _ _ _)) | ((with_reducible show Back _ _ _); (refine back_of (by with_reducible assumption) ?_); (try dsimp only)) | (k_here; (with_reducible show wpAny _ _ (call (Value.ref 174) [Value.ref _] _) _ _ _); k_dflt (refine' use_specH (octets_spec _ _ _ _ _ _ _ (by assumption) (by assumption) (by assumption) (by assumption)) (by k_asm) (by k_asm) (by k_asm) (by k_asm) (by k_asm) (by first | exact rfl | assumption) (by ktr_room) (by ktr_units) (by is_list) ?_; k_whole); intro v9 h9 tk9 R9 F9 N9; obtain ⟨t9, hv9⟩ := R9; subst hv9; (try k_sweep)) | ((with_reducible show wpAny _ _ (call _ [Value.bytes _ _]) _ _ _); refine call_type_of (Tx := "bytes") rfl (by decide +kernel) ?_) | walk1) | (dsimp only; (first | ((with_reducible show wpAny _ _ (execs (_ :: _) _) _ _ _); k_here; (try k_made); (try k_gentoks); first | ((with_reducible refine gen_cons1 ?_); intro _ _) | ((with_reducible refine gen_cons2 ?_); intro _ _ _ _)) | ((with_reducible show Back _ _ _); (refine back_of (by with_reducible assumption) ?_); (try dsimp only)) | (k_here; (with_reducible show wpAny _ _ (call (Value.ref 174) [Value.ref _] _) _ _ _); k_dflt (refine' use_specH (octets_spec _ _ _ _ _ _ _ (by assumption) (by assumption) (by assumption) (by assumption)) (by k_asm) (by k_asm) (by k_asm) (by k_asm) (by k_asm) (by first | exact rfl | assumption) (by ktr_room) (by ktr_units) (by is_list) ?_; k_whole); intro v9 h9 tk9 R9 F9 N9; obtain ⟨t9, hv9⟩ := R9; subst hv9; (try k_sweep)) | ((with_reducible show wpAny _ _ (call _ [Value.bytes _ _]) _ _ _); refine call_type_of (Tx := "bytes") rfl (by decide +kernel) ?_) | walk1)))))
  refine' kst_list (σ := List Value × List Int × Nat) (vs := vs) (ns := ns) (fun c => [(_, listOf c.1.toArray c.2.2)]) (fun c => []) (fun c => IntsAre c.1 c.2.1) [] (fun pre d => d.2.1 = cpF pre x.toNat) ⟨[], [], 0⟩ rfl (by assumption) (by assumption) (by k_asm) ?kn ?kf ?kk ?kp ?_ ?_
  (case kn => k_asm)
  (case kf => exact .nil)
  (case kk => kst_all)
  (case kp => rfl)
  · refine tup3 ?_
    rintro us out n pre post k tt u h tk own hE hmem hoff hfa hp F1 N1
    have kMark := kstMark
    dsimp only [kstB, List.map, List.cons_append, List.nil_append] at hfa hp F1 N1 hoff ⊢
    have hlu := hfa.length
    have hpl : pre.length < ns.length := by rw [hE]; simp
    have hou : out.length ≤ pre.length * 17 := by
      rw [hp]
      exact Nat.le_trans (cpF_le _ _) (Nat.mul_le_mul_left _ (by omega))
    k_with "state" => (first | exact cpF_no hp (by assumption))
    (repeat' ((fail_if_success (with_reducible show wpAny _ _ (binaryOp Operator.Mult (Value.ref _) (Value.int _ _)) _ _ _)); (first | (k_unfold; (try dsimp only)) | (k_end; wrow_close) | (first | ((with_reducible show wpAny _ _ (execs (_ :: _) _) _ _ _); k_here; (try k_made); (try k_gentoks); first | ((with_reducible refine gen_cons1 ?_); intro _ _) | ((with_reducible refine gen_cons2 ?_); intro _ _ _ _)) | ((with_reducible show Back _ _ _); (refine back_of (by with_reducible assumption) ?_); (try dsimp only)) | (k_here; (with_reducible show wpAny _ _ (call (Value.ref 174) [Value.ref _] _) _ _ _); k_dflt (refine' use_specH (octets_spec _ _ _ _ _ _ _ (by assumption) (by assumption) (by assumption) (by assumption)) (by k_asm) (by k_asm) (by k_asm) (by k_asm) (by k_asm) (by first | exact rfl | assumption) (by ktr_room) (by ktr_units) (by is_list) ?_; k_whole); intro v9 h9 tk9 R9 F9 N9; obtain ⟨t9, hv9⟩ := R9; subst hv9; (try k_sweep)) | ((with_reducible show wpAny _ _ (call _ [Value.bytes _ _]) _ _ _); refine call_type_of (Tx := "bytes") rfl (by decide +kernel) ?_) | walk1) | (dsimp only; (first | ((with_reducible show wpAny _ _ (execs (_ :: _) _) _ _ _); k_here; (try k_made); (try k_gentoks); first | ((with_reducible refine gen_cons1 ?_); intro _ _) | ((with_reducible refine gen_cons2 ?_); intro _ _ _ _)) | ((with_reducible show Back _ _ _); (refine back_of (by with_reducible assumption) ?_); (try dsimp only)) | (k_here; (with_reducible show wpAny _ _ (call (Value.ref 174) [Value.ref _] _) _ _ _); k_dflt (refine' use_specH (octets_spec _ _ _ _ _ _ _ (by assumption) (by assumption) (by assumption) (by assumption)) (by k_asm) (by k_asm) (by k_asm) (by k_asm) (by k_asm) (by first | exact rfl | assumption) (by ktr_room) (by ktr_units) (by is_list) ?_; k_whole); intro v9 h9 tk9 R9 F9 N9; obtain ⟨t9, hv9⟩ := R9; subst hv9; (try k_sweep)) | ((with_reducible show wpAny _ _ (call _ [Value.bytes _ _]) _ _ _); refine call_type_of (Tx := "bytes") rfl (by decide +kernel) ?_) | walk1)) | (leave1; walk_say "STEP leave1"; try dsimp only))))
    rcases hx with rfl | rfl | rfl | rfl | rfl
    · (repeat' (first | (k_unfold; (try dsimp only)) | ((with_reducible show wpAny _ _ (execs (_ :: _) _) _ _ _); k_here; (try k_made); (try k_gentoks); first | ((with_reducible refine gen_cons1 ?_); intro _ _) | ((with_reducible refine gen_cons2 ?_); intro _ _ _ _)) | ((with_reducible show Back _ _ _); (refine back_of (by with_reducible assumption) ?_); (try dsimp only)) | (k_here; (with_reducible show wpAny _ _ (call (Value.ref 174) [Value.ref _] _) _ _ _); k_dflt (refine' use_specH (octets_spec _ _ _ _ _ _ _ (by assumption) (by assumption) (by assumption) (by assumption)) (by k_asm) (by k_asm) (by k_asm) (by k_asm) (by k_asm) (by first | exact rfl | assumption) (by ktr_room) (by ktr_units) (by is_list) ?_; k_whole); intro v9 h9 tk9 R9 F9 N9; obtain ⟨t9, hv9⟩ := R9; subst hv9; (try k_sweep)) | ((with_reducible show wpAny _ _ (call _ [Value.bytes _ _]) _ _ _); refine call_type_of (Tx := "bytes") rfl (by decide +kernel) ?_) | (k_end; wrow_close) | walk1 | (dsimp only; (first | ((with_reducible show wpAny _ _ (execs (_ :: _) _) _ _ _); k_here; (try k_made); (try k_gentoks); first | ((with_reducible refine gen_cons1 ?_); intro _ _) | ((with_reducible refine gen_cons2 ?_); intro _ _ _ _)) | ((with_reducible show Back _ _ _); (refine back_of (by with_reducible assumption) ?_); (try dsimp only)) | (k_here; (with_reducible show wpAny _ _ (call (Value.ref 174) [Value.ref _] _) _ _ _); k_dflt (refine' use_specH (octets_spec _ _ _ _ _ _ _ (by assumption) (by assumption) (by assumption) (by assumption)) (by k_asm) (by k_asm) (by k_asm) (by k_asm) (by k_asm) (by first | exact rfl | assumption) (by ktr_room) (by ktr_units) (by is_list) ?_; k_whole); intro v9 h9 tk9 R9 F9 N9; obtain ⟨t9, hv9⟩ := R9; subst hv9; (try k_sweep)) | ((with_reducible show wpAny _ _ (call _ [Value.bytes _ _]) _ _ _); refine call_type_of (Tx := "bytes") rfl (by decide +kernel) ?_) | walk1)) | (leave1; walk_say "STEP leave1"; try dsimp only) | fail "no step"))
      refine' extend_none ?F ?N ?hb ?e0 ?U ?hz ?_
      case F => k_asm
      case N => k_asm
      case hb => k_mem
      case e0 => rfl
      case U => k_upd
      case hz => (simp; omega)
      intro h9 F9 N9
      ((try ((with_reducible show Back _ _ _); (refine back_of (by with_reducible assumption) ?_); (try dsimp only))); walk1)
      ((try ((with_reducible show Back _ _ _); (refine back_of (by with_reducible assumption) ?_); (try dsimp only))); walk1)
      ((try ((with_reducible show Back _ _ _); (refine back_of (by with_reducible assumption) ?_); (try dsimp only))); walk1)
      ((try ((with_reducible show Back _ _ _); (refine back_of (by with_reducible assumption) ?_); (try dsimp only))); walk1)
      refine kst_end (c := ⟨?ws0, out ++ [k] ++ amps 0, n + 1⟩) F9 N9 ?hn ?ho ?ha ?hf ?hk ?hr ?hp
      case hp => exact cpF_yes hp (by assumption)
      case hn => intro p hp2; rw [List.mem_singleton.mp hp2]; k_mem
      case ho => intro p hp2; (first | (exact List.mem_append_right _ hp2) | (exact List.Mem.tail _ (List.Mem.tail _ hp2)) | (exact List.Mem.tail _ (List.Mem.tail _ (List.Mem.tail _ hp2))) | (exact List.Mem.tail _ (List.Mem.tail _ (List.Mem.tail _ (List.Mem.tail _ hp2)))))
      case ha => rfl
      case hf => (rw [show amps 0 = [] from rfl, List.append_nil]; rw [List.concat_eq_append]; exact IntsAre.append hfa (.cons _ _ .nil))
      case hk => intro p hp2; cases hp2
      case hr =>
        intro z h1 h2 h3
        simp_all
    · (repeat' (first | (k_unfold; (try dsimp only)) | ((with_reducible show wpAny _ _ (execs (_ :: _) _) _ _ _); k_here; (try k_made); (try k_gentoks); first | ((with_reducible refine gen_cons1 ?_); intro _ _) | ((with_reducible refine gen_cons2 ?_); intro _ _ _ _)) | ((with_reducible show Back _ _ _); (refine back_of (by with_reducible assumption) ?_); (try dsimp only)) | (k_here; (with_reducible show wpAny _ _ (call (Value.ref 174) [Value.ref _] _) _ _ _); k_dflt (refine' use_specH (octets_spec _ _ _ _ _ _ _ (by assumption) (by assumption) (by assumption) (by assumption)) (by k_asm) (by k_asm) (by k_asm) (by k_asm) (by k_asm) (by first | exact rfl | assumption) (by ktr_room) (by ktr_units) (by is_list) ?_; k_whole); intro v9 h9 tk9 R9 F9 N9; obtain ⟨t9, hv9⟩ := R9; subst hv9; (try k_sweep)) | ((with_reducible show wpAny _ _ (call _ [Value.bytes _ _]) _ _ _); refine call_type_of (Tx := "bytes") rfl (by decide +kernel) ?_) | (k_end; wrow_close) | walk1 | (dsimp only; (first | ((with_reducible show wpAny _ _ (execs (_ :: _) _) _ _ _); k_here; (try k_made); (try k_gentoks); first | ((with_reducible refine gen_cons1 ?_); intro _ _) | ((with_reducible refine gen_cons2 ?_); intro _ _ _ _)) | ((with_reducible show Back _ _ _); (refine back_of (by with_reducible assumption) ?_); (try dsimp only)) | (k_here; (with_reducible show wpAny _ _ (call (Value.ref 174) [Value.ref _] _) _ _ _); k_dflt (refine' use_specH (octets_spec _ _ _ _ _ _ _ (by assumption) (by assumption) (by assumption) (by assumption)) (by k_asm) (by k_asm) (by k_asm) (by k_asm) (by k_asm) (by first | exact rfl | assumption) (by ktr_room) (by ktr_units) (by is_list) ?_; k_whole); intro v9 h9 tk9 R9 F9 N9; obtain ⟨t9, hv9⟩ := R9; subst hv9; (try k_sweep)) | ((with_reducible show wpAny _ _ (call _ [Value.bytes _ _]) _ _ _); refine call_type_of (Tx := "bytes") rfl (by decide +kernel) ?_) | walk1)) | (leave1; walk_say "STEP leave1"; try dsimp only) | fail "no step"))
      refine' extend_lists ?F ?N ?hb ?e0 ?U ?hz ?_
      case F => k_asm
      case N => k_asm
      case hb => k_mem
      case e0 => simp
      case U => k_upd
      case hz => (simp [List.replicate]; omega)
      intro h9 F9 N9
      ((try ((with_reducible show Back _ _ _); (refine back_of (by with_reducible assumption) ?_); (try dsimp only))); walk1)
      ((try ((with_reducible show Back _ _ _); (refine back_of (by with_reducible assumption) ?_); (try dsimp only))); walk1)
      ((try ((with_reducible show Back _ _ _); (refine back_of (by with_reducible assumption) ?_); (try dsimp only))); walk1)
      ((try ((with_reducible show Back _ _ _); (refine back_of (by with_reducible assumption) ?_); (try dsimp only))); walk1)
      refine kst_end (c := ⟨?ws1, out ++ [k] ++ amps 1, n + 1 + 1⟩) F9 N9 ?hn ?ho ?ha ?hf ?hk ?hr ?hp
      case hp => exact cpF_yes hp (by assumption)
      case hn => intro p hp2; rw [List.mem_singleton.mp hp2]; k_mem
      case ho => intro p hp2; (first | (exact List.mem_append_right _ hp2) | (exact List.Mem.tail _ (List.Mem.tail _ hp2)) | (exact List.Mem.tail _ (List.Mem.tail _ (List.Mem.tail _ hp2))) | (exact List.Mem.tail _ (List.Mem.tail _ (List.Mem.tail _ (List.Mem.tail _ hp2)))))
      case ha => rfl
      case hf => (refine IntsAre.append (by rw [List.concat_eq_append]; exact IntsAre.append hfa (.cons _ _ .nil)) ?_; unfold amps; (first | assumption | (change IntsAre (List.replicate (Int.toNat 1) _).flatten (List.replicate (Int.toNat 1) _).flatten; assumption)))
      case hk => intro p hp2; cases hp2
      case hr =>
        intro z h1 h2 h3
        simp_all
    · (repeat' (first | (k_unfold; (try dsimp only)) | ((with_reducible show wpAny _ _ (execs (_ :: _) _) _ _ _); k_here; (try k_made); (try k_gentoks); first | ((with_reducible refine gen_cons1 ?_); intro _ _) | ((with_reducible refine gen_cons2 ?_); intro _ _ _ _)) | ((with_reducible show Back _ _ _); (refine back_of (by with_reducible assumption) ?_); (try dsimp only)) | (k_here; (with_reducible show wpAny _ _ (call (Value.ref 174) [Value.ref _] _) _ _ _); k_dflt (refine' use_specH (octets_spec _ _ _ _ _ _ _ (by assumption) (by assumption) (by assumption) (by assumption)) (by k_asm) (by k_asm) (by k_asm) (by k_asm) (by k_asm) (by first | exact rfl | assumption) (by ktr_room) (by ktr_units) (by is_list) ?_; k_whole); intro v9 h9 tk9 R9 F9 N9; obtain ⟨t9, hv9⟩ := R9; subst hv9; (try k_sweep)) | ((with_reducible show wpAny _ _ (call _ [Value.bytes _ _]) _ _ _); refine call_type_of (Tx := "bytes") rfl (by decide +kernel) ?_) | (k_end; wrow_close) | walk1 | (dsimp only; (first | ((with_reducible show wpAny _ _ (execs (_ :: _) _) _ _ _); k_here; (try k_made); (try k_gentoks); first | ((with_reducible refine gen_cons1 ?_); intro _ _) | ((with_reducible refine gen_cons2 ?_); intro _ _ _ _)) | ((with_reducible show Back _ _ _); (refine back_of (by with_reducible assumption) ?_); (try dsimp only)) | (k_here; (with_reducible show wpAny _ _ (call (Value.ref 174) [Value.ref _] _) _ _ _); k_dflt (refine' use_specH (octets_spec _ _ _ _ _ _ _ (by assumption) (by assumption) (by assumption) (by assumption)) (by k_asm) (by k_asm) (by k_asm) (by k_asm) (by k_asm) (by first | exact rfl | assumption) (by ktr_room) (by ktr_units) (by is_list) ?_; k_whole); intro v9 h9 tk9 R9 F9 N9; obtain ⟨t9, hv9⟩ := R9; subst hv9; (try k_sweep)) | ((with_reducible show wpAny _ _ (call _ [Value.bytes _ _]) _ _ _); refine call_type_of (Tx := "bytes") rfl (by decide +kernel) ?_) | walk1)) | (leave1; walk_say "STEP leave1"; try dsimp only) | fail "no step"))
      refine' extend_lists ?F ?N ?hb ?e0 ?U ?hz ?_
      case F => k_asm
      case N => k_asm
      case hb => k_mem
      case e0 => simp
      case U => k_upd
      case hz => (simp [List.replicate]; omega)
      intro h9 F9 N9
      ((try ((with_reducible show Back _ _ _); (refine back_of (by with_reducible assumption) ?_); (try dsimp only))); walk1)
      ((try ((with_reducible show Back _ _ _); (refine back_of (by with_reducible assumption) ?_); (try dsimp only))); walk1)
      ((try ((with_reducible show Back _ _ _); (refine back_of (by with_reducible assumption) ?_); (try dsimp only))); walk1)
      ((try ((with_reducible show Back _ _ _); (refine back_of (by with_reducible assumption) ?_); (try dsimp only))); walk1)
      refine kst_end (c := ⟨?ws2, out ++ [k] ++ amps 2, n + 1 + 1⟩) F9 N9 ?hn ?ho ?ha ?hf ?hk ?hr ?hp
      case hp => exact cpF_yes hp (by assumption)
      case hn => intro p hp2; rw [List.mem_singleton.mp hp2]; k_mem
      case ho => intro p hp2; (first | (exact List.mem_append_right _ hp2) | (exact List.Mem.tail _ (List.Mem.tail _ hp2)) | (exact List.Mem.tail _ (List.Mem.tail _ (List.Mem.tail _ hp2))) | (exact List.Mem.tail _ (List.Mem.tail _ (List.Mem.tail _ (List.Mem.tail _ hp2)))))
      case ha => rfl
      case hf => (refine IntsAre.append (by rw [List.concat_eq_append]; exact IntsAre.append hfa (.cons _ _ .nil)) ?_; unfold amps; (first | assumption | (change IntsAre (List.replicate (Int.toNat 2) _).flatten (List.replicate (Int.toNat 2) _).flatten; assumption)))
      case hk => intro p hp2; cases hp2
      case hr =>
        intro z h1 h2 h3
        simp_all
    · (repeat' (first | (k_unfold; (try dsimp only)) | ((with_reducible show wpAny _ _ (execs (_ :: _) _) _ _ _); k_here; (try k_made); (try k_gentoks); first | ((with_reducible refine gen_cons1 ?_); intro _ _) | ((with_reducible refine gen_cons2 ?_); intro _ _ _ _)) | ((with_reducible show Back _ _ _); (refine back_of (by with_reducible assumption) ?_); (try dsimp only)) | (k_here; (with_reducible show wpAny _ _ (call (Value.ref 174) [Value.ref _] _) _ _ _); k_dflt (refine' use_specH (octets_spec _ _ _ _ _ _ _ (by assumption) (by assumption) (by assumption) (by assumption)) (by k_asm) (by k_asm) (by k_asm) (by k_asm) (by k_asm) (by first | exact rfl | assumption) (by ktr_room) (by ktr_units) (by is_list) ?_; k_whole); intro v9 h9 tk9 R9 F9 N9; obtain ⟨t9, hv9⟩ := R9; subst hv9; (try k_sweep)) | ((with_reducible show wpAny _ _ (call _ [Value.bytes _ _]) _ _ _); refine call_type_of (Tx := "bytes") rfl (by decide +kernel) ?_) | (k_end; wrow_close) | walk1 | (dsimp only; (first | ((with_reducible show wpAny _ _ (execs (_ :: _) _) _ _ _); k_here; (try k_made); (try k_gentoks); first | ((with_reducible refine gen_cons1 ?_); intro _ _) | ((with_reducible refine gen_cons2 ?_); intro _ _ _ _)) | ((with_reducible show Back _ _ _); (refine back_of (by with_reducible assumption) ?_); (try dsimp only)) | (k_here; (with_reducible show wpAny _ _ (call (Value.ref 174) [Value.ref _] _) _ _ _); k_dflt (refine' use_specH (octets_spec _ _ _ _ _ _ _ (by assumption) (by assumption) (by assumption) (by assumption)) (by k_asm) (by k_asm) (by k_asm) (by k_asm) (by k_asm) (by first | exact rfl | assumption) (by ktr_room) (by ktr_units) (by is_list) ?_; k_whole); intro v9 h9 tk9 R9 F9 N9; obtain ⟨t9, hv9⟩ := R9; subst hv9; (try k_sweep)) | ((with_reducible show wpAny _ _ (call _ [Value.bytes _ _]) _ _ _); refine call_type_of (Tx := "bytes") rfl (by decide +kernel) ?_) | walk1)) | (leave1; walk_say "STEP leave1"; try dsimp only) | fail "no step"))
      refine' extend_lists ?F ?N ?hb ?e0 ?U ?hz ?_
      case F => k_asm
      case N => k_asm
      case hb => k_mem
      case e0 => simp
      case U => k_upd
      case hz => (simp [List.replicate]; omega)
      intro h9 F9 N9
      ((try ((with_reducible show Back _ _ _); (refine back_of (by with_reducible assumption) ?_); (try dsimp only))); walk1)
      ((try ((with_reducible show Back _ _ _); (refine back_of (by with_reducible assumption) ?_); (try dsimp only))); walk1)
      ((try ((with_reducible show Back _ _ _); (refine back_of (by with_reducible assumption) ?_); (try dsimp only))); walk1)
      ((try ((with_reducible show Back _ _ _); (refine back_of (by with_reducible assumption) ?_); (try dsimp only))); walk1)
      refine kst_end (c := ⟨?ws3, out ++ [k] ++ amps 3, n + 1 + 1⟩) F9 N9 ?hn ?ho ?ha ?hf ?hk ?hr ?hp
      case hp => exact cpF_yes hp (by assumption)
      case hn => intro p hp2; rw [List.mem_singleton.mp hp2]; k_mem
      case ho => intro p hp2; (first | (exact List.mem_append_right _ hp2) | (exact List.Mem.tail _ (List.Mem.tail _ hp2)) | (exact List.Mem.tail _ (List.Mem.tail _ (List.Mem.tail _ hp2))) | (exact List.Mem.tail _ (List.Mem.tail _ (List.Mem.tail _ (List.Mem.tail _ hp2)))))
      case ha => rfl
      case hf => (refine IntsAre.append (by rw [List.concat_eq_append]; exact IntsAre.append hfa (.cons _ _ .nil)) ?_; unfold amps; (first | assumption | (change IntsAre (List.replicate (Int.toNat 3) _).flatten (List.replicate (Int.toNat 3) _).flatten; assumption)))
      case hk => intro p hp2; cases hp2
      case hr =>
        intro z h1 h2 h3
        simp_all
    · (repeat' (first | (k_unfold; (try dsimp only)) | ((with_reducible show wpAny _ _ (execs (_ :: _) _) _ _ _); k_here; (try k_made); (try k_gentoks); first | ((with_reducible refine gen_cons1 ?_); intro _ _) | ((with_reducible refine gen_cons2 ?_); intro _ _ _ _)) | ((with_reducible show Back _ _ _); (refine back_of (by with_reducible assumption) ?_); (try dsimp only)) | (k_here; (with_reducible show wpAny _ _ (call (Value.ref 174) [Value.ref _] _) _ _ _); k_dflt (refine' use_specH (octets_spec _ _ _ _ _ _ _ (by assumption) (by assumption) (by assumption) (by assumption)) (by k_asm) (by k_asm) (by k_asm) (by k_asm) (by k_asm) (by first | exact rfl | assumption) (by ktr_room) (by ktr_units) (by is_list) ?_; k_whole); intro v9 h9 tk9 R9 F9 N9; obtain ⟨t9, hv9⟩ := R9; subst hv9; (try k_sweep)) | ((with_reducible show wpAny _ _ (call _ [Value.bytes _ _]) _ _ _); refine call_type_of (Tx := "bytes") rfl (by decide +kernel) ?_) | (k_end; wrow_close) | walk1 | (dsimp only; (first | ((with_reducible show wpAny _ _ (execs (_ :: _) _) _ _ _); k_here; (try k_made); (try k_gentoks); first | ((with_reducible refine gen_cons1 ?_); intro _ _) | ((with_reducible refine gen_cons2 ?_); intro _ _ _ _)) | ((with_reducible show Back _ _ _); (refine back_of (by with_reducible assumption) ?_); (try dsimp only)) | (k_here; (with_reducible show wpAny _ _ (call (Value.ref 174) [Value.ref _] _) _ _ _); k_dflt (refine' use_specH (octets_spec _ _ _ _ _ _ _ (by assumption) (by assumption) (by assumption) (by assumption)) (by k_asm) (by k_asm) (by k_asm) (by k_asm) (by k_asm) (by first | exact rfl | assumption) (by ktr_room) (by ktr_units) (by is_list) ?_; k_whole); intro v9 h9 tk9 R9 F9 N9; obtain ⟨t9, hv9⟩ := R9; subst hv9; (try k_sweep)) | ((with_reducible show wpAny _ _ (call _ [Value.bytes _ _]) _ _ _); refine call_type_of (Tx := "bytes") rfl (by decide +kernel) ?_) | walk1)) | (leave1; walk_say "STEP leave1"; try dsimp only) | fail "no step"))
      refine' extend_lists ?F ?N ?hb ?e0 ?U ?hz ?_
      case F => k_asm
      case N => k_asm
      case hb => k_mem
      case e0 => simp
      case U => k_upd
      case hz => (simp [List.replicate]; omega)
      intro h9 F9 N9
      ((try ((with_reducible show Back _ _ _); (refine back_of (by with_reducible assumption) ?_); (try dsimp only))); walk1)
      ((try ((with_reducible show Back _ _ _); (refine back_of (by with_reducible assumption) ?_); (try dsimp only))); walk1)
      ((try ((with_reducible show Back _ _ _); (refine back_of (by with_reducible assumption) ?_); (try dsimp only))); walk1)
      ((try ((with_reducible show Back _ _ _); (refine back_of (by with_reducible assumption) ?_); (try dsimp only))); walk1)
      refine kst_end (c := ⟨?ws4, out ++ [k] ++ amps 4, n + 1 + 1⟩) F9 N9 ?hn ?ho ?ha ?hf ?hk ?hr ?hp
      case hp => exact cpF_yes hp (by assumption)
      case hn => intro p hp2; rw [List.mem_singleton.mp hp2]; k_mem
      case ho => intro p hp2; (first | (exact List.mem_append_right _ hp2) | (exact List.Mem.tail _ (List.Mem.tail _ hp2)) | (exact List.Mem.tail _ (List.Mem.tail _ (List.Mem.tail _ hp2))) | (exact List.Mem.tail _ (List.Mem.tail _ (List.Mem.tail _ (List.Mem.tail _ hp2)))))
      case ha => rfl
      case hf => (refine IntsAre.append (by rw [List.concat_eq_append]; exact IntsAre.append hfa (.cons _ _ .nil)) ?_; unfold amps; (first | assumption | (change IntsAre (List.replicate (Int.toNat 4) _).flatten (List.replicate (Int.toNat 4) _).flatten; assumption)))
      case hk => intro p hp2; cases hp2
      case hr =>
        intro z h1 h2 h3
        simp_all
  · refine tup3 ?_
    rintro us out n u h tk hfa hp F1 N1
    have kMark := kstMark
    dsimp only [kstB, List.map, List.cons_append, List.nil_append] at hfa hp F1 N1 ⊢
    subst hp
    have hlu := hfa.length
    have hfg := cpF_fig hf x.toNat
    have h4c : (cpF ns x.toNat).length % 4 = 0 := by
      rw [cpF_len, Nat.mul_assoc]
      generalize x.toNat * ns.count 62 = y
      omega
    have hzc : (cpF ns x.toNat).length ≤ 10000 := by
      have h1 := cpF_le ns x.toNat
      have h2 : ns.length * (4 * x.toNat + 1) ≤ 100 * (4 * 4 + 1) := Nat.mul_le_mul hz (by omega)
      omega
    clear hx
    (repeat' (first | (k_unfold; (try dsimp only)) | ((with_reducible show wpAny _ _ (execs (_ :: _) _) _ _ _); k_here; (try k_made); (try k_gentoks); first | ((with_reducible refine gen_cons1 ?_); intro _ _) | ((with_reducible refine gen_cons2 ?_); intro _ _ _ _)) | ((with_reducible show Back _ _ _); (refine back_of (by with_reducible assumption) ?_); (try dsimp only)) | (k_here; (with_reducible show wpAny _ _ (call (Value.ref 174) [Value.ref _] _) _ _ _); k_dflt (refine' use_specH (octets_spec _ _ _ _ _ _ _ (by assumption) (by assumption) (by assumption) (by assumption)) (by k_asm) (by k_asm) (by k_asm) (by k_asm) (by k_asm) (by first | exact rfl | assumption) (by ktr_room) (by ktr_units) (by is_list) ?_; k_whole); intro v9 h9 tk9 R9 F9 N9; obtain ⟨t9, hv9⟩ := R9; subst hv9; (try k_sweep)) | ((with_reducible show wpAny _ _ (call _ [Value.bytes _ _]) _ _ _); refine call_type_of (Tx := "bytes") rfl (by decide +kernel) ?_) | (k_end; wrow_close) | walk1 | (dsimp only; (first | ((with_reducible show wpAny _ _ (execs (_ :: _) _) _ _ _); k_here; (try k_made); (try k_gentoks); first | ((with_reducible refine gen_cons1 ?_); intro _ _) | ((with_reducible refine gen_cons2 ?_); intro _ _ _ _)) | ((with_reducible show Back _ _ _); (refine back_of (by with_reducible assumption) ?_); (try dsimp only)) | (k_here; (with_reducible show wpAny _ _ (call (Value.ref 174) [Value.ref _] _) _ _ _); k_dflt (refine' use_specH (octets_spec _ _ _ _ _ _ _ (by assumption) (by assumption) (by assumption) (by assumption)) (by k_asm) (by k_asm) (by k_asm) (by k_asm) (by k_asm) (by first | exact rfl | assumption) (by ktr_room) (by ktr_units) (by is_list) ?_; k_whole); intro v9 h9 tk9 R9 F9 N9; obtain ⟨t9, hv9⟩ := R9; subst hv9; (try k_sweep)) | ((with_reducible show wpAny _ _ (call _ [Value.bytes _ _]) _ _ _); refine call_type_of (Tx := "bytes") rfl (by decide +kernel) ?_) | walk1)) | (leave1; walk_say "STEP leave1"; try dsimp only) | fail "no step"))
    exact ret_bytes (Q := Q) (s := s) hret (by assumption) rfl
theorem copy_spec (w : World) (mean : ExcName → Option Value) (mg mb : Str → Option Value) (l : Addr) (t : Tok) (vs : List Value) (ns : List Int) (hi : IntsAre vs ns) (hf : Fig ns) (h4 : ns.length % 4 = 0) (hz : ns.length ≤ 100) (k : Nat) (hk : k < 5) : SpecH w mean mg mb 195 2 40 [.ref l, .int (k : Int) t] [] (fun h => h.IsList l vs.toArray) (BytesIs (byteArr (octL (cpF ns k)))) :=
  copy_specI w mean mg mb l t vs ns hi hf h4 hz (k : Int) (by omega)
end Mine
end
theorem Mine.zz49 : True := by
  k_with_none
  w_top off
  (have : True ∧ True := by
    (try walk1)
    all_goals (first | exact trivial | exact ⟨trivial, trivial⟩))
  trivial
-- LawKinds
section
open PySem PySem.W PyProof.Rows PySem.Calls
set_option Elab.async false
set_option maxRecDepth 100000
set_option maxHeartbeats 8000000
set_option linter.unusedSimpArgs false
set_option linter.unusedVariables false
namespace Mine
theorem law_kinds (w : World) (mean : ExcName → Option Value) (mg mb : Str → Option Value) (L fa : Addr) (base h₀ : Heap) (m : Str → Option Value) (s : Shared) (Q : Flow → Shared → Prop) (E : Value → Shared → Prop) (o1 o2 o3 o4 o5 : Obj) (Dt Dr Dn : Addr) (nt nr nn : Nat) (wt wr vn : List Value) (row nu : List Int) (B : Below callerA base [] h₀) (X : (Mine.fk.heap_1 w.params).In h₀) (T : TopM mean mg mb h₀) (l0 : @LT.lt Nat _ 23 L ∧ @LT.lt Nat _ 197 L)
    (F : Fr h₀ L s.heap m)
    (N : News h₀ L s.heap ((Dt, W.listOf (List.toArray wt) nt) :: (Dr, W.listOf (List.toArray wr) nr) :: (Dn, W.listOf (List.toArray vn) nn) :: (L + 1 + 1 + 1 + 1 + 1, o5) :: (L + 1 + 1 + 1 + 1, o4) :: (L + 1 + 1 + 1, o3) :: (L + 1 + 1, o2) :: (L + 1, o1) :: (23, tabObj #[]) :: (197, tabObj #[]) :: []))
    (lN : @LT.lt Nat _ (L + 1 + 1 + 1 + 1 + 1) Dn) (lR : @LT.lt Nat _ Dn Dr) (lT : @LT.lt Nat _ Dr Dt) (c1 : o1.data = .cell (some (.ref Dn)))(c2 : o2.data = .cell (some (.ref Dr)))(c3 : o3.data = .cell (some (.ref Dt))) (c4 : o4.data = .cell none) (c5 : o5.data = .cell none) (hi : IntsAre wr row) (hj : IntsAre vn nu) (hT : IntsAre wt (tL nu)) (hn : nu.length = 4) (hf : Fig row) (h4 : row.length % 4 = 0) (h8 : row.length ≤ 8) (h62 : (62 : Int) ∈ row)
    (hk : ∀ h' tk' Dk nk wk o4', Fr h₀ L h' m → News h₀ L h' ((Dk, W.listOf (List.toArray wk) nk) :: (Dt, W.listOf (List.toArray wt) nt) :: (Dr, W.listOf (List.toArray wr) nr) :: (Dn, W.listOf (List.toArray vn) nn) :: (L + 1 + 1 + 1 + 1 + 1, o5) :: (L + 1 + 1 + 1 + 1, o4') :: (L + 1 + 1 + 1, o3) :: (L + 1 + 1, o2) :: (L + 1, o1) :: (23, tabObj #[]) :: (197, tabObj #[]) :: []) → LCg.Off1 Dk ((Dt, W.listOf (List.toArray wt) nt) :: (Dr, W.listOf (List.toArray wr) nr) :: (Dn, W.listOf (List.toArray vn) nn) :: (L + 1 + 1 + 1 + 1 + 1, o5) :: (L + 1 + 1 + 1 + 1, o4) :: (L + 1 + 1 + 1, o3) :: (L + 1 + 1, o2) :: (L + 1, o1) :: (23, tabObj #[]) :: (197, tabObj #[]) :: []) → o4'.data = .cell (some (.ref Dk)) → (wk.length = 5) → (∀ (i : Nat) (y : Value), wk[i]? = some y → BytesIs (byteArr (octL (cpF row i))) y) →
      wpAny (model PySem.Challenge.rw_oy0177_01.row.prog w) (callerA.deeper (envOfC (Str.ofString "law") (lawFn w.params).scope L fa (Value.ref 199))) (execs (List.drop 6 (match (lawFn w.params).body with | .stmts l => l | _ => [])) (envOfC (Str.ofString "law") (lawFn w.params).scope L fa (Value.ref 199))) Q E { s with heap := h', toks := tk' }) :
    wpAny (model PySem.Challenge.rw_oy0177_01.row.prog w) (callerA.deeper (envOfC (Str.ofString "law") (lawFn w.params).scope L fa (Value.ref 199))) (execs (List.drop 5 (match (lawFn w.params).body with | .stmts l => l | _ => [])) (envOfC (Str.ofString "law") (lawFn w.params).scope L fa (Value.ref 199))) Q E s := by
  (conv in (List.drop 5 _) => whnf)
  repeat (conv in (FuncData.scope _) => whnf)
  (have reg : ∀ (w : World) (h : Heap), (Mine.fk.heap_1 w.params).In h → PySem.Challenge.rw_oy0177_01.row.prog = PySem.Challenge.rw_oy0177_01.row.prog := by (k_fill; intros; rfl))
  clear reg
  (repeat' ((fail_if_success (with_reducible show wpAny _ _ (eval (Expr.ListComp _ _ _ _) _) _ _ _)); (first | ((with_reducible show wpAny _ _ (subscriptTail (Expr.BinOp _ _ _ _) _ _ _) _ _ _); (k_here; (with_reducible show wpAny _ _ (subscriptTail _ (PySem.Expr.Slice _ _ none _) (Value.ref _) (Value.ref _)) _ _ _); k_dflt (refine' slice_temp (by k_asm) (by k_asm) (by kmk_list) (by kmk_part) (by kmk_part) (by l_ints) (by kmk_nums) ?_ (by with_unfolding_all rfl) (by kmk_size); ); intro D' ws' h' F' N' l1 hI'; (try simp only [Int.reduceNeg, Int.neg_neg, Int.reduceToNat] at hI'); (try k_lt l1); (try k_sweep))) | (k_unfold; (try dsimp only)) | walk1 | (dsimp only; walk1))))
  refine LCg.ListComp_U (F₀ := by k_asm) (by rfl) (by decide) (by rfl) (by decide) (by rfl) ?_
  (repeat' ((fail_if_success (with_reducible show LCg.CompSrc _ _ _ _ _ _ _ _ _ _ _ _ _ _)); (first | (k_unfold; (try dsimp only)) | walk1 | (dsimp only; walk1))))
  refine LCg.CompSrc.range (n := 5) (by rfl) (by k_asm) (by k_asm) (by assumption) (by decide) (by decide) (by decide) ?_
  intro g'
  refine rest_of 5 (fun i y => BytesIs (byteArr (octL (cpF row i))) y) trivial ?_ ?_
  · intro sI v I2 oI2 C2 oC2 D2 ys2 m2 h2 tk2 E2 hi2 hP hC2 hx F2 N2
    obtain ⟨ts, rfl⟩ := hP
    have hx : m2 (Str.ofString "count") = some (.int (sI : Int) ts) := by rw [hx, Int.zero_add]
    have SC := fun l t vs ns a b c d => copy_spec w mean mg mb l t vs ns a b c d sI (by omega)
    (repeat' ((fail_if_success (with_reducible show wpAny _ _ (call (Value.ref 195) _ _) _ _ _)); (first | (k_unfold; (try dsimp only)) | walk1 | (dsimp only; walk1))))
    refine' use_specH (SC _ _ _ _ hi hf h4 (by omega)) ?k1 ?k2 ?k3 ?k4 ?k5 ?kK ?kd ?ku ?kP ?_
    (case k1 => k_asm)
    (case k2 => k_asm)
    (case k3 => k_asm)
    (case k4 => k_asm)
    (case k5 => k_asm)
    (case kK => first | exact rfl | assumption)
    (case kd => ktr_room)
    (case ku => ktr_units)
    (case kP => kmk_list)
    intro v9 h9 tk9 R9 F9 N9
    obtain ⟨t9, hv9⟩ := R9
    subst hv9
    exact ⟨_, _, rfl, by assumption, by assumption, ⟨_, rfl⟩⟩
  · intro ys2 hl2 hR2 D h tk F1 N1 o1
    have o2 := o1
    simp only [LCg.Off1, and_true] at o1
    walk1
    walk1
    refine' hk _ _ D _ ys2 _ ?f ?n ?l ?d ?q ?i
    case d => assumption
    case f => assumption
    case n => exact news_sub (by assumption) (by lcg_sub)
    case l => exact o2
    case q => exact hl2
    case i => exact hR2
end Mine
end
theorem Mine.zz50 : True := by
  k_with_none
  w_top off
  (have : True ∧ True := by
    (try walk1)
    all_goals (first | exact trivial | exact ⟨trivial, trivial⟩))
  trivial
-- RulesJ
section
open PySem PySem.W PyProof.Rows PySem.Calls
set_option Elab.async false
set_option maxRecDepth 100000
namespace Mine
section
variable {prog : Program} {w : World} {A : Around} {h₀ : Heap} {L : Addr} {m : Str → Option Value} {env : Env} {s : Shared}
/-- a list comprehension over a list of ints, its element in a relation to the item -/
theorem comp_rel {elt : Expr} {x : Str} {scope : Scope} {cl : List (Str × Addr)} {ax : Addr} {vs : List Value} {ns : List Int} {Fin : List Value → List (Addr × Obj) → Prop} {news : List (Addr × Obj)} (R : Int → Value → Prop)
    (hi : IntsAre vs ns) (hS : LCg.SrcAt h₀ ax vs.toArray news)
    (hEl : ∀ n t I oI C oC D ys m₂ h tk (E' : Value → Shared → Prop), n ∈ ns → LCg.NsObj oC m₂ → m₂ x = some (.int n t) → Fr h₀ L h m → News h₀ L h ((I, oI) :: (C, oC) :: (D, LCg.lst ys) :: news) →
      wpAny (model prog w) A (eval elt (compEnvC scope cl C env)) (fun y s₂ => ∃ h' tk', s₂ = { s with heap := h', toks := tk' } ∧ Fr h₀ L h' m ∧ News h₀ L h' ((I, oI) :: (C, oC) :: (D, LCg.lst ys) :: news) ∧ R n y) E' { s with heap := h, toks := tk })
    (hFin : ∀ ys : List Value, ys.length = ns.length → (∀ (i : Nat) (y : Value) (n : Int), ys[i]? = some y → ns[i]? = some n → R n y) → Fin ys news) :
    LCg.CompRest prog w A h₀ L m env elt x scope cl s (LCg.SrcAt h₀ ax vs.toArray) (fun i v => vs.toArray[i]? = some v) Fin vs.toArray.size 0 [] news := by
  have hlen : vs.toArray.size = ns.length := by rw [List.size_toArray, hi.length]
  rw [hlen]
  refine rest_of ns.length (fun i y => ∀ n : Int, ns[i]? = some n → R n y) hS ?_ ?_
  · intro i v I oI C oC D ys m₂ h tk E' hin hP hC hx F N
    have hv : vs[i]? = some v := by simpa using hP
    obtain ⟨n, t, rfl, hn⟩ := hi.at i v hv
    refine wpAny_mono (hEl n t I oI C oC D ys m₂ h tk E' (List.mem_of_getElem? hn) hC hx F N) (fun y s₂ q => ?_) fun _ _ e => e
    obtain ⟨h', tk', e, F', N', r⟩ := q
    exact ⟨h', tk', e, F', N', fun n' e' => by rw [hn] at e'; cases e'; exact r⟩
  · intro ys hl hR
    exact hFin ys hl fun i y n hy hn => hR i y hy n hn
/-- an item of a list at a reckoned place -/
theorem item_at {E : Value → Shared → Prop} {value slice : PySem.Expr} {l : Addr} {vs : List Value} {k : Int} {u : Tok} {v : Value} {Q : Value → Shared → Prop}
    (hl : s.heap.IsList l vs.toArray) (h0 : 0 ≤ k) (hhi : k < 2 ^ 63) (hx : vs[k.toNat]? = some v) (h : Q v s)
    (hs : subscripted slice false (.ref l) (.int k u) = operate [.ref l, .int k u] (getItem (.ref l) (.int k u)) := by with_unfolding_all rfl) :
    wpAny (model prog w) A (subscriptTail value slice (.ref l) (.int k u)) Q E s :=
  tail_any hl.typeIs slot_list_getitem.lookup (wpAny_getItem_list hl h0 hhi (by simpa using hx) h) hs
end
end Mine
end
theorem Mine.zz51 : True := by
  k_with_none
  w_top off
  (have : True ∧ True := by
    (try walk1)
    all_goals (first | exact trivial | exact ⟨trivial, trivial⟩))
  trivial
-- RulesK
section
open PySem PySem.W PyProof.Rows PySem.Calls PySem.Builtin
set_option Elab.async false
set_option maxRecDepth 100000
set_option maxHeartbeats 4000000
namespace Mine
theorem slot_bytes_join : Slot "bytes" "join" "bytes.join" :=
  .of (owner := "bytes") (n := "join") (by rw [typeLookup_type, builtinLookup_eq_fast]; kernel_rfl) (by decide +kernel) (by decide +kernel) (by decide +kernel)
    (by first | exact .inl (by decide +kernel) | exact .inr (by decide +kernel)) (by rw [isSubtype_type]; kernel_rfl)
theorem type_bytes_join : typeOf (.builtin "bytes.join") = pure (.type "method_descriptor") := by show builtinType _ = _; rw [builtinType_eq_fast]; kernel_rfl
theorem entry_bytes_join : entryFor table "bytes.join" = some Builtin.«bytes.join» := entryFor_of_tree (by kernel_rfl)
theorem args_bytes_join (a b : Value) : argsOk "bytes.join" ⟨[a, b], []⟩ := by
  unfold argsOk; rw [signature?_of (id := "bytes.join") (n := "nioj".toList) (o := ['s', 'e', 't', 'y', 'b']) (by kernel_rfl) FB.owner_bytes]; kernel_rfl
section
variable {M : Model} {prog : Program} {w : World} {A : Around} {E : Value → Shared → Prop} {s : Shared} {b T c d : Array UInt8} {t t2 : Tok}
theorem method_join {pl : Sem Bool} {Q : Value × List Value → Shared → Prop} (h : Q (.builtin "bytes.join", [.bytes b t]) s) : wpAny M A (getMethod (.bytes b t) "join" pl) Q E s := by
  with_reducible exact KBd.method_of (.bytes b t) (typeIs_bytes _ _ _) slot_bytes_join type_bytes_join KBd.noRef h
inductive BytesAre : List Value → List (Array UInt8) → Prop
  | nil : BytesAre [] []
  | cons (b : Array UInt8) (t : Tok) {vs bs} : BytesAre vs bs → BytesAre (.bytes b t :: vs) (b :: bs)
theorem BytesAre.at {vs : List Value} {bs : List (Array UInt8)} (h : BytesAre vs bs) : ∀ i, i < vs.length → ∃ b t, vs[i]? = some (.bytes b t) ∧ bs[i]? = some b := by
  induction h with
  | nil => intro i hi; simp at hi
  | cons b t _ ih =>
    intro i hi
    cases i with
    | zero => exact ⟨b, t, rfl, rfl⟩
    | succ i => simpa using ih i (by simpa using hi)
theorem BytesAre.length {vs : List Value} {bs : List (Array UInt8)} (h : BytesAre vs bs) : vs.length = bs.length := by
  induction h with
  | nil => rfl
  | cons _ _ _ ih => simp [ih]
theorem take_eq {id : String} : Bytes.takeBufferQuiet? id (.bytes b t) 0 = pure (some (b, none)) := by
  kernel_rfl
/-- the items taken so far -/
def JInv (vs : List Value) (bs : List (Array UInt8)) (i : Nat) (st : Array (Array UInt8) × List (Value × Option Value)) : Prop :=
  st.1.toList = bs.take i ∧ ∀ p ∈ st.2, p.1.onHeap = false ∧ p.2 = none
theorem join_go {vs : List Value} {bs : List (Array UInt8)} {body : Nat → Array (Array UInt8) × List (Value × Option Value) → Sem (ForInStep (Array (Array UInt8) × List (Value × Option Value)))} {Q : Array (Array UInt8) × List (Value × Option Value) → Shared → Prop} (hv : BytesAre vs bs)
    (hb : ∀ i b t st (Q' : ForInStep (Array (Array UInt8) × List (Value × Option Value)) → Shared → Prop), vs[i]? = some (.bytes b t) → JInv vs bs i st → Q' (.yield (st.1.push b, st.2 ++ [(.bytes b t, none)])) s → wpAny M A (body i st) Q' E s)
    (hQ : ∀ st, JInv vs bs vs.length st → Q st s) : ∀ k i st, i + k = vs.length → JInv vs bs i st → wpAny M A (forIn (List.range' i k) st body) Q E s := by
  intro k
  induction k with
  | zero =>
    intro i st e h
    rw [List.range'_zero, List.forIn_nil]
    have : i = vs.length := by (first | lia | omega)
    subst this
    exact wpAny_pure (hQ st h)
  | succ k ih =>
    intro i st e h
    rw [List.range'_succ, List.forIn_cons]
    obtain ⟨b, t, e1, e2⟩ := hv.at i (by (first | lia | omega))
    refine wpAny_bind (hb i b t st _ e1 h ?_)
    refine ih (i + 1) _ (by (first | lia | omega)) ⟨?_, ?_⟩
    · show (st.1.push b).toList = _
      rw [Array.toList_push, h.1, List.take_add_one, e2]; rfl
    · intro p hp
      rcases List.mem_append.mp hp with hp | hp
      · exact h.2 p hp
      · rw [List.mem_singleton.mp hp]; exact ⟨rfl, rfl⟩
theorem joinLetGo_none : ∀ (taken : List (Value × Option Value)) (keep : List Value) {Q : Unit → Shared → Prop}, (∀ p ∈ taken, p.2 = none) → Q () s → wpAny M A (Bytes.joinLetGo taken keep) Q E s
  | [], keep, Q, _, h => wpAny_pure h
  | (x, w) :: r, keep, Q, hp, h => by
    have e : w = none := hp (x, w) (.head _)
    subst e
    unfold Bytes.joinLetGo
    dsimp only
    refine wpAny_bind (wpAny_letGo ?_)
    exact joinLetGo_none r keep (fun p h => hp p (.tail _ h)) h
theorem joined_nil (bs : List (Array UInt8)) : Bytes.joined #[] bs = bs.toArray.flatten := by
  unfold Bytes.joined
  have key : ∀ (l : List (Array UInt8)) (i : Nat) (out : Array UInt8), (l.zipIdx i).foldl (fun out (x : Array UInt8 × Nat) => (if x.2 > 0 then out ++ #[] else out) ++ x.1) out = out ++ l.toArray.flatten := by
    intro l
    induction l with
    | nil => intro i out; simp
    | cons b r ih =>
      intro i out
      rw [List.zipIdx_cons, List.foldl_cons, ih]
      have e0 : (if i > 0 then out ++ #[] else out) = out := by split <;> simp
      rw [e0]
      apply Array.toList_inj.mp
      simp
  have := key bs 0 #[]
  simpa using this
theorem sizes_foldl (bs : Array (Array UInt8)) (n : Nat) : bs.foldl (fun x1 x2 => x1 + x2.size) n = n + (bs.toList.map Array.size).sum := by
  obtain ⟨l⟩ := bs
  induction l generalizing n with
  | nil => simp
  | cons b r ih => simp at ih ⊢; rw [ih]; (first | lia | omega)
theorem join_tree {l : Addr} {vs : List Value} {bs : List (Array UInt8)} {R : Fin → Shared → Prop} (hl : s.heap.IsList l vs.toArray) (hb : BytesAre vs bs) (h2 : 2 ≤ vs.length) (hsz : (bs.map Array.size).sum ≤ sizeLine)
    (h : ∀ t' k, R (.done (.ret (.bytes bs.toArray.flatten t'))) { s with toks := k }) :
    wpAny (model prog w) A (Builtin.«bytes.join» ⟨[.bytes #[] t, .ref l], []⟩) R E s := by
  unfold Builtin.«bytes.join» Bytes.joinM
  refine wpAny_bind (m := selfAndOne _ _) ?_
  refine wpAny_pure ?_
  show wpAny _ _ (Bytes.joinItems (.ref l) >>= _) _ _ _
  refine wpAny_bind ?_
  unfold Bytes.joinItems
  obtain ⟨o, ho, hc, n, hd⟩ := hl
  refine wpAny_bind (wpAny_typeOf_ref ho ?_)
  rw [hc, if_pos (by decide)]
  refine wpAny_pure ?_
  refine wpAny_bind ?_
  show wpAny _ _ (load l >>= _) _ _ _
  refine wpAny_bind (wpAny_load ho ?_)
  rw [hd]
  refine wpAny_pure ?_
  dsimp only
  rw [if_pos (by decide)]
  obtain ⟨v0, v1, rest, rfl⟩ : ∃ v0 v1 rest, vs = v0 :: v1 :: rest := by
    match vs, h2 with
    | v0 :: v1 :: rest, _ => exact ⟨v0, v1, rest, rfl⟩
  refine wpAny_bind (m := forIn (m := Sem) [:((v0 :: v1 :: rest).toArray).size] ((#[] : Array (Array UInt8)), ([] : List (Value × Option Value))) _) ?_
  rw [Std.Legacy.Range.forIn_eq_forIn_range']
  refine join_go (vs := v0 :: v1 :: rest) (bs := bs) hb (fun i b t st Q' hx hJ hq => ?_) (fun st hJ => ?_) _ 0 _ (by simp [Std.Legacy.Range.size]) ⟨rfl, fun p hp => by cases hp⟩
  · refine wpAny_bind ?_
    show wpAny _ _ (load l >>= _) _ _ _
    refine wpAny_bind (wpAny_load ho ?_)
    rw [hd]
    refine wpAny_pure ?_
    dsimp only
    have hany : (st.2.any fun x => x.1.onHeap) = false := by
      rw [List.any_eq_false]; intro p hp; rw [(hJ.2 p hp).1]; simp
    rw [hany, if_neg (by decide)]
    have hg : (v0 :: v1 :: rest).toArray.getD i Value.none = .bytes b t := by
      have : (v0 :: v1 :: rest).toArray[i]? = some (.bytes b t) := by simpa using hx
      simp [Array.getD_eq_getD_getElem?, this]
    rw [hg]
    refine wpAny_bind (wpAny_holding ?_)
    rw [take_eq]
    refine wpAny_pure ?_
    dsimp only
    refine wpAny_bind ?_
    show wpAny _ _ (load l >>= _) _ _ _
    refine wpAny_bind (wpAny_load ho ?_)
    rw [hd]
    refine wpAny_pure ?_
    dsimp only
    rw [if_neg (by simp)]
    exact wpAny_pure hq
  · have hbs : st.1.toList = bs := by rw [hJ.1, List.take_of_length_le (by rw [hb.length]; exact Nat.le_refl _)]
    refine wpAny_bind ?_
    refine wpAny_pure ?_
    rw [sizes_foldl, hbs]
    rw [if_neg (by unfold Bytes.tooLong; simpa using hsz)]
    rw [joined_nil]
    refine wpAny_bind ?_
    have hfl : bs.toArray.flatten.size = (bs.map Array.size).sum := by
      rw [Array.size_flatten]; simp
    show wpAny _ _ (mkBytes _) _ _ s
    unfold mkBytes
    rw [if_neg (by rw [hfl]; (first | lia | omega))]
    refine wpAny_bind (wpAny_fresh ?_)
    refine wpAny_pure ?_
    refine wpAny_bind (wpAny_holding (wpAny_point ?_))
    refine wpAny_bind (joinLetGo_none _ _ (fun p hp => (hJ.2 p hp).2) ?_)
    exact wpAny_pure (h _ _)
theorem call_join {l : Addr} {vs : List Value} {bs : List (Array UInt8)} {Q : Value → Shared → Prop} (hl : s.heap.IsList l vs.toArray) (hb : BytesAre vs bs) (h2 : 2 ≤ vs.length) (hsz : (bs.map Array.size).sum ≤ sizeLine)
    (h : ∀ t' k, Q (.bytes bs.toArray.flatten t') { s with toks := k }) : wpAny (model prog w) A (call (.builtin "bytes.join") [.bytes #[] t, .ref l]) Q E s :=
  wpAny_call_entry slot_bytes_join (typeIs_bytes _ _ _) entry_bytes_join (join_tree hl hb h2 hsz fun t' k => ⟨_, rfl, h t' k⟩) (args_bytes_join _ _)
end
end Mine
end
theorem Mine.zz52 : True := by
  k_with_none
  w_top off
  (have : True ∧ True := by
    (try walk1)
    all_goals (first | exact trivial | exact ⟨trivial, trivial⟩))
  trivial
-- Pure9
section
open PySem PySem.W PyProof.Rows PySem.Calls
set_option Elab.async false
set_option maxRecDepth 100000
namespace Mine
theorem tL_len (nu : List Int) : (tL nu).length = 16 := by simp [tL]
theorem tS_in (nu : List Int) (i s : Nat) : 0 ≤ tS nu i s ∧ tS nu i s ≤ 1 := by
  unfold tS
  have h1 := Int.fmod_nonneg_of_pos ((nu.getD s 0).fdiv (2 ^ ((((i : Int)).fdiv (2 ^ s)).fmod 2).toNat)) (show (0 : Int) < 2 by decide)
  have h2 := Int.fmod_lt_of_pos ((nu.getD s 0).fdiv (2 ^ ((((i : Int)).fdiv (2 ^ s)).fmod 2).toNat)) (show (0 : Int) < 2 by decide)
  omega
theorem tI_in (nu : List Int) (i : Nat) : 0 ≤ tI nu i ∧ tI nu i ≤ 4 := by
  have h0 := tS_in nu i 0
  have h1 := tS_in nu i 1
  have h2 := tS_in nu i 2
  have h3 := tS_in nu i 3
  unfold tI
  simp only [List.sum_cons, List.sum_nil]
  omega
theorem tL_in {nu : List Int} {n : Int} (h : n ∈ tL nu) : 0 ≤ n ∧ n ≤ 4 := by
  obtain ⟨i, _, rfl⟩ := List.mem_map.mp h
  exact tI_in nu i
theorem bytesAre_of {f : Int → Array UInt8} : ∀ {ys : List Value} {ns : List Int}, ys.length = ns.length → (∀ (i : Nat) (y : Value) (n : Int), ys[i]? = some y → ns[i]? = some n → BytesIs (f n) y) → BytesAre ys (ns.map f)
  | [], [], _, _ => .nil
  | [], _ :: _, h, _ => by cases h
  | _ :: _, [], h, _ => by cases h
  | y :: ys, n :: ns, h, k => by
    obtain ⟨t, rfl⟩ := k 0 y n rfl rfl
    exact .cons _ _ (bytesAre_of (by simpa using h) fun i y' n' hy hn => k (i + 1) y' n' (by simpa using hy) (by simpa using hn))
/-- the copies of the row, one behind the other -/
def joinB (row : List Int) (nu : List Int) : Array UInt8 := ((tL nu).map fun c => byteArr (octL (cpF row c.toNat))).toArray.flatten
theorem item_of {wk : List Value} {f : Nat → Array UInt8} (h5 : wk.length = 5) (hb : ∀ (i : Nat) (y : Value), wk[i]? = some y → BytesIs (f i) y) {n : Int} (h0 : 0 ≤ n) (h4 : n ≤ 4) : ∃ v, wk[n.toNat]? = some v ∧ BytesIs (f n.toNat) v := by
  have : n.toNat < wk.length := by omega
  exact ⟨wk[n.toNat], by simp [this], hb _ _ (by simp [this])⟩
end Mine
end
theorem Mine.zz53 : True := by
  k_with_none
  w_top off
  (have : True ∧ True := by
    (try walk1)
    all_goals (first | exact trivial | exact ⟨trivial, trivial⟩))
  trivial
-- LawIf
section
open PySem PySem.W PyProof.Rows PySem.Calls
set_option Elab.async false
set_option maxRecDepth 100000
set_option maxHeartbeats 8000000
set_option linter.unusedSimpArgs false
set_option linter.unusedVariables false
namespace Mine
theorem law_if (w : World) (mean : ExcName → Option Value) (mg mb : Str → Option Value) (L fa : Addr) (base h₀ : Heap) (m : Str → Option Value) (s : Shared) (Q : Flow → Shared → Prop) (E : Value → Shared → Prop) (o1 o2 o3 o4 o5 : Obj) (Dk Dt Dr Dn : Addr) (nk nt nr nn : Nat) (wk wt wr vn : List Value) (row nu : List Int) (bt : Array UInt8) (tt : Tok) (B : Below callerA base [] h₀) (X : (Mine.fk.heap_1 w.params).In h₀) (T : TopM mean mg mb h₀) (l0 : @LT.lt Nat _ 23 L ∧ @LT.lt Nat _ 197 L)
    (F : Fr h₀ L s.heap (fun y => if y = Str.ofString "told" then some (.bytes bt tt) else m y))
    (N : News h₀ L s.heap ((Dk, W.listOf (List.toArray wk) nk) :: (Dt, W.listOf (List.toArray wt) nt) :: (Dr, W.listOf (List.toArray wr) nr) :: (Dn, W.listOf (List.toArray vn) nn) :: (L + 1 + 1 + 1 + 1 + 1, o5) :: (L + 1 + 1 + 1 + 1, o4) :: (L + 1 + 1 + 1, o3) :: (L + 1 + 1, o2) :: (L + 1, o1) :: (23, tabObj #[]) :: (197, tabObj #[]) :: []))
    (lN : @LT.lt Nat _ (L + 1 + 1 + 1 + 1 + 1) Dn) (lR : @LT.lt Nat _ Dn Dr) (lT : @LT.lt Nat _ Dr Dt) (lK : LCg.Off1 Dk ((Dt, W.listOf (List.toArray wt) nt) :: (Dr, W.listOf (List.toArray wr) nr) :: (Dn, W.listOf (List.toArray vn) nn) :: (L + 1 + 1 + 1 + 1 + 1, o5) :: (L + 1 + 1 + 1 + 1, o4) :: (L + 1 + 1 + 1, o3) :: (L + 1 + 1, o2) :: (L + 1, o1) :: (23, tabObj #[]) :: (197, tabObj #[]) :: [])) (c1 : o1.data = .cell (some (.ref Dn)))(c2 : o2.data = .cell (some (.ref Dr)))(c3 : o3.data = .cell (some (.ref Dt)))(c4 : o4.data = .cell (some (.ref Dk))) (c5 : o5.data = .cell none) (hi : IntsAre wr row) (hj : IntsAre vn nu) (hT : IntsAre wt (tL nu)) (hn : nu.length = 4) (hk5 : wk.length = 5) (hkb : ∀ (i : Nat) (y : Value), wk[i]? = some y → BytesIs (byteArr (octL (cpF row i))) y) (hf : Fig row) (h4 : row.length % 4 = 0) (h8 : row.length ≤ 8) (h62 : (62 : Int) ∈ row) (hjb : joinB row nu = bt) (hjz : ((((tL nu).map fun c => byteArr (octL (cpF row c.toNat)))).map Array.size).sum ≤ 16777216)
    (hk : ∀ h' tk', Fr h₀ L h' (fun y => if y = Str.ofString "told" then some (.bytes bt tt) else m y) → News h₀ L h' ((Dk, W.listOf (List.toArray wk) nk) :: (Dt, W.listOf (List.toArray wt) nt) :: (Dr, W.listOf (List.toArray wr) nr) :: (Dn, W.listOf (List.toArray vn) nn) :: (L + 1 + 1 + 1 + 1 + 1, o5) :: (L + 1 + 1 + 1 + 1, o4) :: (L + 1 + 1 + 1, o3) :: (L + 1 + 1, o2) :: (L + 1, o1) :: (23, tabObj #[]) :: (197, tabObj #[]) :: []) →
      wpAny (model PySem.Challenge.rw_oy0177_01.row.prog w) (callerA.deeper (envOfC (Str.ofString "law") (lawFn w.params).scope L fa (Value.ref 199))) (execs (List.drop 7 (match (lawFn w.params).body with | .stmts l => l | _ => [])) (envOfC (Str.ofString "law") (lawFn w.params).scope L fa (Value.ref 199))) Q E { s with heap := h', toks := tk' }) :
    wpAny (model PySem.Challenge.rw_oy0177_01.row.prog w) (callerA.deeper (envOfC (Str.ofString "law") (lawFn w.params).scope L fa (Value.ref 199))) (execs (List.drop 6 (match (lawFn w.params).body with | .stmts l => l | _ => [])) (envOfC (Str.ofString "law") (lawFn w.params).scope L fa (Value.ref 199))) Q E s := by
  (conv in (List.drop 6 _) => whnf)
  repeat (conv in (FuncData.scope _) => whnf)
  (have reg : ∀ (w : World) (h : Heap), (Mine.fk.heap_1 w.params).In h → PySem.Challenge.rw_oy0177_01.row.prog = PySem.Challenge.rw_oy0177_01.row.prog := by (k_fill; intros; rfl))
  clear reg
  have hu := IntsAre.length hT
  have htl := tL_len nu
  simp only [LCg.Off1, and_true] at lK
  (repeat' ((fail_if_success (with_reducible show wpAny _ _ (eval (Expr.ListComp _ _ _ _) _) _ _ _)); (first | ((with_reducible show wpAny _ _ (subscriptTail (Expr.BinOp _ _ _ _) _ _ _) _ _ _); (k_here; (with_reducible show wpAny _ _ (subscriptTail _ (PySem.Expr.Slice _ _ none _) (Value.ref _) (Value.ref _)) _ _ _); k_dflt (refine' slice_temp ?F ?N ?l ?p ?q ?i ?m ?_ ?s ?z; (case F => k_asm); (case N => k_asm); (case l => kmk_list); (case p => kmk_part); (case q => kmk_part); (case i => l_ints); (case m => kmk_nums); (case s => with_unfolding_all rfl); (case z => kmk_size)); intro D' ws' h' F' N' l1 hI'; (try simp only [Int.reduceNeg, Int.neg_neg, Int.reduceToNat] at hI'); (try k_lt l1); (try k_sweep))) | (k_unfold; (try dsimp only)) | (first | (k_here; (with_reducible refine method_join ?_)) | (k_here; (with_reducible show wpAny _ _ (call (Value.ref 167) [Value.int _ _] _) _ _ _); k_dflt (refine' use_spec (figure_spec _ _ _ _ _ _) ?k1 ?k2 ?k3 ?k4 ?k5 ?kK ?kd ?ku ?_; (case k1 => k_asm); (case k2 => k_asm); (case k3 => k_asm); (case k4 => k_asm); (case k5 => k_asm); (case kK => first | exact rfl | assumption); (case kd => ktr_room); (case ku => ktr_units); k_whole); intro v9 h9 tk9 R9 F9 N9; obtain ⟨t9, hv9⟩ := R9; subst hv9; (try k_sweep)) | (k_here; (with_reducible show wpAny _ _ (subscriptTail _ (PySem.Expr.Slice _ _ none _) (Value.ref _) (Value.ref _)) _ _ _); k_dflt (refine' slice_temp ?F ?N ?l ?p ?q ?i ?m ?_ ?s ?z; (case F => k_asm); (case N => k_asm); (case l => kmk_list); (case p => kmk_part); (case q => kmk_part); (case i => l_ints); (case m => kmk_nums); (case s => with_unfolding_all rfl); (case z => kmk_size)); intro D' ws' h' F' N' l1 hI'; (try simp only [Int.reduceNeg, Int.neg_neg, Int.reduceToNat] at hI'); (try k_lt l1); (try k_sweep)) | walk1) | (dsimp only; (first | (k_here; (with_reducible refine method_join ?_)) | (k_here; (with_reducible show wpAny _ _ (call (Value.ref 167) [Value.int _ _] _) _ _ _); k_dflt (refine' use_spec (figure_spec _ _ _ _ _ _) ?k1 ?k2 ?k3 ?k4 ?k5 ?kK ?kd ?ku ?_; (case k1 => k_asm); (case k2 => k_asm); (case k3 => k_asm); (case k4 => k_asm); (case k5 => k_asm); (case kK => first | exact rfl | assumption); (case kd => ktr_room); (case ku => ktr_units); k_whole); intro v9 h9 tk9 R9 F9 N9; obtain ⟨t9, hv9⟩ := R9; subst hv9; (try k_sweep)) | (k_here; (with_reducible show wpAny _ _ (subscriptTail _ (PySem.Expr.Slice _ _ none _) (Value.ref _) (Value.ref _)) _ _ _); k_dflt (refine' slice_temp ?F ?N ?l ?p ?q ?i ?m ?_ ?s ?z; (case F => k_asm); (case N => k_asm); (case l => kmk_list); (case p => kmk_part); (case q => kmk_part); (case i => l_ints); (case m => kmk_nums); (case s => with_unfolding_all rfl); (case z => kmk_size)); intro D' ws' h' F' N' l1 hI'; (try simp only [Int.reduceNeg, Int.neg_neg, Int.reduceToNat] at hI'); (try k_lt l1); (try k_sweep)) | walk1)))))
  refine LCg.ListComp_U (F₀ := by k_asm) (by rfl) (by decide) (by rfl) (by decide) (by rfl) ?_
  (repeat' ((fail_if_success (with_reducible show LCg.CompSrc _ _ _ _ _ _ _ _ _ _ _ _ _ _)); (first | (k_unfold; (try dsimp only)) | (first | (k_here; (with_reducible refine method_join ?_)) | (k_here; (with_reducible show wpAny _ _ (call (Value.ref 167) [Value.int _ _] _) _ _ _); k_dflt (refine' use_spec (figure_spec _ _ _ _ _ _) ?k1 ?k2 ?k3 ?k4 ?k5 ?kK ?kd ?ku ?_; (case k1 => k_asm); (case k2 => k_asm); (case k3 => k_asm); (case k4 => k_asm); (case k5 => k_asm); (case kK => first | exact rfl | assumption); (case kd => ktr_room); (case ku => ktr_units); k_whole); intro v9 h9 tk9 R9 F9 N9; obtain ⟨t9, hv9⟩ := R9; subst hv9; (try k_sweep)) | (k_here; (with_reducible show wpAny _ _ (subscriptTail _ (PySem.Expr.Slice _ _ none _) (Value.ref _) (Value.ref _)) _ _ _); k_dflt (refine' slice_temp ?F ?N ?l ?p ?q ?i ?m ?_ ?s ?z; (case F => k_asm); (case N => k_asm); (case l => kmk_list); (case p => kmk_part); (case q => kmk_part); (case i => l_ints); (case m => kmk_nums); (case s => with_unfolding_all rfl); (case z => kmk_size)); intro D' ws' h' F' N' l1 hI'; (try simp only [Int.reduceNeg, Int.neg_neg, Int.reduceToNat] at hI'); (try k_lt l1); (try k_sweep)) | walk1) | (dsimp only; (first | (k_here; (with_reducible refine method_join ?_)) | (k_here; (with_reducible show wpAny _ _ (call (Value.ref 167) [Value.int _ _] _) _ _ _); k_dflt (refine' use_spec (figure_spec _ _ _ _ _ _) ?k1 ?k2 ?k3 ?k4 ?k5 ?kK ?kd ?ku ?_; (case k1 => k_asm); (case k2 => k_asm); (case k3 => k_asm); (case k4 => k_asm); (case k5 => k_asm); (case kK => first | exact rfl | assumption); (case kd => ktr_room); (case ku => ktr_units); k_whole); intro v9 h9 tk9 R9 F9 N9; obtain ⟨t9, hv9⟩ := R9; subst hv9; (try k_sweep)) | (k_here; (with_reducible show wpAny _ _ (subscriptTail _ (PySem.Expr.Slice _ _ none _) (Value.ref _) (Value.ref _)) _ _ _); k_dflt (refine' slice_temp ?F ?N ?l ?p ?q ?i ?m ?_ ?s ?z; (case F => k_asm); (case N => k_asm); (case l => kmk_list); (case p => kmk_part); (case q => kmk_part); (case i => l_ints); (case m => kmk_nums); (case s => with_unfolding_all rfl); (case z => kmk_size)); intro D' ws' h' F' N' l1 hI'; (try simp only [Int.reduceNeg, Int.neg_neg, Int.reduceToNat] at hI'); (try k_lt l1); (try k_sweep)) | walk1)))))
  refine LCg.CompSrc.ledger (by rfl) (by k_asm) (by k_asm) (by k_mem) (by rw [List.size_toArray, hu, htl, sizeLine_eq]; decide) ?_
  intro g'
  refine comp_rel (fun n y => BytesIs (byteArr (octL (cpF row n.toNat))) y) (by assumption) (by lcg_src) ?_ ?_
  · intro n t I oI C oC D ys m₂ h tk E' hmem hC hx F1 N1
    (repeat' ((fail_if_success (with_reducible show wpAny _ _ (subscriptTail _ _ (Value.ref _) (Value.int _ _)) _ _ _)); (first | (k_unfold; (try dsimp only)) | (first | (k_here; (with_reducible refine method_join ?_)) | (k_here; (with_reducible show wpAny _ _ (call (Value.ref 167) [Value.int _ _] _) _ _ _); k_dflt (refine' use_spec (figure_spec _ _ _ _ _ _) ?k1 ?k2 ?k3 ?k4 ?k5 ?kK ?kd ?ku ?_; (case k1 => k_asm); (case k2 => k_asm); (case k3 => k_asm); (case k4 => k_asm); (case k5 => k_asm); (case kK => first | exact rfl | assumption); (case kd => ktr_room); (case ku => ktr_units); k_whole); intro v9 h9 tk9 R9 F9 N9; obtain ⟨t9, hv9⟩ := R9; subst hv9; (try k_sweep)) | (k_here; (with_reducible show wpAny _ _ (subscriptTail _ (PySem.Expr.Slice _ _ none _) (Value.ref _) (Value.ref _)) _ _ _); k_dflt (refine' slice_temp ?F ?N ?l ?p ?q ?i ?m ?_ ?s ?z; (case F => k_asm); (case N => k_asm); (case l => kmk_list); (case p => kmk_part); (case q => kmk_part); (case i => l_ints); (case m => kmk_nums); (case s => with_unfolding_all rfl); (case z => kmk_size)); intro D' ws' h' F' N' l1 hI'; (try simp only [Int.reduceNeg, Int.neg_neg, Int.reduceToNat] at hI'); (try k_lt l1); (try k_sweep)) | walk1) | (dsimp only; (first | (k_here; (with_reducible refine method_join ?_)) | (k_here; (with_reducible show wpAny _ _ (call (Value.ref 167) [Value.int _ _] _) _ _ _); k_dflt (refine' use_spec (figure_spec _ _ _ _ _ _) ?k1 ?k2 ?k3 ?k4 ?k5 ?kK ?kd ?ku ?_; (case k1 => k_asm); (case k2 => k_asm); (case k3 => k_asm); (case k4 => k_asm); (case k5 => k_asm); (case kK => first | exact rfl | assumption); (case kd => ktr_room); (case ku => ktr_units); k_whole); intro v9 h9 tk9 R9 F9 N9; obtain ⟨t9, hv9⟩ := R9; subst hv9; (try k_sweep)) | (k_here; (with_reducible show wpAny _ _ (subscriptTail _ (PySem.Expr.Slice _ _ none _) (Value.ref _) (Value.ref _)) _ _ _); k_dflt (refine' slice_temp ?F ?N ?l ?p ?q ?i ?m ?_ ?s ?z; (case F => k_asm); (case N => k_asm); (case l => kmk_list); (case p => kmk_part); (case q => kmk_part); (case i => l_ints); (case m => kmk_nums); (case s => with_unfolding_all rfl); (case z => kmk_size)); intro D' ws' h' F' N' l1 hI'; (try simp only [Int.reduceNeg, Int.neg_neg, Int.reduceToNat] at hI'); (try k_lt l1); (try k_sweep)) | walk1)))))
    obtain ⟨b0, b4⟩ := tL_in hmem
    obtain ⟨v, hv, hbv⟩ := item_of hk5 hkb b0 b4
    refine' item_at (vs := wk) ?l b0 (by omega) hv ?_
    case l => kmk_list
    exact ⟨_, _, rfl, by assumption, by assumption, hbv⟩
  · intro ys hl hR D h tk F1 N1 o1
    simp only [LCg.Off1, and_true] at o1
    walk1
    refine' call_join (vs := ys) ?l (bytesAre_of hl hR) (by rw [hl, htl]; decide) (by rw [sizeLine_eq]; exact hjz) ?_
    case l => kmk_list
    intro t9 k9
    rw [show (((tL nu).map fun c => byteArr (octL (cpF row c.toNat))).toArray.flatten) = bt from hjb]
    walk1
    walk1
    rw [if_neg (by simp)]
    walk1
    rw [if_neg (by decide)]
    walk1
    refine' hk _ _ ?f ?n
    case f => assumption
    case n => exact news_sub (by assumption) (by lcg_sub)
end Mine
end
theorem Mine.zz54 : True := by
  k_with_none
  w_top off
  (have : True ∧ True := by
    (try walk1)
    all_goals (first | exact trivial | exact ⟨trivial, trivial⟩))
  trivial
-- RulesV
section
open PySem PySem.W PyProof.Rows PySem.Calls
set_option Elab.async false
set_option maxRecDepth 100000
namespace Mine
section
variable {prog : Program} {w : World} {A : Around} {E : Value → Shared → Prop} {s : Shared} {h₀ : Heap} {L l : Addr} {m : Str → Option Value} {news : List (Addr × Obj)} {value slice : PySem.Expr} {vs : List Value} {vl vu : Value} {lo hi : Option Int} {Q : Value → Shared → Prop}
theorem slice_tempV (F : Fr h₀ L s.heap m) (N : News h₀ L s.heap news) (hl : s.heap.IsList l vs.toArray) (pl : IsPart vl lo) (pu : IsPart vu hi)
    (h : ∀ D ws h', Fr h₀ L h' m → News h₀ L h' ((D, W.listOf (List.toArray ws) 0) :: news) → (∀ p ∈ news, p.1 < D) → ws = (slicePick vs.toArray lo hi none).toList → Q (.ref D) { s with heap := h' })
    (hs : subscripted slice false (.ref l) (.ref s.heap.objs.size) = operate [.ref s.heap.objs.size, .ref l] (getItem (.ref l) (.ref s.heap.objs.size))) (hz : vs.toArray.size ≤ sizeLine) :
    wpAny (model prog w) A (subscriptTail value slice (.ref l) (.ref s.heap.objs.size)) Q E { s with heap := s.heap.push { cls := .type "slice", data := .fields #[vl, vu, .none] } } := by
  refine tail_ops (Heap.IsList.typeIs (s := { s with heap := s.heap.push { cls := .type "slice", data := .fields #[vl, vu, .none] } }) (hl.push _)) list_getitem_lookup
    (wpAny_getItem_list_slice (hl.push _) (Heap.IsSliceOf.new ..) pl pu .none (by simp) ?_ hz) hs
  have N1 := News.push (F.push { cls := .type "slice", data := .fields #[vl, vu, .none] }) (N.grown fun _ _ e => Heap.get?_push_of_some _ e) { cls := .type "list", data := .seq (slicePick vs.toArray lo hi none) }
  rw [Heap.size_push] at N1
  show Q (.ref (s.heap.push _).objs.size) _
  rw [Heap.size_push]
  refine h _ (slicePick vs.toArray lo hi none).toList _ ((F.push _).push _) ?_ (fun p hp => Nat.lt_succ_of_lt (Heap.lt_size (N p hp).1)) rfl
  rw [Array.toArray_toList]
  exact N1
end
end Mine
end
theorem Mine.zz55 : True := by
  k_with_none
  w_top off
  (have : True ∧ True := by
    (try walk1)
    all_goals (first | exact trivial | exact ⟨trivial, trivial⟩))
  trivial
-- LawCopies
section
open PySem PySem.W PyProof.Rows PySem.Calls
set_option Elab.async false
set_option maxRecDepth 100000
set_option maxHeartbeats 8000000
set_option linter.unusedSimpArgs false
set_option linter.unusedVariables false
namespace Mine
theorem law_copies (w : World) (mean : ExcName → Option Value) (mg mb : Str → Option Value) (L fa : Addr) (base h₀ : Heap) (m : Str → Option Value) (s : Shared) (Q : Flow → Shared → Prop) (E : Value → Shared → Prop) (o1 o2 o3 o4 o5 : Obj) (Dk Dt Dr Dn : Addr) (nk nt nr nn : Nat) (wk wt wr vn : List Value) (row nu : List Int) (bt : Array UInt8) (tt : Tok) (B : Below callerA base [] h₀) (X : (Mine.fk.heap_1 w.params).In h₀) (T : TopM mean mg mb h₀) (l0 : @LT.lt Nat _ 23 L ∧ @LT.lt Nat _ 197 L)
    (F : Fr h₀ L s.heap (fun y => if y = Str.ofString "told" then some (.bytes bt tt) else m y))
    (N : News h₀ L s.heap ((Dk, W.listOf (List.toArray wk) nk) :: (Dt, W.listOf (List.toArray wt) nt) :: (Dr, W.listOf (List.toArray wr) nr) :: (Dn, W.listOf (List.toArray vn) nn) :: (L + 1 + 1 + 1 + 1 + 1, o5) :: (L + 1 + 1 + 1 + 1, o4) :: (L + 1 + 1 + 1, o3) :: (L + 1 + 1, o2) :: (L + 1, o1) :: (23, tabObj #[]) :: (197, tabObj #[]) :: []))
    (lN : @LT.lt Nat _ (L + 1 + 1 + 1 + 1 + 1) Dn) (lR : @LT.lt Nat _ Dn Dr) (lT : @LT.lt Nat _ Dr Dt) (lK : LCg.Off1 Dk ((Dt, W.listOf (List.toArray wt) nt) :: (Dr, W.listOf (List.toArray wr) nr) :: (Dn, W.listOf (List.toArray vn) nn) :: (L + 1 + 1 + 1 + 1 + 1, o5) :: (L + 1 + 1 + 1 + 1, o4) :: (L + 1 + 1 + 1, o3) :: (L + 1 + 1, o2) :: (L + 1, o1) :: (23, tabObj #[]) :: (197, tabObj #[]) :: [])) (c1 : o1.data = .cell (some (.ref Dn)))(c2 : o2.data = .cell (some (.ref Dr)))(c3 : o3.data = .cell (some (.ref Dt)))(c4 : o4.data = .cell (some (.ref Dk))) (c5 : o5.data = .cell none) (hi : IntsAre wr row) (hj : IntsAre vn nu) (hT : IntsAre wt (tL nu)) (hn : nu.length = 4) (hk5 : wk.length = 5) (hkb : ∀ (i : Nat) (y : Value), wk[i]? = some y → BytesIs (byteArr (octL (cpF row i))) y) (hf : Fig row) (h4 : row.length % 4 = 0) (h8 : row.length ≤ 8) (h62 : (62 : Int) ∈ row) (hbt : bt = byteArr (octL (nu.foldl deedF row))) (hsp : (Txt.split (strArr ((nu.foldl deedF row).map sgn)) (Str.ofString "Z")).length ≤ 16777216)
    (hk : ∀ h' tk' Dc nc (l : List (Str × Tok)) o5', Fr h₀ L h' (fun y => if y = Str.ofString "told" then some (.bytes bt tt) else m y) → News h₀ L h' ((Dc, W.listOf (List.toArray (slicePick (strValues l).toArray (some 1) none none).toList) nc) :: (Dk, W.listOf (List.toArray wk) nk) :: (Dt, W.listOf (List.toArray wt) nt) :: (Dr, W.listOf (List.toArray wr) nr) :: (Dn, W.listOf (List.toArray vn) nn) :: (L + 1 + 1 + 1 + 1 + 1, o5') :: (L + 1 + 1 + 1 + 1, o4) :: (L + 1 + 1 + 1, o3) :: (L + 1 + 1, o2) :: (L + 1, o1) :: (23, tabObj #[]) :: (197, tabObj #[]) :: []) → @LT.lt Nat _ 197 Dc → o5'.data = .cell (some (.ref Dc)) → l.map (·.1) = Txt.split (strArr ((nu.foldl deedF row).map sgn)) (Str.ofString "Z") →
      wpAny (model PySem.Challenge.rw_oy0177_01.row.prog w) (callerA.deeper (envOfC (Str.ofString "law") (lawFn w.params).scope L fa (Value.ref 199))) (execs (List.drop 8 (match (lawFn w.params).body with | .stmts l => l | _ => [])) (envOfC (Str.ofString "law") (lawFn w.params).scope L fa (Value.ref 199))) Q E { s with heap := h', toks := tk' }) :
    wpAny (model PySem.Challenge.rw_oy0177_01.row.prog w) (callerA.deeper (envOfC (Str.ofString "law") (lawFn w.params).scope L fa (Value.ref 199))) (execs (List.drop 7 (match (lawFn w.params).body with | .stmts l => l | _ => [])) (envOfC (Str.ofString "law") (lawFn w.params).scope L fa (Value.ref 199))) Q E s := by
  (conv in (List.drop 7 _) => whnf)
  repeat (conv in (FuncData.scope _) => whnf)
  (have reg : ∀ (w : World) (h : Heap), (Mine.fk.heap_1 w.params).In h → PySem.Challenge.rw_oy0177_01.row.prog = PySem.Challenge.rw_oy0177_01.row.prog := by (k_fill; intros; rfl))
  clear reg
  obtain ⟨s1, s2, s3, s4, s5⟩ := sound_fold hf h4 h8 h62 (by omega) (rfl : nu.foldl deedF row = nu.foldl deedF row)
  generalize nu.foldl deedF row = xs at *
  subst hbt
  simp only [LCg.Off1, and_true] at lK
  have i1 := sgn_in s1
  have i2 : (xs.map sgn).length ≤ 16777216 := by rw [List.length_map]; omega
  have i3 : 0 < (xs.map sgn).length := by rw [List.length_map]; exact List.length_pos_of_mem s5
  (repeat' ((fail_if_success (with_reducible show wpAny _ _ (call (Value.ref 110) _ _) _ _ _)); (first | (k_unfold; (try dsimp only)) | (first | (k_here; (with_reducible show wpAny _ _ (call (Value.builtin "bytes.decode") [Value.bytes (byteArr _) _, Value.str _ _]) _ _ _); (refine call_decode_ascii (by assumption) (by assumption) (by assumption) ?_); intro t9 k9) | (k_here; (with_reducible show wpAny _ _ (call (Value.ref 167) [Value.int _ _] _) _ _ _); k_dflt (refine' use_spec (figure_spec _ _ _ _ _ _) (by k_asm) (by k_asm) (by k_asm) (by k_asm) (by k_asm) (by first | exact rfl | assumption) (by ktr_room) (by ktr_units) ?_; k_whole); intro v9 h9 tk9 R9 F9 N9; obtain ⟨t9, hv9⟩ := R9; subst hv9; (try k_sweep)) | (k_here; (with_reducible show wpAny _ _ (subscriptTail _ (PySem.Expr.Slice _ _ none _) (Value.ref _) (Value.ref _)) _ _ _); k_dflt (refine' slice_temp (by k_asm) (by k_asm) (by kmk_list) (by kmk_part) (by kmk_part) (by l_ints) (by kmk_nums) ?_ (by with_unfolding_all rfl) (by kmk_size); ); intro D' ws' h' F' N' l1 hI'; (try simp only [Int.reduceNeg, Int.neg_neg, Int.reduceToNat] at hI'); (try k_lt l1); (try k_sweep)) | walk1) | (dsimp only; (first | (k_here; (with_reducible show wpAny _ _ (call (Value.builtin "bytes.decode") [Value.bytes (byteArr _) _, Value.str _ _]) _ _ _); (refine call_decode_ascii (by assumption) (by assumption) (by assumption) ?_); intro t9 k9) | (k_here; (with_reducible show wpAny _ _ (call (Value.ref 167) [Value.int _ _] _) _ _ _); k_dflt (refine' use_spec (figure_spec _ _ _ _ _ _) (by k_asm) (by k_asm) (by k_asm) (by k_asm) (by k_asm) (by first | exact rfl | assumption) (by ktr_room) (by ktr_units) ?_; k_whole); intro v9 h9 tk9 R9 F9 N9; obtain ⟨t9, hv9⟩ := R9; subst hv9; (try k_sweep)) | (k_here; (with_reducible show wpAny _ _ (subscriptTail _ (PySem.Expr.Slice _ _ none _) (Value.ref _) (Value.ref _)) _ _ _); k_dflt (refine' slice_temp (by k_asm) (by k_asm) (by kmk_list) (by kmk_part) (by kmk_part) (by l_ints) (by kmk_nums) ?_ (by with_unfolding_all rfl) (by kmk_size); ); intro D' ws' h' F' N' l1 hI'; (try simp only [Int.reduceNeg, Int.neg_neg, Int.reduceToNat] at hI'); (try k_lt l1); (try k_sweep)) | walk1)))))
  refine' use_spec (b64encode_fig _ _ _ _ _ _ _ s1 s2 s3) ?k1 ?k2 ?k3 ?k4 ?k5 ?kK ?kd ?ku ?_
  (case k1 => k_asm)
  (case k2 => k_asm)
  (case k3 => k_asm)
  (case k4 => k_asm)
  (case k5 => k_asm)
  (case kK => first | exact rfl | assumption)
  (case kd => ktr_room)
  (case ku => ktr_units)
  intro v9 h9 tk9 R9 F9 N9
  obtain ⟨t9, hv9⟩ := R9
  subst hv9
  (repeat' ((fail_if_success (with_reducible show wpAny _ _ (call (Value.builtin "str.split") _) _ _ _)); (first | (k_unfold; (try dsimp only)) | (first | (k_here; (with_reducible show wpAny _ _ (call (Value.builtin "bytes.decode") [Value.bytes (byteArr _) _, Value.str _ _]) _ _ _); (refine call_decode_ascii (by assumption) (by assumption) (by assumption) ?_); intro t9 k9) | (k_here; (with_reducible show wpAny _ _ (call (Value.ref 167) [Value.int _ _] _) _ _ _); k_dflt (refine' use_spec (figure_spec _ _ _ _ _ _) (by k_asm) (by k_asm) (by k_asm) (by k_asm) (by k_asm) (by first | exact rfl | assumption) (by ktr_room) (by ktr_units) ?_; k_whole); intro v9 h9 tk9 R9 F9 N9; obtain ⟨t9, hv9⟩ := R9; subst hv9; (try k_sweep)) | (k_here; (with_reducible show wpAny _ _ (subscriptTail _ (PySem.Expr.Slice _ _ none _) (Value.ref _) (Value.ref _)) _ _ _); k_dflt (refine' slice_temp (by k_asm) (by k_asm) (by kmk_list) (by kmk_part) (by kmk_part) (by l_ints) (by kmk_nums) ?_ (by with_unfolding_all rfl) (by kmk_size); ); intro D' ws' h' F' N' l1 hI'; (try simp only [Int.reduceNeg, Int.neg_neg, Int.reduceToNat] at hI'); (try k_lt l1); (try k_sweep)) | walk1) | (dsimp only; (first | (k_here; (with_reducible show wpAny _ _ (call (Value.builtin "bytes.decode") [Value.bytes (byteArr _) _, Value.str _ _]) _ _ _); (refine call_decode_ascii (by assumption) (by assumption) (by assumption) ?_); intro t9 k9) | (k_here; (with_reducible show wpAny _ _ (call (Value.ref 167) [Value.int _ _] _) _ _ _); k_dflt (refine' use_spec (figure_spec _ _ _ _ _ _) (by k_asm) (by k_asm) (by k_asm) (by k_asm) (by k_asm) (by first | exact rfl | assumption) (by ktr_room) (by ktr_units) ?_; k_whole); intro v9 h9 tk9 R9 F9 N9; obtain ⟨t9, hv9⟩ := R9; subst hv9; (try k_sweep)) | (k_here; (with_reducible show wpAny _ _ (subscriptTail _ (PySem.Expr.Slice _ _ none _) (Value.ref _) (Value.ref _)) _ _ _); k_dflt (refine' slice_temp (by k_asm) (by k_asm) (by kmk_list) (by kmk_part) (by kmk_part) (by l_ints) (by kmk_nums) ?_ (by with_unfolding_all rfl) (by kmk_size); ); intro D' ws' h' F' N' l1 hI'; (try simp only [Int.reduceNeg, Int.neg_neg, Int.reduceToNat] at hI'); (try k_lt l1); (try k_sweep)) | walk1)))))
  refine' KSpl.split1 ?F ?N (by decide) ?_ ?z
  case F => k_asm
  case N => k_asm
  case z => (rw [strArr_length, sizeLine_eq]; simp only [List.length_map]; omega)
  intro D l h' k e' a' F' N' l1
  k_lt l1
  (repeat' ((fail_if_success (with_reducible show wpAny _ _ (subscriptTail _ _ (Value.ref _) (Value.ref _)) _ _ _)); (first | (k_unfold; (try dsimp only)) | (first | (k_here; (with_reducible show wpAny _ _ (call (Value.builtin "bytes.decode") [Value.bytes (byteArr _) _, Value.str _ _]) _ _ _); (refine call_decode_ascii (by assumption) (by assumption) (by assumption) ?_); intro t9 k9) | (k_here; (with_reducible show wpAny _ _ (call (Value.ref 167) [Value.int _ _] _) _ _ _); k_dflt (refine' use_spec (figure_spec _ _ _ _ _ _) (by k_asm) (by k_asm) (by k_asm) (by k_asm) (by k_asm) (by first | exact rfl | assumption) (by ktr_room) (by ktr_units) ?_; k_whole); intro v9 h9 tk9 R9 F9 N9; obtain ⟨t9, hv9⟩ := R9; subst hv9; (try k_sweep)) | (k_here; (with_reducible show wpAny _ _ (subscriptTail _ (PySem.Expr.Slice _ _ none _) (Value.ref _) (Value.ref _)) _ _ _); k_dflt (refine' slice_temp (by k_asm) (by k_asm) (by kmk_list) (by kmk_part) (by kmk_part) (by l_ints) (by kmk_nums) ?_ (by with_unfolding_all rfl) (by kmk_size); ); intro D' ws' h' F' N' l1 hI'; (try simp only [Int.reduceNeg, Int.neg_neg, Int.reduceToNat] at hI'); (try k_lt l1); (try k_sweep)) | walk1) | (dsimp only; (first | (k_here; (with_reducible show wpAny _ _ (call (Value.builtin "bytes.decode") [Value.bytes (byteArr _) _, Value.str _ _]) _ _ _); (refine call_decode_ascii (by assumption) (by assumption) (by assumption) ?_); intro t9 k9) | (k_here; (with_reducible show wpAny _ _ (call (Value.ref 167) [Value.int _ _] _) _ _ _); k_dflt (refine' use_spec (figure_spec _ _ _ _ _ _) (by k_asm) (by k_asm) (by k_asm) (by k_asm) (by k_asm) (by first | exact rfl | assumption) (by ktr_room) (by ktr_units) ?_; k_whole); intro v9 h9 tk9 R9 F9 N9; obtain ⟨t9, hv9⟩ := R9; subst hv9; (try k_sweep)) | (k_here; (with_reducible show wpAny _ _ (subscriptTail _ (PySem.Expr.Slice _ _ none _) (Value.ref _) (Value.ref _)) _ _ _); k_dflt (refine' slice_temp (by k_asm) (by k_asm) (by kmk_list) (by kmk_part) (by kmk_part) (by l_ints) (by kmk_nums) ?_ (by with_unfolding_all rfl) (by kmk_size); ); intro D' ws' h' F' N' l1 hI'; (try simp only [Int.reduceNeg, Int.neg_neg, Int.reduceToNat] at hI'); (try k_lt l1); (try k_sweep)) | walk1)))))
  refine' slice_tempV ?jF ?jN ?jl ?jp ?jq ?_ ?js ?jz
  case jF => k_asm
  case jN => k_asm
  case jl => kmk_list
  case jp => kmk_part
  case jq => kmk_part
  case js => with_unfolding_all rfl
  case jz => (rw [List.size_toArray, sizeLine_eq, show (strValues l).length = (l.map (·.1)).length by simp [strValues], e']; exact hsp)
  intro D2 ws h2 F2 N2 l2 hws
  subst hws
  k_lt l2
  walk1
  walk1
  refine' hk _ _ D2 _ l _ ?f ?n ?l197 ?d ?i
  case l197 => omega
  case d => assumption
  case f => assumption
  case n => exact news_sub (by assumption) (by lcg_sub)
  case i => exact e'
end Mine
end
theorem Mine.zz56 : True := by
  k_with_none
  w_top off
  (have : True ∧ True := by
    (try walk1)
    all_goals (first | exact trivial | exact ⟨trivial, trivial⟩))
  trivial
-- KeyL
section
open PySem PySem.W PyProof.Rows PySem.Calls
set_option Elab.async false
set_option maxRecDepth 100000
set_option maxHeartbeats 1000000
set_option linter.unusedSimpArgs false
set_option linter.unusedVariables false
namespace Mine
def lamIn : Expr → Option (Arguments × Expr × Scope)
  | .Lambda ps b sc _ => some (ps, b, sc)
  | _ => none
def lamOfStmt : Stmt → Option (Arguments × Expr × Scope)
  | .Assign _ (.Call _ _ [⟨_, .Call _ [x] _ _, _⟩] _) _ => lamIn x
  | _ => none
noncomputable def lamP (P : Params) : Arguments × Expr × Scope := (((match (lawFn P).body with | .stmts l => l | _ => [])[8]?).bind lamOfStmt).getD default
noncomputable abbrev lamObj (P : Params) (cell c' : Addr) (pm ctv : Value) : Obj := kla_obj (Str.ofString "<lambda>") (Str.ofString "law.<locals>.<lambda>") (lamP P).1 (lamP P).2.1 (lamP P).2.2 [(Str.ofString "copies", cell)] pm c' ctv
/-- texts of these lengths -/
def LensAre (vc : List Value) (cs : List Int) : Prop := vc.length = cs.length ∧ ∀ (i : Nat) (v : Value), vc[i]? = some v → ∃ x t, v = .str x t ∧ cs[i]? = some (x.length : Int) ∧ x.length ≤ 16777216
theorem lam_spec (w : World) (mean : ExcName → Option Value) (mg mb : Str → Option Value) (f c' cell Dc : Addr) (pm ctv : Value) (vs : Array Value) (tq : Tok) (nc : Nat) (oc : Obj) (vc : List Value) (cs : List Int) (news : List (Addr × Obj)) (i j : Int) (ti tj : Tok) (ci cj : Int)
   (m1 : (f, lamObj w.params cell c' pm ctv) ∈ news) (ocd : Obj) (m2 : (c', ocd) ∈ news) (hcd : ocd.data = .fields vs) (m3 : (cell, oc) ∈ news) (m4 : (Dc, W.listOf vc.toArray nc) ∈ news) (hoc : oc.data = .cell (some (.ref Dc))) (hvs : vs[1]? = some (.str (Str.ofString "law.<locals>.<lambda>") tq))
   (hL : LensAre vc cs) (hi0 : 0 ≤ i) (hj0 : 0 ≤ j) (hi : cs[i.toNat]? = some ci) (hj : cs[j.toNat]? = some cj) (h16 : cs.length ≤ 16) (cs' : Scope) (dp un : Nat) (gd : Option (List Code)) (cn : Str) (a : Addr) (ccd : Value) (cl : List (Str × Addr)) (outer : List Env) (A₀ : Around) (base h₀ : Heap) (L : Addr) (m : Str → Option Value) (s : Shared) (Q E : Value → Shared → Prop)
   (B : Below A₀ base outer h₀) (F : Fr h₀ L s.heap m) (X : (Mine.fk.heap_1 w.params).In h₀) (T : TopM mean mg mb h₀) (N : News h₀ L s.heap news) (hk : cs'.kind = .function) (hd : dp + 3 < recursionLimit) (hu : un + 10 < cLine)
   (hret : ∀ h' tk' t', Fr h₀ L h' m → News h₀ L h' news → Q (.int (ci - cj) t') { s with heap := h', toks := tk' }) :
   wpAny (model PySem.Challenge.rw_oy0177_01.row.prog w) (ktrTop dp un gd cn cs' L a ccd cl outer) (call (.ref f) [.int i ti, .int j tj]) Q E s := by
  (have reg : ∀ (w : World) (h : Heap), (Mine.fk.heap_1 w.params).In h → PySem.Challenge.rw_oy0177_01.row.prog = PySem.Challenge.rw_oy0177_01.row.prog := by (k_fill; intros; rfl))
  clear reg
  refine wpAny_call ?_
  unfold lamObj at m1
  repeat (conv at m1 in (lamP _) => whnf)
  dsimp only at m1
  refine' kla_code (binds := [(Str.ofString "i", .int i ti), (Str.ofString "j", .int j tj)]) B F X N T ?hA ?hf ?hke m1 (codeRec_news N m2 hcd hvs) ?hroom ?hbind ?hloc ?_ ?c1 ?c2 ?c3 ?c4
  case hA => rfl
  case hf => rfl
  case hke => exact hk
  case hroom => ktr_room
  case hbind => rfl
  case hloc => exact locs rfl
  case c1 => rfl
  case c2 => rfl
  case c3 => rfl
  case c4 => decide
  intro g L' h2 FG F' N' B' X' T'
  dsimp only
  k_lift B'
  iterate 6 walk1
  refine' nameX_F N' rfl m3 hoc ?_ rfl rfl (by decide) (by decide)
  walk1
  have hvl : vc.length = cs.length := hL.1
  have ix : i.toNat < cs.length := (List.getElem?_eq_some_iff.mp hi).1
  have jx : j.toNat < cs.length := (List.getElem?_eq_some_iff.mp hj).1
  obtain ⟨x, tx, ex, ex2, ex3⟩ := hL.2 i.toNat vc[i.toNat] (by simp [hvl, ix])
  obtain ⟨y, ty, ey, ey2, ey3⟩ := hL.2 j.toNat vc[j.toNat] (by simp [hvl, jx])
  rw [hi] at ex2
  rw [hj] at ey2
  cases ex2
  cases ey2
  refine' item_at (vs := vc) (v := .str x tx) ?l hi0 (by (first | lia | omega)) (by rw [← ex]; simp [hvl, ix]) ?_
  case l => kmk_list
  walk1
  refine len_str (by (first | lia | omega)) ?_
  iterate 5 walk1
  refine' nameX_F N' rfl m3 hoc ?_ rfl rfl (by decide) (by decide)
  walk1
  refine' item_at (vs := vc) (v := .str y ty) ?l hj0 (by (first | lia | omega)) (by rw [← ey]; simp [hvl, jx]) ?_
  case l => kmk_list
  walk1
  refine len_str (by (first | lia | omega)) ?_
  walk1
  exact ⟨L', _, _, F', N', fun F4 N4 => hret _ _ _ F4 N4⟩
end Mine
end
theorem Mine.zz57 : True := by
  k_with_none
  w_top off
  (have : True ∧ True := by
    (try walk1)
    all_goals (first | exact trivial | exact ⟨trivial, trivial⟩))
  trivial
-- KeyC
section
open PySem PySem.W PyProof.Rows PySem.Calls
set_option Elab.async false
set_option maxRecDepth 100000
set_option maxHeartbeats 1000000
set_option linter.unusedSimpArgs false
set_option linter.unusedVariables false
namespace Mine
/-- one comparison of two key objects -/
theorem key_cmp (w : World) (mean : ExcName → Option Value) (mg mb : Str → Option Value) (L fa : Addr) (base h₀ : Heap) (m : Str → Option Value) (s : Shared) (Q : Bool → Shared → Prop) (E : Value → Shared → Prop) (k : KP) (f c' cell Dc : Addr) (pm ctv : Value) (vs : Array Value) (tq : Tok) (nc : Nat) (oc : Obj) (vc : List Value) (cs : List Int) (news : List (Addr × Obj)) (i j : Int) (ti tj : Tok) (ci cj : Int) (x dx y dy : Addr)
   (m1 : (f, lamObj w.params cell c' pm ctv) ∈ news) (ocd : Obj) (m2 : (c', ocd) ∈ news) (hcd : ocd.data = .fields vs) (m3 : (cell, oc) ∈ news) (m4 : (Dc, W.listOf vc.toArray nc) ∈ news) (hoc : oc.data = .cell (some (.ref Dc))) (hvs : vs[1]? = some (.str (Str.ofString "law.<locals>.<lambda>") tq))
   (hL : LensAre vc cs) (hi0 : 0 ≤ i) (hj0 : 0 ≤ j) (hi : cs[i.toNat]? = some ci) (hj : cs[j.toNat]? = some cj) (h16 : cs.length ≤ 16)
   (mx : (x, keyObj k.C dx (.int i ti)) ∈ news) (mdx : (dx, emptyDict) ∈ news) (my : (y, keyObj k.C dy (.int j tj)) ∈ news) (mdy : (dy, emptyDict) ∈ news)
   (B : Below callerA base [] h₀) (X : (Mine.fk.heap_1 w.params).In h₀) (T : TopM mean mg mb h₀) (F : Fr h₀ L s.heap m) (N : News h₀ L s.heap news) (H : ∀ p ∈ k.news w.params f, p ∈ news) (ok : k.OK)
   (hret : ∀ h' tk', Fr h₀ L h' m → News h₀ L h' news → Q (decide (ci < cj)) { s with heap := h', toks := tk' }) :
   wpAny (model PySem.Challenge.rw_oy0177_01.row.prog w) (lawA w L fa).in1.in1 (keyLt' oneType' (.ref x) (.ref y)) Q E s := by
  (have reg : ∀ (w : World) (h : Heap), (Mine.fk.heap_1 w.params).In h → PySem.Challenge.rw_oy0177_01.row.prog = PySem.Challenge.rw_oy0177_01.row.prog := by (k_fill; intros; rfl))
  clear reg
  refine key_lt (by ktr_units) N H mx mdx ?_
  refine wpAny_call ?_
  have hi' : (k.lt, k.oln w.params) ∈ news := H _ (List.Mem.tail _ (List.Mem.tail _ (List.Mem.tail _ (List.Mem.tail _ (List.Mem.tail _ (List.Mem.head _))))))
  have hc : (k.lc, codeObj k.v2) ∈ news := H _ (List.Mem.tail _ (List.Mem.tail _ (List.Mem.tail _ (List.Mem.tail _ (List.Mem.tail _ (List.Mem.tail _ (List.Mem.head _)))))))
  have hcell : (k.cell, cellObj (.ref f)) ∈ news := H _ (List.Mem.tail _ (List.Mem.tail _ (List.Mem.tail _ (List.Mem.tail _ (List.Mem.tail _ (List.Mem.tail _ (List.Mem.tail _ (List.Mem.head _))))))))
  unfold KP.oln at hi'
  repeat (conv at hi' in (keyDef _ _) => whnf)
  dsimp only at hi'
  refine' code_nest (binds := [(Str.ofString "self", .ref x), (Str.ofString "other", .ref y)]) B F X N T ?hA ?hf ?hke hi' (codeRec_news N hc rfl ok.v2) ?hroom ?hbind ?hloc ?_ ?c1 ?c2 ?c3 ?c4
  case hA => rfl
  case hf => rfl
  case hke => rfl
  case hroom => k_room
  case hbind => exact BindsTo.of_eq rfl
  case hloc => exact locs rfl
  case c1 => rfl
  case c2 => rfl
  case c3 => rfl
  case c4 => decide
  intro g L' h2 FG F' N' B' X' T'
  dsimp only
  k_lift B'
  iterate 5 walk1
  refine' nameX_F N' rfl hcell rfl ?_ rfl rfl (by decide) (by decide)
  refine callWith_F (FnAt.of N' m1) ?_
  iterate 3 walk1
  refine key_get N' H mx mdx rfl ?_
  iterate 3 walk1
  refine key_get N' H my mdy rfl ?_
  walk1
  refine ⟨FnAt.of N' m1, ?_⟩
  refine' lam_spec w mean mg mb f c' cell Dc pm ctv vs tq nc oc vc cs news i j ti tj ci cj m1 ocd m2 hcd m3 m4 hoc hvs hL hi0 hj0 hi hj h16 _ _ _ _ _ _ _ _ _ _ _ _ _ _ _ _ _ B' F' X' T' N' ?hk ?hd ?hu ?_
  case hk => rfl
  case hd => ktr_room
  case hu => ktr_units
  intro h3 tk3 t3 F3 N3
  walk1
  walk1
  refine ⟨L', _, _, F3, N3, fun F4 N4 => ?_⟩
  have hb : decide (ci - cj < 0) = decide (ci < cj) := by
    by_cases h : ci < cj
    · rw [decide_eq_true h, decide_eq_true (by omega)]
    · rw [decide_eq_false h, decide_eq_false (by omega)]
  rw [hb]
  exact hret _ _ F4 N4
end Mine
end
theorem Mine.zz58 : True := by
  k_with_none
  w_top off
  (have : True ∧ True := by
    (try walk1)
    all_goals (first | exact trivial | exact ⟨trivial, trivial⟩))
  trivial
-- RulesR
section
open PySem PySem.W PyProof.Rows PySem.Calls
set_option Elab.async false
set_option maxRecDepth 100000
set_option maxHeartbeats 4000000
namespace Mine
section
variable {prog : Program} {w : World} {A : Around} {E : Value → Shared → Prop} {s : Shared}
def CRPost (s : Shared) (a c : Int) (n : Nat) (r' : Result) (s' : Shared) : Prop := ∃ h' tk acc c', r' = .ok (.ret (.ref s.heap.objs.size)) ∧ s' = { s with heap := h', toks := tk } ∧ h'.get? s.heap.objs.size = some { cls := .type "list", dict := none, data := .seq acc c', slots := #[] } ∧
      (∀ b o, s.heap.get? b = some o → h'.get? b = some o) ∧ ItemsOf (fun i v => ∃ t, v = .int (a + i * c) t) acc n
theorem collect_range {Q : List Value → Shared → Prop} {r : Addr} {a b c : Int} {t u v : Tok} {n : Nat} (hh : A.handled = none) (hr : IsRange s.heap r a b c t u v) (hsmall : Builtin.Range.small a b c = true)
    (hn : Builtin.Range.rangeSize a b c = n) (hlen : n ≤ 2 ^ 24)
    (hQ : ∀ h' tk acc, (∀ b o, s.heap.get? b = some o → h'.get? b = some o) → ItemsOf (fun i v => ∃ t, v = .int (a + i * c) t) acc n → Q acc.toList { s with heap := h', toks := tk }) :
    wpAny (model prog w) A (collect (.ref r)) Q E s := by
  unfold collect
  refine wpAny_bind (wpAny_runValue (codeAny_mono (R := CRPost s a c n) (codeAny_builtin F.entry_proto_collect ?_) fun r' s' hr' => ?_))
  · rw [Around.under_plainId F.plain_proto_collect _]
    show wpAny _ A.in1 (newList [] >>= fun l => again (.builtin "list.__iadd__" ⟨[l, .ref r], []⟩)) _ _ s
    refine wpAny_bind (wpAny_newObj_type ?_)
    refine wpAny_pure ⟨plainId_quiet F.plain_list_iadd _, codeAny_builtin F.entry_list_iadd ?_⟩
    rw [Around.under_plainId F.plain_list_iadd _]
    have hS₁ : (s.heap.push { cls := .type "list", data := .seq ([] : List Value).toArray }).get? s.heap.objs.size = some { cls := .type "list", data := .seq ([] : List Value).toArray } := Heap.get?_push_size _ rfl
    show wpAny _ A.in1 (Builtin.List.listExtendWith (.ref s.heap.objs.size) (.ref r) (.ref s.heap.objs.size)) _ _ _
    refine wpAny_extend_range (A := A) (R := CRPost s a c n) (s := { s with heap := s.heap.push { cls := .type "list", data := .seq ([] : List Value).toArray } }) hh (Heap.get?_push_of_some _ hr) hsmall hn hlen s.heap.objs.size _ _ hS₁ fun h' tk acc' c' hk hS' hacc => ?_
    exact ⟨h', tk, acc', c', rfl, rfl, hS', (fun b o e => hk b o (Nat.ne_of_lt (Heap.lt_size e)) (Heap.get?_push_of_some _ e)), hacc⟩
  · obtain ⟨h', tk, acc, c', rfl, rfl, hS', hk, hacc⟩ := hr'
    show wpAny _ A (load s.heap.objs.size >>= _) _ _ _
    refine wpAny_bind (wpAny_load hS' ?_)
    exact wpAny_pure (hQ h' tk acc hk hacc)
end
end Mine
end
theorem Mine.zz59 : True := by
  k_with_none
  w_top off
  (have : True ∧ True := by
    (try walk1)
    all_goals (first | exact trivial | exact ⟨trivial, trivial⟩))
  trivial
-- KeyS
section
open PySem PySem.W PyProof.Rows PySem.Calls
set_option Elab.async false
set_option maxRecDepth 100000
set_option maxHeartbeats 4000000
set_option linter.unusedSimpArgs false
set_option linter.unusedVariables false
namespace Mine
/-- the sort's questions answered by lt, all places below n -/
def runChk {α : Type} (n : Nat) (lt : Nat → Nat → Bool) : KasT α → Option α
  | .ret a => some a
  | .ask i j k => if i < n ∧ j < n then runChk n lt (k (lt i j)) else none
theorem kas_det {α : Type} {n : Nat} {lt : Nat → Nat → Bool} {cmp : Nat → Nat → (Bool → Shared → Prop) → Shared → Prop} {Inv : Shared → Prop}
    (hc : ∀ i j (C : Bool → Shared → Prop) s, i < n → j < n → Inv s → (∀ s', Inv s' → C (lt i j) s') → cmp i j C s) :
    ∀ (t : KasT α) (a : α) (Q : α → Shared → Prop) (s : Shared), runChk n lt t = some a → Inv s → (∀ s', Inv s' → Q a s') → t.kasWp cmp Q s
  | .ret b, a, Q, s, h, hi, hq => by
    have e : b = a := by simpa [runChk] using h
    subst e; exact hq s hi
  | .ask i j k, a, Q, s, h, hi, hq => by
    unfold runChk at h
    by_cases hb : i < n ∧ j < n
    · rw [if_pos hb] at h
      exact hc i j _ s hb.1 hb.2 hi fun s' hi' => kas_det hc (k (lt i j)) a Q s' h hi' hq
    · rw [if_neg hb] at h; cases h
theorem updF_mk {d : Addr} {o : Obj} : ∀ {pre post : List (Addr × Obj)}, (∀ p ∈ pre, p.1 ≠ d) → (∀ p ∈ post, p.1 ≠ d) → UpdF d o (pre ++ (d, o) :: post) (fun o' => pre ++ (d, o') :: post)
  | [], _, _, h2 => .head h2
  | p :: r, _, h1, h2 => .tail (h1 p (.head _)) (updF_mk (fun q hq => h1 q (.tail _ hq)) h2)
/-- the key objects made so far: address, its dict, its number -/
def insts (C : Addr) (l : List (Addr × Addr × Int × Tok)) : List (Addr × Obj) := l.flatMap fun q => [(q.1, keyObj C q.2.1 (.int q.2.2.1 q.2.2.2)), (q.2.1, emptyDict)]
theorem insts_cons (C : Addr) (x dx : Addr) (i : Int) (t : Tok) (l : List (Addr × Addr × Int × Tok)) : insts C ((x, dx, i, t) :: l) = (x, keyObj C dx (.int i t)) :: (dx, emptyDict) :: insts C l := rfl
theorem insts_mem {C : Addr} {l : List (Addr × Addr × Int × Tok)} {q : Addr × Addr × Int × Tok} (h : q ∈ l) : (q.1, keyObj C q.2.1 (.int q.2.2.1 q.2.2.2)) ∈ insts C l ∧ (q.2.1, emptyDict) ∈ insts C l :=
  ⟨List.mem_flatMap.mpr ⟨q, h, .head _⟩, List.mem_flatMap.mpr ⟨q, h, .tail _ (.head _)⟩⟩
/-- the keys are made one by one -/
theorem key_all (w : World) (mean : ExcName → Option Value) (mg mb : Str → Option Value) (L fa : Addr) (base h₀ : Heap) (m : Str → Option Value) (k : KP) (f : Addr) (news : List (Addr × Obj)) (kS : Addr) (gens : Array GenState) (dr : Drawn) (os : OsState)
    (B : Below callerA base [] h₀) (X : (Mine.fk.heap_1 w.params).In h₀) (T : TopM mean mg mb h₀) (H : ∀ p ∈ k.news w.params f, p ∈ news) (ok : k.OK) (hlt : ∀ p ∈ news, p.1 < kS) {Fin : List Value → Nat → Shared → Prop} :
    ∀ (r : List Value) (ns : List Int) (l : List (Addr × Addr × Int × Tok)) (e : Nat) (h : Heap) (tk : Nat), IntsAre r ns → Fr h₀ L h m → News h₀ L h (insts k.C l ++ (kS, seqObj "list" (List.toArray (l.reverse.map fun q => Value.ref q.1)) e) :: news) → (∀ p ∈ insts k.C l, kS < p.1) →
      (∀ l' e' h' tk', l'.length = l.length + r.length → (l'.reverse.map fun q => q.2.2.1) = (l.reverse.map fun q => q.2.2.1) ++ ns → Fr h₀ L h' m → News h₀ L h' (insts k.C l' ++ (kS, seqObj "list" (List.toArray (l'.reverse.map fun q => Value.ref q.1)) e') :: news) → (∀ p ∈ insts k.C l', kS < p.1) → Fin (l'.reverse.map fun q => Value.ref q.1) e' ⟨h', gens, dr, tk', os⟩) →
      KatKeys PySem.Challenge.rw_oy0177_01.row.prog w (lawA w L fa).in1.in1 h₀ L m kS (.ref k.C) Fin r (l.reverse.map fun q => Value.ref q.1) e ⟨h, gens, dr, tk, os⟩ := by
  intro r
  induction r with
  | nil =>
    intro ns l e h tk hi F N hl hF
    cases hi
    exact KatKeys.nil (hF l e h tk (by simp) (by simp) F N hl)
  | cons v r ih =>
    intro ns l e h tk hi F N hl hF
    cases hi with
    | cons n t hi' =>
    rename_i ns'
    refine KatKeys.cons ?_
    refine key_new w mean mg mb L fa base h₀ m _ _ _ k f n t _ B X T F N (fun p hp => List.mem_append_right _ (List.Mem.tail _ (H p hp))) ok fun x dx h' tk' F' N' l1 l2 => ?_
    have hk : kS < dx := l1 (kS, _) (List.mem_append_right _ (List.Mem.head _))
    have hl2 : ∀ p ∈ insts k.C ((x, dx, n, t) :: l), kS < p.1 := by
      intro p hp
      rw [insts_cons] at hp
      rcases List.mem_cons.mp hp with rfl | hp
      · exact Nat.lt_trans hk l2
      rcases List.mem_cons.mp hp with rfl | hp
      · exact hk
      · exact hl p hp
    have e0 : (x, keyObj k.C dx (.int n t)) :: (dx, emptyDict) :: (insts k.C l ++ (kS, seqObj "list" (List.toArray (l.reverse.map fun q => Value.ref q.1)) e) :: news) = insts k.C ((x, dx, n, t) :: l) ++ (kS, seqObj "list" (List.toArray (l.reverse.map fun q => Value.ref q.1)) e) :: news := rfl
    rw [e0] at N'
    refine KatBack.intro F' N' (updF_mk (fun p hp => Ne.symm (Nat.ne_of_lt (hl2 p hp))) (fun p hp => Nat.ne_of_lt (hlt p hp))) fun h2 c F2 N2 => ?_
    have e1 : (l.reverse.map fun q => Value.ref q.1) ++ [Value.ref x] = (((x, dx, n, t) :: l).reverse.map fun q => Value.ref q.1) := by simp
    rw [e1] at N2 ⊢
    refine ih ns' ((x, dx, n, t) :: l) c h2 tk' hi' F2 N2 hl2 fun l' e' h' tk'' hlen hns F3 N3 hl3 => ?_
    exact hF l' e' h' tk'' (by rw [hlen]; simp; (first | lia | omega)) (by rw [hns]; simp) F3 N3 hl3
end Mine
end
theorem Mine.zz60 : True := by
  k_with_none
  w_top off
  (have : True ∧ True := by
    (try walk1)
    all_goals (first | exact trivial | exact ⟨trivial, trivial⟩))
  trivial
-- KeyT
section
open PySem PySem.W PyProof.Rows PySem.Calls
set_option Elab.async false
set_option maxRecDepth 100000
set_option maxHeartbeats 4000000
set_option linter.unusedSimpArgs false
set_option linter.unusedVariables false
namespace Mine
def ns16 : List Int := (List.range 16).map fun (i : Nat) => (i : Int)
theorem ints16 {acc : Array Value} (h : ItemsOf (fun i v => ∃ t, v = Value.int (0 + (i : Int) * 1) t) acc 16) : IntsAre acc.toList ns16 := by
  refine ints_of (by simp [ns16, h.1]) fun j y hy => ?_
  have hj : j < 16 := by
    have := (List.getElem?_eq_some_iff.mp hy).1
    rw [Array.length_toList, h.1] at this; exact this
  obtain ⟨t, rfl⟩ := h.2 j y (by simpa using hy)
  exact ⟨(j : Int), t, by simp [ns16, hj], by simp⟩
theorem out_ints {vs : List Value} (hv : IntsAre vs ns16) : ∀ {ord : List Nat}, (∀ i ∈ ord, i < 16) → IntsAre (ord.map fun i => vs.getD i Value.none) (ord.map fun (i : Nat) => (i : Int))
  | [], _ => .nil
  | i :: r, h => by
    have hi : i < 16 := h i (.head _)
    have hl : vs.length = 16 := by rw [hv.length]; simp [ns16]
    obtain ⟨n, t, e1, e2⟩ := hv.at i vs[i] (by simp [hl, hi])
    have e3 : n = (i : Int) := by
      have : ns16[i]? = some (i : Int) := by simp [ns16, hi]
      rw [this] at e2; exact (Option.some.inj e2).symm
    have e4 : vs.getD i Value.none = Value.int (i : Int) t := by
      simp only [List.getD_eq_getElem?_getD]
      rw [show vs[i]? = some vs[i] from by simp [hl, hi], Option.getD_some, e1, e3]
    rw [List.map_cons, List.map_cons, e4]
    exact .cons _ _ (out_ints hv fun j hj => h j (.tail _ hj))
/-- the sort of range(16) under the key objects -/
theorem key_sort (w : World) (mean : ExcName → Option Value) (mg mb : Str → Option Value) (L fa : Addr) (base h₀ : Heap) (m : Str → Option Value) (s : Shared) (Q E : Value → Shared → Prop) (k : KP) (f c' cell Dc : Addr) (pm ctv : Value) (vs : Array Value) (tq : Tok) (nc : Nat) (oc : Obj) (vc : List Value) (cs : List Int) (news : List (Addr × Obj)) (r : Addr) (t1 t2 t3 : Tok) (p : Array Nat)
   (m1 : (f, lamObj w.params cell c' pm ctv) ∈ news) (ocd : Obj) (m2 : (c', ocd) ∈ news) (hcd : ocd.data = .fields vs) (m3 : (cell, oc) ∈ news) (m4 : (Dc, W.listOf vc.toArray nc) ∈ news) (hoc : oc.data = .cell (some (.ref Dc))) (hvs : vs[1]? = some (.str (Str.ofString "law.<locals>.<lambda>") tq))
   (hL : LensAre vc cs) (h16 : cs.length = 16) (hp : runChk 16 (fun i j => decide (cs.getD i 0 < cs.getD j 0)) (kas_sort 16) = some p) (hp16 : ∀ i ∈ p.toList, i < 16)
   (B : Below callerA base [] h₀) (X : (Mine.fk.heap_1 w.params).In h₀) (T : TopM mean mg mb h₀) (F : Fr h₀ L s.heap m) (N : News h₀ L s.heap news) (H : ∀ p ∈ k.news w.params f, p ∈ news) (ok : k.OK) (hr : IsRange s.heap r 0 16 1 t1 t2 t3)
   (hret : ∀ D n' ws h' tk', Fr h₀ L h' m → News h₀ L h' ((D, W.listOf (List.toArray ws) n') :: news) → (∀ q ∈ news, q.1 < D) → IntsAre ws (p.toList.map fun (i : Nat) => (i : Int)) → Q (.ref D) { s with heap := h', toks := tk' }) :
   wpAny (model PySem.Challenge.rw_oy0177_01.row.prog w) (lawA w L fa) (call (.builtin "sorted") [.ref r] [(Str.ofString "key", .ref k.C)]) Q E s := by
  refine call_function_entry_kw kind_sorted plain_sorted entry_sorted (by ksk_a1) ?_
  unfold Builtin.«sorted»
  refine wpAny_bind (m := checkCount "sorted" 1 1 _) (wpAny_pure ?_)
  refine wpAny_bind (collect_range (n := 16) rfl hr (by decide) (by decide) (by decide) fun h1 tk1 acc hk1 hacc => ?_)
  have hI := ints16 hacc
  have hl16 : acc.toList.length = 16 := by rw [Array.length_toList, hacc.1]
  refine wpAny_bind (wpAny_newList ?_ (by rw [hl16, sizeLine_eq]; decide))
  have F1 : Fr h₀ L h1 m := F.keeps hk1
  have N1 : News h₀ L h1 news := N.grown hk1
  have hoL : (h1.push (seqObj "list" acc.toList.toArray 0)).get? h1.objs.size = some (seqObj "list" acc.toList.toArray 0) := Heap.get?_push_size _ rfl
  have hLs : @LT.lt Nat _ L h1.objs.size := F1.ns.lt
  show wpAny _ _ _ _ _ { s with heap := h1.push (seqObj "list" acc.toList.toArray 0), toks := tk1 }
  refine wpAny_bind (wpAny_holding (wpAny_call_entry_kw slot_list_sort ⟨_, hoL, rfl⟩ entry_list_sort ?body (by ksk_a2)))
  case body =>
    show wpAny _ _ (Builtin.«list.sort» ⟨[.ref h1.objs.size], [(Str.ofString "key", .ref k.C)]⟩) _ _ _
    have ht : ∀ x, Builtin.«list.sort» ⟨[.ref x], [(Str.ofString "key", .ref k.C)]⟩ = ksk_tree x (.ref k.C) false := by intro x; ksk_a3
    rw [ht]
    refine kat_keyed (vs := acc.toList) (s := { s with heap := h1.push (seqObj "list" acc.toList.toArray 0), toks := tk1 }) (news := news) (F1.push _) (N1.grown fun b o e => Heap.get?_push_of_some _ e) hoL (Nat.ne_of_gt hLs) (Heap.get?_none_of_le (Nat.le_trans F1.above (Nat.le_of_lt hLs)))
      (fun q hq => Nat.ne_of_lt (Heap.lt_size (N1 q hq).1)) (by rw [hl16]; decide) (by rw [hl16]; decide) fun kS e1 h' F' N' l0 l1 => ?_
    have hlD : ∀ q ∈ news, q.1 < h1.objs.size := fun q hq => Heap.lt_size (N1 q hq).1
    refine key_all w mean mg mb L fa base h₀ m k f ((h1.objs.size, seqObj "list" #[] e1) :: news) kS _ _ _ B X T (fun q hq => List.Mem.tail _ (H q hq)) ok (fun q hq => ?_) acc.toList ns16 [] 0 h' _ hI F' N' (fun q hq => by cases hq) fun l' e' h2 tk2 hlen hns F3 N3 hl3 => ?_
    · rcases List.mem_cons.mp hq with rfl | hq
      · exact l0
      · exact l1 q hq
    · have hlr : l'.length = 16 := by rw [hlen, hl16]; rfl
      have hat : ∀ (i : Nat), i < 16 → ∃ q ∈ l', q.2.2.1 = (i : Int) ∧ (l'.reverse.map fun q => Value.ref q.1).getD i Value.none = .ref q.1 := by
        intro i hi
        have hir : i < l'.reverse.length := by rw [List.length_reverse, hlr]; exact hi
        have h1 : (l'.reverse.map fun q => q.2.2.1)[i]? = ns16[i]? := by rw [hns]; rfl
        have h2 : ns16[i]? = some (i : Int) := by simp [ns16, hi]
        rw [h2, List.getElem?_map, List.getElem?_eq_getElem hir] at h1
        refine ⟨l'.reverse[i], List.mem_reverse.mp (List.getElem_mem hir), Option.some.inj h1, ?_⟩
        rw [List.getD_eq_getElem?_getD, List.getElem?_map, List.getElem?_eq_getElem hir]; rfl
      have hks : (l'.reverse.map fun q => Value.ref q.1).length = 16 := by rw [List.length_map, List.length_reverse, hlr]
      have hin : ∀ q ∈ news, q ∈ insts k.C l' ++ (kS, seqObj "list" (List.toArray (l'.reverse.map fun q => Value.ref q.1)) e') :: (h1.objs.size, seqObj "list" #[] e1) :: news := fun q hq => List.mem_append_right _ (List.Mem.tail _ (List.Mem.tail _ hq))
      refine kas_kind (T := .ref k.C) (by rw [hks]; decide) (fun v hv => ?_) (by simp) (by simp) ?_
      · obtain ⟨q, hq, rfl⟩ := List.mem_map.mp hv
        have hm := (insts_mem (C := k.C) (List.mem_reverse.mp hq)).1
        exact (Looks.ld (N3 _ (List.mem_append_left _ hm)).1).andThen .now
      · rw [hl16]
        refine kas_det (n := 16) (lt := fun i j => decide (cs.getD i 0 < cs.getD j 0)) (Inv := fun s' => ∃ h3 tk3, s' = ⟨h3, s.gens, s.drawn, tk3, s.os⟩ ∧ Fr h₀ L h3 m ∧ News h₀ L h3 (insts k.C l' ++ (kS, seqObj "list" (List.toArray (l'.reverse.map fun q => Value.ref q.1)) e') :: (h1.objs.size, seqObj "list" #[] e1) :: news)) ?hc _ p _ _ hp ⟨h2, tk2, rfl, F3, N3⟩ ?hq
        case hc =>
          rintro i j C s3 hi hj ⟨h3, tk3, rfl, F4, N4⟩ hC
          obtain ⟨qi, mi, ni, gi⟩ := hat i hi
          obtain ⟨qj, mj, nj, gj⟩ := hat j hj
          obtain ⟨xi, dxi, ii, ti⟩ := qi
          obtain ⟨xj, dxj, ij, tj⟩ := qj
          dsimp only at ni nj gi gj
          subst ni
          subst nj
          show wpAny _ _ (keyLt' oneType' ((l'.reverse.map fun q => Value.ref q.1).getD i Value.none) ((l'.reverse.map fun q => Value.ref q.1).getD j Value.none)) C (fun _ _ => False) _
          rw [gi, gj]
          have ai := insts_mem (C := k.C) mi
          have aj := insts_mem (C := k.C) mj
          have ci : cs[((i : Int)).toNat]? = some (cs.getD i 0) := by
            rw [Int.toNat_natCast, List.getD_eq_getElem?_getD, List.getElem?_eq_getElem (by (first | lia | omega))]; rfl
          have cj : cs[((j : Int)).toNat]? = some (cs.getD j 0) := by
            rw [Int.toNat_natCast, List.getD_eq_getElem?_getD, List.getElem?_eq_getElem (by (first | lia | omega))]; rfl
          refine key_cmp w mean mg mb L fa base h₀ m _ C _ k f c' cell Dc pm ctv vs tq nc oc vc cs _ (i : Int) (j : Int) ti tj _ _ xi dxi xj dxj (hin _ m1) ocd (hin _ m2) hcd (hin _ m3) (hin _ m4) hoc hvs hL (by (first | lia | omega)) (by (first | lia | omega)) ci cj (by (first | lia | omega)) (List.mem_append_left _ ai.1) (List.mem_append_left _ ai.2) (List.mem_append_left _ aj.1) (List.mem_append_left _ aj.2) B X T F4 N4 (fun q hq => hin _ (H q hq)) ok fun h5 tk5 F5 N5 => ?_
          exact hC _ ⟨h5, tk5, rfl, F5, N5⟩
        case hq =>
          rintro s3 ⟨h3, tk3, rfl, F4, N4⟩
          refine KatFin.intro F4 N4 (updF_mk (fun q hq => Ne.symm (Nat.ne_of_lt (hl3 q hq))) (fun q hq => ?_)) fun h5 c5 F5 N5 => ?_
          · rcases List.mem_cons.mp hq with rfl | hq
            · exact Nat.ne_of_lt l0
            · exact Nat.ne_of_lt (l1 q hq)
          have e0 : insts k.C l' ++ (kS, seqObj "list" #[] c5) :: (h1.objs.size, seqObj "list" #[] e1) :: news = (insts k.C l' ++ [(kS, seqObj "list" #[] c5)]) ++ (h1.objs.size, seqObj "list" #[] e1) :: news := by simp
          rw [e0] at N5
          refine KasFin.intro F5 N5 (updF_mk (fun q hq => ?_) (fun q hq => Nat.ne_of_lt (hlD q hq))) fun h6 c6 F6 N6 => ?_
          · rcases List.mem_append.mp hq with hq | hq
            · exact Ne.symm (Nat.ne_of_lt (Nat.lt_trans l0 (hl3 q hq)))
            · rw [List.mem_singleton.mp hq]; exact Ne.symm (Nat.ne_of_lt l0)
          refine ⟨_, rfl, wpAny_pure ⟨_, rfl, ?_⟩⟩
          exact hret h1.objs.size c6 _ h6 tk3 F6 (news_sub N6 fun q hq => List.mem_append_right _ hq) hlD (out_ints hI hp16)
end Mine
end
theorem Mine.zz61 : True := by
  k_with_none
  w_top off
  (have : True ∧ True := by
    (try walk1)
    all_goals (first | exact trivial | exact ⟨trivial, trivial⟩))
  trivial
-- LawOrder
section
open PySem PySem.W PyProof.Rows PySem.Calls
set_option Elab.async false
set_option maxRecDepth 100000
set_option maxHeartbeats 8000000
set_option linter.unusedSimpArgs false
set_option linter.unusedVariables false
namespace Mine
theorem law_order (w : World) (mean : ExcName → Option Value) (mg mb : Str → Option Value) (L fa : Addr) (base h₀ : Heap) (m : Str → Option Value) (s : Shared) (Q : Flow → Shared → Prop) (E : Value → Shared → Prop) (o1 o2 o3 o4 o5 : Obj) (Dc Dk Dt Dr Dn : Addr) (nc nk nt nr nn : Nat) (vc wk wt wr vn : List Value) (nu cs : List Int) (bt : Array UInt8) (tt : Tok) (p : Array Nat) (B : Below callerA base [] h₀) (X : (Mine.fk.heap_1 w.params).In h₀) (T : TopM mean mg mb h₀) (l0 : @LT.lt Nat _ 23 L ∧ @LT.lt Nat _ 197 L) (XB : BigIn w.params h₀) (CA : CodeAll [(27, 23), (199, 197)] h₀)
    (F : Fr h₀ L s.heap (fun y => if y = Str.ofString "told" then some (.bytes bt tt) else m y))
    (N : News h₀ L s.heap ((Dc, W.listOf (List.toArray vc) nc) :: (Dk, W.listOf (List.toArray wk) nk) :: (Dt, W.listOf (List.toArray wt) nt) :: (Dr, W.listOf (List.toArray wr) nr) :: (Dn, W.listOf (List.toArray vn) nn) :: (L + 1 + 1 + 1 + 1 + 1, o5) :: (L + 1 + 1 + 1 + 1, o4) :: (L + 1 + 1 + 1, o3) :: (L + 1 + 1, o2) :: (L + 1, o1) :: (23, tabObj #[]) :: (197, tabObj #[]) :: []))
    (lN : @LT.lt Nat _ (L + 1 + 1 + 1 + 1 + 1) Dn) (lR : @LT.lt Nat _ Dn Dr) (lT : @LT.lt Nat _ Dr Dt) (lK : LCg.Off1 Dk ((Dt, W.listOf (List.toArray wt) nt) :: (Dr, W.listOf (List.toArray wr) nr) :: (Dn, W.listOf (List.toArray vn) nn) :: (L + 1 + 1 + 1 + 1 + 1, o5) :: (L + 1 + 1 + 1 + 1, o4) :: (L + 1 + 1 + 1, o3) :: (L + 1 + 1, o2) :: (L + 1, o1) :: (23, tabObj #[]) :: (197, tabObj #[]) :: [])) (c1 : o1.data = .cell (some (.ref Dn)))(c2 : o2.data = .cell (some (.ref Dr)))(c3 : o3.data = .cell (some (.ref Dt)))(c4 : o4.data = .cell (some (.ref Dk)))(c5 : o5.data = .cell (some (.ref Dc))) (hT : IntsAre wt (tL nu)) (lC : @LT.lt Nat _ 197 Dc) (hL : LensAre vc cs) (h16 : cs.length = 16) (hp : runChk 16 (fun i j => decide (cs.getD i 0 < cs.getD j 0)) (kas_sort 16) = some p) (hp16 : ∀ i ∈ p.toList, i < 16)
    (hk : ∀ h' tk' Do no wo ps1 ps2, Fr h₀ L h' (fun y => if y = Str.ofString "order" then some (.ref Do) else if y = Str.ofString "told" then some (.bytes bt tt) else m y) → News h₀ L h' ((Do, W.listOf (List.toArray wo) no) :: (Dt, W.listOf (List.toArray wt) nt) :: (L + 1 + 1 + 1, o3) :: (23, tabObj ps1) :: (197, tabObj ps2) :: []) → IntsAre wo (p.toList.map fun (i : Nat) => (i : Int)) →
      wpAny (model PySem.Challenge.rw_oy0177_01.row.prog w) (callerA.deeper (envOfC (Str.ofString "law") (lawFn w.params).scope L fa (Value.ref 199))) (execs (List.drop 9 (match (lawFn w.params).body with | .stmts l => l | _ => [])) (envOfC (Str.ofString "law") (lawFn w.params).scope L fa (Value.ref 199))) Q E { s with heap := h', toks := tk' }) :
    wpAny (model PySem.Challenge.rw_oy0177_01.row.prog w) (callerA.deeper (envOfC (Str.ofString "law") (lawFn w.params).scope L fa (Value.ref 199))) (execs (List.drop 8 (match (lawFn w.params).body with | .stmts l => l | _ => [])) (envOfC (Str.ofString "law") (lawFn w.params).scope L fa (Value.ref 199))) Q E s := by
  (conv in (List.drop 8 _) => whnf)
  repeat (conv in (FuncData.scope _) => whnf)
  (have reg : ∀ (w : World) (h : Heap), (Mine.fk.heap_1 w.params).In h → PySem.Challenge.rw_oy0177_01.row.prog = PySem.Challenge.rw_oy0177_01.row.prog := by (k_fill; intros; rfl))
  clear reg
  have hsz : @LT.lt Nat _ L s.heap.objs.size := F.ns.lt
  have hab := F.above
  simp only [LCg.Off1, and_true] at lK
  (repeat' ((fail_if_success (with_reducible show wpAny _ _ (call (Value.ref 28) _ _) _ _ _)); (first | (k_unfold; (try dsimp only)) | walk1 | (dsimp only; walk1))))
  rename IsRange _ _ _ _ _ _ _ _ => hrg
  rename News _ _ _ _ => N0
  rename Fr _ _ _ _ => F0
  have N1 := news_cons N0 hrg (Nat.ne_of_gt hsz) (Heap.get?_none_of_le (Nat.le_trans hab (Nat.le_of_lt hsz)))
  refine' kla_eval ?d0 ?_
  case d0 => exact rfl
  refine' kla_nest F0 N1 ?T CA.2.1 ?cd ?U ?t ?n ?cl ?_
  case T => k_asm
  case cd => exact rfl
  case U => k_updF
  case t => kn_triples
  case n => kn_among
  case cl => exact rfl
  intro f c' oc vs tq ctv h' tk' F' N' hd1 hd2 l1 l2
  dsimp only at N'
  (repeat' ((fail_if_success (with_reducible show wpAny _ _ (call (Value.ref 28) _ _) _ _ _)); (first | (k_unfold; (try dsimp only)) | walk1 | (dsimp only; walk1))))
  refine key_cls w L fa h₀ _ _ _ _ f _ XB F' N' (by k_mem) (by omega) fun k ps h2 tk2 ok F2 N2 => ?_
  (repeat' ((fail_if_success (with_reducible show wpAny _ _ (call (Value.builtin "sorted") _ _) _ _ _)); (first | (k_unfold; (try dsimp only)) | walk1 | (dsimp only; walk1))))
  show wpAny _ _ (call _ _ [(Str.ofString "key", Value.ref k.C)]) _ _ _
  have h23 : @LT.lt Nat _ 23 c' := l1 (23, tabObj #[]) (by k_mem)
  have l2' : @LT.lt Nat _ c' f := l2
  have l197 : @LT.lt Nat _ 197 c' := l1 (197, tabObj #[]) (by k_mem)
  have N3 := N2 (List.filter (fun q => decide (q.1 ≠ 23)) _) (fun q hq => by have := List.mem_filter.mp hq; exact ⟨this.1, of_decide_eq_true this.2⟩)
  obtain ⟨ps2, h197⟩ := tab_mem (a := 197) N' (by repeat (first | exact List.Mem.head _ | apply List.Mem.tail))
  have inF : ∀ {q : Addr × Obj} {l : List (Addr × Obj)}, q ∈ l → q.1 ≠ 23 → q ∈ k.news w.params f ++ (23, tabObj ps) :: List.filter (fun q => decide (q.1 ≠ 23)) l := fun h1 h2 => List.mem_append_right _ (List.Mem.tail _ (List.mem_filter.mpr ⟨h1, decide_eq_true h2⟩))
  have hrg2 := (N3 _ (inF (q := (s.heap.objs.size, _)) (by k_mem) (Ne.symm (Nat.ne_of_lt (show @LT.lt Nat _ 23 (s.heap.objs.size) by omega))))).1
  refine key_sort w mean mg mb L fa base h₀ _ _ _ _ k f c' (L + 1 + 1 + 1 + 1 + 1) Dc _ ctv vs tq nc o5 vc cs _ s.heap.objs.size _ _ _ p (inF (List.Mem.head _) (Ne.symm (Nat.ne_of_lt (show @LT.lt Nat _ 23 (f) by omega)))) oc (inF (List.Mem.tail _ (List.Mem.head _)) (Ne.symm (Nat.ne_of_lt (show @LT.lt Nat _ 23 (c') by omega)))) hd1 (inF (by k_mem) (Ne.symm (Nat.ne_of_lt (show @LT.lt Nat _ 23 (L + 1 + 1 + 1 + 1 + 1) by omega)))) (inF (by k_mem) (Ne.symm (Nat.ne_of_lt (show @LT.lt Nat _ 23 (Dc) by omega)))) c5 hd2 hL h16 hp hp16 B X T F2 N3 (fun q hq => List.mem_append_left _ hq) ok hrg2 ?_
  intro D n' ws h3 tk3 F3 N4 l4 hI
  walk1
  rename News _ _ _ _ => N4
  refine' hk _ _ D n' ws ps ps2 ?f (fun q hq => N4 q ?mem) hI
  case f => assumption
  case mem =>
    simp only [List.mem_cons, List.not_mem_nil, or_false] at hq
    rcases hq with rfl | rfl | rfl | rfl | rfl
    · exact List.Mem.head _
    · exact List.Mem.tail _ (inF (by k_mem) (Ne.symm (Nat.ne_of_lt (show @LT.lt Nat _ 23 Dt by omega))))
    · exact List.Mem.tail _ (inF (by k_mem) (Ne.symm (Nat.ne_of_lt (show @LT.lt Nat _ 23 (L + 1 + 1 + 1) by omega))))
    · exact List.Mem.tail _ (List.mem_append_right _ (List.Mem.head _))
    · exact List.Mem.tail _ (inF h197 (show (197 : Nat) ≠ 23 by decide))
end Mine
end
theorem Mine.zz62 : True := by
  k_with_none
  w_top off
  (have : True ∧ True := by
    (try walk1)
    all_goals (first | exact trivial | exact ⟨trivial, trivial⟩))
  trivial
-- Comp2
section
open PySem PySem.W PyProof.Rows PySem.Calls
set_option Elab.async false
set_option maxRecDepth 100000
set_option maxHeartbeats 2000000
namespace Mine
section
variable {prog : Program} {w : World} {A : Around} {R : Result → Shared → Prop} {s : Shared} {elt iter₁ iter₂ tst : Expr} {x₁ x₂ : Str} {p₁ p₂ : Pos} {scope : Scope} {pos : Pos} {it acc : Value} {env : Env}
/-- [elt for x₁ in iter₁ for x₂ in iter₂ if tst] -/
abbrev two (elt iter₁ iter₂ tst : Expr) (x₁ x₂ : Str) (p₁ p₂ : Pos) (scope : Scope) (pos : Pos) : Expr := .ListComp elt [⟨.Name x₁ p₁, iter₁, [], 0⟩, ⟨.Name x₂ p₂, iter₂, [tst], 0⟩] scope pos
theorem turn1 : compTurn (two elt iter₁ iter₂ tst x₁ x₂ p₁ p₂ scope pos) 1 it acc env = (do
      standAt iter₂.pos
      match ← pyNext it with
      | none => pure (.done .next)
      | some v =>
        letOwnedTupleGo (.Name x₂ p₂) it v
        assign (.Name x₂ p₂) env v
        let mut ok := true
        for c in [tst] do
          if ok then ok ← isTrue c env (eval c env)
        if ok then
          (do let _ ← call (.builtin "list.append") [acc, ← eval elt env])
        again (.compLoop (two elt iter₁ iter₂ tst x₁ x₂ p₁ p₂ scope pos) 1 it acc env)) := by rfl
theorem turn0 : compTurn (two elt iter₁ iter₂ tst x₁ x₂ p₁ p₂ scope pos) 0 it acc env = (do
      standAt iter₁.pos
      match ← pyNext it with
      | none => pure (.done .next)
      | some v => do
        letOwnedTupleGo (.Name x₁ p₁) it v
        assign (.Name x₁ p₁) env v
        let ok ← forIn ([] : List Expr) true fun c r => if r = true then do let ok ← isTrue c env (eval c env); pure (ForInStep.yield ok) else pure (ForInStep.yield r)
        if ok = true then do
          let x ← eval iter₂ env
          standAt iter₂.pos
          let x ← foldedSetIterable iter₂ env x
          let it₂ ← holding [x] (pyIter x)
          let _ ← runOwn (.compStart (two elt iter₁ iter₂ tst x₁ x₂ p₁ p₂ scope pos) 1 it₂ acc env) env
          again (.compLoop (two elt iter₁ iter₂ tst x₁ x₂ p₁ p₂ scope pos) 0 it acc env)
        else again (.compLoop (two elt iter₁ iter₂ tst x₁ x₂ p₁ p₂ scope pos) 0 it acc env)) := by rfl
theorem loop1 (I : Nat → Shared → Prop)
    (turn : ∀ n s, I n s → wpAny (model prog w) A (pyNext it) (fun r s₁ => match r with
      | none => R (.ok .next) s₁
      | some v => wpAny (model prog w) A (assign (.Name x₂ p₂) env v) (fun _ s₂ =>
          wpAny (model prog w) A (isTrue tst env (eval tst env)) (fun ok s₃ =>
            if ok = true then wpAny (model prog w) A (eval elt env) (fun x s₄ =>
              wpAny (model prog w) A (call (.builtin "list.append") [acc, x]) (fun _ s₅ => ∃ m, m < n ∧ I m s₅) (notedBy (model prog w) A env fun e s' => R (.error e) s') s₄) (notedBy (model prog w) A env fun e s' => R (.error e) s') s₃
            else ∃ m, m < n ∧ I m s₃) (notedBy (model prog w) A env fun e s' => R (.error e) s') s₂) (notedBy (model prog w) A env fun e s' => R (.error e) s') s₁) (notedBy (model prog w) A env fun e s' => R (.error e) s') s)
    (n : Nat) (h : I n s) : codeAny (model prog w) A (.compLoop (two elt iter₁ iter₂ tst x₁ x₂ p₁ p₂ scope pos) 1 it acc env) R s := by
  refine codeAny_loop rfl I (fun n s hI => ?_) n h
  show wpAny _ A ((compTurn (two elt iter₁ iter₂ tst x₁ x₂ p₁ p₂ scope pos) 1 it acc env).onRaise (fun x => do noteFrame x env; theTreesLotGoes x)) _ _ s
  refine wpAny_noted ?_
  rw [turn1]
  refine wpAny_bind (wpAny_standAt (wpAny_bind (wpAny_mono (turn n s hI) (fun r s₁ h₁ => ?_) fun _ _ h' => h')))
  cases r with
  | none => exact wpAny_pure h₁
  | some v =>
    refine wpAny_bind (wpAny_pure ?_)
    refine wpAny_bind (wpAny_mono h₁ (fun _ s₂ h₂ => wpAny_bind (wpAny_tests_one (wpAny_mono h₂ (fun ok s₃ h₃ => ?_) fun _ _ h' => h'))) fun _ _ h' => h')
    cases ok with
    | false => exact wpAny_pure ⟨rfl, h₃⟩
    | true =>
      exact wpAny_bind (wpAny_bind (wpAny_mono h₃ (fun x s₄ h₄ => wpAny_bind (wpAny_mono h₄ (fun _ s₅ h₅ => wpAny_pure (wpAny_pure ⟨rfl, h₅⟩)) fun _ _ h' => h')) fun _ _ h' => h'))
theorem start1 (h0 : codeAny (model prog w) A (.compLoop (two elt iter₁ iter₂ tst x₁ x₂ p₁ p₂ scope pos) 1 it acc env) R s)
    (h : wpAny (model prog w) A (pyIter it) (fun it' s' => codeAny (model prog w) A (.compLoop (two elt iter₁ iter₂ tst x₁ x₂ p₁ p₂ scope pos) 1 it' acc env) R s')
      (notedBy (model prog w) A env fun x s' => R (.error x) s') s) :
    codeAny (model prog w) A (.compStart (two elt iter₁ iter₂ tst x₁ x₂ p₁ p₂ scope pos) 1 it acc env) R s := by
  refine codeAny_of_tree ?_
  show wpAny _ _ ((compStart (two elt iter₁ iter₂ tst x₁ x₂ p₁ p₂ scope pos) 1 it acc env).onRaise (fun x => do noteFrame x env; standAt theWindowsPlace)) _ _ s
  refine wpAny_notedAt ?_
  unfold compStart
  show wpAny _ _ (ask >>= _) _ _ s
  refine wpAny_bind (wpAny_askSetting (wpAny_ite ?_))
  split
  · first
      | exact wpAny_bind (wpAny_pure (wpAny_pure (And.intro rfl h0)))
      | exact wpAny_pure (And.intro rfl h0)
  · first
      | exact wpAny_bind (wpAny_rule (wpAny_bind (wpAny_standAt (wpAny_bind (wpAny_mono h (fun it' s' h' => wpAny_pure (And.intro rfl h')) fun _ _ x => x)))))
      | (refine wpAny_bind (wpAny_rule ?_); show wpAny _ _ (standAt iter₂.pos >>= _) _ _ s; exact wpAny_bind (wpAny_standAt (wpAny_bind (wpAny_mono h (fun it' s' h' => wpAny_pure (And.intro rfl h')) fun _ _ x => x))))
theorem loop0 (hs : ∀ x, foldedSetIterable iter₂ env x = pure x) (I : Nat → Shared → Prop)
    (turn : ∀ n s, I n s → wpAny (model prog w) A (pyNext it) (fun r s₁ => match r with
      | none => R (.ok .next) s₁
      | some v => wpAny (model prog w) A (assign (.Name x₁ p₁) env v) (fun _ s₂ =>
          wpAny (model prog w) A (eval iter₂ env) (fun x s₃ => wpAny (model prog w) A (pyIter x) (fun it₂ s₄ =>
            codeAny (model prog w) A (.compStart (two elt iter₁ iter₂ tst x₁ x₂ p₁ p₂ scope pos) 1 it₂ acc env) (fun r s₅ => match r with
              | .ok _ => ∃ m, m < n ∧ I m s₅
              | .error e => cameBackBy (model prog w) A env (notedBy (model prog w) A env fun e s' => R (.error e) s') e s₅) s₄)
            (notedBy (model prog w) A env fun e s' => R (.error e) s') s₃) (notedBy (model prog w) A env fun e s' => R (.error e) s') s₂) (notedBy (model prog w) A env fun e s' => R (.error e) s') s₁) (notedBy (model prog w) A env fun e s' => R (.error e) s') s)
    (n : Nat) (h : I n s) : codeAny (model prog w) A (.compLoop (two elt iter₁ iter₂ tst x₁ x₂ p₁ p₂ scope pos) 0 it acc env) R s := by
  refine codeAny_loop rfl I (fun n s hI => ?_) n h
  show wpAny _ A ((compTurn (two elt iter₁ iter₂ tst x₁ x₂ p₁ p₂ scope pos) 0 it acc env).onRaise (fun x => do noteFrame x env; theTreesLotGoes x)) _ _ s
  refine wpAny_noted ?_
  rw [turn0]
  refine wpAny_bind (wpAny_standAt (wpAny_bind (wpAny_mono (turn n s hI) (fun r s₁ h₁ => ?_) fun _ _ h' => h')))
  cases r with
  | none => exact wpAny_pure h₁
  | some v =>
    refine wpAny_bind (wpAny_pure ?_)
    refine wpAny_bind (wpAny_mono h₁ (fun _ s₂ h₂ => wpAny_bind (wpAny_tests_nil ?_)) fun _ _ h' => h')
    rw [if_pos rfl]
    refine wpAny_bind (wpAny_mono h₂ (fun x s₃ h₃ => wpAny_bind (wpAny_standAt (wpAny_bind (wpAny_of_eq (hs x) (wpAny_bind (wpAny_holding (wpAny_mono h₃ (fun it₂ s₄ h₄ => ?_) fun _ _ h' => h'))))))) fun _ _ h' => h')
    refine wpAny_bind (wpAny_runOwn (codeAny_mono h₄ fun r s₅ h₅ => ?_))
    cases r with
    | ok f => exact wpAny_pure ⟨rfl, h₅⟩
    | error e => exact h₅
end
end Mine
end
theorem Mine.zz63 : True := by
  k_with_none
  w_top off
  (have : True ∧ True := by
    (try walk1)
    all_goals (first | exact trivial | exact ⟨trivial, trivial⟩))
  trivial
-- Comp3
section
open PySem PySem.W PyProof.Rows PySem.Calls
set_option Elab.async false
set_option maxRecDepth 100000
set_option maxHeartbeats 2000000
namespace Mine
/-- the places below n that p takes, as ints -/
def selL (p : Nat → Bool) (n : Nat) : List Int := ((List.range n).filter p).map fun (i : Nat) => (i : Int)
theorem selL_yes {p : Nat → Bool} {n : Nat} (h : p n = true) : selL p (n + 1) = selL p n ++ [(n : Int)] := by
  unfold selL; rw [List.range_succ, List.filter_append]; simp [h]
theorem selL_no {p : Nat → Bool} {n : Nat} (h : p n = false) : selL p (n + 1) = selL p n := by
  unfold selL; rw [List.range_succ, List.filter_append]; simp [h]
theorem selL_le (p : Nat → Bool) (n : Nat) : (selL p n).length ≤ n := by
  unfold selL; rw [List.length_map]
  exact Nat.le_trans (List.length_filter_le _ _) (by simp)
def selTwo (p : Nat → Nat → Bool) (n₁ n₂ : Nat) : List Int := (List.range n₁).flatMap fun c => selL (p c) n₂
theorem selTwo_succ (p : Nat → Nat → Bool) (n₁ n₂ : Nat) : selTwo p (n₁ + 1) n₂ = selTwo p n₁ n₂ ++ selL (p n₁) n₂ := by
  unfold selTwo; rw [List.range_succ, List.flatMap_append]; simp
theorem selTwo_le (p : Nat → Nat → Bool) (n₁ n₂ : Nat) : (selTwo p n₁ n₂).length ≤ n₁ * n₂ := by
  induction n₁ with
  | zero => simp [selTwo]
  | succ n ih => rw [selTwo_succ, List.length_append, Nat.succ_mul]; have := selL_le (p n) n₂; (first | lia | omega)
theorem ints_snoc {ys : List Value} {ns : List Int} {n : Int} {t : Tok} (h : IntsAre ys ns) : IntsAre (ys ++ [.int n t]) (ns ++ [n]) := IntsAre.append h (.cons _ _ .nil)
section
variable {prog : Program} {w : World} {A : Around} {E : Value → Shared → Prop} {s₁ : Shared} {elt iter₁ iter₂ tst : Expr} {x₁ x₂ : Str} {p₁ p₂ : Pos} {scope : Scope} {cl : List (Str × Addr)} {pos : Pos} {env : Env} {h₀ : Heap} {L : Addr} {m : Str → Option Value} {news : List (Addr × Obj)}
structure Apart (h₀ : Heap) (L : Addr) (a : Addr) : Prop where
  ne : a ≠ L
  no : h₀.get? a = none
theorem inner_loop {I₁ I₂ D C : Addr} {oI₁ : Obj} {ys₀ : List Value} {acc₀ : List Int} {v₁ : Value} {n₂ : Nat} {RR : Result → Shared → Prop} (p : Nat → Bool)
    (hh : A.handled = none) (hsz : acc₀.length + n₂ ≤ sizeLine) (hkind : scope.kind = .function) (hx₂ : scope.names.lookup x₂ = some .local) (h12 : x₁ ≠ x₂)
    (d1 : I₁ ≠ I₂) (d2 : I₁ ≠ C) (d3 : I₁ ≠ D) (d4 : I₂ ≠ C) (d5 : I₂ ≠ D) (d6 : C ≠ D) (off : ∀ p ∈ news, p.1 ≠ I₁ ∧ p.1 ≠ I₂ ∧ p.1 ≠ C ∧ p.1 ≠ D)
    (aI : Apart h₀ L I₂) (aC : Apart h₀ L C) (aD : Apart h₀ L D)
    (hT : ∀ (i₂ : Nat) t₂ oI₂ oC ys mm h tk (E' : Value → Shared → Prop), i₂ < n₂ → LCg.NsObj oC mm → mm x₁ = some v₁ → mm x₂ = some (.int (i₂ : Int) t₂) → Fr h₀ L h m → News h₀ L h ((I₂, oI₂) :: (I₁, oI₁) :: (C, oC) :: (D, LCg.lst ys) :: news) →
      wpAny (model prog w) A (isTrue tst (compEnvC scope cl C env) (eval tst (compEnvC scope cl C env))) (fun b s' => ∃ h' tk', s' = { s₁ with heap := h', toks := tk' } ∧ Fr h₀ L h' m ∧ News h₀ L h' ((I₂, oI₂) :: (I₁, oI₁) :: (C, oC) :: (D, LCg.lst ys) :: news) ∧ b = p i₂) E' { s₁ with heap := h, toks := tk })
    (hE : ∀ (i₂ : Nat) t₂ oI₂ oC ys mm h tk (E' : Value → Shared → Prop), i₂ < n₂ → LCg.NsObj oC mm → mm x₁ = some v₁ → mm x₂ = some (.int (i₂ : Int) t₂) → Fr h₀ L h m → News h₀ L h ((I₂, oI₂) :: (I₁, oI₁) :: (C, oC) :: (D, LCg.lst ys) :: news) →
      wpAny (model prog w) A (eval elt (compEnvC scope cl C env)) (fun y s' => ∃ h' tk', s' = { s₁ with heap := h', toks := tk' } ∧ Fr h₀ L h' m ∧ News h₀ L h' ((I₂, oI₂) :: (I₁, oI₁) :: (C, oC) :: (D, LCg.lst ys) :: news) ∧ ∃ t, y = .int (i₂ : Int) t) E' { s₁ with heap := h, toks := tk })
    (hRR : ∀ h tk mm ys, Fr h₀ L h m → News h₀ L h ((I₁, oI₁) :: (D, LCg.lst ys) :: news) → h.Ns C mm → IntsAre ys (acc₀ ++ selL p n₂) → RR (.ok .next) { s₁ with heap := h, toks := tk })
    {h : Heap} {tk₀ : Nat} {mm : Str → Option Value} (F : Fr h₀ L h m) (N : News h₀ L h ((I₁, oI₁) :: (D, LCg.lst ys₀) :: news)) (hI : IntsAre ys₀ acc₀) (hn : h.Ns C mm) (hx₁ : mm x₁ = some v₁) (hst : IsRangeIter h I₂ (0 + ((0 : Nat) : Int) * 1) ((n₂ : Int) - ((0 : Nat) : Int)) 1) :
    codeAny (model prog w) A (.compLoop (two elt iter₁ iter₂ tst x₁ x₂ p₁ p₂ scope pos) 1 (.ref I₂) (.ref D) (compEnvC scope cl C env)) RR { s₁ with heap := h, toks := tk₀ } := by
  have W := LCg.range_walks (prog := prog) (w := w) (A := A) (I := I₂) hh 0 n₂
  refine loop1
    (fun k s' => ∃ h' tk i ys mm, s' = { s₁ with heap := h', toks := tk } ∧ i ≤ n₂ ∧ k = n₂ + 1 - i ∧ IsRangeIter h' I₂ (0 + (i : Int) * 1) ((n₂ : Int) - (i : Int)) 1 ∧ Fr h₀ L h' m ∧ News h₀ L h' ((I₁, oI₁) :: (D, LCg.lst ys) :: news) ∧ h'.Ns C mm ∧ mm x₁ = some v₁ ∧ IntsAre ys (acc₀ ++ selL p i)) ?_ (n₂ + 1)
    ⟨h, tk₀, 0, ys₀, mm, rfl, Nat.zero_le _, rfl, hst, F, N, hn, hx₁, by simpa [selL] using hI⟩
  rintro k s' ⟨h', tk, i, ys, mm', rfl, hi, rfl, hst', F', N', hn', hx', hI'⟩
  have offI : ∀ q ∈ (I₁, oI₁) :: (D, LCg.lst ys) :: news, q.1 ≠ I₂ := by
    intro q hq
    rcases List.mem_cons.mp hq with rfl | hq
    · exact d1
    rcases List.mem_cons.mp hq with rfl | hq
    · exact Ne.symm d5
    · exact (off q hq).2.1
  by_cases hlt : i < n₂
  · refine W.item i _ _ _ hlt hst' fun v h₂ tk₂ hPv hst₂ hk₂ => ?_
    obtain ⟨t, rfl⟩ := hPv
    have F₂ := LCg.fr_but F' hk₂ (Ne.symm aI.ne) aI.no
    have N₂ := LCg.news_but N' hk₂ offI
    have hn₂ := hn'.at' fun o e => hk₂ _ o (by simpa using Ne.symm d4) e
    refine wpAny_assign_Name (wpAny_storeName_local (lookup_relabel_local hx₂) hn₂ (fun h₃ hn₃ hs₃ => ?_) (by simp [compEnvC, relabel, hkind]))
    have hn₃' : h₃.Ns C (fun x => if x = x₂ then some (Value.int (0 + (i : Int)) t) else mm' x) := hn₃
    have hs₃' : Heap.SameBut C h₂ h₃ := hs₃
    have F₃ : Fr h₀ L h₃ m := F₂.change hs₃' aC.ne aC.no
    obtain ⟨oC, heC, hoC⟩ := LCg.ns_obj hn₃'
    obtain ⟨oI₂, heI⟩ : ∃ o, h₂.get? I₂ = some o := ⟨_, hst₂⟩
    have heI₃ : h₃.get? I₂ = some oI₂ := hs₃'.extBut _ _ d4 heI
    have N₃ : News h₀ L h₃ ((I₂, oI₂) :: (I₁, oI₁) :: (C, oC) :: (D, LCg.lst ys) :: news) := by
      intro q hq
      rcases List.mem_cons.mp hq with rfl | hq
      · exact ⟨heI₃, aI.ne, aI.no⟩
      rcases List.mem_cons.mp hq with rfl | hq
      · have z := N₂ _ (.head _); exact ⟨hs₃'.extBut _ _ d2 z.1, z.2⟩
      rcases List.mem_cons.mp hq with rfl | hq
      · exact ⟨heC, aC.ne, aC.no⟩
      rcases List.mem_cons.mp hq with rfl | hq
      · have z := N₂ _ (.tail _ (.head _)); exact ⟨hs₃'.extBut _ _ (Ne.symm d6) z.1, z.2⟩
      · have z := N₂ q (.tail _ (.tail _ hq)); exact ⟨hs₃'.extBut _ _ (off q hq).2.2.1 z.1, z.2⟩
    have e1 : (fun x => if x = x₂ then some (Value.int (0 + (i : Int)) t) else mm' x) x₁ = some v₁ := by show (if x₁ = x₂ then _ else _) = _; rw [if_neg h12]; exact hx'
    have e2 : (fun x => if x = x₂ then some (Value.int (0 + (i : Int)) t) else mm' x) x₂ = some (.int (i : Int) t) := by show (if x₂ = x₂ then _ else _) = _; rw [if_pos rfl, Int.zero_add]
    have back : ∀ {h₄ : Heap} (_ : News h₀ L h₄ ((I₂, oI₂) :: (I₁, oI₁) :: (C, oC) :: (D, LCg.lst ys) :: news)), IsRangeIter h₄ I₂ (0 + ((i + 1 : Nat) : Int) * 1) ((n₂ : Int) - ((i + 1 : Nat) : Int)) 1 := fun {h₄} N₄ => by
      have q1 : h₂.get? I₂ = some _ := hst₂
      show h₄.get? I₂ = some _
      rw [(N₄ _ (.head _)).1, ← heI]; exact q1
    refine wpAny_mono (hT i t oI₂ oC ys _ h₃ _ _ hlt hoC e1 e2 F₃ N₃) (fun b s₄ h₄ => ?_) fun _ _ e => e
    obtain ⟨h₄, tk₄, rfl, F₄, N₄, rfl⟩ := h₄
    cases hp : p i with
    | false =>
      rw [if_neg (by decide)]
      refine ⟨n₂ + 1 - (i + 1), by (first | lia | omega), h₄, tk₄, i + 1, ys, _, rfl, hlt, rfl, back N₄, F₄, ?_, hoC.ns (N₄ _ (.tail _ (.tail _ (.head _)))).1, e1, by rw [selL_no hp]; exact hI'⟩
      intro q hq
      rcases List.mem_cons.mp hq with rfl | hq
      · exact N₄ _ (.tail _ (.head _))
      · exact N₄ q (.tail _ (.tail _ (.tail _ hq)))
    | true =>
      rw [if_pos rfl]
      refine wpAny_mono (hE i t oI₂ oC ys _ h₄ _ _ hlt hoC e1 e2 F₄ N₄) (fun y s₅ h₅ => ?_) fun _ _ e => e
      obtain ⟨h₅, tk₅, rfl, F₅, N₅, ⟨t₅, rfl⟩⟩ := h₅
      have zD := N₅ _ (.tail _ (.tail _ (.tail _ (.head _))))
      have hylen : ys.length ≤ sizeLine := by
        rw [hI'.length, List.length_append]
        have := selL_le p i
        (first | lia | omega)
      refine append_at (hsz := by show ys.toArray.size ≤ sizeLine; rw [List.size_toArray]; exact hylen) zD.1 fun h₆ hs₆ hD₆ => ?_
      refine ⟨n₂ + 1 - (i + 1), by (first | lia | omega), h₆, tk₅, i + 1, ys ++ [.int (i : Int) t₅], _, rfl, hlt, rfl, ?_, F₅.change hs₆ aD.ne aD.no, ?_, (hoC.ns (N₅ _ (.tail _ (.tail _ (.head _)))).1).sameBut hs₆ d6, e1, ?_⟩
      · have q1 := back N₅
        have q2 : h₅.get? I₂ = some _ := q1
        exact hs₆.extBut _ _ d5 q2
      · intro q hq
        rcases List.mem_cons.mp hq with rfl | hq
        · have z := N₅ _ (.tail _ (.head _)); exact ⟨hs₆.extBut _ _ d3 z.1, z.2⟩
        rcases List.mem_cons.mp hq with rfl | hq
        · exact ⟨hD₆.trans (congrArg some (LCg.lst_snoc ys _)), zD.2⟩
        · have z := N₅ q (.tail _ (.tail _ (.tail _ (.tail _ hq)))); exact ⟨hs₆.extBut _ _ (off q hq).2.2.2 z.1, z.2⟩
      · rw [selL_yes hp, ← List.append_assoc]
        exact ints_snoc hI'
  · obtain rfl : i = n₂ := Nat.le_antisymm hi (Nat.not_lt.mp hlt)
    refine W.done _ _ _ hst' fun h₂ tk₂ hk₂ => ?_
    exact hRR h₂ tk₂ _ ys (LCg.fr_but F' hk₂ (Ne.symm aI.ne) aI.no) (LCg.news_but N' hk₂ offI) (hn'.at' fun o e => hk₂ _ o (by simpa using Ne.symm d4) e) hI'
theorem outer_loop {I₁ D C : Addr} {n₁ n₂ : Nat} {RR : Result → Shared → Prop} (p : Nat → Nat → Bool)
    (hh : A.handled = none) (hsz : n₁ * n₂ + n₂ ≤ sizeLine) (hs : ∀ x, foldedSetIterable iter₂ (compEnvC scope cl C env) x = pure x) (hkind : scope.kind = .function) (hx₁ : scope.names.lookup x₁ = some .local) (hx₂ : scope.names.lookup x₂ = some .local) (h12 : x₁ ≠ x₂)
    (d2 : I₁ ≠ C) (d3 : I₁ ≠ D) (d6 : C ≠ D) (off : ∀ p ∈ news, p.1 ≠ I₁ ∧ p.1 ≠ C ∧ p.1 ≠ D)
    (aI : Apart h₀ L I₁) (aC : Apart h₀ L C) (aD : Apart h₀ L D) (hsm : Builtin.Range.small 0 (n₂ : Int) 1 = true) (hrs : Builtin.Range.rangeSize 0 (n₂ : Int) 1 = ((n₂ : Nat) : Int))
    (hR : ∀ (i₁ : Nat) t₁ oI₁ oC ys mm h tk (E' : Value → Shared → Prop), i₁ < n₁ → LCg.NsObj oC mm → mm x₁ = some (.int (i₁ : Int) t₁) → Fr h₀ L h m → News h₀ L h ((I₁, oI₁) :: (C, oC) :: (D, LCg.lst ys) :: news) →
      wpAny (model prog w) A (eval iter₂ (compEnvC scope cl C env)) (fun xv s' => ∃ h' tk' r t u v, s' = { s₁ with heap := h', toks := tk' } ∧ xv = .ref r ∧ Fr h₀ L h' m ∧ News h₀ L h' ((I₁, oI₁) :: (C, oC) :: (D, LCg.lst ys) :: news) ∧ IsRange h' r 0 (n₂ : Int) 1 t u v) E' { s₁ with heap := h, toks := tk })
    (hT : ∀ (i₁ i₂ : Nat) t₁ t₂ I₂ oI₁ oI₂ oC ys mm h tk (E' : Value → Shared → Prop), i₁ < n₁ → i₂ < n₂ → LCg.NsObj oC mm → mm x₁ = some (.int (i₁ : Int) t₁) → mm x₂ = some (.int (i₂ : Int) t₂) → Fr h₀ L h m → News h₀ L h ((I₂, oI₂) :: (I₁, oI₁) :: (C, oC) :: (D, LCg.lst ys) :: news) →
      wpAny (model prog w) A (isTrue tst (compEnvC scope cl C env) (eval tst (compEnvC scope cl C env))) (fun b s' => ∃ h' tk', s' = { s₁ with heap := h', toks := tk' } ∧ Fr h₀ L h' m ∧ News h₀ L h' ((I₂, oI₂) :: (I₁, oI₁) :: (C, oC) :: (D, LCg.lst ys) :: news) ∧ b = p i₁ i₂) E' { s₁ with heap := h, toks := tk })
    (hE : ∀ (i₁ i₂ : Nat) t₁ t₂ I₂ oI₁ oI₂ oC ys mm h tk (E' : Value → Shared → Prop), i₁ < n₁ → i₂ < n₂ → LCg.NsObj oC mm → mm x₁ = some (.int (i₁ : Int) t₁) → mm x₂ = some (.int (i₂ : Int) t₂) → Fr h₀ L h m → News h₀ L h ((I₂, oI₂) :: (I₁, oI₁) :: (C, oC) :: (D, LCg.lst ys) :: news) →
      wpAny (model prog w) A (eval elt (compEnvC scope cl C env)) (fun y s' => ∃ h' tk', s' = { s₁ with heap := h', toks := tk' } ∧ Fr h₀ L h' m ∧ News h₀ L h' ((I₂, oI₂) :: (I₁, oI₁) :: (C, oC) :: (D, LCg.lst ys) :: news) ∧ ∃ t, y = .int (i₂ : Int) t) E' { s₁ with heap := h, toks := tk })
    (hRR : ∀ h tk mm ys, Fr h₀ L h m → News h₀ L h ((D, LCg.lst ys) :: news) → h.Ns C mm → IntsAre ys (selTwo p n₁ n₂) → RR (.ok .next) { s₁ with heap := h, toks := tk })
    {h : Heap} {tk₀ : Nat} {mm : Str → Option Value} (F : Fr h₀ L h m) (N : News h₀ L h ((D, LCg.lst []) :: news)) (hn : h.Ns C mm) (hst : IsRangeIter h I₁ (0 + ((0 : Nat) : Int) * 1) ((n₁ : Int) - ((0 : Nat) : Int)) 1) :
    codeAny (model prog w) A (.compLoop (two elt iter₁ iter₂ tst x₁ x₂ p₁ p₂ scope pos) 0 (.ref I₁) (.ref D) (compEnvC scope cl C env)) RR { s₁ with heap := h, toks := tk₀ } := by
  have W := LCg.range_walks (prog := prog) (w := w) (A := A) (I := I₁) hh 0 n₁
  refine loop0 hs
    (fun k s' => ∃ h' tk i ys mm, s' = { s₁ with heap := h', toks := tk } ∧ i ≤ n₁ ∧ k = n₁ + 1 - i ∧ IsRangeIter h' I₁ (0 + (i : Int) * 1) ((n₁ : Int) - (i : Int)) 1 ∧ Fr h₀ L h' m ∧ News h₀ L h' ((D, LCg.lst ys) :: news) ∧ h'.Ns C mm ∧ IntsAre ys (selTwo p i n₂)) ?_ (n₁ + 1)
    ⟨h, tk₀, 0, [], mm, rfl, Nat.zero_le _, rfl, hst, F, N, hn, .nil⟩
  rintro k s' ⟨h', tk, i, ys, mm', rfl, hi, rfl, hst', F', N', hn', hI'⟩
  have offI : ∀ q ∈ (D, LCg.lst ys) :: news, q.1 ≠ I₁ := by
    intro q hq
    rcases List.mem_cons.mp hq with rfl | hq
    · exact Ne.symm d3
    · exact (off q hq).1
  by_cases hlt : i < n₁
  · refine W.item i _ _ _ hlt hst' fun v h₂ tk₂ hPv hst₂ hk₂ => ?_
    obtain ⟨t, rfl⟩ := hPv
    have F₂ := LCg.fr_but F' hk₂ (Ne.symm aI.ne) aI.no
    have N₂ := LCg.news_but N' hk₂ offI
    have hn₂ := hn'.at' fun o e => hk₂ _ o (by simpa using Ne.symm d2) e
    refine wpAny_assign_Name (wpAny_storeName_local (lookup_relabel_local hx₁) hn₂ (fun h₃ hn₃ hs₃ => ?_) (by simp [compEnvC, relabel, hkind]))
    have hn₃' : h₃.Ns C (fun x => if x = x₁ then some (Value.int (0 + (i : Int)) t) else mm' x) := hn₃
    have hs₃' : Heap.SameBut C h₂ h₃ := hs₃
    have F₃ : Fr h₀ L h₃ m := F₂.change hs₃' aC.ne aC.no
    obtain ⟨oC, heC, hoC⟩ := LCg.ns_obj hn₃'
    obtain ⟨oI₁, heI⟩ : ∃ o, h₂.get? I₁ = some o := ⟨_, hst₂⟩
    have heI₃ : h₃.get? I₁ = some oI₁ := hs₃'.extBut _ _ d2 heI
    have N₃ : News h₀ L h₃ ((I₁, oI₁) :: (C, oC) :: (D, LCg.lst ys) :: news) := by
      intro q hq
      rcases List.mem_cons.mp hq with rfl | hq
      · exact ⟨heI₃, aI.ne, aI.no⟩
      rcases List.mem_cons.mp hq with rfl | hq
      · exact ⟨heC, aC.ne, aC.no⟩
      rcases List.mem_cons.mp hq with rfl | hq
      · have z := N₂ _ (.head _); exact ⟨hs₃'.extBut _ _ (Ne.symm d6) z.1, z.2⟩
      · have z := N₂ q (.tail _ hq); exact ⟨hs₃'.extBut _ _ (off q hq).2.1 z.1, z.2⟩
    have e1 : (fun x => if x = x₁ then some (Value.int (0 + (i : Int)) t) else mm' x) x₁ = some (.int (i : Int) t) := by show (if x₁ = x₁ then _ else _) = _; rw [if_pos rfl, Int.zero_add]
    refine wpAny_mono (hR i t oI₁ oC ys _ h₃ _ _ hlt hoC e1 F₃ N₃) (fun xv s₄ h₄ => ?_) fun _ _ e => e
    obtain ⟨h₄, tk₄, r, ta, ua, va, rfl, rfl, F₄, N₄, hr⟩ := h₄
    refine wpAny_pyIter_range hr hsm ?_
    dsimp only
    generalize hit : ({ cls := .type "range_iterator", data := .fields #[rawInt 0, rawInt (Builtin.Range.rangeSize 0 (n₂ : Int) 1), rawInt 1] } : Obj) = it
    have up : ∀ b o, h₄.get? b = some o → (h₄.push it).get? b = some o := fun b o e => Heap.get?_push_of_some _ e
    have hI2 : (h₄.push it).get? h₄.objs.size = some it := Heap.get?_push_size _ (by subst hit; rfl)
    have F₅ : Fr h₀ L (h₄.push it) m := F₄.push it
    have hL4 : @LT.lt Nat _ L h₄.objs.size := F₄.ns.lt
    have aI2 : Apart h₀ L h₄.objs.size := ⟨Nat.ne_of_gt hL4, Heap.get?_none_of_le (Nat.le_trans F₄.above (Nat.le_of_lt hL4))⟩
    have lt4 : ∀ q ∈ (I₁, oI₁) :: (C, oC) :: (D, LCg.lst ys) :: news, @LT.lt Nat _ q.1 h₄.objs.size := fun q hq => Heap.lt_size (N₄ q hq).1
    have st2 : IsRangeIter (h₄.push it) h₄.objs.size (0 + ((0 : Nat) : Int) * 1) ((n₂ : Int) - ((0 : Nat) : Int)) 1 := by
      show (h₄.push it).get? _ = some _
      rw [hI2, ← hit, hrs]; simp [rawInt]
    have N₅ : News h₀ L (h₄.push it) ((I₁, oI₁) :: (D, LCg.lst ys) :: news) := by
      intro q hq
      rcases List.mem_cons.mp hq with rfl | hq
      · have z := N₄ _ (.head _); exact ⟨up _ _ z.1, z.2⟩
      · have z := N₄ q (.tail _ (.tail _ hq)); exact ⟨up _ _ z.1, z.2⟩
    have loop : codeAny (model prog w) A (.compLoop (two elt iter₁ iter₂ tst x₁ x₂ p₁ p₂ scope pos) 1 (.ref h₄.objs.size) (.ref D) (compEnvC scope cl C env)) (fun r s₅ => match r with
              | .ok _ => ∃ m', m' < n₁ + 1 - i ∧ ∃ h' tk i ys mm, s₅ = { s₁ with heap := h', toks := tk } ∧ i ≤ n₁ ∧ m' = n₁ + 1 - i ∧ IsRangeIter h' I₁ (0 + (i : Int) * 1) ((n₁ : Int) - (i : Int)) 1 ∧ Fr h₀ L h' m ∧ News h₀ L h' ((D, LCg.lst ys) :: news) ∧ h'.Ns C mm ∧ IntsAre ys (selTwo p i n₂)
              | .error e => cameBackBy (model prog w) A (compEnvC scope cl C env) (notedBy (model prog w) A (compEnvC scope cl C env) fun e s' => RR (.error e) s') e s₅) { s₁ with heap := h₄.push it, toks := tk₄ } := by
      refine inner_loop (acc₀ := selTwo p i n₂) (v₁ := .int (i : Int) t) (p i) hh ?_ hkind hx₂ h12 (Nat.ne_of_lt (lt4 _ (.head _))) d2 d3 (Ne.symm (Nat.ne_of_lt (lt4 _ (.tail _ (.head _))))) (Ne.symm (Nat.ne_of_lt (lt4 _ (.tail _ (.tail _ (.head _)))))) d6
        (fun q hq => ⟨(off q hq).1, Nat.ne_of_lt (lt4 q (.tail _ (.tail _ (.tail _ hq)))), (off q hq).2.1, (off q hq).2.2⟩) aI2 aC aD
        (fun i₂ t₂ oI₂ oC ys mm h tk E' hi2 hC hm1 hm2 F N => hT i i₂ t t₂ _ oI₁ oI₂ oC ys mm h tk E' hlt hi2 hC hm1 hm2 F N)
        (fun i₂ t₂ oI₂ oC ys mm h tk E' hi2 hC hm1 hm2 F N => hE i i₂ t t₂ _ oI₁ oI₂ oC ys mm h tk E' hlt hi2 hC hm1 hm2 F N)
        (fun h₆ tk₆ mm₆ ys₆ F₆ N₆ hn₆ hI₆ => ?_) F₅ N₅ hI' ((hoC.ns (N₄ _ (.tail _ (.head _))).1).keeps up) e1 st2
      · have := selTwo_le p i n₂
        have h2 : i * n₂ ≤ n₁ * n₂ := Nat.mul_le_mul_right _ hi
        (first | lia | omega)
      · refine ⟨n₁ + 1 - (i + 1), by (first | lia | omega), h₆, tk₆, i + 1, ys₆, mm₆, rfl, hlt, rfl, ?_, F₆, fun q hq => N₆ q (.tail _ hq), hn₆, by rw [selTwo_succ]; exact hI₆⟩
        have q1 : h₂.get? I₁ = some _ := hst₂
        show h₆.get? I₁ = some _
        rw [(N₆ _ (.head _)).1, ← heI]; exact q1
    have W2 := LCg.range_walks (prog := prog) (w := w) (A := A) (I := h₄.objs.size) hh 0 n₂
    exact start1 loop (W2.self 0 _ _ _ st2 loop)
  · obtain rfl : i = n₁ := Nat.le_antisymm hi (Nat.not_lt.mp hlt)
    refine W.done _ _ _ hst' fun h₂ tk₂ hk₂ => ?_
    exact hRR h₂ tk₂ _ ys (LCg.fr_but F' hk₂ (Ne.symm aI.ne) aI.no) (LCg.news_but N' hk₂ offI) (hn'.at' fun o e => hk₂ _ o (by simpa using Ne.symm d2) e) hI'
end
end Mine
end
theorem Mine.zz64 : True := by
  k_with_none
  w_top off
  (have : True ∧ True := by
    (try walk1)
    all_goals (first | exact trivial | exact ⟨trivial, trivial⟩))
  trivial
-- Comp4
section
open PySem PySem.W PyProof.Rows PySem.Calls
set_option Elab.async false
set_option maxRecDepth 100000
set_option maxHeartbeats 2000000
namespace Mine
section
variable {prog : Program} {w : World} {A : Around} {E : Value → Shared → Prop} {s : Shared} {elt iter₁ iter₂ tst : Expr} {x₁ x₂ : Str} {p₁ p₂ : Pos} {scope : Scope} {cl : List (Str × Addr)} {pos : Pos} {env : Env} {h₀ : Heap} {L : Addr} {m : Str → Option Value}
theorem comp_two {Q : Value → Shared → Prop} (p : Nat → Nat → Bool) (n₁ n₂ : Nat)
    (hclos : closureFor scope env = pure cl) (hkind : scope.kind = .function) (hnames : ∀ y ∈ scope.names, y.2 = .local → scope.names.lookup y.1 = some .local) (hcell : ∀ y ∈ scope.names, y.2 ≠ .cell)
    (hx₁ : scope.names.lookup x₁ = some .local) (hx₂ : scope.names.lookup x₂ = some .local) (h12 : x₁ ≠ x₂)
    (hs₁ : ∀ x, foldedSetIterable iter₁ env x = pure x) (hs : ∀ C x, foldedSetIterable iter₂ (compEnvC scope cl C env) x = pure x)
    (hsm1 : Builtin.Range.small 0 (n₁ : Int) 1 = true) (hrs1 : Builtin.Range.rangeSize 0 (n₁ : Int) 1 = ((n₁ : Nat) : Int))
    (hsm : Builtin.Range.small 0 (n₂ : Int) 1 = true) (hrs : Builtin.Range.rangeSize 0 (n₂ : Int) 1 = ((n₂ : Nat) : Int)) (hsz : n₁ * n₂ + n₂ ≤ sizeLine) (hh : A.handled = none)
    (h : wpAny (model prog w) A (eval iter₁ env) (fun xv s₁ => ∃ r t u v news, xv = .ref r ∧ Fr h₀ L s₁.heap m ∧ News h₀ L s₁.heap news ∧ IsRange s₁.heap r 0 (n₁ : Int) 1 t u v ∧
      (∀ I₁ C D, (∀ q ∈ news, q.1 < I₁) → @LT.lt Nat _ I₁ D → @LT.lt Nat _ D C →
        (∀ (i₁ : Nat) t₁ oI₁ oC ys mm h tk (E' : Value → Shared → Prop), i₁ < n₁ → LCg.NsObj oC mm → mm x₁ = some (.int (i₁ : Int) t₁) → Fr h₀ L h m → News h₀ L h ((I₁, oI₁) :: (C, oC) :: (D, LCg.lst ys) :: news) →
          wpAny (model prog w) A (eval iter₂ (compEnvC scope cl C env)) (fun xv s' => ∃ h' tk' r t u v, s' = { s₁ with heap := h', toks := tk' } ∧ xv = .ref r ∧ Fr h₀ L h' m ∧ News h₀ L h' ((I₁, oI₁) :: (C, oC) :: (D, LCg.lst ys) :: news) ∧ IsRange h' r 0 (n₂ : Int) 1 t u v) E' { s₁ with heap := h, toks := tk }) ∧
        (∀ (i₁ i₂ : Nat) t₁ t₂ I₂ oI₁ oI₂ oC ys mm h tk (E' : Value → Shared → Prop), i₁ < n₁ → i₂ < n₂ → LCg.NsObj oC mm → mm x₁ = some (.int (i₁ : Int) t₁) → mm x₂ = some (.int (i₂ : Int) t₂) → Fr h₀ L h m → News h₀ L h ((I₂, oI₂) :: (I₁, oI₁) :: (C, oC) :: (D, LCg.lst ys) :: news) →
          wpAny (model prog w) A (isTrue tst (compEnvC scope cl C env) (eval tst (compEnvC scope cl C env))) (fun b s' => ∃ h' tk', s' = { s₁ with heap := h', toks := tk' } ∧ Fr h₀ L h' m ∧ News h₀ L h' ((I₂, oI₂) :: (I₁, oI₁) :: (C, oC) :: (D, LCg.lst ys) :: news) ∧ b = p i₁ i₂) E' { s₁ with heap := h, toks := tk }) ∧
        (∀ (i₁ i₂ : Nat) t₁ t₂ I₂ oI₁ oI₂ oC ys mm h tk (E' : Value → Shared → Prop), i₁ < n₁ → i₂ < n₂ → LCg.NsObj oC mm → mm x₁ = some (.int (i₁ : Int) t₁) → mm x₂ = some (.int (i₂ : Int) t₂) → Fr h₀ L h m → News h₀ L h ((I₂, oI₂) :: (I₁, oI₁) :: (C, oC) :: (D, LCg.lst ys) :: news) →
          wpAny (model prog w) A (eval elt (compEnvC scope cl C env)) (fun y s' => ∃ h' tk', s' = { s₁ with heap := h', toks := tk' } ∧ Fr h₀ L h' m ∧ News h₀ L h' ((I₂, oI₂) :: (I₁, oI₁) :: (C, oC) :: (D, LCg.lst ys) :: news) ∧ ∃ t, y = .int (i₂ : Int) t) E' { s₁ with heap := h, toks := tk })) ∧
      (∀ D h tk ys, Fr h₀ L h m → News h₀ L h ((D, LCg.lst ys) :: news) → (∀ q ∈ news, q.1 < D) → IntsAre ys (selTwo p n₁ n₂) → Q (.ref D) { s₁ with heap := h, toks := tk })) E s) :
    wpAny (model prog w) A (eval (two elt iter₁ iter₂ tst x₁ x₂ p₁ p₂ scope pos) env) Q E s := by
  unfold two
  rw [eval_ListComp]
  refine wpAny_comprehension_free (use := none) rfl hs₁ hclos hkind hnames (wpAny_mono h (fun xv s₁ h₁ => ?_) fun _ _ e => e)
  obtain ⟨r, t, u, v, news, rfl, F, N, hr, hEl, hFin⟩ := h₁
  refine wpAny_pyIter_range hr hsm1 ?_
  refine wpAny_newObj_type (wpAny_newFunctionEnv hcell (by intro y hy; simp at hy) (fun h₁ hns₁ hsb₁ => ?_) hkind)
  dsimp only at hns₁ hsb₁ ⊢
  generalize hit : ({ cls := .type "range_iterator", data := .fields #[rawInt 0, rawInt (Builtin.Range.rangeSize 0 (n₁ : Int) 1), rawInt 1] } : Obj) = it at hns₁ hsb₁ ⊢
  generalize hH1 : s₁.heap.push it = H1 at hns₁ hsb₁ ⊢
  have z1 : H1.objs.size = s₁.heap.objs.size + 1 := by rw [← hH1, Heap.size_push]
  generalize hl : ({ cls := .type "list", dict := none, data := .seq ([] : List Value).toArray } : Obj) = lo at hns₁ hsb₁ ⊢
  generalize hH2 : H1.push lo = H2 at hns₁ hsb₁ ⊢
  have z2 : H2.objs.size = H1.objs.size + 1 := by rw [← hH2, Heap.size_push]
  have k1 : ∀ b o, s₁.heap.get? b = some o → H1.get? b = some o := fun b o e => hH1 ▸ Heap.get?_push_of_some _ e
  have k2 : ∀ b o, H1.get? b = some o → H2.get? b = some o := fun b o e => hH2 ▸ Heap.get?_push_of_some _ e
  have k3 : ∀ b o, H2.get? b = some o → h₁.get? b = some o := fun b o e => hsb₁.extBut b o (Nat.ne_of_lt (Heap.lt_size e)) (Heap.get?_push_of_some _ e)
  have kk : ∀ b o, s₁.heap.get? b = some o → h₁.get? b = some o := fun b o e => k3 b o (k2 b o (k1 b o e))
  have hI : h₁.get? s₁.heap.objs.size = some it := k3 _ _ (k2 _ _ (hH1 ▸ Heap.get?_push_size _ (by subst hit; rfl)))
  have hD : h₁.get? H1.objs.size = some (LCg.lst []) := k3 _ _ (hH2 ▸ (Heap.get?_push_size _ (by subst hl; rfl)).trans (by subst hl; rfl))
  have hLlt : @LT.lt Nat _ L s₁.heap.objs.size := F.ns.lt
  have fresh : ∀ q : Nat, s₁.heap.objs.size ≤ q → h₀.get? q = none := fun q hq => Heap.get?_none_of_le (Nat.le_trans F.above (Nat.le_trans (Nat.le_of_lt hLlt) hq))
  have l1 : ∀ q ∈ news, @LT.lt Nat _ q.1 s₁.heap.objs.size := fun q hq => Heap.lt_size (N q hq).1
  have l2 : @LT.lt Nat _ s₁.heap.objs.size H1.objs.size := by (first | lia | omega)
  have l3 : @LT.lt Nat _ H1.objs.size H2.objs.size := by (first | lia | omega)
  have ap : ∀ q : Nat, s₁.heap.objs.size ≤ q → Apart h₀ L q := fun q hq => ⟨Ne.symm (Nat.ne_of_lt (Nat.lt_of_lt_of_le hLlt hq)), fresh q hq⟩
  have hst : IsRangeIter h₁ s₁.heap.objs.size (0 + ((0 : Nat) : Int) * 1) ((n₁ : Int) - ((0 : Nat) : Int)) 1 := by
    show h₁.get? s₁.heap.objs.size = some _
    rw [hI, ← hit, hrs1]; simp [rawInt]
  have N₀ : News h₀ L h₁ ((H1.objs.size, LCg.lst []) :: news) := by
    intro q hq
    rcases List.mem_cons.mp hq with rfl | hq
    · exact ⟨hD, (ap _ (Nat.le_of_lt l2)).1, (ap _ (Nat.le_of_lt l2)).2⟩
    · exact ⟨kk _ _ (N q hq).1, (N q hq).2⟩
  obtain ⟨hR, hT, hE⟩ := hEl s₁.heap.objs.size H2.objs.size H1.objs.size l1 l2 l3
  have loop := outer_loop (elt := elt) (iter₁ := iter₁) (p₁ := p₁) (p₂ := p₂) (pos := pos) (env := env) (news := news) (RR := compPost (model prog w) A E none Q (.ref H1.objs.size) H2.objs.size) (tk₀ := s₁.toks) (I₁ := s₁.heap.objs.size) (D := H1.objs.size) (C := H2.objs.size) (s₁ := s₁) p hh hsz (hs _) hkind hx₁ hx₂ h12 (Nat.ne_of_lt (Nat.lt_trans l2 l3)) (Nat.ne_of_lt l2) (Ne.symm (Nat.ne_of_lt l3)) (fun q hq => ⟨Nat.ne_of_lt (l1 q hq), Nat.ne_of_lt (Nat.lt_trans (l1 q hq) (Nat.lt_trans l2 l3)), Nat.ne_of_lt (Nat.lt_trans (l1 q hq) l2)⟩)
    (ap _ (Nat.le_refl _)) (ap _ (Nat.le_of_lt (Nat.lt_trans l2 l3))) (ap _ (Nat.le_of_lt l2)) hsm hrs hR hT hE
    (fun h tk mm ys F₂ N₂ hn hI₂ => by
      refine ⟨mm, hn, fun h'' hs'' => hFin _ h'' tk ys (F₂.change hs'' (ap _ (Nat.le_of_lt (Nat.lt_trans l2 l3))).1 (ap _ (Nat.le_of_lt (Nat.lt_trans l2 l3))).2) (fun q hq => ?_) (fun q hq => Nat.lt_trans (l1 q hq) l2) hI₂⟩
      rcases List.mem_cons.mp hq with rfl | hq
      · have z := N₂ _ (.head _); exact ⟨hs''.extBut _ _ (Nat.ne_of_lt l3) z.1, z.2⟩
      · have z := N₂ q (.tail _ hq); exact ⟨hs''.extBut _ _ (Nat.ne_of_lt (Nat.lt_trans (l1 q hq) (Nat.lt_trans l2 l3))) z.1, z.2⟩)
    (F.keeps kk) N₀ hns₁ hst
  exact codeAny_compStart_list loop ((LCg.range_walks (prog := prog) (w := w) (I := s₁.heap.objs.size) hh 0 n₁).self 0 _ _ _ hst loop)
end
end Mine
end
theorem Mine.zz65 : True := by
  k_with_none
  w_top off
  (have : True ∧ True := by
    (try walk1)
    all_goals (first | exact trivial | exact ⟨trivial, trivial⟩))
  trivial
-- LawReturn
section
open PySem PySem.W PyProof.Rows PySem.Calls
set_option Elab.async false
set_option maxRecDepth 100000
set_option maxHeartbeats 8000000
set_option linter.unusedSimpArgs false
set_option linter.unusedVariables false
namespace Mine
theorem ints_get : ∀ {ws : List Value} {ns : List Int}, IntsAre ws ns → ∀ {i : Nat} {n : Int}, ns[i]? = some n → ∃ t, ws[i]? = some (.int n t)
  | [], _, .nil, i, n, h => by simp at h
  | _ :: _, _, .cons _ t r, 0, _, h => by simp at h; exact ⟨t, by simp [h]⟩
  | _ :: _, _, .cons _ _ r, i + 1, _, h => by obtain ⟨t, ht⟩ := ints_get r (i := i) (by simpa using h); exact ⟨t, by simpa using ht⟩
theorem ints_size {ws ys : List Value} {ns : List Int} (h : IntsAre ws ns) (h2 : IntsAre ys ns) : ws.toArray.size = ys.toArray.size := by
  rw [List.size_toArray, List.size_toArray, h.length, h2.length]
theorem ints_eqAt {A : Around} {s : Shared} {ws ys : List Value} {ns : List Int} (h : IntsAre ws ns) (h2 : IntsAre ys ns) (j : Nat) (h1 : j < ws.toArray.size) (h3 : j < ys.toArray.size) : SeqAt.EqAt A s ws.toArray[j] ys.toArray[j] true := by
  have hj : j < ns.length := by rw [← h.length]; simpa using h1
  obtain ⟨t, ht⟩ := ints_get h (List.getElem?_eq_getElem hj)
  obtain ⟨t2, ht2⟩ := ints_get h2 (List.getElem?_eq_getElem hj)
  have e1 : ws.toArray[j] = .int ns[j] t := by simpa using (List.getElem?_eq_some_iff.mp ht).2
  have e2 : ys.toArray[j] = .int ns[j] t2 := by simpa using (List.getElem?_eq_some_iff.mp ht2).2
  rw [e1, e2]
  have := SeqAt.EqAt.int_int (A := A) (s := s) ns[j] t ns[j] t2
  rwa [beq_self_eq_true] at this
theorem law_return (w : World) (mean : ExcName → Option Value) (mg mb : Str → Option Value) (L fa : Addr) (base h₀ : Heap) (m : Str → Option Value) (s : Shared) (Q : Flow → Shared → Prop) (E : Value → Shared → Prop) (o1 o2 o3 o4 o5 : Obj) (Do Dt : Addr) (no nt : Nat) (wo wt : List Value) (nu : List Int) (bt : Array UInt8) (tt : Tok) (p : Array Nat) (ps1 ps2 : Array Value) (B : Below callerA base [] h₀) (X : (Mine.fk.heap_1 w.params).In h₀) (T : TopM mean mg mb h₀) (l0 : @LT.lt Nat _ 23 L ∧ @LT.lt Nat _ 197 L)
    (F : Fr h₀ L s.heap (fun y => if y = Str.ofString "order" then some (.ref Do) else if y = Str.ofString "told" then some (.bytes bt tt) else m y))
    (N : News h₀ L s.heap ((Do, W.listOf (List.toArray wo) no) :: (Dt, W.listOf (List.toArray wt) nt) :: (L + 1 + 1 + 1, o3) :: (23, tabObj ps1) :: (197, tabObj ps2) :: [])) (c3 : o3.data = .cell (some (.ref Dt))) (hT : IntsAre wt (tL nu)) (hO : IntsAre wo (p.toList.map fun (i : Nat) => (i : Int))) (hpe : (p.toList.map fun (i : Nat) => (i : Int)) = selTwo (fun c i => tI nu i == (c : Int)) 5 16)
    (hk : ∀ h' tk', Fr h₀ L h' (fun y => if y = Str.ofString "order" then some (.ref Do) else if y = Str.ofString "told" then some (.bytes bt tt) else m y) → News h₀ L h' ((23, tabObj ps1) :: (197, tabObj ps2) :: []) → Q (Flow.ret (.bool true)) { s with heap := h', toks := tk' }) :
    wpAny (model PySem.Challenge.rw_oy0177_01.row.prog w) (callerA.deeper (envOfC (Str.ofString "law") (lawFn w.params).scope L fa (Value.ref 199))) (execs (List.drop 9 (match (lawFn w.params).body with | .stmts l => l | _ => [])) (envOfC (Str.ofString "law") (lawFn w.params).scope L fa (Value.ref 199))) Q E s := by
  (conv in (List.drop 9 _) => whnf)
  repeat (conv in (FuncData.scope _) => whnf)
  (have reg : ∀ (w : World) (h : Heap), (Mine.fk.heap_1 w.params).In h → PySem.Challenge.rw_oy0177_01.row.prog = PySem.Challenge.rw_oy0177_01.row.prog := by (k_fill; intros; rfl))
  clear reg
  have hu := IntsAre.length hT
  have htl := tL_len nu
  have hsz : @LT.lt Nat _ L s.heap.objs.size := F.ns.lt
  have hab := F.above
  (repeat' ((fail_if_success (with_reducible show wpAny _ _ (eval (Expr.ListComp _ _ _ _) _) _ _ _)); (first | ((with_reducible show wpAny _ _ (subscriptTail (Expr.BinOp _ _ _ _) _ _ _) _ _ _); (k_here; (with_reducible show wpAny _ _ (subscriptTail _ (PySem.Expr.Slice _ _ none _) (Value.ref _) (Value.ref _)) _ _ _); k_dflt (refine' slice_temp (by k_asm) (by k_asm) (by kmk_list) (by kmk_part) (by kmk_part) (by l_ints) (by kmk_nums) ?_ (by with_unfolding_all rfl) (by kmk_size); ); intro D' ws' h' F' N' l1 hI'; (try simp only [Int.reduceNeg, Int.neg_neg, Int.reduceToNat] at hI'); (try k_lt l1); (try k_sweep))) | (k_unfold; (try dsimp only)) | walk1 | (dsimp only; walk1))))
  refine comp_two (h₀ := h₀) (L := L) (m := (fun y => if y = Str.ofString "order" then some (.ref Do) else if y = Str.ofString "told" then some (.bytes bt tt) else m y)) (fun c i => tI nu i == (c : Int)) 5 16 (by rfl) (by rfl) (by decide) (by decide) (by rfl) (by rfl) (by decide) (by intro _; rfl) (by intro _ _; rfl) (by decide) (by decide) (by decide) (by decide) (by decide) (by rfl) ?_
  (repeat' ((fail_if_success (with_reducible show Exists _)); (first | (k_unfold; (try dsimp only)) | walk1 | (dsimp only; walk1))))
  refine ⟨_, _, _, _, _, rfl, by k_asm, by k_asm, by assumption, ?_, ?_⟩
  · intro I₁ C D l1 l2 l3
    k_lt l1
    refine ⟨?_, ?_, ?_⟩
    · intro i₁ t₁ oI₁ oC ys mm h tk E' hi1 hC hx1 F1 N1
      (repeat' ((fail_if_success (with_reducible show Exists _)); (first | (k_unfold; (try dsimp only)) | walk1 | (dsimp only; walk1))))
      exact ⟨_, _, _, _, _, _, rfl, rfl, by assumption, by assumption, by assumption⟩
    · intro i₁ i₂ t₁ t₂ I₂ oI₁ oI₂ oC ys mm h tk E' hi1 hi2 hC hx1 hx2 F1 N1
      (repeat' ((fail_if_success (with_reducible show wpAny _ _ (subscriptTail _ _ (Value.ref _) (Value.int _ _)) _ _ _)); (first | (k_unfold; (try dsimp only)) | walk1 | (dsimp only; walk1))))
      obtain ⟨tv, hv⟩ := ints_get hT (show (tL nu)[i₂]? = some (tI nu i₂) by unfold tL; rw [List.getElem?_map, List.getElem?_range hi2]; rfl)
      refine' item_at (vs := wt) ?l (by omega) (by omega) (by simpa using hv) ?_
      case l => kmk_list
      (repeat' ((fail_if_success (with_reducible show Exists _)); (first | (k_unfold; (try dsimp only)) | walk1 | (dsimp only; walk1))))
      exact ⟨_, _, rfl, by assumption, by assumption, by first | rfl | exact (Bool.eq_iff_iff.mpr (by simp))⟩
    · intro i₁ i₂ t₁ t₂ I₂ oI₁ oI₂ oC ys mm h tk E' hi1 hi2 hC hx1 hx2 F1 N1
      (repeat' ((fail_if_success (with_reducible show Exists _)); (first | (k_unfold; (try dsimp only)) | walk1 | (dsimp only; walk1))))
      exact ⟨_, _, rfl, by assumption, by assumption, _, rfl⟩
  · intro D h tk ys F1 N1 l1 hI
    k_lt l1
    (repeat' ((fail_if_success (with_reducible show wpAny _ _ (compareOp _ _ _) _ _ _)); (first | (k_unfold; (try dsimp only)) | walk1 | (dsimp only; walk1))))
    have hes := ints_size hO (hpe ▸ hI)
    refine' SeqAt.eq_listAt (e := fun _ => true) ?l1 ?l2 hes (by ktr_units) (fun j h1 h2 => ints_eqAt hO (hpe ▸ hI) j h1 h2) ?_
    case l1 => kmk_list
    case l2 => kmk_list
    rw [show ((List.range wo.toArray.size).all fun _ => true) = true by simp]
    refine' hk _ _ ?f ?n
    case f => assumption
    case n => exact news_sub (by assumption) (by lcg_sub)
end Mine
end
theorem Mine.zz66 : True := by
  k_with_none
  w_top off
  (have : True ∧ True := by
    (try walk1)
    all_goals (first | exact trivial | exact ⟨trivial, trivial⟩))
  trivial
-- Pure10
section
open PySem PySem.W PyProof.Rows PySem.Calls
set_option Elab.async false
set_option maxRecDepth 100000
namespace Mine
theorem runChk_congr {α : Type} {n : Nat} {lt lt' : Nat → Nat → Bool} (h : ∀ i j, i < n → j < n → lt i j = lt' i j) : ∀ t : KasT α, runChk n lt t = runChk n lt' t
  | .ret _ => rfl
  | .ask i j k => by
    unfold runChk
    by_cases hb : i < n ∧ j < n
    · rw [if_pos hb, if_pos hb, h i j hb.1 hb.2]; exact runChk_congr h _
    · rw [if_neg hb, if_neg hb]
/-- each half of the row grows by its number's bit -/
def tsX (ts : List Nat) (a b : Nat) : List Nat := ts.map (· + a) ++ ts.map (· + b)
def t16 (a0 a1 b0 b1 c0 c1 d0 d1 : Nat) : List Nat := tsX (tsX (tsX (tsX [0] a0 a1) b0 b1) c0 c1) d0 d1
def chk16 (T : List Nat) : Bool := match runChk 16 (fun i j => decide (T.getD i 0 < T.getD j 0)) (kas_sort 16) with
  | none => false
  | some p => p.toList.all (fun i => decide (i < 16)) && decide ((p.toList.map fun (i : Nat) => (i : Int)) = selTwo (fun c i => decide (T.getD i 0 = c)) 5 16)
theorem fin_two : ∀ a : Fin 2, a = 0 ∨ a = 1 := by decide
theorem chk_a : ∀ c0 c1 d0 d1 : Fin 2, chk16 (t16 (0 : Fin 2).val (0 : Fin 2).val (0 : Fin 2).val (0 : Fin 2).val c0.val c1.val d0.val d1.val) = true := by decide +kernel
theorem chk_b : ∀ c0 c1 d0 d1 : Fin 2, chk16 (t16 (0 : Fin 2).val (0 : Fin 2).val (0 : Fin 2).val (1 : Fin 2).val c0.val c1.val d0.val d1.val) = true := by decide +kernel
theorem chk_c : ∀ c0 c1 d0 d1 : Fin 2, chk16 (t16 (0 : Fin 2).val (0 : Fin 2).val (1 : Fin 2).val (0 : Fin 2).val c0.val c1.val d0.val d1.val) = true := by decide +kernel
theorem chk_d : ∀ c0 c1 d0 d1 : Fin 2, chk16 (t16 (0 : Fin 2).val (0 : Fin 2).val (1 : Fin 2).val (1 : Fin 2).val c0.val c1.val d0.val d1.val) = true := by decide +kernel
theorem chk_e : ∀ c0 c1 d0 d1 : Fin 2, chk16 (t16 (0 : Fin 2).val (1 : Fin 2).val (0 : Fin 2).val (0 : Fin 2).val c0.val c1.val d0.val d1.val) = true := by decide +kernel
theorem chk_f : ∀ c0 c1 d0 d1 : Fin 2, chk16 (t16 (0 : Fin 2).val (1 : Fin 2).val (0 : Fin 2).val (1 : Fin 2).val c0.val c1.val d0.val d1.val) = true := by decide +kernel
theorem chk_g : ∀ c0 c1 d0 d1 : Fin 2, chk16 (t16 (0 : Fin 2).val (1 : Fin 2).val (1 : Fin 2).val (0 : Fin 2).val c0.val c1.val d0.val d1.val) = true := by decide +kernel
theorem chk_h : ∀ c0 c1 d0 d1 : Fin 2, chk16 (t16 (0 : Fin 2).val (1 : Fin 2).val (1 : Fin 2).val (1 : Fin 2).val c0.val c1.val d0.val d1.val) = true := by decide +kernel
theorem chk_i : ∀ c0 c1 d0 d1 : Fin 2, chk16 (t16 (1 : Fin 2).val (0 : Fin 2).val (0 : Fin 2).val (0 : Fin 2).val c0.val c1.val d0.val d1.val) = true := by decide +kernel
theorem chk_j : ∀ c0 c1 d0 d1 : Fin 2, chk16 (t16 (1 : Fin 2).val (0 : Fin 2).val (0 : Fin 2).val (1 : Fin 2).val c0.val c1.val d0.val d1.val) = true := by decide +kernel
theorem chk_k : ∀ c0 c1 d0 d1 : Fin 2, chk16 (t16 (1 : Fin 2).val (0 : Fin 2).val (1 : Fin 2).val (0 : Fin 2).val c0.val c1.val d0.val d1.val) = true := by decide +kernel
theorem chk_l : ∀ c0 c1 d0 d1 : Fin 2, chk16 (t16 (1 : Fin 2).val (0 : Fin 2).val (1 : Fin 2).val (1 : Fin 2).val c0.val c1.val d0.val d1.val) = true := by decide +kernel
theorem chk_m : ∀ c0 c1 d0 d1 : Fin 2, chk16 (t16 (1 : Fin 2).val (1 : Fin 2).val (0 : Fin 2).val (0 : Fin 2).val c0.val c1.val d0.val d1.val) = true := by decide +kernel
theorem chk_n : ∀ c0 c1 d0 d1 : Fin 2, chk16 (t16 (1 : Fin 2).val (1 : Fin 2).val (0 : Fin 2).val (1 : Fin 2).val c0.val c1.val d0.val d1.val) = true := by decide +kernel
theorem chk_o : ∀ c0 c1 d0 d1 : Fin 2, chk16 (t16 (1 : Fin 2).val (1 : Fin 2).val (1 : Fin 2).val (0 : Fin 2).val c0.val c1.val d0.val d1.val) = true := by decide +kernel
theorem chk_p : ∀ c0 c1 d0 d1 : Fin 2, chk16 (t16 (1 : Fin 2).val (1 : Fin 2).val (1 : Fin 2).val (1 : Fin 2).val c0.val c1.val d0.val d1.val) = true := by decide +kernel
theorem chk_all : ∀ a0 a1 b0 b1 c0 c1 d0 d1 : Fin 2, chk16 (t16 a0.val a1.val b0.val b1.val c0.val c1.val d0.val d1.val) = true := by
  intro a0 a1 b0 b1
  rcases fin_two a0 with rfl | rfl <;> rcases fin_two a1 with rfl | rfl <;> rcases fin_two b0 with rfl | rfl <;> rcases fin_two b1 with rfl | rfl
  · exact chk_a
  · exact chk_b
  · exact chk_c
  · exact chk_d
  · exact chk_e
  · exact chk_f
  · exact chk_g
  · exact chk_h
  · exact chk_i
  · exact chk_j
  · exact chk_k
  · exact chk_l
  · exact chk_m
  · exact chk_n
  · exact chk_o
  · exact chk_p
theorem tsD_tsX (ts : List Nat) (n : Int) : tsD ts n = tsX ts (n.fmod 2).toNat ((n.fdiv 2).fmod 2).toNat := by
  have key : ∀ (x : Int), (if x.fmod 2 = 1 then ts.map (· + 1) else ts) = ts.map (· + (x.fmod 2).toNat) := by
    intro x
    have h1 := Int.fmod_nonneg_of_pos x (show (0 : Int) < 2 by decide)
    have h2 := Int.fmod_lt_of_pos x (show (0 : Int) < 2 by decide)
    by_cases h : x.fmod 2 = 1
    · rw [if_pos h, h]; rfl
    · have : x.fmod 2 = 0 := by (first | lia | omega)
      rw [if_neg h, this]; simp
  unfold tsD tsX
  rw [key n, key (n.fdiv 2)]
theorem fmod_two (x : Int) : ∃ b : Fin 2, (x.fmod 2).toNat = b.val ∧ x.fmod 2 = (b.val : Int) := by
  have h1 := Int.fmod_nonneg_of_pos x (show (0 : Int) < 2 by decide)
  have h2 := Int.fmod_lt_of_pos x (show (0 : Int) < 2 by decide)
  exact ⟨⟨(x.fmod 2).toNat, by (first | lia | omega)⟩, rfl, by show x.fmod 2 = ((x.fmod 2).toNat : Int); (first | lia | omega)⟩
/-- the list of the sixteen counts, both ways -/
theorem tL_t16 (a b c d : Int) : ∃ a0 a1 b0 b1 c0 c1 d0 d1 : Fin 2, [a, b, c, d].foldl tsD [0] = t16 a0.val a1.val b0.val b1.val c0.val c1.val d0.val d1.val ∧ tL [a, b, c, d] = (t16 a0.val a1.val b0.val b1.val c0.val c1.val d0.val d1.val).map fun (n : Nat) => (n : Int) := by
  obtain ⟨a0, ea0, fa0⟩ := fmod_two a
  obtain ⟨a1, ea1, fa1⟩ := fmod_two (a.fdiv 2)
  obtain ⟨b0, eb0, fb0⟩ := fmod_two b
  obtain ⟨b1, eb1, fb1⟩ := fmod_two (b.fdiv 2)
  obtain ⟨c0, ec0, fc0⟩ := fmod_two c
  obtain ⟨c1, ec1, fc1⟩ := fmod_two (c.fdiv 2)
  obtain ⟨d0, ed0, fd0⟩ := fmod_two d
  obtain ⟨d1, ed1, fd1⟩ := fmod_two (d.fdiv 2)
  refine ⟨a0, a1, b0, b1, c0, c1, d0, d1, ?_, ?_⟩
  · simp only [List.foldl_cons, List.foldl_nil, tsD_tsX, ea0, ea1, eb0, eb1, ec0, ec1, ed0, ed1]
    rfl
  · have bit : ∀ i s : Nat, (((i : Int)).fdiv (2 ^ s)).fmod 2 = ((i / 2 ^ s % 2 : Nat) : Int) := fun i s => by
      rw [Int.fdiv_eq_ediv_of_nonneg _ (Int.pow_nonneg (by decide)), Int.fmod_eq_emod_of_nonneg _ (by decide)]
      simp
    have ts : ∀ (nu : List Int) (i s : Nat), tS nu i s = if i / 2 ^ s % 2 = 0 then (nu.getD s 0).fmod 2 else ((nu.getD s 0).fdiv 2).fmod 2 := fun nu i s => by
      unfold tS
      rw [bit, Int.toNat_natCast]
      rcases Nat.mod_two_eq_zero_or_one (i / 2 ^ s) with h | h
      · rw [h, if_pos rfl]; simp
      · rw [h, if_neg (by decide)]; simp
    have pick : ∀ (P : Prop) [Decidable P] (x y : Int) (u v : Nat), x = (u : Int) → y = (v : Int) → (if P then x else y) = ((if P then u else v : Nat) : Int) := fun P _ x y u v hx hy => by
      by_cases h : P
      · rw [if_pos h, if_pos h, hx]
      · rw [if_neg h, if_neg h, hy]
    have sel : ∀ i : Nat, tI [a, b, c, d] i = (((if i / 2 ^ 0 % 2 = 0 then a0.val else a1.val) + (if i / 2 ^ 1 % 2 = 0 then b0.val else b1.val) + (if i / 2 ^ 2 % 2 = 0 then c0.val else c1.val) + (if i / 2 ^ 3 % 2 = 0 then d0.val else d1.val) : Nat) : Int) := fun i => by
      have h0 := (ts [a, b, c, d] i 0).trans (pick _ _ _ a0.val a1.val fa0 fa1)
      have h1 := (ts [a, b, c, d] i 1).trans (pick _ _ _ b0.val b1.val fb0 fb1)
      have h2 := (ts [a, b, c, d] i 2).trans (pick _ _ _ c0.val c1.val fc0 fc1)
      have h3 := (ts [a, b, c, d] i 3).trans (pick _ _ _ d0.val d1.val fd0 fd1)
      unfold tI
      simp only [List.sum_cons, List.sum_nil, Int.natCast_add]
      (first | lia | omega)
    have hr : tL [a, b, c, d] = (List.range 16).map fun i => ((((if i / 2 ^ 0 % 2 = 0 then a0.val else a1.val) + (if i / 2 ^ 1 % 2 = 0 then b0.val else b1.val) + (if i / 2 ^ 2 % 2 = 0 then c0.val else c1.val) + (if i / 2 ^ 3 % 2 = 0 then d0.val else d1.val) : Nat)) : Int) := by
      unfold tL
      exact List.map_congr_left fun i _ => sel i
    have e : (List.range 16).map (fun i => ((if i / 2 ^ 0 % 2 = 0 then a0.val else a1.val) + (if i / 2 ^ 1 % 2 = 0 then b0.val else b1.val) + (if i / 2 ^ 2 % 2 = 0 then c0.val else c1.val) + (if i / 2 ^ 3 % 2 = 0 then d0.val else d1.val))) = t16 a0.val a1.val b0.val b1.val c0.val c1.val d0.val d1.val := by
      simp only [t16, tsX]
      simp [List.range_succ]
    rw [hr, ← e, List.map_map]; rfl
end Mine
end
theorem Mine.zz67 : True := by
  k_with_none
  w_top off
  (have : True ∧ True := by
    (try walk1)
    all_goals (first | exact trivial | exact ⟨trivial, trivial⟩))
  trivial
-- Pure11
section
open PySem PySem.W PyProof.Rows PySem.Calls
set_option Elab.async false
set_option maxRecDepth 100000
namespace Mine
/-- where a sign first stands is one place -/
theorem app_inj {c : Nat} : ∀ {a b x y : List Nat}, c ∉ a → c ∉ b → a ++ c :: x = b ++ c :: y → a = b ∧ x = y
  | [], [], _, _, _, _, h => ⟨rfl, by simpa using h⟩
  | [], q :: b, _, _, _, hb, h => by simp at h; exact absurd h.1 (fun e => hb (by rw [e]; exact .head _))
  | p :: a, [], _, _, ha, _, h => by simp at h; exact absurd h.1.symm (fun e => ha (by rw [e]; exact .head _))
  | p :: a, q :: b, x, y, ha, hb, h => by
    simp at h
    obtain ⟨e1, e2⟩ := app_inj (fun k => ha (.tail _ k)) (fun k => hb (.tail _ k)) h.2
    exact ⟨by rw [h.1, e1], e2⟩
theorem str_ext {p q : Str} (h : p.cps.toList = q.cps.toList) : p = q := by
  cases p; cases q
  simp only at h
  rw [Array.toList_inj.mp h]
theorem cps_cat (p s q : Str) : (p ++ s ++ q).cps.toList = p.cps.toList ++ (s.cps.toList ++ q.cps.toList) := by
  show ((p.cps ++ s.cps) ++ q.cps).toList = _
  simp
theorem join_inj (c : Nat) : ∀ (P Q : List Str), 1 ≤ P.length → 1 ≤ Q.length → (∀ p ∈ P, c ∉ p.cps.toList) → (∀ q ∈ Q, c ∉ q.cps.toList) → Str.join ⟨#[c]⟩ P = Str.join ⟨#[c]⟩ Q → P = Q
  | [], _, h, _, _, _, _ => by simp at h
  | _ :: _, [], _, h, _, _, _ => by simp at h
  | [p], [q], _, _, _, _, h => by rw [show Str.join ⟨#[c]⟩ [p] = p from rfl, show Str.join ⟨#[c]⟩ [q] = q from rfl] at h; rw [h]
  | [p], q :: q' :: r, _, _, hp, _, h => by
    rw [show Str.join ⟨#[c]⟩ [p] = p from rfl, join_cons_cons] at h
    have := congrArg (fun s : Str => s.cps.toList) h
    simp only [cps_cat] at this
    exact absurd (by rw [this]; simp) (hp p (.head _))
  | p :: p' :: r, [q], _, _, _, hq, h => by
    rw [show Str.join ⟨#[c]⟩ [q] = q from rfl, join_cons_cons] at h
    have := congrArg (fun s : Str => s.cps.toList) h
    simp only [cps_cat] at this
    exact absurd (by rw [← this]; simp) (hq q (.head _))
  | p :: p' :: r, q :: q' :: r', _, _, hp, hq, h => by
    rw [join_cons_cons, join_cons_cons] at h
    have := congrArg (fun s : Str => s.cps.toList) h
    simp only [cps_cat] at this
    obtain ⟨e1, e2⟩ := app_inj (hp p (.head _)) (hq q (.head _)) (by simpa using this)
    have e3 := join_inj c (p' :: r) (q' :: r') (by simp) (by simp) (fun x k => hp x (.tail _ k)) (fun x k => hq x (.tail _ k)) (str_ext e2)
    rw [str_ext e1, e3]
/-- the pieces behind the first one each bring their sign -/
theorem join_cps (c : Nat) : ∀ (l : List Str) (a : Str), (Str.join ⟨#[c]⟩ (a :: l)).cps.toList = a.cps.toList ++ l.flatMap fun p => c :: p.cps.toList
  | [], a => by rw [show Str.join ⟨#[c]⟩ [a] = a from rfl]; simp
  | b :: l, a => by rw [join_cons_cons, cps_cat, join_cps c l b]; simp
theorem strArr_cps (ns : List Int) : (strArr ns).cps.toList = ns.map fun n => n.toNat := by simp [strArr]
theorem sgn_Z : ∀ n : Fin 64, (sgn (n.val : Int)).toNat = 90 → n.val = 25 := by decide +kernel
theorem sgn_ne {x : Int} (h0 : 0 ≤ x) (h1 : x < 64) (hx : x ≠ 25) : (sgn x).toNat ≠ 90 := fun e => by
  have := sgn_Z ⟨x.toNat, by (first | lia | omega)⟩ (by rw [show (((⟨x.toNat, by (first | lia | omega)⟩ : Fin 64).val : Nat) : Int) = x by show ((x.toNat : Nat) : Int) = x; (first | lia | omega)]; exact e)
  simp at this; (first | lia | omega)
theorem cpF_no25 {r : List Int} (h : (25 : Int) ∉ r) (k : Nat) : (25 : Int) ∉ cpF r k := fun hm => by
  obtain ⟨x, hx, hy⟩ := List.mem_flatMap.mp hm
  by_cases e : x = 62
  · rw [if_pos e] at hy
    rcases List.mem_cons.mp hy with q | hy
    · cases q
    · unfold amps at hy
      obtain ⟨l, hl, hi⟩ := List.mem_flatten.mp hy
      rw [List.eq_of_mem_replicate hl] at hi
      simp at hi
  · rw [if_neg e] at hy
    rw [List.mem_singleton] at hy
    exact h (hy ▸ hx)
theorem cpF_cons (r : List Int) (k : Nat) : cpF (25 :: r) k = 25 :: cpF r k := rfl
/-- one copy behind its sign -/
def copyS (r : List Int) (t : Nat) : Str := strArr ((cpF r t).map sgn)
theorem copyS_len (r : List Int) (t : Nat) : (copyS r t).length = r.length + 4 * t * r.count 62 := by
  unfold copyS; rw [strArr_length, List.length_map, cpF_len]
theorem rows_split {r : List Int} (hf : Fig r) (h : (25 : Int) ∉ r) (T : List Nat) : Txt.split (strArr ((rowsF (25 :: r) T).map sgn)) (Str.ofString "Z") = ⟨#[]⟩ :: T.map (copyS r) := by
  rw [show Str.ofString "Z" = (⟨#[90]⟩ : Str) by decide +kernel]
  refine join_inj 90 _ _ (split_pos _ _) (by simp) (StrLaws.split_free _ _) (fun q hq => ?_) ?_
  · rcases List.mem_cons.mp hq with rfl | hq
    · simp
    · obtain ⟨t, _, rfl⟩ := List.mem_map.mp hq
      unfold copyS
      rw [strArr_cps]
      intro hm
      obtain ⟨y, hy, e⟩ := List.mem_map.mp hm
      obtain ⟨x, hx, rfl⟩ := List.mem_map.mp hy
      have hx2 := cpF_fig hf t x hx
      exact sgn_ne hx2.1 hx2.2 (fun q => cpF_no25 h t (q ▸ hx)) e
  · rw [StrLaws.join_split]
    refine str_ext ?_
    rw [join_cps, strArr_cps]
    show _ = [] ++ _
    rw [List.nil_append]
    induction T with
    | nil => rfl
    | cons t T ih =>
      rw [show rowsF (25 :: r) (t :: T) = cpF (25 :: r) t ++ rowsF (25 :: r) T from rfl, List.map_append, List.map_append, ih, cpF_cons]
      rw [List.map_cons (f := copyS r), List.flatMap_cons]
      unfold copyS
      rw [strArr_cps]
      rfl
/-- the joined kinds are the told octets -/
theorem join_rows {row : List Int} (h4 : row.length % 4 = 0) : ∀ T : List Nat, (T.map fun t => byteArr (octL (cpF row t))).toArray.flatten = byteArr (octL (rowsF row T))
  | [] => by rw [show rowsF row [] = [] from rfl]; rfl
  | t :: T => by
    have e1 : (cpF row t).length % 4 = 0 := by rw [cpF_len]; have : 4 * t * row.count 62 = 4 * (t * row.count 62) := by rw [Nat.mul_assoc]
                                               (first | lia | omega)
    rw [show rowsF row (t :: T) = cpF row t ++ rowsF row T from rfl, octL_append e1 (rowsF_four row h4 T), ← byteArr_append, ← join_rows h4 T]
    simp
end Mine
end
theorem Mine.zz68 : True := by
  k_with_none
  w_top off
  (have : True ∧ True := by
    (try walk1)
    all_goals (first | exact trivial | exact ⟨trivial, trivial⟩))
  trivial
-- Pure12
section
open PySem PySem.W PyProof.Rows PySem.Calls
set_option Elab.async false
set_option maxRecDepth 100000
namespace Mine
theorem selTwo_congr {p q : Nat → Nat → Bool} {n₁ n₂ : Nat} (h : ∀ c i, i < n₂ → p c i = q c i) : selTwo p n₁ n₂ = selTwo q n₁ n₂ := by
  unfold selTwo selL
  congr 1
  funext c
  congr 1
  exact List.filter_congr fun i hi => h c i (List.mem_range.mp hi)
theorem four_is {nu : List Int} (h : nu.length = 4) : ∃ a b c d, nu = [a, b, c, d] := by
  match nu, h with
  | [a, b, c, d], _ => exact ⟨a, b, c, d, rfl⟩
theorem chk16_is {T : List Nat} (h : chk16 T = true) : ∃ p, runChk 16 (fun i j => decide (T.getD i 0 < T.getD j 0)) (kas_sort 16) = some p ∧ (∀ i ∈ p.toList, i < 16) ∧ (p.toList.map fun (i : Nat) => (i : Int)) = selTwo (fun c i => decide (T.getD i 0 = c)) 5 16 := by
  unfold chk16 at h
  split at h
  · cases h
  · rename_i p hp
    simp only [Bool.and_eq_true, List.all_eq_true, decide_eq_true_eq] at h
    exact ⟨p, hp, h.1, h.2⟩
structure LawFacts (row nu : List Int) (cs : List Int) (p : Array Nat) : Prop where
  join : joinB row nu = byteArr (octL (nu.foldl deedF row))
  jsz : ((((tL nu).map fun c => byteArr (octL (cpF row c.toNat)))).map Array.size).sum ≤ 16777216
  ssz : (Txt.split (strArr ((nu.foldl deedF row).map sgn)) (Str.ofString "Z")).length ≤ 16777216
  len : cs.length = 16
  run : runChk 16 (fun i j => decide (cs.getD i 0 < cs.getD j 0)) (kas_sort 16) = some p
  small : ∀ i ∈ p.toList, i < 16
  eq : (p.toList.map fun (i : Nat) => (i : Int)) = selTwo (fun c i => tI nu i == (c : Int)) 5 16
  lens : ∀ l : List (Str × Tok), l.map (·.1) = Txt.split (strArr ((nu.foldl deedF row).map sgn)) (Str.ofString "Z") → LensAre (slicePick (strValues l).toArray (some 1) none none).toList cs
theorem law_facts {r nu : List Int} (hf : Fig (25 :: r)) (h4 : (25 :: r).length % 4 = 0) (h8 : (25 :: r).length ≤ 8) (h25 : (25 : Int) ∉ r) (h62 : (62 : Int) ∈ r) (hn : nu.length = 4) : ∃ cs p, LawFacts (25 :: r) nu cs p := by
  obtain ⟨a, b, c, d, rfl⟩ := four_is hn
  obtain ⟨a0, a1, b0, b1, c0, c1, d0, d1, eT, eL⟩ := tL_t16 a b c d
  have hc := chk_all a0 a1 b0 b1 c0 c1 d0 d1
  generalize hT : t16 a0.val a1.val b0.val b1.val c0.val c1.val d0.val d1.val = T at eT eL hc
  generalize hnu : ([a, b, c, d] : List Int) = nu at *
  have hl : T.length = 16 := by rw [← eT]; have := (fold_ts nu [0] 0 (by simp)).1; rw [this, hn]; rfl
  have hle : ∀ t ∈ T, t ≤ 4 := by rw [← eT]; have := (fold_ts nu [0] 0 (by simp)).2; rw [hn] at this; simpa using this
  have hrow : nu.foldl deedF (25 :: r) = rowsF (25 :: r) T := by rw [← eT, ← fold_rows, rowsF_one]
  have hS : Sound (25 :: r) (nu.foldl deedF (25 :: r)) := sound_fold hf h4 h8 (.tail _ h62) (by (first | lia | omega)) rfl
  have hmap : ((tL nu).map fun c => byteArr (octL (cpF (25 :: r) c.toNat))) = T.map fun t => byteArr (octL (cpF (25 :: r) t)) := by
    rw [eL, List.map_map]; rfl
  have hj : joinB (25 :: r) nu = byteArr (octL (nu.foldl deedF (25 :: r))) := by
    unfold joinB; rw [hmap, join_rows h4, hrow]
  obtain ⟨p, hp, hs, he⟩ := chk16_is hc
  have hfr : Fig r := fun x hx => hf x (.tail _ hx)
  have hcnt : 1 ≤ r.count 62 := List.count_pos_iff.mpr h62
  have hsp := rows_split hfr h25 T
  rw [← hrow] at hsp
  refine ⟨T.map fun t => ((r.length + 4 * t * r.count 62 : Nat) : Int), p, hj, ?_, ?_, by rw [List.length_map, hl], ?_, hs, ?_, ?_⟩
  · have e : (((tL nu).map fun c => byteArr (octL (cpF (25 :: r) c.toNat))).map Array.size).sum = (joinB (25 :: r) nu).size := by
      unfold joinB; simp; rfl
    rw [e, hj, byteArr_size]
    have h1 := octL_len _ hS.four
    have h2 := hS.le
    (first | lia | omega)
  · rw [hsp]; simp [hl]
  · rw [← hp]
    refine runChk_congr (fun i j hi hj => ?_) _
    have gi : ∀ i, i < 16 → (T.map fun t => ((r.length + 4 * t * r.count 62 : Nat) : Int)).getD i 0 = ((r.length + 4 * T.getD i 0 * r.count 62 : Nat) : Int) := fun i hi => by
      have : i < T.length := by (first | lia | omega)
      simp [this]
    rw [gi i hi, gi j hj, Bool.eq_iff_iff, decide_eq_true_iff, decide_eq_true_iff, Int.ofNat_lt]
    constructor
    · intro h
      refine Nat.lt_of_not_le fun h' => ?_
      have := Nat.mul_le_mul_right (r.count 62) (Nat.mul_le_mul_left 4 h')
      (first | lia | omega)
    · intro h
      have h2 : 4 * T.getD i 0 * r.count 62 + 4 * r.count 62 ≤ 4 * T.getD j 0 * r.count 62 := by
        rw [← Nat.add_mul]
        exact Nat.mul_le_mul_right _ (by (first | lia | omega))
      (first | lia | omega)
  · rw [he]
    refine selTwo_congr fun c i hi => ?_
    have : tI nu i = ((T.getD i 0 : Nat) : Int) := by
      have e1 : (tL nu)[i]? = some (tI nu i) := by unfold tL; rw [List.getElem?_map, List.getElem?_range hi]; rfl
      rw [eL, List.getElem?_map] at e1
      have hi' : i < T.length := by (first | lia | omega)
      rw [List.getElem?_eq_getElem hi'] at e1
      simp at e1
      simp [hi', ← e1]
    rw [this, Bool.eq_iff_iff, decide_eq_true_iff, beq_iff_eq]
    exact Int.ofNat_inj.symm
  · intro l el
    rw [hsp] at el
    rw [show (slicePick (strValues l).toArray (some 1) none none) = ((strValues l).toArray.toList.drop 1).toArray from slicePick_from' _ 1]
    cases l with
    | nil => cases el
    | cons q l =>
      simp only [List.map_cons, List.cons.injEq] at el
      have e2 := el.2
      show LensAre ((strValues (q :: l)).toArray.toList.drop 1).toArray.toList _
      have e3 : ((strValues (q :: l)).toArray.toList.drop 1).toArray.toList = strValues l := by simp [strValues]
      rw [e3]
      have hll : l.length = 16 := by have := congrArg List.length e2; simpa [hl] using this
      refine ⟨by simp [strValues, hll, hl], fun i v hv => ?_⟩
      unfold strValues at hv
      rw [List.getElem?_map] at hv
      obtain ⟨x, hx, rfl⟩ := Option.map_eq_some_iff.mp hv
      have e4 : (T.map (copyS r))[i]? = some x.1 := by rw [← e2, List.getElem?_map, hx]; rfl
      rw [List.getElem?_map] at e4
      obtain ⟨t, ht, e5⟩ := Option.map_eq_some_iff.mp e4
      refine ⟨x.1, x.2, rfl, ?_, ?_⟩
      · rw [List.getElem?_map, ht, ← e5, copyS_len]; rfl
      · rw [← e5, copyS_len]
        have h1 := hle t (List.mem_of_getElem? ht)
        have h2 : r.count 62 ≤ r.length := List.count_le_length
        have h3 : r.length ≤ 8 := by simp at h8; (first | lia | omega)
        have h5 : 4 * t * r.count 62 ≤ 16 * 8 := Nat.mul_le_mul (by (first | lia | omega)) (by (first | lia | omega))
        (first | lia | omega)
end Mine
end
theorem Mine.zz69 : True := by
  k_with_none
  w_top off
  (have : True ∧ True := by
    (try walk1)
    all_goals (first | exact trivial | exact ⟨trivial, trivial⟩))
  trivial
-- Pure13
section
open PySem PySem.W PyProof.Rows PySem.Calls
set_option Elab.async false
set_option maxRecDepth 100000
namespace Mine
theorem figF_in (x : Int) : 0 ≤ figF x ∧ figF x < 64 ∧ figF x ≠ 25 := by
  have h1 := Int.fmod_nonneg_of_pos (x.fdiv 8) (show (0 : Int) < 38 by decide)
  have h2 := Int.fmod_lt_of_pos (x.fdiv 8) (show (0 : Int) < 38 by decide)
  unfold figF
  (repeat' split) <;> omega
theorem drawn_row {xs : List Int} (hx : xs.length ≤ 6) : ∃ r, rowOf ([25, 62] ++ xs.map figF) = 25 :: r ∧ Fig (25 :: r) ∧ (25 :: r).length % 4 = 0 ∧ (25 :: r).length ≤ 8 ∧ (25 : Int) ∉ r ∧ (62 : Int) ∈ r := by
  refine ⟨62 :: xs.map figF ++ (List.replicate ((-(([25, 62] ++ xs.map figF).length : Int)).fmod 4).toNat [0]).flatten, rfl, ?_, ?_, ?_, ?_, by simp⟩
  · intro y hy
    rcases List.mem_cons.mp hy with rfl | hy
    · omega
    rcases List.mem_append.mp hy with hy | hy
    · rcases List.mem_cons.mp hy with rfl | hy
      · omega
      · obtain ⟨x, _, rfl⟩ := List.mem_map.mp hy
        exact ⟨(figF_in x).1, (figF_in x).2.1⟩
    · obtain ⟨l, hl, hi⟩ := List.mem_flatten.mp hy
      rw [List.eq_of_mem_replicate hl] at hi
      simp at hi; omega
  · have h1 := Int.fmod_nonneg_of_pos (-(([25, 62] ++ xs.map figF).length : Int)) (show (0 : Int) < 4 by decide)
    have h2 := Int.fmod_lt_of_pos (-(([25, 62] ++ xs.map figF).length : Int)) (show (0 : Int) < 4 by decide)
    have h3 := Int.mul_fdiv_add_fmod (-(([25, 62] ++ xs.map figF).length : Int)) 4
    generalize hk : (-(([25, 62] ++ xs.map figF).length : Int)).fmod 4 = k at *
    simp [List.length_flatten] at *
    omega
  · have h := pad_lt ([25, 62] ++ xs.map figF).length
    have h1 := Int.fmod_nonneg_of_pos (-(([25, 62] ++ xs.map figF).length : Int)) (show (0 : Int) < 4 by decide)
    have h2 := Int.fmod_lt_of_pos (-(([25, 62] ++ xs.map figF).length : Int)) (show (0 : Int) < 4 by decide)
    have h3 := Int.mul_fdiv_add_fmod (-(([25, 62] ++ xs.map figF).length : Int)) 4
    generalize hk : (-(([25, 62] ++ xs.map figF).length : Int)).fmod 4 = k at *
    simp [List.length_flatten] at *
    omega
  · intro hm
    rcases List.mem_append.mp hm with hy | hy
    · rcases List.mem_cons.mp hy with q | hy
      · cases q
      · obtain ⟨x, _, e⟩ := List.mem_map.mp hy
        exact (figF_in x).2.2 e
    · obtain ⟨l, hl, hi⟩ := List.mem_flatten.mp hy
      rw [List.eq_of_mem_replicate hl] at hi
      simp at hi
end Mine
end
theorem Mine.zz70 : True := by
  k_with_none
  w_top off
  (have : True ∧ True := by
    (try walk1)
    all_goals (first | exact trivial | exact ⟨trivial, trivial⟩))
  trivial
-- LawRest
section
open PySem PySem.W PyProof.Rows PySem.Calls
set_option Elab.async false
set_option maxRecDepth 100000
set_option maxHeartbeats 8000000
set_option linter.unusedSimpArgs false
set_option linter.unusedVariables false
namespace Mine
theorem law_rest (w : World) (mean : ExcName → Option Value) (mg mb : Str → Option Value) (L fa : Addr) (base h₀ : Heap) (m : Str → Option Value) (s : Shared) (Q : Flow → Shared → Prop) (E : Value → Shared → Prop) (o1 o2 o3 o4 o5 : Obj) (Dd Dn : Addr) (n nn : Nat) (ws vn : List Value) (dr r nu : List Int) (B : Below callerA base [] h₀) (X : (Mine.fk.heap_1 w.params).In h₀) (T : TopM mean mg mb h₀) (l0 : @LT.lt Nat _ 23 L ∧ @LT.lt Nat _ 197 L) (XB : BigIn w.params h₀) (CA : CodeAll [(27, 23), (199, 197)] h₀)
    (F : Fr h₀ L s.heap (fun y => if y = Str.ofString "drawn" then some (.ref Dd) else m y))
    (N : News h₀ L s.heap ((Dd, W.listOf ws.toArray n) :: (Dn, W.listOf vn.toArray nn) :: (L + 1 + 1 + 1 + 1 + 1, o5) :: (L + 1 + 1 + 1 + 1, o4) :: (L + 1 + 1 + 1, o3) :: (L + 1 + 1, o2) :: (L + 1, o1) :: (23, tabObj #[]) :: (197, tabObj #[]) :: []))
    (lN : @LT.lt Nat _ (L + 1 + 1 + 1 + 1 + 1) Dn) (lD : @LT.lt Nat _ Dn Dd) (c1 : o1.data = .cell (some (.ref Dn))) (c2 : o2.data = .cell none) (c3 : o3.data = .cell none) (c4 : o4.data = .cell none) (c5 : o5.data = .cell none) (hi : IntsAre ws dr) (h8 : dr.length ≤ 8) (hj : IntsAre vn nu) (hn : nu.length = 4)
    (er : rowOf dr = 25 :: r) (rf : Fig (25 :: r)) (r4 : (25 :: r).length % 4 = 0) (r8 : (25 :: r).length ≤ 8) (r25 : (25 : Int) ∉ r) (r62 : (62 : Int) ∈ r)
    (hk : ∀ h' tk' m' ps1 ps2, Fr h₀ L h' m' → News h₀ L h' ((23, tabObj ps1) :: (197, tabObj ps2) :: []) → Q (Flow.ret (.bool true)) { s with heap := h', toks := tk' }) :
    wpAny (model PySem.Challenge.rw_oy0177_01.row.prog w) (callerA.deeper (envOfC (Str.ofString "law") (lawFn w.params).scope L fa (Value.ref 199))) (execs (List.drop 2 (match (lawFn w.params).body with | .stmts l => l | _ => [])) (envOfC (Str.ofString "law") (lawFn w.params).scope L fa (Value.ref 199))) Q E s := by
  obtain ⟨cs, p, LF⟩ := law_facts rf r4 r8 r25 r62 hn
  have R62 : (62 : Int) ∈ (25 :: r) := .tail _ r62
  refine law_row w mean mg mb L fa base h₀ m s Q E o1 o2 o3 o4 o5 Dd Dn n nn ws vn dr B X T l0 F N lN lD c1 c2 c3 c4 c5 hi h8 ?_
  intro h1 tk1 Dr wr o2' F1 N1 lR d2 hr
  rw [er] at hr
  refine law_told w mean mg mb L fa base h₀ _ _ Q E o1 o2' o3 o4 o5 Dr Dn _ _ wr vn (25 :: r) nu B X T l0 F1 N1 lN lR c1 d2 c3 c4 c5 hr hj rf r4 r8 R62 (Nat.le_of_eq hn) ?_
  intro h2 tk2 tt F2 N2
  refine law_times w mean mg mb L fa base h₀ _ _ Q E o1 o2' o3 o4 o5 Dr Dn _ _ wr vn (25 :: r) nu B X T l0 F2 N2 lN lR c1 d2 c3 c4 c5 hr hj hn ?_
  intro h3 tk3 Dt nt wt o3' F3 N3 lT d3 hT
  refine law_kinds w mean mg mb L fa base h₀ _ _ Q E o1 o2' o3' o4 o5 Dt Dr Dn _ _ _ wt wr vn (25 :: r) nu B X T l0 F3 N3 lN lR lT c1 d2 d3 c4 c5 hr hj hT hn rf r4 r8 R62 ?_
  intro h4 tk4 Dk nk wk o4' F4 N4 lK d4 k5 kb
  refine law_if w mean mg mb L fa base h₀ _ _ Q E o1 o2' o3' o4' o5 Dk Dt Dr Dn _ _ _ _ wk wt wr vn (25 :: r) nu _ tt B X T l0 F4 N4 lN lR lT lK c1 d2 d3 d4 c5 hr hj hT hn k5 kb rf r4 r8 R62 LF.join LF.jsz ?_
  intro h5 tk5 F5 N5
  refine law_copies w mean mg mb L fa base h₀ _ _ Q E o1 o2' o3' o4' o5 Dk Dt Dr Dn _ _ _ _ wk wt wr vn (25 :: r) nu _ tt B X T l0 F5 N5 lN lR lT lK c1 d2 d3 d4 c5 hr hj hT hn k5 kb rf r4 r8 R62 rfl LF.ssz ?_
  intro h6 tk6 Dc nc l o5' F6 N6 lC d5 el
  refine law_order w mean mg mb L fa base h₀ _ _ Q E o1 o2' o3' o4' o5' Dc Dk Dt Dr Dn _ _ _ _ _ _ wk wt wr vn nu cs _ tt p B X T l0 XB CA F6 N6 lN lR lT lK c1 d2 d3 d4 d5 hT lC (LF.lens l el) LF.len LF.run LF.small ?_
  intro h7 tk7 Do no wo ps1 ps2 F7 N7 hO
  refine law_return w mean mg mb L fa base h₀ _ _ Q E o1 o2' o3' o4' o5' Do Dt _ _ wo wt nu _ tt p ps1 ps2 B X T l0 F7 N7 d3 hT hO LF.eq ?_
  intro h8 tk8 F8 N8
  exact hk _ _ _ _ _ F8 N8
theorem num_of {ws : List Value} {S : List Int} (h : IntsAre ws (List.take 4 (List.take 4 S ++ [2, 2, 2, 2]))) : ∃ nu, nu.length = 4 ∧ IntsAre ws nu := ⟨_, by simp [List.length_take] <;> omega, h⟩
theorem row_of {ws : List Value} {xs : List Int} (h : IntsAre ws ([25, 62] ++ xs.map figF)) (hx : xs.length ≤ 6) : ∃ dr r, IntsAre ws dr ∧ dr.length ≤ 8 ∧ rowOf dr = 25 :: r ∧ Fig (25 :: r) ∧ (25 :: r).length % 4 = 0 ∧ (25 :: r).length ≤ 8 ∧ (25 : Int) ∉ r ∧ (62 : Int) ∈ r := by
  obtain ⟨r, a, b, c, d, e, f⟩ := drawn_row hx
  exact ⟨_, r, h, by simp; omega, a, b, c, d, e, f⟩
theorem news8 {h₀ h : Heap} {L a1 a2 a3 a4 a5 a6 Dd Dn : Addr} {n nn : Nat} {x1 x2 x3 x4 x5 x6 o1 o2 o3 o4 o5 : Obj} {ws vn : List Value}
    (N : News h₀ L h ((Dd, W.listOf ws.toArray n) :: (a1, x1) :: (a2, x2) :: (a3, x3) :: (Dn, W.listOf vn.toArray nn) :: (a4, x4) :: (a5, x5) :: (a6, x6) :: (L + 1 + 1 + 1 + 1 + 1, o5) :: (L + 1 + 1 + 1 + 1, o4) :: (L + 1 + 1 + 1, o3) :: (L + 1 + 1, o2) :: (L + 1, o1) :: (23, tabObj #[]) :: (197, tabObj #[]) :: [])) :
    News h₀ L h ((Dd, W.listOf ws.toArray n) :: (Dn, W.listOf vn.toArray nn) :: (L + 1 + 1 + 1 + 1 + 1, o5) :: (L + 1 + 1 + 1 + 1, o4) :: (L + 1 + 1 + 1, o3) :: (L + 1 + 1, o2) :: (L + 1, o1) :: (23, tabObj #[]) :: (197, tabObj #[]) :: []) := by
  refine news_sub N fun q hq => ?_
  simp only [List.mem_cons, List.not_mem_nil, or_false] at hq ⊢
  rcases hq with h | h | h | h | h | h | h | h | h <;> simp [h]
theorem c_of {o : Obj} {v v' : Option Value} (h : o.data = .cell v) (e : v = v') : o.data = .cell v' := e ▸ h
end Mine
end
theorem Mine.zz71 : True := by
  k_with_none
  w_top off
  (have : True ∧ True := by
    (try walk1)
    all_goals (first | exact trivial | exact ⟨trivial, trivial⟩))
  trivial
-- Top1
section
open PySem PySem.W PyProof.Rows PySem.Calls
set_option Elab.async false
set_option maxRecDepth 100000
set_option maxHeartbeats 8000000
namespace Mine
theorem fk_of_big {P : Params} {h : Heap} (B : (bigK P).In h) : (Mine.fk.heap_1 P).In h := by
  intro a o e
  refine B a o ?_
  have n0 : (Mine.fk.heap_1 P).lookup 0 = none := by kernel_rfl
  have n4 : (Mine.fk.heap_1 P).lookup 4 = none := by kernel_rfl
  rw [big_eq, List.lookup_cons, List.lookup_cons]
  have e0 : (a == (nat_lit 0 : Addr)) = false := by
    rw [beq_eq_false_iff_ne]; intro q; subst q; rw [show (nat_lit 0) = (0 : Addr) from rfl, n0] at e; cases e
  have e4 : (a == (nat_lit 4 : Addr)) = false := by
    rw [beq_eq_false_iff_ne]; intro q; subst q; rw [show (nat_lit 4) = (4 : Addr) from rfl, n4] at e; cases e
  rw [e0, e4]; exact e
theorem lawt : PySem.Challenge.rw_oy0177_01.Holds := hd (by rfl) (by rfl) (by rfl) (by
  (have reg : ∀ (w : World) (h : Heap), (Mine.fk.heap_1 w.params).In h → PySem.Challenge.rw_oy0177_01.row.prog = PySem.Challenge.rw_oy0177_01.row.prog := by (k_fill; intros; rfl))
  clear reg
  intro w s₀ s₁ mg mb G Y fa o pm cd doc dV kV ho hd hcd hD hmg hg args vals as hpre hlay hrd hwl hlo
  have KB : BigIn w.params s₁.heap := ⟨km_in_of Y⟩
  have KX : (Mine.fk.heap_1 w.params).In s₁.heap := fk_of_big KB.is
  km_tabs Y
  have X := (Ground.X G).1
  have V := (Ground.X G).2
  refine Ground.open G ?_
  intro T B D TE TW
  try (refine guard_noD D (by decide +kernel) ?_; clear D)
  km_lay T hmg ho hd cd
  clear hmg
  wrow_args hpre hlay hrd hwl hlo
  all_goals (
    first | refine callC_kw (enter_call ?_) | refine enter_call ?_
    w_top on
    kn_posts
    w_call any ho hd hcd hD T F
    clear hd
    kn_ghosts F T
    k_drop
    skip)
  all_goals try k_fold
  (repeat' ((fail_if_success (with_reducible show wpAny _ _ (eval (Expr.ListComp _ _ _ _) _) _ _ _)); (first | ((with_reducible show wpAny _ _ (subscriptTail (Expr.BinOp _ _ _ _) _ _ _) _ _ _); (k_here; (with_reducible show wpAny _ _ (subscriptTail _ (PySem.Expr.Slice _ _ none _) (Value.ref _) (Value.ref _)) _ _ _); k_dflt (refine' slice_temp (by k_asm) (by k_asm) (by kmk_list) (by kmk_part) (by kmk_part) (by l_ints) (by kmk_nums) ?_ (by with_unfolding_all rfl) (by kmk_size); ); intro D' ws' h' F' N' l1 hI'; (try simp only [Int.reduceNeg, Int.neg_neg, Int.reduceToNat] at hI'); (try k_lt l1); (try k_sweep))) | (k_unfold; (try dsimp only)) | walk1 | (dsimp only; walk1))))
  refine LCg.ListComp_U (F₀ := by k_asm) (by rfl) (by decide) (by rfl) (by decide) (by rfl) ?_
  (repeat' ((fail_if_success (with_reducible show LCg.CompSrc _ _ _ _ _ _ _ _ _ _ _ _ _ _)); (first | (k_unfold; (try dsimp only)) | walk1 | (dsimp only; walk1))))
  refine LCg.CompSrc.ledger (by rfl) (by k_asm) (by k_asm) (by k_mem) (by kmk_size) ?_
  intro g'
  refine comp_ints figF (by assumption) (by lcg_src) ?_ ?_
  · intro n t I oI C oC D ys m₂ h tk E' hmem hC hx F1 N1
    (repeat' ((fail_if_success (with_reducible show wpAny _ _ (call (Value.ref 167) _ _) _ _ _)); (first | (k_unfold; (try dsimp only)) | walk1 | (dsimp only; walk1))))
    (refine' use_spec (figure_spec _ _ _ _ _ _) ?k1 ?k2 ?k3 ?k4 ?k5 ?kK ?kd ?ku ?_; (case k1 => k_asm); (case k2 => k_asm); (case k3 => k_asm); (case k4 => k_asm); (case k5 => k_asm); (case kK => first | exact rfl | assumption); (case kd => ktr_room); (case ku => ktr_units); intro v9 h9 tk9 R9 F9 N9; obtain ⟨t9, hv9⟩ := R9; subst hv9)
    exact ⟨_, _, rfl, by assumption, by assumption, ⟨_, rfl⟩⟩
  · intro ys hI D h tk F1 N1 o1
    (repeat' ((fail_if_success (with_reducible show wpAny _ _ (execs _ _) _ _ _)); (first | (k_unfold; (try dsimp only)) | walk1 | (dsimp only; walk1))))
    rename Fr _ _ _ _ => F8
    rename News _ _ _ _ => N8
    rename IntsAre _ (List.take 4 (_ ++ [2, 2, 2, 2])) => hnu
    rename IntsAre _ ([25, 62] ++ _) => hdr
    dsimp only
    obtain ⟨nu, hn, hj⟩ := num_of hnu
    obtain ⟨dr, r, hi, h8, er, rf, r4, r8, r25, r62⟩ := row_of hdr (by simp only [List.length_take, List.length_drop]; omega)
    have GB : BigIn w.params (ghostOf s₁.heap [(27, 23), (199, 197)]) := ⟨ghost_K hT9 KB.is (by kernel_rfl)⟩
    have N9 := news8 N8
    refine' law_rest w _ _ _ _ _ _ _ _ _ _ _ _ _ _ _ _ _ _ _ _ _ _ _ _ _ ?gB ?gX ?gT ?gl GB (ghost_code hT9) ?gF ?gM ?gN ?gD ?g1 ?g2 ?g3 ?g4 ?g5 hi h8 hj hn er rf r4 r8 r25 r62 ?gk
    case gF => exact F8
    case gM => exact N9
    case gB => assumption
    case gX => assumption
    case gT => assumption
    case gl => assumption
    case gN => omega
    case gD => omega
    case g1 => assumption
    case g2 => (refine c_of (by assumption) ?_; kernel_rfl)
    case g3 => (refine c_of (by assumption) ?_; kernel_rfl)
    case g4 => (refine c_of (by assumption) ?_; kernel_rfl)
    case g5 => (refine c_of (by assumption) ?_; kernel_rfl)
    case gk =>
      intro h9 tk9 m9 ps1 ps2 F9 N9
      dsimp only
      refine ⟨?_, ?_⟩
      · (kc_bool; (refine goodW_bool F9 (by assumption) (raisesW_false ?_) ?_); (· wrow_none_raised); (· kc_post))
      · (walk_at "GrownAll"; done))
end Mine
end
theorem Mine.zz72 : True := by
  k_with_none
  w_top off
  (have : True ∧ True := by
    (try walk1)
    all_goals (first | exact trivial | exact ⟨trivial, trivial⟩))
  trivial
set_option maxRecDepth 100000 in
set_option maxHeartbeats 8000000 in
theorem PySem.Challenge.cw_oy0177_01_holds : PySem.Challenge.rw_oy0177_01.Holds :=
  Mine.lawt
