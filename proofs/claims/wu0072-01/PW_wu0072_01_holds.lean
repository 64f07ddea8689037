import PyProof.Rows.All
import Wide.All
import OpenK.AllK
import Wide.FinOn
import Lean
import PySem.Challenge.RW_wu0072_01
open PySem PySem.W PyProof.Rows
set_option Elab.async false
set_option maxRecDepth 100000
set_option maxHeartbeats 8000000
set_option linter.unusedVariables false
set_option linter.unusedSimpArgs false
set_option linter.all false
namespace Mine
open PySem.Calls
noncomputable def runF (ok : Thread → Bool) (stp : SharedT → Thread → Option (SharedT × Thread)) : Nat → SharedT → Thread → Option SharedT
  | 0, _, _ => none
  | n + 1, s, t => match through t with
    | true => some s
    | false => match ok t with
      | false => none
      | true => match stp s t with
        | some (s', t') => runF ok stp n s' t'
        | none => none
theorem runF_of {tb : String → Option Builtin} {p : Program} {w : World} {n₀ : Nat} {ann : Option Value} : ∀ {n : Nat} {s s' : SharedT} {t : Thread}, runF (stepOk n₀ ann) (stepT (denote tb) p w) n s t = some s' → topRun tb p w n₀ ann n s.abs t = some s'.abs
  | 0, _, _, _, h => by cases h
  | n + 1, s, s', t, h => by
    unfold runF at h
    unfold topRun
    cases he : through t with
    | true => rw [he] at h; cases h; rfl
    | false =>
      rw [he] at h
      cases hk : stepOk n₀ ann t with
      | false => rw [hk] at h; cases h
      | true =>
        rw [hk] at h
        cases hs : stepT (denote tb) p w s t with
        | none => rw [hs] at h; cases h
        | some r => obtain ⟨s₂, t₂⟩ := r; rw [hs] at h; rw [stepT_spec hs]; exact runF_of h
noncomputable def growT : List Obj → Nat → BT → BT
  | [], _, t => t
  | o :: r, n, t => growT r (n + 1) (t.ins n o)
noncomputable def bootS (P : Params) (os : OsState) : SharedT := ⟨growT (boot_heap P).objs.toList 0 .nil, (boot_heap P).objs.size, (boot_heap P).life, Array.mk [], boot_drawn, boot_toks, os⟩
theorem boot_abs : ∀ (P : Params) (os : OsState), (bootS P os).abs = ⟨boot_heap P, Array.mk [], boot_drawn, boot_toks, os⟩ := by intro P os; kernel_rfl
theorem boot_size : ∀ P, ((boot_heap P).isNs mainGlobals, (boot_heap P).objs.size, (boot_heap P).nsMap mainGlobals "__annotations__") = (true, 11, some (Value.ref 6)) := by intro P; kernel_rfl
theorem left_tree {p q : Program} {loose : List Str} {Xt : Shared → Bool} {α : Type} {Yf : Shared → α} {Ya : World → α} {N M m₀ : Nat} {ann : Option Value}
    (e : opening p = plainProg p.main.scope.names) (hN : Nat.ble 600 N = true) (f : ∀ s, fenceModules? p s = some s)
    (size : ∀ P, ((boot_heap P).isNs mainGlobals, (boot_heap P).objs.size, (boot_heap P).nsMap mainGlobals "__annotations__") = (true, m₀, ann))
    (run : ∀ (w : World), (fun os => (runF (Fast.tw6613529449190102663 m₀ ann) (Fast.tw10156331382660048174 (Fast.tw11892475500146522536 Fast.tw14364793385576792824) p w) M (bootS w.params os) (topStub p)).map fun s => ((staticsOk (importedModules p.main.body) (boot_heap w.params) s.abs.heap && namesBound p s.abs.heap && gensDone s.abs && laidKept (boot_heap w.params) s.abs.heap), Fast.tw4187177175401517315 q loose (importedModules p.main.body) Xt true s.abs, Yf s.abs)) = fun _ => some (true, openGood q loose, Ya w))
    (le : Nat.ble M N = true) : LeftO p q loose Xt Yf Ya N := fun w => by
  obtain ⟨⟨h, gs, d, k, os⟩, e, e'⟩ := Option.map_eq_some_iff.mp (boot_open e hN f w)
  obtain ⟨rfl, rfl, rfl, rfl⟩ : h = boot_heap w.params ∧ gs = Array.mk [] ∧ d = boot_drawn ∧ k = boot_toks := by simpa using e'
  obtain ⟨z1, z2, z3⟩ : _ ∧ _ ∧ _ := by simpa only [Prod.mk.injEq] using size w.params
  have run := congrFun (run w) os
  rw [← Fast.te6613529449190102663, ← Fast.te10156331382660048174, ← Fast.te11892475500146522536, ← Fast.te14364793385576792824, ← Fast.te4187177175401517315] at run
  obtain ⟨s1, r0, l⟩ := Option.map_eq_some_iff.mp run
  obtain ⟨l1, l2, l3⟩ : _ ∧ _ ∧ _ := by simpa only [Prod.mk.injEq] using l
  have r1 := runF_of r0
  rw [boot_abs] at r1
  have r := topRun_mono (N - M) _ _ _ _ r1
  rw [show M + (N - M) = N by have := Nat.le_of_ble_eq_true le; omega] at r
  have t : topFrom treeTable p w N ⟨boot_heap w.params, Array.mk [], boot_drawn, boot_toks, os⟩ = some s1.abs := by
    unfold topFrom
    dsimp only
    rw [z1, z2, z3, r]
    show (match staticsOk (importedModules p.main.body) (boot_heap w.params) s1.abs.heap && namesBound p s1.abs.heap && gensDone s1.abs && laidKept (boot_heap w.params) s1.abs.heap with | true => _ | false => _) = _
    rw [l1]
  unfold openEnds
  rw [e]
  show (topFrom treeTable p w N _).map _ = _
  rw [t]
  exact congrArg some (Prod.ext l2 l3)
noncomputable def theView : Program := view PySem.Challenge.pw_wu0072_01 [1, 2, 3, 4, 5, 6, 8, 9, 10, 12, 13, 14, 15, 16, 17, 19, 20, 21, 22, 23, 24]
noncomputable def theLoose : List Str := [Str.ofString "ONE_THIRD", Str.ofString "ONE_SIXTH", Str.ofString "TWO_THIRD"]
noncomputable def theRead : List (Str × WData) := [(Str.ofString "ONE_THIRD", .float 4599676419421066581), (Str.ofString "ONE_SIXTH", .float 4595172819793696085), (Str.ofString "TWO_THIRD", .float 4604180019048437077)]
local macro_rules | `(tactic| o_head $H) => `(tactic| apply holds_open (q := theView) (loose := theLoose) (Xt := fun s => xlAt theView theRead s && recOk (RowW.records PySem.Challenge.rw_wu0072_01.row.toRowW) s) (XP := XL theView theRead) (Yf := Hook.obs $H) (Ya := Hook.val $H) (YP := Hook.says $H) (N := 2000)
  (left_tree (M := 2000) rfl rfl (fun _ => rfl) boot_size (by intro w; kernel_rfl) rfl) (Hook.of $H) (Hook.keeps $H) (fun s e => xl_of s (Bool.and_eq_true_iff.mp e).1) XL.keeps (by rfl) (by rfl) (by rfl) (fun s e => recFacts_of (Bool.and_eq_true_iff.mp e).2) (by rfl) (by first | assumption | decide +kernel) (by decide +kernel) ⟨rfl, rfl, rfl, rfl, rfl, by decide +kernel⟩)
open_top hd for PySem.Challenge.rw_wu0072_01
noncomputable def CallOK (w : World) (A : Around) (f : Value) (args : List Value) (s : Shared) (post : Value → Heap → Prop) : Prop :=
  codeAny (model PySem.Challenge.rw_wu0072_01.row.prog w) A (.call f ⟨args, []⟩) (fun r s' => ∃ v h' tk', r = .ok (.ret v) ∧ s' = { s with heap := h', toks := tk' } ∧ s.heap.StaysIn h' ∧ post v h') s
theorem CallOK.use {w : World} {A : Around} {f : Value} {args : List Value} {s : Shared} {post : Value → Heap → Prop} {Q E : Value → Shared → Prop}
    (h : CallOK w A f args s post) (h0 : 0 < s.toks) (hQ : ∀ v h' tk', s.heap.StaysIn h' → 0 < tk' → post v h' → Q v { s with heap := h', toks := tk' }) :
    wpAny (model PySem.Challenge.rw_wu0072_01.row.prog w) A (PySem.call f args) Q E s := by
  refine wpAny_call (codeAny_with_toks (n := 1) h0 (codeAny_mono h fun r s' hr ht => ?_))
  obtain ⟨v, h', tk', rfl, rfl, hs, hp⟩ := hr
  exact hQ v h' tk' hs ht hp
theorem CallOK.useF {w : World} {A : Around} {f : Value} {args : List Value} {hp : Heap} {gs : Array GenState} {dr : Drawn} {tk : Nat} {os : OsState} {post : Value → Heap → Prop} {Q E : Value → Shared → Prop}
    {h₀ : Heap} {L : Addr} {m : Str → Option Value} {news : List (Addr × Obj)} (F : Fr h₀ L hp m) (N : News h₀ L hp news)
    (h : CallOK w A f args ⟨hp, gs, dr, tk, os⟩ post) (h0 : 0 < tk) (hQ : ∀ v h' tk', Fr h₀ L h' m → News h₀ L h' news → hp.StaysIn h' → 0 < tk' → post v h' → Q v ⟨h', gs, dr, tk', os⟩) :
    wpAny (model PySem.Challenge.rw_wu0072_01.row.prog w) A (PySem.call f args) Q E ⟨hp, gs, dr, tk, os⟩ := by
  refine h.use h0 fun v h' tk' hs ht hp => hQ v h' tk' ⟨?_, fun b o e => hs b o (F.keep b o e), F.above⟩ (fun p hp' => ⟨hs _ _ (N p hp').1, (N p hp').2⟩) hs ht hp
  obtain ⟨oL, es, ep, hL, r⟩ := F.ns
  exact ⟨oL, es, ep, hs _ _ hL, r⟩
theorem gen_toks {M : Model} {A : Around} {α : Type} {t : Sem α} {Q : α → Shared → Prop} {E : Value → Shared → Prop} {hp : Heap} {g : Array GenState} {d : Drawn} {n : Nat} {o : OsState}
    (h : ∀ tk, 0 < tk → wpAny M A t Q E ⟨hp, g, d, tk, o⟩) : wpAny M A t Q E ⟨hp, g, d, n + 1, o⟩ := h _ (Nat.succ_pos _)
noncomputable def EndOK (g : Heap) (s : Shared) (post : Value → Heap → Prop) (fl : Flow) (s' : Shared) : Prop :=
  ∃ h' tk', s' = { s with heap := h', toks := tk' } ∧ g.StaysIn h' ∧ post (match fl with | .ret v => v | _ => .none) h'
theorem enter {w : World} {A : Around} {s : Shared} {ls : List Str} {mg mb : Str → Option Value} {post : Value → Heap → Prop}
    {name qual : Str} {params : Arguments} {body : List Stmt} {scope : Scope} {dV kV doc pm cdv ct oc : Value} {an od : Option Addr} {osl : Array (Option Value)} {f : Addr} {args : List Value} {binds : List (Str × Value)}
    (X : (hd.heap_39 w.params).In s.heap) (T : TopRead theView ls mg mb s.heap)
    (ho : (hd.heap_39 w.params).lookup f = some ⟨oc, od, .func (fnOf name qual params body scope dV kV doc pm an cdv ct), osl⟩) (hcd : codeIn (hd.heap_39 w.params) cdv qual = true)
    (hroom : A.depth < recursionLimit) (h0 : 0 < s.toks)
    (hbind : BindsTo s (fnOf name qual params body scope dV kV doc pm an cdv ct) ⟨args, []⟩ binds) (hloc : ∀ y ∈ binds, scope.names.lookup y.1 = some .local)
    (h : ∀ L' h₁ tk, 0 < tk → Fr s.heap L' h₁ (fun y => binds.reverse.lookup y) → News s.heap L' h₁ [] →
      wpAny (model PySem.Challenge.rw_wu0072_01.row.prog w) (A.deeper (envOf qual scope L' f cdv)) (execs body (envOf qual scope L' f cdv)) (EndOK s.heap s post) (fun _ _ => False)
        { s with heap := h₁, toks := tk })
    (hco : scope.isCoroutine = false) (hgen : scope.isGenerator = false) (hk : scope.kind = .function)
    (hcell : ∀ x ∈ scope.names, x.2 ≠ .cell) : CallOK w A (.ref f) args s post := by
  refine codeAny_call_def (fd := fnOf name qual params body scope dV kV doc pm an cdv ct) (body := body) (binds := binds) hroom (X _ _ ho) rfl T.nolimit (codeRec_of X hcd) rfl hbind hcell hloc (fun h₁ hns hk₁ => ?_) hco hgen hk
  refine wpAny_mono (h _ h₁ _ (Nat.lt_of_lt_of_le h0 (Nat.le_add_right _ _)) ⟨hns, hk₁, Nat.le_refl _⟩ News.nil) (fun fl s' hl => ?_) fun _ _ y => y.elim
  obtain ⟨h', tk', e, st, hp⟩ := hl
  exact ⟨_, h', tk', rfl, e, st, hp⟩
theorem enterB {w : World} {A : Around} {s : Shared} {ls : List Str} {mg mb : Str → Option Value} {R : Result → Shared → Prop} {h₀ : Heap} {news : List (Addr × Obj)}
    {name qual : Str} {params : Arguments} {body : List Stmt} {scope : Scope} {dV kV doc pm cdv ct oc : Value} {an od : Option Addr} {osl : Array (Option Value)} {f : Addr} {args : List Value} {binds : List (Str × Value)}
    (X : (hd.heap_39 w.params).In h₀) (T : TopRead theView ls mg mb h₀) (kp : h₀.StaysIn s.heap) (hsz : h₀.objs.size ≤ s.heap.objs.size) (N : ∀ p ∈ news, s.heap.get? p.1 = some p.2 ∧ h₀.get? p.1 = none)
    (ho : (hd.heap_39 w.params).lookup f = some ⟨oc, od, .func (fnOf name qual params body scope dV kV doc pm an cdv ct), osl⟩) (hcd : codeIn (hd.heap_39 w.params) cdv qual = true)
    (hroom : A.depth < recursionLimit) (h0 : 0 < s.toks)
    (hbind : BindsTo s (fnOf name qual params body scope dV kV doc pm an cdv ct) ⟨args, []⟩ binds) (hloc : ∀ y ∈ binds, scope.names.lookup y.1 = some .local)
    (h : ∀ L' h₁ tk, 0 < tk → Fr h₀ L' h₁ (fun y => binds.reverse.lookup y) → News h₀ L' h₁ news →
      wpAny (model PySem.Challenge.rw_wu0072_01.row.prog w) (A.deeper (envOf qual scope L' f cdv)) (execs body (envOf qual scope L' f cdv)) (fun fl s' => R (.ok (.ret (match fl with | .ret v => v | _ => .none))) s') (fun _ _ => False)
        { s with heap := h₁, toks := tk })
    (hco : scope.isCoroutine = false) (hgen : scope.isGenerator = false) (hk : scope.kind = .function)
    (hcell : ∀ x ∈ scope.names, x.2 ≠ .cell) : codeAny (model PySem.Challenge.rw_wu0072_01.row.prog w) A (.call (.ref f) ⟨args, []⟩) R s := by
  refine codeAny_call_def (fd := fnOf name qual params body scope dV kV doc pm an cdv ct) (body := body) (binds := binds) hroom (X.keeps kp _ _ ho) rfl (T.nolimit.keeps kp) (codeRec_of (X.keeps kp) hcd) rfl hbind hcell hloc (fun h₁ hns hk₁ => ?_) hco hgen hk
  exact wpAny_mono (h _ h₁ _ (Nat.lt_of_lt_of_le h0 (Nat.le_add_right _ _)) ⟨hns, fun b o e => hk₁ b o (kp b o e), hsz⟩ (fun p hp => ⟨hk₁ _ _ (N p hp).1, Nat.ne_of_lt (Heap.lt_size (N p hp).1), (N p hp).2⟩)) (fun _ _ x => x) fun _ _ y => y.elim
theorem enterC {w : World} {A : Around} {s : Shared} {ls : List Str} {mg mb : Str → Option Value} {post : Value → Heap → Prop}
    {name qual : Str} {params : Arguments} {body : List Stmt} {scope : Scope} {dV kV doc pm cdv ct oc : Value} {an od : Option Addr} {osl : Array (Option Value)} {f : Addr} {args : List Value} {binds : List (Str × Value)}
    (X : (hd.heap_39 w.params).In s.heap) (T : TopRead theView ls mg mb s.heap)
    (ho : (hd.heap_39 w.params).lookup f = some ⟨oc, od, .func (fnOf name qual params body scope dV kV doc pm an cdv ct), osl⟩) (hcd : codeIn (hd.heap_39 w.params) cdv qual = true)
    (hroom : A.depth < recursionLimit) (h0 : 0 < s.toks)
    (hbind : BindsTo s (fnOf name qual params body scope dV kV doc pm an cdv ct) ⟨args, []⟩ binds) (hkind : (binds.all fun y => scope.names.lookup y.1 == some .local || scope.names.lookup y.1 == some .cell) = true)
    (hnd : ((cellsFrom 0 scope.names []).map (·.1)).Nodup)
    (h : ∀ L' h₁ tk cells, 0 < tk → Fr s.heap L' h₁ (bindL (envOfC qual scope L' f cdv).kindOf binds fun _ => none) → News s.heap L' h₁ cells →
      CellsAre (bindC (envOfC qual scope L' f cdv).kindOf binds fun _ => none) (cellsFrom (L' + 1) scope.names []) cells →
      wpAny (model PySem.Challenge.rw_wu0072_01.row.prog w) (A.deeper (envOfC qual scope L' f cdv)) (execs body (envOfC qual scope L' f cdv)) (EndOK s.heap s post) (fun _ _ => False)
        { s with heap := h₁, toks := tk })
    (hco : scope.isCoroutine = false) (hgen : scope.isGenerator = false) (hk : scope.kind = .function) : CallOK w A (.ref f) args s post := by
  refine codeAny_call_function (fd := fnOf name qual params body scope dV kV doc pm an cdv ct) hroom (X _ _ ho) rfl hco hgen rfl (codeRec_of X hcd) (hbind _ _ _ _ ?_)
  refine wpAny_with_toks (n := 1) h0 (wpAny_newFunctionEnv_cells hk (kindsX hkind _) fun env' he s' x ht => ?_)
  subst he
  refine ⟨T.nolimit.keeps x.toInCall.keep, codeAny_func ?_⟩
  obtain ⟨h₁, tk, rfl, _⟩ := x.done
  have hk₁ := x.toInCall.keep
  obtain ⟨cells, NC, Y⟩ := Cl.news (h₀ := s.heap) (Nat.le_refl _) fun n c hm => ⟨x.cell n c (lookup_of_mem_nodup (cellsFrom_names scope.names 0 (s.heap.objs.size + 1) [] [] rfl ▸ hnd) hm), x.above n c hm⟩
  refine wpAny_mono (h s.heap.objs.size h₁ tk cells ht ⟨x.toInCall.ns, hk₁, Nat.le_refl _⟩ NC Y) (fun fl s' hl => ?_) fun _ _ y => y.elim
  obtain ⟨h', tk', e, st, hp⟩ := hl
  exact ⟨_, h', tk', rfl, e, st, hp⟩
noncomputable def c13 : UInt64 := 4599676419421066581
noncomputable def c16 : UInt64 := 4595172819793696085
noncomputable def c23 : UInt64 := 4604180019048437077
noncomputable def fI (i : Int) : UInt64 := Float64.ofInt i
noncomputable def fmodd (a b : UInt64) : UInt64 := (Float64.divmod a b).2
noncomputable def flt (a b : UInt64) : Bool := Float64.cmp a b == some .lt
noncomputable def fle (a b : UInt64) : Bool := Float64.cmp a b == some .lt || Float64.cmp a b == some .eq
noncomputable def feq (a b : UInt64) : Bool := Float64.cmp a b == some .eq
noncomputable def fgt (a b : UInt64) : Bool := Float64.cmp a b == some .gt
noncomputable def one : UInt64 := fI 1
noncomputable def half : UInt64 := Float64.half
noncomputable def vF (m1 m2 hue : UInt64) : UInt64 :=
  let hue := fmodd hue one
  if flt hue c16 then Float64.add m1 (Float64.mul (Float64.mul (Float64.sub m2 m1) hue) (fI 6))
  else if flt hue half then m2
  else if flt hue c23 then Float64.add m1 (Float64.mul (Float64.mul (Float64.sub m2 m1) (Float64.sub c23 hue)) (fI 6))
  else m1
noncomputable def rgb (h l s : UInt64) : UInt64 × UInt64 × UInt64 :=
  let m2 := if fle l half then Float64.mul l (Float64.add one s) else Float64.sub (Float64.add l s) (Float64.mul l s)
  let m1 := Float64.sub (Float64.mul (fI 2) l) m2
  (vF m1 m2 (Float64.add h c13), vF m1 m2 h, vF m1 m2 (Float64.sub h c13))
noncomputable def max3 (a b c : UInt64) : UInt64 := if fgt b a then (if fgt c b then c else b) else (if fgt c a then c else a)
noncomputable def min3 (a b c : UInt64) : UInt64 := if flt b a then (if flt c b then c else b) else (if flt c a then c else a)
noncomputable def hls (r g b : UInt64) : UInt64 × UInt64 × UInt64 :=
  let maxc := max3 r g b
  let minc := min3 r g b
  let sumc := Float64.add maxc minc
  let rangec := Float64.sub maxc minc
  let l := Float64.div sumc (fI 2)
  let s := if fle l half then Float64.div rangec sumc else Float64.div rangec (Float64.sub (Float64.sub (fI 2) maxc) minc)
  let rc := Float64.div (Float64.sub maxc r) rangec
  let gc := Float64.div (Float64.sub maxc g) rangec
  let bc := Float64.div (Float64.sub maxc b) rangec
  let h := if feq r maxc then Float64.sub bc gc else if feq g maxc then Float64.sub (Float64.add (fI 2) rc) bc else Float64.sub (Float64.add (fI 4) gc) rc
  (fmodd (Float64.div h (fI 6)) one, l, s)
noncomputable def toldF (rank len kin : Nat) : UInt64 × UInt64 × UInt64 :=
  let c := rgb (Float64.div (fI rank) (fI 65536)) (Float64.div (fI (len + 8)) (fI 16)) (Float64.div (fI kin) (fI 16))
  hls c.1 c.2.1 c.2.2
noncomputable def back (x : UInt64) : Option Int := match Float64.decode x with
  | .fin neg m e => some (Float64.nearestOf neg m (e + 16))
  | _ => none
noncomputable def rnd (x : UInt64) : Option Int := match Float64.decode (Float64.mul (fI 16) x) with
  | .fin neg m e => some (Float64.nearestOf neg m e)
  | _ => none
noncomputable def okAt (rank len kin : Nat) : Bool :=
  let t := toldF rank len kin
  back t.1 == some (rank : Int) && rnd t.2.1 == some ((len : Int) + 8) && rnd t.2.2 == some (kin : Int)
noncomputable def ranks : Nat → List Nat
  | 0 => [0]
  | n + 1 => (ranks n).flatMap fun r => [4 * r, 4 * r + 2, 4 * r + 3]
noncomputable def rankOf (len code : Nat) : Nat := (4 * code + 1) * 4 ^ (7 - len)
noncomputable def allAt (len kin : Nat) : Bool := (ranks len).all fun c => okAt (rankOf len c) len kin
theorem fill0 (w : World) (h : Heap) : PySem.Challenge.rw_wu0072_01 = PySem.Challenge.rw_wu0072_01 → (hd.heap_39 w.params).In h → True := by
  k_fill
  intro _ _; trivial
local macro_rules | `(tactic| walk_at "m_entered") => `(tactic| (
  refine' enter ?k1 ?k2 ?k6 ?k7 ?k8 ?kz ?k9 ?kB ?_ ?c2 ?c3 ?c4 ?c5
  (case k1 => assumption); (case k2 => assumption); (case k6 => k_is); (case k7 => k_is); (case k8 => omega); (case kz => assumption); (case k9 => exact BindsTo.of_eq rfl); (case kB => exact locs rfl); (case c2 => rfl); (case c3 => rfl); (case c4 => rfl); (case c5 => decide)))
local macro_rules | `(tactic| walk_at "m_top") => `(tactic| first | assumption | exact TopRead.keeps (by assumption) (Fr.keep (by assumption)))
local macro_rules | `(tactic| walk_at "m_room") => `(tactic| first | omega | (simp only [depth_deeper, depth_in1, units_deeper, units_in1] at *; omega))
local macro_rules | `(tactic| walk_at "m_calm") => `(tactic| first | assumption | (show Around.handled _ = _; assumption))
local macro_rules | `(tactic| walk_at "m_pos") => `(tactic| first | assumption | omega | ((try dsimp only); omega))
section
variable {prog : Program} {w : World} {A : Around} {E : Value → Shared → Prop} {s : Shared} {a b : UInt64} {t u : Tok} {Q : Value → Shared → Prop}
theorem f_mod (hz : Float64.isZero b = false) (h : Q (.float (fmodd a b) s.toks) { s with toks := s.toks + 1 }) : wpAny (model prog w) A (binaryOp .Mod (.float a t) (.float b u)) Q E s :=
  AutoFloatOps.mod_1 (by rw [hz]; decide) h
theorem f_div (hz : Float64.isZero b = false) (h : Q (.float (Float64.div a b) s.toks) { s with toks := s.toks + 1 }) : wpAny (model prog w) A (binaryOp .Div (.float a t) (.float b u)) Q E s :=
  AutoFloatOps.truediv_1 (by rw [hz]; decide) h
theorem f_lt (h : Q (.bool (flt a b)) s) : wpAny (model prog w) A (compareOp .Lt (.float a t) (.float b u)) Q E s := AutoFloatOps.lt_0 h
theorem f_le (h : Q (.bool (fle a b)) s) : wpAny (model prog w) A (compareOp .LtE (.float a t) (.float b u)) Q E s := AutoFloatOps.le_0 h
theorem f_eq (h : Q (.bool (feq a b)) s) : wpAny (model prog w) A (compareOp .Eq (.float a t) (.float b u)) Q E s := AutoFloatOps.eq_0 h
end
local macro_rules | `(tactic| walk_at "binaryOp Mod float float") => `(tactic| (refine f_mod ?hz ?_; (case hz => first | assumption | decide +kernel)))
local macro_rules | `(tactic| walk_at "binaryOp Div float float") => `(tactic| (refine f_div ?hz ?_; (case hz => first | assumption | decide +kernel)))
local macro_rules | `(tactic| walk_at "compareOp Lt float float") => `(tactic| (refine f_lt ?_))
local macro_rules | `(tactic| walk_at "compareOp LtE float float") => `(tactic| (refine f_le ?_))
local macro_rules | `(tactic| walk_at "compareOp Eq float float") => `(tactic| (refine f_eq ?_))
theorem isF {x y : UInt64} {t : Tok} (h : x = y) : ∃ t', Value.float x t = .float y t' := ⟨t, by rw [h]⟩
theorem one_is : one = 4607182418800017408 := by decide +kernel
theorem half_is : half = 4602678819172646912 := by decide +kernel
theorem two_is : fI 2 = 4611686018427387904 := by decide +kernel
theorem four_is : fI 4 = 4616189618054758400 := by decide +kernel
theorem six_is : fI 6 = 4618441417868443648 := by decide +kernel
theorem v_spec {w : World} {A : Around} {s : Shared} {ls : List Str} {mg mb : Str → Option Value} {a b c : UInt64} {ta tb tc : Tok}
   (X : (hd.heap_39 w.params).In s.heap) (T : TopRead theView ls mg mb s.heap) (hr : A.depth + 1 < recursionLimit) (hh : A.handled = none) (h0 : 0 < s.toks) :
   CallOK w A (.ref 35) [.float a ta, .float b tb, .float c tc] s (fun v _ => ∃ t, v = .float (vF a b c) t) := by
  walk_at "m_entered"
  intro L' h₁ tk ht F N
  replace F : Fr s.heap L' h₁ (fun y => List.lookup y [(Str.ofString "hue", .float c tc), (Str.ofString "m2", .float b tb), (Str.ofString "m1", .float a ta)]) := F
  try dsimp only
  k_steps
  all_goals (refine ⟨_, _, rfl, Fr.keep (by assumption), isF ?_⟩; simp_all only [vF, one_is, half_is, six_is, c16, c23, if_true, if_false, Bool.false_eq_true])
local macro_rules | `(tactic| walk_at "call ref") => `(tactic| (
  (with_reducible show wpAny _ _ (PySem.call (Value.ref 35) [Value.float _ _, Value.float _ _, Value.float _ _] _) _ _ _)
  refine' CallOK.useF ?F ?N (v_spec ?X ?T ?r ?h ?z) ?z2 ?_
  (case F => k_asm); (case N => k_asm); (case X => k_in); (case T => walk_at "m_top"); (case r => walk_at "m_room"); (case h => walk_at "m_calm"); (case z => walk_at "m_pos"); (case z2 => walk_at "m_pos")
  intro v h' tk' F' N' S' t0 hp
  obtain ⟨t, e9⟩ := hp
  subst e9
  clear S'
  (try k_sweep)))
noncomputable def rgbF (h l s : UInt64) : UInt64 × UInt64 × UInt64 := if feq s 0 then (l, l, l) else rgb h l s
theorem newsTup {h₀ h : Heap} {L D : Addr} {o : Obj} {r : List (Addr × Obj)} {items : Array Value} {n : Nat} (N : News h₀ L h ((D, o) :: r)) (hc : o.cls = .type "tuple") (hd : o.data = .seq items n) : IsTup h D items :=
  ⟨o, (N _ (List.mem_cons_self ..)).1, hc, n, hd⟩
theorem tup3 {h : Heap} {p : Addr} {x1 x2 x3 y1 y2 y3 : UInt64} {t1 t2 t3 : Tok} (I : IsTup h p #[.float y1 t1, .float y2 t2, .float y3 t3]) (e1 : y1 = x1) (e2 : y2 = x2) (e3 : y3 = x3) :
    ∃ p' t1 t2 t3, Value.ref p = .ref p' ∧ IsTup h p' #[.float x1 t1, .float x2 t2, .float x3 t3] := by
  subst e1 e2 e3
  exact ⟨_, _, _, _, rfl, I⟩
theorem hls_to_rgb_spec {w : World} {A : Around} {s : Shared} {ls : List Str} {mg mb : Str → Option Value} {a b c : UInt64} {ta tb tc : Tok}
   (X : (hd.heap_39 w.params).In s.heap) (T : TopRead theView ls mg mb s.heap) (hr : A.depth + 2 < recursionLimit) (hh : A.handled = none) (h0 : 0 < s.toks) :
   CallOK w A (.ref 28) [.float a ta, .float b tb, .float c tc] s (fun v h => ∃ p t1 t2 t3, v = .ref p ∧ IsTup h p #[.float (rgbF a b c).1 t1, .float (rgbF a b c).2.1 t2, .float (rgbF a b c).2.2 t3]) := by
  walk_at "m_entered"
  intro L' h₁ tk ht F N
  replace F : Fr s.heap L' h₁ (fun y => List.lookup y [(Str.ofString "s", .float c tc), (Str.ofString "l", .float b tb), (Str.ofString "h", .float a ta)]) := F
  try dsimp only
  k_steps
  all_goals (refine ⟨_, _, rfl, Fr.keep (by assumption), tup3 (newsTup (by assumption) rfl rfl) ?_ ?_ ?_⟩ <;> simp_all only [rgbF, rgb, one_is, two_is, half_is, six_is, c13, c16, c23, if_true, if_false, Bool.false_eq_true])
theorem cmpOf_gt {prog : Program} {w : World} {A : Around} {P : Nat → Value → Prop} (val : Nat → UInt64) (hval : ∀ i v, P i v → ∃ t, v = .float (val i) t) :
    CmpOf prog w A .Gt P (fun i j => fgt (val i) (val j)) := fun i j vi vj s Q E hi hj h => by
  obtain ⟨t, rfl⟩ := hval i vi hi
  obtain ⟨u, rfl⟩ := hval j vj hj
  exact AutoFloatOps.gt_0 h
theorem cmpOf_lt {prog : Program} {w : World} {A : Around} {P : Nat → Value → Prop} (val : Nat → UInt64) (hval : ∀ i v, P i v → ∃ t, v = .float (val i) t) :
    CmpOf prog w A .Lt P (fun i j => flt (val i) (val j)) := fun i j vi vj s Q E hi hj h => by
  obtain ⟨t, rfl⟩ := hval i vi hi
  obtain ⟨u, rfl⟩ := hval j vj hj
  exact AutoFloatOps.lt_0 h
noncomputable def f3 (a b c : UInt64) : Nat → UInt64
  | 0 => a
  | 1 => b
  | _ => c
theorem f3_at {a b c : UInt64} {t u x : Tok} (i : Nat) (v : Value) (h : (#[Value.float a t, .float b u, .float c x] : Array Value)[i]? = some v) : ∃ t, v = .float (f3 a b c i) t := by
  match i with
  | 0 => exact ⟨t, (by simpa [f3] using h.symm)⟩
  | 1 => exact ⟨u, (by simpa [f3] using h.symm)⟩
  | 2 => exact ⟨x, (by simpa [f3] using h.symm)⟩
  | i + 3 => simp at h
section
variable {prog : Program} {w : World} {A : Around} {E : Value → Shared → Prop} {s : Shared}
theorem max_three_f {a b c : UInt64} {t u x : Tok} {Q : Value → Shared → Prop} (hh : A.handled = none)
    (h : ∀ y h' tk, s.heap.StaysIn h' → Q (.float (max3 a b c) y) { s with heap := h', toks := tk }) :
    wpAny (model prog w) A (call (.builtin "max") [.float a t, .float b u, .float c x]) Q E s := by
  have hT : (s.heap.push { cls := .type "tuple", data := .seq #[.float a t, .float b u, .float c x] }).IsTuple s.heap.objs.size #[.float a t, .float b u, .float c x] := ⟨_, Heap.get?_push_size _ rfl, rfl, 0, rfl⟩
  refine call_max_three (wpAny_pyIter_tuple hT ?_)
  have hsz : (s.heap.push { cls := .type "tuple", data := .seq #[.float a t, .float b u, .float c x] }).objs.size = s.heap.objs.size + 1 := Heap.size_push ..
  refine ⟨_, [_, s.heap.objs.size], [_], _, _, _, _, rfl, Walks.tuple (A := A.in1) hh _ s.heap.objs.size (by rw [hsz]; exact Nat.ne_of_lt (Nat.lt_succ_self _)) #[.float a t, .float b u, .float c x],
    ⟨⟨_, Heap.get?_push_size _ rfl, rfl, rfl⟩, hT.push _⟩, fun d hd => ?_, by simp, cmpOf_gt (f3 a b c) (fun i v hv => f3_at i v hv), fun v h' tk hP hk => ?_⟩
  · show d < ((s.heap.push _).push _).objs.size
    rw [Heap.size_push, hsz]
    rcases List.mem_cons.mp hd with rfl | hd
    · rw [hsz]; exact Nat.lt_succ_self _
    · rcases List.mem_cons.mp hd with rfl | hd
      · exact Nat.lt_succ_of_lt (Nat.lt_succ_self _)
      · cases hd
  · have hold : s.heap.StaysIn h' := fun d o e => by
      refine hk d o (fun hm => ?_) (Heap.get?_push_of_some _ (Heap.get?_push_of_some _ e))
      rcases List.mem_cons.mp hm with e1 | hm
      · have := Heap.lt_size e; rw [e1, hsz] at this; exact Nat.lt_irrefl _ (Nat.lt_of_succ_lt this)
      · cases hm
    have hv : ∃ y, v = .float (max3 a b c) y := by
      obtain ⟨y, rfl⟩ := f3_at _ _ hP
      refine ⟨y, congrArg (fun z => Value.float z y) ?_⟩
      show f3 a b c (argBest (fun i j => fgt (f3 a b c i) (f3 a b c j)) 2) = _
      simp only [argBest, max3]
      cases h1 : fgt b a <;> cases h2 : fgt c b <;> cases h3 : fgt c a <;> simp [f3, h1, h2, h3]
    obtain ⟨y, rfl⟩ := hv
    exact h y h' tk hold
theorem min_three_f {a b c : UInt64} {t u x : Tok} {Q : Value → Shared → Prop} (hh : A.handled = none)
    (h : ∀ y h' tk, s.heap.StaysIn h' → Q (.float (min3 a b c) y) { s with heap := h', toks := tk }) :
    wpAny (model prog w) A (call (.builtin "min") [.float a t, .float b u, .float c x]) Q E s := by
  have hT : (s.heap.push { cls := .type "tuple", data := .seq #[.float a t, .float b u, .float c x] }).IsTuple s.heap.objs.size #[.float a t, .float b u, .float c x] := ⟨_, Heap.get?_push_size _ rfl, rfl, 0, rfl⟩
  refine call_min_three (wpAny_pyIter_tuple hT ?_)
  have hsz : (s.heap.push { cls := .type "tuple", data := .seq #[.float a t, .float b u, .float c x] }).objs.size = s.heap.objs.size + 1 := Heap.size_push ..
  refine ⟨_, [_, s.heap.objs.size], [_], _, _, _, _, rfl, Walks.tuple (A := A.in1) hh _ s.heap.objs.size (by rw [hsz]; exact Nat.ne_of_lt (Nat.lt_succ_self _)) #[.float a t, .float b u, .float c x],
    ⟨⟨_, Heap.get?_push_size _ rfl, rfl, rfl⟩, hT.push _⟩, fun d hd => ?_, by simp, cmpOf_lt (f3 a b c) (fun i v hv => f3_at i v hv), fun v h' tk hP hk => ?_⟩
  · show d < ((s.heap.push _).push _).objs.size
    rw [Heap.size_push, hsz]
    rcases List.mem_cons.mp hd with rfl | hd
    · rw [hsz]; exact Nat.lt_succ_self _
    · rcases List.mem_cons.mp hd with rfl | hd
      · exact Nat.lt_succ_of_lt (Nat.lt_succ_self _)
      · cases hd
  · have hold : s.heap.StaysIn h' := fun d o e => by
      refine hk d o (fun hm => ?_) (Heap.get?_push_of_some _ (Heap.get?_push_of_some _ e))
      rcases List.mem_cons.mp hm with e1 | hm
      · have := Heap.lt_size e; rw [e1, hsz] at this; exact Nat.lt_irrefl _ (Nat.lt_of_succ_lt this)
      · cases hm
    have hv : ∃ y, v = .float (min3 a b c) y := by
      obtain ⟨y, rfl⟩ := f3_at _ _ hP
      refine ⟨y, congrArg (fun z => Value.float z y) ?_⟩
      show f3 a b c (argBest (fun i j => flt (f3 a b c i) (f3 a b c j)) 2) = _
      simp only [argBest, min3]
      cases h1 : flt b a <;> cases h2 : flt c b <;> cases h3 : flt c a <;> simp [f3, h1, h2, h3]
    obtain ⟨y, rfl⟩ := hv
    exact h y h' tk hold
end
theorem stays_fr {h₀ h h' : Heap} {L : Addr} {m : Str → Option Value} (F : Fr h₀ L h m) (hs : h.StaysIn h') : Fr h₀ L h' m := by
  refine ⟨?_, fun b o e => hs b o (F.keep b o e), F.above⟩
  obtain ⟨oL, es, ep, hL, r⟩ := F.ns
  exact ⟨oL, es, ep, hs _ _ hL, r⟩
theorem stays_news {h₀ h h' : Heap} {L : Addr} {news : List (Addr × Obj)} (N : News h₀ L h news) (hs : h.StaysIn h') : News h₀ L h' news :=
  fun p hp => ⟨hs _ _ (N p hp).1, (N p hp).2⟩
local macro_rules | `(tactic| walk_at "call builtin:max") => `(tactic| ((with_reducible show wpAny _ _ (PySem.call _ [Value.float _ _, Value.float _ _, Value.float _ _] _) _ _ _); refine' max_three_f ?h ?_; (case h => walk_at "m_calm"); intro y h' tk' S'; (with_reducible rename Fr _ _ _ _ => kF); (with_reducible rename News _ _ _ _ => kN); (have F' := stays_fr kF S'); (have N' := stays_news kN S'); clear S'; (try k_sweep)))
local macro_rules | `(tactic| walk_at "call builtin:min") => `(tactic| ((with_reducible show wpAny _ _ (PySem.call _ [Value.float _ _, Value.float _ _, Value.float _ _] _) _ _ _); refine' min_three_f ?h ?_; (case h => walk_at "m_calm"); intro y h' tk' S'; (with_reducible rename Fr _ _ _ _ => kF); (with_reducible rename News _ _ _ _ => kN); (have F' := stays_fr kF S'); (have N' := stays_news kN S'); clear S'; (try k_sweep)))
theorem rgb_to_hls_spec {w : World} {A : Around} {s : Shared} {ls : List Str} {mg mb : Str → Option Value} {a b c : UInt64} {ta tb tc : Tok}
   (X : (hd.heap_39 w.params).In s.heap) (T : TopRead theView ls mg mb s.heap) (hr : A.depth + 1 < recursionLimit) (hh : A.handled = none) (h0 : 0 < s.toks)
   (hne : feq (min3 a b c) (max3 a b c) = false)
   (h1 : Float64.isZero (Float64.add (max3 a b c) (min3 a b c)) = false)
   (h2 : Float64.isZero (Float64.sub (Float64.sub 4611686018427387904 (max3 a b c)) (min3 a b c)) = false)
   (h3 : Float64.isZero (Float64.sub (max3 a b c) (min3 a b c)) = false) :
   CallOK w A (.ref 21) [.float a ta, .float b tb, .float c tc] s (fun v h => ∃ p t1 t2 t3, v = .ref p ∧ IsTup h p #[.float (hls a b c).1 t1, .float (hls a b c).2.1 t2, .float (hls a b c).2.2 t3]) := by
  walk_at "m_entered"
  intro L' h₁ tk ht F N
  replace F : Fr s.heap L' h₁ (fun y => List.lookup y [(Str.ofString "b", .float c tc), (Str.ofString "g", .float b tb), (Str.ofString "r", .float a ta)]) := F
  try dsimp only
  k_steps
  all_goals (refine ⟨_, _, rfl, Fr.keep (by assumption), tup3 (newsTup (by assumption) rfl rfl) ?_ ?_ ?_⟩ <;> simp only [hls, one_is, two_is, four_is, half_is, six_is, if_true, if_false, Bool.false_eq_true, *])
noncomputable def rep (c : Nat) (z l : List Nat) : List Nat := l.flatMap fun d => if d = c then z else [d]
theorem rep_nil (c : Nat) (z : List Nat) : rep c z [] = [] := rfl
theorem rep_cons (c : Nat) (z : List Nat) (d : Nat) (l : List Nat) : rep c z (d :: l) = (if d = c then z else [d]) ++ rep c z l := rfl
theorem rep_append (c : Nat) (z a b : List Nat) : rep c z (a ++ b) = rep c z a ++ rep c z b := by simp [rep]
theorem rep_free (c : Nat) (z : List Nat) : ∀ l : List Nat, c ∉ l → rep c z l = l
  | [], _ => rfl
  | k :: r, h => by
    have h1 : ¬ k = c := fun e => h (e ▸ List.mem_cons_self ..)
    rw [rep_cons, if_neg h1, rep_free c z r fun m => h (List.mem_cons_of_mem _ m)]; rfl
theorem rep_join (c : Nat) (z : Str) : ∀ parts : List Str, (∀ p ∈ parts, c ∉ p.cps.toList) → rep c z.cps.toList (Str.join ⟨#[c]⟩ parts).cps.toList = (Str.join z parts).cps.toList
  | [], _ => rfl
  | [p], h => rep_free c _ _ (h p (List.mem_singleton.mpr rfl))
  | p :: q :: r, h => by
    have ih := rep_join c z (q :: r) fun a ha => h a (List.mem_cons_of_mem _ ha)
    show rep c z.cps.toList (p ++ ⟨#[c]⟩ ++ Str.join ⟨#[c]⟩ (q :: r)).cps.toList = (p ++ z ++ Str.join z (q :: r)).cps.toList
    simp only [Str.cps_append, Array.toList_append]
    rw [rep_append, rep_append, ih, rep_free c _ _ (h p (List.mem_cons_self ..))]
    simp [rep]
theorem replace_rep (x z : Str) (c : Nat) : (Txt.replace x ⟨#[c]⟩ z).cps.toList = rep c z.cps.toList x.cps.toList := by
  rw [StrLaws.replace_one, ← rep_join c z _ (StrLaws.split_free x c), StrLaws.join_split]
theorem rep_length_le (c : Nat) (z : List Nat) {n : Nat} (hz : z.length ≤ n) (hn : 1 ≤ n) : ∀ l : List Nat, (rep c z l).length ≤ n * l.length
  | [] => by simp [rep]
  | k :: r => by
    rw [rep_cons, List.length_append, List.length_cons, Nat.mul_succ]
    have := rep_length_le c z hz hn r
    split <;> simp <;> lia
section
variable {prog : Program} {w : World} {A : Around} {E : Value → Shared → Prop} {s : Shared} {x a b : Str} {t u v : Tok} {c : Nat} {Q : Value → Shared → Prop}
theorem s_in (ha : a = ⟨#[c]⟩) (h1 : c ∈ x.cps.toList → Q (.bool true) s) (h2 : c ∉ x.cps.toList → Q (.bool false) s) : wpAny (model prog w) A (compareOp .In (.str a u) (.str x t)) Q E s := by
  subst ha
  refine PyProof.Rows.in_str ?_
  rw [StrLaws.found_one]
  by_cases h : c ∈ x.cps.toList
  · rw [decide_eq_true h]; exact h1 h
  · rw [decide_eq_false h]; exact h2 h
theorem len_is (x : Str) : x.length = x.cps.toList.length := by simp [Str.length]
theorem s_replace {n : Nat} {u : Nat} (hu : 0 < u) (h0 : 0 < s.toks) (ha : a = ⟨#[c]⟩) (hab : (a == b) = false) (hx : x.cps.toList.length ≤ n) (hn : n ≤ 1000000) (hb : b.cps.toList.length ≤ 6)
    (h : ∀ y t' k, 0 < k → y.cps.toList = rep c b.cps.toList x.cps.toList → y.cps.toList.length ≤ 6 * n → Q (.str y t') { s with toks := k }) :
    wpAny (model prog w) A (call (.builtin "str.replace") [.str x t, .str a u, .str b (u + 1)]) Q E s := by
  refine wpAny_with_toks (n := 1) h0 (SC.replaceW (Nat.ne_of_gt hu) (Nat.succ_ne_zero u) (Nat.ne_of_lt (Nat.lt_succ_self u)) hab (by rw [len_is]; lia) (by rw [len_is]; lia) fun t' k hk => ?_)
  subst ha
  refine h _ t' k hk (replace_rep x b c) ?_
  rw [replace_rep]
  exact Nat.le_trans (rep_length_le c _ hb (by decide) _) (Nat.mul_le_mul_left 6 hx)
theorem s_add (h0 : 0 < s.toks) (hsz : x.cps.toList.length + a.cps.toList.length ≤ 16777216) (h : ∀ t' k, 0 < k → Q (.str (x ++ a) t') { s with toks := k }) :
    wpAny (model prog w) A (binaryOp .Add (.str x t) (.str a u)) Q E s := by
  refine wpAny_with_toks (n := 1) h0 (add_str (fun t' k hk => h t' k hk) ?_)
  rw [sizeLine_eq, len_is, len_is]; exact hsz
end
local macro_rules | `(tactic| walk_at "execs cons") => `(tactic| ((with_reducible show wpAny _ _ _ _ _ (Shared.mk _ _ _ (_ + 1) _)); refine' gen_toks ?_; intro tk' htk'))
local macro_rules | `(tactic| walk_at "execs nil") => `(tactic| ((with_reducible show wpAny _ _ _ _ _ (Shared.mk _ _ _ (_ + 1) _)); refine' gen_toks ?_; intro tk' htk'))
theorem ch_amp : Str.ofString "&" = ⟨#[38]⟩ := by decide +kernel
theorem ch_lt : Str.ofString "<" = ⟨#[60]⟩ := by decide +kernel
theorem ch_gt : Str.ofString ">" = ⟨#[62]⟩ := by decide +kernel
theorem ch_qu : Str.ofString "\"" = ⟨#[34]⟩ := by decide +kernel
theorem ch_r : Str.ofString "\r" = ⟨#[13]⟩ := by decide +kernel
theorem ch_n : Str.ofString "\n" = ⟨#[10]⟩ := by decide +kernel
theorem ch_t : Str.ofString "\t" = ⟨#[9]⟩ := by decide +kernel
theorem sc_lt : (Str.ofString "&lt;").cps.toList = [38, 108, 116, 59] := by decide +kernel
theorem sc_gt : (Str.ofString "&gt;").cps.toList = [38, 103, 116, 59] := by decide +kernel
theorem sc_qu : (Str.ofString "&quot;").cps.toList = [38, 113, 117, 111, 116, 59] := by decide +kernel
noncomputable def Over (cs : List Nat) (l : List Nat) : Prop := ∀ d ∈ l, d ∈ cs
theorem Over.no {cs l : List Nat} {c : Nat} (h : Over cs l) (hc : c ∉ cs) : c ∉ l := fun m => hc (h c m)
theorem Over.rep {cs l z y : List Nat} {c : Nat} (h : Over cs l) (e : y = rep c z l) : Over (z ++ cs) y := by
  subst e
  intro d hd
  simp only [Mine.rep, List.mem_flatMap] at hd
  obtain ⟨a, ha, hd⟩ := hd
  split at hd
  · exact List.mem_append_left _ hd
  · rw [List.mem_singleton] at hd; subst hd; exact List.mem_append_right _ (h d ha)
local macro_rules | `(tactic| walk_at "m_char") => `(tactic| first | exact ch_amp | exact ch_lt | exact ch_gt | exact ch_qu | exact ch_r | exact ch_n | exact ch_t)
local macro_rules | `(tactic| walk_at "compareOp In str str") => `(tactic| (k_dflt ((refine' s_in ?ha ?_ ?_); (case ha => walk_at "m_char"); all_goals intro hin)))
local macro_rules | `(tactic| walk_at "compareOp In str str") => `(tactic| (k_dflt ((refine' s_in ?ha (fun hin => absurd hin ?hn) (fun _ => ?_)); (case ha => walk_at "m_char"); (case hn => exact Over.no (by assumption) (by decide)))))
local macro_rules | `(tactic| walk_at "call builtin:str.replace") => `(tactic| (
  k_dflt (
  (refine' s_replace ?hu ?h0 ?ha ?hab ?hx ?hn ?hb ?_)
  (case hu => walk_at "m_pos"); (case h0 => walk_at "m_pos"); (case ha => walk_at "m_char"); (case hab => decide +kernel); (case hx => assumption); (case hn => decide); (case hb => decide +kernel)
  intro y9 t9 k9 hk9 hy9 hl9
  have ho9 := Over.rep (by assumption) hy9)))
theorem esc_cdata {w : World} {A : Around} {s : Shared} {ls : List Str} {mg mb : Str → Option Value} {x : Str} {tx : Tok}
   (X : (hd.heap_39 w.params).In s.heap) (T : TopRead theView ls mg mb s.heap) (hr : A.depth + 1 < recursionLimit) (hh : A.handled = none) (h0 : 0 < s.toks) (hx : x.cps.toList.length ≤ 100) (hO : Over [34, 60, 62] x.cps.toList) :
   CallOK w A (.ref 173) [.str x tx] s (fun v h => ∃ y t, v = .str y t ∧ y.cps.toList = rep 62 [38, 103, 116, 59] (rep 60 [38, 108, 116, 59] x.cps.toList)) := by
  walk_at "m_entered"
  intro L' h₁ tk ht F N
  replace F : Fr s.heap L' h₁ (fun y => List.lookup y [(Str.ofString "text", .str x tx)]) := F
  try dsimp only
  k_steps
  all_goals (try dsimp only)
  all_goals (refine ⟨_, _, rfl, Fr.keep (by assumption), _, _, rfl, ?_⟩)
  all_goals simp_all only [rep_free, sc_lt, sc_gt, sc_qu, not_false_eq_true]
theorem esc_attrib {w : World} {A : Around} {s : Shared} {ls : List Str} {mg mb : Str → Option Value} {x : Str} {tx : Tok}
   (X : (hd.heap_39 w.params).In s.heap) (T : TopRead theView ls mg mb s.heap) (hr : A.depth + 1 < recursionLimit) (hh : A.handled = none) (h0 : 0 < s.toks) (hx : x.cps.toList.length ≤ 100) (hO : Over [34, 60, 62] x.cps.toList) :
   CallOK w A (.ref 159) [.str x tx] s (fun v h => ∃ y t, v = .str y t ∧ y.cps.toList = rep 34 [38, 113, 117, 111, 116, 59] (rep 62 [38, 103, 116, 59] (rep 60 [38, 108, 116, 59] x.cps.toList))) := by
  walk_at "m_entered"
  intro L' h₁ tk ht F N
  replace F : Fr s.heap L' h₁ (fun y => List.lookup y [(Str.ofString "text", .str x tx)]) := F
  try dsimp only
  k_steps
  all_goals (try dsimp only)
  all_goals (refine ⟨_, _, rfl, Fr.keep (by assumption), _, _, rfl, ?_⟩)
  all_goals simp_all only [rep_free, sc_lt, sc_gt, sc_qu, not_false_eq_true]
theorem esc_html {w : World} {A : Around} {s : Shared} {ls : List Str} {mg mb : Str → Option Value} {x : Str} {tx : Tok}
   (X : (hd.heap_39 w.params).In s.heap) (T : TopRead theView ls mg mb s.heap) (hr : A.depth + 1 < recursionLimit) (hh : A.handled = none) (h0 : 0 < s.toks) (hx : x.cps.toList.length ≤ 100) (hO : Over [34, 60, 62] x.cps.toList) :
   CallOK w A (.ref 166) [.str x tx] s (fun v h => ∃ y t, v = .str y t ∧ y.cps.toList = rep 34 [38, 113, 117, 111, 116, 59] (rep 62 [38, 103, 116, 59] x.cps.toList)) := by
  walk_at "m_entered"
  intro L' h₁ tk ht F N
  replace F : Fr s.heap L' h₁ (fun y => List.lookup y [(Str.ofString "text", .str x tx)]) := F
  try dsimp only
  k_steps
  all_goals (try dsimp only)
  all_goals (refine ⟨_, _, rfl, Fr.keep (by assumption), _, _, rfl, ?_⟩)
  all_goals simp_all only [rep_free, sc_lt, sc_gt, sc_qu, not_false_eq_true]
theorem esc_c14n {w : World} {A : Around} {s : Shared} {ls : List Str} {mg mb : Str → Option Value} {x : Str} {tx : Tok}
   (X : (hd.heap_39 w.params).In s.heap) (T : TopRead theView ls mg mb s.heap) (hr : A.depth + 1 < recursionLimit) (hh : A.handled = none) (h0 : 0 < s.toks) (hx : x.cps.toList.length ≤ 100) (hO : Over [34, 60, 62] x.cps.toList) :
   CallOK w A (.ref 180) [.str x tx] s (fun v h => ∃ y t, v = .str y t ∧ y.cps.toList = rep 34 [38, 113, 117, 111, 116, 59] (rep 60 [38, 108, 116, 59] x.cps.toList)) := by
  walk_at "m_entered"
  intro L' h₁ tk ht F N
  replace F : Fr s.heap L' h₁ (fun y => List.lookup y [(Str.ofString "text", .str x tx)]) := F
  try dsimp only
  k_steps
  all_goals (try dsimp only)
  all_goals (refine ⟨_, _, rfl, Fr.keep (by assumption), _, _, rfl, ?_⟩)
  all_goals simp_all only [rep_free, sc_lt, sc_gt, sc_qu, not_false_eq_true]
noncomputable def S (l : List Nat) : Str := ⟨l.toArray⟩
@[local simp] theorem S_cps (l : List Nat) : (S l).cps.toList = l := by simp [S]
theorem S_of (x : Str) : S x.cps.toList = x := by simp [S]
theorem S_inj {a b : List Nat} : S a = S b ↔ a = b := ⟨fun e => by have := congrArg (fun x : Str => x.cps.toList) e; simpa using this, fun e => by rw [e]⟩
theorem S_len (l : List Nat) : (S l).length = l.length := by simp [S, Str.length]
theorem S_append (a b : List Nat) : S a ++ S b = S (a ++ b) := by
  apply Str.ext'
  rw [Str.cps_append]
  simp [S]
theorem any_S (W : List (List Nat)) (x : List Nat) : ((W.map S).any (· == S x)) = decide (x ∈ W) := by
  rw [Bool.eq_iff_iff]
  simp only [List.any_eq_true, List.mem_map, beq_iff_eq, decide_eq_true_eq]
  constructor
  · rintro ⟨_, ⟨a, ha, rfl⟩, e⟩; rw [S_inj] at e; exact e ▸ ha
  · intro h; exact ⟨_, ⟨_, h, rfl⟩, rfl⟩
noncomputable def Apart (news : List (Addr × Obj)) (D : Addr) : Prop := ∀ p ∈ news, p.1 ≠ D
noncomputable def ApartAll (D : Nat) : List (Addr × Obj) → Prop
  | [] => True
  | p :: r => @Ne Nat p.1 D ∧ ApartAll D r
theorem apartAll {D : Addr} : ∀ {l : List (Addr × Obj)}, Apart l D → ApartAll D l
  | [], _ => trivial
  | p :: _, h => ⟨h p (.head _), apartAll fun q hq => h q (.tail _ hq)⟩
section
variable {prog : Program} {w : World} {A : Around} {E : Value → Shared → Prop} {s : Shared} {g : Heap} {L l : Addr} {m : Str → Option Value} {vs : List Value} {W : List (List Nat)} {x : List Nat} {t : Tok} {Q : Value → Shared → Prop}
theorem baseList {h : Heap} {its : Array Value} {a : Addr} (F : Fr g L h m) (hl : g.IsList a its) : h.IsList a its := let ⟨o, ho, r⟩ := hl; ⟨o, F.keep a o ho, r⟩
theorem newsList {h : Heap} {news : List (Addr × Obj)} {a : Addr} {its : Array Value} {d n sl} (N : News g L h news) (hm : (a, (⟨.type "list", d, .seq its n, sl⟩ : Obj)) ∈ news) : h.IsList a its := ⟨_, N.get hm, rfl, n, rfl⟩
theorem s_notin (hl : s.heap.IsList l vs.toArray) (hS : StrsAre vs (W.map S)) (h1 : x ∉ W → Q (.bool true) s) (h2 : x ∈ W → Q (.bool false) s) :
    wpAny (model prog w) A (compareOp .NotIn (.str (S x) t) (.ref l)) Q E s := by
  refine notin_list_strs hl hS ?_
  rw [any_S]
  by_cases h : x ∈ W
  · rw [decide_eq_true h]; exact h2 h
  · rw [decide_eq_false h]; exact h1 h
theorem s_inL (hl : s.heap.IsList l vs.toArray) (hS : StrsAre vs (W.map S)) (h1 : x ∈ W → Q (.bool true) s) (h2 : x ∉ W → Q (.bool false) s) :
    wpAny (model prog w) A (compareOp .In (.str (S x) t) (.ref l)) Q E s := by
  refine in_list_strs hl hS ?_
  rw [any_S]
  by_cases h : x ∈ W
  · rw [decide_eq_true h]; exact h1 h
  · rw [decide_eq_false h]; exact h2 h
theorem s_addS {y : List Nat} {u : Tok} {b : Str} (h0 : 0 < s.toks) (hb : b = S y) (hsz : x.length + y.length ≤ 16777216) (h : ∀ t' k, 0 < k → Q (.str (S (x ++ y)) t') { s with toks := k }) :
    wpAny (model prog w) A (binaryOp .Add (.str (S x) t) (.str b u)) Q E s := by
  subst hb
  refine s_add h0 (by simpa using hsz) ?_
  rw [S_append]; exact h
theorem s_cat {news : List (Addr × Obj)} {a b : Addr} {va vb : List Value} (F : Fr g L s.heap m) (N : News g L s.heap news) (ha : s.heap.IsList a va.toArray) (hb : s.heap.IsList b vb.toArray) (hsz : va.length + vb.length ≤ 16777216)
    (h : ∀ D h', Apart news D → Fr g L h' m → News g L h' ((D, (⟨.type "list", none, .seq (va ++ vb).toArray 0, #[]⟩ : Obj)) :: news) → Q (.ref D) { s with heap := h' }) :
    wpAny (model prog w) A (binaryOp .Add (.ref a) (.ref b)) Q E s :=
  add_lists (hsz := by rw [sizeLine_eq]; exact hsz) F N ha hb fun h' F' N' => h _ h' (fun p hp e => by have := Heap.lt_size (N p hp).1; rw [e] at this; exact Nat.lt_irrefl _ this) F' N'
end
noncomputable def NewTexts (s : Shared) (W : List (List Nat)) (v : Value) (h : Heap) : Prop := ∃ D vs, v = .ref D ∧ s.heap.get? D = none ∧ h.IsList D vs.toArray ∧ StrsAre vs (W.map S)
theorem fr_cast {h₀ h : Heap} {L : Addr} {m m' : Str → Option Value} (e : m = m') (F : Fr h₀ L h m) : Fr h₀ L h m' := e ▸ F
theorem strs_one (x : List Nat) (t : Tok) : StrsAre [.str (S x) t] ([x].map S) := .cons _ _ .nil
theorem strs_app {va vb : List Value} {Wa Wb : List (List Nat)} (ha : StrsAre va (Wa.map S)) (hb : StrsAre vb (Wb.map S)) : StrsAre (va ++ vb) ((Wa ++ Wb).map S) := by
  rw [List.map_append]; exact ha.append' hb
theorem strs_cast {va : List Value} {W W' : List (List Nat)} (e : W = W') (h : StrsAre va (W.map S)) : StrsAre va (W'.map S) := e ▸ h
theorem strs_len {va : List Value} {Wa : List (List Nat)} (ha : StrsAre va (Wa.map S)) : va.length = Wa.length := by rw [ha.length, List.length_map]
theorem NewTexts.news {s : Shared} {W : List (List Nat)} {v : Value} {h g : Heap} {L : Addr} {m : Str → Option Value} {news : List (Addr × Obj)} (X : NewTexts s W v h) (F₀ : Fr g L s.heap m) (N₀ : News g L s.heap news) (N : News g L h news) :
    ∃ D vs d n sl, v = .ref D ∧ Apart news D ∧ StrsAre vs (W.map S) ∧ News g L h ((D, (⟨.type "list", d, .seq vs.toArray n, sl⟩ : Obj)) :: news) := by
  obtain ⟨D, vs, rfl, hD, ⟨⟨c, d, dt, sl⟩, ho, hc, n, hd⟩, hS⟩ := X
  dsimp only at hc hd
  subst hc hd
  refine ⟨D, vs, d, n, sl, rfl, fun p hp e => (by have := (N₀ p hp).1; rw [e, hD] at this; cases this), hS, fun p hp => ?_⟩
  rcases List.mem_cons.mp hp with rfl | hp
  · refine ⟨ho, fun e => ?_, ?_⟩
    · obtain ⟨oL, _, _, hL, _⟩ := F₀.ns
      dsimp only at e; subst e
      rw [hD] at hL; cases hL
    · cases q : g.get? D with
      | none => rfl
      | some o => have := F₀.keep D o q; rw [hD] at this; cases this
  · exact N p hp
theorem NewTexts.of {s : Shared} {W : List (List Nat)} {D : Addr} {vs : List Value} {L : Addr} {d n sl} {news : List (Addr × Obj)} {h : Heap} (N : News s.heap L h news) (hm : (D, (⟨.type "list", d, .seq vs.toArray n, sl⟩ : Obj)) ∈ news) (hS : StrsAre vs (W.map S)) :
    NewTexts s W (.ref D) h := ⟨D, vs, rfl, N.fresh hm, newsList N hm, hS⟩
local macro_rules | `(tactic| walk_at "m_list") => `(tactic| first | exact baseList (by assumption) (by assumption) | (refine newsList ?_ ?_; rotate_left; k_mem; assumption) | exact newsList (by assumption) (by k_mem))
local macro_rules | `(tactic| walk_at "m_smallS") => `(tactic| first | decide | (simp only [List.length_append, List.length_cons, List.length_nil]; omega))
local macro_rules | `(tactic| walk_at "compareOp NotIn str ref") => `(tactic| (k_dflt ((refine' s_notin ?hl ?hS ?_ ?_); (case hl => walk_at "m_list"); (case hS => assumption); all_goals intro hin)))
local macro_rules | `(tactic| walk_at "binaryOp Add str str") => `(tactic| (k_dflt ((refine' s_addS ?h0 ?hb ?hz ?_); (case h0 => walk_at "m_pos"); (case hb => walk_at "m_charS"); (case hz => walk_at "m_smallS"); intro t9 k9 hk9)))
local macro_rules | `(tactic| walk_at "binaryOp Add ref ref") => `(tactic| (k_dflt ((refine' s_cat ?F ?N ?ha ?hb ?hz ?_); (case F => k_asm); (case N => k_asm); (case ha => walk_at "m_list"); (case hb => walk_at "m_list"); (case hz => ((try simp only [List.length_append, List.length_cons, List.length_nil]); omega)); intro D9 h9 hne9 F9 N9; (try k_sweep))))
theorem chS_qu : Str.ofString "\"" = S [34] := by decide +kernel
theorem chS_lt : Str.ofString "<" = S [60] := by decide +kernel
theorem chS_gt : Str.ofString ">" = S [62] := by decide +kernel
noncomputable def mid : Nat → List (List Nat) → List Nat → List (List Nat)
  | 0, _, _ => []
  | n + 1, W, x => if x ∈ W then mid n W (x ++ [34]) ++ [x] ++ mid n W (x ++ [60]) ++ mid n W (x ++ [62]) else []
theorem mid_len : ∀ (n : Nat) (W : List (List Nat)) (x : List Nat), (mid n W x).length ≤ 4 ^ n
  | 0, _, _ => by simp [mid]
  | n + 1, W, x => by
    have a := mid_len n W (x ++ [34])
    have b := mid_len n W (x ++ [60])
    have c := mid_len n W (x ++ [62])
    have p : 0 < 4 ^ n := Nat.pow_pos (by decide)
    rw [mid]
    split
    · simp only [List.length_append, List.length_cons, List.length_nil]; rw [Nat.pow_succ]; lia
    · simp
theorem mid_small {n : Nat} (hn : n ≤ 11) (W : List (List Nat)) (x : List Nat) : (mid n W x).length ≤ 4194304 := Nat.le_trans (mid_len n W x) (Nat.le_trans (Nat.pow_le_pow_right (by decide) hn) (by decide))
theorem mid_len9 {vs : List Value} {n : Nat} {W : List (List Nat)} {x : List Nat} (h : StrsAre vs ((mid n W x).map S)) (hn : n ≤ 11) : vs.length ≤ 4194304 := by
  rw [strs_len h]; exact mid_small hn W x
noncomputable def Bounded (W : List (List Nat)) (k : Nat) : Prop := ∀ v ∈ W, v.length < k
theorem Bounded.mono {W : List (List Nat)} {k j : Nat} (h : Bounded W k) (e : k ≤ j) : Bounded W j := fun v hv => Nat.lt_of_lt_of_le (h v hv) e
noncomputable def MidSpec (w : World) (n : Nat) : Prop := ∀ {A : Around} {s : Shared} {ls : List Str} {mg mb : Str → Option Value} {l : Addr} {vs : List Value} {W : List (List Nat)} {x : List Nat} {t : Tok}
  (_ : (hd.heap_39 w.params).In s.heap) (_ : TopRead theView ls mg mb s.heap) (_ : A.depth + n + 1 < recursionLimit) (_ : A.handled = none) (_ : 0 < s.toks)
  (_ : s.heap.IsList l vs.toArray) (_ : StrsAre vs (W.map S)) (_ : Bounded W (x.length + n)) (_ : x.length + n ≤ 100) (_ : n ≤ 11),
  CallOK w A (.ref 199) [.ref l, .str (S x) t] s (NewTexts s (mid n W x))
local macro_rules | `(tactic| walk_at "m_charS") => `(tactic| first | exact chS_qu | exact chS_lt | exact chS_gt)
local macro_rules | `(tactic| walk_at "call ref") => `(tactic| (
  (with_reducible show wpAny _ _ (PySem.call (Value.ref 199) [Value.ref _, Value.str _ _] _) _ _ _)
  (with_reducible rename MidSpec _ _ => hI)
  refine' CallOK.useF ?F ?N (hI ?X ?T ?r ?h ?z ?hl ?hS ?hB ?hx ?hn) ?z2 ?_
  (case F => k_asm); (case N => k_asm); (case X => k_in); (case T => walk_at "m_top"); (case r => walk_at "m_room"); (case h => walk_at "m_calm"); (case z => walk_at "m_pos"); (case z2 => walk_at "m_pos")
  (case hl => walk_at "m_list"); (case hS => assumption); (case hB => exact Bounded.mono (by assumption) (by simp only [List.length_append, List.length_cons, List.length_nil]; omega)); (case hx => (simp only [List.length_append, List.length_cons, List.length_nil]; omega)); (case hn => omega)
  intro v9 h9 k9 F9 N9 S9 hk9 hp9
  (have hq9 := NewTexts.news hp9 (by assumption) (by assumption) N9)
  clear S9 hp9 N9
  obtain ⟨D9, vs9, d9, n9, sl9, e9, hne9, hS9, N9⟩ := hq9
  subst e9
  (have hl9 := mid_len9 hS9 (by lia))
  (try k_sweep)))
theorem mid_spec (w : World) : ∀ n, MidSpec w n := by
  intro n
  induction n with
  | zero =>
    intro A s ls mg mb l vs W x t X T hr hh h0 hl hS hB hx hn
    have hni : x ∉ W := fun h => Nat.lt_irrefl _ (hB x h)
    walk_at "m_entered"
    intro L' h₁ tk ht F N
    replace F : Fr s.heap L' h₁ (fun y => List.lookup y [(Str.ofString "word", .str (S x) t), (Str.ofString "words", .ref l)]) := F
    try dsimp only
    repeat ((fail_if_success (with_reducible show wpAny _ _ (compareOp _ _ _) _ _ _)); walk1)
    refine s_notin (baseList F hl) hS (fun _ => ?_) (fun h => absurd h hni)
    k_steps
    all_goals refine ⟨_, _, rfl, Fr.keep (by assumption), ?_⟩
    exact NewTexts.of (W := []) (vs := []) (by assumption) (by k_mem) .nil
  | succ n ih =>
    intro A s ls mg mb l vs W x t X T hr hh h0 hl hS hB hx hn
    walk_at "m_entered"
    intro L' h₁ tk ht F N
    replace F : Fr s.heap L' h₁ (fun y => List.lookup y [(Str.ofString "word", .str (S x) t), (Str.ofString "words", .ref l)]) := F
    try dsimp only
    k_steps
    all_goals refine ⟨_, _, rfl, Fr.keep (by assumption), ?_⟩
    · rename_i hin _ _ _ _ _
      rw [mid, if_neg hin]
      exact NewTexts.of (W := []) (vs := []) (by assumption) (by k_mem) .nil
    · rw [mid, if_pos (by assumption)]
      exact NewTexts.of (by assumption) (by k_mem) (strs_app (strs_app (strs_app (by assumption) (strs_one _ _)) (by assumption)) (by assumption))
noncomputable def TurnEnd (h₀ : Heap) (L : Addr) (s : Shared) (I : Addr) (own : List (Addr × Obj)) (J' : (Str → Option Value) → List (Addr × Obj) → Prop) (f : Flow) (s' : Shared) : Prop :=
  f = .next ∧ ∃ h' tk' m' news', s' = { s with heap := h', toks := tk' } ∧ Fr h₀ L h' m' ∧ News h₀ L h' (own ++ news') ∧ (∀ p ∈ news', p.1 ≠ I) ∧ J' m' news'
noncomputable def WhileEnd (h₀ : Heap) (L : Addr) (s : Shared) (news : List (Addr × Obj)) (J : Nat → (Str → Option Value) → Prop) (k : Nat) (Q : Flow → Shared → Prop) (f : Flow) (s' : Shared) : Prop :=
  match f with
  | .ret v => Q (.ret v) s'
  | .brk => Q .next s'
  | _ => ∃ h' tk' m' k', s' = { s with heap := h', toks := tk' } ∧ k' < k ∧ Fr h₀ L h' m' ∧ News h₀ L h' news ∧ J k' m'
theorem news_sub {h₀ h : Heap} {L : Addr} {a b : List (Addr × Obj)} (N : News h₀ L h a) (hs : ∀ p ∈ b, p ∈ a) : News h₀ L h b := fun p hp => N p (hs p hp)
section
variable {prog : Program} {w : World} {A : Around} {s : Shared} {env : Env} {h₀ : Heap} {x : Str} {px : Pos} {body : List Stmt} {m : Str → Option Value} {news : List (Addr × Obj)}
theorem loop_one {R : Result → Shared → Prop} {I : Addr} {n : Nat} {P : Nat → Value → Prop} {St : Nat → Heap → Prop} {s₂ : Shared} (W : Walks prog w A I [I] [I] n P St)
    (hx : env.kindOf x = some .local) (hp : (env.scope.kind == .class || (env.scope.kind == .module && env.locals != env.globals)) = false)
    (hIL : I ≠ env.locals) (hI0 : h₀.get? I = none) (hIn : ∀ p ∈ news, p.1 ≠ I)
    (hlive : ∀ i h, St i h → ∃ o, h.get? I = some o)
    (st : St 0 s₂.heap) (ht : 0 < s₂.toks) (F : Fr h₀ env.locals s₂.heap m) (N : News h₀ env.locals s₂.heap news)
    (J : Nat → (Str → Option Value) → List (Addr × Obj) → Prop) (j0 : J 0 m news)
    (turn : ∀ i v m₁ news₁ o h tk, i < n → P i v → J i m₁ news₁ → (∀ p ∈ news₁, p.1 ≠ I) → 0 < tk → Fr h₀ env.locals h (fun y => if y = x then some v else m₁ y) → News h₀ env.locals h ((I, o) :: news₁) →
      wpAny (model prog w) A (execs body env) (TurnEnd h₀ env.locals s₂ I [(I, o)] (J (i + 1))) (fun _ _ => False) { s₂ with heap := h, toks := tk })
    (done : ∀ m' news' h' tk', J n m' news' → 0 < tk' → Fr h₀ env.locals h' m' → News h₀ env.locals h' news' → R (.ok .next) { s₂ with heap := h', toks := tk' }) :
    codeAny (model prog w) A (.forLoop (.Name x px) (.ref I) body [] env) R s₂ := by
  refine codeAny_forLoop
    (fun k s' => ∃ h' tk m' news' i, s' = { s₂ with heap := h', toks := tk } ∧ 0 < tk ∧ St i h' ∧ Fr h₀ env.locals h' m' ∧ News h₀ env.locals h' news' ∧ (∀ p ∈ news', p.1 ≠ I) ∧ J i m' news' ∧ i ≤ n ∧ k = n + 1 - i) ?_ (n + 1)
    ⟨s₂.heap, s₂.toks, m, news, 0, rfl, ht, st, F, N, hIn, j0, Nat.zero_le _, rfl⟩
  rintro k s' ⟨h', tk, m', news', i, rfl, htk, hst, F', N', hne, hJ, hi, rfl⟩
  obtain ⟨oL, hoL⟩ : ∃ o, h'.get? env.locals = some o := by obtain ⟨o, _, _, ho, _⟩ := F'.ns; exact ⟨o, ho⟩
  rcases Nat.lt_or_ge i n with hlt | hge
  · refine wpAny_with_toks (n := 1) htk (W.item i _ _ _ hlt hst fun v h₁ tk₁ hP hst₁ hk₁ htk₁ => ?_)
    have F₁ : Fr h₀ env.locals h₁ m' := by
      obtain ⟨o, es, ep, ho, r⟩ := F'.ns
      refine ⟨⟨o, es, ep, hk₁ _ _ (fun q => hIL (List.mem_singleton.mp q).symm) ho, r⟩, fun b o e => hk₁ b o (fun q => ?_) (F'.keep b o e), F'.above⟩
      rw [List.mem_singleton.mp q, hI0] at e; cases e
    have N₁ : News h₀ env.locals h₁ news' := fun p hp => ⟨hk₁ _ _ (fun q => hne p hp (List.mem_singleton.mp q)) (N' p hp).1, (N' p hp).2⟩
    refine wpAny_assign_Name (wpAny_storeName_local hx F₁.ns (fun h₂ hn₂ hs₂ => ?_) hp)
    have F₂ : Fr h₀ env.locals h₂ (fun y => if y = x then some v else m' y) := F₁.set hn₂ hs₂
    have hst₂ : St (i + 1) h₂ := W.frame _ _ _ hst₁ fun b hb o e => (hs₂.2 b (by rw [List.mem_singleton.mp hb]; exact hIL)).trans e
    obtain ⟨o, ho⟩ := hlive _ _ hst₂
    have N₂ : News h₀ env.locals h₂ ((I, o) :: news') := fun p hp => by
      rcases List.mem_cons.mp hp with rfl | hp
      · exact ⟨ho, hIL, hI0⟩
      · exact N₁.set hs₂ p hp
    refine wpAny_with_toks (n := 1) (Nat.succ_pos _) (wpAny_mono (turn i v m' news' o h₂ _ hlt hP hJ hne (Nat.succ_pos _) F₂ N₂) (fun f s₃ h₃ htk₃ => ?_) fun _ _ e => e.elim)
    obtain ⟨rfl, h₃, tk₃, m₃, news₃, rfl, F₃, N₃, hne₃, hJ₃⟩ := h₃
    refine ⟨n + 1 - (i + 1), by omega, h₃, tk₃, m₃, news₃, i + 1, rfl, htk₃, ?_, F₃, news_sub N₃ fun p hp => List.mem_append_right _ hp, hne₃, hJ₃, hlt, rfl⟩
    refine W.frame _ _ _ hst₂ fun b hb o' e => ?_
    rw [List.mem_singleton.mp hb] at e ⊢
    rw [ho] at e; cases e
    exact (N₃ (I, o) (List.mem_append_left _ (List.mem_singleton.mpr rfl))).1
  · have hin : i = n := Nat.le_antisymm hi hge
    subst hin
    refine wpAny_with_toks (n := 1) htk (W.done _ _ _ hst fun h₁ tk₁ hk₁ htk₁ => wpAny_execs_nil ?_)
    refine done m' news' h₁ tk₁ hJ htk₁ ?_ fun p hp => ⟨hk₁ _ _ (fun q => hne p hp (List.mem_singleton.mp q)) (N' p hp).1, (N' p hp).2⟩
    obtain ⟨o, es, ep, ho, r⟩ := F'.ns
    refine ⟨⟨o, es, ep, hk₁ _ _ (fun q => hIL (List.mem_singleton.mp q).symm) ho, r⟩, fun b o e => hk₁ b o (fun q => ?_) (F'.keep b o e), F'.above⟩
    rw [List.mem_singleton.mp q, hI0] at e; cases e
theorem for_str {Q : Flow → Shared → Prop} {sg : List Nat} {t : Tok} (hA : A.handled = none)
    (hx : env.kindOf x = some .local) (hp : (env.scope.kind == .class || (env.scope.kind == .module && env.locals != env.globals)) = false)
    (F : Fr h₀ env.locals s.heap m) (N : News h₀ env.locals s.heap news) (h0 : 0 < s.toks)
    (J : Nat → (Str → Option Value) → List (Addr × Obj) → Prop) (j0 : J 0 m news)
    (turn : ∀ i c u m₁ news₁ I o h tk, sg[i]? = some c → J i m₁ news₁ → (∀ p ∈ news₁, p.1 ≠ I) → 0 < tk → Fr h₀ env.locals h (fun y => if y = x then some (.str (S [c]) u) else m₁ y) → News h₀ env.locals h ((I, o) :: news₁) →
      wpAny (model prog w) A (execs body env) (TurnEnd h₀ env.locals s I [(I, o)] (J (i + 1))) (fun _ _ => False) { s with heap := h, toks := tk })
    (done : ∀ m' news' h' tk', J sg.length m' news' → 0 < tk' → Fr h₀ env.locals h' m' → News h₀ env.locals h' news' → Q .next { s with heap := h', toks := tk' }) :
    wpAny (model prog w) A (pyIter (.str (S sg) t)) (fun it s₂ => codeAny (model prog w) A (.forLoop (.Name x px) it body [] env) (fun r s' => match r with | .ok f => Q f s' | .error e => cameBackBy (model prog w) A env (fun _ _ => False) e s') s₂) (fun _ _ => False) s := by
  have hsz : (S sg).cps.size = sg.length := by simp [S]
  obtain ⟨oL, hoL⟩ : ∃ o, s.heap.get? env.locals = some o := by obtain ⟨o, _, _, ho, _⟩ := F.ns; exact ⟨o, ho⟩
  have hIL : s.heap.objs.size ≠ env.locals := fun e => by have := Heap.lt_size hoL; rw [← e] at this; exact Nat.lt_irrefl _ this
  have hI0 : h₀.get? s.heap.objs.size = none := by
    cases q : h₀.get? s.heap.objs.size with
    | none => rfl
    | some o => exact absurd (Heap.lt_size (F.keep _ _ q)) (Nat.lt_irrefl _)
  have key : ∀ (o : Obj) (T : String), Walks prog w A s.heap.objs.size [s.heap.objs.size] [s.heap.objs.size] (S sg).cps.size (SignAt (S sg)) (fun i h => h.IsStrIter s.heap.objs.size T (S sg) t i) → (s.heap.push o).IsStrIter s.heap.objs.size T (S sg) t 0 →
      codeAny (model prog w) A (.forLoop (.Name x px) (.ref s.heap.objs.size) body [] env) (fun r s' => match r with | .ok f => Q f s' | .error e => cameBackBy (model prog w) A env (fun _ _ => False) e s') { s with heap := s.heap.push o } := by
    intro o T W hst
    rw [hsz] at W
    refine loop_one W hx hp hIL hI0 (fun p hp e => ?_) (fun i h hs => by obtain ⟨o, ho, _⟩ := hs; exact ⟨o, ho⟩) hst h0 (F.push o) (fun p hp => ⟨Heap.get?_push_of_some _ (N p hp).1, (N p hp).2⟩) J j0 ?_ done
    · have := Heap.lt_size (N p hp).1; rw [e] at this; exact Nat.lt_irrefl _ this
    · rintro i v m₁ news₁ o h tk hlt ⟨c, u, hc, rfl⟩ hJ hne htk F₁ N₁
      have hc' : sg[i]? = some c := by simpa [S] using hc
      exact turn i c u m₁ news₁ _ o h tk hc' hJ hne htk F₁ N₁
  cases ha : (S sg).cps.all (· < 128)
  · exact wpAny_pyIter_wide ha (key _ _ (Walks.strWide hA _ _ t) ⟨_, Heap.get?_push_size _ rfl, rfl, rfl⟩)
  · exact wpAny_pyIter_ascii ha (key _ _ (Walks.strAscii hA _ _ t) ⟨_, Heap.get?_push_size _ rfl, rfl, rfl⟩)
theorem while_mine {Q : Flow → Shared → Prop} {test : Expr} {pos : Pos} (F : Fr h₀ env.locals s.heap m) (N : News h₀ env.locals s.heap news) (h0 : 0 < s.toks)
    (J : Nat → (Str → Option Value) → Prop) (k₀ : Nat) (j0 : J k₀ m)
    (turn : ∀ k m₁ h tk, J k m₁ → 0 < tk → Fr h₀ env.locals h m₁ → News h₀ env.locals h news →
      wpAny (model prog w) A (isTrue test env (eval test env)) (fun b s₂ => if b = true then wpAny (model prog w) A (execs body env) (WhileEnd h₀ env.locals s news J k Q) (fun _ _ => False) s₂ else Q .next s₂) (fun _ _ => False) { s with heap := h, toks := tk }) :
    wpAny (model prog w) A (exec (.While test body [] pos) env) Q (fun _ _ => False) s := by
  refine wpAny_While (codeAny_whileLoop (fun k s' => ∃ h tk m₁, s' = { s with heap := h, toks := tk } ∧ 0 < tk ∧ J k m₁ ∧ Fr h₀ env.locals h m₁ ∧ News h₀ env.locals h news) ?_ k₀ ⟨_, _, m, rfl, h0, j0, F, N⟩)
  rintro k s' ⟨h, tk, m₁, rfl, htk, hJ, F₁, N₁⟩
  refine wpAny_with_toks (n := 1) htk (wpAny_mono (turn k m₁ h tk hJ htk F₁ N₁) (fun b s₂ h₂ ht₂ => ?_) fun _ _ e => e.elim)
  cases b with
  | false => exact wpAny_execs_nil h₂
  | true =>
    refine wpAny_with_toks (n := 1) ht₂ (wpAny_mono h₂ (fun f s₃ h₃ ht₃ => ?_) fun _ _ e => e.elim)
    cases f with
    | ret v => exact h₃
    | brk => exact h₃
    | next =>
      obtain ⟨h', tk', m', k', rfl, hk, F', N', hJ'⟩ := h₃
      exact ⟨k', hk, h', tk', m', rfl, ht₃, hJ', F', N'⟩
    | cont =>
      obtain ⟨h', tk', m', k', rfl, hk, F', N', hJ'⟩ := h₃
      exact ⟨k', hk, h', tk', m', rfl, ht₃, hJ', F', N'⟩
end
local macro_rules | `(tactic| walk_at "m_charS") => `(tactic| first | with_reducible rfl | exact chS_qu | exact chS_lt | exact chS_gt)
noncomputable def fst : Nat → List (List Nat) → List Nat → List Nat → List (List Nat)
  | 0, _, _, _ => []
  | n + 1, W, x, sg => if x ∈ W then [x] ++ sg.flatMap (fun c => fst n W (x ++ [c]) sg) else []
theorem fst_len (sg : List Nat) (hsg : sg.length = 3) : ∀ (n : Nat) (W : List (List Nat)) (x : List Nat), (fst n W x sg).length ≤ 4 ^ n
  | 0, _, _ => by simp [fst]
  | n + 1, W, x => by
    have p : 0 < 4 ^ n := Nat.pow_pos (by decide)
    have ih := fst_len sg hsg n W
    have key : ∀ l : List Nat, (l.flatMap (fun c => fst n W (x ++ [c]) sg)).length ≤ l.length * 4 ^ n := by
      intro l
      induction l with
      | nil => simp
      | cons c l ihl => rw [List.flatMap_cons, List.length_append, List.length_cons, Nat.succ_mul]; have := ih (x ++ [c]); lia
    have k := key sg
    rw [hsg] at k
    rw [fst]
    split
    · simp only [List.length_append, List.length_cons, List.length_nil]; rw [Nat.pow_succ]; lia
    · simp
theorem fst_small {sg : List Nat} (hsg : sg.length = 3) {n : Nat} (hn : n ≤ 11) (W : List (List Nat)) (x : List Nat) : (fst n W x sg).length ≤ 4194304 := Nat.le_trans (fst_len sg hsg n W x) (Nat.le_trans (Nat.pow_le_pow_right (by decide) hn) (by decide))
theorem fst_part {sg : List Nat} (hsg : sg.length = 3) {n : Nat} (hn : n + 1 ≤ 11) (W : List (List Nat)) (x : List Nat) (i : Nat) : ([x] ++ (sg.take i).flatMap (fun c => fst n W (x ++ [c]) sg)).length ≤ 4194304 := by
  have h4 : 4 ^ n ≤ 1048576 := Nat.le_trans (Nat.pow_le_pow_right (by decide) (Nat.le_of_succ_le_succ hn)) (by decide)
  have key : ∀ l : List Nat, (l.flatMap (fun c => fst n W (x ++ [c]) sg)).length ≤ l.length * 4 ^ n := by
    intro l
    induction l with
    | nil => simp
    | cons c l ihl => rw [List.flatMap_cons, List.length_append, List.length_cons, Nat.succ_mul]; have := fst_len sg hsg n W (x ++ [c]); lia
  have k := key (sg.take i)
  have l3 : (sg.take i).length ≤ 3 := by rw [List.length_take]; lia
  have := Nat.mul_le_mul l3 h4
  simp only [List.length_append, List.length_cons, List.length_nil]
  lia
theorem fst_len9 {sg : List Nat} {vs : List Value} {n : Nat} {W : List (List Nat)} {x : List Nat} (hsg : sg.length = 3) (h : StrsAre vs ((fst n W x sg).map S)) (hn : n ≤ 11) : vs.length ≤ 4194304 := by
  rw [strs_len h]; exact fst_small hsg hn W x
noncomputable def FstSpec (w : World) (sg : List Nat) (n : Nat) : Prop := ∀ {A : Around} {s : Shared} {ls : List Str} {mg mb : Str → Option Value} {l : Addr} {vs : List Value} {W : List (List Nat)} {x : List Nat} {t u : Tok}
  (_ : (hd.heap_39 w.params).In s.heap) (_ : TopRead theView ls mg mb s.heap) (_ : A.depth + n + 1 < recursionLimit) (_ : A.handled = none) (_ : 0 < s.toks)
  (_ : s.heap.IsList l vs.toArray) (_ : StrsAre vs (W.map S)) (_ : Bounded W (x.length + n)) (_ : x.length + n ≤ 100) (_ : n ≤ 11),
  CallOK w A (.ref 206) [.ref l, .str (S x) t, .str (S sg) u] s (NewTexts s (fst n W x sg))
local macro_rules | `(tactic| walk_at "call ref") => `(tactic| (
  (with_reducible show wpAny _ _ (PySem.call (Value.ref 206) [Value.ref _, Value.str _ _, Value.str _ _] _) _ _ _)
  (with_reducible rename FstSpec _ _ _ => hI)
  refine' CallOK.useF ?F ?N (hI ?X ?T ?r ?h ?z ?hl ?hS ?hB ?hx ?hn) ?z2 ?_
  (case F => k_asm); (case N => k_asm); (case X => k_in); (case T => walk_at "m_top"); (case r => walk_at "m_room"); (case h => walk_at "m_calm"); (case z => walk_at "m_pos"); (case z2 => walk_at "m_pos")
  (case hl => walk_at "m_list"); (case hS => assumption); (case hB => exact Bounded.mono (by assumption) (by simp only [List.length_append, List.length_cons, List.length_nil]; omega)); (case hx => (simp only [List.length_append, List.length_cons, List.length_nil]; omega)); (case hn => omega)
  intro v9 h9 k9 F9 N9 S9 hk9 hp9
  (have hq9 := NewTexts.news hp9 (by assumption) (by assumption) N9)
  clear S9 hp9 N9
  obtain ⟨D9, vs9, d9, n9, sl9, e9, hne9, hS9, N9⟩ := hq9
  subst e9
  (have hl9 := fst_len9 (by assumption) hS9 (by lia))
  (try k_sweep)))
noncomputable abbrev fstM (l D : Addr) (x sg : List Nat) (t u : Tok) (sv : Option Value) : Str → Option Value := fun y => if y = Str.ofString "row" then some (.ref D) else if y = Str.ofString "sign" then sv else List.lookup y [(Str.ofString "signs", .str (S sg) u), (Str.ofString "word", .str (S x) t), (Str.ofString "words", .ref l)]
theorem fstM_turn (l D D' : Addr) (x sg : List Nat) (t u : Tok) (sv v : Option Value) :
    (fun y => if y = Str.ofString "row" then some (.ref D') else if y = Str.ofString "sign" then v else fstM l D x sg t u sv y) = fstM l D' x sg t u v := by
  funext y
  by_cases h1 : y = Str.ofString "row"
  · simp [fstM, h1]
  · by_cases h2 : y = Str.ofString "sign"
    · simp [fstM, h1, h2]
    · simp [fstM, h1, h2]
theorem fstM_start (l D : Addr) (x sg : List Nat) (t u : Tok) :
    (fun y => if y = Str.ofString "row" then some (.ref D) else List.lookup y [(Str.ofString "signs", .str (S sg) u), (Str.ofString "word", .str (S x) t), (Str.ofString "words", .ref l)]) = fstM l D x sg t u none := by
  funext y
  by_cases h1 : y = Str.ofString "row"
  · simp [fstM, h1]
  · by_cases h2 : y = Str.ofString "sign"
    · subst h2
      simp only [fstM, if_neg h1, if_true]
      rfl
    · simp [fstM, h1, h2]
theorem fst_spec (w : World) (sg : List Nat) (hsg : sg.length = 3) : ∀ n, FstSpec w sg n := by
  intro n
  induction n with
  | zero =>
    intro A s ls mg mb l vs W x t u X T hr hh h0 hl hS hB hx hn
    have hni : x ∉ W := fun h => Nat.lt_irrefl _ (hB x h)
    walk_at "m_entered"
    intro L' h₁ tk ht F N
    replace F : Fr s.heap L' h₁ (fun y => List.lookup y [(Str.ofString "signs", .str (S sg) u), (Str.ofString "word", .str (S x) t), (Str.ofString "words", .ref l)]) := F
    try dsimp only
    repeat ((fail_if_success (with_reducible show wpAny _ _ (compareOp _ _ _) _ _ _)); walk1)
    refine s_notin (baseList F hl) hS (fun _ => ?_) (fun h => absurd h hni)
    k_steps
    all_goals refine ⟨_, _, rfl, Fr.keep (by assumption), ?_⟩
    exact NewTexts.of (W := []) (vs := []) (by assumption) (by k_mem) .nil
  | succ n ih =>
    intro A s ls mg mb l vs W x t u X T hr hh h0 hl hS hB hx hn
    walk_at "m_entered"
    intro L' h₁ tk ht F N
    replace F : Fr s.heap L' h₁ (fun y => List.lookup y [(Str.ofString "signs", .str (S sg) u), (Str.ofString "word", .str (S x) t), (Str.ofString "words", .ref l)]) := F
    try dsimp only
    repeat ((fail_if_success (with_reducible show wpAny _ _ (compareOp _ _ _) _ _ _)); walk1)
    refine s_notin (baseList F hl) hS (fun hin => ?_) (fun hin => ?_)
    · k_steps
      all_goals refine ⟨_, _, rfl, Fr.keep (by assumption), ?_⟩
      rw [fst, if_neg hin]
      exact NewTexts.of (W := []) (vs := []) (by assumption) (by k_mem) .nil
    · repeat ((fail_if_success (with_reducible show wpAny _ _ (exec (Stmt.For _ _ _ _ _) _) _ _ _)); walk1)
      refine wpAny_For ?_
      walk1
      refine for_str hh (by rfl) (by rfl) (fr_cast (fstM_start l _ x sg t u) (by assumption)) (by assumption) (by assumption)
        (fun i m' news => ∃ D rows d n' sl sv, m' = fstM l D x sg t u sv ∧ news = [(D, (⟨.type "list", d, .seq rows.toArray n', sl⟩ : Obj))] ∧ StrsAre rows (([x] ++ (sg.take i).flatMap (fun c => fst n W (x ++ [c]) sg)).map S))
        ⟨_, _, _, _, _, _, rfl, rfl, strs_one _ _⟩ ?_ ?_
      · rintro i c u' m₁ news₁ I o h tk hc ⟨D, rows, d, n', sl, sv, rfl, rfl, hR⟩ hne htk F₁ N₁
        have hlR : rows.length ≤ 4194304 := by rw [strs_len hR]; exact fst_part hsg hn W x i
        try dsimp only
        k_steps
        all_goals refine ⟨rfl, _, _, _, [(_, _)], rfl, fr_cast (fstM_turn _ _ _ _ _ _ _ _ _) (by assumption), news_sub (by assumption) (List.forall_mem_cons.mpr ⟨by k_mem, List.forall_mem_cons.mpr ⟨List.Mem.head _, List.forall_mem_nil _⟩⟩), ?_, ?_⟩
        · intro p hp
          rw [List.mem_singleton.mp hp]
          (with_reducible rename Apart _ _ => hA)
          exact fun e => hA (I, o) (by k_mem) e.symm
        · refine ⟨_, _, _, _, _, _, rfl, rfl, ?_⟩
          refine strs_cast ?_ (strs_app hR (by assumption))
          rw [List.take_add_one, hc]; simp
      · rintro m' news' h' tk' ⟨D, rows, d, n', sl, sv, rfl, rfl, hR⟩ htk F₁ N₁
        try dsimp only
        k_steps
        all_goals (try dsimp only)
        all_goals refine ⟨_, _, rfl, Fr.keep (by assumption), ?_⟩
        rw [fst, if_pos hin]
        rw [List.take_length] at hR
        exact NewTexts.of (by assumption) (by k_mem) hR
theorem slice_take (x : List Nat) (j : Nat) : Txt.slice (S x) none (some (j : Int)) = S (x.take j) := by
  by_cases hj : j ≤ x.length
  · have := StrLaws.sliceText_to (x := S x) (j := (j : Int)) ⟨by lia, by simpa using hj⟩
    refine Eq.trans this ?_
    simp [S]
  · have hx : x.take j = x := List.take_of_length_le (by lia)
    rw [hx]
    have e : Builtin.Str.strSliceIndices none (some (j : Int)) 1 (S x).length = Builtin.Str.strSliceIndices none (some (x.length : Int)) 1 (S x).length := by
      rw [S_len]
      have h1 : ¬ ((j : Int) < 0) := by lia
      have h2 : ¬ ((x.length : Int) < 0) := by lia
      have e1 : min (j : Int) (x.length : Int) = x.length := by lia
      simp only [Builtin.Str.strSliceIndices, h1, h2, if_false, e1, Int.min_self, show ((1 : Int) > 0) = True from by simp, if_true]
    have e2 : Txt.slice (S x) none (some (j : Int)) = Txt.slice (S x) none (some (x.length : Int)) := by
      unfold Txt.slice; rw [e]
    rw [e2]
    have := StrLaws.sliceText_to (x := S x) (j := (x.length : Int)) ⟨by lia, by simp⟩
    refine Eq.trans this ?_
    simp [S]
theorem slice_mid (x : List Nat) {a b : Nat} (hab : a ≤ b) (hb : b ≤ x.length) : Txt.slice (S x) (some (a : Int)) (some (b : Int)) = S ((x.drop a).take (b - a)) := by
  have := StrLaws.sliceText_plain (x := S x) (i := (a : Int)) (j := (b : Int)) ⟨by lia, by lia, by simpa using hb⟩
  refine Eq.trans this ?_
  have e : ((b : Int) - (a : Int)).toNat = b - a := by lia
  simp [S, e]
section
variable {prog : Program} {w : World} {A : Around} {E : Value → Shared → Prop} {s : Shared} {h₀ : Heap} {L : Addr} {m : Str → Option Value} {news : List (Addr × Obj)} {x y : List Nat} {t u : Tok} {Q : Value → Shared → Prop} {value slice : Expr}
theorem s_slice_to {j : Int} {n : Nat} {uj : Tok} (hj : j = (n : Int)) (F : Fr h₀ L s.heap m) (N : News h₀ L s.heap news) (h0 : 0 < s.toks) (hsz : x.length ≤ 16777216)
    (h : ∀ h' t' k, 0 < k → Fr h₀ L h' m → News h₀ L h' news → Q (.str (S (x.take n)) t') { s with heap := h', toks := k })
    (hs : subscripted slice false (.str (S x) t) (.ref s.heap.objs.size) = operate [.ref s.heap.objs.size, .str (S x) t] (getItem (.str (S x) t) (.ref s.heap.objs.size)) := by with_unfolding_all rfl)
    (ht : ∀ r, letTemporaryGo value (.str (S x) t) r = pure () := by intro _; with_unfolding_all rfl) :
    wpAny (model prog w) A (subscriptTail value slice (.str (S x) t) (.ref s.heap.objs.size)) Q E { s with heap := s.heap.push { cls := .type "slice", data := .fields #[.none, .int j uj, .none] } } := by
  subst hj
  refine wpAny_with_toks (n := 1) h0 (slice_strN_ns F N (fun h' t' k F' N' hk => ?_) hs ht (by rw [S_len, sizeLine_eq]; exact hsz))
  rw [slice_take]
  exact h h' t' k hk F' N'
theorem s_slice_mid {i j : Int} {a b : Nat} {ui uj : Tok} (hi : i = (a : Int)) (hj : j = (b : Int)) (hab : a ≤ b) (hb : b ≤ x.length) (F : Fr h₀ L s.heap m) (N : News h₀ L s.heap news) (h0 : 0 < s.toks) (hsz : x.length ≤ 16777216)
    (h : ∀ h' t' k, 0 < k → Fr h₀ L h' m → News h₀ L h' news → Q (.str (S ((x.drop a).take (b - a))) t') { s with heap := h', toks := k })
    (hs : subscripted slice false (.str (S x) t) (.ref s.heap.objs.size) = operate [.ref s.heap.objs.size, .str (S x) t] (getItem (.str (S x) t) (.ref s.heap.objs.size)) := by with_unfolding_all rfl)
    (ht : ∀ r, letTemporaryGo value (.str (S x) t) r = pure () := by intro _; with_unfolding_all rfl) :
    wpAny (model prog w) A (subscriptTail value slice (.str (S x) t) (.ref s.heap.objs.size)) Q E { s with heap := s.heap.push { cls := .type "slice", data := .fields #[.int i ui, .int j uj, .none] } } := by
  subst hi hj
  refine wpAny_with_toks (n := 1) h0 (slice_strN_ss F N (fun h' t' k F' N' hk => ?_) hs ht (by rw [S_len, sizeLine_eq]; exact hsz))
  rw [slice_mid x hab hb]
  exact h h' t' k hk F' N'
theorem s_item {i : Int} {n : Nat} (hi : i = (n : Int)) (hn : n < x.length) (hsz : x.length ≤ 16777216)
    (h : Q (.str (S [x.getD n 0]) s.toks) { s with toks := s.toks + 1 })
    (hs : subscripted slice false (.str (S x) t) (.int i u) = operate [.str (S x) t, .int i u] (getItem (.str (S x) t) (.int i u)) := by with_unfolding_all rfl)
    (ht : ∀ r, letTemporaryGo value (.str (S x) t) r = pure () := by intro _; with_unfolding_all rfl) :
    wpAny (model prog w) A (subscriptTail value slice (.str (S x) t) (.int i u)) Q E s := by
  subst hi
  have e : Txt.item (S x) (n : Int) = S [x.getD n 0] := by
    have h1 := StrLaws.at_nonneg (x := S x) (i := (n : Int)) (n := x.getD n 0) (by lia) (by simp [S, List.getElem?_eq_getElem hn])
    have h2 : Txt.charAt (S x) (n : Int) = some (x.getD n 0) := h1
    unfold Txt.item
    rw [h2]; rfl
  refine item_str (fitsSsize_of (N := 9223372036854775808) (by lia) (by lia) (by decide)) (by rw [S_len]; lia) (by rw [S_len]; lia) (fun _ => ?_) hs ht
  rw [e]; exact h
theorem s_eqS {b : Str} (hb : b = S y) (h1 : x = y → Q (.bool true) s) (h2 : x ≠ y → Q (.bool false) s) : wpAny (model prog w) A (compareOp .Eq (.str (S x) t) (.str b u)) Q E s := by
  subst hb
  refine eq_str ?_
  by_cases h : x = y
  · subst h; rw [beq_self_eq_true]; exact h1 rfl
  · have : (S x == S y) = false := beq_eq_false_iff_ne.mpr fun e => h (S_inj.mp e)
    rw [this]; exact h2 h
theorem s_neS {b : Str} (hb : b = S y) (h1 : x ≠ y → Q (.bool true) s) (h2 : x = y → Q (.bool false) s) : wpAny (model prog w) A (compareOp .NotEq (.str (S x) t) (.str b u)) Q E s := by
  subst hb
  refine ne_str ?_
  by_cases h : x = y
  · subst h; rw [bne_self_eq_false]; exact h2 rfl
  · have : (S x != S y) = true := bne_iff_ne.mpr fun e => h (S_inj.mp e)
    rw [this]; exact h1 h
theorem s_len (hsz : x.length ≤ 16777216) (h : ∀ t' k, 0 < k → Q (.int (x.length : Int) t') { s with toks := k }) : wpAny (model prog w) A (call (.builtin "len") [.str (S x) t]) Q E s := by
  refine SBL.len (by rw [S_len]; lia) ?_
  rw [S_len]; exact h _ _ (Nat.succ_pos _)
end
local macro_rules | `(tactic| walk_at "m_nat") => `(tactic| first | rfl | omega)
local macro_rules | `(tactic| walk_at "m_small") => `(tactic| first | assumption | decide | ((try simp only [List.length_append, List.length_cons, List.length_nil]); omega))
local macro_rules | `(tactic| walk_at "compareOp Eq str str") => `(tactic| (k_dflt ((refine' s_eqS ?hb ?_ ?_); (case hb => walk_at "m_charS"); all_goals intro hin)))
local macro_rules | `(tactic| walk_at "compareOp NotEq str str") => `(tactic| (k_dflt ((refine' s_neS ?hb ?_ ?_); (case hb => walk_at "m_charS"); all_goals intro hin)))
local macro_rules | `(tactic| walk_at "call builtin:len") => `(tactic| ((with_reducible show wpAny _ _ (PySem.call _ [Value.str (S _) _] _) _ _ _); k_dflt ((refine' s_len ?hz ?_); (case hz => walk_at "m_small"); intro t9 k9 hk9)))
theorem lit3 : (3 : Int) = ((3 : Nat) : Int) := rfl
theorem lit5 : (5 : Int) = ((5 : Nat) : Int) := rfl
theorem chS_257 : Str.ofString "257" = S [50, 53, 55] := by decide +kernel
theorem chS_sq : Str.ofString " \"" = S [32, 34] := by decide +kernel
local macro_rules | `(tactic| walk_at "m_charS") => `(tactic| first | exact chS_257 | exact chS_sq)
local macro_rules | `(tactic| walk_at "subscriptTail Name Slice str ref") => `(tactic| (k_dflt ((refine' s_slice_mid ?hi ?hj ?hab ?hb ?F ?N ?h0 ?hz ?_ ?hs ?ht); (case hi => walk_at "m_lit"); (case hj => walk_at "m_lit"); (case hab => decide); (case hb => walk_at "m_small"); (case F => k_asm); (case N => k_asm); (case h0 => walk_at "m_pos"); (case hz => walk_at "m_small"); (case hs => with_unfolding_all rfl); (case ht => (intro r9; with_unfolding_all rfl)); intro h' t' k' hk' F' N'; (try k_sweep))))
local macro_rules | `(tactic| walk_at "subscriptTail Name Slice str ref") => `(tactic| (k_dflt ((refine' s_slice_to ?hj ?F ?N ?h0 ?hz ?_ ?hs ?ht); (case hj => walk_at "m_lit"); (case F => k_asm); (case N => k_asm); (case h0 => walk_at "m_pos"); (case hz => walk_at "m_small"); (case hs => with_unfolding_all rfl); (case ht => (intro r9; with_unfolding_all rfl)); intro h' t' k' hk' F' N'; (try k_sweep))))
local macro_rules | `(tactic| walk_at "m_lit") => `(tactic| first | exact lit3 | exact lit5)
noncomputable def unq : List Nat → List Nat
  | [] => []
  | c :: r => if c = 34 then (match r with
      | 34 :: r' => 34 :: unq r'
      | _ => []) else c :: unq r
theorem chS_nil : Str.ofString "" = S [] := by decide +kernel
noncomputable abbrev parM (l : List Nat) (t : Tok) (i : Nat) (out : List Nat) (cv : Option Value) (ti td tn : Tok) : Str → Option Value := fun y => if y = Str.ofString "c" then cv else if y = Str.ofString "i" then some (.int (i : Int) ti) else if y = Str.ofString "dirname" then some (.str (S out) td) else if y = Str.ofString "n" then some (.int (([50, 53, 55, 32, 34] ++ l).length : Int) tn) else List.lookup y [(Str.ofString "resp", .str (S ([50, 53, 55, 32, 34] ++ l)) t)]
theorem parM_start {l : List Nat} {t : Tok} (ti td tn : Tok) :
    (fun y => if y = Str.ofString "n" then some (Value.int (([50, 53, 55, 32, 34] ++ l).length : Int) tn) else if y = Str.ofString "i" then some (.int 5 ti) else if y = Str.ofString "dirname" then some (.str (Str.ofString "") td) else List.lookup y [(Str.ofString "resp", .str (S ([50, 53, 55, 32, 34] ++ l)) t)]) = parM l t 5 [] none ti td tn := by
  funext y
  by_cases h1 : y = Str.ofString "c"
  · subst h1
    simp only [parM, if_true]
    rfl
  · by_cases h2 : y = Str.ofString "i"
    · subst h2
      simp only [parM, if_neg h1, if_true]
      rfl
    · by_cases h3 : y = Str.ofString "dirname"
      · subst h3
        simp only [parM, if_neg h1, if_neg h2, if_true, chS_nil]
        rfl
      · simp only [parM, if_neg h1, if_neg h2, if_neg h3]
theorem parM_next2 {l : List Nat} {t : Tok} {i : Nat} {out out' : List Nat} {cv cv' : Option Value} {ti ti1 ti2 td td' tn : Tok} :
    (fun y => if y = Str.ofString "dirname" then some (Value.str (S out') td') else if y = Str.ofString "i" then some (.int ((i : Int) + 1 + 1) ti2) else if y = Str.ofString "i" then some (.int ((i : Int) + 1) ti1) else if y = Str.ofString "c" then cv' else parM l t i out cv ti td tn y) = parM l t (i + 2) out' cv' ti2 td' tn := by
  funext y
  by_cases h1 : y = Str.ofString "c"
  · subst h1; rfl
  · by_cases h2 : y = Str.ofString "i"
    · subst h2; rfl
    · by_cases h3 : y = Str.ofString "dirname"
      · subst h3; rfl
      · simp only [parM, if_neg h1, if_neg h2, if_neg h3]
theorem parM_next1 {l : List Nat} {t : Tok} {i : Nat} {out out' : List Nat} {cv cv' : Option Value} {ti ti1 td td' tn : Tok} :
    (fun y => if y = Str.ofString "dirname" then some (Value.str (S out') td') else if y = Str.ofString "i" then some (.int ((i : Int) + 1) ti1) else if y = Str.ofString "c" then cv' else parM l t i out cv ti td tn y) = parM l t (i + 1) out' cv' ti1 td' tn := by
  funext y
  by_cases h1 : y = Str.ofString "c"
  · subst h1; rfl
  · by_cases h2 : y = Str.ofString "i"
    · subst h2; rfl
    · by_cases h3 : y = Str.ofString "dirname"
      · subst h3; rfl
      · simp only [parM, if_neg h1, if_neg h2, if_neg h3]
theorem castS (i : Nat) : (i : Int) + 1 = ((i + 1 : Nat) : Int) := rfl
theorem cast0 (i : Nat) : (i : Int) = ((i : Nat) : Int) := rfl
local macro_rules | `(tactic| walk_at "m_idx") => `(tactic| first | exact castS _ | exact cast0 _)
local macro_rules | `(tactic| walk_at "subscriptTail Name Name str int") => `(tactic| (k_dflt ((refine' s_item ?hi ?hn ?hz ?_ ?hs ?ht); (case hi => walk_at "m_idx"); (case hn => ((try simp only [decide_eq_true_eq, decide_eq_false_iff_not] at *); omega)); (case hz => walk_at "m_small"); (case hs => with_unfolding_all rfl); (case ht => (intro r9; with_unfolding_all rfl)))))
theorem strEnd {x y : List Nat} {t : Tok} (e : x = y) : ∃ t', Value.str (S x) t = .str (S y) t' := ⟨t, by rw [e]⟩
theorem drop_at {f : List Nat} {i : Nat} (h : i < f.length) : f.drop i = f.getD i 0 :: f.drop (i + 1) := by
  rw [List.drop_eq_getElem_cons h, List.getD_eq_getElem?_getD, List.getElem?_eq_getElem h]; rfl
theorem unq_stop {r : List Nat} (h : r = [] ∨ ∃ d r', r = d :: r' ∧ d ≠ 34) : unq (34 :: r) = [] := by
  rcases h with rfl | ⟨d, r', rfl, hd⟩
  · rfl
  · unfold unq
    rw [if_pos rfl]
    split
    · rename_i h; cases h; exact absurd rfl hd
    · rfl
theorem unq_two (r : List Nat) : unq (34 :: 34 :: r) = 34 :: unq r := by rw [unq, if_pos rfl]
theorem unq_plain {c : Nat} {r : List Nat} (h : c ≠ 34) : unq (c :: r) = c :: unq r := by rw [unq.eq_def]; exact if_neg h
theorem par_1 {f out : List Nat} {i : Nat} (h1 : (i : Int) < f.length) (h2 : (f.length : Int) ≤ (i : Int) + 1) (h3 : [f.getD i 0] = [34]) : out ++ unq (f.drop i) = out := by
  rw [drop_at (by omega), (List.cons.inj h3).1, unq_stop (.inl (List.drop_eq_nil_of_le (by omega))), List.append_nil]
theorem par_2 {f out : List Nat} {i : Nat} (h2 : ¬ (f.length : Int) ≤ (i : Int) + 1) (h3 : [f.getD i 0] = [34]) (h4 : [f.getD (i + 1) 0] ≠ [34]) : out ++ unq (f.drop i) = out := by
  rw [drop_at (by omega), (List.cons.inj h3).1, unq_stop (.inr ⟨_, _, drop_at (by omega), fun e => h4 (by rw [e])⟩), List.append_nil]
theorem par_3 {f out q : List Nat} {i : Nat} (h2 : ¬ (f.length : Int) ≤ (i : Int) + 1) (h3 : [f.getD i 0] = [34]) (h4 : [f.getD (i + 1) 0] = [34]) (hq : out ++ unq (f.drop i) = q) : out ++ [f.getD i 0] ++ unq (f.drop (i + 2)) = q := by
  rw [← hq, drop_at (i := i) (by omega), drop_at (i := i + 1) (by omega), (List.cons.inj h3).1, (List.cons.inj h4).1, unq_two, List.append_assoc]; rfl
theorem par_4 {f out q : List Nat} {i : Nat} (h1 : (i : Int) < f.length) (h3 : [f.getD i 0] ≠ [34]) (hq : out ++ unq (f.drop i) = q) : out ++ [f.getD i 0] ++ unq (f.drop (i + 1)) = q := by
  rw [← hq, drop_at (i := i) (by omega), unq_plain (fun e => h3 (by rw [e])), List.append_assoc]; rfl
theorem par_5 {f out : List Nat} {i : Nat} (h1 : ¬ (i : Int) < f.length) : out ++ unq (f.drop i) = out := by
  rw [List.drop_eq_nil_of_le (by omega)]; simp [unq]
theorem parse_spec {w : World} {A : Around} {s : Shared} {ls : List Str} {mg mb : Str → Option Value} {l : List Nat} {t : Tok}
   (X : (hd.heap_39 w.params).In s.heap) (T : TopRead theView ls mg mb s.heap) (hr : A.depth + 1 < recursionLimit) (hh : A.handled = none) (h0 : 0 < s.toks) (hx : l.length ≤ 10000) :
   CallOK w A (.ref 67) [.str (S ([50, 53, 55, 32, 34] ++ l)) t] s (fun v h => ∃ t', v = .str (S (unq l)) t') := by
  walk_at "m_entered"
  intro L' h₁ tk ht F N
  replace F : Fr s.heap L' h₁ (fun y => List.lookup y [(Str.ofString "resp", .str (S ([50, 53, 55, 32, 34] ++ l)) t)]) := F
  try dsimp only
  repeat' ((fail_if_success (with_reducible show wpAny _ _ (exec (Stmt.While _ _ _ _) _) _ _ _)); walk1)
  · rename_i hin _ _ _ _ _ _
    exact absurd rfl (by assumption : ¬ (List.take (5 - 3) (List.drop 3 ([50, 53, 55, 32, 34] ++ l)) = [32, 34]))
  · refine while_mine (fr_cast (parM_start _ _ _) (by assumption)) (by assumption) (by assumption)
      (fun k m => ∃ i out cv ti td tn, m = parM l t i out cv ti td tn ∧ 5 ≤ i ∧ i ≤ ([50, 53, 55, 32, 34] ++ l).length ∧ k = ([50, 53, 55, 32, 34] ++ l).length - i ∧ out ++ unq (([50, 53, 55, 32, 34] ++ l).drop i) = unq l ∧ out.length ≤ i)
      _ ⟨5, [], _, _, _, _, rfl, Nat.le_refl _, by simp, rfl, by simp, by simp⟩ ?_
    rintro k m₁ h tk ⟨i, out, cv, ti, td, tn, rfl, hi5, hin, rfl, hout, hlo⟩ htk F₁ N₁
    have hlo' : out.length ≤ 10010 := by simp only [List.length_append, List.length_cons, List.length_nil] at hin; omega
    try dsimp only
    k_steps
    · dsimp only [WhileEnd]
      k_steps
      all_goals (try dsimp only)
      refine ⟨_, _, rfl, Fr.keep (by assumption), strEnd ?_⟩
      rw [← hout]
      exact (par_1 (by assumption) (by assumption) (by assumption)).symm
    · dsimp only [WhileEnd]
      k_steps
      all_goals (try dsimp only)
      refine ⟨_, _, rfl, Fr.keep (by assumption), strEnd ?_⟩
      rw [← hout]
      exact (par_2 (by assumption) (by assumption) (by assumption)).symm
    · (with_reducible rename (¬ (_ : Int) ≤ _) => h2)
      refine ⟨_, _, _, _, rfl, ?_, fr_cast parM_next2 (by assumption), by assumption, i + 2, _, _, _, _, _, rfl, by omega, by omega, rfl, par_3 h2 (by assumption) (by assumption) hout, ?_⟩
      · omega
      · rw [List.length_append, List.length_singleton]; omega
    · refine ⟨_, _, _, _, rfl, ?_, fr_cast parM_next1 (by assumption), by assumption, i + 1, _, _, _, _, _, rfl, by omega, by omega, rfl, par_4 (by assumption) (by assumption) hout, ?_⟩
      · omega
      · rw [List.length_append, List.length_singleton]; omega
    · all_goals (try dsimp only)
      refine ⟨_, _, rfl, Fr.keep (by assumption), strEnd ?_⟩
      rw [← hout]
      exact (par_5 (by assumption)).symm
local macro_rules | `(tactic| walk_at "m_fitS") => `(tactic| ((try simp only [Str.length_append, S_len, sizeLine_eq, List.length_append, List.length_cons, List.length_nil]); omega))
local macro_rules | `(tactic| walk_at "convS str") => `(tactic| (k_dflt ((refine' SB.convS_str (hsz := ?hsz) ?_); (case hsz => walk_at "m_fitS"); intro t9 k9)))
theorem s_field {prog : Program} {w : World} {A : Around} {E : Value → Shared → Prop} {s : Shared} {y : List Nat} {t : Tok} {Q : Value → Shared → Prop} (hsz : y.length ≤ 16777216) (h : ∀ t' k, Q (.str (S y) t') { s with toks := k }) :
    wpAny (model prog w) A (formatField (.str (S y) t) Str.empty) Q E s :=
  wpAny_formatField_str (h _ _) (h _ _) (by rw [S_len, sizeLine_eq]; exact hsz)
local macro_rules | `(tactic| walk_at "formatField str") => `(tactic| (k_dflt ((refine' s_field ?hz ?_); (case hz => walk_at "m_small"); intro t9 k9)))
theorem chS_e : Str.empty = S [] := by decide +kernel
theorem chS_ob : Str.ofString "{" = S [123] := by decide +kernel
theorem chS_cb : Str.ofString "}" = S [125] := by decide +kernel
theorem chS_x : Str.ofString "x" = S [120] := by decide +kernel
local macro_rules | `(tactic| walk_at "le") => `(tactic| ((with_reducible show _ ≤ sizeLine); (simp only [chS_e, chS_ob, chS_cb, chS_x, S_append, S_len, sizeLine_eq, List.length_append, List.length_cons, List.length_nil]); omega))
local macro_rules | `(tactic| walk_at "joinParts") => `(tactic| ((first | (with_reducible show wpAny _ _ (joinParts _ []) _ _ _) | (with_reducible show wpAny _ _ (joinParts _ (evalEach [] _)) _ _ _)); k_dflt ((refine' joinParts_nil ?_ ?hsz); (case hsz => ((simp only [chS_e, chS_ob, chS_cb, chS_x, S_append, S_len, sizeLine_eq, List.length_append, List.length_cons, List.length_nil]); omega)))))
noncomputable def IsQ (h : Heap) (q : Addr) (a : List Nat) : Prop := ∃ dx es n t, h.get? q = some (instObj 141 dx) ∧ h.get? dx = some (dictOf es n) ∧ getL (Str.ofString "text") es = some (some (.str (S a) t))
noncomputable def NewQ (g h : Heap) (q : Addr) (a : List Nat) : Prop := ∃ dx es n t, g.get? q = none ∧ g.get? dx = none ∧ h.get? q = some (instObj 141 dx) ∧ h.get? dx = some (dictOf es n) ∧ getL (Str.ofString "text") es = some (some (.str (S a) t))
theorem newQ_of {g h : Heap} {q dx : Addr} {es : List DictEntry} {n : Nat} {x : Str} {t : Tok} {a : List Nat} (f1 : g.get? q = none) (f2 : g.get? dx = none) (h1 : h.get? q = some (instObj 141 dx)) (h2 : h.get? dx = some (dictOf es n)) (h3 : getL (Str.ofString "text") es = some (some (.str x t))) (e : x = S a) : NewQ g h q a :=
  ⟨dx, es, n, t, f1, f2, h1, h2, by rw [h3, e]⟩
theorem isQ_of {h : Heap} {q dx : Addr} {es : List DictEntry} {n : Nat} {x : Str} {t : Tok} {a : List Nat} (h1 : h.get? q = some (instObj 141 dx)) (h2 : h.get? dx = some (dictOf es n)) (h3 : getL (Str.ofString "text") es = some (some (.str x t))) (e : x = S a) : IsQ h q a :=
  ⟨dx, es, n, t, h1, h2, by rw [h3, e]⟩
theorem qname_new {w : World} {A : Around} {s : Shared} {ls : List Str} {mg mb : Str → Option Value} {y : List Nat} {t u : Tok}
   (X : (hd.heap_39 w.params).In s.heap) (T : TopRead theView ls mg mb s.heap) (hr : A.depth + 3 < recursionLimit) (hh : A.handled = none) (h0 : 0 < s.toks) (hx : y.length ≤ 10000) :
   CallOK w A (.ref 141) [.str (S y) t, .str (Str.ofString "x") u] s (fun v h => ∃ q, v = .ref q ∧ NewQ s.heap h q ([123] ++ y ++ [125, 120])) := by
  rw [chS_x]
  obtain ⟨h, g, d, tk, os⟩ := s
  unfold CallOK
  dsimp only at X T h0 ⊢
  refine make_core (makes_of (C := 141) X ?m) (looks_findIn X ?i) (fun self => bind_fn (f := 82) X self ?f) (.inl rfl) ?_
  case m => k_is
  case i => k_is
  case f => k_is
  have hsz : ((h.push emptyDict).push (instObj 141 h.objs.size)).objs.size = h.objs.size + 2 := by rw [Heap.size_push, Heap.size_push]
  have k2 : h.StaysIn ((h.push emptyDict).push (instObj 141 h.objs.size)) := fun b o e => Heap.get?_push_of_some _ (Heap.get?_push_of_some _ e)
  have e1 : ((h.push emptyDict).push (instObj 141 h.objs.size)).get? (h.objs.size + 1) = some (instObj 141 h.objs.size) := by heap_get
  have e2 : ((h.push emptyDict).push (instObj 141 h.objs.size)).get? h.objs.size = some emptyDict := by heap_get
  have f1 : h.get? (h.objs.size + 1) = none := by
    cases q : h.get? (h.objs.size + 1) with
    | none => rfl
    | some o => exact absurd (Heap.lt_size q) (Nat.not_lt.mpr (Nat.le_succ _))
  have f2 : h.get? h.objs.size = none := by
    cases q : h.get? h.objs.size with
    | none => rfl
    | some o => exact absurd (Heap.lt_size q) (Nat.lt_irrefl _)
  refine' enterB (h₀ := h) (news := [(h.objs.size + 1, instObj 141 h.objs.size), (h.objs.size, dictOf [] 0)]) X T k2 (by dsimp only; rw [hsz]; omega) ?N ?k6 ?k7 ?k8 h0 ?k9 ?kB ?_ ?c2 ?c3 ?c4 ?c5
  case N => exact List.forall_mem_cons.mpr ⟨⟨e1, f1⟩, List.forall_mem_cons.mpr ⟨⟨e2, f2⟩, List.forall_mem_nil _⟩⟩
  case k6 => k_is
  case k7 => k_is
  case k8 => rw [depth_under_kw]; omega
  case k9 => exact binds_K (X.keeps k2) rfl (by k_is) rfl rfl rfl
  case kB => exact locs rfl
  case c2 => rfl
  case c3 => rfl
  case c4 => rfl
  case c5 => decide
  intro L' h₁ tk' ht F N
  have hx1 : h.objs.size ≠ h.objs.size + 1 := Nat.ne_of_lt (Nat.lt_succ_self _)
  generalize hq : h.objs.size + 1 = q at F N hx1 ⊢
  generalize hdx : h.objs.size = dx at F N hx1 ⊢
  replace F : Fr h L' h₁ (fun y' => List.lookup y' [(Str.ofString "tag", .str (S [120]) u), (Str.ofString "text_or_uri", .str (S y) t), (Str.ofString "self", .ref q)]) := F
  try dsimp only
  k_steps
  all_goals (
    (with_reducible rename News _ _ _ _ => hN)
    have g1 := News.get hN (List.Mem.head _)
    have g2 := News.get hN (List.Mem.tail _ (List.Mem.head _))
    refine ⟨rfl, _, _, _, rfl, rfl, Fr.keep (by assumption), q, rfl, newQ_of (hq ▸ f1) (hdx ▸ f2) g1 g2 rfl ?_⟩
    simp only [chS_e, chS_ob, chS_cb, S_append]
    congr 1
    simp)
theorem isQ_keeps {h h' : Heap} {q : Addr} {a : List Nat} (I : IsQ h q a) (k : h.StaysIn h') : IsQ h' q a := by
  obtain ⟨dx, es, n, t, h1, h2, h3⟩ := I
  exact ⟨dx, es, n, t, k _ _ h1, k _ _ h2, h3⟩
theorem isQ_inst {h : Heap} {q : Addr} {a : List Nat} (I : IsQ h q a) : ∃ dx es n t, InstAt h q (instObj 141 dx) 141 (some (dictOf es n)) ∧ getL (Str.ofString "text") es = some (some (.str (S a) t)) := by
  obtain ⟨dx, es, n, t, h1, h2, h3⟩ := I
  exact ⟨dx, es, n, t, ⟨h1, rfl, rfl, h2⟩, h3⟩
theorem inst_base {g h : Heap} {L x C : Addr} {m : Str → Option Value} {ox : Obj} {od : Option Obj} (F : Fr g L h m) (J : InstAt g x ox C od) : InstAt h x ox C od := by
  obtain ⟨a, b, c, d⟩ := J
  refine ⟨F.keep _ _ a, b, c, ?_⟩
  revert d
  cases ox.dict <;> cases od <;> intro d <;> first | exact F.keep _ _ d | exact d
local macro_rules | `(tactic| k_inst) => `(tactic| exact inst_base (by assumption) (by assumption))
local macro_rules | `(tactic| walk_at "getAttr ref") => `(tactic| (k_dflt ((refine' get_own ?k1 ?k2 ?k3 ?k4 ?k5 ?k6 ?k7 ?k8 ?k9 ?_); (case k1 => k_asm); (case k2 => k_asm); (case k3 => k_inst); (case k8 => assumption); (case k4 => k_is); (case k5 => k_is); (case k6 => k_is); (case k7 => k_is); (case k9 => k_handed))))
theorem qname_lt {w : World} {A : Around} {s : Shared} {ls : List Str} {mg mb : Str → Option Value} {p q : Addr} {a b : List Nat}
   (X : (hd.heap_39 w.params).In s.heap) (T : TopRead theView ls mg mb s.heap) (hr : A.depth + 1 < recursionLimit) (hh : A.handled = none) (h0 : 0 < s.toks) (Ip : IsQ s.heap p a) (Iq : IsQ s.heap q b) :
   CallOK w A (.ref 117) [.ref p, .ref q] s (fun v _ => v = .bool (decide (a < b))) := by
  walk_at "m_entered"
  intro L' h₁ tk ht F N
  replace F : Fr s.heap L' h₁ (fun y => List.lookup y [(Str.ofString "other", .ref q), (Str.ofString "self", .ref p)]) := F
  try dsimp only
  obtain ⟨dp, ep, np, tp, Jp, gp⟩ := isQ_inst Ip
  obtain ⟨dq, eq, nq, tq, Jq, gq⟩ := isQ_inst Iq
  k_steps
  all_goals (try dsimp only)
  all_goals refine ⟨_, _, rfl, Fr.keep (by assumption), ?_⟩
  simp only [S_cps]
section
variable {w : World} {A : Around} {E : Value → Shared → Prop} {s : Shared} {g : Heap} {L : Addr} {m : Str → Option Value} {news : List (Addr × Obj)} {Q : Value → Shared → Prop} {env : Env} {prog : Program}
noncomputable abbrev cS (a : Str) (k : Nat) (p : Pos) : Expr := .Constant (.str a) k p
noncomputable abbrev cI (a : Int) (k : Nat) (p : Pos) : Expr := .Constant (.int a) k p
theorem d_disp {a1 a2 a3 : Str} {k1 k2 k3 : Nat} {e1 e2 e3 : Expr} {p1 p2 p3 pos : Pos} (mk1 mk2 mk3 : Tok → Value) (F : Fr g L s.heap m) (N : News g L s.heap news) (h12 : a1 ≠ a2) (h13 : a1 ≠ a3) (h23 : a2 ≠ a3)
    (hv1 : ∀ (Q' : Value → Shared → Prop) (s' : Shared), Q' (mk1 s'.toks) { s' with toks := s'.toks + 1 } → wpAny (model prog w) A (eval e1 env) Q' E s')
    (hv2 : ∀ (Q' : Value → Shared → Prop) (s' : Shared), Q' (mk2 s'.toks) { s' with toks := s'.toks + 1 } → wpAny (model prog w) A (eval e2 env) Q' E s')
    (hv3 : ∀ (Q' : Value → Shared → Prop) (s' : Shared), Q' (mk3 s'.toks) { s' with toks := s'.toks + 1 } → wpAny (model prog w) A (eval e3 env) Q' E s')
    (h : ∀ D o h' tk t1 t2 t3, 0 < tk → Apart news D → o.IsDictOf (PySem.strKind prog w) [(a1, mk1 t1), (a2, mk2 t2), (a3, mk3 t3)] → Fr g L h' m → News g L h' ((D, o) :: news) → Q (.ref D) { s with heap := h', toks := tk }) :
    wpAny (model prog w) A (eval (.Dict [some (cS a1 k1 p1), some (cS a2 k2 p2), some (cS a3 k3 p3)] [e1, e2, e3] pos) env) Q E s := by
  refine wpAny_Dict_pairs (knd := PySem.strKind prog w) (pairs := [(eval (cS a1 k1 p1) env, do let x ← eval e1 env; standAt pos; pure x), (eval (cS a2 k2 p2) env, do let x ← eval e2 env; standAt pos; pure x), (eval (cS a3 k3 p3) env, do let x ← eval e3 env; standAt pos; pure x)]) rfl (by simp) (by simp) ?_
  have one : ∀ {a : Str} {k : Nat} {p : Pos} {Q' : Value → Shared → Prop} {s' : Shared}, Q' (.str a s'.toks) { s' with toks := s'.toks + 1 } → wpAny (model prog w) A (eval (cS a k p) env) Q' E s' := fun h => Constant_str h
  have two : ∀ {e : Expr} {mk : Tok → Value} (_ : ∀ (Q' : Value → Shared → Prop) (s' : Shared), Q' (mk s'.toks) { s' with toks := s'.toks + 1 } → wpAny (model prog w) A (eval e env) Q' E s') {pp : Pos} {Q' : Value → Shared → Prop} {s' : Shared}, Q' (mk s'.toks) { s' with toks := s'.toks + 1 } → wpAny (model prog w) A (do let x ← eval e env; standAt pp; pure x) Q' E s' := by
    intro e mk hv pp Q' s' h
    exact wpAny_bind (hv _ _ (wpAny_bind (wpAny_standAt (wpAny_pure h))))
  refine evalPairs_cons (one (two hv1 (evalPairs_cons (one (two hv2 (evalPairs_cons (one (two hv3 (evalPairs_nil ?_)))))))))
  refine ⟨[(a1, mk1 _), (a2, mk2 _), (a3, mk3 _)], ⟨?_, rfl, ?_, rfl, ?_, rfl, trivial⟩, Heap.DictOf.new _, fun h' hd hs => ?_⟩
  · exact beq_self_eq_true a1
  · exact beq_self_eq_true a2
  · exact beq_self_eq_true a3
  have hmer : ∀ v1 v2 v3 : Value, merged [] [(a1, v1), (a2, v2), (a3, v3)] = [(a1, v1), (a2, v2), (a3, v3)] := by
    intro v1 v2 v3
    simp [merged, stored, h12, h13, h23]
  rw [hmer] at hd
  obtain ⟨o, ho, hdo⟩ := Heap.dictOf_iff.mp hd
  have hFp := F.push { cls := .type "dict", data := .dict #[] }
  have hne : s.heap.objs.size ≠ L := fun e => by
    obtain ⟨oL, _, _, hL, _⟩ := F.ns
    have := Heap.lt_size hL
    rw [← e] at this; exact Nat.lt_irrefl _ this
  have hg : g.get? s.heap.objs.size = none := by
    cases q : g.get? s.heap.objs.size with
    | none => rfl
    | some o => exact absurd (Heap.lt_size (F.keep _ _ q)) (Nat.lt_irrefl _)
  have keep : ∀ b o, s.heap.get? b = some o → h'.get? b = some o := fun b o e => (hs.2 b (fun q => by have := Heap.lt_size e; rw [q] at this; exact Nat.lt_irrefl _ this)).trans (Heap.get?_push_of_some _ e)
  refine h s.heap.objs.size o h' _ _ _ _ ?_ (fun p hp e => ?_) hdo ⟨?_, fun b o e => keep b o (F.keep b o e), F.above⟩ fun p hp => ?_
  · exact Nat.lt_of_lt_of_le (Nat.succ_pos _) (Nat.le_add_left _ _)
  · have := Heap.lt_size (N p hp).1; rw [e] at this; exact Nat.lt_irrefl _ this
  · obtain ⟨oL, es, ep, hL, r⟩ := F.ns
    exact ⟨oL, es, ep, keep _ _ hL, r⟩
  · rcases List.mem_cons.mp hp with rfl | hp
    · exact ⟨ho, hne, hg⟩
    · exact ⟨keep _ _ (N p hp).1, (N p hp).2⟩
theorem d_dispS {a1 a2 a3 b1 b2 b3 : Str} {k1 k2 k3 l1 l2 l3 : Nat} {p1 p2 p3 q1 q2 q3 pos : Pos} (F : Fr g L s.heap m) (N : News g L s.heap news) (h12 : a1 ≠ a2) (h13 : a1 ≠ a3) (h23 : a2 ≠ a3)
    (h : ∀ D o h' tk t1 t2 t3, 0 < tk → Apart news D → o.IsDictOf (PySem.strKind prog w) [(a1, .str b1 t1), (a2, .str b2 t2), (a3, .str b3 t3)] → Fr g L h' m → News g L h' ((D, o) :: news) → Q (.ref D) { s with heap := h', toks := tk }) :
    wpAny (model prog w) A (eval (.Dict [some (cS a1 k1 p1), some (cS a2 k2 p2), some (cS a3 k3 p3)] [cS b1 l1 q1, cS b2 l2 q2, cS b3 l3 q3] pos) env) Q E s :=
  d_disp (fun t => .str b1 t) (fun t => .str b2 t) (fun t => .str b3 t) F N h12 h13 h23 (fun _ _ h => Constant_str h) (fun _ _ h => Constant_str h) (fun _ _ h => Constant_str h) h
theorem d_dispI {a1 a2 a3 : Str} {n1 n2 n3 : Int} {k1 k2 k3 l1 l2 l3 : Nat} {p1 p2 p3 q1 q2 q3 pos : Pos} (F : Fr g L s.heap m) (N : News g L s.heap news) (h12 : a1 ≠ a2) (h13 : a1 ≠ a3) (h23 : a2 ≠ a3)
    (h : ∀ D o h' tk t1 t2 t3, 0 < tk → Apart news D → o.IsDictOf (PySem.strKind prog w) [(a1, .int n1 t1), (a2, .int n2 t2), (a3, .int n3 t3)] → Fr g L h' m → News g L h' ((D, o) :: news) → Q (.ref D) { s with heap := h', toks := tk }) :
    wpAny (model prog w) A (eval (.Dict [some (cS a1 k1 p1), some (cS a2 k2 p2), some (cS a3 k3 p3)] [cI n1 l1 q1, cI n2 l2 q2, cI n3 l3 q3] pos) env) Q E s :=
  d_disp (fun t => .int n1 t) (fun t => .int n2 t) (fun t => .int n3 t) F N h12 h13 h23 (fun _ _ h => wpAny_Constant_int h) (fun _ _ h => wpAny_Constant_int h) (fun _ _ h => wpAny_Constant_int h) h
theorem d_get {value slice : Expr} {d : Addr} {kvs : List (Str × Value)} {x : Str} {t : Tok} {v : Value} (hd : s.heap.DictOf (PySem.strKind prog w) d kvs) (hv : valueAt kvs x = some v) (h : Q v { s with toks := s.toks + 1 })
    (hs : subscripted slice false (.ref d) (.str x t) = operate [.ref d, .str x t] (getItem (.ref d) (.str x t)) := by with_unfolding_all rfl)
 :
    wpAny (model prog w) A (subscriptTail value slice (.ref d) (.str x t)) Q E s :=
  tail_any hd.typeIs slot_dict_getitem.lookup (wpAny_getItem_of (knd := PySem.strKind prog w) (k := x) (beq_self_eq_true x) hd.mapOf hv h) hs
end
noncomputable def CompGo (prog : Program) (w : World) (A : Around) (env : Env) (elt iter : Expr) (ifs : List Expr) (x : Str) (px : Pos) (scope : Scope) (cl : List (Str × Addr)) (pos : Pos) (Q : Value → Shared → Prop) (it : Value) (s₂ : Shared) : Prop :=
  wpAny (model prog w) A (newList []) (fun acc s₃ => wpAny (model prog w) A (newFunctionEnv scope env.globals cl [] env.qual none .none (some env)) (fun cenv s₄ =>
    codeAny (model prog w) A (.compStart (.ListComp elt [⟨.Name x px, iter, ifs, 0⟩] scope pos) 0 it acc { cenv with scope := relabel scope env }) (compPost (model prog w) A (fun _ _ => False) none Q acc cenv.locals) s₄) (fun _ _ => False) s₃) (fun _ _ => False) s₂
noncomputable def CompGoR (prog : Program) (w : World) (A : Around) (env : Env) (elt iter : Expr) (ifs : List Expr) (x : Str) (px : Pos) (scope : Scope) (cl : List (Str × Addr)) (pos : Pos) (RR : Value → Addr → Result → Shared → Prop) (it : Value) (s₂ : Shared) : Prop :=
  wpAny (model prog w) A (newList []) (fun acc s₃ => wpAny (model prog w) A (newFunctionEnv scope env.globals cl [] env.qual none .none (some env)) (fun cenv s₄ =>
    codeAny (model prog w) A (.compStart (.ListComp elt [⟨.Name x px, iter, ifs, 0⟩] scope pos) 0 it acc { cenv with scope := relabel scope env }) (RR acc cenv.locals) s₄) (fun _ _ => False) s₃) (fun _ _ => False) s₂
section
variable {prog : Program} {w : World} {A : Around} {s : Shared} {env : Env} {elt iter : Expr} {ifs : List Expr} {x : Str} {px : Pos} {scope : Scope} {cl : List (Str × Addr)} {pos : Pos} {Q : Value → Shared → Prop}
theorem comp_open (hclos : closureFor scope env = pure cl) (hkind : scope.kind = .function) (hnames : ∀ y ∈ scope.names, y.2 = .local → scope.names.lookup y.1 = some .local)
    (h : wpAny (model prog w) A (eval iter env) (fun xv s₁ => wpAny (model prog w) A (pyIter xv) (CompGo prog w A env elt iter ifs x px scope cl pos Q) (fun _ _ => False) s₁) (fun _ _ => False) s)
    (hs : ∀ x, foldedSetIterable iter env x = pure x := by intro _; rfl) :
    wpAny (model prog w) A (eval (.ListComp elt [⟨.Name x px, iter, ifs, 0⟩] scope pos) env) Q (fun _ _ => False) s := by
  rw [eval_ListComp]
  exact wpAny_comprehension_free (use := none) rfl hs hclos hkind hnames (wpAny_mono h (fun xv s₁ h₁ => wpAny_mono h₁ (fun it s₂ h₂ => h₂) fun _ _ e => e) fun _ _ e => e)
noncomputable def CompEnd (base : Heap) (C : Addr) (s₂ : Shared) (I D : Addr) (io ao : Obj) (els : List (Addr × Obj)) (J' : Value → List (Addr × Obj) → Prop) (y : Value) (s' : Shared) : Prop :=
  ∃ h' tk' m' new, s' = { s₂ with heap := h', toks := tk' } ∧ Fr base C h' m' ∧ News base C h' (new ++ (I, io) :: (D, ao) :: els) ∧ (∀ p ∈ new, p.1 ≠ D ∧ p.1 ≠ I) ∧ J' y (new ++ els)
noncomputable def CompSkip (base : Heap) (C : Addr) (s₂ : Shared) (I D : Addr) (io ao : Obj) (els : List (Addr × Obj)) (J' : List (Addr × Obj) → Prop) (s' : Shared) : Prop :=
  ∃ h' tk' m', s' = { s₂ with heap := h', toks := tk' } ∧ Fr base C h' m' ∧ News base C h' ((I, io) :: (D, ao) :: els) ∧ J' els
noncomputable abbrev accOf (ys : List Value) (k : Nat) : Obj := { cls := .type "list", data := .seq ys.toArray k }
noncomputable abbrev testsOf (ifs : List Expr) (env : Env) : Sem Bool := forIn ifs true fun c r => if r = true then do let ok ← isTrue c env (eval c env); pure (ForInStep.yield ok) else pure (ForInStep.yield r)
theorem comp_goR {RR : Value → Addr → Result → Shared → Prop} {base : Heap} {I : Addr} {fp : List Addr} {n : Nat} {P : Nat → Value → Prop} {St : Nat → Heap → Prop} {s₂ : Shared} (W : Walks prog w A I fp [I] n P St)
    (hcell : ∀ y ∈ scope.names, y.2 ≠ .cell) (hkind : scope.kind = .function) (hx : scope.names.lookup x = some .local)
    (hlive : ∀ i h, St i h → ∃ o, h.get? I = some o) (hn : n ≤ 100000) (st : St 0 s₂.heap) (ht : 0 < s₂.toks) (hI0 : base.get? I = none) (hb : base.StaysIn s₂.heap) (hbs : base.objs.size ≤ s₂.heap.objs.size)
    (hfp : ∀ b ∈ fp, b ≠ I → (base.get? b).isSome = true)
    (J : Nat → List Value → List (Addr × Obj) → Prop) (j0 : J 0 [] [])
    (step : ∀ i v ys els io ao h tk C D (m₀ : Str → Option Value), i < n → P i v → J i ys els → 0 < tk → Fr base C h (fun y => if y = x then some v else m₀ y) → News base C h ((I, io) :: (D, ao) :: els) →
      wpAny (model prog w) A (testsOf ifs (compEnvC scope cl C env)) (fun ok s₃ => if ok = true then wpAny (model prog w) A (eval elt (compEnvC scope cl C env)) (CompEnd base C s₂ I D io ao els (fun y els' => J (i + 1) (ys ++ [y]) els')) (fun _ _ => False) s₃ else CompSkip base C s₂ I D io ao els (J (i + 1) ys) s₃) (fun _ _ => False) { s₂ with heap := h, toks := tk })
    (done : ∀ D C ys els k h' tk m', J n ys els → 0 < tk → base.StaysIn h' → (∀ p ∈ (D, accOf ys k) :: els, h'.get? p.1 = some p.2 ∧ base.get? p.1 = none ∧ p.1 ≠ C) → (∀ p ∈ els, p.1 ≠ D) → h'.Ns C m' → base.get? C = none → RR (.ref D) C (.ok .next) { s₂ with heap := h', toks := tk }) :
    CompGoR prog w A env elt iter ifs x px scope cl pos RR (.ref I) s₂ := by
  unfold CompGoR
  refine wpAny_newObj_type (wpAny_newFunctionEnv hcell (by intro y hy; simp at hy) (fun h₁ hns₁ hsb₁ => ?_) hkind)
  dsimp only at hns₁ hsb₁ ⊢
  have hD0 : base.get? s₂.heap.objs.size = none := by
    cases q : base.get? s₂.heap.objs.size with
    | none => rfl
    | some o => exact absurd (Heap.lt_size (hb _ _ q)) (Nat.lt_irrefl _)
  generalize hD : s₂.heap.objs.size = D at hns₁ hsb₁ hD0 ⊢
  have hget : (s₂.heap.push { cls := .type "list", dict := none, data := .seq ([] : List Value).toArray }).get? D = some (accOf [] 0) := hD ▸ Heap.get?_push_size _ rfl
  have hpk : s₂.heap.StaysIn (s₂.heap.push { cls := .type "list", dict := none, data := .seq ([] : List Value).toArray }) := fun b o e => Heap.get?_push_of_some _ e
  have hps : (s₂.heap.push { cls := .type "list", dict := none, data := .seq ([] : List Value).toArray }).objs.size = D + 1 := by rw [Heap.size_push, hD]
  generalize (s₂.heap.push { cls := .type "list", dict := none, data := .seq ([] : List Value).toArray }) = H2 at hns₁ hsb₁ hget hpk hps ⊢
  have hCb : base.objs.size ≤ H2.objs.size := by rw [hps]; exact Nat.le_trans hbs (hD ▸ Nat.le_succ _)
  have hH2C : ∀ b o, H2.get? b = some o → h₁.get? b = some o := fun b o e => hsb₁.extBut b o (Nat.ne_of_lt (Heap.lt_size e)) (Heap.get?_push_of_some _ e)
  generalize hC : H2.objs.size = C at hns₁ hsb₁ hCb ⊢
  have hCH : H2.get? C = none := by
    cases q : H2.get? C with
    | none => rfl
    | some o => exact absurd (Heap.lt_size q) (hC ▸ Nat.lt_irrefl _)
  have hDC : D ≠ C := fun e => by rw [e, hCH] at hget; cases hget
  obtain ⟨oI, hoI⟩ := hlive 0 _ st
  have hIC : I ≠ C := fun e => by have := hpk _ _ hoI; rw [e, hCH] at this; cases this
  have hID : I ≠ D := fun e => by have := Heap.lt_size hoI; rw [e, ← hD] at this; exact Nat.lt_irrefl _ this
  have hCbase : base.get? C = none := by
    cases q : base.get? C with
    | none => rfl
    | some o => have := hpk _ _ (hb _ _ q); rw [hCH] at this; cases this
  have hfpC : ∀ b ∈ fp, b ≠ C := fun b hm e => by
    by_cases hbI : b = I
    · exact hIC (hbI ▸ e)
    · have := hfp b hm hbI; rw [e, hCbase] at this; cases this
  have hfpD : ∀ b ∈ fp, b ≠ D := fun b hm e => by
    by_cases hbI : b = I
    · exact hID (hbI ▸ e)
    · have := hfp b hm hbI; rw [e, hD0] at this; cases this
  have loop : ∀ s₃ : Shared, s₃ = { s₂ with heap := h₁, toks := s₂.toks + ([] : List (Str × Value)).length } →
      codeAny (model prog w) A (.compLoop (.ListComp elt [⟨.Name x px, iter, ifs, 0⟩] scope pos) 0 (.ref I) (.ref D) (compEnvC scope cl C env))
        (RR (.ref D) C) s₃ := by
    rintro s₃ rfl
    refine codeAny_compLoop_tests (fun k s' => ∃ i ys els m' h tk io a, s' = { s₂ with heap := h, toks := tk } ∧ 0 < tk ∧ St i h ∧ Fr base C h m' ∧ News base C h ((I, io) :: (D, accOf ys a) :: els) ∧ (∀ p ∈ els, p.1 ≠ D ∧ p.1 ≠ I) ∧ J i ys els ∧ i ≤ n ∧ ys.length ≤ i ∧ k = n + 1 - i)
      ?_ (n + 1) ⟨0, [], [], _, h₁, _, oI, 0, rfl, ht, W.frame _ _ _ st fun b _ o e => hH2C _ _ (hpk _ _ e), ⟨hns₁, fun b o e => hH2C _ _ (hpk _ _ (hb _ _ e)), hCb⟩, ?_, (fun _ h => nomatch h), j0, Nat.zero_le _, Nat.le_refl _, rfl⟩
    · rintro k s' ⟨i, ys, els, m', h, tk, io, a, rfl, htk, hst, F, N, hels, hJ, hi, hys, rfl⟩
      rcases Nat.lt_or_ge i n with hlt | hge
      · refine wpAny_with_toks (n := 1) htk (W.item i _ _ _ hlt hst fun v h2 tk2 hP hst2 hk2 htk2 => ?_)
        have F2 : Fr base C h2 m' := by
          obtain ⟨o, es, ep, ho, r⟩ := F.ns
          refine ⟨⟨o, es, ep, hk2 _ _ (fun q => hIC (List.mem_singleton.mp q).symm) ho, r⟩, fun b o e => hk2 b o (fun q => ?_) (F.keep b o e), F.above⟩
          rw [List.mem_singleton.mp q, hI0] at e; cases e
        refine wpAny_assign_Name (wpAny_storeName_local (env := compEnvC scope cl C env) (lookup_relabel_local hx) F2.ns (fun h3 hn3 hs3 => ?_) (by simp [compEnvC, relabel, hkind]))
        have F3 : Fr base C h3 (fun y => if y = x then some v else m' y) := F2.set hn3 hs3
        have hst3 : St (i + 1) h3 := W.frame _ _ _ hst2 fun b hm o e => (hs3.2 b (hfpC b hm)).trans e
        obtain ⟨io3, hio3⟩ := hlive _ _ hst3
        have N3 : News base C h3 ((I, io3) :: (D, accOf ys a) :: els) := fun p hp => by
          rcases List.mem_cons.mp hp with rfl | hp
          · exact ⟨hio3, hIC, hI0⟩
          · have q := N p (List.mem_cons_of_mem _ hp)
            have hpI : p.1 ≠ I := by
              rcases List.mem_cons.mp hp with rfl | hp
              · exact fun e => hID e.symm
              · exact (hels p hp).2
            exact ⟨(hs3.2 _ q.2.1).trans (hk2 _ _ (fun z => hpI (List.mem_singleton.mp z)) q.1), q.2⟩
        refine wpAny_with_toks (n := 1) (Nat.succ_pos _) (wpAny_mono (step i v ys els io3 (accOf ys a) h3 _ C D m' hlt hP hJ (Nat.succ_pos _) F3 N3) (fun ok s4 h4 ht4 => ?_) fun _ _ e => e.elim)
        cases ok with
        | false =>
          obtain ⟨h5, tk5, m5, rfl, F5, N5, hJ5⟩ := h4
          refine ⟨n + 1 - (i + 1), by omega, i + 1, ys, els, m5, h5, tk5, io3, a, rfl, ht4, ?_, F5, N5, hels, hJ5, hlt, Nat.le_succ_of_le hys, rfl⟩
          refine W.frame _ _ _ hst3 fun b hm o e => ?_
          by_cases hbI : b = I
          · subst hbI; rw [hio3] at e; cases e; exact (N5 _ (List.Mem.head _)).1
          · obtain ⟨o', ho'⟩ := Option.isSome_iff_exists.mp (hfp b hm hbI)
            have := F3.keep _ _ ho'; rw [this] at e; cases e; exact F5.keep _ _ ho'
        | true =>
          refine wpAny_with_toks (n := 1) ht4 (wpAny_mono h4 (fun y s5 h5 ht5 => ?_) fun _ _ e => e.elim)
          obtain ⟨h5, tk5, m5, new, rfl, F5, N5, hnew, hJ5⟩ := h5
          have hacc : h5.PlainList D ys.toArray := ⟨a, (N5 (D, accOf ys a) (List.mem_append_right _ (List.Mem.tail _ (List.Mem.head _)))).1⟩
          refine wpAny_list_append_plain (s := ⟨h5, _, _, _, _⟩) hacc (fun h6 hp6 hs6 => ?_) (by rw [sizeLine_eq]; simp; omega)
          obtain ⟨a6, ha6⟩ := hp6
          have hst5 : St (i + 1) h6 := by
            refine W.frame _ _ _ hst3 fun b hm o e => (hs6.2 b (hfpD b hm)).trans ?_
            by_cases hbI : b = I
            · subst hbI; rw [hio3] at e; cases e; exact (N5 _ (List.mem_append_right _ (List.Mem.head _))).1
            · obtain ⟨o', ho'⟩ := Option.isSome_iff_exists.mp (hfp b hm hbI)
              have := F3.keep _ _ ho'; rw [this] at e; cases e; exact F5.keep _ _ ho'
          have F6 : Fr base C h6 m5 := by
            obtain ⟨o, es, ep, ho, r⟩ := F5.ns
            refine ⟨⟨o, es, ep, (hs6.2 _ (Ne.symm hDC)).trans ho, r⟩, fun b o e => (hs6.2 _ (fun q => ?_)).trans (F5.keep b o e), F5.above⟩
            rw [q, hD0] at e; cases e
          refine ⟨n + 1 - (i + 1), by omega, i + 1, ys ++ [y], new ++ els, m5, h6, tk5, io3, a6, rfl, ht5, hst5, F6, fun p hp => ?_, fun p hp => ?_, hJ5, hlt, by simp; omega, rfl⟩
          · rcases List.mem_cons.mp hp with rfl | hp
            · have q := N5 (I, io3) (List.mem_append_right _ (List.Mem.head _))
              exact ⟨(hs6.2 _ hID).trans q.1, q.2⟩
            · rcases List.mem_cons.mp hp with rfl | hp
              · have q := N5 (D, accOf ys a) (List.mem_append_right _ (List.Mem.tail _ (List.Mem.head _)))
                refine ⟨?_, q.2⟩
                rw [ha6]; simp [accOf]
              · rcases List.mem_append.mp hp with hp | hp
                · have q := N5 p (List.mem_append_left _ hp)
                  exact ⟨(hs6.2 _ (hnew p hp).1).trans q.1, q.2⟩
                · have q := N5 p (List.mem_append_right _ (List.Mem.tail _ (List.Mem.tail _ hp)))
                  exact ⟨(hs6.2 _ (hels p hp).1).trans q.1, q.2⟩
          · rcases List.mem_append.mp hp with hp | hp
            · exact hnew p hp
            · exact hels p hp
      · have hin : i = n := Nat.le_antisymm hi hge
        subst hin
        refine wpAny_with_toks (n := 1) htk (W.done _ _ _ hst fun h2 tk2 hk2 htk2 => ?_)
        have hnI : ∀ b o, b ≠ I → h.get? b = some o → h2.get? b = some o := fun b o hne e => hk2 b o (fun q => hne (List.mem_singleton.mp q)) e
        refine done D C ys els a h2 tk2 m' hJ htk2 (fun b o e => ?_) (fun p hp => ?_) (fun p hp => (hels p hp).1) ?_ hCbase
        · exact hnI _ _ (fun q => by rw [q, hI0] at e; cases e) (F.keep b o e)
        · have q := N p (List.mem_cons_of_mem _ hp)
          have hpI : p.1 ≠ I := by
            rcases List.mem_cons.mp hp with rfl | hp
            · exact fun e => hID e.symm
            · exact (hels p hp).2
          exact ⟨hnI _ _ hpI q.1, q.2.2, q.2.1⟩
        · obtain ⟨o, es, ep, ho, r⟩ := F.ns
          exact ⟨o, es, ep, hnI _ _ (Ne.symm hIC) ho, r⟩
    · intro p hp
      rcases List.mem_cons.mp hp with rfl | hp
      · exact ⟨hH2C _ _ (hpk _ _ hoI), hIC, hI0⟩
      · rw [List.mem_singleton.mp hp]
        exact ⟨hH2C _ _ hget, hDC, hD0⟩
  exact codeAny_compStart_list (loop _ rfl) (W.self 0 _ _ _ (W.frame _ _ _ st fun b _ o e => hH2C _ _ (hpk _ _ e)) (loop _ rfl))
theorem comp_go {base : Heap} {I : Addr} {fp : List Addr} {n : Nat} {P : Nat → Value → Prop} {St : Nat → Heap → Prop} {s₂ : Shared} (W : Walks prog w A I fp [I] n P St)
    (hcell : ∀ y ∈ scope.names, y.2 ≠ .cell) (hkind : scope.kind = .function) (hx : scope.names.lookup x = some .local)
    (hlive : ∀ i h, St i h → ∃ o, h.get? I = some o) (hn : n ≤ 100000) (st : St 0 s₂.heap) (ht : 0 < s₂.toks) (hI0 : base.get? I = none) (hb : base.StaysIn s₂.heap) (hbs : base.objs.size ≤ s₂.heap.objs.size)
    (hfp : ∀ b ∈ fp, b ≠ I → (base.get? b).isSome = true)
    (J : Nat → List Value → List (Addr × Obj) → Prop) (j0 : J 0 [] [])
    (step : ∀ i v ys els io ao h tk C D (m₀ : Str → Option Value), i < n → P i v → J i ys els → 0 < tk → Fr base C h (fun y => if y = x then some v else m₀ y) → News base C h ((I, io) :: (D, ao) :: els) →
      wpAny (model prog w) A (testsOf ifs (compEnvC scope cl C env)) (fun ok s₃ => if ok = true then wpAny (model prog w) A (eval elt (compEnvC scope cl C env)) (CompEnd base C s₂ I D io ao els (fun y els' => J (i + 1) (ys ++ [y]) els')) (fun _ _ => False) s₃ else CompSkip base C s₂ I D io ao els (J (i + 1) ys) s₃) (fun _ _ => False) { s₂ with heap := h, toks := tk })
    (done : ∀ D ys els k h' tk, J n ys els → 0 < tk → base.StaysIn h' → (∀ p ∈ (D, accOf ys k) :: els, h'.get? p.1 = some p.2 ∧ base.get? p.1 = none) → (∀ p ∈ els, p.1 ≠ D) → Q (.ref D) { s₂ with heap := h', toks := tk }) :
    CompGo prog w A env elt iter ifs x px scope cl pos Q (.ref I) s₂ := by
  refine comp_goR (RR := fun acc C => compPost (model prog w) A (fun _ _ => False) none Q acc C) W hcell hkind hx hlive hn st ht hI0 hb hbs hfp J j0 step ?_
  intro D C ys els k h' tk m' hJ htk st' hp hne hn' hC0
  refine ⟨m', hn', fun h2 hs => done D ys els k h2 tk hJ htk (fun b o e => (hs.2 _ fun q => ?_).trans (st' b o e)) (fun p hp' => ⟨(hs.2 _ (hp p hp').2.2).trans (hp p hp').1, (hp p hp').2.1⟩) hne⟩
  rw [q, hC0] at e; cases e
theorem comp_back {g h' : Heap} {L D : Addr} {m : Str → Option Value} {news els : List (Addr × Obj)} {ao : Obj} (F : Fr g L s.heap m) (N : News g L s.heap news) (st : s.heap.StaysIn h') (hp : ∀ p ∈ (D, ao) :: els, h'.get? p.1 = some p.2 ∧ s.heap.get? p.1 = none) :
    Fr g L h' m ∧ News g L h' ((D, ao) :: els ++ news) ∧ Apart news D := by
  obtain ⟨oL, es, ep, hL, r⟩ := F.ns
  refine ⟨⟨⟨oL, es, ep, st _ _ hL, r⟩, fun b o e => st b o (F.keep b o e), F.above⟩, fun p hm => ?_, fun p hm e => ?_⟩
  · rcases List.mem_append.mp hm with hm | hm
    · refine ⟨(hp p hm).1, fun e => ?_, ?_⟩
      · have := (hp p hm).2; rw [e, hL] at this; cases this
      · cases q : g.get? p.1 with
        | none => rfl
        | some o => have := F.keep _ _ q; rw [(hp p hm).2] at this; cases this
    · exact ⟨st _ _ (N p hm).1, (N p hm).2⟩
  · have := (N p hm).1; rw [e, (hp _ (List.Mem.head _)).2] at this; cases this
theorem comp_str {g : Heap} {L : Addr} {m : Str → Option Value} {news : List (Addr × Obj)} {sg : List Nat} {t : Tok} (hA : A.handled = none) (F : Fr g L s.heap m) (N : News g L s.heap news) (h0 : 0 < s.toks)
    (hcell : ∀ y ∈ scope.names, y.2 ≠ .cell) (hkind : scope.kind = .function) (hx : scope.names.lookup x = some .local) (hn : sg.length ≤ 100000)
    (J : Nat → List Value → List (Addr × Obj) → Prop) (j0 : J 0 [] [])
    (step : ∀ i c u ys els I D io ao h tk C (m₀ : Str → Option Value), sg[i]? = some c → J i ys els → 0 < tk → Fr s.heap C h (fun y => if y = x then some (.str (S [c]) u) else m₀ y) → News s.heap C h ((I, io) :: (D, ao) :: els) →
      wpAny (model prog w) A (testsOf ifs (compEnvC scope cl C env)) (fun ok s₃ => if ok = true then wpAny (model prog w) A (eval elt (compEnvC scope cl C env)) (CompEnd s.heap C s I D io ao els (fun y els' => J (i + 1) (ys ++ [y]) els')) (fun _ _ => False) s₃ else CompSkip s.heap C s I D io ao els (J (i + 1) ys) s₃) (fun _ _ => False) { s with heap := h, toks := tk })
    (done : ∀ D ys els k h' tk, J sg.length ys els → 0 < tk → (∀ p ∈ els, p.1 ≠ D) → s.heap.StaysIn h' → Fr g L h' m → News g L h' ((D, accOf ys k) :: els ++ news) → Apart news D → Q (.ref D) { s with heap := h', toks := tk }) :
    wpAny (model prog w) A (pyIter (.str (S sg) t)) (CompGo prog w A env elt iter ifs x px scope cl pos Q) (fun _ _ => False) s := by
  have hsz : (S sg).cps.size = sg.length := by simp [S]
  have hI0 : s.heap.get? s.heap.objs.size = none := by
    cases q : s.heap.get? s.heap.objs.size with
    | none => rfl
    | some o => exact absurd (Heap.lt_size q) (Nat.lt_irrefl _)
  have key : ∀ (o : Obj) (T : String), Walks prog w A s.heap.objs.size [s.heap.objs.size] [s.heap.objs.size] (S sg).cps.size (SignAt (S sg)) (fun i h => h.IsStrIter s.heap.objs.size T (S sg) t i) → (s.heap.push o).IsStrIter s.heap.objs.size T (S sg) t 0 →
      CompGo prog w A env elt iter ifs x px scope cl pos Q (.ref s.heap.objs.size) { s with heap := s.heap.push o } := by
    intro o T W hst
    rw [hsz] at W
    refine comp_go (base := s.heap) W hcell hkind hx (fun i h hs => by obtain ⟨o, ho, _⟩ := hs; exact ⟨o, ho⟩) hn hst h0 hI0 (fun b o e => Heap.get?_push_of_some _ e) (by rw [Heap.size_push]; exact Nat.le_succ _) (fun b hb hne => absurd (List.mem_singleton.mp hb) hne) J j0 ?_ ?_
    · rintro i v ys els io ao h tk C D m₀ hlt ⟨c, u, hc, rfl⟩ hJ htk F₁ N₁
      have hc' : sg[i]? = some c := by simpa [S] using hc
      exact step i c u ys els _ D io ao h tk C m₀ hc' hJ htk F₁ N₁
    · intro D ys els k h' tk hJ htk st hp hne
      obtain ⟨F', N', hA'⟩ := comp_back F N st hp
      exact done D ys els k h' tk hJ htk hne st F' N' hA'
  cases ha : (S sg).cps.all (· < 128)
  · exact wpAny_pyIter_wide ha (key _ _ (Walks.strWide hA _ _ t) ⟨_, Heap.get?_push_size _ rfl, rfl, rfl⟩)
  · exact wpAny_pyIter_ascii ha (key _ _ (Walks.strAscii hA _ _ t) ⟨_, Heap.get?_push_size _ rfl, rfl, rfl⟩)
theorem comp_lst {g : Heap} {L l : Addr} {m : Str → Option Value} {news : List (Addr × Obj)} {vs : List Value} (hA : A.handled = none) (F : Fr g L s.heap m) (N : News g L s.heap news) (h0 : 0 < s.toks) (hl : s.heap.IsList l vs.toArray)
    (hcell : ∀ y ∈ scope.names, y.2 ≠ .cell) (hkind : scope.kind = .function) (hx : scope.names.lookup x = some .local) (hn : vs.length ≤ 100000)
    (J : Nat → List Value → List (Addr × Obj) → Prop) (j0 : J 0 [] [])
    (step : ∀ i v ys els I D io ao h tk C (m₀ : Str → Option Value), vs[i]? = some v → J i ys els → 0 < tk → Fr s.heap C h (fun y => if y = x then some v else m₀ y) → News s.heap C h ((I, io) :: (D, ao) :: els) →
      wpAny (model prog w) A (testsOf ifs (compEnvC scope cl C env)) (fun ok s₃ => if ok = true then wpAny (model prog w) A (eval elt (compEnvC scope cl C env)) (CompEnd s.heap C s I D io ao els (fun y els' => J (i + 1) (ys ++ [y]) els')) (fun _ _ => False) s₃ else CompSkip s.heap C s I D io ao els (J (i + 1) ys) s₃) (fun _ _ => False) { s with heap := h, toks := tk })
    (done : ∀ D ys els k h' tk, J vs.length ys els → 0 < tk → (∀ p ∈ els, p.1 ≠ D) → s.heap.StaysIn h' → Fr g L h' m → News g L h' ((D, accOf ys k) :: els ++ news) → Apart news D → Q (.ref D) { s with heap := h', toks := tk }) :
    wpAny (model prog w) A (pyIter (.ref l)) (CompGo prog w A env elt iter ifs x px scope cl pos Q) (fun _ _ => False) s := by
  have hI0 : s.heap.get? s.heap.objs.size = none := by
    cases q : s.heap.get? s.heap.objs.size with
    | none => rfl
    | some o => exact absurd (Heap.lt_size q) (Nat.lt_irrefl _)
  obtain ⟨ol, hol, _⟩ := id hl
  have hne : l ≠ s.heap.objs.size := Nat.ne_of_lt (Heap.lt_size hol)
  refine wpAny_pyIter_list hl ?_
  have W := Walks.list (prog := prog) (w := w) hA s.heap.objs.size l hne vs.toArray
  refine comp_go (base := s.heap) W hcell hkind hx (fun i h hs => by obtain ⟨⟨o, ho, _⟩, _⟩ := hs; exact ⟨o, ho⟩) (by simpa using hn) ⟨⟨_, Heap.get?_push_size _ rfl, rfl, rfl⟩, hl.push _⟩ h0 hI0 (fun b o e => Heap.get?_push_of_some _ e) (by rw [Heap.size_push]; exact Nat.le_succ _) (fun b hb hne' => ?_) J j0 ?_ ?_
  · rcases List.mem_cons.mp hb with rfl | hb
    · exact absurd rfl hne'
    · rw [List.mem_singleton.mp hb, hol]; rfl
  · intro i v ys els io ao h tk C D m₀ hlt hP hJ htk F₁ N₁
    exact step i v ys els _ D io ao h tk C m₀ (by simpa using hP) hJ htk F₁ N₁
  · intro D ys els k h' tk hJ htk st hp hne'
    obtain ⟨F', N', hA'⟩ := comp_back F N st hp
    exact done D ys els k h' tk (by simpa using hJ) htk hne' st F' N' hA'
end
local macro_rules | `(tactic| walk_at "binaryOp Add ref ref") => `(tactic| (k_dflt ((refine' s_cat ?F ?N ?ha ?hb ?hz ?_); (case F => k_asm); (case N => k_asm); (case ha => walk_at "m_list"); (case hb => walk_at "m_list"); (case hz => ((try simp only [List.length_append, List.length_cons, List.length_nil]); omega)); intro D9 h9 hne9 F9 N9; (have hB9 := apartAll hne9); (try simp only [ApartAll, and_true] at hB9); (try k_sweep))))
local macro_rules | `(tactic| walk_at "m_enteredC") => `(tactic| (
  refine' enterC ?k1 ?k2 ?k6 ?k7 ?k8 ?kz ?k9 ?kB ?kN ?_ ?c2 ?c3 ?c4
  (case k1 => assumption); (case k2 => assumption); (case k6 => k_is); (case k7 => k_is); (case k8 => omega); (case kz => assumption); (case k9 => exact BindsTo.of_eq rfl); (case kB => exact rfl); (case kN => decide +kernel); (case c2 => rfl); (case c3 => rfl); (case c4 => rfl)))
local macro_rules | `(tactic| walk_at "exec Assign cons Dict") => `(tactic| (k_dflt (refine wpAny_Assign_Name ?_)))
local macro_rules | `(tactic| walk_at "eval Dict") => `(tactic| (k_dflt ((first | ((with_reducible show wpAny _ _ (eval (Expr.Dict _ [Expr.Constant (Const.str _) _ _, _, _] _) _) _ _ _); refine' d_dispS ?F ?N ?h1 ?h2 ?h3 ?_) | ((with_reducible show wpAny _ _ (eval (Expr.Dict _ [Expr.Constant (Const.int _) _ _, _, _] _) _) _ _ _); refine' d_dispI ?F ?N ?h1 ?h2 ?h3 ?_)); (case F => k_asm); (case N => k_asm); (case h1 => decide +kernel); (case h2 => decide +kernel); (case h3 => decide +kernel); intro D9 o9 h9 k9 t1 t2 t3 hk9 hA9 hD9 F9 N9; (have hB9 := apartAll hA9); (try simp only [ApartAll, and_true] at hB9); (try k_sweep))))
local macro_rules | `(tactic| walk_at "eval Name") => `(tactic| ((with_reducible show wpAny _ _ (eval (Expr.Name _ _) (compEnvC _ _ _ _)) _ _ _); k_dflt (first
  | (refine' ldVarK (Fr.ns ?F) ?hv ?_; (case F => assumption); (case hv => exact if_pos rfl))
  | (refine' ldFreeK ?hc ?hv ?_; (case hc => exact rfl); (case hv => assumption))
  | (refine' ldCellK ?hc ?hv ?_; (case hc => exact rfl); (case hv => assumption)))))
noncomputable def wrOne (bare : List Nat) (c : Nat) : List Nat := if [c] = bare then [c] else if c = 34 then [38, 113, 117, 111, 116, 59] else if c = 60 then [38, 108, 116, 59] else [38, 103, 116, 59]
noncomputable def wr (bare l : List Nat) : List Nat := l.flatMap (wrOne bare)
theorem va_1 {a x : Str} {v : Value} {r : List (Str × Value)} (h : a = x) : valueAt ((a, v) :: r) x = some v := by simp [valueAt, h]
theorem va_s {a x : Str} {v : Value} {r : List (Str × Value)} (h : a ≠ x) : valueAt ((a, v) :: r) x = valueAt r x := by simp [valueAt, h]
theorem c34 : Str.ofString "\"" = S [34] := by decide +kernel
theorem c60 : Str.ofString "<" = S [60] := by decide +kernel
theorem c62 : Str.ofString ">" = S [62] := by decide +kernel
theorem va34 {v1 v2 v3 : Value} : valueAt [(Str.ofString "\"", v1), (Str.ofString "<", v2), (Str.ofString ">", v3)] (S [34]) = some v1 := va_1 c34
theorem va60 {v1 v2 v3 : Value} : valueAt [(Str.ofString "\"", v1), (Str.ofString "<", v2), (Str.ofString ">", v3)] (S [60]) = some v2 := (va_s (by rw [c34, Ne, S_inj]; decide)).trans (va_1 c60)
theorem va62 {v1 v2 v3 : Value} : valueAt [(Str.ofString "\"", v1), (Str.ofString "<", v2), (Str.ofString ">", v3)] (S [62]) = some v3 := (va_s (by rw [c34, Ne, S_inj]; decide)).trans ((va_s (by rw [c60, Ne, S_inj]; decide)).trans (va_1 c62))
theorem w34 {bare : List Nat} (h : ¬[34] = bare) : wrOne bare 34 = [38, 113, 117, 111, 116, 59] := if_neg h
theorem w60 {bare : List Nat} (h : ¬[60] = bare) : wrOne bare 60 = [38, 108, 116, 59] := if_neg h
theorem w62 {bare : List Nat} (h : ¬[62] = bare) : wrOne bare 62 = [38, 103, 116, 59] := if_neg h
theorem quotS : Str.ofString "&quot;" = S [38, 113, 117, 111, 116, 59] := by decide +kernel
theorem ltS : Str.ofString "&lt;" = S [38, 108, 116, 59] := by decide +kernel
theorem gtS : Str.ofString "&gt;" = S [38, 103, 116, 59] := by decide +kernel
theorem strs_pairs {vs : List Value} {ys : List Str} (h : StrsAre vs ys) : ∃ l : List (Str × Tok), vs = strValues l ∧ l.map (·.1) = ys := by
  induction h with
  | nil => exact ⟨[], rfl, rfl⟩
  | cons y t h ih => obtain ⟨l, rfl, rfl⟩ := ih; exact ⟨(y, t) :: l, rfl, rfl⟩
theorem glue_cps (l : List (List Nat)) : ∀ a : Array Nat, (l.map S).foldl (fun acc p => acc ++ (Str.ofString "").cps ++ p.cps) a = a ++ (l.flatten).toArray := by
  have e : (Str.ofString "").cps = #[] := by decide
  rw [e]
  induction l with
  | nil => intro a; simp
  | cons x l ih => intro a; rw [List.map_cons, List.foldl_cons, ih]; simp [S]
theorem glue_S (l : List (List Nat)) : Txt.join (Str.ofString "") (l.map S) = S l.flatten := by
  show Builtin.Str.glued (Str.ofString "") (l.map S) = _
  cases l with
  | nil => rw [StrLaws.glued_eq_join]; exact Str.ext' (by decide)
  | cons x l =>
    rw [StrLaws.glued_eq_join, List.map_cons, ← StrLaws.glued_cons]
    apply Str.ext'
    show (l.map S).foldl (fun acc p => acc ++ (Str.ofString "").cps ++ p.cps) (S x).cps = _
    rw [glue_cps]; simp [S]
theorem s_join {prog : Program} {w : World} {A : Around} {E : Value → Shared → Prop} {s : Shared} {t : Tok} {Q : Value → Shared → Prop} {D : Addr} {vs : List Value} {W : List (List Nat)} (hl : s.heap.IsList D vs.toArray) (hS : StrsAre vs (W.map S)) (hB : ∀ y ∈ W, y.length ≤ 10) (hn : W.length ≤ 1000)
    (h : ∀ t' k, Q (.str (S W.flatten) t') { s with toks := k }) : wpAny (model prog w) A (call (.builtin "str.join") [.str (Str.ofString "") t, .ref D]) Q E s := by
  obtain ⟨l, rfl, hl'⟩ := strs_pairs hS
  refine SC.join (texts := W.map S) hl hl' ?_ ?_
  · unfold JoinOk
    rw [StrLaws.joinFits (B := 10)]
    · rfl
    · intro y hy; obtain ⟨z, hz, rfl⟩ := List.mem_map.mp hy; rw [S_len]; exact hB z hz
    · have e : (Str.ofString "").length = 0 := by decide
      rw [e, List.length_map]; omega
  · intro t' k; rw [glue_S]; exact h t' k
theorem wr_len (bare : List Nat) (c : Nat) : (wrOne bare c).length ≤ 6 := by
  unfold wrOne; split; · exact Nat.le_add_left 1 5
  split; · decide
  split <;> decide
theorem wri_spec {w : World} {A : Around} {s : Shared} {ls : List Str} {mg mb : Str → Option Value} {x bare : List Nat} {t u : Tok}
   (X : (hd.heap_39 w.params).In s.heap) (T : TopRead theView ls mg mb s.heap) (hr : A.depth + 2 < recursionLimit) (hh : A.handled = none) (h0 : 0 < s.toks) (hx : x.length ≤ 1000) (hO : ∀ c ∈ x, c = 34 ∨ c = 60 ∨ c = 62) :
   CallOK w A (.ref 211) [.str (S x) t, .str (S bare) u] s (fun v h => ∃ t', v = .str (S (wr bare x)) t') := by
  walk_at "m_enteredC"
  intro L' h₁ tk cells ht F N Y
  k_cells Y
  try simp only [List.cons_append, List.nil_append] at N
  try dsimp only
  repeat' ((fail_if_success (with_reducible show wpAny _ _ (eval (Expr.ListComp _ _ _ _) _) _ _ _)); walk1)
  rename_i o1 o2 d1 d2 D9 o9 h9 k9 t1 t2 t3 hk9 hA9 hD9 hB9 h2 o3 F9 N9 d3
  replace d2 : o2.data = Data.cell (some (.str (S bare) u)) := d2
  refine comp_open (cl := [(Str.ofString "references", L' + 1 + 1), (Str.ofString "bare", L' + 1)]) (by with_unfolding_all rfl) rfl (by decide) ?_
  walk1
  refine comp_str (by walk_at "m_calm") F9 N9 (Nat.succ_pos _) (by decide) rfl rfl (by omega)
    (fun i ys els => els = [] ∧ StrsAre ys (((x.take i).map (wrOne bare)).map S)) ⟨rfl, .nil⟩ ?_ ?_
  · rintro i c v ys els I D io ao h tk' C m₀ hi ⟨rfl, hys⟩ htk' Fc Nc
    have Cb : h.IsCell (L' + 1) (some (.str (S bare) u)) := ⟨_, Fc.keep _ _ (N9.get (by k_mem)), d2⟩
    have Cr : h.IsCell (L' + 1 + 1) (some (.ref D9)) := ⟨_, Fc.keep _ _ (N9.get (by k_mem)), d3⟩
    have Cd : h.DictOf (PySem.strKind Challenge.rw_wu0072_01.row.prog w) D9 _ := Heap.dictOf_iff.mpr ⟨_, Fc.keep _ _ (N9.get (by k_mem)), hD9⟩
    refine wpAny_pure ?_
    show wpAny _ _ _ _ _ _
    have ok : ∀ u', StrsAre (ys ++ [.str (S (wrOne bare c)) u']) (((x.take (i + 1)).map (wrOne bare)).map S) := by
      intro u'
      rw [List.take_succ, hi, List.map_append]
      exact strs_app hys (strs_one _ _)
    repeat' walk1
    · rename_i hq
      refine ⟨h, _, _, [], rfl, Fc, Nc, (fun _ h => nomatch h), rfl, ?_⟩
      have := ok v
      rw [show wrOne bare c = [c] from if_pos hq] at this; exact this
    · rename_i hq
      have hc : c = 34 ∨ c = 60 ∨ c = 62 := hO c (List.mem_of_getElem? hi)
      rcases hc with rfl | rfl | rfl
      · refine d_get Cd va34 ⟨h, _, _, [], rfl, Fc, Nc, (fun _ h => nomatch h), rfl, ?_⟩
        have := ok t1
        rw [w34 hq] at this; rw [quotS]; exact this
      · refine d_get Cd va60 ⟨h, _, _, [], rfl, Fc, Nc, (fun _ h => nomatch h), rfl, ?_⟩
        have := ok t2
        rw [w60 hq] at this; rw [ltS]; exact this
      · refine d_get Cd va62 ⟨h, _, _, [], rfl, Fc, Nc, (fun _ h => nomatch h), rfl, ?_⟩
        have := ok t3
        rw [w62 hq] at this; rw [gtS]; exact this
  · rintro D ys els k h' tk' ⟨rfl, hys⟩ htk' hD hst F8 N8 hA8
    rw [List.take_length] at hys
    walk1
    refine s_join (newsList N8 (.head _)) hys (fun y hy => ?_) (by rw [List.length_map]; exact hx) fun t' k' => ?_
    · obtain ⟨c, _, rfl⟩ := List.mem_map.mp hy
      exact Nat.le_trans (wr_len _ _) (by decide)
    · rw [← List.flatMap_def]
      exact ⟨_, _, rfl, F8.keep, _, rfl⟩
theorem nameB_C {M : Model} {A : Around} {E : Value → Shared → Prop} {s : Shared} {env : Env} {K : Frag} {h₀ : Heap} {L : Addr} {m mg mb : Str → Option Value} {p : Program} {loose : List Str} {x : Str} {pos : Pos} {v : Value} {Q : Value → Shared → Prop}
    (F : Fr h₀ L s.heap m) (X : K.In h₀) (T : TopRead p loose mg mb h₀) (e : nsIn K mainGlobals x = some none) (hv : bootBuiltins x = some v) (hn : x ≠ "__name__") (h : Q v s)
    (hg : env.globals = mainGlobals) (hb : env.builtins = builtinsNs) (hk : env.scope.kind = .function) (hx : env.kindOf x = some .globalImplicit) (hd : (x == ("__debug__" : Str)) = false) :
    wpAny M A (eval (.Name x pos) env) Q E s :=
  Name_function_global hk hx (loadGlobal_builtin (env := env) (by rw [hg]; exact T.g.keeps F.keep) (mg_none_of X T.g e) (by rw [hb]; exact T.b.keeps F.keep) ((T.builtins x hn).trans hv) h) hd
local macro_rules | `(tactic| walk_at "eval Name") => `(tactic| ((with_reducible show wpAny _ _ (eval (Expr.Name _ _) (compEnvC _ _ _ _)) _ _ _); k_dflt (first
  | (refine' nameB_C ?F ?k1 ?k2 ?k3 ?k4 ?k5 ?_ ?hg ?hb ?hk ?hx ?hd; (case hk => rfl); (case hx => rfl); (case F => assumption); (case k1 => assumption); (case k2 => assumption); (case k3 => k_is); (case k4 => boot_by_name); (case k5 => decide); (case hg => rfl); (case hb => rfl); (case hd => decide))
  | (refine' nameG_K ?F ?k1 ?k2 ?k3 ?_ ?k4 ?k5 ?k6 ?k7; (case k4 => rfl); (case k5 => rfl); (case k6 => rfl); (case k7 => decide); (case F => assumption); (case k1 => assumption); (case k2 => assumption); (case k3 => k_is)))))
theorem cell_keep {g h : Heap} {L c : Addr} {m : Str → Option Value} {v : Option Value} (X : g.IsCell c v) (F : Fr g L h m) : h.IsCell c v := let ⟨o, ho, hd⟩ := X; ⟨o, F.keep _ _ ho, hd⟩
local macro_rules | `(tactic| walk_at "eval Name") => `(tactic| ((with_reducible show wpAny _ _ (eval (Expr.Name _ _) (compEnvC _ _ _ _)) _ _ _); k_dflt (first
  | (refine' ldVarK (Fr.ns ?F) ?hv ?_; (case F => assumption); (case hv => exact if_pos rfl))
  | (refine' ldFreeK ?hc ?hv ?_; (case hc => exact rfl); (case hv => first | assumption | exact cell_keep (by assumption) (by assumption)))
  | (refine' ldCellK ?hc ?hv ?_; (case hc => exact rfl); (case hv => first | assumption | exact cell_keep (by assumption) (by assumption))))))
local macro_rules | `(tactic| walk_at "eval BinOp") => `(tactic| (refine wpAny_BinOp ?_))
local macro_rules | `(tactic| walk_at "subscriptTail Name Slice str ref") => `(tactic| (k_dflt ((refine' s_slice_to ?hj ?F ?N ?h0 ?hz ?_ ?hs ?ht); (case hj => exact rfl); (case F => k_asm); (case N => k_asm); (case h0 => walk_at "m_pos"); (case hz => walk_at "m_small"); (case hs => with_unfolding_all rfl); (case ht => (intro r9; with_unfolding_all rfl)); intro h' t' k' hk' F' N'; (try k_sweep))))
local macro_rules | `(tactic| walk_at "binaryOp Add int int") => `(tactic| (refine add_int ?_))
local macro_rules | `(tactic| walk_at "binaryOp FloorDiv int int") => `(tactic| (refine floordiv_int (by decide) ?_ (Or.inl (PyProof.noPylong_small (by omega)))))
local macro_rules | `(tactic| walk_at "assign Tuple") => `(tactic| ((with_reducible show wpAny _ _ (assign (Expr.Tuple _ _ _) _ (Value.ref _)) _ _ _); k_dflt (refine' unpackN_ ?F ?N ?T ?k1 ?k2 ?k3 ?_; (case F => k_asm); (case N => k_asm); (case T => first | with_reducible assumption | (refine News.isTup (by k_asm) (by k_mem))); (case k1 => walk_at "m_calm"); (case k2 => exact rfl); (case k3 => exact rfl)); intro h' F' N'; (try k_sweep)))
local macro_rules | `(tactic| walk_at "binaryOp Sub int int") => `(tactic| (refine sub_int ?_))
noncomputable def StrsL (h : Heap) (a : Addr) (W : List (List Nat)) : Prop := ∃ vs, h.IsList a vs.toArray ∧ StrsAre vs (W.map S)
noncomputable def code (c : Nat) : Int := if c = 34 then 0 else if c = 60 then 2 else 3
noncomputable def stepI : Nat → Int
  | 0 => 16384
  | i + 1 => Int.fdiv (stepI i) 4
noncomputable def placeI (x : List Nat) : Nat → Int
  | 0 => 0
  | i + 1 => placeI x i + stepI i * code (x.getD i 0)
theorem va_code {c : Nat} (hc : c = 34 ∨ c = 60 ∨ c = 62) {t1 t2 t3 : Tok} : ∃ t', valueAt [(Str.ofString "\"", Value.int 0 t1), (Str.ofString "<", Value.int 2 t2), (Str.ofString ">", Value.int 3 t3)] (S [c]) = some (.int (code c) t') := by
  rcases hc with rfl | rfl | rfl
  · exact ⟨_, va34⟩
  · exact ⟨_, va60⟩
  · exact ⟨_, va62⟩
noncomputable abbrev tldM (bm : Str → Option Value) (p st : Int) (tp ts : Tok) (sv : Option Value) : Str → Option Value := fun y => if y = Str.ofString "place" then some (.int p tp) else if y = Str.ofString "step" then some (.int st ts) else if y = Str.ofString "sign" then sv else bm y
theorem tldM_start (bm : Str → Option Value) (p st : Int) (tp ts : Tok) : (fun y => if y = Str.ofString "step" then some (.int st ts) else if y = Str.ofString "place" then some (.int p tp) else bm y) = tldM bm p st tp ts (bm (Str.ofString "sign")) := by
  have hne : Str.ofString "step" ≠ Str.ofString "place" := by decide +kernel
  funext y
  by_cases h1 : y = Str.ofString "step"
  · subst h1; simp [tldM, hne]
  · by_cases h2 : y = Str.ofString "sign"
    · subst h2; simp [tldM, h1]
    · simp [tldM, h1, h2]
theorem tldM_turn (bm : Str → Option Value) (p st p' st' : Int) (tp ts tp' ts' : Tok) (sv v : Option Value) :
    (fun y => if y = Str.ofString "step" then some (.int st' ts') else if y = Str.ofString "place" then some (.int p' tp') else if y = Str.ofString "sign" then v else tldM bm p st tp ts sv y) = tldM bm p' st' tp' ts' v := by
  have hne : Str.ofString "step" ≠ Str.ofString "place" := by decide +kernel
  have hne2 : Str.ofString "sign" ≠ Str.ofString "place" := by decide +kernel
  funext y
  by_cases h1 : y = Str.ofString "step"
  · subst h1; simp [tldM, hne]
  · by_cases h2 : y = Str.ofString "sign"
    · subst h2; simp [tldM, h1, hne2]
    · by_cases h3 : y = Str.ofString "place"
      · subst h3; simp [tldM, h1]
      · simp [tldM, h1, h2, h3]
local macro_rules | `(tactic| walk_at "binaryOp Mult int int") => `(tactic| (refine mul_int ?_ (IntMulOk.of_right (code_bits _))))
theorem code_bits (c : Nat) : Builtin.Int.intBits (code c) ≤ 64 := by
  unfold code; split; · decide
  split <;> decide
theorem stepI_bound : ∀ i, 0 ≤ stepI i ∧ stepI i ≤ 16384
  | 0 => by decide
  | i + 1 => by have := stepI_bound i; show 0 ≤ Int.fdiv (stepI i) 4 ∧ Int.fdiv (stepI i) 4 ≤ 16384; rw [Int.fdiv_eq_ediv_of_nonneg _ (by decide)]; omega
theorem strs_get {vs : List Value} {ys : List Str} (h : StrsAre vs ys) : ∀ {i : Nat} {v : Value}, vs[i]? = some v → ∃ y t, ys[i]? = some y ∧ v = .str y t := by
  induction h with
  | nil => intro i v e; cases e
  | cons y t h ih =>
    intro i v e
    cases i with
    | zero => cases e; exact ⟨y, t, rfl, rfl⟩
    | succ i => exact ih (i := i) (by simpa using e)
theorem strs_getS {vs : List Value} {W : List (List Nat)} (h : StrsAre vs (W.map S)) {i : Nat} {v : Value} (e : vs[i]? = some v) : ∃ y t, W[i]? = some y ∧ v = .str (S y) t := by
  obtain ⟨y, t, hy, rfl⟩ := strs_get h e
  rw [List.getElem?_map] at hy
  cases q : W[i]? with
  | none => rw [q] at hy; cases hy
  | some z => rw [q] at hy; cases hy; exact ⟨z, t, rfl, rfl⟩
noncomputable def pre (x y : List Nat) : Bool := y.take x.length == x
theorem tests_one {prog : Program} {w : World} {A : Around} {env : Env} {c : Expr} {s : Shared} {Q : Bool → Shared → Prop} {E : Value → Shared → Prop} (h : wpAny (model prog w) A (isTrue c env (eval c env)) Q E s) : wpAny (model prog w) A (testsOf [c] env) Q E s := by
  unfold testsOf
  rw [List.forIn_cons]
  refine wpAny_bind ?_
  rw [if_pos rfl]
  refine wpAny_bind (wpAny_mono h (fun ok s' hq => wpAny_pure ?_) fun _ _ e => e)
  exact wpAny_pure hq
theorem len_S {prog : Program} {w : World} {A : Around} {E : Value → Shared → Prop} {s : Shared} {a : Addr} {vs : List Value} {W : List (List Nat)} {Q : Value → Shared → Prop} (hl : s.heap.IsList a vs.toArray) (hS : StrsAre vs (W.map S)) (hn : W.length ≤ 1000)
    (h : ∀ t k, 0 < k → Q (.int (W.length : Int) t) { s with toks := k }) : wpAny (model prog w) A (call (.builtin "len") [.ref a]) Q E s := by
  refine len_strsA hl hS (by rw [List.length_map]; omega) ?_
  rw [List.length_map]; exact h _ _ (Nat.succ_pos _)
noncomputable abbrev qF (a b : Int) : UInt64 := Float64.ofFrac (decide (a < 0) != decide (b < 0)) a.natAbs b.natAbs
theorem div_q {prog : Program} {w : World} {A : Around} {E : Value → Shared → Prop} {s : Shared} {a b : Int} {t u : Tok} {Q : Value → Shared → Prop} (hb : ¬(b == 0) = true) (hi : Float64.isInf (qF a b) = false) (h : Q (.float (qF a b) s.toks) { s with toks := s.toks + 1 }) :
    wpAny (model prog w) A (binaryOp .Div (.int a t) (.int b u)) Q E s := AutoIntOps.truediv_2 hb (ne_true_of_eq_false hi) h
local macro_rules | `(tactic| walk_at "binaryOp Div int int") => `(tactic| (refine div_q (by decide) ?hi ?_; (case hi => assumption)))
local macro_rules | `(tactic| walk_at "call ref") => `(tactic| (
  (with_reducible show wpAny _ _ (PySem.call (Value.ref 28) [Value.float _ _, Value.float _ _, Value.float _ _] _) _ _ _)
  refine' CallOK.useF ?F ?N (hls_to_rgb_spec ?X ?T ?r ?h ?z) ?z2 ?_
  (case F => k_asm); (case N => k_asm); (case X => k_in); (case T => walk_at "m_top"); (case r => walk_at "m_room"); (case h => walk_at "m_calm"); (case z => walk_at "m_pos"); (case z2 => walk_at "m_pos")
  intro v h' tk' F' N' S' t0 hp
  obtain ⟨p9, t1, t2, t3, e9, hT9⟩ := hp
  subst e9
  clear S'
  (try k_sweep)))
theorem round_q {prog : Program} {w : World} {A : Around} {E : Value → Shared → Prop} {s : Shared} {x : UInt64} {t : Tok} {Q : Value → Shared → Prop} (hA : A.handled = none) (hf : Float64.isFinite x = true) (h : Q (.int (PySem.Flt.toInt Float64.nearestOf x) s.toks) { s with toks := s.toks + 1 }) :
    wpAny (model prog w) A (PySem.call (.builtin "round") [.float x t]) Q E s := by
  refine PySem.Flt.call_round_float hA (fun e => ?_) (fun e => ?_) fun _ => h
  · exfalso; unfold Float64.isFinite at hf; unfold Float64.isNaN at e; cases q : Float64.decode x <;> simp [q] at hf e
  · exfalso; unfold Float64.isFinite at hf; unfold Float64.isInf at e; cases q : Float64.decode x <;> simp [q] at hf e
local macro_rules | `(tactic| walk_at "call builtin:round") => `(tactic| ((with_reducible show wpAny _ _ (PySem.call _ [Value.float _ _] _) _ _ _); refine round_q ?k1 ?k2 ?_; (case k1 => walk_at "m_calm"); (case k2 => assumption)))
local macro_rules | `(tactic| walk_at "binaryOp Mult int float") => `(tactic| (refine mul_if_fits (by decide) ?_))
local macro_rules | `(tactic| walk_at "call ref") => `(tactic| (
  (with_reducible show wpAny _ _ (PySem.call (Value.ref 21) [Value.float _ _, Value.float _ _, Value.float _ _] _) _ _ _)
  refine' CallOK.useF ?F ?N (rgb_to_hls_spec ?X ?T ?r ?h ?z ?e1 ?e2 ?e3 ?e4) ?z2 ?_
  (case F => k_asm); (case N => k_asm); (case X => k_in); (case T => walk_at "m_top"); (case r => walk_at "m_room"); (case h => walk_at "m_calm"); (case z => walk_at "m_pos"); (case z2 => walk_at "m_pos")
  (case e1 => assumption); (case e2 => assumption); (case e3 => assumption); (case e4 => assumption)
  intro v h' tk' F' N' S' t0 hp
  obtain ⟨p9, t1, t2, t3, e9, hT9⟩ := hp
  subst e9
  clear S'
  (try k_sweep)))
noncomputable abbrev tC (a len kin : Int) : UInt64 × UInt64 × UInt64 := rgbF (qF a 65536) (qF (len + 8) 16) (qF kin 16)
noncomputable abbrev tH (a len kin : Int) : UInt64 × UInt64 × UInt64 := hls (tC a len kin).1 (tC a len kin).2.1 (tC a len kin).2.2
noncomputable abbrev tR (x : UInt64) : UInt64 := Float64.mul (Float64.ofInt 16) x
noncomputable def tN (a len kin : Int) : Int := PySem.Flt.toInt Float64.nearestOf (tR (tH a len kin).2.1) - PySem.Flt.toInt Float64.nearestOf (tR (tH a len kin).2.2) - 7
structure OkT (a len kin : Int) : Prop where
  q1 : Float64.isInf (qF a 65536) = false
  q2 : Float64.isInf (qF (len + 8) 16) = false
  q3 : Float64.isInf (qF kin 16) = false
  c1 : feq (min3 (tC a len kin).1 (tC a len kin).2.1 (tC a len kin).2.2) (max3 (tC a len kin).1 (tC a len kin).2.1 (tC a len kin).2.2) = false
  c2 : Float64.isZero (Float64.add (max3 (tC a len kin).1 (tC a len kin).2.1 (tC a len kin).2.2) (min3 (tC a len kin).1 (tC a len kin).2.1 (tC a len kin).2.2)) = false
  c3 : Float64.isZero (Float64.sub (Float64.sub 4611686018427387904 (max3 (tC a len kin).1 (tC a len kin).2.1 (tC a len kin).2.2)) (min3 (tC a len kin).1 (tC a len kin).2.1 (tC a len kin).2.2)) = false
  c4 : Float64.isZero (Float64.sub (max3 (tC a len kin).1 (tC a len kin).2.1 (tC a len kin).2.2) (min3 (tC a len kin).1 (tC a len kin).2.1 (tC a len kin).2.2)) = false
  r1 : Float64.isFinite (tR (tH a len kin).2.1) = true
  r2 : Float64.isFinite (tR (tH a len kin).2.2) = true
theorem tld_spec {w : World} {A : Around} {s : Shared} {ls : List Str} {mg mb : Str → Option Value} {l : Addr} {W : List (List Nat)} {x : List Nat} {t : Tok}
   (X : (hd.heap_39 w.params).In s.heap) (T : TopRead theView ls mg mb s.heap) (hr : A.depth + 4 < recursionLimit) (hh : A.handled = none) (h0 : 0 < s.toks) (hx : x.length ≤ 7) (hO : ∀ c ∈ x, c = 34 ∨ c = 60 ∨ c = 62) (hW : W.length ≤ 20) (hB : Bounded W 100) (hl : StrsL s.heap l W) (ok : OkT (placeI x x.length + stepI x.length) x.length (W.filter (pre x)).length) :
   CallOK w A (.ref 192) [.ref l, .str (S x) t] s (fun v h => ∃ p t1 t2, v = .ref p ∧ s.heap.get? p = none ∧ IsTup h p #[.float (tH (placeI x x.length + stepI x.length) x.length (W.filter (pre x)).length).1 t1, .int (tN (placeI x x.length + stepI x.length) x.length (W.filter (pre x)).length) t2]) := by
  obtain ⟨vs, hl, hS⟩ := hl
  walk_at "m_enteredC"
  intro L' h₁ tk cells ht F N Y
  k_cells Y
  try simp only [List.cons_append, List.nil_append] at N
  rename_i oc dc
  replace dc : oc.data = Data.cell (some (.str (S x) t)) := dc
  try dsimp only
  repeat' ((fail_if_success (with_reducible show wpAny _ _ (exec (Stmt.For _ _ _ _ _) _) _ _ _)); walk1)
  refine wpAny_For ?_
  walk1
  refine for_str hh (by rfl) (by rfl) (fr_cast (tldM_start _ _ _ _ _) (by assumption)) (by assumption) (by assumption)
        (fun i m' news => ∃ p st tp ts sv, p = placeI x i ∧ st = stepI i ∧ m' = tldM _ p st tp ts sv ∧ news = [(L' + 1, oc)]) ⟨_, _, _, _, _, rfl, rfl, rfl, rfl⟩ ?_ ?_
  · rintro i c u' m₁ news₁ I o h tk hc ⟨p, st, tp, ts, sv, hp, hst, rfl, rfl⟩ hne htk F₁ N₁
    have hcc := hO c (List.mem_of_getElem? hc)
    have hsb : 0 ≤ st ∧ st ≤ 16384 := hst ▸ stepI_bound i
    try dsimp only
    iterate 9 walk1
    (with_reducible rename Obj.IsDictOf _ _ _ => hD9)
    obtain ⟨tc, hv⟩ := va_code hcc (t1 := _) (t2 := _) (t3 := _)
    refine d_get (Heap.dictOf_iff.mpr ⟨_, News.get (by assumption) (by k_mem), hD9⟩) hv ?_
    iterate 13 walk1
    all_goals refine ⟨rfl, _, _, _, [(_, _)], rfl, fr_cast (tldM_turn _ _ _ _ _ _ _ _ _ _ _) (by assumption), news_sub (by assumption) (List.forall_mem_cons.mpr ⟨by k_mem, List.forall_mem_cons.mpr ⟨by k_mem, List.forall_mem_nil _⟩⟩), ?_, ⟨_, _, _, _, _, ?_, ?_, rfl, rfl⟩⟩
    · intro p hp; rw [List.mem_singleton.mp hp]; exact hne _ (List.mem_singleton.mpr rfl)
    · have hg : x.getD i 0 = c := by rw [List.getD_eq_getElem?_getD, hc]; rfl
      rw [placeI, hg, hp, hst]
    · rw [stepI, hst]
  · rintro m' news' h' tk' ⟨p, st, tp, ts, sv, hp, hst, rfl, rfl⟩ htk' F8 N8
    iterate 6 walk1
    refine comp_open (cl := [(Str.ofString "word", L' + 1)]) (by with_unfolding_all rfl) rfl (by decide) ?_
    walk1
    have Cw : h'.IsCell (L' + 1) (some (.str (S x) t)) := ⟨_, N8.get (by k_mem), dc⟩
    have X8 : (hd.heap_39 w.params).In h' := by k_in
    have T8 := TopRead.keeps T F8.keep
    refine comp_lst hh F8 N8 (by walk_at "m_pos") (baseList F8 hl) (by decide) rfl rfl (by rw [strs_len hS]; omega)
      (fun i ys els => els = [] ∧ StrsAre ys (((W.take i).filter (pre x)).map S)) ⟨rfl, .nil⟩ ?_ ?_
    · rintro i v ys els I D io ao h tk' C m₀ hi ⟨rfl, hys⟩ htk' Fc Nc
      obtain ⟨y, u, hy, rfl⟩ := strs_getS hS hi
      have hyl : y.length ≤ 16777216 := Nat.le_trans (Nat.le_of_lt (hB y (List.mem_of_getElem? hy))) (by decide)
      refine tests_one ?_
      show wpAny _ _ (isTrue _ _ _) _ _ (Shared.mk _ _ _ _ _)
      try dsimp only
      repeat' walk1
      · rename_i hq
        dsimp only
        refine ⟨_, _, _, [], rfl, ‹_›, ‹_›, (fun _ h => nomatch h), rfl, ?_⟩
        rw [List.take_add_one, hy, List.filter_append]
        have : pre x y = true := by simpa [pre] using hq
        rw [show List.filter (pre x) (some y).toList = [y] from by simp [this]]
        exact strs_app hys (strs_one _ _)
      · rename_i hq
        dsimp only
        refine ⟨_, _, _, rfl, ‹_›, ‹_›, rfl, ?_⟩
        rw [List.take_add_one, hy, List.filter_append]
        have : pre x y = false := by simpa [pre] using hq
        rw [show List.filter (pre x) (some y).toList = [] from by simp [this], List.append_nil]
        exact hys
    · rintro D ys els k h' tk' ⟨rfl, hys⟩ htk' hD hst9 F7 N7 hA7
      rw [show vs.length = W.length from strs_len hS, List.take_length] at hys
      clear F8 N8 Cw X8 T8
      walk1
      refine len_S (newsList N7 (.head _)) hys (by have := List.length_filter_le (pre x) W; omega) ?_
      intro t' k' hk'
      rw [← hp, ← hst] at ok
      obtain ⟨q1, q2, q3, c1, c2, c3, c4, r1, r2⟩ := ok
      repeat' walk1
      try dsimp only
      (with_reducible rename News _ _ _ _ => NN)
      have R := newsTup NN rfl rfl
      subst hp hst
      exact ⟨_, _, rfl, Fr.keep (by assumption), _, _, _, rfl, NN.fresh (List.Mem.head _), R⟩
section
variable {prog : Program} {w : World} {A : Around} {s : Shared} {env : Env} {h₀ : Heap} {body : List Stmt} {m : Str → Option Value} {news : List (Addr × Obj)}
theorem loop_lst {tgt : Expr} {R : Result → Shared → Prop} {I l : Addr} {ol : Obj} {n : Nat} {P : Nat → Value → Prop} {St : Nat → Heap → Prop} {s₂ : Shared} (W : Walks prog w A I [I, l] [I] n P St)
    (hIL : I ≠ env.locals) (hI0 : h₀.get? I = none) (hIl : l ≠ I) (hIn : ∀ p ∈ news, p.1 ≠ I)
    (hlive : ∀ i h, St i h → ∃ o, h.get? I = some o)
    (hLet : ∀ i v h tk (Q : Unit → Shared → Prop) (E : Value → Shared → Prop), P i v → St (i + 1) h → Q () { s₂ with heap := h, toks := tk } → wpAny (model prog w) A (letOwnedTupleGo tgt (.ref I) v) Q E { s₂ with heap := h, toks := tk })
    (st : St 0 s₂.heap) (ht : 0 < s₂.toks) (F : Fr h₀ env.locals s₂.heap m) (N : News h₀ env.locals s₂.heap ((l, ol) :: news))
    (J : Nat → (Str → Option Value) → List (Addr × Obj) → Prop) (j0 : J 0 m news)
    (turn : ∀ i v m₁ news₁ o h tk, i < n → P i v → J i m₁ news₁ → (∀ p ∈ news₁, p.1 ≠ I) → 0 < tk → Fr h₀ env.locals h m₁ → News h₀ env.locals h ((I, o) :: (l, ol) :: news₁) →
      wpAny (model prog w) A (assign tgt env v) (fun _ s' => wpAny (model prog w) A (execs body env) (TurnEnd h₀ env.locals s₂ I [(I, o), (l, ol)] (J (i + 1))) (fun _ _ => False) s') (fun _ _ => False) { s₂ with heap := h, toks := tk })
    (done : ∀ m' news' h' tk', J n m' news' → 0 < tk' → Fr h₀ env.locals h' m' → News h₀ env.locals h' ((l, ol) :: news') → R (.ok .next) { s₂ with heap := h', toks := tk' }) :
    codeAny (model prog w) A (.forLoop tgt (.ref I) body [] env) R s₂ := by
  refine codeAny_forLoop_any
    (fun k s' => ∃ h' tk m' news' i, s' = { s₂ with heap := h', toks := tk } ∧ 0 < tk ∧ St i h' ∧ Fr h₀ env.locals h' m' ∧ News h₀ env.locals h' ((l, ol) :: news') ∧ (∀ p ∈ news', p.1 ≠ I) ∧ J i m' news' ∧ i ≤ n ∧ k = n + 1 - i) ?_ (n + 1)
    ⟨s₂.heap, s₂.toks, m, news, 0, rfl, ht, st, F, N, hIn, j0, Nat.zero_le _, rfl⟩
  rintro k s' ⟨h', tk, m', news', i, rfl, htk, hst, F', N', hne, hJ, hi, rfl⟩
  have hneA : ∀ p ∈ (l, ol) :: news', p.1 ≠ I := List.forall_mem_cons.mpr ⟨hIl, hne⟩
  rcases Nat.lt_or_ge i n with hlt | hge
  · refine wpAny_with_toks (n := 1) htk (W.item i _ _ _ hlt hst fun v h₁ tk₁ hP hst₁ hk₁ htk₁ => ?_)
    have F₁ : Fr h₀ env.locals h₁ m' := by
      obtain ⟨o, es, ep, ho, r⟩ := F'.ns
      refine ⟨⟨o, es, ep, hk₁ _ _ (fun q => hIL (List.mem_singleton.mp q).symm) ho, r⟩, fun b o e => hk₁ b o (fun q => ?_) (F'.keep b o e), F'.above⟩
      rw [List.mem_singleton.mp q, hI0] at e; cases e
    have N₁ : News h₀ env.locals h₁ ((l, ol) :: news') := fun p hp => ⟨hk₁ _ _ (fun q => hneA p hp (List.mem_singleton.mp q)) (N' p hp).1, (N' p hp).2⟩
    obtain ⟨o, ho⟩ := hlive _ _ hst₁
    have N₂ : News h₀ env.locals h₁ ((I, o) :: (l, ol) :: news') := fun p hp => by
      rcases List.mem_cons.mp hp with rfl | hp
      · exact ⟨ho, hIL, hI0⟩
      · exact N₁ p hp
    refine hLet i v _ _ _ _ hP hst₁ ?_
    refine wpAny_with_toks (n := 1) htk₁ (wpAny_mono (turn i v m' news' o h₁ _ hlt hP hJ hne htk₁ F₁ N₂) (fun _ s₄ h₄ htk₄ => ?_) fun _ _ e => e.elim)
    refine wpAny_with_toks (n := 1) htk₄ (wpAny_mono h₄ (fun f s₃ h₃ htk₃ => ?_) fun _ _ e => e.elim)
    obtain ⟨rfl, h₃, tk₃, m₃, news₃, rfl, F₃, N₃, hne₃, hJ₃⟩ := h₃
    refine ⟨n + 1 - (i + 1), by omega, h₃, tk₃, m₃, news₃, i + 1, rfl, htk₃, ?_, F₃, news_sub N₃ fun p hp => ?_, hne₃, hJ₃, hlt, rfl⟩
    · refine W.frame _ _ _ hst₁ fun b hb o' e => ?_
      rcases List.mem_cons.mp hb with rfl | hb
      · rw [ho] at e; cases e
        exact (N₃ (_, o) (List.Mem.head _)).1
      · rw [List.mem_singleton.mp hb] at e ⊢
        rw [(N₁ (l, ol) (List.Mem.head _)).1] at e; cases e
        exact (N₃ (l, ol) (List.Mem.tail _ (List.Mem.head _))).1
    · exact List.mem_cons_of_mem _ hp
  · have hin : i = n := Nat.le_antisymm hi hge
    subst hin
    refine wpAny_with_toks (n := 1) htk (W.done _ _ _ hst fun h₁ tk₁ hk₁ htk₁ => wpAny_execs_nil ?_)
    refine done m' news' h₁ tk₁ hJ htk₁ ?_ fun p hp => ⟨hk₁ _ _ (fun q => hneA p hp (List.mem_singleton.mp q)) (N' p hp).1, (N' p hp).2⟩
    obtain ⟨o, es, ep, ho, r⟩ := F'.ns
    refine ⟨⟨o, es, ep, hk₁ _ _ (fun q => hIL (List.mem_singleton.mp q).symm) ho, r⟩, fun b o e => hk₁ b o (fun q => ?_) (F'.keep b o e), F'.above⟩
    rw [List.mem_singleton.mp q, hI0] at e; cases e
theorem for_lst {tgt : Expr} {Q : Flow → Shared → Prop} {l : Addr} {ol : Obj} {vs : List Value} (hA : A.handled = none)
    (hT : (∃ x p, tgt = .Name x p) ∨ (∃ e k p, tgt = .Tuple e k p ∧ ∀ v ∈ vs, ∃ T, v = .ref T)) (hl : ol.cls = .type "list") (hd : ∃ n, ol.data = .seq vs.toArray n) (F : Fr h₀ env.locals s.heap m) (N : News h₀ env.locals s.heap ((l, ol) :: news)) (h0 : 0 < s.toks)
    (J : Nat → (Str → Option Value) → List (Addr × Obj) → Prop) (j0 : J 0 m news)
    (turn : ∀ i v m₁ news₁ I o h tk, vs[i]? = some v → J i m₁ news₁ → (∀ p ∈ news₁, p.1 ≠ I) → I ≠ l → 0 < tk → Fr h₀ env.locals h m₁ → News h₀ env.locals h ((I, o) :: (l, ol) :: news₁) →
      wpAny (model prog w) A (assign tgt env v) (fun _ s' => wpAny (model prog w) A (execs body env) (TurnEnd h₀ env.locals s I [(I, o), (l, ol)] (J (i + 1))) (fun _ _ => False) s') (fun _ _ => False) { s with heap := h, toks := tk })
    (done : ∀ m' news' h' tk', J vs.length m' news' → 0 < tk' → Fr h₀ env.locals h' m' → News h₀ env.locals h' ((l, ol) :: news') → Q .next { s with heap := h', toks := tk' }) :
    wpAny (model prog w) A (pyIter (.ref l)) (fun it s₂ => codeAny (model prog w) A (.forLoop tgt it body [] env) (fun r s' => match r with | .ok f => Q f s' | .error e => cameBackBy (model prog w) A env (fun _ _ => False) e s') s₂) (fun _ _ => False) s := by
  obtain ⟨oL, hoL⟩ : ∃ o, s.heap.get? env.locals = some o := by obtain ⟨o, _, _, ho, _⟩ := F.ns; exact ⟨o, ho⟩
  have hIL : s.heap.objs.size ≠ env.locals := fun e => by have := Heap.lt_size hoL; rw [← e] at this; exact Nat.lt_irrefl _ this
  have hI0 : h₀.get? s.heap.objs.size = none := by
    cases q : h₀.get? s.heap.objs.size with
    | none => rfl
    | some o => exact absurd (Heap.lt_size (F.keep _ _ q)) (Nat.lt_irrefl _)
  obtain ⟨nn, hdd⟩ := hd
  have hol := (N (l, ol) (List.Mem.head _)).1
  have hlst : s.heap.IsList l vs.toArray := ⟨ol, hol, hl, nn, hdd⟩
  have hne : l ≠ s.heap.objs.size := Nat.ne_of_lt (Heap.lt_size hol)
  have hIn : ∀ p ∈ news, p.1 ≠ s.heap.objs.size := fun p hp e => by
    have := Heap.lt_size (N p (List.Mem.tail _ hp)).1; rw [e] at this; exact Nat.lt_irrefl _ this
  refine wpAny_pyIter_list hlst ?_
  have W := Walks.list (prog := prog) (w := w) hA s.heap.objs.size l hne vs.toArray
  refine loop_lst (news := news) W hIL hI0 hne hIn (fun i h hs => by obtain ⟨⟨o, ho, _⟩, _⟩ := hs; exact ⟨o, ho⟩) ?_ ⟨⟨_, Heap.get?_push_size _ rfl, rfl, rfl⟩, hlst.push _⟩ h0 (F.push _) (fun p hp => ⟨Heap.get?_push_of_some _ (N p hp).1, (N p hp).2⟩) J j0 ?_ ?_
  · rintro i v h tk Q' E' hP hst hQ
    rcases hT with ⟨x, p, rfl⟩ | ⟨e, k, p, rfl, hv⟩
    · exact wpAny_pure hQ
    · obtain ⟨T, rfl⟩ := hv v (List.mem_of_getElem? (by simpa using hP))
      exact wpAny_letOwnedTupleGo_listiter hst.1 hQ
  · intro i v m₁ news₁ o h tk hlt hP hJ hne' htk F₁ N₁
    exact turn i v m₁ news₁ _ o h tk (by simpa using hP) hJ hne' hne.symm htk F₁ N₁
  · intro m' news' h' tk' hJ htk' F' N'
    exact done m' news' h' tk' (by simpa using hJ) htk' F' N'
end
noncomputable def sgn (n : Nat) : Nat := [34, 60, 62].getD n 0
noncomputable def find : Nat → List (List Nat) → List Nat → Nat → List Nat
  | 0, _, x, _ => x
  | k + 1, W, x, l => if x ∈ W then find k W (x ++ [sgn (l % 3)]) (l / 3) else x
noncomputable def grow (W : List (List Nat)) (x : Int) : List (List Nat) := W ++ [find 20 W [] (x % 243).toNat]
noncomputable def grown (sc : List Int) : List (List Nat) := (sc.take 5 ++ [1, 2, 0, 7]).foldl grow [[]]
theorem find_stop {W : List (List Nat)} {x : List Nat} (h : x ∉ W) (k l : Nat) : find k W x l = x := by
  cases k with
  | zero => rfl
  | succ k => rw [find, if_neg h]
theorem find_go {W : List (List Nat)} {x : List Nat} (h : x ∈ W) (k l : Nat) : find (k + 1) W x l = find k W (x ++ [sgn (l % 3)]) (l / 3) := by rw [find, if_pos h]
theorem find_len {W : List (List Nat)} {n : Nat} (hB : Bounded W n) : ∀ (k : Nat) (x : List Nat) (l : Nat), x.length ≤ n → (find k W x l).length ≤ n
  | 0, x, l, h => h
  | k + 1, x, l, h => by
    by_cases hx : x ∈ W
    · rw [find_go hx]
      exact find_len hB k _ _ (by rw [List.length_append]; exact hB x hx)
    · rw [find_stop hx]; exact h
theorem grow_bound {W : List (List Nat)} {n : Nat} (hB : Bounded W n) (x : Int) : Bounded (grow W x) (n + 1) := by
  intro v hv
  rcases List.mem_append.mp hv with h | h
  · exact Nat.lt_succ_of_lt (hB v h)
  · rw [List.mem_singleton.mp h]
    exact Nat.lt_succ_of_le (find_len hB _ _ _ (Nat.zero_le _))
theorem grows_bound : ∀ (xs : List Int) {W : List (List Nat)} {n : Nat}, Bounded W n → Bounded (xs.foldl grow W) (n + xs.length)
  | [], W, n, h => h
  | x :: xs, W, n, h => by
    have := grows_bound xs (grow_bound h x)
    rw [List.foldl_cons, List.length_cons, show n + (xs.length + 1) = n + 1 + xs.length by omega]
    exact this
theorem b0 : Bounded [[]] 1 := by intro v hv; rw [List.mem_singleton.mp hv]; decide
noncomputable abbrev grnM (bm : Str → Option Value) (v1 v2 v3 : Option Value) : Str → Option Value := fun y => if y = Str.ofString "word" then v1 else if y = Str.ofString "left" then v2 else if y = Str.ofString "x" then v3 else bm y
noncomputable abbrev grnB (l1 l : Addr) : Str → Option Value := fun y => if y = Str.ofString "words" then some (Value.ref l1) else List.lookup y [(Str.ofString "script", Value.ref l)]
theorem grnM_start (bm : Str → Option Value) : bm = grnM bm (bm (Str.ofString "word")) (bm (Str.ofString "left")) (bm (Str.ofString "x")) := by
  funext y
  by_cases h1 : y = Str.ofString "word"
  · simp [grnM, h1]
  · by_cases h2 : y = Str.ofString "left"
    · subst h2; simp [grnM, h1]
    · by_cases h3 : y = Str.ofString "x"
      · subst h3; simp [grnM, h1, h2]
      · simp [grnM, h1, h2, h3]
theorem grnM_in (bm : Str → Option Value) (v1 v2 v3 u1 u2 u3 : Option Value) : (fun y => if y = Str.ofString "word" then u1 else if y = Str.ofString "left" then u2 else if y = Str.ofString "x" then u3 else grnM bm v1 v2 v3 y) = grnM bm u1 u2 u3 := by
  funext y
  by_cases h1 : y = Str.ofString "word"
  · simp [grnM, h1]
  · by_cases h2 : y = Str.ofString "left"
    · simp [grnM, h1, h2]
    · by_cases h3 : y = Str.ofString "x"
      · simp [grnM, h1, h2, h3]
      · simp [grnM, h1, h2, h3]
theorem grnM_while (bm : Str → Option Value) (v1 v2 v3 u1 u2 : Option Value) : (fun y => if y = Str.ofString "left" then u2 else if y = Str.ofString "word" then u1 else grnM bm v1 v2 v3 y) = grnM bm u1 u2 v3 := by
  have hne : Str.ofString "left" ≠ Str.ofString "word" := by decide +kernel
  funext y
  by_cases h1 : y = Str.ofString "word"
  · subst h1; simp [grnM, hne.symm]
  · by_cases h2 : y = Str.ofString "left"
    · subst h2; simp [grnM, h1]
    · simp [grnM, h1, h2]
theorem ints_get {vs : List Value} {ns : List Int} (h : IntsAre vs ns) {i : Nat} {v : Value} (e : vs[i]? = some v) : ∃ n t, ns[i]? = some n ∧ v = .int n t := by
  induction h generalizing i with
  | nil => cases e
  | cons y t h ih =>
    cases i with
    | zero => cases e; exact ⟨y, t, rfl, rfl⟩
    | succ i => exact ih (i := i) (by simpa using e)
theorem sgnS : Str.ofString "\"<>" = S [34, 60, 62] := by decide +kernel
theorem itemS (n : Nat) : Txt.item (Str.ofString "\"<>") (Int.fmod (n : Nat) 3) = S [sgn (n % 3)] := by
  have h3 : n % 3 = 0 ∨ n % 3 = 1 ∨ n % 3 = 2 := by omega
  have e : Int.fmod (n : Nat) 3 = ((n % 3 : Nat) : Int) := by rw [Int.fmod_eq_emod_of_nonneg _ (by decide)]; omega
  rw [e]
  rcases h3 with h | h | h <;> rw [h] <;> decide +kernel
noncomputable def CallOKP (w : World) (A : Around) (f : Value) (args : List Value) (s : Shared) (post : Value → Heap → Prop) : Prop :=
  codeAny (model PySem.Challenge.rw_wu0072_01.row.prog w) A (.call f ⟨args, []⟩) (fun r s' => ∃ v h' tk', r = .ok (.ret v) ∧ s' = { s with heap := h', toks := tk' } ∧ 0 < tk' ∧ s.heap.StaysIn h' ∧ post v h') s
theorem CallOKP.useF {w : World} {A : Around} {f : Value} {args : List Value} {s : Shared} {post : Value → Heap → Prop} {Q E : Value → Shared → Prop}
    {h₀ : Heap} {L : Addr} {m : Str → Option Value} {news : List (Addr × Obj)} (F : Fr h₀ L s.heap m) (N : News h₀ L s.heap news)
    (h : CallOKP w A f args s post) (hQ : ∀ v h' tk', Fr h₀ L h' m → News h₀ L h' news → s.heap.StaysIn h' → 0 < tk' → post v h' → Q v { s with heap := h', toks := tk' }) :
    wpAny (model PySem.Challenge.rw_wu0072_01.row.prog w) A (PySem.call f args) Q E s := by
  refine wpAny_call (codeAny_mono h fun r s' hr => ?_)
  obtain ⟨v, h', tk', rfl, rfl, ht, hs, hp⟩ := hr
  refine hQ v h' tk' ⟨?_, fun b o e => hs b o (F.keep b o e), F.above⟩ (fun p hp' => ⟨hs _ _ (N p hp').1, (N p hp').2⟩) hs ht hp
  obtain ⟨oL, es, ep, hL, r⟩ := F.ns
  exact ⟨oL, es, ep, hs _ _ hL, r⟩
theorem enterP {w : World} {A : Around} {s : Shared} {ls : List Str} {mg mb : Str → Option Value} {post : Value → Heap → Prop}
    {name qual : Str} {params : Arguments} {body : List Stmt} {scope : Scope} {dV kV doc pm cdv ct oc : Value} {an od : Option Addr} {osl : Array (Option Value)} {f : Addr} {args : List Value} {binds : List (Str × Value)}
    (X : (hd.heap_39 w.params).In s.heap) (T : TopRead theView ls mg mb s.heap)
    (ho : (hd.heap_39 w.params).lookup f = some ⟨oc, od, .func (fnOf name qual params body scope dV kV doc pm an cdv ct), osl⟩) (hcd : codeIn (hd.heap_39 w.params) cdv qual = true)
    (hroom : A.depth < recursionLimit) (h0 : 0 < s.toks + binds.length)
    (hbind : BindsTo s (fnOf name qual params body scope dV kV doc pm an cdv ct) ⟨args, []⟩ binds) (hloc : ∀ y ∈ binds, scope.names.lookup y.1 = some .local)
    (h : ∀ L' h₁ tk, 0 < tk → Fr s.heap L' h₁ (fun y => binds.reverse.lookup y) → News s.heap L' h₁ [] →
      wpAny (model PySem.Challenge.rw_wu0072_01.row.prog w) (A.deeper (envOf qual scope L' f cdv)) (execs body (envOf qual scope L' f cdv)) (EndOK s.heap s post) (fun _ _ => False)
        { s with heap := h₁, toks := tk })
    (hco : scope.isCoroutine = false) (hgen : scope.isGenerator = false) (hk : scope.kind = .function)
    (hcell : ∀ x ∈ scope.names, x.2 ≠ .cell) : CallOKP w A (.ref f) args s post := by
  refine codeAny_call_def (fd := fnOf name qual params body scope dV kV doc pm an cdv ct) (body := body) (binds := binds) hroom (X _ _ ho) rfl T.nolimit (codeRec_of X hcd) rfl hbind hcell hloc (fun h₁ hns hk₁ => ?_) hco hgen hk
  refine wpAny_with_toks (n := 1) h0 (wpAny_mono (h _ h₁ _ h0 ⟨hns, hk₁, Nat.le_refl _⟩ News.nil) (fun fl s' hl ht => ?_) fun _ _ y => y.elim)
  obtain ⟨h', tk', rfl, st, hp⟩ := hl
  exact ⟨_, h', tk', rfl, rfl, ht, st, hp⟩
local macro_rules | `(tactic| walk_at "m_enteredP") => `(tactic| (
  refine' enterP ?k1 ?k2 ?k6 ?k7 ?k8 ?kz ?k9 ?kB ?_ ?c2 ?c3 ?c4 ?c5
  (case k1 => assumption); (case k2 => assumption); (case k6 => k_is); (case k7 => k_is); (case k8 => omega); (case k9 => exact BindsTo.of_eq rfl); (case kz => exact Nat.succ_pos _); (case kB => exact locs rfl); (case c2 => rfl); (case c3 => rfl); (case c4 => rfl); (case c5 => decide)))
local macro_rules | `(tactic| walk_at "compareOp In str ref") => `(tactic| (k_dflt ((refine' s_inL ?hl ?hS ?_ ?_); (case hl => walk_at "m_list"); (case hS => assumption); all_goals intro hin)))
local macro_rules | `(tactic| walk_at "binaryOp Mod int int") => `(tactic| (refine mod_int' (by decide) ?_))
local macro_rules | `(tactic| walk_at "m_charS") => `(tactic| first | with_reducible rfl | exact itemS _)
theorem grn_spec {w : World} {A : Around} {s : Shared} {ls : List Str} {mg mb : Str → Option Value} {l : Addr} {vs : List Value} {sc : List Int}
   (X : (hd.heap_39 w.params).In s.heap) (T : TopRead theView ls mg mb s.heap) (hr : A.depth + 1 < recursionLimit) (hh : A.handled = none) (hl : s.heap.IsList l vs.toArray) (hI : IntsAre vs sc) (hn : sc.length ≤ 63) :
   CallOKP w A (.ref 187) [.ref l] s (NewTexts s (grown sc)) := by
  walk_at "m_enteredP"
  intro L' h₁ tk ht F N
  replace F : Fr s.heap L' h₁ (fun y => List.lookup y [(Str.ofString "script", .ref l)]) := F
  try dsimp only
  repeat' ((fail_if_success (with_reducible show wpAny _ _ (exec (Stmt.For _ _ _ _ _) _) _ _ _)); walk1)
  refine wpAny_For ?_
  repeat' walk1
  rename_i l1 h_a hl1 h_b tq htq D1 w1 h_c hI1 hC1 hL1 hlt1 l2 h_d hlt2 D2 ns h2 F2 N2 hI2 hlt3
  replace F2 : Fr s.heap L' h2 (grnB l1 l) := F2
  have e0 : Str.ofString "" = S [] := by decide +kernel
  obtain ⟨te, hN1⟩ : ∃ te, News s.heap L' h2 ((D2, W.listOf ns.toArray 0) :: [(l1, W.listOf [Value.str (Str.ofString "") te].toArray 0)]) :=
    ⟨_, news_sub N2 (List.forall_mem_cons.mpr ⟨by k_mem, List.forall_mem_cons.mpr ⟨by k_mem, List.forall_mem_nil _⟩⟩)⟩
  refine for_lst (l := D2) (ol := W.listOf ns.toArray 0) (vs := ns) hh (.inl ⟨_, _, rfl⟩) rfl ⟨_, rfl⟩ (fr_cast (grnM_start _) F2) hN1 (by walk_at "m_pos")
    (fun i m' news => ∃ vW n v1 v2 v3, m' = grnM (grnB l1 l) v1 v2 v3 ∧ news = [(l1, PySem.W.listOf vW.toArray n)] ∧ StrsAre vW ((((sc.take 5 ++ [1, 2, 0, 7]).take i).foldl grow [[]]).map S))
    ⟨[Value.str (Str.ofString "") te], _, _, _, _, rfl, rfl, ?_⟩ ?_ ?_
  · rw [e0]; exact strs_one _ _
  · rintro i v m₁ news₁ I o h tk' hi ⟨vW, n', v1, v2, v3, rfl, rfl, hS⟩ hne hIl htk' F3 N3
    obtain ⟨xx, tx, hxx, rfl⟩ := ints_get hI2 hi
    have hBW : Bounded (((sc.take 5 ++ [1, 2, 0, 7]).take i).foldl grow [[]]) 20 := by
      have := grows_bound ((sc.take 5 ++ [1, 2, 0, 7]).take i) b0
      refine Bounded.mono this ?_
      simp only [List.length_take, List.length_append, List.length_cons, List.length_nil]; omega
    generalize hW : (((sc.take 5 ++ [1, 2, 0, 7]).take i).foldl grow [[]]) = W at hS hBW
    have hvl : vW.length ≤ 100 := by
      rw [strs_len hS, ← hW]
      have : ∀ (xs : List Int) (V : List (List Nat)), (xs.foldl grow V).length = V.length + xs.length := by
        intro xs
        induction xs with
        | nil => intro V; rfl
        | cons a xs ih => intro V; rw [List.foldl_cons, ih, grow, List.length_append]; simp only [List.length_cons, List.length_nil]; omega
      rw [this]
      simp only [List.length_take, List.length_append, List.length_cons, List.length_nil]; omega
    have hvs : vW.toArray.size ≤ 100 := by simpa using hvl
    repeat' ((fail_if_success (with_reducible show wpAny _ _ (exec (Stmt.While _ _ _ _) _) _ _ _)); walk1)
    (with_reducible rename Fr _ _ _ _ => F4)
    (with_reducible rename News _ _ _ _ => N4)
    have em : xx.fmod 243 = (((xx % 243).toNat : Nat) : Int) := by rw [Int.fmod_eq_emod_of_nonneg _ (by decide)]; omega
    rw [em] at F4
    refine while_mine (fr_cast (grnM_in (grnB l1 l) v1 v2 v3 _ _ _) F4) N4 (by walk_at "m_pos")
      (fun k m => ∃ wd lf tw tl, m = grnM (grnB l1 l) (some (.str wd tw)) (some (.int ((lf : Nat) : Int) tl)) (some (.int xx tx)) ∧ ∃ y, wd = S y ∧ find 20 W [] (xx % 243).toNat = find k W y lf ∧ y.length + k = 20)
      20 ⟨_, (xx % 243).toNat, _, _, rfl, [], e0, rfl, rfl⟩ ?_
    rintro k m₂ h₄ tk₄ ⟨wd, lf, tw, tl, rfl, y, rfl, hf, hk⟩ htk₄ F5 N5
    clear F4 N4
    try clear F3
    try clear N3
    try clear F2
    try clear N2
    try clear hN1
    try clear F
    try clear N
    have hyl : y.length ≤ 20 := by omega
    repeat' walk1
    · (with_reducible rename _ ∈ W => hin)
      have hk1 : k ≠ 0 := fun e => by have := hBW y hin; omega
      obtain ⟨k', rfl⟩ := Nat.exists_eq_succ_of_ne_zero hk1
      rw [find_go hin] at hf
      try dsimp only
      (with_reducible rename Fr _ _ _ _ => F6)
      have em2 : Int.fdiv (lf : Int) 3 = ((lf / 3 : Nat) : Int) := by rw [Int.fdiv_eq_ediv_of_nonneg _ (by decide)]; omega
      rw [em2] at F6
      refine ⟨_, _, _, k', rfl, Nat.lt_succ_self _, fr_cast (grnM_while (grnB l1 l) _ _ _ _ _) F6, ‹_›, ⟨_, _, _, _, rfl, y ++ [sgn (lf % 3)], rfl, hf, by rw [List.length_append]; simp only [List.length_cons, List.length_nil]; omega⟩⟩
    · (with_reducible rename ¬_ ∈ W => hin)
      rw [find_stop hin] at hf
      have hlI : l1 ≠ I := hne _ (List.Mem.head _)
      have hlD : l1 ≠ D2 := Nat.ne_of_lt hlt3.2.2
      repeat' ((fail_if_success (with_reducible show wpAny _ _ (PySem.call _ _) _ _ _)); walk1)
      refine append_K F5 N5 (.tail (Ne.symm hlI) (.tail (Ne.symm hlD) (.head (List.forall_mem_nil _)))) (fun h' F7 N7 => ?_) (Nat.le_trans hvs (by rw [sizeLine_eq]; decide))
      clear F5 N5
      repeat' walk1
      try dsimp only
      rw [List.push_toArray] at N7
      refine ⟨rfl, _, _, _, [(l1, _)], rfl, F7, N7, ?_, _, _, _, _, _, rfl, rfl, ?_⟩
      · intro p hp; rw [List.mem_singleton.mp hp]; exact hlI
      · refine strs_cast ?_ (strs_app hS (strs_one y tw))
        rw [List.take_add_one, hxx, Option.toList_some, List.foldl_append, hW, List.foldl_cons, List.foldl_nil, grow, hf]
  · rintro m' news' h' tk' ⟨vW, n', v1, v2, v3, rfl, rfl, hS⟩ htk' F8 N8
    rw [show ns.length = (sc.take 5 ++ [1, 2, 0, 7]).length from hI2.length, List.take_length] at hS
    clear F2 N2
    repeat' walk1
    try dsimp only
    refine ⟨_, _, rfl, F8.keep, ?_⟩
    exact NewTexts.of N8 (List.Mem.tail _ (List.Mem.head _)) hS
structure Ord (c : Nat → Nat → Bool) (n : Nat) : Prop where
  trans : ∀ i j k, i < n → j < n → k < n → c i j = true → c j k = true → c i k = true
  total : ∀ i j, i < n → j < n → i ≠ j → c i j = false → c j i = true
structure PV (p : Array Nat) (n : Nat) : Prop where
  pos : 1 ≤ n
  perm : p.toList.Perm (List.range n)
noncomputable abbrev at' (p : Array Nat) (i : Nat) : Nat := p.getD i 0
section
variable {c : Nat → Nat → Bool} {n : Nat} {p : Array Nat}
theorem PV.size (V : PV p n) : p.size = n := by have := V.perm.length_eq; simpa using this
theorem PV.lt (V : PV p n) (i : Nat) : p.getD i 0 < n := by
  rw [Array.getD_eq_getD_getElem?]
  cases h : p[i]? with
  | none => exact V.pos
  | some x =>
    have hm : x ∈ p.toList := by rw [← Array.getElem?_toList] at h; exact List.mem_of_getElem? h
    exact List.mem_range.mp (V.perm.mem_iff.mp hm)
theorem PV.ne (V : PV p n) {i j : Nat} (hi : i < n) (hj : j < n) (hij : i ≠ j) : p.getD i 0 ≠ p.getD j 0 := by
  have nd : p.toList.Nodup := V.perm.nodup_iff.mpr List.nodup_range
  have hs := V.size
  rw [Array.getD_eq_getD_getElem?, Array.getD_eq_getD_getElem?, getElem?_pos p i (by lia), getElem?_pos p j (by lia)]
  intro e
  apply hij
  have e' : p.toList[i]'(by simp; lia) = p.toList[j]'(by simp; lia) := by simpa using e
  rcases Nat.lt_trichotomy i j with h | h | h
  · exact absurd e' (List.pairwise_iff_getElem.mp nd i j _ _ h)
  · exact h
  · exact absurd e'.symm (List.pairwise_iff_getElem.mp nd j i _ _ h)
noncomputable def SP (c : Nat → Nat → Bool) (p : Array Nat) (k : Nat) : Prop := ∀ i j, i < j → j < k → c (p.getD i 0) (p.getD j 0) = true
noncomputable def DP (c : Nat → Nat → Bool) (p : Array Nat) (k : Nat) : Prop := ∀ i j, i < j → j < k → c (p.getD j 0) (p.getD i 0) = true
theorem SP.succ (O : Ord c n) (V : PV p n) {m : Nat} (h1 : 1 ≤ m) (h : SP c p m) (hl : c (p.getD (m - 1) 0) (p.getD m 0) = true) : SP c p (m + 1) := by
  intro i j hij hj
  rcases Nat.lt_or_ge j m with hj' | hj'
  · exact h i j hij hj'
  · have : j = m := by lia
    subst this
    by_cases hi : i = j - 1
    · rw [hi]; exact hl
    · exact O.trans _ _ _ (V.lt _) (V.lt _) (V.lt _) (h i (j - 1) (by lia) (by lia)) hl
theorem DP.succ (O : Ord c n) (V : PV p n) {m : Nat} (h1 : 1 ≤ m) (h : DP c p m) (hl : c (p.getD m 0) (p.getD (m - 1) 0) = true) : DP c p (m + 1) := by
  intro i j hij hj
  rcases Nat.lt_or_ge j m with hj' | hj'
  · exact h i j hij hj'
  · have : j = m := by lia
    subst this
    by_cases hi : i = j - 1
    · rw [hi]; exact hl
    · exact O.trans _ _ _ (V.lt _) (V.lt _) (V.lt _) hl (h i (j - 1) (by lia) (by lia))
theorem SP.one : SP c p 1 := fun i j h1 h2 => by lia
theorem PV.rev (V : PV p n) (i j : Nat) : PV (kas_rev p i j) n := ⟨V.pos, (Array.perm_iff_toList_perm.mp (mirror_perm p i j _)).trans V.perm⟩
theorem PV.bub (V : PV p n) (k d : Nat) : PV (bubble p k d) n := ⟨V.pos, (Array.perm_iff_toList_perm.mp (bubble_perm p k d)).trans V.perm⟩
theorem SP.of_rev (V : PV p n) {m : Nat} (hm : m ≤ n) (h : DP c p m) : SP c (kas_rev p 0 m) m := by
  intro i j hij hj
  have e : ∀ k, k < m → (kas_rev p 0 m).getD k 0 = p.getD (m - 1 - k) 0 := by
    intro k hk
    rw [Array.getD_eq_getD_getElem?, Array.getD_eq_getD_getElem?]
    unfold kas_rev
    rw [getElem?_mirror_all (by rw [V.size]; exact hm), if_pos ⟨Nat.zero_le _, hk⟩]
    congr 2; lia
  rw [e i (by lia), e j hj]
  exact h _ _ (by lia) (by lia)
section
variable {cmp : Nat → Nat → (Bool → Shared → Prop) → Shared → Prop} {Inv : Shared → Prop}
theorem asc_wp (O : Ord c n) (V : PV p n) (H : ∀ i j s k, i < n → j < n → Inv s → (∀ s', Inv s' → k (c i j) s') → cmp i j k s) {Q : Nat → Shared → Prop} :
    ∀ (f m : Nat) (s : Shared), 1 ≤ m → m + f = n → SP c p m → Inv s →
      (∀ m' s', m ≤ m' → m' ≤ n → SP c p m' → (m' < n → c (p.getD m' 0) (p.getD (m' - 1) 0) = true) → Inv s' → Q m' s') → (kas_asc p f m).kasWp cmp Q s
  | 0, m, s, h1, hf, hs, hi, hq => hq m s (Nat.le_refl _) (by lia) hs (fun h => by lia) hi
  | f + 1, m, s, h1, hf, hs, hi, hq => by
    refine H _ _ _ _ (V.lt _) (V.lt _) hi fun s' hi' => ?_
    cases hc : c (p.getD m 0) (p.getD (m - 1) 0) with
    | true =>
      show KasT.kasWp cmp (if true = true then _ else _) _ _
      rw [if_pos rfl]
      exact hq m s' (Nat.le_refl _) (by lia) hs (fun _ => hc) hi'
    | false =>
      show KasT.kasWp cmp (if false = true then _ else _) _ _
      rw [if_neg (by decide)]
      have hl := O.total _ _ (V.lt _) (V.lt _) (V.ne (i := m) (j := m - 1) (by lia) (by lia) (by lia)) hc
      exact asc_wp O V H f (m + 1) s' (by lia) (by lia) (hs.succ O V h1 hl) hi' fun m' s'' a b => hq m' s'' (by lia) b
theorem desc_wp (O : Ord c n) (V : PV p n) (H : ∀ i j s k, i < n → j < n → Inv s → (∀ s', Inv s' → k (c i j) s') → cmp i j k s) {Q : Array Nat × Nat × Nat → Shared → Prop} :
    ∀ (f m : Nat) (s : Shared), 1 ≤ m → m + f = n → DP c p m → Inv s →
      (∀ m' s', m ≤ m' → m' ≤ n → DP c p m' → Inv s' → Q (p, m', 0) s') → (kas_desc f p m 0).kasWp cmp Q s
  | 0, m, s, h1, hf, hs, hi, hq => hq m s (Nat.le_refl _) (by lia) hs hi
  | f + 1, m, s, h1, hf, hs, hi, hq => by
    refine H _ _ _ _ (V.lt _) (V.lt _) hi fun s' hi' => ?_
    cases hc : c (p.getD m 0) (p.getD (m - 1) 0) with
    | true =>
      exact desc_wp O V H f (m + 1) s' (by lia) (by lia) (hs.succ O V h1 hc) hi' fun m' s'' a b => hq m' s'' (by lia) b
    | false =>
      have hl := O.total _ _ (V.lt _) (V.lt _) (V.ne (i := m) (j := m - 1) (by lia) (by lia) (by lia)) hc
      refine H _ _ _ _ (V.lt _) (V.lt _) hi' fun s'' hi'' => ?_
      rw [hl]
      exact hq m s'' (Nat.le_refl _) (by lia) hs hi''
theorem count_wp (O : Ord c n) (V : PV p n) (H : ∀ i j s k, i < n → j < n → Inv s → (∀ s', Inv s' → k (c i j) s') → cmp i j k s) {Q : Nat × Array Nat → Shared → Prop} {s : Shared} (hi : Inv s)
    (hq : ∀ m p' s', 1 ≤ m → m ≤ n → PV p' n → SP c p' m → Inv s' → Q (m, p') s') : (kas_count n p).kasWp cmp Q s := by
  unfold kas_count
  rw [KasT.kasWp_bind]
  have hpos := V.pos
  refine asc_wp O V H (n - 1) 1 s (Nat.le_refl _) (by lia) SP.one hi fun m s' h1 hm hs hst hi' => ?_
  by_cases hmn : m = n
  · rw [if_pos (by simpa using hmn)]
    exact hq m p s' h1 hm V hs hi'
  · rw [if_neg (by simpa using hmn)]
    by_cases h2 : m > 1
    · rw [if_pos h2]
      refine H _ _ _ _ (V.lt _) (V.lt _) hi' fun s'' hi'' => ?_
      rw [hs 0 (m - 1) (by lia) (by lia)]
      exact hq m p s'' h1 hm V hs hi''
    · rw [if_neg h2]
      have hm1 : m = 1 := by lia
      subst hm1
      have hd : DP c p 2 := by
        intro i j hij hj
        have : i = 0 := by lia
        have : j = 1 := by lia
        subst i; subst j
        exact hst (by lia)
      unfold kas_descPart
      rw [KasT.kasWp_bind]
      refine desc_wp O V H (n - 2) 2 s' (by lia) (by lia) hd hi' fun m' s'' h2' hm' hd' hi'' => ?_
      rw [if_neg (by simp)]
      unfold kas_tail3
      rw [KasT.kasWp_bind]
      exact asc_wp O (V.rev 0 m') H (n - m') m' s'' (by lia) (by lia) (SP.of_rev V hm' hd') hi'' fun m2 s3 h3 h4 hs2 _ hi3 => hq m2 _ s3 (by lia) h4 (V.rev 0 m') hs2 hi3
theorem place_wp (O : Ord c n) (V : PV p n) (H : ∀ i j s k, i < n → j < n → Inv s → (∀ s', Inv s' → k (c i j) s') → cmp i j k s) {k : Nat} (hk : k < n) (hs : SP c p k) {Q : Nat → Shared → Prop} :
    ∀ (f l r : Nat) (s : Shared), l ≤ r → r ≤ k → r - l ≤ f → (∀ i, i < l → c (p.getD i 0) (p.getD k 0) = true) → (∀ i, r ≤ i → i < k → c (p.getD k 0) (p.getD i 0) = true) → Inv s →
      (∀ l' s', l' ≤ k → (∀ i, i < l' → c (p.getD i 0) (p.getD k 0) = true) → (∀ i, l' ≤ i → i < k → c (p.getD k 0) (p.getD i 0) = true) → Inv s' → Q l' s') → (kas_place p k f l r).kasWp cmp Q s
  | 0, l, r, s, hlr, hrk, hf, ha, hb, hi, hq => hq l s (by lia) ha (fun i h1 h2 => hb i (by lia) h2) hi
  | f + 1, l, r, s, hlr, hrk, hf, ha, hb, hi, hq => by
    show KasT.kasWp cmp (if l ≥ r then _ else _) _ _
    by_cases h : l ≥ r
    · rw [if_pos h]
      exact hq l s (by lia) ha (fun i h1 h2 => hb i (by lia) h2) hi
    · rw [if_neg h]
      refine H _ _ _ _ (V.lt _) (V.lt _) hi fun s' hi' => ?_
      cases hc : c (p.getD k 0) (p.getD ((l + r) / 2) 0) with
      | true =>
        show KasT.kasWp cmp (if true = true then _ else _) _ _
        rw [if_pos rfl]
        refine place_wp O V H hk hs f l ((l + r) / 2) s' (by lia) (by lia) (by lia) ha (fun i h1 h2 => ?_) hi' hq
        by_cases hm : i = (l + r) / 2
        · rw [hm]; exact hc
        · exact O.trans _ _ _ (V.lt _) (V.lt _) (V.lt _) hc (hs _ _ (by lia) h2)
      | false =>
        show KasT.kasWp cmp (if false = true then _ else _) _ _
        rw [if_neg (by decide)]
        have hl := O.total _ _ (V.lt _) (V.lt _) (V.ne (i := k) (j := (l + r) / 2) hk (by lia) (by lia)) hc
        refine place_wp O V H hk hs f ((l + r) / 2 + 1) r s' (by lia) hrk (by lia) (fun i h1 => ?_) hb hi' hq
        by_cases hm : i = (l + r) / 2
        · rw [hm]; exact hl
        · exact O.trans _ _ _ (V.lt _) (V.lt _) (V.lt _) (hs _ _ (by lia) (by lia)) hl
theorem SP.bub (V : PV p n) {k l : Nat} (hk : k < n) (hl : l ≤ k) (hs : SP c p k) (ha : ∀ i, i < l → c (p.getD i 0) (p.getD k 0) = true) (hb : ∀ i, l ≤ i → i < k → c (p.getD k 0) (p.getD i 0) = true) : SP c (bubble p k (k - l)) (k + 1) := by
  have e : ∀ i, (bubble p k (k - l)).getD i 0 = if i = l then p.getD k 0 else if l < i ∧ i ≤ k then p.getD (i - 1) 0 else p.getD i 0 := by
    intro i
    have := getElem?_bubble (xs := p) (src := k) (by rw [V.size]; exact hk) (k - l) (by lia) i
    rw [show k - (k - l) = l by lia] at this
    rw [Array.getD_eq_getD_getElem?, this]
    split
    · rw [Array.getD_eq_getD_getElem?]
    · split
      · rw [Array.getD_eq_getD_getElem?]
      · rw [Array.getD_eq_getD_getElem?]
  intro i j hij hj
  rw [e i, e j]
  by_cases h1 : i = l
  · rw [if_pos h1, if_neg (by lia), if_pos (by lia)]
    exact hb _ (by lia) (by lia)
  · rw [if_neg h1]
    by_cases h2 : j = l
    · rw [if_pos h2, if_neg (by lia)]
      exact ha _ (by lia)
    · rw [if_neg h2]
      by_cases h3 : l < i ∧ i ≤ k
      · rw [if_pos h3, if_pos (by lia)]
        exact hs _ _ (by lia) (by lia)
      · rw [if_neg h3]
        by_cases h4 : l < j ∧ j ≤ k
        · rw [if_pos h4]
          exact hs _ _ (by lia) (by lia)
        · rw [if_neg h4]
          exact hs _ _ (by lia) (by lia)
end
end
section
variable {c : Nat → Nat → Bool} {n : Nat} {cmp : Nat → Nat → (Bool → Shared → Prop) → Shared → Prop} {Inv : Shared → Prop}
theorem bin_wp (O : Ord c n) (H : ∀ i j s k, i < n → j < n → Inv s → (∀ s', Inv s' → k (c i j) s') → cmp i j k s) {Q : Array Nat → Shared → Prop}
    (hq : ∀ p s', PV p n → SP c p n → Inv s' → Q p s') : ∀ (f : Nat) (p : Array Nat) (k : Nat) (s : Shared), 1 ≤ k → k + f = n → PV p n → SP c p k → Inv s → (kas_bin f p k).kasWp cmp Q s
  | 0, p, k, s, h1, hf, V, hs, hi => hq p s V (by have : k = n := by lia
                                                  exact this ▸ hs) hi
  | f + 1, p, k, s, h1, hf, V, hs, hi => by
    show KasT.kasWp cmp ((kas_place p k k 0 k).bind fun l => kas_bin f (bubble p k (k - l)) (k + 1)) _ _
    rw [KasT.kasWp_bind]
    refine place_wp O V H (by lia) hs k 0 k s (Nat.zero_le _) (Nat.le_refl _) (by lia) (fun i h => by lia) (fun i h h' => by lia) hi fun l s' hl ha hb hi' => ?_
    exact bin_wp O H hq f _ (k + 1) s' (by lia) (by lia) (V.bub _ _) (SP.bub V (by lia) hl hs ha hb) hi'
theorem sort_wp (O : Ord c n) (hn : 1 ≤ n) (H : ∀ i j s k, i < n → j < n → Inv s → (∀ s', Inv s' → k (c i j) s') → cmp i j k s) {Q : Array Nat → Shared → Prop} {s : Shared} (hi : Inv s)
    (hq : ∀ p s', p.toList.Perm (List.range n) → p.toList.Pairwise (fun i j => c i j = true) → Inv s' → Q p s') : (kas_sort n).kasWp cmp Q s := by
  unfold kas_sort
  rw [KasT.kasWp_bind]
  have V : PV (List.toArray (List.range n)) n := ⟨hn, by simp⟩
  have fin : ∀ p s', PV p n → SP c p n → Inv s' → Q p s' := by
    intro p s' V hs hi'
    refine hq p s' V.perm ?_ hi'
    rw [List.pairwise_iff_getElem]
    intro i j hi hj hij
    have hz := V.size
    have := hs i j hij (by simpa [hz] using hj)
    rw [Array.getD_eq_getD_getElem?, Array.getD_eq_getD_getElem?, getElem?_pos p i (by simpa using hi), getElem?_pos p j (by simpa using hj)] at this
    simpa using this
  refine count_wp O V H hi fun m p' s' h1 hm V' hs' hi' => ?_
  show KasT.kasWp cmp (if m < n then _ else _) _ _
  by_cases h : m < n
  · rw [if_pos h]
    have e : max m 1 = m := by lia
    show KasT.kasWp cmp (kas_bin (n - max m 1) p' (max m 1)) _ _
    rw [e]
    exact bin_wp O H fin _ _ _ _ h1 (by lia) V' hs' hi'
  · rw [if_neg h]
    have : m = n := by lia
    subst this
    exact fin p' s' V' hs' hi'
end
theorem strs_at {vs : List Value} {W : List (List Nat)} (h : StrsAre vs (W.map S)) {i : Nat} (hi : i < W.length) : ∃ t, vs.getD i Value.none = .str (S (W.getD i [])) t := by
  have hv : i < vs.length := by rw [strs_len h]; exact hi
  obtain ⟨y, t, hy, e⟩ := strs_getS h (v := vs[i]) (List.getElem?_eq_getElem hv)
  refine ⟨t, ?_⟩
  rw [List.getD_eq_getElem?_getD, List.getD_eq_getElem?_getD, hy, List.getElem?_eq_getElem hv]
  exact e
theorem strs_pick {vs : List Value} {W : List (List Nat)} (h : StrsAre vs (W.map S)) : ∀ (ps : List Nat), (∀ i ∈ ps, i < W.length) → StrsAre (ps.map fun i => vs.getD i Value.none) ((ps.map fun i => W.getD i []).map S)
  | [], _ => .nil
  | i :: ps, hp => by
    obtain ⟨t, e⟩ := strs_at h (hp i (List.Mem.head _))
    rw [List.map_cons, List.map_cons, List.map_cons, e]
    exact .cons _ _ (strs_pick h ps fun j hj => hp j (List.Mem.tail _ hj))
theorem map_range {α : Type} (W : List α) (d : α) : (List.range W.length).map (fun i => W.getD i d) = W := by
  apply List.ext_getElem
  · simp
  · intro i h1 h2; simp [List.getD_eq_getElem?_getD, List.getElem?_eq_getElem h2]
theorem nodup_getD {α : Type} {W : List α} (nd : W.Nodup) (d : α) {i j : Nat} (hi : i < W.length) (hj : j < W.length) (hij : i ≠ j) : W.getD i d ≠ W.getD j d := by
  rw [List.getD_eq_getElem?_getD, List.getD_eq_getElem?_getD, List.getElem?_eq_getElem hi, List.getElem?_eq_getElem hj]
  intro e
  have e' : W[i] = W[j] := e
  rcases Nat.lt_trichotomy i j with h | h | h
  · exact List.pairwise_iff_getElem.mp nd i j hi hj h e'
  · exact hij h
  · exact List.pairwise_iff_getElem.mp nd j i hj hi h e'.symm
theorem lex_total {a b : List Nat} (hne : a ≠ b) (h : ¬a < b) : b < a := by
  have h1 : b ≤ a := List.not_lt.mp h
  rcases List.le_iff_lt_or_eq.mp h1 with h2 | h2
  · exact h2
  · exact absurd h2.symm hne
theorem ord_lex {W : List (List Nat)} (nd : W.Nodup) : Ord (fun i j => decide (W.getD i [] < W.getD j [])) W.length where
  trans i j k hi hj hk h1 h2 := by
    simp only [decide_eq_true_eq] at *
    exact List.lt_trans h1 h2
  total i j hi hj hij h := by
    simp only [decide_eq_true_eq, decide_eq_false_iff_not] at *
    exact lex_total (nodup_getD nd [] hi hj hij) h
section
variable {prog : Program} {w : World} {A : Around} {E : Value → Shared → Prop} {s : Shared} {g : Heap} {L l : Addr} {m : Str → Option Value} {vs : List Value} {W : List (List Nat)} {news : List (Addr × Obj)} {Q : Value → Shared → Prop}
theorem srt_str (F : Fr g L s.heap m) (N : News g L s.heap news) (hl : s.heap.IsList l vs.toArray) (hS : StrsAre vs (W.map S)) (nd : W.Nodup) (h2 : 2 ≤ W.length) (h64 : W.length < 64)
    (h : ∀ D c h' vs' (W' : List (List Nat)), Fr g L h' m → News g L h' ((D, listOf vs'.toArray c) :: news) → Apart news D → W'.Perm W → W'.Pairwise (· < ·) → StrsAre vs' (W'.map S) → Q (.ref D) { s with heap := h' }) :
    wpAny (model prog w) A (PySem.call (.builtin "sorted") [.ref l]) Q E s := by
  have hlen : vs.length = W.length := strs_len hS
  refine kas_sorted (T := .type "str") F N hl (by rw [hlen]; exact h2) (by rw [hlen]; exact h64) (fun h _ _ v hv => ?_) rfl fun D e1 h' F' N' hlt => ?_
  · obtain ⟨i, hi, rfl⟩ := List.getElem_of_mem hv
    obtain ⟨y, t, hy, e⟩ := strs_getS hS (v := vs[i]) (List.getElem?_eq_getElem hi)
    rw [e]; exact Looks.of_pure rfl
  · rw [hlen]
    have hap : ∀ p ∈ news, p.1 ≠ D := fun p hp => Nat.ne_of_lt (hlt p hp)
    refine sort_wp (c := fun i j => decide (W.getD i [] < W.getD j [])) (Inv := fun s' => s' = { s with heap := h' }) (ord_lex nd) (by omega) ?_ rfl ?_
    · rintro i j s' k hi hj rfl hk
      obtain ⟨ti, ei⟩ := strs_at hS hi
      obtain ⟨tj, ej⟩ := strs_at hS hj
      unfold kas_ask
      rw [ei, ej]
      refine kas_lt_str ?_
      have := hk _ rfl
      rw [S_cps, S_cps]; exact this
    · rintro p s' hp hs rfl
      refine KasFin.intro F' N' (.head hap) fun h2 c F2 N2 => ?_
      have hpm : ∀ i ∈ p.toList, i < W.length := fun i hi => List.mem_range.mp (hp.mem_iff.mp hi)
      refine h D c h2 _ (p.toList.map fun i => W.getD i []) F2 N2 hap ?_ ?_ (strs_pick hS _ hpm)
      · have := hp.map (fun i => W.getD i [])
        rwa [map_range] at this
      · rw [List.pairwise_map]
        exact hs.imp fun {a b} q => by simpa using q
end
noncomputable def QIn (news : List (Addr × Obj)) (x : Addr × List Nat) : Prop := ∃ dx es n t, (x.1, instObj 141 dx) ∈ news ∧ (dx, dictOf es n) ∈ news ∧ getL (Str.ofString "text") es = some (some (.str (S x.2) t))
theorem QIn.isQ {news : List (Addr × Obj)} {x : Addr × List Nat} {g h : Heap} {L : Addr} (I : QIn news x) (N : News g L h news) : IsQ h x.1 x.2 := by
  obtain ⟨dx, es, n, t, h1, h2, h3⟩ := I
  exact ⟨dx, es, n, t, N.get h1, N.get h2, h3⟩
theorem QIn.sub {a b : List (Addr × Obj)} {x : Addr × List Nat} (I : QIn a x) (h : ∀ p ∈ a, p ∈ b) : QIn b x := by
  obtain ⟨dx, es, n, t, h1, h2, h3⟩ := I
  exact ⟨dx, es, n, t, h _ h1, h _ h2, h3⟩
section
variable {w : World} {A : Around} {E : Value → Shared → Prop} {s : Shared} {g : Heap} {L l : Addr} {m : Str → Option Value} {news : List (Addr × Obj)} {Q : Value → Shared → Prop} {ls : List Str} {mg mb : Str → Option Value} {qs : List (Addr × List Nat)}
theorem q_at (i : Nat) (hi : i < qs.length) : (qs.map fun x => Value.ref x.1).getD i Value.none = .ref (qs.getD i (0, [])).1 := by
  rw [List.getD_eq_getElem?_getD, List.getD_eq_getElem?_getD, List.getElem?_map, List.getElem?_eq_getElem hi]; rfl
theorem q_pick : ∀ (ps : List Nat), (∀ i ∈ ps, i < qs.length) → (ps.map fun i => (qs.map fun x => Value.ref x.1).getD i Value.none) = (ps.map fun i => qs.getD i (0, [])).map fun x => Value.ref x.1
  | [], _ => rfl
  | i :: ps, hp => by
    rw [List.map_cons, List.map_cons, List.map_cons, q_at i (hp i (List.Mem.head _)), q_pick ps fun j hj => hp j (List.Mem.tail _ hj)]
theorem ord_q (nd : (qs.map (·.2)).Nodup) : Ord (fun i j => decide ((qs.getD i (0, [])).2 < (qs.getD j (0, [])).2)) qs.length := by
  have e : ∀ i, (qs.getD i (0, [])).2 = (qs.map (·.2)).getD i [] := by
    intro i
    rw [List.getD_eq_getElem?_getD, List.getD_eq_getElem?_getD, List.getElem?_map]
    cases qs[i]? <;> rfl
  have := ord_lex nd
  rw [List.length_map] at this
  have f : (fun i j => decide ((qs.getD i (0, [])).2 < (qs.getD j (0, [])).2)) = fun i j => decide ((qs.map (·.2)).getD i [] < (qs.map (·.2)).getD j []) := by
    funext i j; rw [e, e]
  rw [f]; exact this
theorem srt_q (X : (hd.heap_39 w.params).In g) (T : TopRead theView ls mg mb g) (F : Fr g L s.heap m) (N : News g L s.heap news) (h0 : 0 < s.toks)
    (hr : A.in1.in1.depth + 1 < recursionLimit) (hh : A.in1.in1.handled = none) (hu : A.in1.in1.units < cLine)
    (hl : s.heap.IsList l (qs.map fun x => Value.ref x.1).toArray) (hq : ∀ x ∈ qs, QIn news x) (nd : (qs.map (·.2)).Nodup) (h2 : 2 ≤ qs.length) (h64 : qs.length < 64)
    (h : ∀ D c h' tk' (qs' : List (Addr × List Nat)), Fr g L h' m → 0 < tk' → News g L h' ((D, listOf (qs'.map fun x => Value.ref x.1).toArray c) :: news) → Apart news D → qs'.Perm qs → qs'.Pairwise (fun a b => a.2 < b.2) → Q (.ref D) { s with heap := h', toks := tk' }) :
    wpAny (model PySem.Challenge.rw_wu0072_01.row.prog w) A (PySem.call (.builtin "sorted") [.ref l]) Q E s := by
  refine kas_sorted (T := .ref 141) F N hl (by rw [List.length_map]; exact h2) (by rw [List.length_map]; exact h64) (fun h F₁ N₁ v hv => ?_) rfl fun D e1 h' F' N' hlt => ?_
  · obtain ⟨x, hx, rfl⟩ := List.mem_map.mp hv
    obtain ⟨dx, es, n, t, J, _⟩ := isQ_inst ((hq x hx).isQ N₁)
    exact InstAt.type J
  · rw [List.length_map]
    have hap : ∀ p ∈ news, p.1 ≠ D := fun p hp => Nat.ne_of_lt (hlt p hp)
    refine sort_wp (c := fun i j => decide ((qs.getD i (0, [])).2 < (qs.getD j (0, [])).2)) (Inv := fun s' => ∃ h₂ tk₂, s' = { s with heap := h₂, toks := tk₂ } ∧ 0 < tk₂ ∧ Fr g L h₂ m ∧ News g L h₂ ((D, seqObj "list" #[] e1) :: news)) (ord_q nd) (by omega) ?_ ⟨h', s.toks, rfl, h0, F', N'⟩ ?_
    · rintro i j s' k hi hj ⟨h₂, tk₂, rfl, ht₂, F₂, N₂⟩ hk
      unfold kas_ask
      rw [q_at i hi, q_at j hj]
      have hmi : qs.getD i (0, []) ∈ qs := by rw [List.getD_eq_getElem?_getD, List.getElem?_eq_getElem hi]; exact List.getElem_mem hi
      have hmj : qs.getD j (0, []) ∈ qs := by rw [List.getD_eq_getElem?_getD, List.getElem?_eq_getElem hj]; exact List.getElem_mem hj
      have Ii := (hq _ hmi).isQ (news_sub N₂ fun p hp => List.Mem.tail _ hp)
      have Ij := (hq _ hmj).isQ (news_sub N₂ fun p hp => List.Mem.tail _ hp)
      obtain ⟨dx, es, n, t, J, _⟩ := isQ_inst Ii
      refine kas_lt_inst (K := hd.heap_39 w.params) (s := { s with heap := h₂, toks := tk₂ }) (f := 117) hu F₂ X J (by k_is) (by k_is) ?_
      refine CallOK.useF F₂ N₂ (qname_lt (X.keeps F₂.keep) (TopRead.keeps T F₂.keep) hr hh ht₂ Ii Ij) ht₂ fun v h₃ tk₃ F₃ N₃ _ ht₃ hv => ?_
      subst hv
      exact hk _ ⟨h₃, tk₃, rfl, ht₃, F₃, N₃⟩
    · rintro p s' hp hs ⟨h₂, tk₂, rfl, ht₂, F₂, N₂⟩
      refine KasFin.intro F₂ N₂ (.head hap) fun h₃ c F₃ N₃ => ?_
      have hpm : ∀ i ∈ p.toList, i < qs.length := fun i hi => List.mem_range.mp (hp.mem_iff.mp hi)
      rw [q_pick _ hpm] at N₃
      refine h D c h₃ tk₂ (p.toList.map fun i => qs.getD i (0, [])) F₃ ht₂ N₃ hap ?_ ?_
      · have := hp.map (fun i => qs.getD i (0, []))
        rwa [map_range] at this
      · rw [List.pairwise_map]
        exact hs.imp fun {a b} q => by simpa using q
end
theorem va_stored (kvs : List (Str × Value)) (k y : Str) (v : Value) : valueAt (stored kvs k v) y = if y = k then some v else valueAt kvs y := by
  unfold stored
  by_cases hany : kvs.any (fun kv => kv.1 = k) = true
  · rw [if_pos hany]
    induction kvs with
    | nil => simp at hany
    | cons kv r ih =>
      obtain ⟨a, b⟩ := kv
      by_cases ha : a = k
      · subst ha
        by_cases hy : y = a
        · subst hy; simp [valueAt]
        · have : ¬ a = y := fun e => hy e.symm
          simp only [List.map_cons, if_true, if_neg hy]
          rw [va_s this, va_s this]
          by_cases h2 : r.any (fun kv => kv.1 = a) = true
          · rw [ih h2, if_neg hy]
          · have e : r.map (fun kv => if kv.1 = a then (kv.1, v) else kv) = r := by
              rw [List.map_congr_left (g := id), List.map_id]
              intro x hx
              have : ¬ x.1 = a := fun e => h2 (List.any_eq_true.mpr ⟨x, hx, by simpa using e⟩)
              simp [this]
            rw [e]
      · have h2 : r.any (fun kv => kv.1 = k) = true := by simpa [ha] using hany
        simp only [List.map_cons, if_neg ha]
        by_cases hy : a = y
        · subst hy
          rw [va_1 rfl, va_1 rfl, if_neg ha]
        · rw [va_s hy, va_s hy, ih h2]
  · rw [if_neg hany]
    have hn : ∀ x ∈ kvs, ¬ x.1 = k := fun x hx e => hany (List.any_eq_true.mpr ⟨x, hx, by simpa using e⟩)
    clear hany
    induction kvs with
    | nil => by_cases hy : y = k
             · subst hy; simp [valueAt]
             · have : ¬ k = y := fun e => hy e.symm
               simp [valueAt, hy, this]
    | cons kv r ih =>
      obtain ⟨a, b⟩ := kv
      have ha : ¬ a = k := hn _ (List.Mem.head _)
      rw [List.cons_append]
      by_cases hy : a = y
      · subst hy; rw [va_1 rfl, va_1 rfl, if_neg ha]
      · rw [va_s hy, va_s hy]; exact ih fun x hx => hn x (List.Mem.tail _ hx)
section
variable {prog : Program} {w : World} {A : Around} {E : Value → Shared → Prop} {s : Shared} {g : Heap} {L : Addr} {m : Str → Option Value} {news : List (Addr × Obj)}
theorem d_set {d : Addr} {od : Obj} {kvs : List (Str × Value)} {x : Str} {t : Tok} {v : Value} {Q : Unit → Shared → Prop} (F : Fr g L s.heap m) (N : News g L s.heap ((d, od) :: news)) (hap : ∀ p ∈ news, p.1 ≠ d) (hd : od.IsDictOf (PySem.strKind prog w) kvs) (hsz : kvs.length ≤ 1000)
    (h : ∀ o' h', o'.IsDictOf (PySem.strKind prog w) (stored kvs x v) → Fr g L h' m → News g L h' ((d, o') :: news) → Q () { s with heap := h', toks := s.toks + 1 }) :
    wpAny (model prog w) A (setItem (.ref d) (.str x t) v) Q E s := by
  have nd := N (d, od) (List.Mem.head _)
  refine wpAny_setItem_pairs (knd := PySem.strKind prog w) (k := x) (beq_self_eq_true x) (Heap.dictOf_iff.mpr ⟨od, nd.1, hd⟩) (fun h' hd' hs => ?_) (by rw [sizeLine_eq]; omega)
  obtain ⟨o', ho', hdo⟩ := Heap.dictOf_iff.mp hd'
  refine h o' h' hdo (kas_fr F hs nd.2.1 nd.2.2) fun p hp => ?_
  rcases List.mem_cons.mp hp with rfl | hp
  · exact ⟨ho', nd.2⟩
  · have q := N p (List.Mem.tail _ hp)
    exact ⟨(hs.2 _ (hap p hp)).trans q.1, q.2⟩
theorem newObj {h h' : Heap} {p : Addr} {o : Obj} (F : Fr g L h m) (N : News g L h news) (hp0 : h.get? p = none) (ho : h'.get? p = some o) (N' : News g L h' news) : News g L h' ((p, o) :: news) ∧ Apart news p := by
  refine ⟨fun q hq => ?_, fun q hq e => ?_⟩
  · rcases List.mem_cons.mp hq with rfl | hq
    · refine ⟨ho, fun e => ?_, ?_⟩
      · obtain ⟨oL, _, _, hL, _⟩ := F.ns
        dsimp only at e; rw [e, hL] at hp0; cases hp0
      · cases q : g.get? p with
        | none => rfl
        | some o => have := F.keep _ _ q; rw [hp0] at this; cases this
    · exact N' q hq
  · have := (N q hq).1; rw [e, hp0] at this; cases this
end
noncomputable abbrev tHue (W : List (List Nat)) (x : List Nat) : UInt64 := (tH (placeI x x.length + stepI x.length) x.length (W.filter (pre x)).length).1
noncomputable abbrev tNum (W : List (List Nat)) (x : List Nat) : Int := tN (placeI x x.length + stepI x.length) x.length (W.filter (pre x)).length
noncomputable def ToldIn (W : List (List Nat)) (kvs : List (Str × Value)) (tups : List (Addr × Obj)) (i : Nat) : Prop :=
  ∀ j, j < i → ∃ p o t1 t2, valueAt kvs (S (W.getD j [])) = some (.ref p) ∧ (p, o) ∈ tups ∧ o.cls = .type "tuple" ∧ ∃ n, o.data = .seq #[.float (tHue W (W.getD j [])) t1, .int (tNum W (W.getD j [])) t2] n
theorem ToldIn.next {W : List (List Nat)} {kvs : List (Str × Value)} {tups : List (Addr × Obj)} {i : Nat} (h : ToldIn W kvs tups i) (nd : W.Nodup) {x : List Nat} (hx : W[i]? = some x) {p : Addr} {o : Obj} {t1 t2 : Tok} {n : Nat} (hc : o.cls = .type "tuple")
    (hd : o.data = .seq #[.float (tHue W x) t1, .int (tNum W x) t2] n) : ToldIn W (stored kvs (S x) (.ref p)) ((p, o) :: tups) (i + 1) := by
  have hxi : W.getD i [] = x := by rw [List.getD_eq_getElem?_getD, hx]; rfl
  have hi : i < W.length := by
    rcases Nat.lt_or_ge i W.length with h | h
    · exact h
    · rw [List.getElem?_eq_none h] at hx; cases hx
  intro j hj
  rcases Nat.lt_or_ge j i with hji | hji
  · obtain ⟨q, oq, u1, u2, e1, e2, e3, e4⟩ := h j hji
    refine ⟨q, oq, u1, u2, ?_, List.Mem.tail _ e2, e3, e4⟩
    rw [va_stored, if_neg, e1]
    rw [S_inj, ← hxi]
    exact nodup_getD nd [] (by omega) hi (by omega)
  · have : j = i := by omega
    subst this
    refine ⟨p, o, t1, t2, ?_, List.Mem.head _, hc, n, ?_⟩
    · rw [va_stored, hxi, if_pos rfl]
    · rw [hxi]; exact hd
theorem float_lt1 {prog : Program} {w : World} {A : Around} {E : Value → Shared → Prop} {s : Shared} {a b : UInt64} {t u : Tok} {Q : Bool → Shared → Prop} (h : Q (flt a b) s) : wpAny (model prog w) A (keyLt' oneType' (.float a t) (.float b u)) Q E s := by
  rw [keyLt'_oneType, oneLt'_eq]
  simp only [if_true]
  refine wpAny_bind (wpAny_cRoomFor_byValue rfl ?_)
  refine wpAny_bind (wpAny_callSpecialIfBound?_slot (AutoFloatOps.typeIs_float s a t) F.slot_float_lt (call_gives F.slot_float_lt (AutoFloatOps.typeIs_float s a t) F.entry_float_lt (F.args_float_lt_2 _ _) (AutoFloatG5.float___lt___float_float_0 a t b u) ?_))
  exact wpAny_truthy_bool h
theorem enterE {w : World} {A : Around} {s : Shared} {post : Value → Heap → Prop}
    {name qual : Str} {params : Arguments} {body : Expr} {scope : Scope} {cl : List (Str × Addr)} {pm ctv : Value} {c' f : Addr} {args : List Value} {binds : List (Str × Value)}
    (ho : s.heap.get? f = some (kla_obj name qual params body scope cl pm c' ctv)) (hcd : s.heap.CodeRec (.ref c') qual) (nl : s.heap.NoLimit)
    (hroom : A.depth < recursionLimit) (h0 : 0 < s.toks)
    (hbind : bindArgs (kla_fn name qual params body scope cl pm (.ref c') ctv) ⟨args, []⟩ = pure binds) (hloc : ∀ y ∈ binds, scope.names.lookup y.1 = some .local)
    (h : ∀ L' h₁ tk, 0 < tk → Fr s.heap L' h₁ (fun y => binds.reverse.lookup y) → News s.heap L' h₁ [] →
      wpAny (model PySem.Challenge.rw_wu0072_01.row.prog w) (A.deeper (envX qual scope L' f (.ref c') cl)) (eval body (envX qual scope L' f (.ref c') cl))
        (fun v s' => ∃ h' tk', s' = { s with heap := h', toks := tk' } ∧ s.heap.StaysIn h' ∧ post v h') (fun _ _ => False)
        { s with heap := h₁, toks := tk })
    (hco : scope.isCoroutine = false) (hgen : scope.isGenerator = false) (hk : scope.kind = .function)
    (hcell : ∀ x ∈ scope.names, x.2 ≠ .cell) : CallOK w A (.ref f) args s post := by
  refine kla_callFunE hroom ho rfl hco hgen rfl hcd ?_
  rw [hbind]
  refine wpAny_pure (wpAny_newFunctionEnv hcell hloc (fun h₁ hns hsb => ⟨nl.fresh _ hsb, ?_⟩) hk)
  show codeAny _ _ (.expr body (envX qual scope s.heap.objs.size f (.ref c') cl)) _ _
  have hk₁ : ∀ b o, s.heap.get? b = some o → h₁.get? b = some o := fun b o e => hsb.extBut b o (Nat.ne_of_lt (Heap.lt_size e)) (Heap.get?_push_of_some _ e)
  refine kla_codeExpr (wpAny_mono (h _ h₁ _ (Nat.lt_of_lt_of_le h0 (Nat.le_add_right _ _)) ⟨hns, hk₁, Nat.le_refl _⟩ News.nil) (fun v s' hl => ?_) fun _ _ y => y.elim)
  obtain ⟨h', tk', e, st, hp⟩ := hl
  exact ⟨_, h', tk', rfl, e, st, hp⟩
theorem name_freeB {M : Model} {A : Around} {E : Value → Shared → Prop} {s : Shared} {g : Heap} {L L' a c : Addr} {m : Str → Option Value} {cn : Str} {cs : Scope} {ccd : Value} {cl : List (Str × Addr)} {x : Str} {pos : Pos} {v : Value} {Q : Value → Shared → Prop}
    (F : Fr g L s.heap m) (hc : cl.lookup x = some c) (hv : g.IsCell c (some v)) (h : Q v s)
    (hk : cs.kind = .function) (hx : (envX cn cs L' a ccd cl).kindOf x = some .free) (hb : (x == ("__debug__" : Str)) = false) (hn : (x == ("__classdict__" : Str)) = false) :
    wpAny M A (eval (.Name x pos) (envX cn cs L' a ccd cl)) Q E s := wpAny_Name (wpAny_loadName_free hk hx hc (cell_keep hv F) h hn) hb
local macro_rules | `(tactic| walk_at "eval Name") => `(tactic| ((with_reducible show wpAny _ _ (eval (Expr.Name _ _) (envX _ _ _ _ _ _)) _ _ _); k_dflt (refine' name_freeB ?F ?hc ?hv ?_ ?h1 ?h2 ?h3 ?h4; (case F => assumption); (case hc => exact rfl); (case hv => assumption); (case h1 => rfl); (case h2 => rfl); (case h3 => decide +kernel); (case h4 => decide +kernel))))
local macro_rules | `(tactic| walk_at "eval Name") => `(tactic| ((with_reducible show wpAny _ _ (eval (Expr.Name _ _) (envX _ _ _ _ _ _)) _ _ _); k_dflt (refine' nameX_L ?F ?v ?_ ?a ?b; (case F => assumption); (case a => rfl); (case b => rfl); (case v => rfl))))
theorem key_spec {w : World} {A : Around} {s : Shared} {name qual : Str} {pm ctv : Value} {c' f c d p : Addr} {p1 p2 p3 p4 p5 p6 : Pos} {k6 : Nat} {kvs : List (Str × Value)} {x : List Nat} {t t1 t2 : Tok} {u : UInt64} {n : Int}
   (nl : s.heap.NoLimit) (hr : A.depth + 1 < recursionLimit) (hh : A.handled = none) (h0 : 0 < s.toks)
   (hf : s.heap.get? f = some (kla_obj name qual { posonlyargs := [], args := [{ arg := Str.ofString "one", annotation := none, pos := p1 }], vararg := none, kwonlyargs := [], kw_defaults := [], kwarg := none, defaults := [] }
     (((Expr.Name (Str.ofString "told") p2).Subscript (Expr.Name (Str.ofString "one") p3) p4).Subscript (Expr.Constant (Const.int 0) k6 p5) p6)
     { kind := ScopeKind.function, names := [(Str.ofString "one", NameKind.local), (Str.ofString "told", NameKind.free)], isGenerator := false, isCoroutine := false } [(Str.ofString "told", c)] pm c' ctv))
   (hcd : s.heap.CodeRec (.ref c') qual) (hc : s.heap.IsCell c (some (.ref d))) (hd : s.heap.DictOf (PySem.strKind PySem.Challenge.rw_wu0072_01.row.prog w) d kvs) (hv : valueAt kvs (S x) = some (.ref p)) (hp : IsTup s.heap p #[.float u t1, .int n t2]) :
   CallOK w A (.ref f) [.str (S x) t] s (fun v _ => ∃ t', v = .float u t') := by
  refine' enterE hf hcd nl ?k8 h0 ?k9 ?kB ?_ ?c2 ?c3 ?c4 ?c5
  case k8 => omega
  case k9 => exact rfl
  case kB => exact locs rfl
  case c2 => rfl
  case c3 => rfl
  case c4 => rfl
  case c5 => decide
  intro L' h₁ tk ht F N
  replace F : Fr s.heap L' h₁ (fun y => List.lookup y [(Str.ofString "one", .str (S x) t)]) := F
  try dsimp only
  repeat' ((fail_if_success (with_reducible show wpAny _ _ (subscriptTail _ _ _ _) _ _ _)); walk1)
  obtain ⟨od, hod, hdo⟩ := Heap.dictOf_iff.mp hd
  refine d_get (Heap.dictOf_iff.mpr ⟨od, F.keep _ _ hod, hdo⟩) hv ?_
  repeat' ((fail_if_success (with_reducible show wpAny _ _ (subscriptTail _ _ _ _) _ _ _)); walk1)
  refine item_tupleT (l := [.float u t1, .int n t2]) (j := 0) (stays_tup F.keep hp) (by decide) (by decide) rfl rfl ?_
  exact ⟨_, _, rfl, F.keep, _, rfl⟩
inductive KF (key : List Nat → UInt64) : List Value → List (List Nat) → Prop
  | nil : KF key [] []
  | cons {r V} (x u) : KF key r V → KF key (.float (key x) u :: r) (x :: V)
section
variable {key : List Nat → UInt64} {ks ks' : List Value} {V V' : List (List Nat)}
theorem KF.append (h : KF key ks V) (h' : KF key ks' V') : KF key (ks ++ ks') (V ++ V') := by
  induction h with
  | nil => exact h'
  | cons x u h ih => exact .cons x u ih
theorem KF.len (h : KF key ks V) : ks.length = V.length := by
  induction h with
  | nil => rfl
  | cons x u h ih => rw [List.length_cons, List.length_cons, ih]
theorem KF.mem (h : KF key ks V) : ∀ v ∈ ks, ∃ x u, v = .float (key x) u := by
  induction h with
  | nil => exact fun _ h => nomatch h
  | cons x u h ih => exact List.forall_mem_cons.mpr ⟨⟨x, u, rfl⟩, ih⟩
theorem KF.get (h : KF key ks V) : ∀ {i : Nat}, i < V.length → ∃ u, ks.getD i Value.none = .float (key (V.getD i [])) u := by
  induction h with
  | nil => intro i hi; exact absurd hi (Nat.not_lt_zero _)
  | cons x u h ih =>
    intro i hi
    cases i with
    | zero => exact ⟨u, rfl⟩
    | succ i => obtain ⟨u', e⟩ := ih (i := i) (by simpa using hi); exact ⟨u', by simpa using e⟩
end
section
variable {w : World} {A : Around} {E : Value → Shared → Prop} {s : Shared} {g : Heap} {L l f : Addr} {m : Str → Option Value} {vs : List Value} {W : List (List Nat)} {news : List (Addr × Obj)} {Q : Value → Shared → Prop} {key : List Nat → UInt64}
theorem kat_keysF {kS : Addr} {Fin : List Value → Nat → Shared → Prop} (hap : ∀ p ∈ news, p.1 ≠ kS)
    (hf : ∀ x ∈ W, ∀ (t : Tok) (s' : Shared), Fr g L s'.heap m → News g L s'.heap news → 0 < s'.toks → CallOK w A (.ref f) [.str (S x) t] s' (fun v _ => ∃ u, v = .float (key x) u)) :
    ∀ (r : List Value) (V V0 : List (List Nat)) (ks : List Value) (e : Nat) (s : Shared), StrsAre r (V.map S) → (∀ x ∈ V, x ∈ W) → KF key ks V0 → Fr g L s.heap m → News g L s.heap ((kS, seqObj "list" (List.toArray ks) e) :: news) → 0 < s.toks →
      (∀ ks' e' h' tk', KF key ks' (V0 ++ V) → Fr g L h' m → News g L h' ((kS, seqObj "list" (List.toArray ks') e') :: news) → 0 < tk' → Fin ks' e' { s with heap := h', toks := tk' }) →
      KatKeys PySem.Challenge.rw_wu0072_01.row.prog w A g L m kS (.ref f) Fin r ks e s
  | [], V, V0, ks, e, s, hS, hV, hK, F, N, h0, fin => by
    have : V = [] := by
      cases V with
      | nil => rfl
      | cons x V => cases hS
    subst this
    refine KatKeys.nil ?_
    have := fin ks e s.heap s.toks (by rw [List.append_nil]; exact hK) F N h0
    exact this
  | v :: r, V, V0, ks, e, s, hS, hV, hK, F, N, h0, fin => by
    cases V with
    | nil => cases hS
    | cons x V =>
      obtain ⟨t, rfl, hS'⟩ : ∃ t, v = .str (S x) t ∧ StrsAre r (V.map S) := by
        rw [List.map_cons] at hS
        cases hS with
        | cons y t h => exact ⟨t, rfl, h⟩
      refine KatKeys.cons ?_
      refine CallOK.useF F N (hf x (hV x (List.Mem.head _)) t s F (news_sub N fun p hp => List.Mem.tail _ hp) h0) h0 fun k h₁ tk₁ F₁ N₁ _ ht₁ hk => ?_
      obtain ⟨u, rfl⟩ := hk
      refine KatBack.intro F₁ N₁ (.head hap) fun h₂ c F₂ N₂ => ?_
      refine kat_keysF hap hf r V (V0 ++ [x]) (ks ++ [.float (key x) u]) c { s with heap := h₂, toks := tk₁ } hS' (fun y hy => hV y (List.Mem.tail _ hy)) (hK.append (.cons x u .nil)) F₂ N₂ ht₁ ?_
      intro ks' e' h' tk' hK' F' N' ht'
      exact fin ks' e' h' tk' (by rw [List.append_assoc] at hK'; exact hK') F' N' ht'
theorem srt_key {kw : List (Str × Value)} (F : Fr g L s.heap m) (N : News g L s.heap news) (h0 : 0 < s.toks) (hl : s.heap.IsList l vs.toArray) (hS : StrsAre vs (W.map S)) (h2 : 2 ≤ W.length) (h64 : W.length < 64)
    (ha1 : argsOk "sorted" ⟨[.ref l], kw⟩) (ha2 : ∀ x, argsOk "list.sort" ⟨[.ref x], kw⟩) (ht : ∀ x, Builtin.«list.sort» ⟨[.ref x], kw⟩ = ksk_tree x (.ref f) false)
    (hf : ∀ x ∈ W, ∀ (t : Tok) (s' : Shared), Fr g L s'.heap m → News g L s'.heap news → 0 < s'.toks → CallOK w A.in1.in1 (.ref f) [.str (S x) t] s' (fun v _ => ∃ u, v = .float (key x) u))
    (O : Ord (fun i j => flt (key (W.getD i [])) (key (W.getD j []))) W.length)
    (h : ∀ D c h' tk' vs' (W' : List (List Nat)), 0 < tk' → Fr g L h' m → News g L h' ((D, listOf vs'.toArray c) :: news) → Apart news D → W'.Perm W → W'.Pairwise (fun a b => flt (key a) (key b) = true) → StrsAre vs' (W'.map S) → Q (.ref D) { s with heap := h', toks := tk' }) :
    wpAny (model PySem.Challenge.rw_wu0072_01.row.prog w) A (PySem.call (.builtin "sorted") [.ref l] kw) Q E s := by
  have hlen : vs.length = W.length := strs_len hS
  refine kat_sortedK F N hl (by rw [hlen]; exact h2) (by rw [hlen]; exact h64) ha1 ha2 ht fun D kS e1 h' F' N' hDk hnD => ?_
  have hapD : ∀ p ∈ news, p.1 ≠ D := fun p hp => Nat.ne_of_lt (hnD p hp)
  have hapk : ∀ p ∈ (D, seqObj "list" #[] e1) :: news, p.1 ≠ kS := List.forall_mem_cons.mpr ⟨Nat.ne_of_lt hDk, fun p hp => Nat.ne_of_lt (Nat.lt_trans (hnD p hp) hDk)⟩
  refine kat_keysF (W := W) (key := key) hapk (fun x hx t s' F₁ N₁ h₁ => hf x hx t s' F₁ (news_sub N₁ fun p hp => List.Mem.tail _ hp) h₁) vs W [] [] 0 _ hS (fun _ hx => hx) .nil F' N' h0 ?_
  intro ks e h₁ tk₁ hK F₁ N₁ ht₁
  rw [List.nil_append] at hK
  have hkl : ks.length = W.length := hK.len
  refine kas_kind (T := .type "float") (by rw [hkl]; exact h2) (fun v hv => ?_) rfl rfl ?_
  · obtain ⟨x, u, rfl⟩ := hK.mem v hv
    exact Looks.of_pure rfl
  · rw [hlen]
    refine sort_wp (c := fun i j => flt (key (W.getD i [])) (key (W.getD j []))) (Inv := fun s' => s' = { s with heap := h₁, toks := tk₁ }) O (by omega) ?_ rfl ?_
    · rintro i j s' k hi hj rfl hk
      obtain ⟨ui, ei⟩ := hK.get hi
      obtain ⟨uj, ej⟩ := hK.get hj
      unfold kas_ask
      show wpAny _ _ (keyLt' _ (ks.getD i Value.none) (ks.getD j Value.none)) _ _ _
      rw [ei, ej]
      exact float_lt1 (hk _ rfl)
    · rintro p s' hp hs rfl
      refine KatFin.intro F₁ N₁ (.head hapk) fun h₂ c F₂ N₂ => ?_
      refine KasFin.intro F₂ N₂ (.tail (Nat.ne_of_gt hDk) (.head hapD)) fun h₃ c₃ F₃ N₃ => ?_
      have hpm : ∀ i ∈ p.toList, i < W.length := fun i hi => List.mem_range.mp (hp.mem_iff.mp hi)
      refine h D c₃ h₃ tk₁ _ (p.toList.map fun i => W.getD i []) ht₁ F₃ (news_sub N₃ fun q hq => List.Mem.tail _ hq) hapD ?_ ?_ (strs_pick hS _ hpm)
      · have := hp.map (fun i => W.getD i [])
        rwa [map_range] at this
      · rw [List.pairwise_map]
        exact hs
end
section
open PyProof.V PySem.Spec PySem.SeqAt
theorem readsAll_of_strs {h : Heap} : ∀ {vs : List Value} {ns : List Str}, StrsAre vs ns → ReadsAll h vs (ns.map PyData.str) []
  | _, _, .nil => .nil
  | _, _, .cons k t r => by
    have := ReadsAll.cons (Reads.str (h := h) k t) (readsAll_of_strs (h := h) r)
    simpa using this
theorem reads_of_strs {h : Heap} {a : Addr} {vs : List Value} {ns : List Str} (hl : h.IsList a vs.toArray) (hi : StrsAre vs ns) : Reads h (.ref a) (.list (ns.map PyData.str)) [a] := by
  obtain ⟨o, ho, hc, n, hd⟩ := hl
  exact Reads.list ho hc hd (by simpa using readsAll_of_strs hi)
theorem canLayAll0_strs : ∀ ns : List Str, (∀ n ∈ ns, PyData.strOk n = true) → PyData.canLayAll0 (ns.map PyData.str) = true
  | [], _ => by simp [PyData.canLayAll0]
  | n :: r, h => by simp [PyData.canLayAll0, PyData.canLay0, canLayAll0_strs r fun x hx => h x (List.Mem.tail _ hx), h n (List.Mem.head _)]
noncomputable def Small (V : List (List Nat)) : Prop := ∀ y ∈ V, ∀ c ∈ y, c < 1000
theorem small_ok {V : List (List Nat)} (h : Small V) : ∀ n ∈ V.map S, PyData.strOk n = true := by
  intro n hn
  obtain ⟨y, hy, rfl⟩ := List.mem_map.mp hn
  unfold PyData.strOk
  rw [← Array.all_toList, S_cps]
  exact List.all_eq_true.mpr fun c hc => by have := h y hy c hc; simp; omega
theorem depthAll_strs : ∀ ns : List Str, PyData.depthAll (ns.map PyData.str) ≤ 1
  | [] => by simp [PyData.depthAll]
  | n :: r => by
    have := depthAll_strs r
    simp only [List.map_cons, PyData.depthAll, PyData.depth]
    omega
theorem shaped_strs (ns : List Str) (ok : ∀ n ∈ ns, PyData.strOk n = true) : shaped (.list (ns.map PyData.str)) = true := by
  have h1 := depthAll_strs ns
  have h2 : PyData.depth (.list (ns.map PyData.str)) ≤ 64 := by simp only [PyData.depth]; omega
  show (PyData.canLay0 (.list (ns.map PyData.str)) && decide (PyData.depth (.list (ns.map PyData.str)) ≤ 64)) = true
  rw [Bool.and_eq_true]
  exact ⟨by simp only [PyData.canLay0]; exact canLayAll0_strs ns ok, decide_eq_true h2⟩
theorem noMix_strs : ∀ ns ms : List Str, noMixAll (ns.map PyData.str) (ms.map PyData.str) = true
  | [], [] => by simp [noMixAll]
  | [], _ :: _ => by simp [noMixAll]
  | _ :: _, [] => by simp [noMixAll]
  | _ :: r, _ :: q => by simp [noMixAll, noMix, noMix_strs r q]
theorem same_strs : ∀ ns : List Str, PySem.Spec.sameAll (ns.map PyData.str) (ns.map PyData.str) = true
  | [] => by simp [PySem.Spec.sameAll]
  | n :: r => by simp only [List.map_cons, PySem.Spec.sameAll, PySem.Spec.same, same_strs r]; simp
section
variable {prog : Program} {w : World} {A : Around} {E : Value → Shared → Prop} {s : Shared}
theorem ne_same {a b : Addr} {vs us : List Value} {V V' : List (List Nat)} {Q : Value → Shared → Prop} (hl : s.heap.IsList a vs.toArray) (hi : StrsAre vs (V.map S)) (hl' : s.heap.IsList b us.toArray) (hi' : StrsAre us (V'.map S)) (e : V = V') (hs : Small V) (hu : A.units + 64 < cLine)
    (h : Q (.bool false) s) : wpAny (model prog w) A (compareOp .NotEq (.ref a) (.ref b)) Q E s := by
  subst e
  exact ne_dataH_same (reads_of_strs hl hi) (reads_of_strs hl' hi') (shaped_strs _ (small_ok hs)) (shaped_strs _ (small_ok hs)) hu (by simp only [noMix]; exact noMix_strs _ _) (by simp only [PySem.Spec.same]; rw [same_strs]; exact h)
end
theorem mid_top {w : World} {A : Around} {s : Shared} {ls : List Str} {mg mb : Str → Option Value} {l : Addr} {vs : List Value} {W : List (List Nat)} {t : Tok}
  (X : (hd.heap_39 w.params).In s.heap) (T : TopRead theView ls mg mb s.heap) (hr : A.depth + 8 < recursionLimit) (hh : A.handled = none) (h0 : 0 < s.toks)
  (hl : s.heap.IsList l vs.toArray) (hS : StrsAre vs (W.map S)) (hB : Bounded W 7) :
  CallOK w A (.ref 199) [.ref l, .str (Str.ofString "") t] s (NewTexts s (mid 7 W [])) := by
  have e0 : Str.ofString "" = S [] := by decide +kernel
  rw [e0]
  exact mid_spec w 7 X T hr hh h0 hl hS hB (by decide) (by decide)
end
theorem keep173 (w : World) : keepIn (hd.heap_39 w.params) (.ref 173) = true := by k_is
theorem keep159 (w : World) : keepIn (hd.heap_39 w.params) (.ref 159) = true := by k_is
theorem keep166 (w : World) : keepIn (hd.heap_39 w.params) (.ref 166) = true := by k_is
theorem keep180 (w : World) : keepIn (hd.heap_39 w.params) (.ref 180) = true := by k_is
noncomputable def reply (bare x : List Nat) : List Nat := [50, 53, 55, 32, 34] ++ (rep 34 [34, 34] (wr bare x) ++ [34, 32, 111, 114, 32, 34, 34])
noncomputable def nm (bare x : List Nat) : List Nat := [123] ++ wr bare x ++ [125, 120]
noncomputable def EscOK (fe : Addr) (bare : List Nat) : Prop := ∀ {w : World} {A : Around} {s : Shared} {ls : List Str} {mg mb : Str → Option Value} {x : List Nat} {t : Tok},
  (hd.heap_39 w.params).In s.heap → TopRead theView ls mg mb s.heap → A.depth + 1 < recursionLimit → A.handled = none → 0 < s.toks → x.length ≤ 100 → (∀ c ∈ x, c = 34 ∨ c = 60 ∨ c = 62) →
  CallOK w A (.ref fe) [.str (S x) t] s (fun v h => ∃ t', v = .str (S (wr bare x)) t')
structure CoatW (W : List (List Nat)) (bare sg : List Nat) : Prop where
  sg3 : sg.length = 3
  perm : (fst 7 W [] sg).Perm W
  rnd : (W.map (reply bare)).Nodup
  ris : ∀ R : List (List Nat), R.Perm (W.map (reply bare)) → R.Pairwise (· < ·) → R = (fst 7 W [] sg).map (reply bare)
  nnd : (W.map (nm bare)).Nodup
  nat : ∀ R : List (List Nat), R.Perm (W.map (nm bare)) → R.Pairwise (· < ·) → ∀ (k : Nat) (x : List Nat), (fst 7 W [] sg)[k]? = some x → ∃ j : Nat, (k : Int) - tNum W x = (j : Int) ∧ R[j]? = some (nm bare x)
theorem unq_reply (bare x : List Nat) : unq (rep 34 [34, 34] (wr bare x) ++ [34, 32, 111, 114, 32, 34, 34]) = wr bare x := by
  generalize wr bare x = y
  induction y with
  | nil => rfl
  | cons c y ih =>
    rw [rep_cons]
    by_cases h : c = 34
    · subst h
      rw [if_pos rfl]
      show unq (34 :: 34 :: (rep 34 [34, 34] y ++ _)) = _
      rw [unq_two, ih]
    · rw [if_neg h]
      show unq (c :: (rep 34 [34, 34] y ++ _)) = _
      rw [unq_plain h, ih]
theorem str_eq {y : Str} {l : List Nat} (h : y.cps.toList = l) : y = S l := by rw [← h, S_of]
theorem rep_map (c : Nat) (z : List Nat) (f : Nat → List Nat) (l : List Nat) : rep c z (l.flatMap f) = l.flatMap fun d => rep c z (f d) := by
  induction l with
  | nil => rfl
  | cons d l ih => rw [List.flatMap_cons, rep_append, ih, List.flatMap_cons]
theorem rep_one (c : Nat) (z : List Nat) (l : List Nat) : rep c z l = l.flatMap fun d => rep c z [d] := by
  have := rep_map c z (fun d => [d]) l
  rw [show l.flatMap (fun d => [d]) = l by simp] at this
  exact this
theorem flat_congr {f g : Nat → List Nat} : ∀ {l : List Nat}, (∀ c ∈ l, f c = g c) → l.flatMap f = l.flatMap g
  | [], _ => rfl
  | c :: l, h => by rw [List.flatMap_cons, List.flatMap_cons, h c (List.Mem.head _), flat_congr fun d hd => h d (List.Mem.tail _ hd)]
section
variable {x : List Nat} (h : ∀ c ∈ x, c = 34 ∨ c = 60 ∨ c = 62)
include h
theorem wr_cdata : rep 62 [38, 103, 116, 59] (rep 60 [38, 108, 116, 59] x) = wr [34] x := by
  rw [rep_one 60, rep_map]
  exact flat_congr fun c hc => by rcases h c hc with rfl | rfl | rfl <;> decide
theorem wr_attrib : rep 34 [38, 113, 117, 111, 116, 59] (rep 62 [38, 103, 116, 59] (rep 60 [38, 108, 116, 59] x)) = wr [] x := by
  rw [rep_one 60, rep_map, rep_map]
  exact flat_congr fun c hc => by rcases h c hc with rfl | rfl | rfl <;> decide
theorem wr_html : rep 34 [38, 113, 117, 111, 116, 59] (rep 62 [38, 103, 116, 59] x) = wr [60] x := by
  rw [rep_one 62, rep_map]
  exact flat_congr fun c hc => by rcases h c hc with rfl | rfl | rfl <;> decide
theorem wr_c14n : rep 34 [38, 113, 117, 111, 116, 59] (rep 60 [38, 108, 116, 59] x) = wr [62] x := by
  rw [rep_one 60, rep_map]
  exact flat_congr fun c hc => by rcases h c hc with rfl | rfl | rfl <;> decide
end
theorem over_S {x : List Nat} (h : ∀ c ∈ x, c = 34 ∨ c = 60 ∨ c = 62) : Over [34, 60, 62] (S x).cps.toList := by
  rw [S_cps]; intro c hc; rcases h c hc with rfl | rfl | rfl <;> simp
theorem CallOK.mono {w : World} {A : Around} {f : Value} {args : List Value} {s : Shared} {post post' : Value → Heap → Prop} (h : CallOK w A f args s post) (k : ∀ v h, post v h → post' v h) : CallOK w A f args s post' :=
  codeAny_mono h fun r s' ⟨v, h', tk', a, b, c, d⟩ => ⟨v, h', tk', a, b, c, k _ _ d⟩
theorem escOK_cdata : EscOK 173 [34] := fun X T hr hh h0 hx hO => (esc_cdata X T hr hh h0 (by rw [S_cps]; exact hx) (over_S hO)).mono fun v h ⟨y, t, e, hy⟩ => ⟨t, by rw [e, str_eq hy, S_cps, wr_cdata hO]⟩
theorem escOK_attrib : EscOK 159 [] := fun X T hr hh h0 hx hO => (esc_attrib X T hr hh h0 (by rw [S_cps]; exact hx) (over_S hO)).mono fun v h ⟨y, t, e, hy⟩ => ⟨t, by rw [e, str_eq hy, S_cps, wr_attrib hO]⟩
theorem escOK_html : EscOK 166 [60] := fun X T hr hh h0 hx hO => (esc_html X T hr hh h0 (by rw [S_cps]; exact hx) (over_S hO)).mono fun v h ⟨y, t, e, hy⟩ => ⟨t, by rw [e, str_eq hy, S_cps, wr_html hO]⟩
theorem escOK_c14n : EscOK 180 [62] := fun X T hr hh h0 hx hO => (esc_c14n X T hr hh h0 (by rw [S_cps]; exact hx) (over_S hO)).mono fun v h ⟨y, t, e, hy⟩ => ⟨t, by rw [e, str_eq hy, S_cps, wr_c14n hO]⟩
noncomputable def CoatAt (W : List (List Nat)) (tl : List (Addr × Obj)) (v : Value) : Prop :=
  ∃ T oT fe bare sg tb ts n, v = .ref T ∧ (T, oT) ∈ tl ∧ oT.cls = .type "tuple" ∧ oT.data = .seq #[.ref fe, .str (S bare) tb, .str (S sg) ts] n ∧ EscOK fe bare ∧ (∀ w : World, keepIn (hd.heap_39 w.params) (.ref fe) = true) ∧ CoatW W bare sg
theorem coats_pack {g h : Heap} {L : Addr} {W : List (List Nat)} {T1 T2 T3 T4 b1 b2 : Addr} {t1 t2 t3 t4 u1 u2 u3 u4 : Tok} {n1 n2 n3 n4 : Nat} {c D d c3 c2 c1 p : Addr × Obj} {tups : List (Addr × Obj)}
    (N : News g L h (c :: (T4, ({ cls := Value.type "tuple", data := Data.seq #[Value.ref 180, Value.str (S [62]) t4, Value.str (S [60, 34, 62]) u4] n4 } : Obj)) :: (T3, ({ cls := Value.type "tuple", data := Data.seq #[Value.ref 166, Value.str (S [60]) t3, Value.str (S [62, 34, 60]) u3] n3 } : Obj)) :: (T2, ({ cls := Value.type "tuple", data := Data.seq #[Value.ref 159, Value.str (S []) t2, Value.str (S [62, 60, 34]) u2] n2 } : Obj)) :: (T1, ({ cls := Value.type "tuple", data := Data.seq #[Value.ref 173, Value.str (S [34]) t1, Value.str (S [34, 62, 60]) u1] n1 } : Obj)) :: D :: d :: c3 :: c2 :: c1 :: p :: tups))
    (w1 : CoatW W [34] [34, 62, 60]) (w2 : CoatW W [] [62, 60, 34]) (w3 : CoatW W [60] [62, 34, 60]) (w4 : CoatW W [62] [60, 34, 62])
    (x1 : T1 ≠ b1 ∧ T2 ≠ b1 ∧ T3 ≠ b1 ∧ T4 ≠ b1 ∧ ∀ q ∈ tups, q.1 ≠ b1) (x2 : T1 ≠ b2 ∧ T2 ≠ b2 ∧ T3 ≠ b2 ∧ T4 ≠ b2 ∧ ∀ q ∈ tups, q.1 ≠ b2) :
    ∃ tl, News g L h (c :: D :: d :: c3 :: c2 :: c1 :: p :: tl) ∧ (∀ q ∈ tups, q ∈ tl) ∧ (∀ (i : Nat) (v : Value), [Value.ref T1, Value.ref T2, Value.ref T3, Value.ref T4][i]? = some v → CoatAt W tl v) ∧ (∀ q ∈ tl, q.1 ≠ b1) ∧ (∀ q ∈ tl, q.1 ≠ b2) := by
  obtain ⟨x11, x12, x13, x14, x15⟩ := x1
  obtain ⟨x21, x22, x23, x24, x25⟩ := x2
  refine ⟨(T4, ({ cls := Value.type "tuple", data := Data.seq #[Value.ref 180, Value.str (S [62]) t4, Value.str (S [60, 34, 62]) u4] n4 } : Obj)) :: (T3, ({ cls := Value.type "tuple", data := Data.seq #[Value.ref 166, Value.str (S [60]) t3, Value.str (S [62, 34, 60]) u3] n3 } : Obj)) :: (T2, ({ cls := Value.type "tuple", data := Data.seq #[Value.ref 159, Value.str (S []) t2, Value.str (S [62, 60, 34]) u2] n2 } : Obj)) :: (T1, ({ cls := Value.type "tuple", data := Data.seq #[Value.ref 173, Value.str (S [34]) t1, Value.str (S [34, 62, 60]) u1] n1 } : Obj)) :: tups, news_sub N fun q hq => ?_, fun q hq => List.mem_append_right [_, _, _, _] hq, fun i v hv => ?_, ?_, ?_⟩
  · simp only [List.mem_cons] at hq ⊢
    rcases hq with h | h | h | h | h | h | h | h | h | h | h | h <;> simp [h]
  · match i with
    | 0 => cases hv; exact ⟨T1, _, 173, [34], [34, 62, 60], _, _, _, rfl, .tail _ (.tail _ (.tail _ (.head _))), rfl, rfl, escOK_cdata, keep173, w1⟩
    | 1 => cases hv; exact ⟨T2, _, 159, [], [62, 60, 34], _, _, _, rfl, .tail _ (.tail _ (.head _)), rfl, rfl, escOK_attrib, keep159, w2⟩
    | 2 => cases hv; exact ⟨T3, _, 166, [60], [62, 34, 60], _, _, _, rfl, .tail _ (.head _), rfl, rfl, escOK_html, keep166, w3⟩
    | 3 => cases hv; exact ⟨T4, _, 180, [62], [60, 34, 62], _, _, _, rfl, .head _, rfl, rfl, escOK_c14n, keep180, w4⟩
    | i + 4 => simp at hv
  · exact List.forall_mem_cons.mpr ⟨x14, List.forall_mem_cons.mpr ⟨x13, List.forall_mem_cons.mpr ⟨x12, List.forall_mem_cons.mpr ⟨x11, x15⟩⟩⟩⟩
  · exact List.forall_mem_cons.mpr ⟨x24, List.forall_mem_cons.mpr ⟨x23, List.forall_mem_cons.mpr ⟨x22, List.forall_mem_cons.mpr ⟨x21, x25⟩⟩⟩⟩
theorem hall4 {T1 T2 T3 T4 : Addr} : ∀ v ∈ [Value.ref T1, Value.ref T2, Value.ref T3, Value.ref T4], ∃ T, v = .ref T := by
  intro v hv
  simp only [List.mem_cons, List.not_mem_nil, or_false] at hv
  rcases hv with rfl | rfl | rfl | rfl <;> exact ⟨_, rfl⟩
section
variable {prog : Program} {w : World} {A : Around} {s : Shared} {env : Env} {elt iter : Expr} {ifs : List Expr} {x y : Str} {px py : Pos} {scope : Scope} {cl : List (Str × Addr)} {pos spos : Pos}
noncomputable abbrev useA (prog : Program) (w : World) (A : Around) (env : Env) (y : Str) (py : Pos) (Q : Flow → Shared → Prop) (acc : Value) (C : Addr) : Result → Shared → Prop := compPost (model prog w) A (fun _ _ => False) (some (assign (.Name y py) env)) (fun _ s' => Q .next s') acc C
theorem comp_assign {Q : Flow → Shared → Prop} (hsw : swapsWith (.ListComp elt [⟨.Name x px, iter, ifs, 0⟩] scope pos) (some (.Name y py)) spos.line env = pure true)
    (hclos : closureFor scope env = pure cl) (hkind : scope.kind = .function) (hnames : ∀ z ∈ scope.names, z.2 = .local → scope.names.lookup z.1 = some .local)
    (h : wpAny (model prog w) A (eval iter env) (fun xv s₁ => wpAny (model prog w) A (pyIter xv) (CompGoR prog w A env elt iter ifs x px scope cl pos (useA prog w A env y py Q)) (fun _ _ => False) s₁) (fun _ _ => False) s)
    (hs : ∀ x, foldedSetIterable iter env x = pure x := by intro _; rfl) :
    wpAny (model prog w) A (exec (.Assign [.Name y py] (.ListComp elt [⟨.Name x px, iter, ifs, 0⟩] scope pos) spos) env) Q (fun _ _ => False) s := by
  rw [exec_Assign_Name_used _ _ _ _ hsw]
  refine wpAny_bind (wpAny_standAt (wpAny_bind ?_))
  show wpAny _ A (do let _ ← comprehension (.ListComp elt [⟨.Name x px, iter, ifs, 0⟩] scope pos) scope env _ (newList []) false (eval iter env) (some (assign (.Name y py) env))) _ _ s
  exact wpAny_bind (wpAny_mono (wpAny_comprehension_free (use := some (assign (.Name y py) env)) (Q := fun _ s' => Q .next s') rfl hs hclos hkind hnames
    (wpAny_mono h (fun xv s₁ h₁ => wpAny_mono h₁ (fun it s₂ h₂ => h₂) fun _ _ e => e) fun _ _ e => e)) (fun _ s' hq => wpAny_pure (wpAny_pure hq)) fun _ _ e => e)
theorem comp_lstA {Q : Flow → Shared → Prop} {g : Heap} {l : Addr} {m : Str → Option Value} {news : List (Addr × Obj)} {vs : List Value} (hA : A.handled = none) (F : Fr g env.locals s.heap m) (N : News g env.locals s.heap news) (h0 : 0 < s.toks) (hl : s.heap.IsList l vs.toArray)
    (hcell : ∀ y ∈ scope.names, y.2 ≠ .cell) (hkind : scope.kind = .function) (hx : scope.names.lookup x = some .local) (hy : env.kindOf y = some .local) (hp : (env.scope.kind == .class || (env.scope.kind == .module && env.locals != env.globals)) = false) (hn : vs.length ≤ 100000)
    (J : Nat → List Value → List (Addr × Obj) → Prop) (j0 : J 0 [] [])
    (step : ∀ i v ys els I D io ao h tk C (m₀ : Str → Option Value), vs[i]? = some v → J i ys els → 0 < tk → Fr s.heap C h (fun y => if y = x then some v else m₀ y) → News s.heap C h ((I, io) :: (D, ao) :: els) →
      wpAny (model prog w) A (testsOf ifs (compEnvC scope cl C env)) (fun ok s₃ => if ok = true then wpAny (model prog w) A (eval elt (compEnvC scope cl C env)) (CompEnd s.heap C s I D io ao els (fun y els' => J (i + 1) (ys ++ [y]) els')) (fun _ _ => False) s₃ else CompSkip s.heap C s I D io ao els (J (i + 1) ys) s₃) (fun _ _ => False) { s with heap := h, toks := tk })
    (done : ∀ D ys els k h' tk, J vs.length ys els → 0 < tk → (∀ p ∈ els, p.1 ≠ D) → Fr g env.locals h' (fun z => if z = y then some (.ref D) else m z) → News g env.locals h' ((D, accOf ys k) :: els ++ news) → Apart news D → Q .next { s with heap := h', toks := tk }) :
    wpAny (model prog w) A (pyIter (.ref l)) (CompGoR prog w A env elt iter ifs x px scope cl pos (useA prog w A env y py Q)) (fun _ _ => False) s := by
  have hI0 : s.heap.get? s.heap.objs.size = none := by
    cases q : s.heap.get? s.heap.objs.size with
    | none => rfl
    | some o => exact absurd (Heap.lt_size q) (Nat.lt_irrefl _)
  obtain ⟨ol, hol, _⟩ := id hl
  have hne : l ≠ s.heap.objs.size := Nat.ne_of_lt (Heap.lt_size hol)
  refine wpAny_pyIter_list hl ?_
  have W := Walks.list (prog := prog) (w := w) hA s.heap.objs.size l hne vs.toArray
  refine comp_goR (base := s.heap) W hcell hkind hx (fun i h hs => by obtain ⟨⟨o, ho, _⟩, _⟩ := hs; exact ⟨o, ho⟩) (by simpa using hn) ⟨⟨_, Heap.get?_push_size _ rfl, rfl, rfl⟩, hl.push _⟩ h0 hI0 (fun b o e => Heap.get?_push_of_some _ e) (by rw [Heap.size_push]; exact Nat.le_succ _) (fun b hb hne' => ?_) J j0 ?_ ?_
  · rcases List.mem_cons.mp hb with rfl | hb
    · exact absurd rfl hne'
    · rw [List.mem_singleton.mp hb, hol]; rfl
  · intro i v ys els io ao h tk C D m₀ hlt hP hJ htk F₁ N₁
    exact step i v ys els _ D io ao h tk C m₀ (by simpa using hP) hJ htk F₁ N₁
  · intro D C ys els k h' tk m' hJ htk st hp' hne' hn' hC0
    obtain ⟨F', N', hA'⟩ := comp_back F N st fun p hp => ⟨(hp' p hp).1, (hp' p hp).2.1⟩
    have hCL : C ≠ env.locals := fun e => by
      obtain ⟨oL, _, _, hL, _⟩ := F.ns
      rw [e, hL] at hC0; cases hC0
    have hgC : g.get? C = none := by
      cases q : g.get? C with
      | none => rfl
      | some o => have := F.keep _ _ q; rw [hC0] at this; cases this
    have hgL : g.get? env.locals = none := Heap.get?_none_of_le F.above
    show wpAny _ A (assign (.Name y py) env (.ref D)) _ _ _
    refine wpAny_assign_Name (wpAny_storeName_local hy F'.ns (fun h₂ hn₂ hs₂ => ?_) hp)
    have F₂ : Fr g env.locals h₂ (fun z => if z = y then some (.ref D) else m z) := ⟨hn₂, fun b o e => hs₂.extBut b o (fun q => by rw [q, hgL] at e; cases e) (F'.keep b o e), F'.above⟩
    refine ⟨m', hn'.sameBut hs₂ hCL, fun h'' hs'' => done D ys els k h'' _ (by simpa using hJ) (Nat.succ_pos _) hne' (F₂.change hs'' hCL hgC) (fun p hp => ?_) hA'⟩
    have z : h₂.get? p.1 = some p.2 := hs₂.extBut _ _ (N' p hp).2.1 (N' p hp).1
    refine ⟨hs''.extBut _ _ ?_ z, (N' p hp).2⟩
    rcases List.mem_append.mp hp with hp | hp
    · exact (hp' p hp).2.2
    · intro e; have := (N p hp).1; rw [e, hC0] at this; cases this
end
theorem small_rng {n : Nat} (hn : n ≤ 100000) : Builtin.Range.small 0 (n : Int) 1 = true := by
  have e : Builtin.Range.rangeSize 0 (n : Int) 1 = (n : Int) := by unfold Builtin.Range.rangeSize; split <;> (try split) <;> omega
  unfold Builtin.Range.small
  rw [e]
  have h1 : Builtin.Range.rangeFitsLong 0 = true := by decide
  have h2 : Builtin.Range.rangeFitsLong (n : Int) = true := by unfold Builtin.Range.rangeFitsLong; simp; omega
  have h3 : Builtin.Range.rangeFitsLong 1 = true := by decide
  simp [h1, h2, h3]
theorem size_rng (n : Nat) : Builtin.Range.rangeSize 0 (n : Int) 1 = (n : Int) := by unfold Builtin.Range.rangeSize; split <;> (try split) <;> omega
section
variable {prog : Program} {w : World} {A : Around} {s : Shared} {env : Env} {h₀ : Heap} {x : Str} {px : Pos} {body : List Stmt} {m : Str → Option Value} {news : List (Addr × Obj)}
theorem for_rng {Q : Flow → Shared → Prop} {r : Addr} {n : Nat} {t u v : Tok} (hA : A.handled = none) (hr : IsRange s.heap r 0 (n : Int) 1 t u v) (hn : n ≤ 100000)
    (hx : env.kindOf x = some .local) (hp : (env.scope.kind == .class || (env.scope.kind == .module && env.locals != env.globals)) = false)
    (F : Fr h₀ env.locals s.heap m) (N : News h₀ env.locals s.heap news) (h0 : 0 < s.toks)
    (J : Nat → (Str → Option Value) → List (Addr × Obj) → Prop) (j0 : J 0 m news)
    (turn : ∀ i u m₁ news₁ I o h tk, i < n → J i m₁ news₁ → (∀ p ∈ news₁, p.1 ≠ I) → 0 < tk → Fr h₀ env.locals h (fun y => if y = x then some (.int (i : Int) u) else m₁ y) → News h₀ env.locals h ((I, o) :: news₁) →
      wpAny (model prog w) A (execs body env) (TurnEnd h₀ env.locals s I [(I, o)] (J (i + 1))) (fun _ _ => False) { s with heap := h, toks := tk })
    (done : ∀ m' news' h' tk', J n m' news' → 0 < tk' → Fr h₀ env.locals h' m' → News h₀ env.locals h' news' → Q .next { s with heap := h', toks := tk' }) :
    wpAny (model prog w) A (pyIter (.ref r)) (fun it s₂ => codeAny (model prog w) A (.forLoop (.Name x px) it body [] env) (fun r s' => match r with | .ok f => Q f s' | .error e => cameBackBy (model prog w) A env (fun _ _ => False) e s') s₂) (fun _ _ => False) s := by
  obtain ⟨oL, hoL⟩ : ∃ o, s.heap.get? env.locals = some o := by obtain ⟨o, _, _, ho, _⟩ := F.ns; exact ⟨o, ho⟩
  have hIL : s.heap.objs.size ≠ env.locals := fun e => by have := Heap.lt_size hoL; rw [← e] at this; exact Nat.lt_irrefl _ this
  have hI0 : h₀.get? s.heap.objs.size = none := by
    cases q : h₀.get? s.heap.objs.size with
    | none => rfl
    | some o => exact absurd (Heap.lt_size (F.keep _ _ q)) (Nat.lt_irrefl _)
  refine wpAny_pyIter_range hr (small_rng hn) ?_
  rw [size_rng]
  refine loop_one (LCg.range_walks hA 0 n) hx hp hIL hI0 (fun p hp e => ?_) (fun i h hs => ⟨_, hs⟩) ?_ h0 (F.push _) (fun p hp => ⟨Heap.get?_push_of_some _ (N p hp).1, (N p hp).2⟩) J j0 ?_ done
  · have := Heap.lt_size (N p hp).1; rw [e] at this; exact Nat.lt_irrefl _ this
  · show IsRangeIter _ _ _ _ _
    simpa using Heap.get?_push_size _ rfl
  · rintro i v m₁ news₁ o h tk hlt ⟨u, rfl⟩ hJ hne htk F₁ N₁
    rw [Int.zero_add] at F₁
    exact turn i u m₁ news₁ _ o h tk hlt hJ hne htk F₁ N₁
end
section
variable {prog : Program} {w : World} {A : Around} {E : Value → Shared → Prop} {s : Shared} {t u : Tok} {y z : List Nat} {Q : Value → Shared → Prop}
theorem s_dbl {u : Nat} (hu : 0 < u) (h0 : 0 < s.toks) (hy : y.length ≤ 1000) (h : ∀ t' k, 0 < k → Q (.str (S (rep 34 [34, 34] y)) t') { s with toks := k }) :
    wpAny (model prog w) A (call (.builtin "str.replace") [.str (S y) t, .str (Str.ofString "\"") u, .str (Str.ofString "\"\"") (u + 1)]) Q E s := by
  refine s_replace (c := 34) (n := 1000) hu h0 ch_qu (by decide +kernel) (by rw [S_cps]; exact hy) (by decide) (by decide +kernel) fun v t' k hk hv hl => ?_
  have e : (Str.ofString "\"\"").cps.toList = [34, 34] := by decide +kernel
  rw [S_cps, e] at hv
  rw [str_eq hv]; exact h t' k hk
theorem s_addL {a : Str} {x : List Nat} (ha : a = S x) (h0 : 0 < s.toks) (hz : x.length + z.length ≤ 16777216) (h : ∀ t' k, 0 < k → Q (.str (S (x ++ z)) t') { s with toks := k }) :
    wpAny (model prog w) A (binaryOp .Add (.str a t) (.str (S z) u)) Q E s := by
  subst ha; exact s_addS h0 rfl hz h
theorem cs257 : Str.ofString "257 \"" = S [50, 53, 55, 32, 34] := by decide +kernel
theorem csor : Str.ofString "\" or \"\"" = S [34, 32, 111, 114, 32, 34, 34] := by decide +kernel
theorem csob : Str.ofString "{" = S [123] := by decide +kernel
theorem cscx : Str.ofString "}x" = S [125, 120] := by decide +kernel
theorem lst_item {value slice : Expr} {l : Addr} {vs : List Value} {k : Int} {j : Nat} {v : Value} (hl : s.heap.IsList l vs.toArray) (hk : k = (j : Int)) (hj : j ≤ 100000) (hx : vs[j]? = some v) (h : Q v s)
    (hs : subscripted slice false (.ref l) (.int k u) = operate [.ref l, .int k u] (getItem (.ref l) (.int k u)) := by with_unfolding_all rfl) :
    wpAny (model prog w) A (subscriptTail value slice (.ref l) (.int k u)) Q E s :=
  tail_any hl.typeIs slot_list_getitem.lookup (wpAny_getItem_list hl (by omega) (by omega) (by subst hk; simpa using hx) h) hs
end
theorem news_names {g h : Heap} {L : Addr} {x0 x1 x2 x3 x4 x5 x6 x7 x8 x9 x10 : Addr × Obj} {els tl : List (Addr × Obj)} (N : News g L h (x0 :: els ++ x1 :: x2 :: x3 :: x4 :: x5 :: x6 :: x7 :: x8 :: x9 :: x10 :: tl)) :
    News g L h (x0 :: x1 :: x2 :: x3 :: x4 :: x5 :: x6 :: x7 :: x8 :: x9 :: x10 :: (els ++ tl)) := by
  refine news_sub N fun q hq => ?_
  simp only [List.mem_cons, List.mem_append, List.cons_append] at hq ⊢
  rcases hq with h | h | h | h | h | h | h | h | h | h | h | h | h <;> simp [h]
theorem news_loop {g h : Heap} {L : Addr} {xp xd xr x7 x6 x5 x3 xI xl xD xc c3 c2 c1 pp : Addr × Obj} {tl : List (Addr × Obj)} (N : News g L h (xp :: xd :: xr :: x7 :: x6 :: x5 :: x3 :: xI :: xl :: xD :: xc :: c3 :: c2 :: c1 :: pp :: tl)) :
    News g L h (xd :: xr :: x7 :: xc :: c3 :: xI :: xl :: xD :: c2 :: c1 :: pp :: tl) := by
  refine news_sub N fun q hq => ?_
  simp only [List.mem_cons] at hq ⊢
  rcases hq with h | h | h | h | h | h | h | h | h | h | h | h <;> simp [h]
theorem news_turn {g h : Heap} {L : Addr} {xd xr x7 xI xl xD xc c3 c2 c1 pp : Addr × Obj} {tl tl2 : List (Addr × Obj)} (N : News g L h (xd :: xr :: x7 :: xc :: c3 :: xI :: xl :: xD :: c2 :: c1 :: pp :: tl2)) (hs : ∀ q ∈ tl, q ∈ tl2) :
    News g L h ([xI, xl] ++ xD :: xc :: c3 :: c2 :: c1 :: pp :: tl) := by
  refine news_sub N fun q hq => ?_
  simp only [List.mem_cons, List.mem_append, List.not_mem_nil, or_false] at hq ⊢
  rcases hq with (h | h) | h | h | h | h | h | h | h <;> first | exact absurd h (by simp) | simp [h] | simp [hs _ h]
theorem fst_top {w : World} {A : Around} {s : Shared} {ls : List Str} {mg mb : Str → Option Value} {l : Addr} {vs : List Value} {W : List (List Nat)} {sg : List Nat} {t u : Tok} (h3 : sg.length = 3)
  (X : (hd.heap_39 w.params).In s.heap) (T : TopRead theView ls mg mb s.heap) (hr : A.depth + 8 < recursionLimit) (hh : A.handled = none) (h0 : 0 < s.toks)
  (hl : s.heap.IsList l vs.toArray) (hS : StrsAre vs (W.map S)) (hB : Bounded W 7) :
  CallOK w A (.ref 206) [.ref l, .str (Str.ofString "") t, .str (S sg) u] s (NewTexts s (fst 7 W [] sg)) := by
  have e0 : Str.ofString "" = S [] := by decide +kernel
  rw [e0]
  exact fst_spec w sg h3 7 X T hr hh h0 hl hS hB (by decide) (by decide)
noncomputable def codeN (c : Nat) : Nat := if c = 34 then 0 else if c = 60 then 2 else 3
noncomputable def gA : List Nat → Nat → Nat
  | [], k => 4 ^ k
  | c :: x, k + 1 => 4 ^ (k + 1) * codeN c + gA x k
  | _ :: _, 0 => 0
noncomputable def hueB (x : UInt64) (a : Nat) : Bool := match Float64.decode x with
  | .fin false m e => decide (e ≤ -18) && (decide ((4 * a - 1) * 2 ^ (-e - 18).toNat < m) && decide (m < (4 * a + 1) * 2 ^ (-e - 18).toNat))
  | _ => false
noncomputable def forceN (n : Nat) (k : Nat → Bool) : Bool := Nat.rec (motive := fun _ => Bool) (k 0) (fun m _ => k (m + 1)) n
theorem forceN_eq (n : Nat) (k : Nat → Bool) : forceN n k = k n := by cases n <;> rfl
noncomputable def fz (x : UInt64) (k : UInt64 → Bool) : Bool := forceN x.toNat fun n => k (UInt64.ofNat n)
theorem fz_eq (x : UInt64) (k : UInt64 → Bool) : fz x k = k x := by rw [fz, forceN_eq, UInt64.ofNat_toNat]
noncomputable def vK (m1 m2 hue : UInt64) (k : UInt64 → Bool) : Bool :=
  fz (fmodd hue 4607182418800017408) fun hue =>
    if flt hue c16 then fz (Float64.sub m2 m1) fun d => fz (Float64.mul d hue) fun e => fz (Float64.mul e 4618441417868443648) fun f => fz (Float64.add m1 f) k
    else if flt hue 4602678819172646912 then k m2
    else if flt hue c23 then fz (Float64.sub m2 m1) fun d => fz (Float64.sub c23 hue) fun z => fz (Float64.mul d z) fun e => fz (Float64.mul e 4618441417868443648) fun f => fz (Float64.add m1 f) k
    else k m1
theorem vK_eq (m1 m2 hue : UInt64) (k : UInt64 → Bool) : vK m1 m2 hue k = k (vF m1 m2 hue) := by
  simp only [vK, vF, fz_eq, one_is, six_is, half_is]
  by_cases h1 : flt (fmodd hue 4607182418800017408) c16 = true
  · simp only [h1, if_true]
  · by_cases h2 : flt (fmodd hue 4607182418800017408) 4602678819172646912 = true
    · simp only [h1, h2, if_true, if_false, Bool.false_eq_true]
    · by_cases h3 : flt (fmodd hue 4607182418800017408) c23 = true <;> simp only [h1, h2, h3, if_true, if_false, Bool.false_eq_true]
noncomputable def rgbK (h l s : UInt64) (k : UInt64 → UInt64 → UInt64 → Bool) : Bool :=
  fz (if fle l 4602678819172646912 then Float64.mul l (Float64.add 4607182418800017408 s) else Float64.sub (Float64.add l s) (Float64.mul l s)) fun m2 =>
  fz (Float64.sub (Float64.mul 4611686018427387904 l) m2) fun m1 =>
  vK m1 m2 (Float64.add h c13) fun r => vK m1 m2 h fun g => vK m1 m2 (Float64.sub h c13) fun b => k r g b
theorem rgbK_eq (h l s : UInt64) (k : UInt64 → UInt64 → UInt64 → Bool) : rgbK h l s k = k (rgb h l s).1 (rgb h l s).2.1 (rgb h l s).2.2 := by
  simp only [rgbK, rgb, fz_eq, vK_eq, one_is, half_is, two_is]
noncomputable def hlsK (r g b : UInt64) (k : UInt64 → UInt64 → UInt64 → Bool) : Bool :=
  fz (max3 r g b) fun mx => fz (min3 r g b) fun mn => !feq mn mx && (
  fz (Float64.add mx mn) fun sm => !Float64.isZero sm && (
  fz (Float64.sub mx mn) fun rg => !Float64.isZero rg && (
  fz (Float64.sub (Float64.sub 4611686018427387904 mx) mn) fun dn => !Float64.isZero dn && (
  fz (Float64.div sm 4611686018427387904) fun l =>
  fz (if fle l 4602678819172646912 then Float64.div rg sm else Float64.div rg dn) fun s =>
  fz (Float64.div (Float64.sub mx r) rg) fun rc => fz (Float64.div (Float64.sub mx g) rg) fun gc => fz (Float64.div (Float64.sub mx b) rg) fun bc =>
  fz (if feq r mx then Float64.sub bc gc else if feq g mx then Float64.sub (Float64.add 4611686018427387904 rc) bc else Float64.sub (Float64.add 4616189618054758400 gc) rc) fun h =>
  fz (Float64.div h 4618441417868443648) fun h => fz (fmodd h 4607182418800017408) fun h => k h l s))))
theorem hlsK_eq (r g b : UInt64) (k : UInt64 → UInt64 → UInt64 → Bool) : hlsK r g b k =
    (!feq (min3 r g b) (max3 r g b) && (!Float64.isZero (Float64.add (max3 r g b) (min3 r g b)) && (!Float64.isZero (Float64.sub (max3 r g b) (min3 r g b)) && (!Float64.isZero (Float64.sub (Float64.sub 4611686018427387904 (max3 r g b)) (min3 r g b)) && k (hls r g b).1 (hls r g b).2.1 (hls r g b).2.2)))) := by
  simp only [hlsK, hls, fz_eq, one_is, half_is, two_is, four_is, six_is]
noncomputable def endK (a len kin : Nat) (hue l s : UInt64) : Bool :=
  hueB hue a && (fz (Float64.mul 4625196817309499392 l) fun x => fz (Float64.mul 4625196817309499392 s) fun y =>
    Float64.isFinite x && (Float64.isFinite y && (PySem.Flt.toInt Float64.nearestOf x - PySem.Flt.toInt Float64.nearestOf y - 7 == (len : Int) + 1 - kin)))
noncomputable def chkK (a len kin : Nat) : Bool :=
  fz (qF (a : Nat) 65536) fun h => fz (qF ((len : Int) + 8) 16) fun l => fz (qF (kin : Nat) 16) fun s =>
  !Float64.isInf h && (!Float64.isInf l && (!Float64.isInf s && (!feq s 0 && rgbK h l s fun r g b => hlsK r g b (endK a len kin))))
theorem sixteen_is : Float64.ofInt 16 = 4625196817309499392 := by decide +kernel
structure ChkOK (a len kin : Nat) : Prop where
  ok : OkT (a : Int) (len : Int) (kin : Int)
  hue : hueB (tH (a : Int) (len : Int) (kin : Int)).1 a = true
  num : tN (a : Int) (len : Int) (kin : Int) = (len : Int) + 1 - kin
theorem bn {b : Bool} (h : (!b) = true) : b = false := by cases b <;> simp_all
theorem chkK_ok {a len kin : Nat} (h : chkK a len kin = true) : ChkOK a len kin := by
  simp only [chkK, fz_eq, rgbK_eq, hlsK_eq, endK, Bool.and_eq_true, ← sixteen_is, beq_iff_eq] at h
  obtain ⟨q1, q2, q3, hs, c1, c2, c4, c3, hh, r1, r2, hn⟩ := h
  have e : tC (a : Int) (len : Int) (kin : Int) = rgb (qF (a : Int) 65536) (qF ((len : Int) + 8) 16) (qF (kin : Int) 16) := if_neg (by rw [bn hs]; decide)
  refine ⟨⟨bn q1, bn q2, bn q3, ?_, ?_, ?_, ?_, ?_, ?_⟩, ?_, ?_⟩
  · rw [e]; exact bn c1
  · rw [e]; exact bn c2
  · rw [e]; exact bn c3
  · rw [e]; exact bn c4
  · show Float64.isFinite (tR (hls _ _ _).2.1) = true
    rw [e]; exact r1
  · show Float64.isFinite (tR (hls _ _ _).2.2) = true
    rw [e]; exact r2
  · show hueB (hls _ _ _).1 a = true
    rw [e]; exact hh
  · show PySem.Flt.toInt Float64.nearestOf (tR (hls _ _ _).2.1) - PySem.Flt.toInt Float64.nearestOf (tR (hls _ _ _).2.2) - 7 = _
    rw [e]; exact hn
noncomputable def path : Nat → Nat → List Nat
  | _, 0 => []
  | l, j + 1 => sgn (l % 3) :: path (l / 3) j
theorem path_len : ∀ j l, (path l j).length = j
  | 0, _ => rfl
  | j + 1, l => by rw [path, List.length_cons, path_len j]
theorem sgn_over (l : Nat) : sgn (l % 3) = 34 ∨ sgn (l % 3) = 60 ∨ sgn (l % 3) = 62 := by
  have h3 : l % 3 = 0 ∨ l % 3 = 1 ∨ l % 3 = 2 := by lia
  rcases h3 with h | h | h <;> rw [h] <;> decide
theorem path_over : ∀ j l, ∀ c ∈ path l j, c = 34 ∨ c = 60 ∨ c = 62
  | 0, _, c, h => nomatch h
  | j + 1, l, c, h => by
    rcases List.mem_cons.mp h with rfl | h
    · exact sgn_over l
    · exact path_over j _ c h
theorem path_take : ∀ (i j l : Nat), i ≤ j → (path l j).take i = path l i
  | 0, _, _, _ => rfl
  | i + 1, 0, _, h => absurd h (Nat.not_succ_le_zero _)
  | i + 1, j + 1, l, h => by rw [path, path, List.take_succ_cons, path_take i j _ (Nat.le_of_succ_le_succ h)]
theorem path_snoc : ∀ (j l : Nat), ∃ c, path l (j + 1) = path l j ++ [c]
  | 0, l => ⟨_, rfl⟩
  | j + 1, l => by
    obtain ⟨c, e⟩ := path_snoc j (l / 3)
    exact ⟨c, by rw [path, e, path]; rfl⟩
theorem find_spec : ∀ (k : Nat) (W : List (List Nat)) (x : List Nat) (l : Nat), ∃ j, j ≤ k ∧ find k W x l = x ++ path l j ∧ (∀ i, i < j → x ++ path l i ∈ W) ∧ (j < k → x ++ path l j ∉ W)
  | 0, W, x, l => ⟨0, Nat.le_refl _, by simp [find, path], fun i h => absurd h (Nat.not_lt_zero _), fun h => absurd h (Nat.lt_irrefl _)⟩
  | k + 1, W, x, l => by
    by_cases hx : x ∈ W
    · obtain ⟨j, hj, e, h1, h2⟩ := find_spec k W (x ++ [sgn (l % 3)]) (l / 3)
      have cc : ∀ i, x ++ [sgn (l % 3)] ++ path (l / 3) i = x ++ path l (i + 1) := fun i => by rw [path, List.append_assoc]; rfl
      refine ⟨j + 1, by lia, ?_, fun i hi => ?_, fun hk => ?_⟩
      · rw [find_go hx, e, cc]
      · cases i with
        | zero => simpa [path] using hx
        | succ i => rw [← cc]; exact h1 i (by lia)
      · rw [← cc]; exact h2 (by lia)
    · refine ⟨0, Nat.zero_le _, by rw [find_stop hx]; simp [path], fun i h => absurd h (Nat.not_lt_zero _), fun _ => by simpa [path] using hx⟩
structure Tree (W : List (List Nat)) : Prop where
  nodup : W.Nodup
  root : [] ∈ W
  closed : ∀ x c, x ++ [c] ∈ W → x ∈ W
  over : ∀ x ∈ W, ∀ c ∈ x, c = 34 ∨ c = 60 ∨ c = 62
noncomputable abbrev kinN (W : List (List Nat)) (x : List Nat) : Nat := (W.filter (pre x)).length
theorem pre_iff {x y : List Nat} : pre x y = true ↔ ∃ z, y = x ++ z := by
  unfold pre
  rw [beq_iff_eq]
  constructor
  · intro h; exact ⟨y.drop x.length, by conv => lhs; rw [← List.take_append_drop x.length y, h]⟩
  · rintro ⟨z, rfl⟩; simp
theorem pre_self (x : List Nat) : pre x x = true := pre_iff.mpr ⟨[], (List.append_nil x).symm⟩
theorem Tree.up {W : List (List Nat)} (T : Tree W) : ∀ (z x : List Nat), x ++ z ∈ W → x ∈ W
  | [], x, h => by rwa [List.append_nil] at h
  | c :: z, x, h => T.closed x c (T.up z (x ++ [c]) (by rw [List.append_assoc]; exact h))
theorem kin_pos {W : List (List Nat)} {x : List Nat} (h : x ∈ W) : 1 ≤ kinN W x :=
  List.length_pos_of_mem (List.mem_filter.mpr ⟨h, pre_self x⟩)
theorem kin_none {W : List (List Nat)} (T : Tree W) {x : List Nat} (h : x ∉ W) : kinN W x = 0 := by
  unfold kinN
  rw [List.length_eq_zero_iff, List.filter_eq_nil_iff]
  intro y hy hp
  obtain ⟨z, rfl⟩ := pre_iff.mp hp
  exact h (T.up z x hy)
theorem kin_app (W : List (List Nat)) (w x : List Nat) : kinN (W ++ [w]) x = kinN W x + if pre x w = true then 1 else 0 := by
  unfold kinN
  rw [List.filter_append, List.length_append]
  by_cases h : pre x w = true <;> simp [h]
theorem new_word {W : List (List Nat)} (T : Tree W) (hB : Bounded W 19) (l : Nat) : ∃ j, find 20 W [] l = path l (j + 1) ∧ path l j ∈ W ∧ path l (j + 1) ∉ W := by
  obtain ⟨j, hj, e, h1, h2⟩ := find_spec 20 W [] l
  simp only [List.nil_append] at e h1 h2
  have hj0 : j ≠ 0 := by
    intro h0; subst h0
    exact h2 (by decide) T.root
  obtain ⟨i, rfl⟩ := Nat.exists_eq_succ_of_ne_zero hj0
  have hi := h1 i (Nat.lt_succ_self i)
  have := hB _ hi
  rw [path_len] at this
  exact ⟨i, e, hi, h2 (by lia)⟩
theorem Tree.add {W : List (List Nat)} (T : Tree W) {l j : Nat} (h1 : path l j ∈ W) (h2 : path l (j + 1) ∉ W) : Tree (W ++ [path l (j + 1)]) where
  nodup := by
    rw [List.nodup_append]
    exact ⟨T.nodup, (by simp), fun a ha b hb e => h2 (by rw [List.mem_singleton.mp hb] at e; exact e ▸ ha)⟩
  root := List.mem_append_left _ T.root
  closed x c h := by
    rcases List.mem_append.mp h with h | h
    · exact List.mem_append_left _ (T.closed x c h)
    · obtain ⟨d, e⟩ := path_snoc j l
      rw [List.mem_singleton.mp h |>.symm] at e
      have : x = path l j := (List.append_inj' e rfl).1
      rw [this]; exact List.mem_append_left _ h1
  over x h c hc := by
    rcases List.mem_append.mp h with h | h
    · exact T.over x h c hc
    · rw [List.mem_singleton.mp h] at hc; exact path_over _ _ c hc
noncomputable def onP (x : List Nat) (l : Nat) : Bool := path l x.length == x
noncomputable def cnt (ls : List Nat) (x : List Nat) : Nat := ls.countP (onP x)
theorem onP_of_pre {x : List Nat} {l j : Nat} (h : pre x (path l j) = true) : onP x l = true := by
  obtain ⟨z, e⟩ := pre_iff.mp h
  have hl : x.length ≤ j := by have := congrArg List.length e; rw [path_len, List.length_append] at this; lia
  have := path_take x.length j l hl
  rw [e, List.take_left] at this
  unfold onP
  rw [beq_iff_eq]; exact this.symm
theorem onP_path (l j : Nat) : onP (path l j) l = true := by unfold onP; rw [path_len, beq_self_eq_true]
structure Grow (W : List (List Nat)) (b : Nat) (ls : List Nat) : Prop where
  tree : Tree W
  bnd : ∀ x ∈ W, x.length + kinN W x ≤ b + cnt ls x
theorem Grow.short {W : List (List Nat)} {b : Nat} {ls : List Nat} (G : Grow W b ls) : ∀ x ∈ W, x.length < b + ls.length := by
  intro x hx
  have h1 := G.bnd x hx
  have h2 := kin_pos hx
  have h3 : cnt ls x ≤ ls.length := List.countP_le_length
  lia
theorem Grow.free {W : List (List Nat)} {b : Nat} (G : Grow W b []) (hb : b ≤ 10) (x : Int) : Grow (grow W x) (b + 1) [] := by
  have hB : Bounded W 19 := fun v hv => Nat.lt_of_lt_of_le (G.short v hv) (by simp; lia)
  unfold grow
  obtain ⟨j, e, h1, h2⟩ := new_word G.tree hB (x % 243).toNat
  rw [e]
  refine ⟨G.tree.add h1 h2, fun y hy => ?_⟩
  rw [kin_app]
  rcases List.mem_append.mp hy with hy | hy
  · have := G.bnd y hy
    have hc : cnt [] y = 0 := rfl
    rw [hc] at this ⊢
    split <;> lia
  · rw [List.mem_singleton.mp hy, kin_none G.tree h2, if_pos (pre_self _), path_len]
    have hp := G.bnd _ h1
    have hk := kin_pos h1
    rw [path_len] at hp
    have hc : cnt [] (path (x % 243).toNat j) = 0 := rfl
    rw [hc] at hp
    lia
theorem Grow.fixed {W : List (List Nat)} {ls : List Nat} (G : Grow W 6 ls) (hl : ls.length ≤ 4) (x : Int) (hd : ∀ l ∈ ls, path l 2 ≠ path (x % 243).toNat 2) : Grow (grow W x) 6 (ls ++ [(x % 243).toNat]) := by
  have hB : Bounded W 19 := fun v hv => Nat.lt_of_lt_of_le (G.short v hv) (by lia)
  unfold grow
  obtain ⟨j, e, h1, h2⟩ := new_word G.tree hB (x % 243).toNat
  rw [e]
  generalize (x % 243).toNat = l at *
  have hcnt : ∀ y, cnt (ls ++ [l]) y = cnt ls y + if onP y l = true then 1 else 0 := by
    intro y; unfold cnt; rw [List.countP_append, List.countP_singleton]
  refine ⟨G.tree.add h1 h2, fun y hy => ?_⟩
  rw [kin_app, hcnt]
  rcases List.mem_append.mp hy with hy | hy
  · have := G.bnd y hy
    by_cases hp : pre y (path l (j + 1)) = true
    · rw [if_pos hp, if_pos (onP_of_pre hp)]; lia
    · rw [if_neg hp]; lia
  · rw [List.mem_singleton.mp hy, kin_none G.tree h2, if_pos (pre_self _), path_len, if_pos (onP_path _ _)]
    by_cases hj : j ≤ 1
    · lia
    · have hp := G.bnd _ h1
      have hk := kin_pos h1
      rw [path_len] at hp
      have hz : cnt ls (path l j) = 0 := by
        unfold cnt
        rw [List.countP_eq_zero]
        intro l' hl' ho
        unfold onP at ho
        rw [beq_iff_eq, path_len] at ho
        apply hd l' hl'
        rw [← path_take 2 j l' (by lia), ho, path_take 2 j l (by lia)]
      lia
theorem grow0 : Grow [[]] 1 [] := by
  refine ⟨⟨by decide, List.Mem.head _, fun x c h => ?_, fun x hx c hc => ?_⟩, fun x hx => ?_⟩
  · have := List.mem_singleton.mp h; simp at this
  · rw [List.mem_singleton.mp hx] at hc; cases hc
  · rw [List.mem_singleton.mp hx]; decide
theorem grow_free : ∀ (xs : List Int) {W : List (List Nat)} {b : Nat}, Grow W b [] → b + xs.length ≤ 10 → Grow (xs.foldl grow W) (b + xs.length) []
  | [], W, b, G, _ => G
  | x :: xs, W, b, G, h => by
    rw [List.length_cons] at h
    have := grow_free xs (G.free (by lia) x) (by lia)
    rw [List.foldl_cons, List.length_cons, show b + (xs.length + 1) = b + 1 + xs.length by lia]
    exact this
theorem Grow.mono {W : List (List Nat)} {b b' : Nat} {ls : List Nat} (G : Grow W b ls) (h : b ≤ b') : Grow W b' ls := ⟨G.tree, fun x hx => Nat.le_trans (G.bnd x hx) (Nat.add_le_add_right h _)⟩
theorem grown_grow (sc : List Int) : Grow (grown sc) 6 [1, 2, 0, 7] := by
  unfold grown
  rw [List.foldl_append]
  have h5 : (sc.take 5).length ≤ 5 := by rw [List.length_take]; lia
  have G := (grow_free (sc.take 5) grow0 (by lia)).mono (b' := 6) (by lia)
  generalize (sc.take 5).foldl grow [[]] = W at G
  have G1 := G.fixed (by decide) 1 (fun _ h => nomatch h)
  have G2 := G1.fixed (by decide) 2 (by decide)
  have G3 := G2.fixed (by decide) 0 (by decide)
  exact G3.fixed (by decide) 7 (by decide)
theorem grown_len (sc : List Int) : 2 ≤ (grown sc).length ∧ (grown sc).length ≤ 10 := by
  have key : ∀ (xs : List Int) (V : List (List Nat)), (xs.foldl grow V).length = V.length + xs.length := by
    intro xs
    induction xs with
    | nil => intro V; rfl
    | cons a xs ih => intro V; rw [List.foldl_cons, ih, grow, List.length_append]; simp only [List.length_cons, List.length_nil]; lia
  unfold grown
  rw [key]
  simp only [List.length_append, List.length_take, List.length_cons, List.length_nil]
  lia
theorem cnt_le {x : List Nat} (h : 2 ≤ x.length) : cnt [1, 2, 0, 7] x ≤ 1 := by
  have key : ∀ l, onP x l = true → path l 2 = x.take 2 := by
    intro l hl
    unfold onP at hl
    rw [beq_iff_eq] at hl
    rw [← path_take 2 x.length l h, hl]
  generalize x.take 2 = y at key
  unfold cnt
  simp only [List.countP_cons, List.countP_nil]
  have p1 : path 1 2 = [60, 34] := by decide
  have p2 : path 2 2 = [62, 34] := by decide
  have p0 : path 0 2 = [34, 34] := by decide
  have p7 : path 7 2 = [60, 62] := by decide
  have k1 := key 1; have k2 := key 2; have k0 := key 0; have k7 := key 7
  rw [p1] at k1; rw [p2] at k2; rw [p0] at k0; rw [p7] at k7
  cases h1 : onP x 1 <;> cases h2 : onP x 2 <;> cases h0 : onP x 0 <;> cases h7 : onP x 7 <;> simp only [h1, h2, h0, h7, forall_const, reduceCtorEq, false_implies] at k1 k2 k0 k7 <;> first | decide | exact absurd (k1.trans k2.symm) (by decide) | exact absurd (k1.trans k0.symm) (by decide) | exact absurd (k1.trans k7.symm) (by decide) | exact absurd (k2.trans k0.symm) (by decide) | exact absurd (k2.trans k7.symm) (by decide) | exact absurd (k0.trans k7.symm) (by decide)
theorem grown_short (sc : List Int) : ∀ x ∈ grown sc, x.length ≤ 6 := by
  intro x hx
  have h1 := (grown_grow sc).bnd x hx
  have h2 := kin_pos hx
  by_cases h : 2 ≤ x.length
  · have := cnt_le h; lia
  · lia
theorem List.tri {x y : List Nat} : (∃ z, y = x ++ z) ∨ (∃ c z, x = y ++ c :: z) ∨ (∃ p c d u v, c ≠ d ∧ x = p ++ c :: u ∧ y = p ++ d :: v) := by
  induction x generalizing y with
  | nil => exact .inl ⟨y, rfl⟩
  | cons a x ih =>
    cases y with
    | nil => exact .inr (.inl ⟨a, x, rfl⟩)
    | cons b y =>
      by_cases h : a = b
      · subst h
        rcases ih (y := y) with ⟨z, e⟩ | ⟨c, z, e⟩ | ⟨p, c, d, u, v, hne, e1, e2⟩
        · exact .inl ⟨z, by rw [e]; rfl⟩
        · exact .inr (.inl ⟨c, z, by rw [e]; rfl⟩)
        · exact .inr (.inr ⟨a :: p, c, d, u, v, hne, by rw [e1]; rfl, by rw [e2]; rfl⟩)
      · exact .inr (.inr ⟨[], a, b, x, y, h, rfl, rfl⟩)
theorem app_lt {p a b : List Nat} (h : a < b) : p ++ a < p ++ b := by
  induction p with
  | nil => exact h
  | cons c p ih => exact List.cons_lt_cons_iff.mpr (.inr ⟨rfl, ih⟩)
noncomputable def befo : List Nat → List Nat → Bool
  | a :: p, b :: q => decide (a < b) || (a == b && befo p q)
  | _, _ => false
theorem befo_lt : ∀ {p q : List Nat}, befo p q = true → ∀ u v, p ++ u < q ++ v
  | a :: p, b :: q, h, u, v => by
    simp only [befo, Bool.or_eq_true, decide_eq_true_eq, Bool.and_eq_true, beq_iff_eq] at h
    rw [List.cons_append, List.cons_append, List.cons_lt_cons_iff]
    rcases h with h | ⟨e, h⟩
    · exact .inl h
    · exact .inr ⟨e, befo_lt h u v⟩
  | [], _, h, _, _ => by simp [befo] at h
  | _ :: _, [], h, _, _ => by simp [befo] at h
structure Key (K H T : List Nat → List Nat) (E : Nat → List Nat) (tl : List Nat) : Prop where
  app : ∀ x z, K (x ++ z) = H x ++ T z
  nil : T [] = tl
  cons : ∀ c u, T (c :: u) = E c ++ T u
theorem Key.self {K H T : List Nat → List Nat} {E : Nat → List Nat} {tl : List Nat} (k : Key K H T E tl) (x : List Nat) : K x = H x ++ tl := by
  have := k.app x []
  rwa [List.append_nil, k.nil] at this
theorem Key.down {K H T : List Nat → List Nat} {E : Nat → List Nat} {tl : List Nat} (k : Key K H T E tl) {c : Nat} (h : befo tl (E c) = true) (x u : List Nat) : K x < K (x ++ c :: u) := by
  rw [k.self, k.app, k.cons]
  have := befo_lt h [] (T u)
  rw [List.append_nil] at this
  exact app_lt this
theorem Key.downR {K H T : List Nat → List Nat} {E : Nat → List Nat} {tl : List Nat} (k : Key K H T E tl) {c : Nat} (h : befo (E c) tl = true) (x u : List Nat) : K (x ++ c :: u) < K x := by
  rw [k.app, k.cons, k.self x]
  have := befo_lt h (T u) []
  rw [List.append_nil] at this
  exact app_lt this
theorem Key.side {K H T : List Nat → List Nat} {E : Nat → List Nat} {tl : List Nat} (k : Key K H T E tl) {c d : Nat} (h : befo (E c) (E d) = true) (x u v : List Nat) : K (x ++ c :: u) < K (x ++ d :: v) := by
  rw [k.app, k.app, k.cons, k.cons]
  exact app_lt (befo_lt h _ _)
theorem fst_sub {sg : List Nat} : ∀ (n : Nat) (W : List (List Nat)) (x y : List Nat), y ∈ fst n W x sg → (∃ z, y = x ++ z) ∧ y ∈ W
  | 0, W, x, y, h => nomatch h
  | n + 1, W, x, y, h => by
    rw [fst] at h
    split at h
    · rename_i hx
      rcases List.mem_append.mp h with h | h
      · rw [List.mem_singleton.mp h]; exact ⟨⟨[], (List.append_nil _).symm⟩, hx⟩
      · obtain ⟨c, hc, h⟩ := List.mem_flatMap.mp h
        obtain ⟨⟨z, e⟩, hy⟩ := fst_sub n W (x ++ [c]) y h
        exact ⟨⟨c :: z, by rw [e, List.append_assoc]; rfl⟩, hy⟩
    · cases h
theorem fst_all {W : List (List Nat)} (T : Tree W) {sg : List Nat} (hsg : ∀ c, c = 34 ∨ c = 60 ∨ c = 62 → c ∈ sg) : ∀ (n : Nat) (x z : List Nat), x ++ z ∈ W → Bounded W (x.length + n) → x ++ z ∈ fst n W x sg
  | 0, x, z, h, hB => by have := hB _ h; rw [List.length_append] at this; lia
  | n + 1, x, z, h, hB => by
    rw [fst, if_pos (T.up z x h)]
    cases z with
    | nil => exact List.mem_append_left _ (by rw [List.append_nil]; exact List.Mem.head _)
    | cons c z =>
      have hc := T.over _ h c (List.mem_append_right _ (List.Mem.head _))
      have e : x ++ c :: z = x ++ [c] ++ z := by rw [List.append_assoc]; rfl
      rw [e] at h ⊢
      refine List.mem_append_right _ (List.mem_flatMap.mpr ⟨c, hsg c hc, fst_all T hsg n _ z h ?_⟩)
      rw [List.length_append]
      exact hB.mono (by simp only [List.length_cons, List.length_nil]; lia)
theorem fst_pair {W : List (List Nat)} {sg : List Nat} {K H T : List Nat → List Nat} {E : Nat → List Nat} {tl : List Nat} (k : Key K H T E tl) (h1 : ∀ c ∈ sg, befo tl (E c) = true) (h2 : sg.Pairwise fun c d => befo (E c) (E d) = true) :
    ∀ (n : Nat) (x : List Nat), (fst n W x sg).Pairwise fun a b => K a < K b
  | 0, _ => .nil
  | n + 1, x => by
    rw [fst]
    split
    · rw [List.pairwise_append]
      refine ⟨List.pairwise_singleton _ _, ?_, fun a ha b hb => ?_⟩
      · rw [List.pairwise_flatMap]
        refine ⟨fun c _ => fst_pair k h1 h2 n _, h2.imp fun {c d} hcd a ha b hb => ?_⟩
        obtain ⟨⟨u, rfl⟩, _⟩ := fst_sub n W _ _ ha
        obtain ⟨⟨v, rfl⟩, _⟩ := fst_sub n W _ _ hb
        rw [List.append_assoc, List.append_assoc]
        exact k.side hcd x u v
      · rw [List.mem_singleton.mp ha]
        obtain ⟨c, hc, hb⟩ := List.mem_flatMap.mp hb
        obtain ⟨⟨u, rfl⟩, _⟩ := fst_sub n W _ _ hb
        rw [List.append_assoc]
        exact k.down (h1 c hc) x u
    · exact .nil
theorem nodup_lt {l : List (List Nat)} {K : List Nat → List Nat} (h : l.Pairwise fun a b => K a < K b) : l.Nodup := by
  refine List.Pairwise.imp (fun {a b} hab e => ?_) h
  subst e; exact List.lt_irrefl _ hab
theorem sorted_eq {a b : List (List Nat)} (p : a.Perm b) (ha : a.Pairwise (· < ·)) (hb : b.Pairwise (· < ·)) : a = b :=
  List.Perm.eq_of_pairwise (fun x y _ _ h1 h2 => absurd h1 (List.lt_asymm h2)) ha hb p
theorem idx_count {α : Type} (key : α → List Nat) : ∀ (l : List α) (k : Nat) (x : α), l.Pairwise (fun a b => key a < key b) → l[k]? = some x → l.countP (fun y => decide (key y < key x)) = k
  | [], k, x, _, h => by simp at h
  | a :: l, 0, x, hp, h => by
    have e : a = x := by simpa using h
    subst e
    have h1 := (List.pairwise_cons.mp hp).1
    rw [List.countP_cons, if_neg (by simp), List.countP_eq_zero.mpr]
    intro y hy hlt
    exact List.lt_asymm (h1 y hy) (by simpa using hlt)
  | a :: l, k + 1, x, hp, h => by
    have h' : l[k]? = some x := by simpa using h
    have h1 := (List.pairwise_cons.mp hp).1
    rw [List.countP_cons, idx_count key l k x (List.pairwise_cons.mp hp).2 h', if_pos (by simpa using h1 x (List.mem_of_getElem? h'))]
theorem count4 {α : Type} {a b c d : α → Bool} : ∀ (l : List α), (∀ y ∈ l, (if a y = true then 1 else 0) + (if b y = true then 1 else 0) = (if c y = true then 1 else 0) + (if d y = true then 1 else 0)) → l.countP a + l.countP b = l.countP c + l.countP d
  | [], _ => rfl
  | x :: l, h => by
    have h1 := h x (List.Mem.head _)
    have h2 := count4 l fun y hy => h y (List.Mem.tail _ hy)
    rw [List.countP_cons, List.countP_cons, List.countP_cons, List.countP_cons]
    lia
theorem anc_count {W : List (List Nat)} (T : Tree W) {x : List Nat} (hx : x ∈ W) : W.countP (fun y => pre y x) = x.length + 1 := by
  rw [List.countP_eq_length_filter]
  have p : (W.filter fun y => pre y x).Perm ((List.range (x.length + 1)).map fun i => x.take i) := by
    rw [List.perm_ext_iff_of_nodup (T.nodup.filter _)]
    · intro y
      rw [List.mem_filter, List.mem_map]
      constructor
      · rintro ⟨hy, hp⟩
        obtain ⟨z, rfl⟩ := pre_iff.mp hp
        exact ⟨y.length, List.mem_range.mpr (by rw [List.length_append]; lia), List.take_left⟩
      · rintro ⟨i, hi, rfl⟩
        have e : x = x.take i ++ x.drop i := (List.take_append_drop i x).symm
        exact ⟨T.up (x.drop i) _ (e ▸ hx), pre_iff.mpr ⟨_, e⟩⟩
    · unfold List.Nodup
      rw [List.pairwise_map]
      refine (List.pairwise_lt_range).imp_of_mem fun {i j} hi hj hij e => ?_
      have hi' := List.mem_range.mp hi
      have hj' := List.mem_range.mp hj
      have := congrArg List.length e
      rw [List.length_take, List.length_take] at this
      lia
  rw [p.length_eq, List.length_map, List.length_range]
theorem pair_total {R : Nat → Nat → Prop} : ∀ {l : List Nat}, l.Pairwise R → ∀ c ∈ l, ∀ d ∈ l, c ≠ d → R c d ∨ R d c
  | [], _, c, hc, _, _, _ => nomatch hc
  | a :: l, h, c, hc, d, hd, hne => by
    have h1 := List.pairwise_cons.mp h
    rcases List.mem_cons.mp hc with e | hc'
    · rcases List.mem_cons.mp hd with e' | hd'
      · exact absurd (e.trans e'.symm) hne
      · exact .inl (e ▸ h1.1 d hd')
    · rcases List.mem_cons.mp hd with e' | hd'
      · exact .inr (e' ▸ h1.1 c hc')
      · exact pair_total h1.2 c hc' d hd' hne
noncomputable abbrev tl1 : List Nat := [34, 32, 111, 114, 32, 34, 34]
noncomputable abbrev E1 (bare : List Nat) (c : Nat) : List Nat := rep 34 [34, 34] (wrOne bare c)
theorem wr_app (bare x z : List Nat) : wr bare (x ++ z) = wr bare x ++ wr bare z := List.flatMap_append
theorem key_reply (bare : List Nat) : Key (reply bare) (fun x => [50, 53, 55, 32, 34] ++ rep 34 [34, 34] (wr bare x)) (fun z => rep 34 [34, 34] (wr bare z) ++ tl1) (E1 bare) tl1 where
  app x z := by unfold reply; rw [wr_app, rep_append]; simp only [List.append_assoc]
  nil := rfl
  cons c u := by
    show rep 34 [34, 34] (wrOne bare c ++ wr bare u) ++ tl1 = _
    rw [rep_append, List.append_assoc]
theorem key_nm (bare : List Nat) : Key (nm bare) (fun x => [123] ++ wr bare x) (fun z => wr bare z ++ [125, 120]) (wrOne bare) [125, 120] where
  app x z := by unfold nm; rw [wr_app]; simp only [List.append_assoc]
  nil := rfl
  cons c u := by
    show (wrOne bare c ++ wr bare u) ++ _ = _
    rw [List.append_assoc]
structure Coat (bare sg : List Nat) : Prop where
  h3 : sg.length = 3
  all : ∀ c, c = 34 ∨ c = 60 ∨ c = 62 → c ∈ sg
  b1 : ∀ c ∈ sg, befo tl1 (E1 bare c) = true
  b2 : ∀ c ∈ sg, befo (wrOne bare c) [125, 120] = true
  p : sg.Pairwise fun c d => befo (E1 bare c) (E1 bare d) = true ∧ befo (wrOne bare c) (wrOne bare d) = true
theorem coat1 : Coat [34] [34, 62, 60] := ⟨rfl, fun c h => by rcases h with rfl | rfl | rfl <;> decide, by decide, by decide, by decide⟩
theorem coat2 : Coat [] [62, 60, 34] := ⟨rfl, fun c h => by rcases h with rfl | rfl | rfl <;> decide, by decide, by decide, by decide⟩
theorem coat3 : Coat [60] [62, 34, 60] := ⟨rfl, fun c h => by rcases h with rfl | rfl | rfl <;> decide, by decide, by decide, by decide⟩
theorem coat4 : Coat [62] [60, 34, 62] := ⟨rfl, fun c h => by rcases h with rfl | rfl | rfl <;> decide, by decide, by decide, by decide⟩
theorem pre_len {x y : List Nat} (h : pre x y = true) : x.length ≤ y.length := by
  obtain ⟨z, rfl⟩ := pre_iff.mp h
  rw [List.length_append]; lia
theorem pre_not {p : List Nat} {c d : Nat} {u v : List Nat} (h : c ≠ d) : pre (p ++ c :: u) (p ++ d :: v) = false := by
  cases q : pre (p ++ c :: u) (p ++ d :: v) with
  | false => rfl
  | true =>
    obtain ⟨z, e⟩ := pre_iff.mp q
    rw [List.append_assoc] at e
    have := List.append_cancel_left e
    simp at this
    exact absurd this.1.symm h
theorem dlt {a b : List Nat} (h : a < b) : decide (a < b) = true := by simpa using h
theorem dge {a b : List Nat} (h : a < b) : decide (b < a) = false := by simpa using List.lt_asymm h
theorem coatW {W : List (List Nat)} {bare sg : List Nat} (T : Tree W) (hB : Bounded W 7) (hn : ∀ x ∈ W, tNum W x = (x.length : Int) + 1 - (kinN W x : Nat)) (C : Coat bare sg) : CoatW W bare sg := by
  have k1 := key_reply bare
  have k2 := key_nm bare
  have hp1 : (fst 7 W [] sg).Pairwise fun a b => reply bare a < reply bare b := fst_pair k1 C.b1 (C.p.imp fun h => h.1) 7 []
  have hall : ∀ y, y ∈ fst 7 W [] sg ↔ y ∈ W := fun y => ⟨fun h => (fst_sub 7 W [] y h).2, fun h => fst_all T C.all 7 [] y h hB⟩
  have hperm : (fst 7 W [] sg).Perm W := (List.perm_ext_iff_of_nodup (nodup_lt hp1) T.nodup).mpr hall
  have hmp : ((fst 7 W [] sg).map (reply bare)).Pairwise (· < ·) := List.pairwise_map.mpr hp1
  have side : ∀ {p u v : List Nat} {c d : Nat}, c ≠ d → p ++ c :: u ∈ W → p ++ d :: v ∈ W →
      (reply bare (p ++ c :: u) < reply bare (p ++ d :: v) ∧ nm bare (p ++ c :: u) < nm bare (p ++ d :: v)) ∨ (reply bare (p ++ d :: v) < reply bare (p ++ c :: u) ∧ nm bare (p ++ d :: v) < nm bare (p ++ c :: u)) := by
    intro p u v c d hcd hx hy
    have hc := C.all c (T.over _ hx c (List.mem_append_right _ (List.Mem.head _)))
    have hd := C.all d (T.over _ hy d (List.mem_append_right _ (List.Mem.head _)))
    rcases pair_total C.p c hc d hd hcd with h | h
    · exact .inl ⟨k1.side h.1 p u v, k2.side h.2 p u v⟩
    · exact .inr ⟨k1.side h.1 p v u, k2.side h.2 p v u⟩
  have hne : ∀ x ∈ W, ∀ y ∈ W, x ≠ y → nm bare x ≠ nm bare y := by
    intro x hx y hy hxy e
    have irr : ∀ {a b : List Nat}, a < b → a ≠ b := fun h e => List.lt_irrefl _ (e ▸ h)
    rcases List.tri (x := x) (y := y) with ⟨z, rfl⟩ | ⟨c, z, rfl⟩ | ⟨p, c, d, u, v, hcd, rfl, rfl⟩
    · cases z with
      | nil => exact hxy (List.append_nil x).symm
      | cons c z => exact irr (k2.downR (C.b2 c (C.all c (T.over _ hy c (List.mem_append_right _ (List.Mem.head _))))) x z) e.symm
    · exact irr (k2.downR (C.b2 c (C.all c (T.over _ hx c (List.mem_append_right _ (List.Mem.head _))))) y z) e
    · rcases side hcd hx hy with h | h
      · exact irr h.2 e
      · exact irr h.2 e.symm
  refine ⟨C.h3, hperm, ?_, fun R hR hs => ?_, ?_, fun R hR hs k x hx => ?_⟩
  · exact (hperm.map (reply bare)).nodup_iff.mp (nodup_lt (K := id) hmp)
  · exact sorted_eq (hR.trans (hperm.map _).symm) hs hmp
  · unfold List.Nodup
    rw [List.pairwise_map]
    exact T.nodup.imp_of_mem fun {a b} ha hb h => hne a ha b hb h
  · have hxW : x ∈ W := (hall x).mp (List.mem_of_getElem? hx)
    obtain ⟨j, hj, ej⟩ := List.getElem_of_mem (hR.mem_iff.mpr (List.mem_map.mpr ⟨x, hxW, rfl⟩))
    have hjx : R[j]? = some (nm bare x) := by rw [List.getElem?_eq_getElem hj, ej]
    refine ⟨j, ?_, hjx⟩
    have c1 := idx_count (reply bare) _ k x hp1 hx
    rw [hperm.countP_eq] at c1
    have c2 := idx_count id R j (nm bare x) hs hjx
    rw [hR.countP_eq, List.countP_map] at c2
    have c3 := anc_count T hxW
    have c4 := count4 (a := fun y => decide (reply bare y < reply bare x)) (b := pre x) (c := fun y => decide (nm bare y < nm bare x)) (d := fun y => pre y x) W (by
      intro y hy
      rcases List.tri (x := x) (y := y) with ⟨z, rfl⟩ | ⟨c, z, rfl⟩ | ⟨p, c, d, u, v, hcd, rfl, rfl⟩
      · cases z with
        | nil => rw [List.append_nil, decide_eq_false (List.lt_irrefl (reply bare x)), decide_eq_false (List.lt_irrefl (nm bare x))]
        | cons c z =>
          have hc := C.all c (T.over _ hy c (List.mem_append_right _ (List.Mem.head _)))
          have h1 := k1.down (C.b1 c hc) x z
          have h2 := k2.downR (C.b2 c hc) x z
          have h3 : pre x (x ++ c :: z) = true := pre_iff.mpr ⟨_, rfl⟩
          have h4 : pre (x ++ c :: z) x = false := by
            cases q : pre (x ++ c :: z) x with
            | false => rfl
            | true => have := pre_len q; rw [List.length_append, List.length_cons] at this; lia
          rw [dge h1, dlt h2, h3, h4]; rfl
      · have hc := C.all c (T.over _ hxW c (List.mem_append_right _ (List.Mem.head _)))
        have h1 := k1.down (C.b1 c hc) y z
        have h2 := k2.downR (C.b2 c hc) y z
        have h3 : pre y (y ++ c :: z) = true := pre_iff.mpr ⟨_, rfl⟩
        have h4 : pre (y ++ c :: z) y = false := by
          cases q : pre (y ++ c :: z) y with
          | false => rfl
          | true => have := pre_len q; rw [List.length_append, List.length_cons] at this; lia
        rw [dlt h1, dge h2, h3, h4]; rfl
      · rw [pre_not hcd, pre_not hcd.symm]
        rcases side hcd hxW hy with h | h
        · rw [dge h.1, dge h.2]
        · rw [dlt h.1, dlt h.2])
    rw [c3, c1] at c4
    have c5 : W.countP (pre x) = kinN W x := List.countP_eq_length_filter
    have c6 : W.countP (fun y => decide (nm bare y < nm bare x)) = j := c2
    rw [c5, c6] at c4
    rw [hn x hxW]
    lia
theorem hueB_at {x : UInt64} {a : Nat} (h : hueB x a = true) : ∃ m i, Float64.decode x = .fin false m (-(18 + (i : Nat) : Int)) ∧ (4 * a - 1) * 2 ^ i < m ∧ m < (4 * a + 1) * 2 ^ i := by
  unfold hueB at h
  split at h
  · rename_i m e he
    simp only [Bool.and_eq_true, decide_eq_true_eq] at h
    obtain ⟨h0, h1, h2⟩ := h
    refine ⟨m, (-e - 18).toNat, ?_, h1, h2⟩
    rw [he]
    congr 1
    lia
  · cases h
theorem cmp_fin {x y : UInt64} {m k i j : Nat} (hx : Float64.decode x = .fin false m (-(18 + (i : Nat) : Int))) (hy : Float64.decode y = .fin false k (-(18 + (j : Nat) : Int))) :
    flt x y = decide (m * 2 ^ (max i j - i) < k * 2 ^ (max i j - j)) := by
  unfold flt Float64.cmp
  rw [hx, hy]
  simp only [Float64.align, Float64.sgn, Bool.false_eq_true, if_false]
  have e1 : (-(18 + (i : Int)) - min (-(18 + (i : Int))) (-(18 + (j : Int)))).toNat = max i j - i := by lia
  have e2 : (-(18 + (j : Int)) - min (-(18 + (i : Int))) (-(18 + (j : Int)))).toNat = max i j - j := by lia
  rw [e1, e2]
  by_cases h : m * 2 ^ (max i j - i) < k * 2 ^ (max i j - j)
  · rw [decide_eq_true h]
    have : compare ((m * 2 ^ (max i j - i) : Nat) : Int) ((k * 2 ^ (max i j - j) : Nat) : Int) = .lt := by
      rw [Int.compare_eq_lt]; exact Int.ofNat_lt.mpr h
    rw [this]; rfl
  · rw [decide_eq_false h]
    have : compare ((m * 2 ^ (max i j - i) : Nat) : Int) ((k * 2 ^ (max i j - j) : Nat) : Int) ≠ .lt := by
      rw [ne_eq, Int.compare_eq_lt]; intro hh; exact h (Int.ofNat_lt.mp hh)
    cases q : compare ((m * 2 ^ (max i j - i) : Nat) : Int) ((k * 2 ^ (max i j - j) : Nat) : Int) with
    | lt => exact absurd q this
    | eq => rfl
    | gt => rfl
theorem pow_up {m a i M : Nat} (h : i ≤ M) : a * 2 ^ i * 2 ^ (M - i) = a * 2 ^ M := by
  rw [Nat.mul_assoc, ← Nat.pow_add, Nat.add_sub_cancel' h]
theorem hue_lt {x y : UInt64} {a b : Nat} (hx : hueB x a = true) (hy : hueB y b = true) (h : a < b) : flt x y = true ∧ flt y x = false := by
  obtain ⟨m, i, dx, x1, x2⟩ := hueB_at hx
  obtain ⟨k, j, dy, y1, y2⟩ := hueB_at hy
  have key : m * 2 ^ (max i j - i) < k * 2 ^ (max i j - j) := by
    have p1 : m * 2 ^ (max i j - i) < (4 * a + 1) * 2 ^ (max i j) := by
      have := Nat.mul_lt_mul_of_pos_right x2 (Nat.pow_pos (n := max i j - i) (show 0 < 2 by decide))
      rwa [pow_up (m := m) (Nat.le_max_left i j)] at this
    have p2 : (4 * b - 1) * 2 ^ (max i j) < k * 2 ^ (max i j - j) := by
      have := Nat.mul_lt_mul_of_pos_right y1 (Nat.pow_pos (n := max i j - j) (show 0 < 2 by decide))
      rwa [pow_up (m := m) (Nat.le_max_right i j)] at this
    have p3 : (4 * a + 1) * 2 ^ (max i j) ≤ (4 * b - 1) * 2 ^ (max i j) := Nat.mul_le_mul_right _ (by lia)
    lia
  refine ⟨by rw [cmp_fin dx dy]; exact decide_eq_true key, ?_⟩
  rw [cmp_fin dy dx, Nat.max_comm j i]
  exact decide_eq_false (by lia)
theorem hue_irr {x : UInt64} {a : Nat} (hx : hueB x a = true) : flt x x = false := by
  obtain ⟨m, i, dx, _, _⟩ := hueB_at hx
  rw [cmp_fin dx dx]
  exact decide_eq_false (Nat.lt_irrefl _)
noncomputable def pa : List Nat → Nat → Nat
  | [], _ => 0
  | c :: x, k + 1 => 4 ^ (k + 1) * codeN c + pa x k
  | _ :: _, 0 => 0
theorem gA_app : ∀ (x : List Nat) (z : List Nat) (k : Nat), x.length ≤ k → gA (x ++ z) k = pa x k + gA z (k - x.length)
  | [], z, k, _ => by simp [pa]
  | c :: x, z, 0, h => by simp at h
  | c :: x, z, k + 1, h => by
    rw [List.cons_append, gA, pa, gA_app x z k (by simpa using h), List.length_cons, Nat.add_sub_add_right]
    lia
theorem codeN_le (c : Nat) : codeN c ≤ 3 := by
  unfold codeN
  split
  · decide
  · split <;> decide
theorem gA_pos : ∀ (z : List Nat) (k : Nat), z.length ≤ k → 0 < gA z k ∧ gA z k < 4 ^ (k + 1)
  | [], k, _ => by
    have : 0 < 4 ^ k := Nat.pow_pos (by decide)
    rw [gA, Nat.pow_succ]; lia
  | c :: z, 0, h => by simp at h
  | c :: z, k + 1, h => by
    have ih := gA_pos z k (by simpa using h)
    have hc := Nat.mul_le_mul_left (4 ^ (k + 1)) (codeN_le c)
    rw [gA, Nat.pow_succ 4 (k + 1)]
    lia
theorem gA_c (c : Nat) (u : List Nat) {m : Nat} (h : (c :: u).length ≤ m) : 4 ^ m * codeN c < gA (c :: u) m ∧ gA (c :: u) m < 4 ^ m * (codeN c + 1) := by
  cases m with
  | zero => simp at h
  | succ k =>
    have := gA_pos u k (by simpa using h)
    rw [gA, Nat.mul_succ]
    lia
theorem code34 : codeN 34 = 0 := rfl
theorem code60 : codeN 60 = 2 := by decide
theorem code62 : codeN 62 = 3 := by decide
theorem gA_self (x : List Nat) (h : x.length ≤ 7) : gA x 7 = pa x 7 + 4 ^ (7 - x.length) := by
  have := gA_app x [] 7 h
  rwa [List.append_nil] at this
theorem gA_down34 {x u : List Nat} (h : (x ++ 34 :: u).length ≤ 7) : gA (x ++ 34 :: u) 7 < gA x 7 := by
  have hl : x.length + (34 :: u).length ≤ 7 := by rwa [List.length_append] at h
  rw [gA_app x _ 7 (by lia), gA_self x (by lia)]
  have := (gA_c 34 u (m := 7 - x.length) (by lia)).2
  rw [code34] at this; lia
theorem gA_downR {x u : List Nat} {c : Nat} (hc : c = 60 ∨ c = 62) (h : (x ++ c :: u).length ≤ 7) : gA x 7 < gA (x ++ c :: u) 7 := by
  have hl : x.length + (c :: u).length ≤ 7 := by rwa [List.length_append] at h
  rw [gA_app x _ 7 (by lia), gA_self x (by lia)]
  have := (gA_c c u (m := 7 - x.length) (by lia)).1
  rcases hc with rfl | rfl
  · rw [code60] at this; lia
  · rw [code62] at this; lia
theorem gA_side {x u v : List Nat} {c d : Nat} (hcd : codeN c < codeN d) (h : (x ++ c :: u).length ≤ 7) (h' : (x ++ d :: v).length ≤ 7) : gA (x ++ c :: u) 7 < gA (x ++ d :: v) 7 := by
  have hl : x.length + (c :: u).length ≤ 7 := by rwa [List.length_append] at h
  have hl' : x.length + (d :: v).length ≤ 7 := by rwa [List.length_append] at h'
  rw [gA_app x _ 7 (by lia), gA_app x _ 7 (by lia)]
  have h1 := (gA_c c u (m := 7 - x.length) (by lia)).2
  have h2 := (gA_c d v (m := 7 - x.length) (by lia)).1
  have h3 := Nat.mul_le_mul_left (4 ^ (7 - x.length)) hcd
  rw [Nat.succ_eq_add_one] at h3
  lia
theorem mid_sub : ∀ (n : Nat) (W : List (List Nat)) (x y : List Nat), y ∈ mid n W x → (∃ z, y = x ++ z) ∧ y ∈ W
  | 0, W, x, y, h => nomatch h
  | n + 1, W, x, y, h => by
    have down : ∀ c, y ∈ mid n W (x ++ [c]) → (∃ z, y = x ++ z) ∧ y ∈ W := by
      intro c h
      obtain ⟨⟨z, e⟩, hy⟩ := mid_sub n W (x ++ [c]) y h
      exact ⟨⟨c :: z, by rw [e, List.append_assoc]; rfl⟩, hy⟩
    rw [mid] at h
    split at h
    · rename_i hx
      rcases List.mem_append.mp h with h | h
      · rcases List.mem_append.mp h with h | h
        · rcases List.mem_append.mp h with h | h
          · exact down _ h
          · rw [List.mem_singleton.mp h]; exact ⟨⟨[], (List.append_nil _).symm⟩, hx⟩
        · exact down _ h
      · exact down _ h
    · cases h
theorem mid_all {W : List (List Nat)} (T : Tree W) : ∀ (n : Nat) (x z : List Nat), x ++ z ∈ W → Bounded W (x.length + n) → x ++ z ∈ mid n W x
  | 0, x, z, h, hB => by have := hB _ h; rw [List.length_append] at this; lia
  | n + 1, x, z, h, hB => by
    rw [mid, if_pos (T.up z x h)]
    cases z with
    | nil => rw [List.append_nil]; exact List.mem_append_left _ (List.mem_append_left _ (List.mem_append_right _ (List.Mem.head _)))
    | cons c z =>
      have hc := T.over _ h c (List.mem_append_right _ (List.Mem.head _))
      have e : x ++ c :: z = x ++ [c] ++ z := by rw [List.append_assoc]; rfl
      rw [e] at h ⊢
      have ih := mid_all T n _ z h (by rw [List.length_append]; exact hB.mono (by simp only [List.length_cons, List.length_nil]; lia))
      rcases hc with rfl | rfl | rfl
      · exact List.mem_append_left _ (List.mem_append_left _ (List.mem_append_left _ ih))
      · exact List.mem_append_left _ (List.mem_append_right _ ih)
      · exact List.mem_append_right _ ih
theorem mid_pair {W : List (List Nat)} (hs : ∀ x ∈ W, x.length ≤ 7) : ∀ (n : Nat) (x : List Nat), (mid n W x).Pairwise fun a b => gA a 7 < gA b 7
  | 0, _ => .nil
  | n + 1, x => by
    have un : ∀ {c : Nat} {y : List Nat}, y ∈ mid n W (x ++ [c]) → ∃ u, y = x ++ c :: u ∧ (x ++ c :: u).length ≤ 7 := by
      intro c y h
      obtain ⟨⟨z, e⟩, hy⟩ := mid_sub n W (x ++ [c]) y h
      have e' : y = x ++ c :: z := by rw [e, List.append_assoc]; rfl
      exact ⟨z, e', e' ▸ hs y hy⟩
    rw [mid]
    split
    · simp only [List.pairwise_append, List.mem_append, List.mem_singleton]
      refine ⟨⟨⟨mid_pair hs n _, List.pairwise_singleton _ _, fun a ha b hb => ?_⟩, mid_pair hs n _, fun a ha b hb => ?_⟩, mid_pair hs n _, fun a ha b hb => ?_⟩
      · obtain ⟨u, rfl, h⟩ := un ha
        rw [hb]; exact gA_down34 h
      · obtain ⟨v, rfl, h'⟩ := un hb
        rcases ha with ha | ha
        · obtain ⟨u, rfl, h⟩ := un ha
          exact gA_side (by decide) h h'
        · rw [ha]; exact gA_downR (.inl rfl) h'
      · obtain ⟨v, rfl, h'⟩ := un hb
        rcases ha with (ha | ha) | ha
        · obtain ⟨u, rfl, h⟩ := un ha
          exact gA_side (by decide) h h'
        · rw [ha]; exact gA_downR (.inr rfl) h'
        · obtain ⟨u, rfl, h⟩ := un ha
          exact gA_side (by decide) h h'
    · exact .nil
theorem gA_ne {x y : List Nat} (hx : x.length ≤ 7) (hy : y.length ≤ 7) (ox : ∀ c ∈ x, c = 34 ∨ c = 60 ∨ c = 62) (oy : ∀ c ∈ y, c = 34 ∨ c = 60 ∨ c = 62) (h : x ≠ y) : gA x 7 ≠ gA y 7 := by
  have down : ∀ {x u : List Nat} {c : Nat}, (c = 34 ∨ c = 60 ∨ c = 62) → (x ++ c :: u).length ≤ 7 → gA x 7 ≠ gA (x ++ c :: u) 7 := by
    intro x u c hc hl
    rcases hc with rfl | hc
    · exact Nat.ne_of_gt (gA_down34 hl)
    · exact Nat.ne_of_lt (gA_downR hc hl)
  rcases List.tri (x := x) (y := y) with ⟨z, rfl⟩ | ⟨c, z, rfl⟩ | ⟨p, c, d, u, v, hcd, rfl, rfl⟩
  · cases z with
    | nil => exact absurd (List.append_nil x).symm h
    | cons c z => exact down (oy c (List.mem_append_right _ (List.Mem.head _))) hy
  · exact (down (ox c (List.mem_append_right _ (List.Mem.head _))) hx).symm
  · have hc := ox c (List.mem_append_right _ (List.Mem.head _))
    have hd := oy d (List.mem_append_right _ (List.Mem.head _))
    have hcc : codeN c < codeN d ∨ codeN d < codeN c := by
      rcases hc with rfl | rfl | rfl <;> rcases hd with rfl | rfl | rfl <;> first | exact absurd rfl hcd | exact .inl (by decide) | exact .inr (by decide)
    rcases hcc with hh | hh
    · exact Nat.ne_of_lt (gA_side hh hx hy)
    · exact Nat.ne_of_gt (gA_side hh hy hx)
theorem stepI_pow : ∀ i, i ≤ 7 → stepI i = ((4 ^ (7 - i) : Nat) : Int)
  | 0, _ => by decide
  | i + 1, h => by
    rw [stepI, stepI_pow i (by lia), show 7 - i = (7 - (i + 1)) + 1 by lia, Nat.pow_succ]
    rw [Int.fdiv_eq_ediv_of_nonneg _ (by decide)]
    lia
theorem pa_snoc : ∀ (x : List Nat) (c k : Nat), x.length < k → pa (x ++ [c]) k = pa x k + 4 ^ (k - x.length) * codeN c
  | [], c, 0, h => by simp at h
  | [], c, k + 1, _ => by simp [pa]
  | d :: x, c, 0, h => by simp at h
  | d :: x, c, k + 1, h => by
    rw [List.cons_append, pa, pa, pa_snoc x c k (by simpa using h), List.length_cons, Nat.add_sub_add_right, Nat.add_assoc]
theorem code_is (c : Nat) : code c = (codeN c : Int) := by
  unfold code codeN
  split
  · rfl
  · split <;> rfl
theorem place_pa (x : List Nat) (h : x.length ≤ 7) : ∀ i, i ≤ x.length → placeI x i = (pa (x.take i) 7 : Int)
  | 0, _ => by simp [placeI, pa]
  | i + 1, hi => by
    rw [placeI, place_pa x h i (by lia), stepI_pow i (by lia), code_is]
    have e : x.take (i + 1) = x.take i ++ [x.getD i 0] := by
      rw [List.take_add_one, List.getD_eq_getElem?_getD, List.getElem?_eq_getElem (by lia)]; rfl
    have hl : (x.take i).length = i := by rw [List.length_take]; lia
    rw [e, pa_snoc _ _ _ (by lia), hl]
    rw [Int.natCast_add, Int.natCast_mul]
theorem place_gA (x : List Nat) (h : x.length ≤ 7) : placeI x x.length + stepI x.length = (gA x 7 : Int) := by
  rw [place_pa x h _ (Nat.le_refl _), stepI_pow _ h, List.take_length, gA_self x h, Int.natCast_add]
noncomputable def wds : Nat → List (List Nat)
  | 0 => [[]]
  | n + 1 => (wds n).flatMap fun x => [34 :: x, 60 :: x, 62 :: x]
theorem wds_mem : ∀ (x : List Nat), (∀ c ∈ x, c = 34 ∨ c = 60 ∨ c = 62) → x ∈ wds x.length
  | [], _ => List.Mem.head _
  | c :: x, h => by
    rw [List.length_cons, wds]
    refine List.mem_flatMap.mpr ⟨x, wds_mem x fun d hd => h d (List.Mem.tail _ hd), ?_⟩
    rcases h c (List.Mem.head _) with rfl | rfl | rfl <;> simp
noncomputable def chkL (n : Nat) (kin : Nat) (xs : List (List Nat)) : Bool := xs.all fun x => chkK (gA x 7) n kin
theorem k0 : ((List.range 10).all fun k => chkK (gA [] 7) 0 (k + 1)) = true := by decide +kernel
theorem k11 : chkL 1 1 (wds 1) = true := by decide +kernel
theorem k12 : chkL 1 2 (wds 1) = true := by decide +kernel
theorem k13 : chkL 1 3 (wds 1) = true := by decide +kernel
theorem k14 : chkL 1 4 (wds 1) = true := by decide +kernel
theorem k15 : chkL 1 5 (wds 1) = true := by decide +kernel
theorem k21 : chkL 2 1 (wds 2) = true := by decide +kernel
theorem k22 : chkL 2 2 (wds 2) = true := by decide +kernel
theorem k23 : chkL 2 3 (wds 2) = true := by decide +kernel
theorem k24 : chkL 2 4 (wds 2) = true := by decide +kernel
theorem k31 : chkL 3 1 (wds 3) = true := by decide +kernel
theorem k32 : chkL 3 2 (wds 3) = true := by decide +kernel
theorem k33 : chkL 3 3 (wds 3) = true := by decide +kernel
theorem k41 : chkL 4 1 (wds 4) = true := by decide +kernel
theorem k42 : chkL 4 2 (wds 4) = true := by decide +kernel
theorem k51a : chkL 5 1 ((wds 5).take 61) = true := by decide +kernel
theorem k51b : chkL 5 1 (((wds 5).drop 61).take 61) = true := by decide +kernel
theorem k51c : chkL 5 1 (((wds 5).drop 122).take 61) = true := by decide +kernel
theorem k51d : chkL 5 1 ((wds 5).drop 183) = true := by decide +kernel
theorem kp : ([1, 2, 0, 7].all fun l => (List.range 6).all fun i => chkK (gA (path l (i + 1)) 7) (i + 1) (6 - i)) = true := by decide +kernel
theorem kq : chkK (gA [60] 7) 1 7 = true := by decide +kernel
theorem chkL_at {n kin : Nat} {xs : List (List Nat)} (h : chkL n kin xs = true) {x : List Nat} (hx : x ∈ xs) : chkK (gA x 7) n kin = true := List.all_eq_true.mp h x hx
theorem k51 : chkL 5 1 (wds 5) = true := by
  have e : wds 5 = (wds 5).take 61 ++ (((wds 5).drop 61).take 61 ++ (((wds 5).drop 122).take 61 ++ (wds 5).drop 183)) := by decide +kernel
  rw [e]
  unfold chkL
  rw [List.all_append, List.all_append, List.all_append, Bool.and_eq_true, Bool.and_eq_true, Bool.and_eq_true]
  exact ⟨k51a, k51b, k51c, k51d⟩
theorem chk_all {x : List Nat} {kin : Nat} (ho : ∀ c ∈ x, c = 34 ∨ c = 60 ∨ c = 62) (h1 : 1 ≤ kin) (h6 : x.length ≤ 6) (hb : x.length + kin ≤ 6 + cnt [1, 2, 0, 7] x) : chkK (gA x 7) x.length kin = true := by
  have hm := wds_mem x ho
  have hc4 : cnt [1, 2, 0, 7] x ≤ 4 := List.countP_le_length
  by_cases h0 : x.length = 0
  · have : x = [] := List.length_eq_zero_iff.mp h0
    subst this
    rw [List.length_nil] at hb
    have := List.all_eq_true.mp k0 (kin - 1) (List.mem_range.mpr (by lia))
    rwa [Nat.sub_add_cancel h1] at this
  by_cases hs : x.length + kin ≤ 6
  · have hn : x.length = 1 ∨ x.length = 2 ∨ x.length = 3 ∨ x.length = 4 ∨ x.length = 5 := by lia
    rcases hn with hn | hn | hn | hn | hn <;> rw [hn] at hs hm ⊢
    · have hk : kin = 1 ∨ kin = 2 ∨ kin = 3 ∨ kin = 4 ∨ kin = 5 := by lia
      rcases hk with rfl | rfl | rfl | rfl | rfl
      · exact chkL_at k11 hm
      · exact chkL_at k12 hm
      · exact chkL_at k13 hm
      · exact chkL_at k14 hm
      · exact chkL_at k15 hm
    · have hk : kin = 1 ∨ kin = 2 ∨ kin = 3 ∨ kin = 4 := by lia
      rcases hk with rfl | rfl | rfl | rfl
      · exact chkL_at k21 hm
      · exact chkL_at k22 hm
      · exact chkL_at k23 hm
      · exact chkL_at k24 hm
    · have hk : kin = 1 ∨ kin = 2 ∨ kin = 3 := by lia
      rcases hk with rfl | rfl | rfl
      · exact chkL_at k31 hm
      · exact chkL_at k32 hm
      · exact chkL_at k33 hm
    · have hk : kin = 1 ∨ kin = 2 := by lia
      rcases hk with rfl | rfl
      · exact chkL_at k41 hm
      · exact chkL_at k42 hm
    · have hk : kin = 1 := by lia
      subst hk
      exact chkL_at k51 hm
  · obtain ⟨l, hl, ho'⟩ : ∃ l ∈ [1, 2, 0, 7], onP x l = true := by
      have : 0 < cnt [1, 2, 0, 7] x := by lia
      obtain ⟨l, hl, h⟩ := List.countP_pos_iff.mp this
      exact ⟨l, hl, h⟩
    have hx : path l x.length = x := by unfold onP at ho'; exact beq_iff_eq.mp ho'
    have hk7 : kin + x.length = 7 → chkK (gA x 7) x.length kin = true := by
      intro h7
      have := List.all_eq_true.mp (List.all_eq_true.mp kp l hl) (x.length - 1) (List.mem_range.mpr (by lia))
      rw [Nat.sub_add_cancel (by lia), hx] at this
      rwa [show 6 - (x.length - 1) = kin by lia] at this
    by_cases h2 : 2 ≤ x.length
    · have := cnt_le h2
      exact hk7 (by lia)
    · have hx1 : x.length = 1 := by lia
      rw [hx1] at hx
      have hxx : x = [34] ∨ x = [60] ∨ x = [62] := by
        simp only [List.mem_cons, List.not_mem_nil, or_false] at hl
        rcases hl with rfl | rfl | rfl | rfl <;> rw [← hx] <;> decide
      rcases hxx with rfl | rfl | rfl
      · exact hk7 (by have : cnt [1, 2, 0, 7] [34] = 1 := by decide
                      simp only [List.length_cons, List.length_nil] at *; lia)
      · have hc : cnt [1, 2, 0, 7] [60] = 2 := by decide
        have hkk : kin = 6 ∨ kin = 7 := by simp only [List.length_cons, List.length_nil] at *; lia
        rcases hkk with rfl | rfl
        · exact hk7 rfl
        · exact kq
      · exact hk7 (by have : cnt [1, 2, 0, 7] [62] = 1 := by decide
                      simp only [List.length_cons, List.length_nil] at *; lia)
structure LawW (W : List (List Nat)) : Prop where
  short : ∀ x ∈ W, x.length ≤ 6
  over : ∀ x ∈ W, ∀ c ∈ x, c = 34 ∨ c = 60 ∨ c = 62
  len : W.length ≤ 10
  len2 : 2 ≤ W.length
  nodup : W.Nodup
  root : [] ∈ W
  ok : ∀ x ∈ W, OkT (placeI x x.length + stepI x.length) x.length (W.filter (pre x)).length
  c1 : CoatW W [34] [34, 62, 60]
  c2 : CoatW W [] [62, 60, 34]
  c3 : CoatW W [60] [62, 34, 60]
  c4 : CoatW W [62] [60, 34, 62]
  ord : Ord (fun i j => flt (tHue W (W.getD i [])) (tHue W (W.getD j []))) W.length
  midIs : ∀ W' : List (List Nat), W'.Perm W → W'.Pairwise (fun a b => flt (tHue W a) (tHue W b) = true) → W' = mid 7 W []
theorem grown_ok (sc : List Int) : LawW (grown sc) := by
  have G := grown_grow sc
  have hs := grown_short sc
  obtain ⟨l2, l10⟩ := grown_len sc
  generalize grown sc = W at *
  have T := G.tree
  have hB : Bounded W 7 := fun y hy => Nat.lt_succ_of_le (hs y hy)
  have hs7 : ∀ x ∈ W, x.length ≤ 7 := fun x hx => Nat.le_succ_of_le (hs x hx)
  have hc : ∀ x ∈ W, ChkOK (gA x 7) x.length (kinN W x) := fun x hx => chkK_ok (chk_all (T.over x hx) (kin_pos hx) (hs x hx) (G.bnd x hx))
  have hp : ∀ x ∈ W, placeI x x.length + stepI x.length = (gA x 7 : Int) := fun x hx => place_gA x (hs7 x hx)
  have hok : ∀ x ∈ W, OkT (placeI x x.length + stepI x.length) x.length (W.filter (pre x)).length := fun x hx => by rw [hp x hx]; exact (hc x hx).ok
  have hnum : ∀ x ∈ W, tNum W x = (x.length : Int) + 1 - (kinN W x : Nat) := fun x hx => by
    show tN (placeI x x.length + stepI x.length) x.length (W.filter (pre x)).length = _
    rw [hp x hx]; exact (hc x hx).num
  have hhue : ∀ x ∈ W, hueB (tHue W x) (gA x 7) = true := fun x hx => by
    show hueB (tH (placeI x x.length + stepI x.length) x.length (W.filter (pre x)).length).1 _ = true
    rw [hp x hx]; exact (hc x hx).hue
  have hlt : ∀ x ∈ W, ∀ y ∈ W, flt (tHue W x) (tHue W y) = true → gA x 7 < gA y 7 := by
    intro x hx y hy h
    rcases Nat.lt_trichotomy (gA x 7) (gA y 7) with q | q | q
    · exact q
    · exfalso
      by_cases e : x = y
      · subst e
        rw [hue_irr (hhue x hx)] at h; cases h
      · exact gA_ne (hs7 x hx) (hs7 y hy) (T.over x hx) (T.over y hy) e q
    · rw [(hue_lt (hhue y hy) (hhue x hx) q).2] at h; cases h
  have hgt : ∀ x ∈ W, ∀ y ∈ W, gA x 7 < gA y 7 → flt (tHue W x) (tHue W y) = true := fun x hx y hy q => (hue_lt (hhue x hx) (hhue y hy) q).1
  have hat : ∀ i, i < W.length → W.getD i [] ∈ W := fun i hi => by
    rw [List.getD_eq_getElem?_getD, List.getElem?_eq_getElem hi]; exact List.getElem_mem hi
  have hmall : ∀ y, y ∈ mid 7 W [] ↔ y ∈ W := fun y => ⟨fun h => (mid_sub 7 W [] y h).2, fun h => mid_all T 7 [] y h hB⟩
  have hmp := mid_pair hs7 7 []
  have hmn : (mid 7 W []).Nodup := by
    refine List.Pairwise.imp (fun {a b} hab e => ?_) hmp
    subst e; exact Nat.lt_irrefl _ hab
  have hmperm : (mid 7 W []).Perm W := (List.perm_ext_iff_of_nodup hmn T.nodup).mpr hmall
  refine ⟨hs, T.over, l10, l2, T.nodup, T.root, hok, coatW T hB hnum coat1, coatW T hB hnum coat2, coatW T hB hnum coat3, coatW T hB hnum coat4, ⟨?_, ?_⟩, ?_⟩
  · intro i j k hi hj hk h1 h2
    exact hgt _ (hat i hi) _ (hat k hk) (Nat.lt_trans (hlt _ (hat i hi) _ (hat j hj) h1) (hlt _ (hat j hj) _ (hat k hk) h2))
  · intro i j hi hj hij h
    have hne := nodup_getD T.nodup [] hi hj hij
    have hg := gA_ne (hs7 _ (hat i hi)) (hs7 _ (hat j hj)) (T.over _ (hat i hi)) (T.over _ (hat j hj)) hne
    refine hgt _ (hat j hj) _ (hat i hi) ?_
    rcases Nat.lt_trichotomy (gA (W.getD i []) 7) (gA (W.getD j []) 7) with q | q | q
    · have h' : flt (tHue W (W.getD i [])) (tHue W (W.getD j [])) = false := h
      rw [hgt _ (hat i hi) _ (hat j hj) q] at h'; cases h'
    · exact absurd q hg
    · exact q
  · intro W' hp' hs'
    have h1 : W'.Pairwise fun a b => gA a 7 < gA b 7 := hs'.imp_of_mem fun {a b} ha hb h => hlt a (hp'.mem_iff.mp ha) b (hp'.mem_iff.mp hb) h
    exact List.Perm.eq_of_pairwise (fun a b _ _ q1 q2 => absurd q1 (Nat.lt_asymm q2)) h1 hmp (hp'.trans hmperm.symm)
theorem sg1 : Str.ofString "\"><" = S [34, 62, 60] := by decide +kernel
theorem sg2 : Str.ofString "><\"" = S [62, 60, 34] := by decide +kernel
theorem sg3 : Str.ofString ">\"<" = S [62, 34, 60] := by decide +kernel
theorem sg4 : Str.ofString "<\">" = S [60, 34, 62] := by decide +kernel
theorem map_split {m : Str → Option Value} {x : Str} {v : Value} (h : m x = some v) : m = fun y => if y = x then some v else m y := by
  funext y
  by_cases e : y = x
  · subst e; simp [h]
  · simp [e]
theorem wr_len6 {bare x : List Nat} (h : x.length ≤ 6) : (wr bare x).length ≤ 36 := by
  have : ∀ l : List Nat, (wr bare l).length ≤ 6 * l.length := by
    intro l
    induction l with
    | nil => exact Nat.le_refl 0
    | cons c l ih =>
      have := wr_len bare c
      rw [show wr bare (c :: l) = wrOne bare c ++ wr bare l from rfl, List.length_append, List.length_cons]; omega
  have := this x
  omega
theorem dbl_len (y : List Nat) : (rep 34 [34, 34] y).length ≤ 2 * y.length := rep_length_le 34 _ (by decide) (by decide) y
theorem small_wr {V : List (List Nat)} {bare : List Nat} (h : ∀ x ∈ V, ∀ c ∈ x, c = 34 ∨ c = 60 ∨ c = 62) : Small (V.map (wr bare)) := by
  intro y hy c hc
  obtain ⟨x, hx, rfl⟩ := List.mem_map.mp hy
  obtain ⟨d, hd, hcd⟩ := List.mem_flatMap.mp hc
  have := h x hx d hd
  unfold wrOne at hcd
  split at hcd
  · simp at hcd; omega
  · split at hcd
    · simp at hcd; omega
    · split at hcd <;> simp at hcd <;> omega
theorem map_split3 {m : Str → Option Value} {x y z : Str} {a b c : Value} (h1 : m x = some a) (h2 : m y = some b) (h3 : m z = some c) : m = fun k => if k = x then some a else if k = y then some b else if k = z then some c else m k := by
  funext k
  by_cases e1 : k = x
  · subst e1; simp [h1]
  · by_cases e2 : k = y
    · subst e2; simp [e1, h2]
    · by_cases e3 : k = z
      · subst e3; simp [e1, e2, h3]
      · simp [e1, e2, e3]
theorem fr_under {g h : Heap} {L : Addr} {x : Str} {v : Option Value} {m₂ m₃ : Str → Option Value} (e : m₂ = m₃) (F : Fr g L h (fun y => if y = x then v else m₂ y)) : Fr g L h (fun y => if y = x then v else m₃ y) := e ▸ F
theorem strs_get1 {vs : List Value} {V : List (List Nat)} (h : StrsAre vs (V.map S)) {i : Nat} {x : List Nat} (e : V[i]? = some x) : ∃ t, vs[i]? = some (.str (S x) t) := by
  have hi : i < V.length := (List.getElem?_eq_some_iff.mp e).1
  have hv : i < vs.length := by rw [strs_len h]; exact hi
  obtain ⟨y, t, hy, ev⟩ := strs_getS h (v := vs[i]) (List.getElem?_eq_getElem hv)
  rw [e] at hy; cases hy
  exact ⟨t, by rw [List.getElem?_eq_getElem hv, ev]⟩
theorem told_at {W : List (List Nat)} {kvs : List (Str × Value)} {tups : List (Addr × Obj)} (h : ToldIn W kvs tups W.length) {x : List Nat} (hx : x ∈ W) :
    ∃ p o t1 t2 n, valueAt kvs (S x) = some (.ref p) ∧ (p, o) ∈ tups ∧ o.cls = .type "tuple" ∧ o.data = .seq #[.float (tHue W x) t1, .int (tNum W x) t2] n := by
  obtain ⟨j, hj, e⟩ := List.getElem_of_mem hx
  obtain ⟨p, o, t1, t2, a, b, c, n, d⟩ := h j hj
  have : W.getD j [] = x := by rw [List.getD_eq_getElem?_getD, List.getElem?_eq_getElem hj]; exact e
  rw [this] at a d
  exact ⟨p, o, t1, t2, n, a, b, c, d⟩
noncomputable abbrev lawM1 (b : Str → Option Value) (sv : Option Value) : Str → Option Value := fun y => if y = Str.ofString "word" then sv else b y
theorem word_start (b : Str → Option Value) : b = lawM1 b (b (Str.ofString "word")) := by
  funext y
  by_cases h : y = Str.ofString "word"
  · subst h; simp [lawM1]
  · simp [lawM1, h]
theorem word_in (b : Str → Option Value) (sv v : Option Value) : (fun y => if y = Str.ofString "word" then v else lawM1 b sv y) = lawM1 b v := by
  funext y
  by_cases h : y = Str.ofString "word"
  · simp [lawM1, h]
  · simp [lawM1, h]
theorem topRead_view {ls : List Str} {mg mb : Str → Option Value} {h : Heap} (T : TopRead topProg ls mg mb h) : TopRead theView ls mg mb h :=
  ⟨T.g, T.b, T.nolimit, T.builtins, fun x h1 h2 _ _ _ => T.free x h1 h2 (by rw [show recsOf topProg = [] by rfl]; exact List.not_mem_nil) (by rw [show litsOf topProg = [] by rfl]; exact List.not_mem_nil) (by rw [show clssOf topProg ls = [] by rfl]; exact List.not_mem_nil)⟩
noncomputable def FinOK (g : Heap) (L : Addr) (s1 : Shared) (fl : Flow) (s' : Shared) : Prop := fl = .ret (.bool true) ∧ ∃ h' tk' m ps, s' = { s1 with heap := h', toks := tk' } ∧ Fr g L h' m ∧ h'.get? 213 = some (tabObj ps)
noncomputable def TellJ (w : World) (L : Addr) (W : List (List Nat)) (d D : Addr) (bm : Str → Option Value) (o3' o2 o1 : Obj) (i : Nat) (m' : Str → Option Value) (news : List (Addr × Obj)) : Prop :=
  ∃ od' kvs tups sv, m' = lawM1 (fun y => if y = Str.ofString "words" then some (.ref D) else bm y) sv ∧ news = (d, od') :: (L + 1 + 1 + 1, o3') :: (L + 1 + 1, o2) :: (L + 1, o1) :: (213, tabObj #[]) :: tups ∧ od'.IsDictOf (PySem.strKind PySem.Challenge.rw_wu0072_01.row.prog w) kvs ∧ kvs.length ≤ i ∧ (∀ p ∈ tups, p.1 ≠ d) ∧ (∀ p ∈ tups, p.1 ≠ L + 1 + 1 + 1) ∧ (∀ p ∈ tups, p.1 ≠ L + 1 + 1) ∧ (∀ p ∈ tups, p.1 ≠ L + 1) ∧ (∀ p ∈ tups, p.1 ≠ 213) ∧ ToldIn W kvs tups i
noncomputable def CoatJ (L D d : Addr) (oD od' o3' : Obj) (ps : Array Value) (tl : List (Addr × Obj)) (i : Nat) (m' : Str → Option Value) (news : List (Addr × Obj)) : Prop :=
  ∃ oe ob ve vb, m' (Str.ofString "words") = some (.ref D) ∧ news = (D, oD) :: (d, od') :: (L + 1 + 1 + 1, o3') :: (L + 1 + 1, ob) :: (L + 1, oe) :: (213, tabObj ps) :: tl ∧ oe.data = .cell ve ∧ ob.data = .cell vb
noncomputable def InJ (D7 Dr Dd D : Addr) (NL : List (Addr × Obj)) (i : Nat) (m' : Str → Option Value) (news : List (Addr × Obj)) : Prop :=
  m' (Str.ofString "names") = some (.ref D7) ∧ m' (Str.ofString "row") = some (.ref Dr) ∧ m' (Str.ofString "due") = some (.ref Dd) ∧ m' (Str.ofString "words") = some (.ref D) ∧ news = NL
noncomputable def CompJ (f : List Nat → List Nat) (V : List (List Nat)) (i : Nat) (ys : List Value) (els : List (Addr × Obj)) : Prop := els = [] ∧ StrsAre ys (((V.take i).map f).map S)
noncomputable def NameJ (bare : List Nat) (W : List (List Nat)) (i : Nat) (ys : List Value) (els : List (Addr × Obj)) : Prop := ∃ qs : List (Addr × List Nat), ys = qs.map (fun x => Value.ref x.1) ∧ qs.map (·.2) = (W.take i).map (nm bare) ∧ ∀ x ∈ qs, QIn els x
local macro_rules | `(tactic| walk_at "m_calm") => `(tactic| first | assumption | exact rfl | (show Around.handled _ = _; assumption))
local macro_rules | `(tactic| walk_at "call ref") => `(tactic| (
  (with_reducible show wpAny _ _ (PySem.call (Value.ref 187) [Value.ref _] _) _ _ _)
  k_dflt (
  (refine' CallOKP.useF ?F ?N (grn_spec ?X ?T ?r ?h ?l ?I ?n) ?_)
  (case F => k_asm); (case N => k_asm); (case X => k_in); (case T => walk_at "m_top"); (case r => walk_at "m_room"); (case h => walk_at "m_calm")
  (case l => exact baseList (by assumption) (by assumption)); (case I => assumption); (case n => assumption)
  intro v9 h9 k9 F9 N9 S9 hk9 hp9
  (have hq9 := NewTexts.news hp9 (by assumption) (by assumption) N9)
  clear S9 hp9 N9
  obtain ⟨D9, vs9, d9, n9, sl9, e9, hne9, hS9, N9⟩ := hq9
  subst e9
  (have hB9 := apartAll hne9)
  (try simp only [ApartAll, and_true] at hB9)
  (try k_sweep))))
local macro_rules | `(tactic| k_all) => `(tactic| assumption)
local macro_rules | `(tactic| walk_at "callWith ref") => `(tactic| (k_dflt (refine' callWith_K ?k1 ?k2 ?_; (case k1 => with_reducible assumption); (case k2 => with_reducible assumption))))
local macro_rules | `(tactic| walk_at "call builtin:str.replace") => `(tactic| (k_dflt ((refine' s_dbl ?hu ?h0 ?hy ?_); (case hu => walk_at "m_pos"); (case h0 => walk_at "m_pos"); (case hy => omega); intro t9 k9 hk9)))
local macro_rules | `(tactic| walk_at "m_charS") => `(tactic| first | with_reducible rfl | exact csor | exact cscx)
local macro_rules | `(tactic| walk_at "binaryOp Add str str") => `(tactic| ((with_reducible show wpAny _ _ (binaryOp _ (Value.str (Str.ofString _) _) (Value.str (S _) _)) _ _ _); k_dflt ((refine' s_addL ?ha ?h0 ?hz ?_); (case ha => first | exact cs257 | exact csob); (case h0 => walk_at "m_pos"); (case hz => walk_at "m_smallS"); intro t9 k9 hk9)))
theorem law_holds : PySem.Challenge.rw_wu0072_01.Holds := hd (by
  k_go0
  rename_i w s0 s1 mg mb G Y fa o pm doc ho hg X V T B TE TW hcd sc hs hlay hL1 hr1 hl2 as1 as2 l vs as3 hL2 ra w1 r0 hI hr2 hq hq2 hD h1 tk1 o3 o2 o1 dd3 dd2 dd1 X0 XK TT KB FF NN l0
  have T0 := topRead_view (topRead_of TT)
  have hn63 := Int.ofNat_le.mp (Int.not_lt.mp hq)
  have hc0 : callerA.depth + 50 < recursionLimit := by decide
  have hgens : s1.gens = #[] := by assumption
  clear G Y ho hg X V T B TE TW hcd hs hlay hL1 hr1 hl2 hL2 ra w1 r0 hr2 hq hq2 hD
  refine wpAny_mono (Q := FinOK (ghostOf s1.heap [(215, 213)]) s1.heap.objs.size s1) (E := fun _ _ => False) ?_ (fun fl s' hfin => ?_) (fun _ _ e => e.elim)
  rotate_left
  · obtain ⟨rfl, h', tk', m', ps, rfl, F2, hP⟩ := hfin
    refine ⟨?_, ⟨ps, hP⟩, trivial⟩
    kc_close
  repeat' ((fail_if_success (with_reducible show wpAny _ _ (exec (Stmt.For _ _ _ _ _) _) _ _ _)); walk1)
  rename_i h9 k9 hk9 D v9 d9 n9 sl9 hne9 hS hB9 h_a tq htq d h_b od lo hs fs hi fi hl1 hh o3' F1 N1 dd3'
  clear fs hi fi dd3
  generalize bindL _ _ _ = bm at F1
  generalize hW : grown sc = W at hS
  have hWok : LawW W := hW ▸ grown_ok sc
  refine wpAny_For ?_
  walk1
  have hN1 : News (ghostOf s1.heap [(215, 213)]) s1.heap.objs.size hh ((D, (⟨.type "list", d9, .seq v9.toArray n9, sl9⟩ : Obj)) :: [(d, od), (s1.heap.objs.size + 1 + 1 + 1, o3'), (s1.heap.objs.size + 1 + 1, o2), (s1.heap.objs.size + 1, o1), (213, tabObj #[])]) :=
    news_sub N1 (List.forall_mem_cons.mpr ⟨by k_mem, List.forall_mem_cons.mpr ⟨by k_mem, List.forall_mem_cons.mpr ⟨by k_mem, List.forall_mem_cons.mpr ⟨by k_mem, List.forall_mem_cons.mpr ⟨by k_mem, List.forall_mem_cons.mpr ⟨by k_mem, List.forall_mem_nil _⟩⟩⟩⟩⟩⟩)
  refine' for_lst ?hA ?hT ?hl ?hd ?F ?N ?h0 (TellJ w s1.heap.objs.size W d D bm o3' o2 o1) ?j0 ?turn ?done
  case N => exact hN1
  case hA => exact rfl
  case hT => exact .inl ⟨_, _, rfl⟩
  case hl => exact rfl
  case hd => exact ⟨_, rfl⟩
  case F => exact fr_cast (word_start _) F1
  case h0 => exact htq
  case j0 => exact ⟨od, [], [], _, rfl, rfl, hs, Nat.le_refl _, (fun _ h => nomatch h), (fun _ h => nomatch h), (fun _ h => nomatch h), (fun _ h => nomatch h), (fun _ h => nomatch h), fun j hj => absurd hj (Nat.not_lt_zero _)⟩
  case turn =>
    rintro i v m₁ news₁ I o h tk hi' ⟨od', kvs, tups, sv, rfl, rfl, hd', hkl, htd, ht3, ht2, ht1, ht0, hT⟩ hne hID htk F2 N2
    obtain ⟨x, tx, hx, rfl⟩ := strs_getS hS hi'
    repeat' ((fail_if_success (with_reducible show wpAny _ _ (PySem.call _ _) _ _ _)); walk1)
    (with_reducible rename Fr _ _ _ _ => F3)
    (with_reducible rename News _ _ _ _ => N3)
    have hxW : x ∈ W := List.mem_of_getElem? hx
    have hx6 := hWok.short x hxW
    refine CallOK.useF F3 N3 (tld_spec (XK.keeps F3.keep) (TopRead.keeps T0 F3.keep) (by walk_at "m_room") rfl (by walk_at "m_pos") (Nat.le_succ_of_le hx6) (hWok.over x hxW) (Nat.le_trans hWok.len (by decide)) (fun y hy => Nat.lt_of_le_of_lt (hWok.short y hy) (by decide)) ⟨v9, newsList N3 (by k_mem), hS⟩ (hWok.ok x hxW)) (by walk_at "m_pos") ?_
    clear F2 N2
    rintro v h4 tk4 F4 N4 _ htk4 ⟨p, t1, t2, rfl, hp0, op, hop, hopc, nop, hopd⟩
    obtain ⟨N5, hap5⟩ := newObj F3 N3 hp0 hop N4
    clear F3 N3 N4
    repeat' ((fail_if_success (with_reducible show wpAny _ _ (setItem _ _ _) _ _ _)); walk1)
    obtain ⟨l1, l2, l3, l4, l5⟩ := hl1
    have hdp : p ≠ d := fun e => hap5 (d, od') (by k_mem) e.symm
    have hdI : I ≠ d := fun e => hne (d, od') (by k_mem) e.symm
    refine d_set (od := od') (d := d) (kvs := kvs) (news := (p, op) :: (I, o) :: (D, (⟨.type "list", d9, .seq v9.toArray n9, sl9⟩ : Obj)) :: (s1.heap.objs.size + 1 + 1 + 1, o3') :: (s1.heap.objs.size + 1 + 1, o2) :: (s1.heap.objs.size + 1, o1) :: (213, tabObj #[]) :: tups) F4 (news_sub N5 ?_) ?_ hd' ?_ ?_
    · rintro q hq
      rcases List.mem_cons.mp hq with rfl | hq
      · k_mem
      rcases List.mem_cons.mp hq with rfl | hq
      · k_mem
      rcases List.mem_cons.mp hq with rfl | hq
      · k_mem
      rcases List.mem_cons.mp hq with rfl | hq
      · k_mem
      exact List.Mem.tail _ (List.Mem.tail _ (List.Mem.tail _ (List.Mem.tail _ hq)))
    · exact List.forall_mem_cons.mpr ⟨hdp, List.forall_mem_cons.mpr ⟨hdI, List.forall_mem_cons.mpr ⟨Nat.ne_of_lt l1, List.forall_mem_cons.mpr ⟨Nat.ne_of_lt l2, List.forall_mem_cons.mpr ⟨Nat.ne_of_lt l3, List.forall_mem_cons.mpr ⟨Nat.ne_of_lt l4, List.forall_mem_cons.mpr ⟨Nat.ne_of_lt l5, htd⟩⟩⟩⟩⟩⟩⟩
    · have : v9.length = W.length := strs_len hS
      have := hWok.len
      have := List.getElem?_eq_some_iff.mp hi'
      obtain ⟨hh, _⟩ := this
      omega
    intro od2 h5 hd5 F5 N6
    clear F4 N5
    repeat' walk1
    refine ⟨rfl, h5, _, _, _, rfl, fr_cast (word_in _ _ _) F5, news_sub N6 ?_, ?_, od2, _, (p, op) :: tups, _, rfl, rfl, hd5, ?_, ?_, ?_, ?_, ?_, ?_, hT.next hWok.nodup hx hopc hopd⟩
    · rintro q hq
      rcases List.mem_cons.mp hq with rfl | hq
      · k_mem
      rcases List.mem_cons.mp hq with rfl | hq
      · k_mem
      rcases List.mem_cons.mp hq with rfl | hq
      · k_mem
      rcases List.mem_cons.mp hq with rfl | hq
      · k_mem
      rcases List.mem_cons.mp hq with rfl | hq
      · k_mem
      rcases List.mem_cons.mp hq with rfl | hq
      · k_mem
      rcases List.mem_cons.mp hq with rfl | hq
      · k_mem
      rcases List.mem_cons.mp hq with rfl | hq
      · k_mem
      exact List.Mem.tail _ (List.Mem.tail _ (List.Mem.tail _ (List.Mem.tail _ (List.Mem.tail _ (List.Mem.tail _ (List.Mem.tail _ (List.Mem.tail _ hq)))))))
    · have hnd := List.forall_mem_cons.mp hne
      have h2 := List.forall_mem_cons.mp hnd.2
      have h3 := List.forall_mem_cons.mp h2.2
      have h4 := List.forall_mem_cons.mp h3.2
      have h5 := List.forall_mem_cons.mp h4.2
      exact List.forall_mem_cons.mpr ⟨hnd.1, List.forall_mem_cons.mpr ⟨h2.1, List.forall_mem_cons.mpr ⟨h3.1, List.forall_mem_cons.mpr ⟨h4.1, List.forall_mem_cons.mpr ⟨h5.1, List.forall_mem_cons.mpr ⟨fun e => hap5 (I, o) (by k_mem) e.symm, h5.2⟩⟩⟩⟩⟩⟩
    · exact Nat.le_trans (stored_length_le _ _ _) (Nat.succ_le_succ hkl)
    · exact List.forall_mem_cons.mpr ⟨hdp, htd⟩
    · exact List.forall_mem_cons.mpr ⟨fun e => hap5 (s1.heap.objs.size + 1 + 1 + 1, o3') (by k_mem) e.symm, ht3⟩
    · exact List.forall_mem_cons.mpr ⟨fun e => hap5 (s1.heap.objs.size + 1 + 1, o2) (by k_mem) e.symm, ht2⟩
    · exact List.forall_mem_cons.mpr ⟨fun e => hap5 (s1.heap.objs.size + 1, o1) (by k_mem) e.symm, ht1⟩
    · exact List.forall_mem_cons.mpr ⟨fun e => hap5 (213, tabObj #[]) (by k_mem) e.symm, ht0⟩
  case done =>
    rintro m' news' h2 tk2 ⟨od', kvs, tups, sv, rfl, rfl, hd', hkl, htd, ht3, ht2, ht1, ht0, hT⟩ htk2 F2 N2
    rw [show v9.length = W.length from strs_len hS] at hkl hT
    replace F2 : Fr _ s1.heap.objs.size h2 _ := F2
    replace N2 : News _ s1.heap.objs.size h2 _ := N2
    clear F1 N1 hN1
    repeat' ((fail_if_success (with_reducible show wpAny _ _ (eval (Expr.Lambda _ _ _ _) _) _ _ _)); walk1)
    refine wpAny_with_toks (n := 1) htk2 ?_
    refine' kla_eval ?d0 ?_
    case d0 => exact rfl
    refine' kla_nest F2 N2 TT codeHd ?cd ?U ?t ?n ?cl ?_
    case cd => exact rfl
    case U => k_updF
    case t => kn_triples
    case n => kn_among
    case cl => exact rfl
    rintro f c' oc vs' t ct h3 tk3 F3 N3 d1' d2' l1 l2 htk3
    (try dsimp only at N3)
    clear F2 N2
    generalize hps : (#[] ++ #[rawInt 212, rawInt 25, Value.ref c'] : Array Value) = ps at N3
    repeat' ((fail_if_success (with_reducible show wpAny _ _ (PySem.call _ _ _) _ _ _)); walk1)
    ksk_kw
    ksk_show
    refine' srt_key (key := tHue W) F3 N3 htk3 ?l hS hWok.len2 ?l64 ?a1 ?a2 ?a3 ?hf hWok.ord ?_
    case l => exact newsList N3 (by k_mem)
    case l64 => exact Nat.lt_of_le_of_lt hWok.len (by decide)
    case a1 => ksk_a1
    case a2 => intro _; ksk_a2
    case a3 => intro _; ksk_a3
    case hf =>
      intro x hx t' s' F' N' h0'
      obtain ⟨p, op, t1, t2, n, hv, hm, hc, hdt⟩ := told_at hT hx
      exact key_spec (TopRead.keeps T0 F'.keep).nolimit (by walk_at "m_room") rfl h0' (N'.get (by k_mem)) (codeRec_news N' (by k_mem) d1' d2') ⟨o3', N'.get (by k_mem), dd3'⟩ (Heap.dictOf_iff.mpr ⟨od', N'.get (by k_mem), hd'⟩) hv ⟨op, N'.get (List.mem_append_right [_, _, _, _, _, _, _, _] hm), hc, n, hdt⟩
    intro D2 c2 h4 tk4 vs4 W4 htk4 F4 N4 hap4 hp4 hs4 hS4
    have hW4 := hWok.midIs W4 hp4 hs4
    subst hW4
    have N5 : News (ghostOf s1.heap [(215, 213)]) s1.heap.objs.size h4 ((D2, PySem.W.listOf vs4.toArray c2) :: (D, (⟨.type "list", d9, .seq v9.toArray n9, sl9⟩ : Obj)) :: (d, od') :: (s1.heap.objs.size + 1 + 1 + 1, o3') :: (s1.heap.objs.size + 1 + 1, o2) :: (s1.heap.objs.size + 1, o1) :: (213, tabObj ps) :: tups) := by
      refine news_sub N4 fun q hq => ?_
      rcases List.mem_cons.mp hq with rfl | hq
      · exact List.Mem.head _
      · exact List.Mem.tail _ (List.Mem.tail _ (List.Mem.tail _ hq))
    clear N3 F3 N4 hap4 d1' d2' hs4 l2 htk3
    have hbW : Bounded W 7 := fun y hy => Nat.lt_succ_of_le (hWok.short y hy)
    repeat' ((fail_if_success (with_reducible show wpAny _ _ (PySem.call _ _) _ _ _)); walk1)
    refine CallOK.useF F4 N5 (mid_top (XK.keeps F4.keep) (TopRead.keeps T0 F4.keep) (by walk_at "m_room") rfl (by walk_at "m_pos") (newsList N5 (by k_mem)) hS hbW) (by walk_at "m_pos") ?_
    intro v6 h6 tk6 F6 N6 _ htk6 hp6
    obtain ⟨M, vs6, d6, n6, sl6, rfl, hne6, hS6, N7⟩ := NewTexts.news hp6 F4 N5 N6
    clear F4 N5 N6 hp6
    repeat' ((fail_if_success (with_reducible show wpAny _ _ (compareOp _ _ _) _ _ _)); walk1)
    have hsW : Small W := fun y hy c hc => by rcases hWok.over y hy c hc with rfl | rfl | rfl <;> decide
    refine ne_same (newsList N7 (by k_mem)) hS4 (newsList N7 (by k_mem)) hS6 rfl (fun y hy => hsW y (hp4.mem_iff.mp hy)) (by first | units_room | decide) ?_
    clear hS4 hS6 hp4
    have N8 : News (ghostOf s1.heap [(215, 213)]) s1.heap.objs.size h6 ((D, (⟨.type "list", d9, .seq v9.toArray n9, sl9⟩ : Obj)) :: (d, od') :: (s1.heap.objs.size + 1 + 1 + 1, o3') :: (s1.heap.objs.size + 1 + 1, o2) :: (s1.heap.objs.size + 1, o1) :: (213, tabObj ps) :: tups) :=
      news_sub N7 fun q hq => List.Mem.tail _ (List.Mem.tail _ hq)
    clear N7 hne6
    repeat' ((fail_if_success (with_reducible show wpAny _ _ (exec (Stmt.For _ _ _ _ _) _) _ _ _)); walk1)
    rename_i T1 _ a1 T2 _ a2 T3 _ a3 T4 _ a4 lc _ a5 h8 F8 N9 tk8 htk8
    simp only [chS_qu, chS_lt, chS_gt, sg1, sg2, sg3, sg4, chS_nil] at N9
    obtain ⟨a10, a11, a12, a13, a14, a15, a16⟩ := a1
    obtain ⟨a20, a21, a22, a23, a24, a25, a26, a27⟩ := a2
    obtain ⟨a30, a31, a32, a33, a34, a35, a36, a37, a38⟩ := a3
    obtain ⟨a40, a41, a42, a43, a44, a45, a46, a47, a48, a49⟩ := a4
    obtain ⟨a50, a51, a52, a53, a54, a55, a56, a57, a58, a59, a5a⟩ := a5
    obtain ⟨tl, N10, hsub, hco, tl1, tl2⟩ := coats_pack (W := W) (b1 := s1.heap.objs.size + 1) (b2 := s1.heap.objs.size + 1 + 1) N9 hWok.c1 hWok.c2 hWok.c3 hWok.c4 ⟨Nat.ne_of_gt a14, Nat.ne_of_gt a25, Nat.ne_of_gt a36, Nat.ne_of_gt a47, ht1⟩ ⟨Nat.ne_of_gt a13, Nat.ne_of_gt a24, Nat.ne_of_gt a35, Nat.ne_of_gt a46, ht2⟩
    clear N9 a10 a11 a12 a13 a14 a15 a16 a20 a21 a22 a23 a24 a25 a26 a27 a30 a31 a32 a33 a34 a35 a36 a37 a38 a40 a41 a42 a43 a44 a45 a46 a47 a48 a49 a50 a51 a52 a53 a5a htd ht3 ht2 ht1 ht0
    replace hT : ToldIn W kvs tl W.length := fun j hj => by
      obtain ⟨p, o, t1, t2, a, b, c⟩ := hT j hj
      exact ⟨p, o, t1, t2, a, hsub _ b, c⟩
    refine wpAny_For ?_
    walk1
    refine' for_lst ?hA ?hTt ?hl ?hd ?F ?N ?h0 (CoatJ s1.heap.objs.size D d ⟨.type "list", d9, .seq v9.toArray n9, sl9⟩ od' o3' ps tl) ?j0 ?turn ?done
    case N => exact N10
    case hA => exact rfl
    case hd => exact ⟨_, rfl⟩
    case hTt => exact .inr ⟨_, _, _, rfl, hall4⟩
    case hl => exact rfl
    case F => exact F8
    case h0 => exact htk8
    case j0 => exact ⟨_, _, _, _, rfl, rfl, dd1, dd2⟩
    case turn =>
      rintro i v m₁ news₁ I o h tk hi' ⟨oe, ob, ve, vb, hm, rfl, hoe, hob⟩ hne hID htk F2 N2
      obtain ⟨T, oT, fe, bare, sg, tb, ts, n, rfl, hmT, hcT, hdT, hE, hKp, hC⟩ := hco i v hi'
      have hKw := hKp w
      replace F2 : Fr _ s1.heap.objs.size h _ := fr_cast (map_split hm) F2
      replace N2 : News _ s1.heap.objs.size h _ := N2
      clear hm N10 F8 hi'
      have hI1 : @Ne Nat (s1.heap.objs.size + 1) I := hne (_, oe) (by k_mem)
      have hI2 : @Ne Nat (s1.heap.objs.size + 1 + 1) I := hne (_, ob) (by k_mem)
      have hTt : IsTup h T #[.ref fe, .str (S bare) tb, .str (S sg) ts] := ⟨oT, N2.get (List.mem_append_right [_, _, _, _, _, _, _, _] hmT), hcT, n, hdT⟩
      repeat' ((fail_if_success (with_reducible show wpAny _ _ (exec (Stmt.Assign _ (Expr.ListComp _ _ _ _) _) _) _ _ _)); walk1)
      rename_i _ _ oe' de' _ ob' db' hA FA NA tkA htkA
      clear hTt hoe hob
      have XA := XK.keeps FA.keep
      have TA := TopRead.keeps T0 FA.keep
      have CeA : hA.IsCell (s1.heap.objs.size + 1) (some (.ref fe)) := ⟨oe', NA.get (by k_mem), de'⟩
      have CbA : hA.IsCell (s1.heap.objs.size + 1 + 1) (some (.str (S bare) tb)) := ⟨ob', NA.get (by k_mem), db'⟩
      have hWl : W.length ≤ 100000 := Nat.le_trans hWok.len (by decide)
      refine comp_assign (cl := [(Str.ofString "escape", s1.heap.objs.size + 1)]) (by rfl) (by with_unfolding_all rfl) rfl (by decide) ?_
      walk1
      refine comp_lstA rfl FA NA (by walk_at "m_pos") (newsList NA (by k_mem)) (by decide) rfl rfl rfl rfl (by rw [strs_len hS]; exact hWl)
        (CompJ (wr bare) W) ⟨rfl, .nil⟩ ?_ ?_
      · rintro j v ys els J Dj io ao hB tkB C m₀ hj ⟨rfl, hys⟩ htkB FB NB
        obtain ⟨x, u, hx, rfl⟩ := strs_getS hS hj
        have hxW : x ∈ W := List.mem_of_getElem? hx
        have CeB := cell_keep CeA FB
        refine wpAny_pure ?_
        show wpAny _ _ _ _ _ _
        repeat' ((fail_if_success (with_reducible show wpAny _ _ (PySem.call _ _) _ _ _)); walk1)
        refine CallOK.useF FB NB (hE (XA.keeps FB.keep) (TopRead.keeps TA FB.keep) (by walk_at "m_room") rfl (by walk_at "m_pos") (Nat.le_trans (hWok.short x hxW) (by decide)) (hWok.over x hxW)) (by walk_at "m_pos") ?_
        rintro v' hC' tkC' FC' NC' _ htkC' ⟨t', rfl⟩
        refine ⟨_, _, _, [], rfl, FC', NC', (fun _ h => nomatch h), rfl, ?_⟩
        rw [List.take_add_one, hx, List.map_append]
        exact strs_app hys (strs_one _ _)
      · rintro D3 ys3 els k3 hB tkB ⟨rfl, hys3⟩ htkB _ FB NB hapB
        rw [show v9.length = W.length from strs_len hS, List.take_length] at hys3
        clear FA XA TA CeA CbA NA
        replace FB : Fr _ s1.heap.objs.size hB _ := FB
        replace NB : News _ s1.heap.objs.size hB ((D3, accOf ys3 k3) :: (I, o) :: (lc, _) :: (D, _) :: (d, _) :: (s1.heap.objs.size + 1 + 1 + 1, _) :: (s1.heap.objs.size + 1 + 1, _) :: (s1.heap.objs.size + 1, _) :: (213, _) :: tl) := NB
        show wpAny _ _ _ _ _ _
        repeat' ((fail_if_success (with_reducible show wpAny _ _ (eval (Expr.ListComp _ _ _ _) _) _ _ _)); walk1)
        refine comp_open (cl := []) (by with_unfolding_all rfl) rfl (by decide) ?_
        walk1
        have hl3 : ys3.length = W.length := by rw [strs_len hys3, List.length_map]
        refine comp_lst rfl FB NB (by walk_at "m_pos") (newsList NB (by k_mem)) (by decide) rfl rfl (by rw [hl3]; exact hWl)
          (CompJ (reply bare) W) ⟨rfl, .nil⟩ ?_ ?_
        · rintro j v ys els J Dj io ao hX tkC C m₀ hj ⟨rfl, hys⟩ htkC FC NC
          obtain ⟨y, u, hy, rfl⟩ := strs_getS hys3 hj
          obtain ⟨x, hx, rfl⟩ : ∃ x, W[j]? = some x ∧ wr bare x = y := by rw [List.getElem?_map] at hy; exact Option.map_eq_some_iff.mp hy
          have hxW : x ∈ W := List.mem_of_getElem? hx
          have hyl := wr_len6 (bare := bare) (hWok.short x hxW)
          have hyd := dbl_len (wr bare x)
          refine wpAny_pure ?_
          show wpAny _ _ _ _ _ _
          iterate 14 walk1
          (k_unfold; (try dsimp only))
          iterate 3 walk1
          try dsimp only
          refine ⟨_, _, _, [], rfl, FC, NC, (fun _ h => nomatch h), rfl, ?_⟩
          rw [List.take_add_one, hx, List.map_append]
          refine strs_app hys ?_
          show StrsAre [_] ([reply bare x].map S)
          rw [show reply bare x = [50, 53, 55, 32, 34] ++ rep 34 [34, 34] (wr bare x) ++ [34, 32, 111, 114, 32, 34, 34] from (List.append_assoc _ _ _).symm]
          exact strs_one _ _
        · rintro D4 ys4 els k4 hX tkC ⟨rfl, hys4⟩ htkC _ _ FC NC hapC
          rw [hl3, List.take_length] at hys4
          repeat' ((fail_if_success (with_reducible show wpAny _ _ (PySem.call _ _) _ _ _)); walk1)
          refine srt_str FC NC (newsList NC (by k_mem)) hys4 hC.rnd (by rw [List.length_map]; exact hWok.len2) (by rw [List.length_map]; exact Nat.lt_of_le_of_lt hWok.len (by decide)) ?_
          intro D5 c5 hX5 vs5 R5 F5 N5 hap5 hpm5 hpw5 hS5
          have hR5 := hC.ris R5 hpm5 hpw5
          subst hR5
          have NE : News (ghostOf s1.heap [(215, 213)]) s1.heap.objs.size hX5 ((D5, PySem.W.listOf vs5.toArray c5) :: (D3, accOf ys3 k3) :: (I, o) :: (lc, PySem.W.listOf #[Value.ref T1, Value.ref T2, Value.ref T3, Value.ref T4] 0) :: (D, (⟨.type "list", d9, .seq v9.toArray n9, sl9⟩ : Obj)) :: (d, od') :: (s1.heap.objs.size + 1 + 1 + 1, o3') :: (s1.heap.objs.size + 1 + 1, ob') :: (s1.heap.objs.size + 1, oe') :: (213, tabObj ps) :: tl) := by
            refine news_sub N5 fun q hq => ?_
            rcases List.mem_cons.mp hq with rfl | hq
            · exact List.Mem.head _
            · exact List.Mem.tail _ (List.Mem.tail _ hq)
          clear FB NB FC NC hapC N5 hap5 hpm5 hpw5 hys4
          repeat' ((fail_if_success (with_reducible show wpAny _ _ (eval (Expr.ListComp _ _ _ _) _) _ _ _)); walk1)
          rename_i hE FE NE2 tkE htkE
          refine comp_open (cl := []) (by with_unfolding_all rfl) rfl (by decide) ?_
          walk1
          have XE := XK.keeps FE.keep
          have TE := TopRead.keeps T0 FE.keep
          refine comp_lst rfl FE NE2 (by walk_at "m_pos") (newsList NE2 (by k_mem)) (by decide) rfl rfl (by rw [hl3]; exact hWl)
            (NameJ bare W) ⟨[], rfl, rfl, fun _ h => nomatch h⟩ ?_ ?_
          · rintro j v ys els J Dj io ao hX tkC C m₀ hj ⟨qs, rfl, hq2, hqI⟩ htkC FC NC
            obtain ⟨y, u, hy, rfl⟩ := strs_getS hys3 hj
            obtain ⟨x, hx, rfl⟩ : ∃ x, W[j]? = some x ∧ wr bare x = y := by rw [List.getElem?_map] at hy; exact Option.map_eq_some_iff.mp hy
            have hxW : x ∈ W := List.mem_of_getElem? hx
            have hyl := wr_len6 (bare := bare) (hWok.short x hxW)
            refine wpAny_pure ?_
            show wpAny _ _ _ _ _ _
            repeat' ((fail_if_success (with_reducible show wpAny _ _ (PySem.call _ _) _ _ _)); walk1)
            refine CallOK.useF FC NC (qname_new (XE.keeps FC.keep) (TopRead.keeps TE FC.keep) (by walk_at "m_room") rfl (by walk_at "m_pos") (Nat.le_trans hyl (by decide))) (by walk_at "m_pos") ?_
            rintro v' hC' tkC' FC' NC' _ htkC' ⟨q, rfl, dx, es, n', t', f1, f2, g1, g2, g3⟩
            obtain ⟨N1', ap1⟩ := newObj FC NC f2 g2 NC'
            obtain ⟨N2', ap2⟩ := newObj FC NC f1 g1 NC'
            refine ⟨hC', _, _, [(q, instObj 141 dx), (dx, dictOf es n')], rfl, FC', ?_, ?_, qs ++ [(q, nm bare x)], ?_, ?_, ?_⟩
            · exact List.forall_mem_cons.mpr ⟨N2' _ (List.Mem.head _), N1'⟩
            · exact List.forall_mem_cons.mpr ⟨⟨(ap2 (Dj, ao) (by k_mem)).symm, (ap2 (J, io) (by k_mem)).symm⟩, List.forall_mem_cons.mpr ⟨⟨(ap1 (Dj, ao) (by k_mem)).symm, (ap1 (J, io) (by k_mem)).symm⟩, List.forall_mem_nil _⟩⟩
            · rw [List.map_append]; rfl
            · rw [List.map_append, hq2, List.take_add_one, hx, List.map_append]; rfl
            · intro z hz
              rcases List.mem_append.mp hz with hz | hz
              · exact (hqI z hz).sub fun p hp => List.mem_append_right _ hp
              · rw [List.mem_singleton.mp hz]
                exact ⟨dx, es, n', t', by k_mem, by k_mem, g3⟩
          · rintro D6 ys6 els k6 hX tkC ⟨qs, rfl, hq2, hqI⟩ htkC hels _ FC NC hapC
            rw [hl3, List.take_length] at hq2
            have hql : qs.length = W.length := by have := congrArg List.length hq2; rwa [List.length_map, List.length_map] at this
            obtain ⟨tl2, NC2, hI2, hsub2⟩ : ∃ tl2, News (ghostOf s1.heap [(215, 213)]) s1.heap.objs.size hX ((D6, accOf (qs.map fun x => Value.ref x.1) k6) :: (D5, PySem.W.listOf vs5.toArray c5) :: (D3, accOf ys3 k3) :: (I, o) :: (lc, PySem.W.listOf #[Value.ref T1, Value.ref T2, Value.ref T3, Value.ref T4] 0) :: (D, (⟨.type "list", d9, .seq v9.toArray n9, sl9⟩ : Obj)) :: (d, od') :: (s1.heap.objs.size + 1 + 1 + 1, o3') :: (s1.heap.objs.size + 1 + 1, ob') :: (s1.heap.objs.size + 1, oe') :: (213, tabObj ps) :: tl2) ∧ (∀ x ∈ qs, QIn tl2 x) ∧ (∀ p ∈ tl, p ∈ tl2) :=
              ⟨els ++ tl, news_names NC, fun x hx => (hqI x hx).sub fun p hp => List.mem_append_left _ hp, fun p hp => List.mem_append_right _ hp⟩
            clear NC hapC hels hqI NE2 FE XE TE
            repeat' ((fail_if_success (with_reducible show wpAny _ _ (PySem.call _ _) _ _ _)); walk1)
            refine srt_q XK T0 FC NC2 (by walk_at "m_pos") (by walk_at "m_room") rfl (by first | k_units | units_room) (newsList NC2 (by k_mem)) (fun x hx => (hI2 x hx).sub fun p hp => List.mem_append_right [_, _, _, _, _, _, _, _, _, _, _] hp) (by rw [hq2]; exact hC.nnd) (by rw [hql]; exact hWok.len2) (by rw [hql]; exact Nat.lt_of_le_of_lt hWok.len (by decide)) ?_
            intro D7 c7 hX7 tk7 qs7 F7 htk7 N7 hap7 hpm7 hpw7
            have hI7 : ∀ x ∈ qs7, QIn tl2 x := fun x hx => hI2 x (hpm7.mem_iff.mp hx)
            have hpn7 : (qs7.map (·.2)).Perm (W.map (nm bare)) := hq2 ▸ hpm7.map _
            have hpp7 : (qs7.map (·.2)).Pairwise (· < ·) := List.pairwise_map.mpr hpw7
            have hat := hC.nat _ hpn7 hpp7
            have hpl7 : qs7.length = W.length := by rw [hpm7.length_eq, hql]
            clear FC NC2 hap7 hpm7 hpw7 hI2 hq2 hpn7 hpp7
            repeat' ((fail_if_success (with_reducible show wpAny _ _ (PySem.call _ _) _ _ _)); walk1)
            rename_i hX8 F8 N8 tkX8 htkX8
            refine CallOK.useF F8 N8 (fst_top hC.sg3 (XK.keeps F8.keep) (TopRead.keeps T0 F8.keep) (by walk_at "m_room") rfl (by walk_at "m_pos") (newsList N8 (by k_mem)) hS hbW) (by walk_at "m_pos") ?_
            intro v9' h9' tk9' F9' N9' _ htk9' hp9'
            obtain ⟨Dr, vsr, dr, nr, slr, rfl, hner, hSr, NR⟩ := NewTexts.news hp9' F8 N8 N9'
            clear F8 N8 N9' hp9'
            repeat' ((fail_if_success (with_reducible show wpAny _ _ (exec (Stmt.Assign _ (Expr.ListComp _ _ _ _) _) _) _ _ _)); walk1)
            rename_i hG FG NG tkG htkG
            have XG := XK.keeps FG.keep
            have TG := TopRead.keeps T0 FG.keep
            have CbG : hG.IsCell (s1.heap.objs.size + 1 + 1) (some (.str (S bare) tb)) := ⟨ob', NG.get (by k_mem), db'⟩
            have hRl : (fst 7 W [] sg).length = W.length := hC.perm.length_eq
            have hRW : ∀ x ∈ fst 7 W [] sg, x ∈ W := fun x hx => hC.perm.mem_iff.mp hx
            generalize hR : fst 7 W [] sg = R at *
            refine comp_assign (cl := [(Str.ofString "bare", s1.heap.objs.size + 1 + 1)]) (by rfl) (by with_unfolding_all rfl) rfl (by decide) ?_
            walk1
            refine comp_lstA rfl FG NG (by walk_at "m_pos") (newsList NG (by k_mem)) (by decide) rfl rfl rfl rfl (by rw [strs_len hSr, hRl]; exact hWl)
              (CompJ (wr bare) R) ⟨rfl, .nil⟩ ?_ ?_
            · rintro j v ys els J Dj io ao hX tkC C m₀ hj ⟨rfl, hys⟩ htkC FC NC
              obtain ⟨x, u, hx, rfl⟩ := strs_getS hSr hj
              have hxW : x ∈ W := hRW x (List.mem_of_getElem? hx)
              have CbC := cell_keep CbG FC
              refine wpAny_pure ?_
              show wpAny _ _ _ _ _ _
              repeat' ((fail_if_success (with_reducible show wpAny _ _ (PySem.call _ _) _ _ _)); walk1)
              refine CallOK.useF FC NC (wri_spec (XG.keeps FC.keep) (TopRead.keeps TG FC.keep) (by walk_at "m_room") rfl (by walk_at "m_pos") (Nat.le_trans (hWok.short x hxW) (by decide)) (hWok.over x hxW)) (by walk_at "m_pos") ?_
              rintro v' hC' tkC' FC' NC' _ htkC' ⟨t', rfl⟩
              refine ⟨_, _, _, [], rfl, FC', NC', (fun _ h => nomatch h), rfl, ?_⟩
              rw [List.take_add_one, hx, List.map_append]
              exact strs_app hys (strs_one _ _)
            · rintro Dd ysd els kd hX tkC ⟨rfl, hysd⟩ htkC _ FC NC hapC
              rw [show vsr.length = R.length from strs_len hSr, List.take_length] at hysd
              clear FG NG XG TG CbG
              replace FC : Fr _ s1.heap.objs.size hX _ := FC
              replace NC : News _ s1.heap.objs.size hX ((Dd, accOf ysd kd) :: (Dr, _) :: (D7, _) :: (D6, _) :: (D5, _) :: (D3, _) :: (I, _) :: (lc, _) :: (D, _) :: (d, _) :: (s1.heap.objs.size + 1 + 1 + 1, _) :: (s1.heap.objs.size + 1 + 1, _) :: (s1.heap.objs.size + 1, _) :: (213, _) :: tl2) := NC
              show wpAny _ _ _ _ _ _
              repeat' ((fail_if_success (with_reducible show wpAny _ _ (eval (Expr.ListComp _ _ _ _) _) _ _ _)); walk1)
              refine comp_open (cl := []) (by with_unfolding_all rfl) rfl (by decide) ?_
              walk1
              have XH := XK.keeps FC.keep
              have TH := TopRead.keeps T0 FC.keep
              have hl5 : vs5.length = R.length := by rw [strs_len hS5, List.length_map]
              refine comp_lst rfl FC NC (by walk_at "m_pos") (newsList NC (by k_mem)) (by decide) rfl rfl (by rw [hl5, hRl]; exact hWl)
                (CompJ (wr bare) R) ⟨rfl, .nil⟩ ?_ ?_
              · rintro j v ys els J Dj io ao hY tkY C m₀ hj ⟨rfl, hys⟩ htkY FD ND
                obtain ⟨y, u, hy, rfl⟩ := strs_getS hS5 hj
                obtain ⟨x, hx, rfl⟩ : ∃ x, R[j]? = some x ∧ reply bare x = y := by rw [List.getElem?_map] at hy; exact Option.map_eq_some_iff.mp hy
                have hxW : x ∈ W := hRW x (List.mem_of_getElem? hx)
                have hyl := wr_len6 (bare := bare) (hWok.short x hxW)
                have hyd := dbl_len (wr bare x)
                refine wpAny_pure ?_
                show wpAny _ _ _ _ _ _
                repeat' ((fail_if_success (with_reducible show wpAny _ _ (PySem.call _ _) _ _ _)); walk1)
                refine CallOK.useF FD ND (parse_spec (l := rep 34 [34, 34] (wr bare x) ++ [34, 32, 111, 114, 32, 34, 34]) (XH.keeps FD.keep) (TopRead.keeps TH FD.keep) (by walk_at "m_room") rfl (by walk_at "m_pos") (by rw [List.length_append]; simp only [List.length_cons, List.length_nil]; omega)) (by walk_at "m_pos") ?_
                rintro v' hC' tkC' FC' NC' _ htkC' ⟨t', rfl⟩
                refine ⟨_, _, _, [], rfl, FC', NC', (fun _ h => nomatch h), rfl, ?_⟩
                rw [List.take_add_one, hx, List.map_append, unq_reply]
                exact strs_app hys (strs_one _ _)
              · rintro Dp ysp els kp hY tkY ⟨rfl, hysp⟩ htkY _ _ FD ND hapD
                rw [hl5, List.take_length] at hysp
                clear FC NC XH TH
                replace ND : News _ s1.heap.objs.size hY ((Dp, _) :: (Dd, _) :: (Dr, _) :: (D7, _) :: (D6, _) :: (D5, _) :: (D3, _) :: (I, _) :: (lc, _) :: (D, _) :: (d, _) :: (s1.heap.objs.size + 1 + 1 + 1, _) :: (s1.heap.objs.size + 1 + 1, _) :: (s1.heap.objs.size + 1, _) :: (213, _) :: tl2) := ND
                repeat' ((fail_if_success (with_reducible show wpAny _ _ (compareOp _ _ _) _ _ _)); walk1)
                refine ne_same (newsList ND (by k_mem)) hysp (newsList ND (by k_mem)) hysd rfl (small_wr fun x hx => hWok.over x (hRW x hx)) (by first | units_room | decide) ?_
                clear hysp hapD
                repeat' ((fail_if_success (with_reducible show wpAny _ _ (exec (Stmt.For _ _ _ _ _) _) _ _ _)); walk1)
                refine wpAny_For ?_
                repeat' ((fail_if_success (with_reducible show wpAny _ _ (PySem.call _ _) _ _ _)); walk1)
                refine len_S (newsList ND (by k_mem)) hSr (by rw [hRl]; exact Nat.le_trans hWok.len (by decide)) fun tZ kZ hkZ => ?_
                repeat' ((fail_if_success (with_reducible show wpAny _ _ (PySem.call _ _) _ _ _)); walk1)
                refine wpAny_with_toks (n := 1) (by walk_at "m_pos") ?_
                refine range1_rows FD ND fun hZ tkZ t1 u1 v1 hrng FZ NZ hkp htkZ => ?_
                clear FD ND hkp
                obtain ⟨NL, hNL⟩ : ∃ NL : List (Addr × Obj), NL = (Dd, accOf ysd kd) :: (Dr, (⟨.type "list", dr, .seq vsr.toArray nr, slr⟩ : Obj)) :: (D7, PySem.W.listOf (qs7.map fun x => Value.ref x.1).toArray c7) :: (d, od') :: (s1.heap.objs.size + 1 + 1 + 1, o3') :: (I, o) :: (lc, PySem.W.listOf #[Value.ref T1, Value.ref T2, Value.ref T3, Value.ref T4] 0) :: (D, (⟨.type "list", d9, .seq v9.toArray n9, sl9⟩ : Obj)) :: (s1.heap.objs.size + 1 + 1, ob') :: (s1.heap.objs.size + 1, oe') :: (213, tabObj ps) :: tl2 := ⟨_, rfl⟩
                have NZ2 : News (ghostOf s1.heap [(215, 213)]) s1.heap.objs.size hZ NL := by rw [hNL]; exact news_loop NZ
                refine' for_rng (Q := _) ?rhA hrng ?rhn ?rhx ?rhp ?rF ?rN ?rh0 (InJ D7 Dr Dd D NL) ?rj0 ?rturn ?rdone
                case rhA => rfl
                case rhn => rw [hRl]; exact hWl
                case rhx => rfl
                case rhp => rfl
                case rF => exact FZ
                case rN => exact NZ2
                case rh0 => exact htkZ
                case rj0 => exact ⟨rfl, rfl, rfl, rfl, rfl⟩
                case rturn =>
                  rintro i u m₂ news₂ I2 o2' h tk hi ⟨q1, q2, q3, q4, hnn⟩ hne2 htk FT NT
                  replace FT : Fr _ s1.heap.objs.size h _ := fr_under (map_split3 q1 q2 q3) FT
                  rw [hnn, hNL] at NT
                  replace NT : News _ s1.heap.objs.size h _ := NT
                  obtain ⟨x, hx⟩ : ∃ x, R[i]? = some x := ⟨_, List.getElem?_eq_getElem hi⟩
                  have hxW : x ∈ W := hRW x (List.mem_of_getElem? hx)
                  have hyl := wr_len6 (bare := bare) (hWok.short x hxW)
                  obtain ⟨j, hj, hjn⟩ := hat i x hx
                  obtain ⟨⟨q, qa⟩, hq, hqa⟩ : ∃ z, qs7[j]? = some z ∧ z.2 = nm bare x := by rw [List.getElem?_map] at hjn; exact Option.map_eq_some_iff.mp hjn
                  dsimp only at hqa
                  subst hqa
                  have hqI := ((hI7 _ (List.mem_of_getElem? hq)).sub fun p hp => List.mem_append_right [(I2, o2'), _, _, _, _, _, _, _, _, _, _, _] hp).isQ NT
                  obtain ⟨dq, eq, nq, tq', Jq, gq⟩ := isQ_inst hqI
                  obtain ⟨p, op, t1', t2', n', hv, hm', hc', hdt⟩ := told_at hT hxW
                  obtain ⟨tr, htr⟩ := strs_get1 hSr hx
                  obtain ⟨td, htd⟩ := strs_get1 hysd (show (R.map (wr bare))[i]? = some (wr bare x) by rw [List.getElem?_map, hx]; rfl)
                  have hi1 : i ≤ 100000 := by omega
                  have hj1 : j ≤ 100000 := by
                    have := (List.getElem?_eq_some_iff.mp hq).1
                    have := hpl7
                    omega
                  repeat' ((fail_if_success (with_reducible show wpAny _ _ (subscriptTail _ _ _ _) _ _ _)); walk1)
                  refine lst_item (j := i) (newsList NT (by k_mem)) rfl hi1 htr ?_
                  repeat' ((fail_if_success (with_reducible show wpAny _ _ (subscriptTail _ _ _ _) _ _ _)); walk1)
                  refine d_get (kvs := kvs) (Heap.dictOf_iff.mpr ⟨od', NT.get (by k_mem), hd'⟩) hv ?_
                  repeat' ((fail_if_success (with_reducible show wpAny _ _ (subscriptTail _ _ _ _) _ _ _)); walk1)
                  refine item_tupleT (l := [.float (tHue W x) t1', .int (tNum W x) t2']) (j := 1) ⟨op, NT.get (List.mem_append_right [(I2, o2'), _, _, _, _, _, _, _, _, _, _, _] (hsub2 _ hm')), hc', n', hdt⟩ (by decide) (by decide) rfl rfl ?_
                  repeat' ((fail_if_success (with_reducible show wpAny _ _ (subscriptTail _ _ _ _) _ _ _)); walk1)
                  refine lst_item (j := j) (newsList NT (by k_mem)) hj hj1 (show (qs7.map fun x => Value.ref x.1)[j]? = some (.ref q) by rw [List.getElem?_map, hq]; rfl) ?_
                  repeat' ((fail_if_success (with_reducible show wpAny _ _ (getAttr _ _ _) _ _ _)); walk1)
                  refine get_own FT XK Jq (by k_is) (by k_is) (by k_is) (by k_is) gq (by k_handed) ?_
                  repeat' ((fail_if_success (with_reducible show wpAny _ _ (subscriptTail _ _ _ _) _ _ _)); walk1)
                  refine lst_item (j := i) (newsList NT (by k_mem)) rfl hi1 htd ?_
                  repeat' ((fail_if_success (with_reducible show wpAny _ _ (compareOp _ _ _) _ _ _)); walk1)
                  refine s_neS (y := nm bare x) rfl (fun hne => absurd rfl hne) (fun _ => ?_)
                  repeat' walk1
                  exact ⟨rfl, h, _, _, NL, rfl, FT, by rw [hNL]; exact NT, by rw [← hnn]; exact hne2, rfl, rfl, rfl, q4, rfl⟩
                case rdone =>
                  rintro m' news' h' tk' ⟨q1, q2, q3, q4, hnn⟩ htk' FT NT
                  rw [hnn, hNL] at NT
                  replace FT : Fr _ s1.heap.objs.size h' _ := FT
                  replace NT : News _ s1.heap.objs.size h' _ := NT
                  show wpAny _ _ _ _ _ _
                  repeat' walk1
                  refine ⟨rfl, h', _, m', (D, (⟨.type "list", d9, .seq v9.toArray n9, sl9⟩ : Obj)) :: (d, od') :: (s1.heap.objs.size + 1 + 1 + 1, o3') :: (s1.heap.objs.size + 1 + 1, ob') :: (s1.heap.objs.size + 1, oe') :: (213, tabObj ps) :: tl, rfl, FT, news_turn NT hsub2, ?_, oe', ob', _, _, q4, rfl, de', db'⟩
                  have z1 := List.forall_mem_cons.mp hne
                  have z2 := List.forall_mem_cons.mp z1.2
                  have z3 := List.forall_mem_cons.mp z2.2
                  have z4 := List.forall_mem_cons.mp z3.2
                  have z5 := List.forall_mem_cons.mp z4.2
                  exact List.forall_mem_cons.mpr ⟨z1.1, List.forall_mem_cons.mpr ⟨z2.1, List.forall_mem_cons.mpr ⟨z3.1, List.forall_mem_cons.mpr ⟨z4.1, List.forall_mem_cons.mpr ⟨z5.1, z5.2⟩⟩⟩⟩⟩
    case done =>
      rintro m' news' h' tk' ⟨oe, ob, ve, vb, hm, rfl, hoe, hob⟩ htk' F2 N2
      iterate 3 walk1
      exact ⟨rfl, h', tk', _, ps, rfl, F2, N2.get (by k_mem)⟩)
end Mine
set_option maxRecDepth 100000 in
set_option maxHeartbeats 8000000 in
theorem PySem.Challenge.cw_wu0072_01_holds : PySem.Challenge.rw_wu0072_01.Holds := by
  exact Mine.law_holds
