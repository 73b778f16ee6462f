import PyProof.Rows.All
import Wide.All
import OpenK.AllK
import Wide.FinOn
import PySem.Challenge.RW_sl0012_01
set_option Elab.async false
set_option compiler.extract_closed false
set_option maxHeartbeats 4000000
section
open PySem PySem.W PyProof.Rows
set_option Elab.async false
set_option maxRecDepth 100000
set_option maxHeartbeats 8000000
namespace Mine
open_top hd for PySem.Challenge.rw_sl0012_01
theorem fill_hd : (PySem.Challenge.rw_sl0012_01 = PySem.Challenge.rw_sl0012_01) ∧ (hd.heap_39 = hd.heap_39) → True := by k_fill; intro _; trivial
end Mine
end
namespace Mine
section
open PySem PySem.W PySem.Calls PyProof.Rows PyProof.Rows.LCg
local macro_rules | `(tactic| walk_at "UseK") => `(tactic| ((case k1 | k2 | k3 | k4 | k5 => k_asm); (case k6 | k7 | k8 => exact rfl); (case k9 | kA => exact Nat.le_of_ble_eq_true rfl)))
local macro_rules | `(tactic| walk_at "UseFor") => `(tactic| ((with_reducible show wpAny _ _ (exec (Stmt.For _ _ _ _ _) _) _ _ _); refine wpAny_For ?_ (fun _ => rfl)))
local macro_rules | `(tactic| walk_at "UseSub") => `(tactic| ((with_reducible show wpAny _ _ (subscriptTail _ _ (Value.ref _) (Value.int _ _)) _ _ _)))
section
open PySem PySem.W PySem.Calls PyProof.Rows
set_option Elab.async false
set_option maxRecDepth 100000
noncomputable abbrev TopV (mg mb : PySem.Str → Option Value) (mean : ExcName → Option Value) (h : Heap) : Prop := Top hd.view_39 (looseW hd.view_39 []) mean mg mb h
noncomputable abbrev PV : Program := PySem.Challenge.pw_sl0012_01

/-- the around of level n: depth and C units are bounds -/
noncomputable abbrev Lv (dp : Nat) (outer : List Env) : Around := { handled := none, depth := dp, frames := some outer, guards := some [], units := dp }

/-- s' is s grown: nothing that stood is turned -/
structure Ext (s s' : Shared) : Prop where
  keep : ∀ b o, s.heap.get? b = some o → s'.heap.get? b = some o
  os : s'.os = s.os
  drawn : s'.drawn = s.drawn
  gens : AllBare s.gens → AllBare s'.gens
theorem Ext.refl (s : Shared) : Ext s s := ⟨fun _ _ e => e, rfl, rfl, id⟩
theorem Ext.trans {a b c : Shared} (x : Ext a b) (y : Ext b c) : Ext a c := ⟨fun b o e => y.keep b o (x.keep b o e), y.os.trans x.os, y.drawn.trans x.drawn, fun g => y.gens (x.gens g)⟩
theorem Ext.to {s s' : Shared} (x : Ext s s') {h' : Heap} {tk : Nat} (k : ∀ b o, s.heap.get? b = some o → h'.get? b = some o) : Ext s { s' with heap := h', toks := tk } := ⟨k, x.os, x.drawn, x.gens⟩

/-- a call that hands back a value and turns nothing -/
noncomputable def Gives (w : World) (dp : Nat) (outer : List Env) (f : Addr) (args : List Value) (s : Shared) (P : Value → Shared → Prop) : Prop :=
  codeAny (model PV w) (Lv dp outer) (.call (.ref f) ⟨args, []⟩) (fun r s' => ∃ v, r = .ok (.ret v) ∧ P v s' ∧ Ext s s') s

theorem below_lv {A : Around} {base h : Heap} {outer : List Env} {dp : Nat} (B : Below A base outer h) : Below (Lv dp outer) base outer h := ⟨rfl, B.stays, B.frames⟩

theorem codeAny_lv {M : Model} {A : Around} {c : Code} {R : Result → Shared → Prop} {s : Shared} {dp : Nat} {outer : List Env} (h : codeAny M (Lv dp outer) c R s)
    (h1 : A.handled = none) (h2 : A.frames = some outer) (h3 : A.guards = some []) (h4 : A.depth ≤ dp) (h5 : A.units ≤ dp) : codeAny M A c R s :=
  fun Γ p hc hΓ => h Γ p hc ⟨hΓ.1.trans h1, Nat.le_trans hΓ.2.1 h4, fun l e => by cases e; exact hΓ.2.2.1 _ h2, fun g e => by cases e; exact hΓ.2.2.2.1 _ h3, Nat.le_trans hΓ.2.2.2.2 h5⟩

theorem enterP {w : World} {base : Heap} {outer : List Env} {s : Shared} {mg mb : PySem.Str → Option Value} {mean : ExcName → Option Value} {dp : Nat} (m : PySem.Str → Option Value)
    {P : Value → Shared → Prop} {name qual : PySem.Str} {params : Arguments} {body : List Stmt} {scope : Scope} {dV kV doc pm cdv ct oc : Value} {an od : Option Addr} {osl : Array (Option Value)} {f : Addr} {args : List Value} {binds : List (PySem.Str × Value)}
    (B : Below (Lv dp outer) base outer s.heap) (X : (hd.heap_39 w.params).In s.heap) (T : TopV mg mb mean s.heap)
    (ho : (hd.heap_39 w.params).lookup f = some ⟨oc, od, .func (fnOf name qual params body scope dV kV doc pm an cdv ct), osl⟩) (hcd : codeIn (hd.heap_39 w.params) cdv qual = true) (hroom : dp < recursionLimit)
    (hbind : BindsTo s (fnOf name qual params body scope dV kV doc pm an cdv ct) ⟨args, []⟩ binds) (hloc : ∀ y ∈ binds, scope.names.lookup y.1 = some .local) (hm : (fun y => binds.reverse.lookup y) = m)
    (h : ∀ L' h₁ tk, Fr s.heap L' h₁ m → News s.heap L' h₁ [] → Below (Lv dp outer) base outer s.heap → (hd.heap_39 w.params).In s.heap → TopV mg mb mean s.heap →
      wpAny (model PV w) ((Lv dp outer).deeper (envOf qual scope L' f cdv)) (execs body (envOf qual scope L' f cdv))
        (fun fl s' => P (match fl with | .ret v => v | _ => .none) s' ∧ Ext s s') (fun _ _ => False) { s with heap := h₁, toks := tk })
    (hcell : ∀ x ∈ scope.names, x.2 ≠ .cell) (hco : scope.isCoroutine = false) (hgen : scope.isGenerator = false) (hk : scope.kind = .function) : Gives w dp outer f args s P := by
  refine codeAny_call_def (fd := fnOf name qual params body scope dV kV doc pm an cdv ct) (body := body) (binds := binds) hroom (X _ _ ho) rfl T.nolimit (codeRec_of X hcd) rfl hbind hcell hloc (fun h₁ hns hk₁ => ?_) hco hgen hk
  refine wpAny_mono (h s.heap.objs.size h₁ _ ⟨hm ▸ hns, hk₁, Nat.le_refl _⟩ (fun p hp => nomatch hp) B X T) (fun fl s' h' => ⟨_, rfl, h'⟩) fun _ _ h' => h'.elim

theorem useG {w : World} {A A₀ : Around} {base h₀ : Heap} {outer : List Env} {s : Shared} {mg mb : PySem.Str → Option Value} {mean : ExcName → Option Value} (dp : Nat) {P : Value → Shared → Prop} {f : Addr} {args : List Value}
    {name : PySem.Str} {scope : Scope} {L a : Addr} {cd : Value} {m : PySem.Str → Option Value} {news : List (Addr × Obj)} {Q : Value → Shared → Prop} {E : Value → Shared → Prop}
    (B : Below A₀ base outer h₀) (F : Fr h₀ L s.heap m) (N : News h₀ L s.heap news) (X : (hd.heap_39 w.params).In h₀) (T : TopV mg mb mean h₀)
    (h1 : A.handled = none) (h2 : A.frames = some (envOf name scope L a cd :: outer)) (h3 : A.guards = some []) (h4 : A.depth ≤ dp) (h5 : A.units ≤ dp) (hk : scope.kind = .function)
    (c : Below (Lv dp (envOf name scope L a cd :: outer)) base (envOf name scope L a cd :: outer) s.heap → (hd.heap_39 w.params).In s.heap → TopV mg mb mean s.heap → Gives w dp (envOf name scope L a cd :: outer) f args s P)
    (h : ∀ v s', P v s' → Ext s s' → Fr h₀ L s'.heap m → News h₀ L s'.heap news → Q v s') : wpAny (model PV w) A (call (.ref f) args) Q E s := by
  refine wpAny_call (codeAny_lv (codeAny_mono (c (below_lv (B.push (a := a) (cd := cd) (name := name) F hk)) (X.keeps F.keep) (T.keeps F.keep)) fun r s' h' => ?_) h1 h2 h3 h4 h5)
  obtain ⟨v, rfl, p, e⟩ := h'
  exact h v s' p e (F.keeps e.keep) (N.grown e.keep)

/-- all that stands outside the frame, as one ledger -/
theorem all_own {hB : Heap} {L : Addr} {h : Heap} (k : ∀ b o, hB.get? b = some o → h.get? b = some o) :
    ∃ news, News hB L h news ∧ ∀ h' m' news', Fr hB L h' m' → News hB L h' news' → (∀ p ∈ news, p ∈ news') → ∀ b o, b ≠ L → h.get? b = some o → h'.get? b = some o := by
  refine ⟨ownOf hB ((List.range h.objs.size).filter (fun b => b != L)) h, news_ownOf (by simp), fun h' m' news' F' N' sub b o hb e => ?_⟩
  cases hn : hB.get? b with
  | some o₀ =>
    have := k b o₀ hn
    rw [e] at this
    cases this
    exact F'.keep b _ hn
  | none => exact (N' _ (sub _ (mem_ownOf (by simp; exact ⟨Heap.lt_size e, hb⟩) hn e))).1
/-- a goal the walk must leave alone -/
noncomputable def Hold (p : Prop) : Prop := p
theorem Hold.of {p : Prop} (h : Hold p) : p := h
noncomputable def Flag : Prop := True
end
section
open PySem PySem.W PySem.Calls PyProof.Rows
set_option Elab.async false
noncomputable def fgt (a b : UInt64) : Bool := Float64.cmp a b == some Ordering.gt
noncomputable def flt (a b : UInt64) : Bool := Float64.cmp a b == some Ordering.lt
noncomputable def best3 (bt : UInt64 → UInt64 → Bool) (x y z : UInt64) : UInt64 :=
  if bt y x then (if bt z y then z else y) else (if bt z x then z else x)
theorem argBest2 (bt : Nat → Nat → Bool) : argBest bt 2 = if bt 1 0 then (if bt 2 1 then 2 else 1) else (if bt 2 0 then 2 else 0) := by
  unfold argBest argBest argBest
  split <;> rfl
theorem best3_at {bt : UInt64 → UInt64 → Bool} {x y z : UInt64} {tx ty tz : Tok} {v : Value} {val : Nat → UInt64} (h0 : val 0 = x) (h1 : val 1 = y) (h2 : val 2 = z)
    (h : (#[Value.float x tx, .float y ty, .float z tz] : Array Value)[argBest (fun i j => bt (val i) (val j)) 2]? = some v) : ∃ t, v = .float (best3 bt x y z) t := by
  rw [argBest2] at h
  simp only [h0, h1, h2] at h
  unfold best3
  by_cases c1 : bt y x = true
  · simp only [c1, if_true] at h ⊢
    by_cases c2 : bt z y = true
    · simp only [c2, if_true] at h ⊢
      exact ⟨tz, by simpa using h.symm⟩
    · simp only [c2, if_false] at h ⊢
      exact ⟨ty, by simpa using h.symm⟩
  · simp only [c1, if_false] at h ⊢
    by_cases c2 : bt z x = true
    · simp only [c2, if_true] at h ⊢
      exact ⟨tz, by simpa using h.symm⟩
    · simp only [c2, if_false] at h ⊢
      exact ⟨tx, by simpa using h.symm⟩
section
variable {w : World} {A : Around} {E : Value → Shared → Prop} {s : Shared} {h₀ : Heap} {L : Addr} {m : PySem.Str → Option Value} {news : List (Addr × Obj)} {x y z : UInt64} {tx ty tz : Tok} {Q : Value → Shared → Prop}
noncomputable def valAt (x y z : UInt64) : Nat → UInt64 := fun i => if i = 0 then x else if i = 1 then y else z
theorem at_val {i : Nat} {v : Value} (h : (#[Value.float x tx, .float y ty, .float z tz] : Array Value)[i]? = some v) : ∃ t, v = .float (valAt x y z i) t := by
  match i with
  | 0 => exact ⟨tx, by simpa [valAt] using h.symm⟩
  | 1 => exact ⟨ty, by simpa [valAt] using h.symm⟩
  | 2 => exact ⟨tz, by simpa [valAt] using h.symm⟩
  | n + 3 => simp at h
theorem cmp_gtF {P : Nat → Value → Prop} (val : Nat → UInt64) (hv : ∀ i v, P i v → ∃ t, v = .float (val i) t) : CmpOf PV w A .Gt P (fun i j => fgt (val i) (val j)) := fun i j vi vj s Q E hi hj h => by
  obtain ⟨t, rfl⟩ := hv i vi hi
  obtain ⟨u, rfl⟩ := hv j vj hj
  exact AutoFloatOps.gt_0 h
theorem cmp_ltF {P : Nat → Value → Prop} (val : Nat → UInt64) (hv : ∀ i v, P i v → ∃ t, v = .float (val i) t) : CmpOf PV w A .Lt P (fun i j => flt (val i) (val j)) := fun i j vi vj s Q E hi hj h => by
  obtain ⟨t, rfl⟩ := hv i vi hi
  obtain ⟨u, rfl⟩ := hv j vj hj
  exact AutoFloatOps.lt_0 h
theorem max3f (hh : A.handled = none) (F : Fr h₀ L s.heap m) (N : News h₀ L s.heap news)
    (h : ∀ t h' tk', Fr h₀ L h' m → News h₀ L h' news → Q (.float (best3 fgt x y z) t) { s with heap := h', toks := tk' }) :
    wpAny (model PV w) A (call (.builtin "max") [.float x tx, .float y ty, .float z tz]) Q E s := by
  have hT : (s.heap.push { cls := .type "tuple", data := .seq #[.float x tx, .float y ty, .float z tz] }).IsTuple s.heap.objs.size #[.float x tx, .float y ty, .float z tz] := ⟨_, Heap.get?_push_size _ rfl, rfl, 0, rfl⟩
  have hsz : (s.heap.push { cls := .type "tuple", data := .seq #[.float x tx, .float y ty, .float z tz] }).objs.size = s.heap.objs.size + 1 := Heap.size_push ..
  refine call_max_three (wpAny_pyIter_tuple hT ?_)
  refine ⟨_, [_, s.heap.objs.size], [_], _, _, _, _, rfl, Walks.tuple (A := A.in1) hh _ s.heap.objs.size (by rw [hsz]; exact Nat.ne_of_lt (Nat.lt_succ_self _)) #[.float x tx, .float y ty, .float z tz],
    ⟨⟨_, Heap.get?_push_size _ rfl, rfl, rfl⟩, hT.push _⟩, fun d hd => ?_, by simp, cmp_gtF (valAt x y z) (fun _ _ => at_val), fun v h' tk hP hk => ?_⟩
  · show d < ((s.heap.push _).push _).objs.size
    rw [Heap.size_push, hsz]
    rcases List.mem_cons.mp hd with rfl | hd
    · rw [hsz]; exact Nat.lt_succ_self _
    · rcases List.mem_cons.mp hd with rfl | hd
      · exact Nat.lt_succ_of_lt (Nat.lt_succ_self _)
      · cases hd
  · have hold : ∀ d o, s.heap.get? d = some o → h'.get? d = some o := fun d o e => by
      refine hk d o (fun hm => ?_) (Heap.get?_push_of_some _ (Heap.get?_push_of_some _ e))
      rcases List.mem_cons.mp hm with e1 | hm
      · have := Heap.lt_size e; rw [e1, hsz] at this; exact Nat.lt_irrefl _ (Nat.lt_of_succ_lt this)
      · cases hm
    obtain ⟨t, rfl⟩ := best3_at (bt := fgt) (val := valAt x y z) rfl rfl rfl hP
    exact h t h' tk (F.keeps hold) (N.grown hold)
theorem min3f (hh : A.handled = none) (F : Fr h₀ L s.heap m) (N : News h₀ L s.heap news)
    (h : ∀ t h' tk', Fr h₀ L h' m → News h₀ L h' news → Q (.float (best3 flt x y z) t) { s with heap := h', toks := tk' }) :
    wpAny (model PV w) A (call (.builtin "min") [.float x tx, .float y ty, .float z tz]) Q E s := by
  have hT : (s.heap.push { cls := .type "tuple", data := .seq #[.float x tx, .float y ty, .float z tz] }).IsTuple s.heap.objs.size #[.float x tx, .float y ty, .float z tz] := ⟨_, Heap.get?_push_size _ rfl, rfl, 0, rfl⟩
  have hsz : (s.heap.push { cls := .type "tuple", data := .seq #[.float x tx, .float y ty, .float z tz] }).objs.size = s.heap.objs.size + 1 := Heap.size_push ..
  refine call_min_three (wpAny_pyIter_tuple hT ?_)
  refine ⟨_, [_, s.heap.objs.size], [_], _, _, _, _, rfl, Walks.tuple (A := A.in1) hh _ s.heap.objs.size (by rw [hsz]; exact Nat.ne_of_lt (Nat.lt_succ_self _)) #[.float x tx, .float y ty, .float z tz],
    ⟨⟨_, Heap.get?_push_size _ rfl, rfl, rfl⟩, hT.push _⟩, fun d hd => ?_, by simp, cmp_ltF (valAt x y z) (fun _ _ => at_val), fun v h' tk hP hk => ?_⟩
  · show d < ((s.heap.push _).push _).objs.size
    rw [Heap.size_push, hsz]
    rcases List.mem_cons.mp hd with rfl | hd
    · rw [hsz]; exact Nat.lt_succ_self _
    · rcases List.mem_cons.mp hd with rfl | hd
      · exact Nat.lt_succ_of_lt (Nat.lt_succ_self _)
      · cases hd
  · have hold : ∀ d o, s.heap.get? d = some o → h'.get? d = some o := fun d o e => by
      refine hk d o (fun hm => ?_) (Heap.get?_push_of_some _ (Heap.get?_push_of_some _ e))
      rcases List.mem_cons.mp hm with e1 | hm
      · have := Heap.lt_size e; rw [e1, hsz] at this; exact Nat.lt_irrefl _ (Nat.lt_of_succ_lt this)
      · cases hm
    obtain ⟨t, rfl⟩ := best3_at (bt := flt) (val := valAt x y z) rfl rfl rfl hP
    exact h t h' tk (F.keeps hold) (N.grown hold)
end
end
section
open PySem PySem.W PySem.Calls PyProof.Rows
set_option Elab.async false
set_option maxRecDepth 100000
theorem reset_R1 : True := by w_top off; trivial
local macro_rules | `(tactic| walk_at "call builtin:max") => `(tactic| (k_here; (with_unfolding_all refine' max3f ?k1 ?k2 ?k3 ?_; (case k1 => exact rfl); (case k2 | k3 => k_asm); k_whole; intro t' h' tk' F' N')))
local macro_rules | `(tactic| walk_at "call builtin:min") => `(tactic| (k_here; (with_unfolding_all refine' min3f ?k1 ?k2 ?k3 ?_; (case k1 => exact rfl); (case k2 | k3 => k_asm); k_whole; intro t' h' tk' F' N')))
set_option maxHeartbeats 4000000
noncomputable def Tup3 (h₀ h : Heap) (v : Value) (p : UInt64 × UInt64 × UInt64) : Prop := ∃ d ta tb tc, v = .ref d ∧ h.get? d = some { cls := .type "tuple", data := .seq #[.float p.1 ta, .float p.2.1 tb, .float p.2.2 tc] } ∧ h₀.get? d = none
theorem Tup3.of {h₀ h : Heap} {L : Addr} {d : Addr} {ta tb tc : Tok} {a b c : UInt64} {p : UInt64 × UInt64 × UInt64} {news : List (Addr × Obj)} (N : News h₀ L h ((d, { cls := .type "tuple", data := .seq #[.float a ta, .float b tb, .float c tc] }) :: news)) (e : p = (a, b, c)) : Tup3 h₀ h (.ref d) p := by
  subst e
  exact ⟨_, _, _, _, rfl, (N _ (.head _)).1, (N _ (.head _)).2.2⟩
noncomputable def feq (a b : UInt64) : Bool := Float64.cmp a b == some Ordering.eq
noncomputable def rgbF (x y z : UInt64) : UInt64 × UInt64 × UInt64 :=
  let M := best3 fgt x y z
  let m := best3 flt x y z
  let r := Float64.sub M m
  if feq m M then (0, 0, M) else
    let s := Float64.div r M
    let rc := Float64.div (Float64.sub M x) r
    let gc := Float64.div (Float64.sub M y) r
    let bc := Float64.div (Float64.sub M z) r
    let h := if feq x M then Float64.sub bc gc else if feq y M then Float64.sub (Float64.add 4611686018427387904 rc) bc else Float64.sub (Float64.add 4616189618054758400 gc) rc
    ((Float64.divmod (Float64.div h 4618441417868443648) 4607182418800017408).2, s, M)
noncomputable def rgbOk (x y z : UInt64) : Bool := feq (best3 flt x y z) (best3 fgt x y z) || (!Float64.isZero (best3 fgt x y z) && !Float64.isZero (Float64.sub (best3 fgt x y z) (best3 flt x y z)))
theorem rgb_ok {w : World} {base : Heap} {outer : List Env} {s : Shared} {mg mb : PySem.Str → Option Value} {mean : ExcName → Option Value}
    (B : Below (Lv 480 outer) base outer s.heap) (X : (hd.heap_39 w.params).In s.heap) (T : TopV mg mb mean s.heap)
    (x y z : UInt64) (tx ty tz : Tok) (ok : rgbOk x y z = true) :
    Gives w 480 outer 49 [.float x tx, .float y ty, .float z tz] s (fun v s' => Tup3 s.heap s'.heap v (rgbF x y z)) := by
  k_dflt (refine' enterP (fun n => List.lookup n [(Str.ofString "b", Value.float z tz), (Str.ofString "g", Value.float y ty), (Str.ofString "r", Value.float x tx)]) ?k1 ?k2 ?k3 ?k6 ?k7 ?k8 ?k9 ?kB ?kM ?_ ?c5 ?c2 ?c3 ?c4; (case k1 => k_asm); (case k2 => k_asm); (case k3 => k_asm); (case k6 => k_is); (case k7 => k_is); (case k8 => k_room); (case k9 => exact BindsTo.of_eq rfl); (case kB => exact locs rfl); (case kM => exact rfl); (case c5 => decide); (case c2 => exact rfl); (case c3 => exact rfl); (case c4 => exact rfl); k_whole)
  clear B X T
  intro L' h' tk' F' N' B' X' T'
  (try dsimp only)
  k_fold
  k_steps
  all_goals first
    | exact Ext.to (Ext.refl _) (Fr.keep (by assumption))
    | (refine Tup3.of (by assumption) ?_; simp only [rgbF, feq, *, if_true, if_false, Bool.false_eq_true])
    | (exfalso; simp_all only [rgbOk, feq, Bool.false_or, Bool.not_true, Bool.false_and, Bool.and_false, Bool.false_eq_true]; done)
end
section
open PySem PySem.W PySem.Calls PyProof.Rows
set_option Elab.async false
set_option maxRecDepth 100000
theorem reset_R2 : True := by w_top off; trivial
set_option maxHeartbeats 4000000
noncomputable def hsvI (h : UInt64) : Int := Flt.toInt Float64.truncOf (Float64.mul h 4618441417868443648)
noncomputable def hsvOk (h s : UInt64) : Bool := feq s 0 || (Float64.isFinite (Float64.mul h 4618441417868443648) && !Float64.isNaN (Float64.mul h 4618441417868443648) && !Float64.isInf (Float64.mul h 4618441417868443648) && decide ((hsvI h).natAbs ≤ 6))
noncomputable def hsvF (h s v : UInt64) : UInt64 × UInt64 × UInt64 :=
  if feq s 0 then (v, v, v) else
    let f := Float64.sub (Float64.mul h 4618441417868443648) (Float64.ofInt (hsvI h))
    let p := Float64.mul v (Float64.sub 4607182418800017408 s)
    let q := Float64.mul v (Float64.sub 4607182418800017408 (Float64.mul s f))
    let t := Float64.mul v (Float64.sub 4607182418800017408 (Float64.mul s (Float64.sub 4607182418800017408 f)))
    let i := (hsvI h).fmod 6
    if i = 0 then (v, t, p) else if i = 1 then (q, v, p) else if i = 2 then (p, v, t) else if i = 3 then (p, q, v) else if i = 4 then (t, p, v) else (v, p, q)
theorem no_big {n : Nat} (h : 2 ^ 1024 - 2 ^ 970 ≤ n) (k : n ≤ 6) : False := absurd (Nat.le_trans h k) (by decide +kernel)
theorem six_ways {x : Int} (h0 : ¬ x.fmod 6 = 0) (h1 : ¬ x.fmod 6 = 1) (h2 : ¬ x.fmod 6 = 2) (h3 : ¬ x.fmod 6 = 3) (h4 : ¬ x.fmod 6 = 4) (h5 : ¬ x.fmod 6 = 5) : False := by
  have a := Int.fmod_nonneg_of_pos x (b := 6) (by decide)
  have b := Int.fmod_lt_of_pos x (b := 6) (by decide)
  generalize x.fmod 6 = y at *
  obtain ⟨n, rfl⟩ := Int.eq_ofNat_of_zero_le a
  rcases n with _ | _ | _ | _ | _ | _ | n
  · exact h0 rfl
  · exact h1 rfl
  · exact h2 rfl
  · exact h3 rfl
  · exact h4 rfl
  · exact h5 rfl
  · exact absurd (Int.ofNat_lt.mp b) (Nat.not_lt.mpr (Nat.le_add_left 6 n))
theorem hsv_ok {w : World} {base : Heap} {outer : List Env} {s : Shared} {mg mb : PySem.Str → Option Value} {mean : ExcName → Option Value}
    (B : Below (Lv 480 outer) base outer s.heap) (X : (hd.heap_39 w.params).In s.heap) (T : TopV mg mb mean s.heap)
    (x y z : UInt64) (tx ty tz : Tok) (ok : hsvOk x y = true) :
    Gives w 480 outer 56 [.float x tx, .float y ty, .float z tz] s (fun v s' => Tup3 s.heap s'.heap v (hsvF x y z)) := by
  have ok' : feq y 0 = true ∨ (Float64.isFinite (Float64.mul x 4618441417868443648) = true ∧ Float64.isNaN (Float64.mul x 4618441417868443648) = false ∧ Float64.isInf (Float64.mul x 4618441417868443648) = false ∧ (hsvI x).natAbs ≤ 6) := by simpa [hsvOk, and_assoc] using ok
  clear ok
  k_dflt (refine' enterP (fun n => List.lookup n [(Str.ofString "v", Value.float z tz), (Str.ofString "s", Value.float y ty), (Str.ofString "h", Value.float x tx)]) ?k1 ?k2 ?k3 ?k6 ?k7 ?k8 ?k9 ?kB ?kM ?_ ?c5 ?c2 ?c3 ?c4; (case k1 => k_asm); (case k2 => k_asm); (case k3 => k_asm); (case k6 => k_is); (case k7 => k_is); (case k8 => k_room); (case k9 => exact BindsTo.of_eq rfl); (case kB => exact locs rfl); (case kM => exact rfl); (case c5 => decide); (case c2 => exact rfl); (case c3 => exact rfl); (case c4 => exact rfl); k_whole)
  clear B X T
  intro L' h' tk' F' N' B' X' T'
  (try dsimp only)
  k_fold
  k_steps
  all_goals first
    | exact Ext.to (Ext.refl _) (Fr.keep (by assumption))
    | (refine Tup3.of (by assumption) ?_; simp [hsvF, hsvI, feq, *]; done)
    | (exfalso; rcases ok' with q | ⟨q1, q2, q3, q4⟩; (exact absurd q (by simp only [feq, *]; decide)); first | exact no_big (by assumption) q4 | exact absurd q2 (by simp only [*]; decide) | exact absurd q3 (by simp only [*]; decide) | exact six_ways (by assumption) (by assumption) (by assumption) (by assumption) (by assumption) (by assumption))
    | skip
  trace_state
end
section
open PySem PySem.W PySem.Calls PyProof.Rows
set_option Elab.async false
set_option maxRecDepth 100000
section
variable {w : World} {A : Around} {R : GenEnd} {Y : Protocol} {n : Nat} {s₀ : Shared} {c : Code} {fs : List Frame} {s : Shared} {env : Env}
  {K : Flow → Sem Fin} {H : Value → Sem Fin} {gd : Bool → Bool} {lv : List Value → List Value}


theorem seg_exec {st : Stmt} (h : wpAny (model PV w) (A.over c fs) (exec st env) (fun f s' => Seg (model PV w) A R Y n s₀ c (K f) fs s') (fun _ _ => False) s) :
    Seg (model PV w) A R Y n s₀ c ((exec st env).wrap K H gd lv) fs s := seg_wrap (wpAny_mono h (fun _ _ x => x) fun _ _ x => x.elim)

theorem seg_If {test : Expr} {body orelse : List Stmt} {pos : Pos}
    (h : wpAny (model PV w) (A.over c fs) (isTrue test env (eval test env)) (fun b s' => if b = true then Seg (model PV w) A R Y n s₀ c ((execs body env).wrap K H gd lv) fs s' else Seg (model PV w) A R Y n s₀ c ((execs orelse env).wrap K H gd lv) fs s') (fun _ _ => False) s) :
    Seg (model PV w) A R Y n s₀ c ((exec (.If test body orelse pos) env).wrap K H gd lv) fs s := by
  show Seg (model PV w) A R Y n s₀ c (.at pos fun _ => ((isTrue test env (eval test env)) >>= fun b => if b then execs body env else execs orelse env).wrap K H gd lv) fs s
  refine seg_at ?_
  rw [Sem.bind_eq_wrap', Sem.wrap_wrap]
  refine seg_wrap (wpAny_mono h (fun b s' hb => ?_) fun _ _ x => x.elim)
  cases b with
  | true => exact hb
  | false => exact hb

noncomputable def ForK (env : Env) (K : Flow → Sem Fin) (H : Value → Sem Fin) (gd : Bool → Bool) (lv : List Value → List Value) : Result → Sem Fin := fun r =>
  ((match r with | .ok f => .pure f | .error e => .raise e : Sem Flow).onRaise fun (x : Value) => do
    if (← field x 1) == Value.none then unsupported "frame.own-activation:exception-without-traceback"
    setFlight x env.frame).wrap K H gd lv

theorem seg_For {target iter : Expr} {body orelse : List Stmt} {pos : Pos} (hs : ∀ x, foldedSetIterable iter env x = pure x)
    (h : wpAny (model PV w) (A.over c fs) (eval iter env) (fun xv s₁ => wpAny (model PV w) (A.over c fs) (pyIter xv) (fun it s₂ =>
      ∀ p, Seg (model PV w) A R Y n s₀ (.forLoop target it body orelse env) ((model PV w).den (.forLoop target it body orelse env)) (.ret (ForK env K H gd lv) none (gd false) (lv []) c p [] :: fs) s₂) (fun _ _ => False) s₁) (fun _ _ => False) s) :
    Seg (model PV w) A R Y n s₀ c ((exec (.For target iter body orelse pos) env).wrap K H gd lv) fs s := by
  rw [exec_For]
  show Seg (model PV w) A R Y n s₀ c (.at pos fun _ => (eval iter env >>= fun xv => foldedSetIterable iter env xv >>= fun x => standAt iter.pos >>= fun _ => holding [x] (pyIter x) >>= fun it => runOwn (.forLoop target it body orelse env) env).wrap K H gd lv) fs s
  refine seg_at ?_
  rw [Sem.bind_eq_wrap', Sem.wrap_wrap]
  refine seg_wrap (wpAny_mono h (fun xv s₁ h₁ => ?_) fun _ _ x => x.elim)
  rw [hs]
  show Seg (model PV w) A R Y n s₀ c (.at iter.pos fun _ => (holding [xv] (pyIter xv) >>= fun it => runOwn (.forLoop target it body orelse env) env).wrap K H gd lv) fs s₁
  refine seg_at ?_
  rw [Sem.bind_eq_wrap', Sem.wrap_wrap]
  refine seg_wrap (wpAny_holding (wpAny_mono h₁ (fun it s₂ h₂ => ?_) fun _ _ x => x.elim))
  exact seg_call h₂

noncomputable def LoopK (target : Expr) (it : Value) (body orelse : List Stmt) (env : Env) : Flow → Sem Fin := fun f => match f with
  | .next | .cont => .pure (.again (.forLoop target it body orelse env))
  | .brk => .pure (.done .next)
  | .ret v => .pure (.done (.ret v))
noncomputable def LoopH (env : Env) : Value → Sem Fin := fun e => (do noteFrame e env; theTreesLotGoes e : Sem Unit).wrap (fun _ => .raise e) .raise id id

theorem seg_forLoop {target : Expr} {it : Value} {body : List Stmt}
    (h : wpAny (model PV w) (A.over (.forLoop target it body [] env) fs) (pyNext it) (fun r s₁ => match r with
      | none => Seg (model PV w) A R Y n s₀ (.block [] env) ((model PV w).den (.block [] env)) fs s₁
      | some v => wpAny (model PV w) (A.over (.forLoop target it body [] env) fs) (letOwnedTupleGo target it v) (fun _ s₁' => wpAny (model PV w) (A.over (.forLoop target it body [] env) fs) (assign target env v) (fun _ s₂ =>
          Seg (model PV w) A R Y n s₀ (.forLoop target it body [] env) ((execs body env).wrap (LoopK target it body [] env) (LoopH env) id id) fs s₂) (fun _ _ => False) s₁') (fun _ _ => False) s₁) (fun _ _ => False) s) :
    Seg (model PV w) A R Y n s₀ (.forLoop target it body [] env) ((model PV w).den (.forLoop target it body [] env)) fs s := by
  show Seg (model PV w) A R Y n s₀ _ ((forTurn target it body [] env).onRaise (fun x => do noteFrame x env; theTreesLotGoes x)) fs s
  unfold forTurn
  rw [Sem.onRaise_eq_wrap]
  refine seg_at ?_
  show Seg (model PV w) A R Y n s₀ _ ((((pyNext it).onRaise (fun _ => standAt { target.pos with line := 0 })) >>= fun r => match r with
    | none => again (.block [] env)
    | some v => letOwnedTupleGo target it v >>= fun _ => assign target env v >>= fun _ => execs body env >>= fun f => match f with
      | .next | .cont => again (.forLoop target it body [] env)
      | .brk => pure (.done .next)
      | .ret v => pure (.done (.ret v))).wrap _ _ _ _) fs s
  rw [Sem.bind_eq_wrap', Sem.wrap_wrap, Sem.onRaise_eq_wrap, Sem.wrap_wrap]
  refine seg_wrap (wpAny_mono h (fun r s₁ h₁ => ?_) fun _ _ x => x.elim)
  cases r with
  | none => exact seg_again rfl h₁
  | some v =>
    show Seg (model PV w) A R Y n s₀ _ ((letOwnedTupleGo target it v >>= fun _ => assign target env v >>= fun _ => execs body env >>= fun f => match f with
      | .next | .cont => again (.forLoop target it body [] env)
      | .brk => pure (.done .next)
      | .ret v => pure (.done (.ret v))).wrap _ _ _ _) fs s₁
    rw [Sem.bind_eq_wrap', Sem.wrap_wrap]
    refine seg_wrap (wpAny_mono h₁ (fun _ s₂ h₂ => ?_) fun _ _ x => x.elim)
    rw [Sem.bind_eq_wrap', Sem.wrap_wrap]
    refine seg_wrap (wpAny_mono h₂ (fun _ s₃ h₃ => ?_) fun _ _ x => x.elim)
    rw [Sem.bind_eq_wrap', Sem.wrap_wrap]
    rw [Sem.wrap_congr (execs body env) _ _ (K' := LoopK target it body [] env) (H' := LoopH env) (fun f => by cases f <;> rfl) (fun e => by first | exact Sem.bind_eq_wrap _ _ | (show (do noteFrame e env; theTreesLotGoes e : Sem Unit).bind (fun _ => .raise e) = _; exact Sem.bind_eq_wrap _ _))]
    exact h₃
end
end
section
open PySem PySem.W PySem.Calls PyProof.Rows
set_option Elab.async false
set_option maxRecDepth 100000
/-- what the generator of escaped signs yields, from place i on -/
noncomputable def escG (i : Nat) (esc : Bool) (last : Int) : List Nat → List (Int × List Nat)
  | [] => if esc then [(last, [92])] else []
  | c :: r => if esc then ((i : Int), [92, c]) :: escG (i + 1) false i r else if c = 92 then escG (i + 1) true i r else ((i : Int), [c]) :: escG (i + 1) false i r

noncomputable def SignT (x : PySem.Str) (i : Nat) (vals : Array Value) : Prop := ∃ t u c, x.cps[i]? = some c ∧ vals = #[.int i t, .str ⟨#[c]⟩ u]

theorem enum_str {w : World} {A : Around} {E : Value → Shared → Prop} {s : Shared} {x : PySem.Str} {t : Tok} {Q : Value → Shared → Prop}
    (h : ∀ h' St Mid, (∀ A' : Around, A'.handled = none → WalksT PV w A' (s.heap.objs.size + 1) [s.heap.objs.size + 1, s.heap.objs.size] [s.heap.objs.size + 1, s.heap.objs.size] x.cps.size (SignT x) St Mid) →
      St 0 h' → (∀ b o, s.heap.get? b = some o → h'.get? b = some o) → Q (.ref (s.heap.objs.size + 1)) { s with heap := h' }) :
    wpAny (model PV w) A (call (.type "enumerate") [.str x t]) Q E s := by
  refine call_enumerate_str fun h' he hit hsz hk => ?_
  have side1 : s.heap.objs.size + 1 ∉ [s.heap.objs.size] := fun hm => Nat.succ_ne_self _ (List.mem_singleton.mp hm)
  have conv : ∀ {A' : Around} {St Mid}, WalksT PV w A' (s.heap.objs.size + 1) [s.heap.objs.size + 1, s.heap.objs.size] [s.heap.objs.size + 1, s.heap.objs.size] x.cps.size
      (fun i vals => ∃ t v, (∃ c u, x.cps[i]? = some c ∧ v = .str ⟨#[c]⟩ u) ∧ vals = #[.int i t, v]) St Mid →
      WalksT PV w A' (s.heap.objs.size + 1) [s.heap.objs.size + 1, s.heap.objs.size] [s.heap.objs.size + 1, s.heap.objs.size] x.cps.size (SignT x) St Mid := fun W =>
    { sub := W.sub, frame := W.frame, item := fun i s Q E hi st hQ => W.item i s Q E hi st fun T vals h' tk hP => by
        obtain ⟨t, v, ⟨c, u, hc, rfl⟩, rfl⟩ := hP
        exact hQ T _ h' tk ⟨t, u, c, hc, rfl⟩, go := W.go, apart := W.apart, done := W.done, self := W.self }
  cases ha : x.cps.all (· < 128)
  · have hit' : h'.IsStrIter s.heap.objs.size "str_iterator" x t 0 := by simpa [strIterType, ha] using hit
    exact h h' _ _ (fun A' hA => conv (WalksT.enumerateD (Draws.strWide (A := A'.in1) hA s.heap.objs.size x t) (s.heap.objs.size + 1) (Nat.succ_ne_self _) side1 (by simp))) ⟨⟨_, he⟩, hit'⟩ hk
  · have hit' : h'.IsStrIter s.heap.objs.size "str_ascii_iterator" x t 0 := by simpa [strIterType, ha] using hit
    exact h h' _ _ (fun A' hA => conv (WalksT.enumerateD (Draws.strAscii (A := A'.in1) hA s.heap.objs.size x t) (s.heap.objs.size + 1) (Nat.succ_ne_self _) side1 (by simp))) ⟨⟨_, he⟩, hit'⟩ hk

/-- what a segment of the generator leaves as it stood -/
structure GFrame (L ga : Addr) (s₀ s' : Shared) : Prop where
  heap : ∀ b o, b ≠ L → b ≤ ga → s₀.heap.get? b = some o → s'.heap.get? b = some o
  os : s'.os = s₀.os
  drawn : s'.drawn = s₀.drawn
  gens : s'.gens = s₀.gens
/-- what the generator wants of its waker -/
structure GRes (hB : Heap) (L ga : Addr) (s' s'' : Shared) : Prop where
  base : ∀ b o, hB.get? b = some o → s''.heap.get? b = some o
  own : ∀ b o, b = L ∨ ga < b → s'.heap.get? b = some o → s''.heap.get? b = some o
  gen : ∃ o, s''.heap.get? ga = some o
theorem GFrame.refl (L ga : Addr) (s : Shared) : GFrame L ga s s := ⟨fun _ _ _ _ e => e, rfl, rfl, rfl⟩
theorem GFrame.trans {L ga : Addr} {a b c : Shared} (x : GFrame L ga a b) (y : GFrame L ga b c) : GFrame L ga a c :=
  ⟨fun d o h1 h2 e => y.heap d o h1 h2 (x.heap d o h1 h2 e), y.os.trans x.os, y.drawn.trans x.drawn, y.gens.trans x.gens⟩
theorem GFrame.step {L ga : Addr} {s₀ s : Shared} (x : GFrame L ga s₀ s) {h' : Heap} {tk : Nat} (k : ∀ b o, b ≠ L → b ≤ ga → s.heap.get? b = some o → h'.get? b = some o) : GFrame L ga s₀ { s with heap := h', toks := tk } :=
  ⟨fun d o h1 h2 e => k d o h1 h2 (x.heap d o h1 h2 e), x.os, x.drawn, x.gens⟩

noncomputable def tupAt (h : Heap) (v : Value) (it : Int × List Nat) : Prop := ∃ d t u, v = .ref d ∧ h.get? d = some { cls := .type "tuple", data := .seq #[.int it.1 t, .str ⟨it.2.toArray⟩ u] }
noncomputable def GY (hB : Heap) (L ga : Addr) (its : List (Int × List Nat)) : Protocol := fun n s₀ v s' kap =>
  (∃ item, its[its.length - 1 - n]? = some item ∧ tupAt s'.heap v item) ∧ GFrame L ga s₀ s' ∧ ∀ s'', GRes hB L ga s' s'' → kap (.send .none) s''
noncomputable def GR (L ga : Addr) : GenEnd := fun n s₀ r s' => r = .ok (.ret .none) ∧ (n = 0 ∧ GFrame L ga s₀ s')

theorem its_at {α : Type} {l : List α} {a : α} {r : List α} (h : ∃ k, l.drop k = a :: r) : l[l.length - 1 - r.length]? = some a := by
  obtain ⟨k, h⟩ := h
  have h1 : l.length - k = r.length + 1 := by have := congrArg List.length h; simpa using this
  have h2 : l[k]? = some a := by have := congrArg (fun x => x[0]?) h; simpa using this
  have h3 : k + (r.length + 1) = l.length := by rw [← h1]; exact Nat.add_sub_cancel' (Nat.le_of_lt (Nat.lt_of_sub_pos (h1 ▸ Nat.succ_pos _)))
  have : l.length - 1 - r.length = k := by rw [← h3]; exact Nat.add_sub_cancel (n := k) (m := r.length)
  rw [this]; exact h2
theorem its_tail {α : Type} {l : List α} {a : α} {r : List α} (h : ∃ k, l.drop k = a :: r) : ∃ k, l.drop k = r := by
  obtain ⟨k, h⟩ := h
  exact ⟨k + 1, by have := congrArg List.tail h; simpa [List.tail_drop] using this⟩
/-- what is owed at a yield -/
noncomputable def YP (hB : Heap) (L ga : Addr) (s₀ : Shared) (item : Int × List Nat) (k : Shared → Prop) (v : Value) (s' : Shared) : Prop :=
  tupAt s'.heap v item ∧ GFrame L ga s₀ s' ∧ ∀ s'', GRes hB L ga s' s'' → k s''
theorem seg_yield' {w : World} {A : Around} {hB : Heap} {L ga : Addr} {its : List (Int × List Nat)} {c : Code} {fs : List Frame} {s s₀ : Shared} {env : Env} {K : Flow → Sem Fin} {H : Value → Sem Fin} {gd : Bool → Bool} {lv : List Value → List Value}
    {e : PySem.Expr} {ypos pos : Pos} {item : Int × List Nat} {rest : List (Int × List Nat)} (hits : ∃ k, its.drop k = item :: rest) (hfs : splitAtGen fs = none) (hgd : gd false = false) (hfg : fs.any Frame.guarded = false)
    (hco : env.scope.isCoroutine = false) (hi : interactive env = false)
    (h : wpAny (model PV w) (A.over c fs) (eval e env) (fun v s' => YP hB L ga s₀ item (fun s'' => Seg (model PV w) A (GR L ga) (GY hB L ga its) rest.length s'' c (K .next) fs s'') v s') (fun _ _ => False) s) :
    Seg (model PV w) A (GR L ga) (GY hB L ga its) (item :: rest).length s₀ c ((exec (.Expr (.Yield (some e) ypos) pos) env).wrap K H gd lv) fs s := by
  rw [List.length_cons]
  refine seg_Expr_Yield hfs hgd hfg (wpAny_mono h (fun v s' hv kap hk => ?_) fun _ _ x => x.elim) hco hi
  obtain ⟨h1, h2, h3⟩ := hv
  exact ⟨⟨item, its_at hits, h1⟩, h2, fun s'' hr => hk .none s'' (h3 s'' hr)⟩
/-- the generator's locals -/
noncomputable def gmap (x : PySem.Str) (tx : Tok) (esc : Bool) (last : Int) (tp : Tok) (chv : Option Value) : PySem.Str → Option Value := fun y =>
  if y = (PySem.Str.ofString "ch") then chv else if y = (PySem.Str.ofString "pos") then some (.int last tp) else if y = (PySem.Str.ofString "escape") then some (.bool esc) else if y = (PySem.Str.ofString "addr") then some (.str x tx) else none
theorem fr_congr {h₀ h : Heap} {L : Addr} {m m' : PySem.Str → Option Value} (F : Fr h₀ L h m) (e : m = m') : Fr h₀ L h m' := e ▸ F

section
variable {w : World} {A : Around} {hB : Heap} {ga : Addr} {its : List (Int × List Nat)} {fs : List Frame} {env : Env} {x : PySem.Str} {tx : Tok} {e it : Addr} {St : Nat → Heap → Prop} {Mid : Nat → Addr → Heap → Prop} {body : List Stmt} {p1 p2 pt : Pos} {k1 : Nat}
theorem genLoop {L : Addr} (hEL : env.locals = L) (hh : (A.over (.forLoop (.Tuple [.Name (PySem.Str.ofString "pos") p1, .Name (PySem.Str.ofString "ch") p2] k1 pt) (.ref e) body [] env) fs).handled = none)
    (W : ∀ A' : Around, A'.handled = none → WalksT PV w A' e [e, it] [e, it] x.cps.size (SignT x) St Mid) (he : ga < e) (hi : ga < it) (hLe : L ≠ e) (hLi : L ≠ it)
    (hB1 : hB.objs.size ≤ ga)
    (hk1 : env.kindOf (PySem.Str.ofString "pos") = some .local) (hk2 : env.kindOf (PySem.Str.ofString "ch") = some .local) (hp : (env.scope.kind == .class || (env.scope.kind == .module && env.locals != env.globals)) = false)
    (turn : ∀ (i : Nat) (c : Nat) esc last rest t u s s₀, x.cps[i]? = some c → Fr hB L s.heap (gmap x tx esc (i : Int) t (some (.str ⟨#[c]⟩ u))) → St (i + 1) s.heap → GFrame L ga s₀ s →
      (∃ k, its.drop k = escG i esc last (c :: rest)) →
      (∀ esc' s' s₀' t' chv', Fr hB L s'.heap (gmap x tx esc' (i : Int) t' chv') → St (i + 1) s'.heap → GFrame L ga s₀' s' → (∃ k, its.drop k = escG (i + 1) esc' i rest) →
        Seg (model PV w) A (GR L ga) (GY hB L ga its) (escG (i + 1) esc' i rest).length s₀' (.forLoop (.Tuple [.Name (PySem.Str.ofString "pos") p1, .Name (PySem.Str.ofString "ch") p2] k1 pt) (.ref e) body [] env)
          ((model PV w).den (.forLoop (.Tuple [.Name (PySem.Str.ofString "pos") p1, .Name (PySem.Str.ofString "ch") p2] k1 pt) (.ref e) body [] env)) fs s') →
      Seg (model PV w) A (GR L ga) (GY hB L ga its) (escG i esc last (c :: rest)).length s₀ (.forLoop (.Tuple [.Name (PySem.Str.ofString "pos") p1, .Name (PySem.Str.ofString "ch") p2] k1 pt) (.ref e) body [] env)
        ((execs body env).wrap (LoopK (.Tuple [.Name (PySem.Str.ofString "pos") p1, .Name (PySem.Str.ofString "ch") p2] k1 pt) (.ref e) body [] env) (LoopH env) id id) fs s)
    (done : ∀ esc last t chv s s₀, Fr hB L s.heap (gmap x tx esc last t chv) → GFrame L ga s₀ s → (∃ k, its.drop k = escG x.cps.size esc last []) →
      Seg (model PV w) A (GR L ga) (GY hB L ga its) (escG x.cps.size esc last []).length s₀ (.block [] env) ((model PV w).den (.block [] env)) fs s) :
    ∀ (rest : List Nat) (i : Nat) (esc : Bool) (last : Int) (t : Tok) (chv : Option Value) (s s₀ : Shared), x.cps.toList.drop i = rest → i + rest.length = x.cps.size →
      Fr hB L s.heap (gmap x tx esc last t chv) → St i s.heap → GFrame L ga s₀ s → (∃ k, its.drop k = escG i esc last rest) →
      Seg (model PV w) A (GR L ga) (GY hB L ga its) (escG i esc last rest).length s₀ (.forLoop (.Tuple [.Name (PySem.Str.ofString "pos") p1, .Name (PySem.Str.ofString "ch") p2] k1 pt) (.ref e) body [] env)
        ((model PV w).den (.forLoop (.Tuple [.Name (PySem.Str.ofString "pos") p1, .Name (PySem.Str.ofString "ch") p2] k1 pt) (.ref e) body [] env)) fs s := by
  subst hEL
  intro rest
  have hLg : ∀ {b : Addr}, b ∈ [e, it] → ¬ b ≤ ga := fun {b} hb hle => by
    rcases List.mem_cons.mp hb with rfl | hb
    · exact absurd hle (Nat.not_le_of_lt he)
    · rw [List.mem_singleton.mp hb] at hle; exact absurd hle (Nat.not_le_of_lt hi)
  have hLw : env.locals ∉ [e, it] := fun hb => by
    rcases List.mem_cons.mp hb with hb | hb
    · exact hLe hb
    · exact hLi (List.mem_singleton.mp hb)
  have hOld : ∀ b o, hB.get? b = some o → b ∉ [e, it] := fun b o eo hb => hLg hb (Nat.le_trans (Nat.le_of_lt (Heap.lt_size eo)) hB1)
  have nextF : ∀ {h h' : Heap} {m : PySem.Str → Option Value}, Fr hB env.locals h m → (∀ b o, b ∉ [e, it] → h.get? b = some o → h'.get? b = some o) → Fr hB env.locals h' m := fun F hk =>
    ⟨F.ns.at' fun o eo => hk _ o hLw eo, fun b o eo => hk b o (hOld b o eo) (F.keep b o eo), F.above⟩
  induction rest with
  | nil =>
    intro i esc last t chv s s₀ hd hlen F st G hits
    refine seg_forLoop ?_
    have hin : i = x.cps.size := by simpa using hlen
    subst hin
    refine (W _ hh).done _ _ _ st fun h' tk hk => ?_
    exact done esc last t chv _ s₀ (nextF F hk) (G.step fun b o h1 h2 eo => hk b o (fun hb => hLg hb h2) eo) hits
  | cons c rest ih =>
    intro i esc last t chv s s₀ hd hlen F st G hits
    refine seg_forLoop ?_
    have hlt : i < x.cps.size := by simp at hlen; omega
    have hc : x.cps[i]? = some c := by
      have : x.cps.toList[i]? = some c := by
        have := congrArg (fun l => l[0]?) hd
        simpa using this
      rwa [Array.getElem?_toList] at this
    have hd' : x.cps.toList.drop (i + 1) = rest := by
      have := congrArg List.tail hd
      simpa [List.tail_drop] using this
    refine (W _ hh).item i _ _ _ hlt st fun T vals h₁ tk₁ hP _ hT hMid hk₁ => ?_
    obtain ⟨tq, u, c', hc', rfl⟩ := hP
    have : c' = c := by rw [hc] at hc'; exact (Option.some.inj hc').symm
    subst this
    refine (W _ hh).go _ k1 pt i T _ _ _ hMid fun h₂ hst₂ hk₂ => ?_
    have ht₂ : h₂.IsTuple T #[.int i tq, .str ⟨#[c']⟩ u] := let ⟨o, ho, r⟩ := hT; ⟨o, hk₂ T o ((W _ hh).apart i T h₁ hMid) ho, r⟩
    refine wpAny_assign_Tuple hh ht₂ rfl rfl fun h₃ hx₃ => ?_
    replace hx₃ : Heap.ExtBut h₂.objs.size h₂ h₃ := hx₃
    have up₃ : ∀ b o, h₂.get? b = some o → h₃.get? b = some o := fun b o y => hx₃ b o (Nat.ne_of_lt (Heap.lt_size y)) y
    have F₃ := nextF F fun b o hb y => up₃ b o (hk₂ b o hb (hk₁ b o hb y))
    show wpAny _ _ (do holding [_] (assign (.Name _ p1) env _); holding [] (assign (.Name _ p2) env _); pure ()) _ _ _
    refine wpAny_bind (wpAny_holding (wpAny_assign_Name (wpAny_storeName_local hk1 F₃.ns (fun h₄ hn₄ hs₄ => ?_) hp)))
    replace hs₄ : Heap.SameBut env.locals h₃ h₄ := hs₄
    have F₄ := F₃.set hn₄ hs₄
    refine wpAny_bind (wpAny_holding (wpAny_assign_Name (wpAny_storeName_local hk2 F₄.ns (fun h₅ hn₅ hs₅ => wpAny_pure ?_) hp)))
    replace hs₅ : Heap.SameBut env.locals h₄ h₅ := hs₅
    have F₅ := F₄.set hn₅ hs₅
    have up₅ : ∀ b o, b ≠ env.locals → h₃.get? b = some o → h₅.get? b = some o := fun b o hb y => hs₅.extBut b o hb (hs₄.extBut b o hb y)
    have hst₅ : St (i + 1) h₅ := (W _ hh).frame _ _ _ hst₂ fun b hb o y => up₅ b o (fun q => hLw (q ▸ hb)) (up₃ b o y)
    refine turn i c' esc last rest tq u _ s₀ hc ?_ hst₅ ?_ hits ?_
    · refine fr_congr F₅ ?_
      funext y
      simp only [gmap]
      by_cases q1 : y = PySem.Str.ofString "ch"
      · simp only [if_pos q1]
      · simp only [if_neg q1]
        by_cases q2 : y = PySem.Str.ofString "pos"
        · simp only [if_pos q2]
        · simp only [if_neg q2]
    · exact G.step fun b o h1 h2 y => up₅ b o h1 (up₃ b o (hk₂ b o (fun hb => hLg hb h2) (hk₁ b o (fun hb => hLg hb h2) y)))
    · intro esc' s' s₀' t' chv' F' st' G' hits'
      exact ih (i + 1) esc' i t' chv' s' s₀' hd' (by simp at hlen; omega) F' st' G' hits'
end
end
section
open PySem PySem.W PySem.Calls PyProof.Rows
set_option Elab.async false
set_option maxRecDepth 100000
theorem reset_G2 : True := by w_top off; trivial
noncomputable def GenLive (w : World) (outer : List Env) (hB : Heap) (L ga : Addr) (g : Nat) (its : List (Int × List Nat)) (k : Nat) (s : Shared) : Prop :=
  s.heap.IsGen ga g ∧ ∃ gs, s.gens[g]? = some gs ∧ gs.bare = true ∧ ∀ s'', GRes hB L ga s s'' → gs.Goes (model PV w) (Lv 370 outer).in1 (GR L ga) (GY hB L ga its) (its.length - k) (.send .none) s''
theorem enterGen {w : World} {outer : List Env} {s : Shared} {mg mb : PySem.Str → Option Value} {mean : ExcName → Option Value} {dp : Nat} (m : PySem.Str → Option Value)
    {R : Result → Shared → Prop} {name qual : PySem.Str} {params : Arguments} {body : List Stmt} {scope : Scope} {dV kV doc pm cdv ct oc : Value} {an od : Option Addr} {osl : Array (Option Value)} {f : Addr} {args : List Value} {binds : List (PySem.Str × Value)}
    (X : (hd.heap_39 w.params).In s.heap) (T : TopV mg mb mean s.heap)
    (ho : (hd.heap_39 w.params).lookup f = some ⟨oc, od, .func (fnOf name qual params body scope dV kV doc pm an cdv ct), osl⟩) (hcd : codeIn (hd.heap_39 w.params) cdv qual = true) (hroom : dp < recursionLimit)
    (hbind : BindsTo s (fnOf name qual params body scope dV kV doc pm an cdv ct) ⟨args, []⟩ binds) (hloc : ∀ y ∈ binds, scope.names.lookup y.1 = some .local) (hm : (fun y => binds.reverse.lookup y) = m)
    (h : ∀ h₁ tk o nm qn, Fr s.heap s.heap.objs.size h₁ m → h₁.objs.size = s.heap.objs.size + 1 → o = ({ cls := .type "generator", data := .fields #[.int s.gens.size 0, nm, qn] } : Obj) →
      R (.ok (.ret (.ref (s.heap.objs.size + 1)))) { s with heap := h₁.push o, gens := s.gens.push (.fresh (.func body (envOf qual scope s.heap.objs.size f cdv))), toks := tk })
    (hcell : ∀ x ∈ scope.names, x.2 ≠ .cell) (hco : scope.isCoroutine = false) (hgen : scope.isGenerator = true) (hk : scope.kind = .function) : codeAny (model PV w) (Lv dp outer) (.call (.ref f) ⟨args, []⟩) R s := by
  refine codeAny_call_generator (fd := fnOf name qual params body scope dV kV doc pm an cdv ct) (body := body) hroom (X _ _ ho) rfl hco hgen rfl (codeRec_of X hcd) ?_
  refine hbind _ _ _ _ ?_
  refine wpAny_newFunctionEnv hcell hloc (fun h₀ hns hsb => ?_) hk
  have hsz : h₀.objs.size = s.heap.objs.size + 1 := by rw [hsb.1]; exact Heap.size_push ..
  have hkp : ∀ b o, s.heap.get? b = some o → h₀.get? b = some o := fun b o e => hsb.extBut b o (Nat.ne_of_lt (Heap.lt_size e)) (Heap.get?_push_of_some _ e)
  refine ⟨T.nolimit.keeps hkp, ?_⟩
  show R (.ok (.ret (.ref h₀.objs.size))) _
  rw [hsz]
  exact h h₀ _ _ _ _ ⟨hm ▸ hns, hkp, Nat.le_refl _⟩ hsz rfl

theorem gmap_esc (x : PySem.Str) (tx t : Tok) (b b' : Bool) (last : Int) (chv : Option Value) : (fun y => if y = (PySem.Str.ofString "escape") then some (Value.bool b') else gmap x tx b last t chv y) = gmap x tx b' last t chv := by
  funext y
  simp only [gmap]
  by_cases q3 : y = PySem.Str.ofString "escape"
  · subst q3; rfl
  · simp only [if_neg q3]
theorem str_cat (c : Nat) : PySem.Str.ofString "\\" ++ (⟨#[c]⟩ : PySem.Str) = ⟨#[92, c]⟩ := by
  rw [show PySem.Str.ofString "\\" = (⟨#[92]⟩ : PySem.Str) from by decide +kernel]; rfl
theorem gmap_start (x : PySem.Str) (tx tk : Tok) : (fun y => if y = (PySem.Str.ofString "escape") then some (Value.bool false) else if y = (PySem.Str.ofString "pos") then some (Value.int 0 tk) else List.lookup y [(PySem.Str.ofString "addr", Value.str x tx)]) = gmap x tx false 0 tk none := by
  funext y
  simp only [gmap, List.lookup]
  by_cases q1 : y = PySem.Str.ofString "ch"
  · subst q1; rfl
  · by_cases q2 : y = PySem.Str.ofString "pos"
    · subst q2; rfl
    · by_cases q3 : y = PySem.Str.ofString "escape"
      · subst q3; rfl
      · by_cases q4 : y = PySem.Str.ofString "addr"
        · subst q4; rfl
        · simp only [if_neg q1, if_neg q2, if_neg q3, if_neg q4]
          rw [beq_eq_false_iff_ne.mpr q4]
theorem bs_eq (c : Nat) : ((⟨#[c]⟩ : PySem.Str) == PySem.Str.ofString "\\") = decide (c = 92) := by
  rw [show PySem.Str.ofString "\\" = (⟨#[92]⟩ : PySem.Str) from by decide +kernel]
  by_cases h : c = 92
  · subst h; decide
  · rw [decide_eq_false h]
    refine beq_eq_false_iff_ne.mpr fun e => h ?_
    have := congrArg (fun s : PySem.Str => s.cps[0]?) e
    simpa using this
theorem seg_block_nil {w : World} {A : Around} {R : GenEnd} {Y : Protocol} {n : Nat} {s₀ s : Shared} {env : Env} {k : Result → Sem Fin} {h : Option Value} {g : Bool} {l : List Value} {c₁ : Code} {p₁ : Pos} {kp : List Value} {fs : List Frame}
    (hk : Seg (model PV w) A R Y n s₀ c₁ (k (.ok .next)) fs s) : Seg (model PV w) A R Y n s₀ (.block [] env) ((model PV w).den (.block [] env)) (.ret k h g l c₁ p₁ kp :: fs) s :=
  seg_leaf (.ok .next) hk
local macro_rules | `(tactic| walk_at "call type:enumerate") => `(tactic| (refine enum_str ?_; intro hE StE MidE WE stE keepE; (with_reducible rename Fr _ _ _ _ => kF); (with_reducible rename News _ _ _ _ => kN); (have kF2 := Fr.keeps kF keepE); (have kN2 := News.grown kN keepE)))
set_option maxHeartbeats 4000000
theorem iter_call {w : World} {outer : List Env} {s : Shared} {hB : Heap} {mg mb : PySem.Str → Option Value} {mean : ExcName → Option Value}
    (kB : ∀ b o, hB.get? b = some o → s.heap.get? b = some o) (szB : hB.objs.size ≤ s.heap.objs.size) (X : (hd.heap_39 w.params).In hB) (T : TopV mg mb mean hB) (x : PySem.Str) (tx : Tok) :
    codeAny (model PV w) (Lv 370 outer) (.call (.ref 21) ⟨[.str x tx], []⟩) (fun r s' => ∃ L ga g, r = .ok (.ret (.ref ga)) ∧ Ext s s' ∧ L = s.heap.objs.size ∧ ga = L + 1 ∧ g = s.gens.size ∧
      GenLive w outer hB L ga g (escG 0 false 0 x.cps.toList) 0 s') s := by
  have X0 := X.keeps kB
  have T0 := T.keeps kB
  k_dflt (refine' enterGen (fun n => List.lookup n [(Str.ofString "addr", Value.str x tx)]) ?k2 ?k3 ?k6 ?k7 ?k8 ?k9 ?kB ?kM ?_ ?c5 ?c2 ?c3 ?c4; (case k2 => k_asm); (case k3 => k_asm); (case k6 => k_is); (case k7 => k_is); (case k8 => k_room); (case k9 => exact BindsTo.of_eq rfl); (case kB => exact locs rfl); (case kM => exact rfl); (case c5 => decide); (case c2 => exact rfl); (case c3 => exact rfl); (case c4 => exact rfl); k_whole)
  intro h₁ tk o nm qn F hsz ho
  refine ⟨_, _, _, rfl, ⟨fun b o e => Heap.get?_push_of_some _ (F.keep b o e), rfl, rfl, fun hg => hg.push rfl⟩, rfl, rfl, rfl, ?_, _, Array.getElem?_push_size, rfl, fun s'' res => ⟨rfl, ?_⟩⟩
  · exact ⟨o, nm, qn, by rw [← hsz]; exact Heap.get?_push_size _ (by rw [ho]; rfl), by rw [ho], by rw [ho], by rw [ho]⟩
  rw [Nat.sub_zero]
  have hns : ∀ o', h₁.get? s.heap.objs.size = some o' → s''.heap.get? s.heap.objs.size = some o' := fun o' e => res.own _ o' (.inl rfl) (Heap.get?_push_of_some _ e)
  generalize hLs : s.heap.objs.size = L at *
  have F'' : Fr hB L s''.heap (fun n => List.lookup n [(Str.ofString "addr", Value.str x tx)]) := ⟨F.ns.at' hns, res.base, szB⟩
  clear F hns X0 T0
  obtain ⟨news, N'', keepN⟩ := all_own (L := L) res.base
  refine seg_func (seg_execs_cons (seg_exec ?_))
  (try dsimp only)
  k_steps
  dsimp only
  refine seg_execs_cons (seg_exec ?_)
  k_steps
  dsimp only
  refine seg_execs_cons (seg_For (fun _ => rfl) ?_)
  k_steps
  rename_i F1 N1 hE StE MidE WE stE keepE F2 N2
  refine (WE _ rfl).self 0 _ _ _ stE ?_
  intro p
  have k1 := keepN _ _ _ F1 N1 (fun p hp => hp)
  have k2 : ∀ b o, b ≠ L → s''.heap.get? b = some o → hE.get? b = some o := keepN _ _ _ F2 N2 (fun p hp => hp)
  obtain ⟨og, hog⟩ := res.gen
  have hgs := Heap.lt_size (k1 (L + 1) og (Nat.succ_ne_self L) hog)
  clear res N2 keepN N1 F1 k1
  clear ho hLs hsz
  have hbL : ∀ b ∈ [_, _], b ≠ L := fun b hb => by
    rcases List.mem_cons.mp hb with e | hb
    · exact e ▸ Nat.ne_of_gt (Nat.lt_of_succ_lt (Nat.lt_succ_of_lt hgs))
    · rw [List.mem_singleton.mp hb]; exact Nat.ne_of_gt (Nat.lt_of_succ_lt hgs)
  have hbG : ∀ b ∈ [_, _], L + 1 < b := fun b hb => by
    rcases List.mem_cons.mp hb with e | hb
    · exact e ▸ Nat.lt_succ_of_lt hgs
    · rw [List.mem_singleton.mp hb]; exact hgs
  apply genLoop (w := w) (A := (Lv 370 outer).in1) (hB := hB) (ga := L + 1) (its := escG 0 false 0 x.cps.toList) (tx := tx)
  case W => exact WE
  case hEL => rfl
  case hh => rfl
  case hk1 => rfl
  case hk2 => rfl
  case hp => rfl
  case he => exact Nat.lt_succ_of_lt hgs
  case hi => exact hgs
  case hLe => exact Nat.ne_of_lt (Nat.lt_of_succ_lt (Nat.lt_succ_of_lt hgs))
  case hLi => exact Nat.ne_of_lt (Nat.lt_of_succ_lt hgs)
  case hB1 => omega
  case turn =>
    intro i c esc last rest t u s₁ s₀ hc F st G hits ih
    obtain ⟨news, N, keepN⟩ := all_own (L := L) F.keep
    cases esc with
    | false =>
      refine seg_execs_cons (seg_If ?_)
      k_steps
      refine seg_execs_cons (seg_If ?_)
      k_steps
      · rename_i hbs
        rw [bs_eq] at hbs
        have hc92 := of_decide_eq_true hbs
        subst hc92
        rw [show escG i false last (92 :: rest) = escG (i + 1) true i rest from by simp [escG]] at hits ⊢
        refine seg_execs_cons (seg_exec ?_)
        k_steps
        rename_i F' N'
        have kk := keepN _ _ _ F' N' (fun p hp => hp)
        dsimp only
        exact seg_execs_nil (seg_again rfl (ih true _ s₀ _ _ (fr_congr F' (gmap_esc ..)) ((WE ((Lv 370 outer).in1) rfl).frame _ _ _ st fun b hb o e => kk b o (hbL b hb) e) (G.step fun b o h1 _ e => kk b o h1 e) hits))
      · rename_i hbs
        rw [bs_eq] at hbs
        have hc92 := of_decide_eq_false hbs
        have eG : escG i false last (c :: rest) = ((i : Int), [c]) :: escG (i + 1) false i rest := by simp [escG, hc92]
        rw [eG] at hits ⊢
        refine seg_execs_cons (seg_yield' hits rfl rfl rfl rfl rfl ?_)
        k_steps
        rename_i F' N' _
        have kk := keepN _ _ _ F' N' (fun p hp => .tail _ hp)
        refine ⟨⟨_, _, _, rfl, (N' _ (.head _)).1⟩, G.step fun b o h1 _ e => kk b o h1 e, fun s₂ res => ?_⟩
        dsimp only
        exact seg_execs_nil (seg_again rfl (ih false _ s₂ _ _ ⟨F'.ns.at' fun o e => res.own L o (.inl rfl) e, res.base, F'.above⟩
          ((WE ((Lv 370 outer).in1) rfl).frame _ _ _ st fun b hb o e => res.own b o (.inr (hbG b hb)) (kk b o (hbL b hb) e)) (GFrame.refl ..) (its_tail hits)))
    | true =>
      refine seg_execs_cons (seg_If ?_)
      k_steps
      have eG : escG i true last (c :: rest) = ((i : Int), [92, c]) :: escG (i + 1) false i rest := rfl
      rw [eG] at hits ⊢
      refine seg_execs_cons (seg_yield' hits rfl rfl rfl rfl rfl ?_)
      k_steps
      rename_i F' N' _
      rw [str_cat] at N'
      have kk := keepN _ _ _ F' N' (fun p hp => .tail _ hp)
      refine ⟨⟨_, _, _, rfl, (N' _ (.head _)).1⟩, G.step fun b o h1 _ e => kk b o h1 e, fun s₂ res => ?_⟩
      have F2' : Fr hB L s₂.heap _ := ⟨F'.ns.at' fun o e => res.own L o (.inl rfl) e, res.base, F'.above⟩
      have st2 := (WE ((Lv 370 outer).in1) rfl).frame _ _ s₂.heap st fun b hb o e => res.own b o (.inr (hbG b hb)) (kk b o (hbL b hb) e)
      obtain ⟨news2, N2, keepN2⟩ := all_own (L := L) res.base
      clear F' N' kk keepN res G st
      dsimp only
      refine seg_execs_cons (seg_exec ?_)
      k_steps
      rename_i F' N'
      have kk := keepN2 _ _ _ F' N' (fun p hp => hp)
      dsimp only
      exact seg_execs_nil (seg_again rfl (ih false _ s₂ _ _ (fr_congr F' (gmap_esc ..)) ((WE ((Lv 370 outer).in1) rfl).frame _ _ _ st2 fun b hb o e => kk b o (hbL b hb) e) ((GFrame.refl L (L + 1) s₂).step fun b o h1 _ e => kk b o h1 e) (its_tail hits)))
  case done =>
    intro esc last t chv s₁ s₀ F G hits
    obtain ⟨news, N, keepN⟩ := all_own (L := L) F.keep
    refine seg_block_nil ?_
    cases esc with
    | false =>
      refine seg_execs_cons (seg_If ?_)
      k_steps
      exact seg_execs_nil (seg_execs_nil (seg_end (.ok (.ret .none)) ⟨rfl, rfl, G⟩))
    | true =>
      refine seg_execs_cons (seg_If ?_)
      k_steps
      have eG : escG x.cps.size true last [] = [(last, [92])] := rfl
      rw [eG] at hits ⊢
      refine seg_execs_cons (seg_yield' hits rfl rfl rfl rfl rfl ?_)
      k_steps
      rename_i F' N' _
      rw [show PySem.Str.ofString "\\" = (⟨#[92]⟩ : PySem.Str) from by decide +kernel] at N'
      have kk := keepN _ _ _ F' N' (fun p hp => .tail _ hp)
      refine ⟨⟨_, _, _, rfl, (N' _ (.head _)).1⟩, G.step fun b o h1 _ e => kk b o h1 e, fun s₂ res => ?_⟩
      exact seg_execs_nil (seg_execs_nil (seg_end (.ok (.ret .none)) ⟨rfl, rfl, GFrame.refl ..⟩))
  all_goals first
    | exact stE
    | exact ⟨0, rfl⟩
    | exact fr_congr F2 (gmap_start ..)
    | exact ⟨fun b o h1 h2 e => k2 b o h1 e, rfl, rfl, rfl⟩
    | (simp; done)
    | skip
  all_goals trace_state
end
section
open PySem PySem.W PySem.Calls PyProof.Rows
set_option Elab.async false
set_option maxRecDepth 100000
theorem wpAny_lv {α : Type} {M : Model} {A : Around} {t : Sem α} {Q : α → Shared → Prop} {E : Value → Shared → Prop} {s : Shared} {dp : Nat} {outer : List Env} (h : wpAny M (Lv dp outer) t Q E s)
    (h1 : A.handled = none) (h2 : A.frames = some outer) (h3 : A.guards = some []) (h4 : A.depth ≤ dp) (h5 : A.units ≤ dp) : wpAny M A t Q E s :=
  fun Γ p hΓ => h Γ p ⟨hΓ.1.trans h1, Nat.le_trans hΓ.2.1 h4, fun l e => by cases e; exact hΓ.2.2.1 _ h2, fun g e => by cases e; exact hΓ.2.2.2.1 _ h3, Nat.le_trans hΓ.2.2.2.2 h5⟩

section
variable {w : World} {A : Around} {E : Value → Shared → Prop} {s : Shared}
/-- one draw from a def's generator: what the segment gives, and that it is left bare -/
theorem next_gen {a : Addr} {g n : Nat} {gs : GenState} {P : Nat → Shared → Shared → Prop} {Y : Protocol} {Q : Option Value → Shared → Prop} (hh : A.handled = none) (hl : s.heap.NoLimit) (hroom : A.depth < recursionLimit)
    (hg : s.heap.IsGen a g) (hgs : s.gens[g]? = some gs)
    (hgo : gs.Goes (model PV w) A.in1 (fun n s₀ r s₁ => r = .ok (.ret .none) ∧ P n s₀ s₁) Y n (.send .none) (s.setGen g .running))
    (hY : ∀ v s₁ gs', gs'.bare = true → Y (n - 1) (s.setGen g .running) v s₁ (fun r' s'' => match n with
        | 0 => False
        | m + 1 => gs'.Goes (model PV w) A.in1 (fun n s₀ r s₁ => r = .ok (.ret .none) ∧ P n s₀ s₁) Y m r' s'') → Q (some v) (s₁.setGen g gs'))
    (hP : ∀ s₁, P n (s.setGen g .running) s₁ → ∀ h', (∀ b o, s₁.heap.get? b = some o → h'.get? b = some o) → Q none { s₁.setGen g .finished with heap := h' }) :
    wpAny (model PV w) A (pyNext (.ref a)) Q E s := by
  unfold pyNext
  refine wpAny_bind (wpAny_attempt (wpAny_callSpecial?_slot (name := PySem.Str.ofString "__next__") hg.typeIs slot_gen_next (wpAny_call_entry slot_gen_next hg.typeIs entry_gen_next ?_ (args_gen_next _))))
  show wpAny _ _ (Builtin.Generator.genWake (.ref a) (.send .none)) _ _ s
  unfold Builtin.Generator.genWake
  refine wpAny_bind (wpAny_holding (wpAny_genNumber hg (wpAny_bind (wpAny_genState hgs ?_))))
  have stop : ∀ s₁ : Shared, P n (s.setGen g .running) s₁ → ∀ {k : Unit → Sem Fin}, wpAny (model PV w) A.in1 (newExc (.type "StopIteration") [] >>= fun e => raiseNew e >>= k)
      (fun _ _ => False) (fun e s' => ∃ h' b o, e = .ref b ∧ s' = { s₁.setGen g .finished with heap := h' } ∧ h'.get? b = some o ∧ o.cls = .type "StopIteration" ∧ ∀ b o, s₁.heap.get? b = some o → h'.get? b = some o) (s₁.setGen g .finished) := fun s₁ _ k => by
    refine wpAny_bind ?_
    simp only [newExc, newTuple]
    refine wpAny_bind (wpAny_newObj_type ?_ (by size_fits))
    refine wpAny_bind (m := firstArgMember _ _) (wpAny_of_eq (a := Value.none) (by first | rfl | (simp only [firstArgMember]; rfl)) ?_)
    refine wpAny_newObj_type ?_ (by size_fits)
    simp only [raiseNew]
    refine wpAny_bind (wpAny_bind (wpAny_handled ?_))
    rw [show A.in1.handled = none from hh]
    exact wpAny_throw ⟨_, _, _, rfl, rfl, Heap.get?_push_size _ rfl, rfl, fun b o e => Heap.get?_push_of_some _ (Heap.get?_push_of_some _ e)⟩
  cases gs with
  | running => exact hgo.elim
  | finished => exact hgo.elim
  | _ =>
    refine wpAny_bind (wpAny_roomToWake hl hroom ?_)
    show wpAny _ A.in1 (.resume g (.send .none) [] _) _ _ s
    refine wpAny_resumeQ hgs hgo (fun x s₁ hx => ?_) (fun v s₁ gs' hb hv => ?_)
    · obtain ⟨rfl, hp⟩ := hx
      refine wpAny_mono (stop s₁ hp) (fun _ _ x => x.elim) fun e s' he => ?_
      obtain ⟨h', b, o, rfl, rfl, ho, hc, hk⟩ := he
      refine wpAny_bind (wpAny_isInstance (T := "StopIteration") (b := true) ⟨o, ho, hc⟩ isSubtype_stop ?_)
      exact wpAny_pure (hP s₁ hp h' hk)
    · exact wpAny_pure ⟨v, rfl, wpAny_pure (hY v s₁ gs' hb hv)⟩
end

/-- os, draws and the generators' bareness are as they were -/
structure Sib (s s' : Shared) : Prop where
  os : s'.os = s.os
  drawn : s'.drawn = s.drawn
  gens : AllBare s.gens → AllBare s'.gens
theorem Sib.refl (s : Shared) : Sib s s := ⟨rfl, rfl, id⟩
theorem Sib.trans {a b c : Shared} (x : Sib a b) (y : Sib b c) : Sib a c := ⟨y.os.trans x.os, y.drawn.trans x.drawn, fun g => y.gens (x.gens g)⟩
theorem Ext.sib {s s' : Shared} (x : Ext s s') : Sib s s' := ⟨x.os, x.drawn, x.gens⟩
theorem bare_set {G : Array GenState} {g : Nat} {x : GenState} (h : AllBare G) (hx : x.bare = true) : AllBare (G.setIfInBounds g x) := fun y hy => by
  rcases Array.mem_or_eq_of_mem_setIfInBounds hy with hy | rfl
  · exact h y hy
  · exact hx

theorem all_own' {hB : Heap} {L : Addr} {h : Heap} (adr : List Addr) (k : ∀ b o, hB.get? b = some o → h.get? b = some o) :
    ∃ own, News hB L h own ∧ (∀ p ∈ own, ∀ b ∈ adr, p.1 ≠ b) ∧ ∀ h' m' news', Fr hB L h' m' → News hB L h' news' → (∀ p ∈ own, p ∈ news') → ∀ b o, b ≠ L → b ∉ adr → h.get? b = some o → h'.get? b = some o := by
  refine ⟨ownOf hB ((List.range h.objs.size).filter (fun b => b != L && !adr.contains b)) h, news_ownOf (by simp), fun p hp b hb e => ?_, fun h' m' news' F' N' sub b o hb hba e => ?_⟩
  · obtain ⟨c, hc, q⟩ := List.mem_filterMap.mp hp
    have hcp : c = p.1 := by
      split at q
      · cases hq : h.get? c with
        | none => rw [hq] at q; cases q
        | some o => rw [hq] at q; cases q; rfl
      · cases q
    subst hcp
    have := (List.mem_filter.mp hc).2
    rw [e] at this
    simp [hb] at this
  cases hn : hB.get? b with
  | some o₀ =>
    have := k b o₀ hn
    rw [e] at this
    cases this
    exact F'.keep b _ hn
  | none => exact (N' _ (sub _ (mem_ownOf (by simp; exact ⟨Heap.lt_size e, hb, hba⟩) hn e))).1

theorem go_gen {M : Model} {A : Around} {elts : List PySem.Expr} {k : Nat} {pos : Pos} {ga d : Addr} {g : Nat} {s : Shared} {Q : Unit → Shared → Prop} {E : Value → Shared → Prop} (hg : s.heap.IsGen ga g) (h : Q () s) :
    wpAny M A (letOwnedTupleGo (.Tuple elts k pos) (.ref ga) (.ref d)) Q E s := by
  obtain ⟨o, nm, qn, ho, hc, hd, _⟩ := hg
  show wpAny M A (load ga >>= _) Q E s
  refine wpAny_bind (wpAny_load ho ?_)
  simp only [hc, hd]
  exact wpAny_pure h

/-- a turn of a loop over a generator goes on -/
noncomputable def GEnd (hB : Heap) (Lc : Addr) (J : (PySem.Str → Option Value) → List (Addr × Obj) → Prop) (own : List (Addr × Obj)) (adr : List Addr) (s₁ s₂ : Shared) : Prop :=
  ∃ h' tk m₂ news₂, s₂ = { s₁ with heap := h', toks := tk } ∧ Fr hB Lc h' m₂ ∧ News hB Lc h' (news₂ ++ own) ∧ news₂.map (·.1) = adr ∧ J m₂ news₂

theorem for_gen {w : World} {outer : List Env} {A : Around} {hB : Heap} {L ga : Addr} {g : Nat} {its : List (Int × List Nat)} {env : Env} {Lc : Addr} (hEL : env.locals = Lc) {body : List Stmt} {p1 p2 pt : Pos} {k1 : Nat} {R : Result → Shared → Prop} {s : Shared}
    (J : Nat → (PySem.Str → Option Value) → List (Addr × Obj) → Prop) {m : PySem.Str → Option Value} {news : List (Addr × Obj)}
    (hA1 : A.handled = none) (hA2 : A.frames = some outer) (hA3 : A.guards = some []) (hA4 : A.depth ≤ 370) (hA5 : A.units ≤ 370) (nl : hB.NoLimit)
    (hL : ga = L + 1) (hLc : Lc < L) (hBL : hB.objs.size ≤ L) (lt : ∀ p ∈ news, p.1 < L)
    (live : GenLive w outer hB L ga g its 0 s) (F : Fr hB Lc s.heap m) (N : News hB Lc s.heap news) (hJ : J 0 m news)
    (hk1 : env.kindOf (PySem.Str.ofString "pos") = some .local) (hk2 : env.kindOf (PySem.Str.ofString "ch") = some .local) (hp : (env.scope.kind == .class || (env.scope.kind == .module && env.locals != env.globals)) = false)
    (turn : ∀ k item m₁ news₁ own (s₁ : Shared) t u, its[k]? = some item → news₁.map (·.1) = news.map (·.1) → J k m₁ news₁ →
      Fr hB Lc s₁.heap (fun y => if y = (PySem.Str.ofString "ch") then some (.str ⟨item.2.toArray⟩ u) else if y = (PySem.Str.ofString "pos") then some (.int item.1 t) else m₁ y) →
      News hB Lc s₁.heap (news₁ ++ own) → (∀ p ∈ own, ∀ b ∈ news.map (·.1), p.1 ≠ b) → Sib s s₁ →
      wpAny (model PV w) A (execs body env) (fun f s₂ => match f with
        | .ret v => R (.ok (.ret v)) s₂
        | .brk => R (.ok .next) s₂
        | _ => GEnd hB Lc (J (k + 1)) own (news.map (·.1)) s₁ s₂) (fun _ _ => False) s₁)
    (done : ∀ m₁ news₁ s₁, news₁.map (·.1) = news.map (·.1) → J its.length m₁ news₁ → Fr hB Lc s₁.heap m₁ → News hB Lc s₁.heap news₁ → Sib s s₁ → R (.ok .next) s₁) :
    codeAny (model PV w) A (.forLoop (.Tuple [.Name (PySem.Str.ofString "pos") p1, .Name (PySem.Str.ofString "ch") p2] k1 pt) (.ref ga) body [] env) R s := by
  subst hEL
  have hgL : ga ≠ L := hL ▸ Nat.succ_ne_self L
  have hLg : L ≤ ga := hL ▸ Nat.le_succ L
  have ltA : ∀ b ∈ news.map (·.1), b < L := fun b hb => by
    obtain ⟨p, hp, rfl⟩ := List.mem_map.mp hb
    exact lt p hp
  refine codeAny_forLoop_any (fun n s' => ∃ k m₁ news₁, n = its.length + 1 - k ∧ k ≤ its.length ∧ GenLive w outer hB L ga g its k s' ∧ Fr hB env.locals s'.heap m₁ ∧ News hB env.locals s'.heap news₁ ∧ news₁.map (·.1) = news.map (·.1) ∧ J k m₁ news₁ ∧ Sib s s')
    ?_ (its.length + 1) ⟨0, m, news, rfl, Nat.zero_le _, live, F, N, rfl, hJ, Sib.refl s⟩
  rintro n s' ⟨k, m₁, news₁, rfl, hk, ⟨hg, gs, hgs, hbare, hgo⟩, F₁, N₁, ha, hJ₁, S₁⟩
  have lt₁ : ∀ p ∈ news₁, p.1 < L := fun p hp => ltA _ (ha ▸ List.mem_map_of_mem hp)
  have res₀ : GRes hB L ga s' (s'.setGen g .running) := ⟨F₁.keep, fun _ _ _ e => e, let ⟨o, _, _, ho, _⟩ := hg; ⟨o, ho⟩⟩
  have keepG : ∀ {s₁ : Shared}, GFrame L ga (s'.setGen g .running) s₁ → Fr hB env.locals s₁.heap m₁ ∧ News hB env.locals s₁.heap news₁ := fun {s₁} G => by
    have up : ∀ b o, b < L → s'.heap.get? b = some o → s₁.heap.get? b = some o := fun b o hb e => G.heap b o (Nat.ne_of_lt hb) (Nat.le_trans (Nat.le_of_lt hb) hLg) e
    exact ⟨⟨F₁.ns.at' fun o e => up _ o hLc e, fun b o e => up b o (Nat.lt_of_lt_of_le (Heap.lt_size e) hBL) (F₁.keep b o e), F₁.above⟩, fun p hp => ⟨up _ _ (lt₁ p hp) (N₁ p hp).1, (N₁ p hp).2⟩⟩
  refine wpAny_mono (E := fun _ _ => False) ?_ (fun _ _ h => h) (fun _ _ x => x.elim)
  refine wpAny_lv (dp := 370) (outer := outer) ?_ hA1 hA2 hA3 hA4 hA5
  refine next_gen (P := fun n s₀ s₁ => n = 0 ∧ GFrame L ga s₀ s₁) rfl (nl.keeps F₁.keep) (by show 370 < recursionLimit; decide) hg hgs (hgo _ res₀) (fun v s₁ gs' hb hv => ?_) (fun s₁ hP h' hk' => ?_)
  · obtain ⟨⟨item, hit, d, t, u, rfl, hd⟩, G, kap⟩ := hv
    have hn : its.length - k ≠ 0 := fun e => by
      have q := kap s₁ ⟨(keepG G).1.keep, fun _ _ _ e => e, let ⟨o, _, _, ho, _⟩ := hg; ⟨o, G.heap ga o hgL (Nat.le_refl _) ho⟩⟩
      rw [e] at q
      exact q
    have hitk : its[k]? = some item := by
      have e : its.length - 1 - (its.length - k - 1) = k := by rw [Nat.sub_right_comm its.length k 1]; exact Nat.sub_sub_self (Nat.le_sub_one_of_lt (Nat.lt_of_sub_ne_zero hn))
      rw [e] at hit; exact hit
    obtain ⟨F₂, N₂⟩ := keepG G
    have hg₂ : s₁.heap.IsGen ga g := let ⟨o, nm, qn, ho, r⟩ := hg; ⟨o, nm, qn, G.heap ga o hgL (Nat.le_refl _) ho, r⟩
    show wpAny _ A (letOwnedTupleGo _ (.ref ga) (.ref d)) _ _ (s₁.setGen g gs')
    refine go_gen (s := s₁.setGen g gs') hg₂ ?_
    have ht₂ : (s₁.setGen g gs').heap.IsTuple d #[.int item.1 t, .str ⟨item.2.toArray⟩ u] := ⟨_, hd, rfl, 0, rfl⟩
    refine wpAny_assign_Tuple hA1 ht₂ rfl rfl fun h₃ hx₃ => ?_
    replace hx₃ : Heap.ExtBut s₁.heap.objs.size s₁.heap h₃ := hx₃
    have up₃ : ∀ b o, s₁.heap.get? b = some o → h₃.get? b = some o := fun b o y => hx₃ b o (Nat.ne_of_lt (Heap.lt_size y)) y
    have F₃ := F₂.keeps up₃
    show wpAny _ _ (do holding [_] (assign (.Name _ p1) env _); holding [] (assign (.Name _ p2) env _); pure ()) _ _ _
    refine wpAny_bind (wpAny_holding (wpAny_assign_Name (wpAny_storeName_local hk1 F₃.ns (fun h₄ hn₄ hs₄ => ?_) hp)))
    replace hs₄ : Heap.SameBut env.locals h₃ h₄ := hs₄
    have F₄ := F₃.set hn₄ hs₄
    refine wpAny_bind (wpAny_holding (wpAny_assign_Name (wpAny_storeName_local hk2 F₄.ns (fun h₅ hn₅ hs₅ => wpAny_pure ?_) hp)))
    replace hs₅ : Heap.SameBut env.locals h₄ h₅ := hs₅
    have F₅ := F₄.set hn₅ hs₅
    have up₅ : ∀ b o, b ≠ env.locals → s₁.heap.get? b = some o → h₅.get? b = some o := fun b o hb y => hs₅.extBut b o hb (hs₄.extBut b o hb (up₃ b o y))
    have N₅ : News hB env.locals h₅ news₁ := fun p hp => ⟨up₅ _ _ (N₂ p hp).2.1 (N₂ p hp).1, (N₂ p hp).2⟩
    obtain ⟨own, No, hoff, keepO⟩ := all_own' (L := env.locals) (news.map (·.1)) F₅.keep
    have S₅ : ∀ tk, Sib s { s₁.setGen g gs' with heap := h₅, toks := tk } := fun tk => ⟨G.os.trans S₁.os, G.drawn.trans S₁.drawn, fun hb₀ => by
      have q : AllBare s₁.gens := by rw [G.gens]; exact bare_set (S₁.gens hb₀) rfl
      exact bare_set q hb⟩
    refine wpAny_mono (turn k item m₁ news₁ own _ t u hitk ha hJ₁ F₅ (N₅.append No) hoff (S₅ _)) (fun f s₂ h₆ => ?_) (fun _ _ x => x.elim)
    have next : GEnd hB env.locals (J (k + 1)) own (news.map (·.1)) { s₁.setGen g gs' with heap := h₅, toks := s₁.toks + 1 + 1 } s₂ → ∃ n', n' < its.length + 1 - k ∧ ∃ k m₁ news₁, n' = its.length + 1 - k ∧ k ≤ its.length ∧ GenLive w outer hB L ga g its k s₂ ∧ Fr hB env.locals s₂.heap m₁ ∧ News hB env.locals s₂.heap news₁ ∧ news₁.map (·.1) = news.map (·.1) ∧ J k m₁ news₁ ∧ Sib s s₂ := by
      rintro ⟨h', tk, m₂, news₂, rfl, F₆, N₆, ha₆, hJ₆⟩
      have N₆r : News hB env.locals h' own := fun p hp => N₆ p (List.mem_append_right _ hp)
      have up₆ : ∀ b o, L ≤ b → s₁.heap.get? b = some o → h'.get? b = some o := fun b o hb y =>
        keepO _ _ _ F₆ N₆r (fun _ h => h) b o (Nat.ne_of_gt (Nat.lt_of_lt_of_le hLc hb)) (fun hm => absurd (ltA b hm) (Nat.not_lt_of_le hb)) (up₅ b o (Nat.ne_of_gt (Nat.lt_of_lt_of_le hLc hb)) y)
      refine ⟨its.length + 1 - (k + 1), Nat.sub_lt_sub_left (Nat.lt_succ_of_lt (Nat.lt_of_sub_ne_zero hn)) (Nat.lt_succ_self k), k + 1, m₂, news₂, rfl, Nat.lt_of_sub_ne_zero hn, ?_, F₆, fun p hp => N₆ p (List.mem_append_left _ hp), ha₆, hJ₆, ⟨(S₅ 0).os, (S₅ 0).drawn, (S₅ 0).gens⟩⟩
      refine ⟨let ⟨o, nm, qn, ho, r⟩ := hg₂; ⟨o, nm, qn, up₆ ga o hLg ho, r⟩, gs', ?_, hb, fun s'' res => ?_⟩
      · show (s₁.gens.setIfInBounds g gs')[g]? = some gs'
        have hlt : g < s₁.gens.size := by
          rw [G.gens]
          show g < (s'.gens.setIfInBounds g .running).size
          rw [Array.size_setIfInBounds]
          exact (Array.getElem?_eq_some_iff.mp hgs).1
        simp [hlt]
      · have q := kap s'' ⟨res.base, fun b o hb y => res.own b o hb (up₆ b o (hb.elim (fun q => q ▸ Nat.le_refl _) fun q => Nat.le_of_lt (Nat.lt_of_le_of_lt hLg q)) y), res.gen⟩
        obtain ⟨j, hj⟩ : ∃ j, its.length - k = j + 1 := ⟨its.length - k - 1, (Nat.sub_one_add_one hn).symm⟩
        rw [hj] at q
        have : its.length - (k + 1) = j := by rw [Nat.sub_add_eq, hj]; rfl
        rw [this]
        exact q
    cases f with
    | ret v => exact h₆
    | brk => exact h₆
    | next => exact next h₆
    | cont => exact next h₆
  · obtain ⟨hn, G⟩ := hP
    have hkk : k = its.length := by omega
    subst hkk
    obtain ⟨F₂, N₂⟩ := keepG G
    refine wpAny_execs_nil ?_
    refine done m₁ news₁ _ ha hJ₁ (F₂.keeps hk') (N₂.grown hk') ⟨G.os.trans S₁.os, G.drawn.trans S₁.drawn, fun hb₀ => ?_⟩
    have q : AllBare s₁.gens := by rw [G.gens]; exact bare_set (S₁.gens hb₀) rfl
    exact bare_set q rfl
end
section
open PySem PySem.W PySem.Calls PyProof.Rows
set_option Elab.async false
set_option maxRecDepth 100000
theorem reset_G4 : True := by w_top off; trivial
theorem use_iter {w : World} {A A₀ : Around} {base h₀ : Heap} {outer : List Env} {s : Shared} {mg mb : PySem.Str → Option Value} {mean : ExcName → Option Value} {x : PySem.Str} {tx : Tok}
    {name : PySem.Str} {scope : Scope} {L a : Addr} {cd : Value} {m : PySem.Str → Option Value} {news : List (Addr × Obj)} {Q : Value → Shared → Prop} {E : Value → Shared → Prop}
    (B : Below A₀ base outer h₀) (F : Fr h₀ L s.heap m) (N : News h₀ L s.heap news) (X : (hd.heap_39 w.params).In h₀) (T : TopV mg mb mean h₀)
    (h1 : A.handled = none) (h2 : A.frames = some (envOf name scope L a cd :: outer)) (h3 : A.guards = some []) (h4 : A.depth ≤ 370) (h5 : A.units ≤ 370)
    (h : ∀ ga g s', GenLive w (envOf name scope L a cd :: outer) h₀ s.heap.objs.size ga g (escG 0 false 0 x.cps.toList) 0 s' → ga = s.heap.objs.size + 1 → Ext s s' → Fr h₀ L s'.heap m → News h₀ L s'.heap news → Q (.ref ga) s') :
    wpAny (model PV w) A (call (.ref 21) [.str x tx]) Q E s := by
  refine wpAny_call (codeAny_lv (codeAny_mono (iter_call F.keep (Nat.le_trans F.above (Nat.le_of_lt F.ns.lt)) X T x tx) fun r s' h' => ?_) h1 h2 h3 h4 h5)
  obtain ⟨L', ga, g, rfl, e, rfl, rfl, rfl, live⟩ := h'
  exact h _ _ s' live rfl e (F.keeps e.keep) (N.grown e.keep)
local macro_rules | `(tactic| walk_at "exec For") => `(tactic| ((with_reducible show wpAny _ _ (exec (Stmt.For (Expr.Tuple _ _ _) _ _ _ _) _) _ _ _); refine wpAny_For ?_ (fun _ => rfl)))
local macro_rules | `(tactic| walk_at "call ref") => `(tactic| (k_here; k_dflt (refine' use_iter ?k1 ?k2 ?k3 ?k4 ?k5 ?k6 ?k7 ?k8 ?k9 ?kA ?_; walk_at "UseK"; k_whole; intro gaG gG sG liveG gaE extG F' N')))
local macro_rules | `(tactic| walk_at "pyIter ref") => `(tactic| ((with_reducible rename GenLive _ _ _ _ _ _ _ _ _ => kLive); refine wpAny_pyIter_gen (And.left kLive) ?_))
noncomputable def sMap (x : PySem.Str) (tx : Tok) (D : Addr) (st : Int) (ts : Tok) (opv : Value) (cv pv : Option Value) : PySem.Str → Option Value := fun y =>
  if y = (PySem.Str.ofString "ch") then cv else if y = (PySem.Str.ofString "pos") then pv else if y = (PySem.Str.ofString "open_pos") then some opv else if y = (PySem.Str.ofString "start") then some (.int st ts) else
  if y = (PySem.Str.ofString "result") then some (.ref D) else if y = (PySem.Str.ofString "addr") then some (.str x tx) else none
inductive OpIs : Option Int → Value → Prop
  | none : OpIs none .none
  | some (o : Int) (t : Tok) : 0 ≤ o → o ≤ 1000 → OpIs (some o) (.int o t)
noncomputable def sSlice (x : PySem.Str) (a b : Int) : PySem.Str := PySem.Txt.slice x (some a) (some b)
noncomputable def sStep (x : PySem.Str) (q : Int × Option Int × List PySem.Str) (item : Int × List Nat) : Int × Option Int × List PySem.Str :=
  if item.2 = [34] then match q.2.1 with
    | none => (q.1, some item.1, q.2.2)
    | some o => (item.1 + 1, none, if q.1 = o then q.2.2 else q.2.2 ++ [sSlice x q.1 o])
  else q
structure SJ (x : PySem.Str) (tx : Tok) (D : Addr) (its : List (Int × List Nat)) (k : Nat) (m : PySem.Str → Option Value) (news : List (Addr × Obj)) : Prop where
  at_ : ∃ st ts op opv l n cv pv, (its.take k).foldl (sStep x) (0, none, []) = (st, op, l.map (·.1)) ∧ m = sMap x tx D st ts opv cv pv ∧ news = [(D, W.listOf (strValues l).toArray n)] ∧ OpIs op opv ∧ 0 ≤ st ∧ st ≤ 1001 ∧ l.length ≤ k ∧ ∀ p ∈ l, p.1.length ≤ 1000
theorem dq_eq (l : List Nat) : ((⟨l.toArray⟩ : PySem.Str) == PySem.Str.ofString "\"") = decide (l = [34]) := by
  rw [show PySem.Str.ofString "\"" = (⟨#[34]⟩ : PySem.Str) from by decide +kernel]
  by_cases h : l = [34]
  · subst h; decide
  · rw [decide_eq_false h]
    refine beq_eq_false_iff_ne.mpr fun e => h ?_
    have := congrArg (fun s : PySem.Str => s.cps.toList) e
    simpa using this
theorem GEnd.of {hB : Heap} {Lc : Addr} {J : (PySem.Str → Option Value) → List (Addr × Obj) → Prop} {own news₂ : List (Addr × Obj)} {adr : List Addr} {s₁ : Shared} {h' : Heap} {tk : Nat} {m₂ : PySem.Str → Option Value}
    (F : Fr hB Lc h' m₂) (N : News hB Lc h' (news₂ ++ own)) (ha : news₂.map (·.1) = adr) (hJ : J m₂ news₂) : GEnd hB Lc J own adr s₁ { s₁ with heap := h', toks := tk } := ⟨_, _, _, _, rfl, F, N, ha, hJ⟩
theorem GEnd.of1 {hB : Heap} {Lc : Addr} {J : (PySem.Str → Option Value) → List (Addr × Obj) → Prop} {own : List (Addr × Obj)} {p : Addr × Obj} {adr : List Addr} {s₁ : Shared} {h' : Heap} {tk : Nat} {m₂ : PySem.Str → Option Value}
    (F : Fr hB Lc h' m₂) (N : News hB Lc h' (p :: own)) (ha : [p.1] = adr) (hJ : J m₂ [p]) : GEnd hB Lc J own adr s₁ { s₁ with heap := h', toks := tk } := ⟨_, _, _, [p], rfl, F, N, ha, hJ⟩
theorem foldl_take_succ {α β : Type} {f : β → α → β} {z : β} {l : List α} {k : Nat} {a : α} (h : l[k]? = some a) : (l.take (k + 1)).foldl f z = f ((l.take k).foldl f z) a := by
  rw [List.take_add_one, h]; simp
theorem escG_bound : ∀ (l : List Nat) (i : Nat) (esc : Bool) (last : Int), 0 ≤ last → last ≤ i + l.length → ∀ it ∈ escG i esc last l, 0 ≤ it.1 ∧ it.1 ≤ i + l.length
  | [], i, esc, last, h0, h1, it, hm => by
    cases esc with
    | false => cases hm
    | true => rw [List.mem_singleton.mp hm]; exact ⟨h0, h1⟩
  | c :: r, i, esc, last, h0, h1, it, hm => by
    have ih := fun e => escG_bound r (i + 1) e i (by omega) (by omega) it
    have up : 0 ≤ it.1 ∧ it.1 ≤ ((i + 1 : Nat) : Int) + r.length → 0 ≤ it.1 ∧ it.1 ≤ (i : Int) + ((c :: r).length : Nat) := fun q => ⟨q.1, by rw [List.length_cons]; omega⟩
    have here : it.1 = i → 0 ≤ it.1 ∧ it.1 ≤ (i : Int) + ((c :: r).length : Nat) := fun q => ⟨by omega, by rw [List.length_cons]; omega⟩
    unfold escG at hm
    split at hm
    · rcases List.mem_cons.mp hm with e | hm
      · exact here (by rw [e])
      · exact up (ih _ hm)
    · split at hm
      · exact up (ih _ hm)
      · rcases List.mem_cons.mp hm with e | hm
        · exact here (by rw [e])
        · exact up (ih _ hm)
theorem escG_len : ∀ (l : List Nat) (i : Nat) (esc : Bool) (last : Int), (escG i esc last l).length ≤ l.length + 1
  | [], i, esc, last => by cases esc <;> simp [escG]
  | c :: r, i, esc, last => by
    have ih := fun e => escG_len r (i + 1) e i
    unfold escG
    split
    · have := ih false; simp; omega
    · split
      · have := ih true; simp; omega
      · have := ih false; simp; omega
theorem sMap_op (x : PySem.Str) (tx : Tok) (D : Addr) (st : Int) (ts : Tok) (opv op' : Value) (cv pv cv' pv' : Option Value) :
    (fun y => if y = (PySem.Str.ofString "open_pos") then some op' else if y = (PySem.Str.ofString "ch") then cv' else if y = (PySem.Str.ofString "pos") then pv' else sMap x tx D st ts opv cv pv y) = sMap x tx D st ts op' cv' pv' := by
  funext y
  simp only [sMap]
  by_cases q1 : y = PySem.Str.ofString "open_pos"
  · subst q1; rfl
  · simp only [if_neg q1]
    split
    · rfl
    · split <;> rfl
theorem sMap_same (x : PySem.Str) (tx : Tok) (D : Addr) (st : Int) (ts : Tok) (opv : Value) (cv pv cv' pv' : Option Value) :
    (fun y => if y = (PySem.Str.ofString "ch") then cv' else if y = (PySem.Str.ofString "pos") then pv' else sMap x tx D st ts opv cv pv y) = sMap x tx D st ts opv cv' pv' := by
  funext y
  simp only [sMap]
  split
  · rfl
  · split <;> rfl
theorem sMap_two (x : PySem.Str) (tx : Tok) (D : Addr) (st st' : Int) (ts ts' : Tok) (opv op' : Value) (cv pv cv' pv' : Option Value) :
    (fun y => if y = (PySem.Str.ofString "open_pos") then some op' else if y = (PySem.Str.ofString "start") then some (Value.int st' ts') else if y = (PySem.Str.ofString "ch") then cv' else if y = (PySem.Str.ofString "pos") then pv' else sMap x tx D st ts opv cv pv y) = sMap x tx D st' ts' op' cv' pv' := by
  funext y
  simp only [sMap]
  by_cases q1 : y = PySem.Str.ofString "open_pos"
  · subst q1; rfl
  · simp only [if_neg q1]
    by_cases q2 : y = PySem.Str.ofString "start"
    · subst q2; rfl
    · simp only [if_neg q2]
      split
      · rfl
      · split <;> rfl
noncomputable def LenLe (l : List (PySem.Str × Tok)) (b : Nat) : Prop := ∀ p ∈ l, p.1.length ≤ b
theorem LenLe.snoc {l : List (PySem.Str × Tok)} {b : Nat} {z : PySem.Str} {t : Tok} (h : LenLe l b) (hz : z.length ≤ b) : LenLe (l ++ [(z, t)]) b := fun p hp => by
  rcases List.mem_append.mp hp with hp | hp
  · exact h p hp
  · rw [List.mem_singleton.mp hp]; exact hz
theorem LenLe.sum {l : List (PySem.Str × Tok)} {b : Nat} (h : LenLe l b) : ((l.map (·.1)).map (·.length)).sum ≤ l.length * b := by
  induction l with
  | nil => simp
  | cons a r ih =>
    have h1 := h a (.head _)
    have h2 := ih fun p hp => h p (.tail _ hp)
    simp only [List.map_cons, List.sum_cons, List.length_cons]
    rw [Nat.succ_mul]
    omega
section
variable {w : World} {A : Around} {E : Value → Shared → Prop} {s : Shared} {h₀ : Heap} {L D : Addr} {m : PySem.Str → Option Value} {own : List (Addr × Obj)} {l : List (PySem.Str × Tok)} {n : Nat} {z : PySem.Str} {t : Tok} {Q : Value → Shared → Prop}
theorem append_str (F : Fr h₀ L s.heap m) (N : News h₀ L s.heap ((D, W.listOf (strValues l).toArray n) :: own)) (hoff : ∀ p ∈ own, p.1 ≠ D) (hl : l.length ≤ 2000)
    (h : ∀ h', Fr h₀ L h' m → News h₀ L h' ((D, W.listOf (strValues (l ++ [(z, t)])).toArray (n + 1)) :: own) → Q .none { s with heap := h' }) : wpAny (model PV w) A (call (.builtin "list.append") [.ref D, .str z t]) Q E s := by
  refine append_K F N (Upd.head hoff) (fun h' F' N' => h h' F' ?_) (by rw [PySem.sizeLine_eq]; simp [strValues]; omega)
  have e : (strValues l).toArray.push (Value.str z t) = (strValues (l ++ [(z, t)])).toArray := by simp [strValues]
  rw [← e]; exact N'
theorem join_str {x : PySem.Str} {tx : Tok} (N : News h₀ L s.heap ((D, W.listOf (strValues l).toArray n) :: own)) (hl : l.length ≤ 2000) (hb : LenLe l 1000) (hx : x.length = 0)
    (h : ∀ t' k, Q (.str (PySem.Txt.join x (l.map (·.1))) t') { s with toks := k }) : wpAny (model PV w) A (call (.builtin "str.join") [.str x tx, .ref D]) Q E s := by
  refine join_list (items := (strValues l).toArray) (ys := l.map (·.1)) ⟨_, (N _ (.head _)).1, rfl, _, rfl⟩ (strsAre_of_values l) ?_ h
  rw [hx, Nat.mul_zero, Nat.add_zero]
  have := hb.sum
  have h2 : l.length * 1000 ≤ 2000 * 1000 := Nat.mul_le_mul_right _ hl
  omega
end
theorem sMap_start (x : PySem.Str) (tx : Tok) (D : Addr) (ts : Tok) : (fun y => if y = (PySem.Str.ofString "result") then some (Value.ref D) else if y = (PySem.Str.ofString "open_pos") then some Value.none else if y = (PySem.Str.ofString "start") then some (Value.int 0 ts) else List.lookup y [(PySem.Str.ofString "addr", Value.str x tx)]) = sMap x tx D 0 ts .none none none := by
  funext y
  simp only [sMap, List.lookup]
  by_cases q1 : y = PySem.Str.ofString "ch"
  · subst q1; rfl
  · by_cases q2 : y = PySem.Str.ofString "pos"
    · subst q2; rfl
    · by_cases q3 : y = PySem.Str.ofString "open_pos"
      · subst q3; rfl
      · by_cases q4 : y = PySem.Str.ofString "start"
        · subst q4; rfl
        · by_cases q5 : y = PySem.Str.ofString "result"
          · subst q5; rfl
          · by_cases q6 : y = PySem.Str.ofString "addr"
            · subst q6; rfl
            · simp only [if_neg q1, if_neg q2, if_neg q3, if_neg q4, if_neg q5, if_neg q6]
              rw [beq_eq_false_iff_ne.mpr q6]
noncomputable def IsS (v : Value) (x : PySem.Str) : Prop := ∃ t, v = .str x t
/-- what is left of a text when the quoted parts are struck -/
noncomputable def stripP (x : PySem.Str) : PySem.Str :=
  if (Builtin.Str.occurrences x (PySem.Str.ofString "\"") 0 x.length 1).isEmpty = true then x else
    let q := (escG 0 false 0 x.cps.toList).foldl (sStep x) (0, none, [])
    PySem.Txt.join (PySem.Str.ofString "") (if q.1 < (x.length : Int) then q.2.2 ++ [PySem.Txt.slice x (some q.1) none] else q.2.2)
local macro_rules | `(tactic| walk_at "call builtin:list.append") => `(tactic| (refine append_str (by k_asm) (by k_asm) (by first | assumption | exact List.forall_mem_nil _) (by omega) ?_; intro h' F' N'))
local macro_rules | `(tactic| walk_at "call builtin:str.join") => `(tactic| (refine join_str (by k_asm) (by first | omega | (simp only [List.length_append, List.length_cons, List.length_nil]; omega)) (by first | assumption | exact LenLe.snoc (by assumption) (Nat.le_trans (by assumption) (by omega))) (by decide +kernel) ?_; intro _ _))
set_option maxHeartbeats 4000000
theorem strip_ok {w : World} {base : Heap} {outer : List Env} {s : Shared} {mg mb : PySem.Str → Option Value} {mean : ExcName → Option Value}
    (B : Below (Lv 360 outer) base outer s.heap) (X : (hd.heap_39 w.params).In s.heap) (T : TopV mg mb mean s.heap)
    (x : PySem.Str) (tx : Tok) (hx : x.length ≤ 1000) :
    Gives w 360 outer 28 [.str x tx] s (fun v _ => IsS v (stripP x)) := by
  k_dflt (refine' enterP (fun n => List.lookup n [(Str.ofString "addr", Value.str x tx)]) ?k1 ?k2 ?k3 ?k6 ?k7 ?k8 ?k9 ?kB ?kM ?_ ?c5 ?c2 ?c3 ?c4; (case k1 => k_asm); (case k2 => k_asm); (case k3 => k_asm); (case k6 => k_is); (case k7 => k_is); (case k8 => k_room); (case k9 => exact BindsTo.of_eq rfl); (case kB => exact locs rfl); (case kM => exact rfl); (case c5 => decide); (case c2 => exact rfl); (case c3 => exact rfl); (case c4 => exact rfl); k_whole)
  clear B X T
  intro L' h' tk' F' N' B' X' T'
  (try dsimp only)
  k_fold
  k_steps
  · rename_i hq
    exact ⟨_, by simp only [stripP, hq, if_true]; rfl⟩
  · exact Ext.to (Ext.refl _) (Fr.keep (by assumption))
  rename_i hq0 _ _ _ D _ _ _ F1 N1 ga g sG live gaE extG F' N'
  refine for_gen (Lc := L') (J := SJ x tx D (escG 0 false 0 x.cps.toList)) rfl rfl rfl rfl (Nat.le_of_ble_eq_true rfl) (Nat.le_of_ble_eq_true rfl) T'.nolimit gaE F1.ns.lt (Nat.le_trans F1.above (Nat.le_of_lt F1.ns.lt)) ?_ live F' N' ?_ rfl rfl rfl ?_ ?_
  case refine_3 =>
    intro k item m₁ news₁ own s₁ t u hit ha hJ F N hoff S
    obtain ⟨st, ts, op, opv, l, n, cv, pv, hfold, rfl, rfl, hop, h0, h1, hl, hlen⟩ := hJ.at_
    have hoffD : ∀ p ∈ own, p.1 ≠ D := fun p hp => hoff p hp D (.head _)
    have hpos := escG_bound x.cps.toList 0 false 0 (Int.le_refl _) (by omega) item (List.mem_of_getElem? hit)
    have hk : k < (escG 0 false 0 x.cps.toList).length := (List.getElem?_eq_some_iff.mp hit).1
    have hkl := escG_len x.cps.toList 0 false 0
    have hxl : x.cps.toList.length = x.length := by simp [PySem.Str.length]
    rw [List.cons_append, List.nil_append] at N
    clear hJ
    cases hop with
    | none =>
      k_steps
      · (rename (_ == _) = _ => hq); (with_reducible rename Fr _ _ _ _ => F2); (with_reducible rename News _ _ _ _ => N2)
        rw [dq_eq] at hq
        dsimp only
        refine GEnd.of1 F2 N2 ha ⟨st, ts, some item.1, _, l, n, _, _, ?_, sMap_op .., rfl, .some _ _ hpos.1 (by omega), h0, h1, by omega, hlen⟩
        rw [foldl_take_succ hit, hfold]
        simp [sStep, of_decide_eq_true hq]
      · (rename (_ == _) = _ => hq)
        rw [dq_eq] at hq
        dsimp only
        refine GEnd.of1 F N ha ⟨st, ts, none, _, l, n, _, _, ?_, sMap_same .., rfl, .none, h0, h1, by omega, hlen⟩
        rw [foldl_take_succ hit, hfold]
        simp [sStep, of_decide_eq_false hq]
    | some o to ho1 ho2 =>
      k_steps
      · (rename (_ == _) = _ => hq); (with_reducible rename Fr _ _ _ _ => F2); (with_reducible rename News _ _ _ _ => N2); (rename ¬ st = o => hne); (rename PySem.Str.length _ ≤ x.length => hsl)
        rw [dq_eq] at hq
        dsimp only
        refine GEnd.of1 F2 N2 ha ⟨item.1 + 1, _, none, _, _, _, _, _, ?_, sMap_two .., rfl, .none, by omega, by omega, by simp; omega, LenLe.snoc hlen (by omega)⟩
        rw [foldl_take_succ hit, hfold]
        simp [sStep, of_decide_eq_true hq, hne, sSlice]
      · (rename (_ == _) = _ => hq); (with_reducible rename Fr _ _ _ _ => F2); (with_reducible rename News _ _ _ _ => N2); (rename st = o => hne)
        rw [dq_eq] at hq
        dsimp only
        refine GEnd.of1 F2 N2 ha ⟨item.1 + 1, _, none, _, l, _, _, _, ?_, sMap_two .., rfl, .none, by omega, by omega, by omega, hlen⟩
        rw [foldl_take_succ hit, hfold]
        simp [sStep, of_decide_eq_true hq, hne]
      · (rename (_ == _) = _ => hq)
        rw [dq_eq] at hq
        dsimp only
        refine GEnd.of1 F N ha ⟨st, ts, some o, _, l, n, _, _, ?_, sMap_same .., rfl, .some _ _ ho1 ho2, h0, h1, by omega, hlen⟩
        rw [foldl_take_succ hit, hfold]
        simp [sStep, of_decide_eq_false hq]
  case refine_1 =>
    intro p hp
    rw [List.mem_singleton.mp hp]
    exact Heap.lt_size (N1 _ (.head _)).1
  case refine_2 => exact ⟨0, _, none, .none, [], 0, none, none, rfl, sMap_start .., rfl, .none, by omega, by omega, Nat.le_refl _, fun _ h => nomatch h⟩
  case refine_4 =>
    intro m₁ news₁ s₁ ha hJ F N S
    obtain ⟨st, ts, op, opv, l, n, cv, pv, hfold, rfl, rfl, hop, h0, h1, hl, hlen⟩ := hJ.at_
    rw [List.take_length] at hfold
    have hkl := escG_len x.cps.toList 0 false 0
    have hxl : x.cps.toList.length = x.length := by simp [PySem.Str.length]
    clear hJ
    dsimp only
    k_steps
    · (rename st < _ => hlt)
      exact ⟨_, by simp only [stripP, hq0, hfold, hlt, if_true, Bool.false_eq_true, if_false, List.map_append, List.map_cons, List.map_nil]; rfl⟩
    · exact ⟨Fr.keep (by assumption), S.os.trans extG.os, S.drawn.trans extG.drawn, fun g => S.gens (extG.gens g)⟩
    · (rename ¬ st < _ => hlt)
      exact ⟨_, by simp only [stripP, hq0, hfold, hlt, Bool.false_eq_true, if_false]; rfl⟩
    · exact ⟨Fr.keep (by assumption), S.os.trans extG.os, S.drawn.trans extG.drawn, fun g => S.gens (extG.gens g)⟩
end
section
open PySem PySem.W PySem.Calls PyProof.Rows
set_option Elab.async false
set_option maxRecDepth 100000
theorem reset_G5 : True := by w_top off; trivial
theorem GEnd.of0 {hB : Heap} {Lc : Addr} {J : (PySem.Str → Option Value) → List (Addr × Obj) → Prop} {own : List (Addr × Obj)} {adr : List Addr} {s₁ : Shared} {h' : Heap} {tk : Nat} {m₂ : PySem.Str → Option Value}
    (F : Fr hB Lc h' m₂) (N : News hB Lc h' own) (ha : [] = adr) (hJ : J m₂ []) : GEnd hB Lc J own adr s₁ { s₁ with heap := h', toks := tk } := ⟨_, _, _, [], rfl, F, N, ha, hJ⟩
noncomputable def cMap (x : PySem.Str) (tx : Tok) (n : Int) (tn : Tok) (cv pv : Option Value) : PySem.Str → Option Value := fun y =>
  if y = (PySem.Str.ofString "ch") then cv else if y = (PySem.Str.ofString "pos") then pv else if y = (PySem.Str.ofString "opens") then some (.int n tn) else if y = (PySem.Str.ofString "addr") then some (.str x tx) else none
/-- the count of open brackets behind the first k items, while none fell below nought -/
noncomputable def chkI (n : Int) : List (Int × List Nat) → Bool
  | [] => decide (n = 0)
  | it :: r => if it.2 = [40] then chkI (n + 1) r else if it.2 = [41] then (if n - 1 < 0 then false else chkI (n - 1) r) else chkI n r
noncomputable def chkP (x : PySem.Str) : Bool := chkI 0 (escG 0 false 0 (stripP x).cps.toList)
structure CJ (x : PySem.Str) (tx : Tok) (its : List (Int × List Nat)) (k : Nat) (m : PySem.Str → Option Value) (news : List (Addr × Obj)) : Prop where
  at_ : ∃ n tn cv pv, m = cMap x tx n tn cv pv ∧ news = [] ∧ chkI 0 its = chkI n (its.drop k) ∧ 0 ≤ n ∧ n ≤ k
theorem lit_eq (c : Nat) (z : PySem.Str) (hz : z = ⟨#[c]⟩) (l : List Nat) : ((⟨l.toArray⟩ : PySem.Str) == z) = decide (l = [c]) := by
  subst hz
  by_cases h : l = [c]
  · subst h; simp
  · rw [decide_eq_false h]
    refine beq_eq_false_iff_ne.mpr fun e => h ?_
    have := congrArg (fun s : PySem.Str => s.cps.toList) e
    simpa using this
theorem cMap_n (x : PySem.Str) (tx : Tok) (n n' : Int) (tn tn' : Tok) (cv pv cv' pv' : Option Value) :
    (fun y => if y = (PySem.Str.ofString "opens") then some (Value.int n' tn') else if y = (PySem.Str.ofString "ch") then cv' else if y = (PySem.Str.ofString "pos") then pv' else cMap x tx n tn cv pv y) = cMap x tx n' tn' cv' pv' := by
  funext y
  simp only [cMap]
  by_cases q1 : y = PySem.Str.ofString "opens"
  · subst q1; rfl
  · simp only [if_neg q1]
    split
    · rfl
    · split <;> rfl
theorem cMap_same (x : PySem.Str) (tx : Tok) (n : Int) (tn : Tok) (cv pv cv' pv' : Option Value) :
    (fun y => if y = (PySem.Str.ofString "ch") then cv' else if y = (PySem.Str.ofString "pos") then pv' else cMap x tx n tn cv pv y) = cMap x tx n tn cv' pv' := by
  funext y
  simp only [cMap]
  split
  · rfl
  · split <;> rfl
theorem cMap_start (x z : PySem.Str) (tx tz tn : Tok) : (fun y => if y = (PySem.Str.ofString "opens") then some (Value.int 0 tn) else if y = (PySem.Str.ofString "addr") then some (Value.str z tz) else List.lookup y [(PySem.Str.ofString "addr", Value.str x tx)]) = cMap z tz 0 tn none none := by
  funext y
  simp only [cMap, List.lookup]
  by_cases q1 : y = PySem.Str.ofString "ch"
  · subst q1; rfl
  · by_cases q2 : y = PySem.Str.ofString "pos"
    · subst q2; rfl
    · by_cases q3 : y = PySem.Str.ofString "opens"
      · subst q3; rfl
      · by_cases q4 : y = PySem.Str.ofString "addr"
        · subst q4; rfl
        · simp only [if_neg q1, if_neg q2, if_neg q3, if_neg q4]
          rw [beq_eq_false_iff_ne.mpr q4]
local macro_rules | `(tactic| walk_at "exec For") => `(tactic| ((with_reducible show wpAny _ _ (exec (Stmt.For (Expr.Tuple _ _ _) _ _ _ _) _) _ _ _); refine wpAny_For ?_ (fun _ => rfl)))
local macro_rules | `(tactic| walk_at "call ref") => `(tactic| (k_here; k_dflt (refine' use_iter ?k1 ?k2 ?k3 ?k4 ?k5 ?k6 ?k7 ?k8 ?k9 ?kA ?_; walk_at "UseK"; k_whole; intro gaG gG sG liveG gaE extG F' N')))
local macro_rules | `(tactic| walk_at "call ref") => `(tactic| (k_here; k_dflt (refine' useG 360 ?k1 ?k2 ?k3 ?k4 ?k5 ?k6 ?k7 ?k8 ?k9 ?kA ?kB (fun B X T => strip_ok B X T _ _ ?kC) ?_; walk_at "UseK"; (case kB => exact rfl); (case kC => assumption); k_whole; intro vS sS pS extS F' N'; obtain ⟨tS, eS⟩ := pS; subst eS)))
local macro_rules | `(tactic| walk_at "pyIter ref") => `(tactic| ((with_reducible rename GenLive _ _ _ _ _ _ _ _ _ => kLive); refine wpAny_pyIter_gen (And.left kLive) ?_))
set_option maxHeartbeats 4000000
theorem check_ok {w : World} {base : Heap} {outer : List Env} {s : Shared} {mg mb : PySem.Str → Option Value} {mean : ExcName → Option Value}
    (B : Below (Lv 350 outer) base outer s.heap) (X : (hd.heap_39 w.params).In s.heap) (T : TopV mg mb mean s.heap)
    (x : PySem.Str) (tx : Tok) (hx : x.length ≤ 1000) (hs : (stripP x).length ≤ 1000) :
    Gives w 350 outer 35 [.str x tx] s (fun v _ => v = .bool (chkP x)) := by
  k_dflt (refine' enterP (fun n => List.lookup n [(Str.ofString "addr", Value.str x tx)]) ?k1 ?k2 ?k3 ?k6 ?k7 ?k8 ?k9 ?kB ?kM ?_ ?c5 ?c2 ?c3 ?c4; (case k1 => k_asm); (case k2 => k_asm); (case k3 => k_asm); (case k6 => k_is); (case k7 => k_is); (case k8 => k_room); (case k9 => exact BindsTo.of_eq rfl); (case kB => exact locs rfl); (case kM => exact rfl); (case c5 => decide); (case c2 => exact rfl); (case c3 => exact rfl); (case c4 => exact rfl); k_whole)
  clear B X T
  intro L' h' tk' F' N' B' X' T'
  (try dsimp only)
  k_fold
  k_steps
  rename_i sS extS tS _ _ F1 N1 ga g sG live gaE extG F' N'
  refine for_gen (Lc := L') (J := CJ (stripP x) tS (escG 0 false 0 (stripP x).cps.toList)) rfl rfl rfl rfl (Nat.le_of_ble_eq_true rfl) (Nat.le_of_ble_eq_true rfl) T'.nolimit gaE F1.ns.lt (Nat.le_trans F1.above (Nat.le_of_lt F1.ns.lt)) (fun p hp => by cases hp) live F' N' ?_ rfl rfl rfl ?_ ?_
  case refine_1 => exact ⟨0, _, none, none, cMap_start .., rfl, rfl, Int.le_refl _, Int.le_refl _⟩
  case refine_2 =>
    intro k item m₁ news₁ own s₁ t u hit ha hJ F N hoff S
    obtain ⟨n, tn, cv, pv, rfl, rfl, hchk, h0, h1⟩ := hJ.at_
    have hk : k < (escG 0 false 0 (stripP x).cps.toList).length := (List.getElem?_eq_some_iff.mp hit).1
    have hkl := escG_len (stripP x).cps.toList 0 false 0
    have hxl : (stripP x).cps.toList.length = (stripP x).length := by simp [PySem.Str.length]
    have hdrop : (escG 0 false 0 (stripP x).cps.toList).drop k = item :: (escG 0 false 0 (stripP x).cps.toList).drop (k + 1) := by
      rw [List.drop_eq_getElem_cons hk]
      have := (List.getElem?_eq_some_iff.mp hit).2
      rw [this]
    rw [hdrop] at hchk
    rw [List.nil_append] at N
    clear hJ
    have e40 : PySem.Str.ofString "(" = ⟨#[40]⟩ := by decide +kernel
    have e41 : PySem.Str.ofString ")" = ⟨#[41]⟩ := by decide +kernel
    k_steps
    · (rename (_ == PySem.Str.ofString "(") = _ => hq); (with_reducible rename Fr _ _ _ _ => F2); (with_reducible rename News _ _ _ _ => N2)
      rw [lit_eq 40 _ e40] at hq
      dsimp only
      refine GEnd.of0 F2 N2 ha ⟨n + 1, _, _, _, cMap_n .., rfl, ?_, by omega, by omega⟩
      rw [hchk]; simp [chkI, of_decide_eq_true hq]
    · (rename (_ == PySem.Str.ofString "(") = _ => hq); (rename (_ == PySem.Str.ofString ")") = _ => hq2); (rename n - 1 < 0 => hn)
      rw [lit_eq 40 _ e40] at hq
      rw [lit_eq 41 _ e41] at hq2
      show Value.bool false = Value.bool (chkI 0 _)
      rw [hchk]; simp [chkI, of_decide_eq_true hq2, hn]
    · exact ⟨Fr.keep (by assumption), S.os.trans (extG.os.trans extS.os), S.drawn.trans (extG.drawn.trans extS.drawn), fun g => S.gens (extG.gens (extS.gens g))⟩
    · (rename (_ == PySem.Str.ofString "(") = _ => hq); (rename (_ == PySem.Str.ofString ")") = _ => hq2); (rename ¬ n - 1 < 0 => hn); (with_reducible rename Fr _ _ _ _ => F2); (with_reducible rename News _ _ _ _ => N2)
      rw [lit_eq 40 _ e40] at hq
      rw [lit_eq 41 _ e41] at hq2
      dsimp only
      refine GEnd.of0 F2 N2 ha ⟨n - 1, _, _, _, cMap_n .., rfl, ?_, by omega, by omega⟩
      rw [hchk]; simp [chkI, of_decide_eq_true hq2, hn]
    · (rename (_ == PySem.Str.ofString "(") = _ => hq); (rename (_ == PySem.Str.ofString ")") = _ => hq2)
      rw [lit_eq 40 _ e40] at hq
      rw [lit_eq 41 _ e41] at hq2
      dsimp only
      refine GEnd.of0 F N ha ⟨n, _, _, _, cMap_same .., rfl, ?_, by omega, by omega⟩
      rw [hchk]; simp [chkI, of_decide_eq_false hq, of_decide_eq_false hq2]
  case refine_3 =>
    intro m₁ news₁ s₁ ha hJ F N S
    obtain ⟨n, tn, cv, pv, rfl, rfl, hchk, h0, h1⟩ := hJ.at_
    rw [List.drop_length] at hchk
    have hkl := escG_len (stripP x).cps.toList 0 false 0
    have hxl : (stripP x).cps.toList.length = (stripP x).length := by simp [PySem.Str.length]
    clear hJ
    dsimp only
    k_steps
    · show Value.bool (n == 0) = Value.bool (chkI 0 _)
      rw [hchk]
      exact congrArg Value.bool (by unfold chkI; exact Bool.eq_iff_iff.mpr (by simp))
    · exact ⟨Fr.keep (by assumption), S.os.trans (extG.os.trans extS.os), S.drawn.trans (extG.drawn.trans extS.drawn), fun g => S.gens (extG.gens (extS.gens g))⟩
end
section
open PySem PySem.W PySem.Calls PyProof.Rows
set_option Elab.async false
set_option maxRecDepth 100000
/-- a turn goes on -/
noncomputable def TEnd (hB : Heap) (Lc : Addr) (J : (PySem.Str → Option Value) → List (Addr × Obj) → Prop) (own : List (Addr × Obj)) (adr : List Addr) (s₁ s₂ : Shared) : Prop :=
  ∃ m₂ news₂, Sib s₁ s₂ ∧ Fr hB Lc s₂.heap m₂ ∧ News hB Lc s₂.heap (news₂ ++ own) ∧ news₂.map (·.1) = adr ∧ J m₂ news₂
theorem TEnd.of0 {hB : Heap} {Lc : Addr} {J : (PySem.Str → Option Value) → List (Addr × Obj) → Prop} {own : List (Addr × Obj)} {adr : List Addr} {s₁ s₂ : Shared} {m₂ : PySem.Str → Option Value}
    (S : Sib s₁ s₂) (F : Fr hB Lc s₂.heap m₂) (N : News hB Lc s₂.heap own) (ha : [] = adr) (hJ : J m₂ []) : TEnd hB Lc J own adr s₁ s₂ := ⟨_, [], S, F, N, ha, hJ⟩
theorem TEnd.of1 {hB : Heap} {Lc : Addr} {J : (PySem.Str → Option Value) → List (Addr × Obj) → Prop} {own : List (Addr × Obj)} {adr : List Addr} {s₁ s₂ : Shared} {m₂ : PySem.Str → Option Value} {p : Addr × Obj}
    (S : Sib s₁ s₂) (F : Fr hB Lc s₂.heap m₂) (N : News hB Lc s₂.heap (p :: own)) (ha : [p.1] = adr) (hJ : J m₂ [p]) : TEnd hB Lc J own adr s₁ s₂ := ⟨_, [p], S, F, N, ha, hJ⟩

theorem for_walk {w : World} {A : Around} {hB : Heap} {env : Env} {Lc : Addr} (hEL : env.locals = Lc) {x : PySem.Str} {px : Pos} {body : List Stmt} {R : Result → Shared → Prop} {s : Shared}
    {I : Addr} {fp wr : List Addr} {n : Nat} {P : Nat → Value → Prop} {St : Nat → Heap → Prop} (W : Walks PV w A I fp wr n P St)
    (J : Nat → (PySem.Str → Option Value) → List (Addr × Obj) → Prop) {m : PySem.Str → Option Value} {news : List (Addr × Obj)}
    (hLf : Lc ∉ fp) (hwr : ∀ b ∈ wr, hB.get? b = none) (hadr : ∀ p ∈ news, p.1 ∉ fp) (st : St 0 s.heap) (F : Fr hB Lc s.heap m) (N : News hB Lc s.heap news) (hJ : J 0 m news)
    (hk1 : env.kindOf x = some .local) (hp : (env.scope.kind == .class || (env.scope.kind == .module && env.locals != env.globals)) = false)
    (turn : ∀ k v m₁ news₁ own (s₁ : Shared), k < n → P k v → news₁.map (·.1) = news.map (·.1) → J k m₁ news₁ → Fr hB Lc s₁.heap (fun y => if y = x then some v else m₁ y) →
      News hB Lc s₁.heap (news₁ ++ own) → (∀ p ∈ own, ∀ b ∈ news.map (·.1), p.1 ≠ b) → Sib s s₁ →
      wpAny (model PV w) A (execs body env) (fun f s₂ => match f with
        | .ret v => R (.ok (.ret v)) s₂
        | .brk => R (.ok .next) s₂
        | _ => TEnd hB Lc (J (k + 1)) own (news.map (·.1)) s₁ s₂) (fun _ _ => False) s₁)
    (done : ∀ m₁ news₁ s₁, news₁.map (·.1) = news.map (·.1) → J n m₁ news₁ → Fr hB Lc s₁.heap m₁ → News hB Lc s₁.heap news₁ → Sib s s₁ → R (.ok .next) s₁) :
    codeAny (model PV w) A (.forLoop (.Name x px) (.ref I) body [] env) R s := by
  subst hEL
  have hLw : env.locals ∉ wr := fun h => hLf (W.sub _ h)
  have adrF : ∀ {news' : List (Addr × Obj)}, news'.map (·.1) = news.map (·.1) → ∀ p ∈ news', p.1 ∉ fp := fun {news'} ha p hp => by
    have : p.1 ∈ news.map (·.1) := ha ▸ List.mem_map_of_mem hp
    obtain ⟨q, hq, e⟩ := List.mem_map.mp this
    exact e ▸ hadr q hq
  refine codeAny_forLoop (fun j s' => ∃ k m₁ news₁, j = n + 1 - k ∧ k ≤ n ∧ St k s'.heap ∧ Fr hB env.locals s'.heap m₁ ∧ News hB env.locals s'.heap news₁ ∧ news₁.map (·.1) = news.map (·.1) ∧ J k m₁ news₁ ∧ Sib s s')
    ?_ (n + 1) ⟨0, m, news, rfl, Nat.zero_le _, st, F, N, rfl, hJ, Sib.refl s⟩
  rintro j s' ⟨k, m₁, news₁, rfl, hk, hst, F₁, N₁, ha, hJ₁, S₁⟩
  have next : ∀ h₁ : Heap, (∀ b o, b ∉ wr → s'.heap.get? b = some o → h₁.get? b = some o) → Fr hB env.locals h₁ m₁ ∧ News hB env.locals h₁ news₁ := fun h₁ hk₁ =>
    ⟨⟨F₁.ns.at' fun o e => hk₁ _ o hLw e, fun b o e => hk₁ b o (fun hb => by rw [hwr b hb] at e; cases e) (F₁.keep b o e), F₁.above⟩,
      fun p hp => ⟨hk₁ _ _ (fun hb => adrF ha p hp (W.sub _ hb)) (N₁ p hp).1, (N₁ p hp).2⟩⟩
  refine wpAny_mono (E := fun _ _ => False) ?_ (fun _ _ h => h) (fun _ _ x => x.elim)
  by_cases hlt : k < n
  · refine W.item k _ _ _ hlt hst fun v h₁ tk₁ hP hst₁ hk₁ => ?_
    obtain ⟨F₂, N₂⟩ := next h₁ hk₁
    refine wpAny_mono (E := fun _ _ => False) ?_ (fun _ _ h => h) (fun _ _ x => x.elim)
    refine wpAny_assign_Name (wpAny_storeName_local hk1 F₂.ns (fun h₂ hn₂ hs₂ => ?_) hp)
    replace hs₂ : Heap.SameBut env.locals h₁ h₂ := hs₂
    have F₃ := F₂.set hn₂ hs₂
    have N₃ : News hB env.locals h₂ news₁ := N₂.set hs₂
    have hst₂ : St (k + 1) h₂ := W.frame _ _ _ hst₁ fun b hb o e => hs₂.extBut b o (fun q => hLf (q ▸ hb)) e
    obtain ⟨own, No, hoff, keepO⟩ := all_own' (L := env.locals) (news.map (·.1)) F₃.keep
    refine wpAny_mono (turn k v m₁ news₁ own _ hlt hP ha hJ₁ F₃ (N₃.append No) hoff ⟨S₁.os, S₁.drawn, S₁.gens⟩) (fun f s₂ h₆ => ?_) (fun _ _ x => x.elim)
    have fin : TEnd hB env.locals (J (k + 1)) own (news.map (·.1)) { s' with heap := h₂, toks := tk₁ + 1 } s₂ → ∃ j', j' < n + 1 - k ∧ ∃ k m₁ news₁, j' = n + 1 - k ∧ k ≤ n ∧ St k s₂.heap ∧ Fr hB env.locals s₂.heap m₁ ∧ News hB env.locals s₂.heap news₁ ∧ news₁.map (·.1) = news.map (·.1) ∧ J k m₁ news₁ ∧ Sib s s₂ := by
      rintro ⟨m₂, news₂, S₆, F₆, N₆, ha₆, hJ₆⟩
      refine ⟨n + 1 - (k + 1), Nat.sub_lt_sub_left (Nat.lt_succ_of_lt hlt) (Nat.lt_succ_self k), k + 1, m₂, news₂, rfl, hlt, W.frame _ _ _ hst₂ fun b hb o e => ?_, F₆, fun p hp => N₆ p (List.mem_append_left _ hp), ha₆, hJ₆, S₁.trans ⟨S₆.os, S₆.drawn, S₆.gens⟩⟩
      exact keepO _ _ _ F₆ (fun p hp => N₆ p (List.mem_append_right _ hp)) (fun _ h => h) b o (fun q => hLf (q ▸ hb)) (fun hm => by
        obtain ⟨q, hq, e⟩ := List.mem_map.mp hm
        exact hadr q hq (e ▸ hb)) e
    cases f with
    | ret v => exact h₆
    | brk => exact h₆
    | next => exact fin h₆
    | cont => exact fin h₆
  · have hkn : k = n := by omega
    subst hkn
    refine W.done _ _ _ hst fun h₁ tk₁ hk₁ => wpAny_execs_nil ?_
    obtain ⟨F₂, N₂⟩ := next h₁ hk₁
    exact done m₁ news₁ _ ha hJ₁ F₂ N₂ ⟨S₁.os, S₁.drawn, S₁.gens⟩

theorem for_list {w : World} {A : Around} {hB : Heap} {env : Env} {Lc : Addr} (hEL : env.locals = Lc) {x : PySem.Str} {px : Pos} {body : List Stmt} {R : Result → Shared → Prop} {s : Shared} {a : Addr} {items : Array Value}
    (hh : A.handled = none) (hl : s.heap.IsList a items)
    (J : Nat → (PySem.Str → Option Value) → List (Addr × Obj) → Prop) {m : PySem.Str → Option Value} {news : List (Addr × Obj)}
    (haL : a ≠ Lc) (haN : ∀ p ∈ news, p.1 ≠ a) (F : Fr hB Lc s.heap m) (N : News hB Lc s.heap news) (hJ : J 0 m news)
    (hk1 : env.kindOf x = some .local) (hp : (env.scope.kind == .class || (env.scope.kind == .module && env.locals != env.globals)) = false)
    (turn : ∀ k v m₁ news₁ own (s₁ : Shared), k < items.size → items[k]? = some v → news₁.map (·.1) = news.map (·.1) → J k m₁ news₁ → Fr hB Lc s₁.heap (fun y => if y = x then some v else m₁ y) →
      News hB Lc s₁.heap (news₁ ++ own) → (∀ p ∈ own, ∀ b ∈ news.map (·.1), p.1 ≠ b) → Sib s s₁ →
      wpAny (model PV w) A (execs body env) (fun f s₂ => match f with
        | .ret v => R (.ok (.ret v)) s₂
        | .brk => R (.ok .next) s₂
        | _ => TEnd hB Lc (J (k + 1)) own (news.map (·.1)) s₁ s₂) (fun _ _ => False) s₁)
    (done : ∀ m₁ news₁ s₁, news₁.map (·.1) = news.map (·.1) → J items.size m₁ news₁ → Fr hB Lc s₁.heap m₁ → News hB Lc s₁.heap news₁ → Sib s s₁ → R (.ok .next) s₁) :
    wpAny (model PV w) A (pyIter (.ref a)) (fun it s₂ => codeAny (model PV w) A (.forLoop (.Name x px) it body [] env) R s₂) (fun _ _ => False) s := by
  refine wpAny_pyIter_list hl ?_
  have hlt : a < s.heap.objs.size := by obtain ⟨o, ho, _⟩ := hl; exact Heap.lt_size ho
  have W := Walks.list (prog := PV) (w := w) hh s.heap.objs.size a (Nat.ne_of_lt hlt) items
  refine for_walk hEL W J ?_ ?_ ?_ ⟨⟨_, Heap.get?_push_size _ rfl, rfl, rfl⟩, let ⟨o, ho, r⟩ := hl; ⟨o, Heap.get?_push_of_some _ ho, r⟩⟩ (F.push _) (fun p hp => ⟨Heap.get?_push_of_some _ (N p hp).1, (N p hp).2⟩) hJ hk1 hp
    (fun k v m₁ news₁ own s₁ hk hP ha hJ F N ho S => turn k v m₁ news₁ own s₁ hk hP ha hJ F N ho ⟨S.os, S.drawn, S.gens⟩) (fun m₁ news₁ s₁ ha hJ F N S => done m₁ news₁ s₁ ha hJ F N ⟨S.os, S.drawn, S.gens⟩)
  · intro hm
    rcases List.mem_cons.mp hm with e | hm
    · exact Nat.lt_irrefl _ (e ▸ F.ns.lt)
    · exact haL (List.mem_singleton.mp hm).symm
  · intro b hb
    rw [List.mem_singleton.mp hb]
    exact Heap.get?_none_of_le (Nat.le_trans F.above (Nat.le_of_lt F.ns.lt))
  · intro p hp hm
    rcases List.mem_cons.mp hm with e | hm
    · exact Nat.lt_irrefl _ (e ▸ Heap.lt_size (N p hp).1)
    · exact haN p hp (List.mem_singleton.mp hm)
end
section
open PySem PySem.W PySem.Calls PyProof.Rows
set_option Elab.async false
set_option maxRecDepth 100000
local macro_rules | `(tactic| walk_at "Pad") => `(tactic| skip)
theorem reset_G6 : True := by w_top off; trivial
noncomputable def pMap (a D : Addr) (vv : Option Value) : PySem.Str → Option Value := fun y =>
  if y = (PySem.Str.ofString "v") then vv else if y = (PySem.Str.ofString "accepted_values") then some (.ref D) else List.lookup y [(PySem.Str.ofString "email_header_fields", Value.ref a)]
theorem pMap_v (a D : Addr) (vv v' : Option Value) : (fun y => if y = (PySem.Str.ofString "v") then v' else pMap a D vv y) = pMap a D v' := by
  funext y
  simp only [pMap]
  split <;> rfl
theorem pMap_vv (a D : Addr) (vv v' v'' : Option Value) : (fun y => if y = (PySem.Str.ofString "v") then v'' else if y = (PySem.Str.ofString "v") then v' else pMap a D vv y) = pMap a D v'' := by
  funext y
  simp only [pMap]
  split <;> rfl
theorem pMap_start (a D : Addr) : (fun y => if y = (PySem.Str.ofString "accepted_values") then some (Value.ref D) else List.lookup y [(PySem.Str.ofString "email_header_fields", Value.ref a)]) = pMap a D none := by
  funext y
  simp only [pMap]
  by_cases q : y = PySem.Str.ofString "v"
  · subst q; rfl
  · simp only [if_neg q]
noncomputable def lostT : PySem.Str := PySem.Str.ofString "('', '')"
noncomputable def ppvP (x : PySem.Str) : PySem.Str := if chkP x then x else lostT
local macro_rules | `(tactic| walk_at "exec For") => `(tactic| (walk_at "UseFor"))
local macro_rules | `(tactic| walk_at "pyIter ref") => `(tactic| (fail_if_success skip))
local macro_rules | `(tactic| walk_at "call builtin:list.append") => `(tactic| (refine append_str (by k_asm) (by k_asm) (by first | assumption | exact List.forall_mem_nil _) (by omega) ?_; intro h' F' N'))
local macro_rules | `(tactic| walk_at "call ref") => `(tactic| (k_here; k_dflt (refine' useG 350 ?k1 ?k2 ?k3 ?k4 ?k5 ?k6 ?k7 ?k8 ?k9 ?kA ?kB (fun B X T => check_ok B X T _ _ ?kC ?kD) ?_; walk_at "UseK"; (case kB => exact rfl); (case kC | kD => assumption); k_whole; intro vS sS pS extS F' N'; subst pS)))
set_option maxHeartbeats 4000000
structure PJ (a D : Addr) (l : List (PySem.Str × Tok)) (k : Nat) (m : PySem.Str → Option Value) (news : List (Addr × Obj)) : Prop where
  at_ : ∃ r n vv, m = pMap a D vv ∧ news = [(D, W.listOf (strValues r).toArray n)] ∧ r.map (·.1) = (l.take k).map (fun p => ppvP p.1) ∧ r.length = k
noncomputable def NewStrs (s s' : Shared) (v : Value) (ys : List PySem.Str) : Prop := ∃ D l n, v = .ref D ∧ s'.heap.get? D = some (W.listOf (strValues l).toArray n) ∧ l.map (·.1) = ys ∧ s.heap.get? D = none
theorem ppv_ok {w : World} {base : Heap} {outer : List Env} {s : Shared} {mg mb : PySem.Str → Option Value} {mean : ExcName → Option Value}
    (B : Below (Lv 340 outer) base outer s.heap) (X : (hd.heap_39 w.params).In s.heap) (T : TopV mg mb mean s.heap)
    (a : Addr) (l : List (PySem.Str × Tok)) (hl : s.heap.IsList a (strValues l).toArray) (hlen : l.length ≤ 100) (hx : ∀ p ∈ l, p.1.length ≤ 1000) (hs : ∀ p ∈ l, (stripP p.1).length ≤ 1000) :
    Gives w 340 outer 42 [.ref a] s (fun v s' => NewStrs s s' v (l.map fun p => ppvP p.1)) := by
  k_dflt (refine' enterP (fun n => List.lookup n [(Str.ofString "email_header_fields", Value.ref a)]) ?k1 ?k2 ?k3 ?k6 ?k7 ?k8 ?k9 ?kB ?kM ?_ ?c5 ?c2 ?c3 ?c4; (case k1 => k_asm); (case k2 => k_asm); (case k3 => k_asm); (case k6 => k_is); (case k7 => k_is); (case k8 => k_room); (case k9 => exact BindsTo.of_eq rfl); (case kB => exact locs rfl); (case kM => exact rfl); (case c5 => decide); (case c2 => exact rfl); (case c3 => exact rfl); (case c4 => exact rfl); k_whole)
  clear B X T
  intro L' h' tk' F' N' B' X' T'
  (try dsimp only)
  k_fold
  k_steps
  rename_i D _ _ _ F1 N1
  refine for_list (hB := s.heap) (Lc := L') rfl rfl (a := a) (items := (strValues l).toArray) (let ⟨o, ho, r⟩ := hl; ⟨o, F1.keep _ _ ho, r⟩) (PJ a D l) ?_ ?_ F1 N1 ?_ rfl rfl ?_ ?_
  case refine_1 => exact fun e => by obtain ⟨o, ho, _⟩ := hl; exact Nat.lt_irrefl _ (Nat.lt_of_lt_of_le (e ▸ Heap.lt_size ho) F1.above)
  case refine_2 =>
    intro p hp e
    obtain ⟨o, ho, _⟩ := hl
    have := (N1 p hp).2.2
    rw [e, ho] at this
    cases this
  case refine_3 => exact ⟨[], 0, none, pMap_start .., rfl, rfl, rfl⟩
  case refine_4 =>
    intro k v m₁ news₁ own s₁ hk hv ha hJ F N hoff S
    obtain ⟨r, n, vv, rfl, rfl, hr, hrl⟩ := hJ.at_
    have hoffD : ∀ p ∈ own, p.1 ≠ D := fun p hp => hoff p hp D (.head _)
    have hkl : k < l.length := by simpa [strValues] using hk
    obtain ⟨⟨z, tz⟩, hlk'⟩ : ∃ q, l[k]? = some q := ⟨_, List.getElem?_eq_getElem hkl⟩
    have hvz : v = .str z tz := by
      have : (strValues l).toArray[k]? = some (.str z tz) := by simp [strValues, hlk']
      rw [this] at hv; exact (Option.some.inj hv).symm
    subst hvz
    have hz1 := hx _ (List.mem_of_getElem? hlk')
    have hz2 := hs _ (List.mem_of_getElem? hlk')
    dsimp only at hz1 hz2
    rw [List.cons_append, List.nil_append] at N
    clear hJ hk
    have hmap : ∀ (y : PySem.Str) (t : Tok), ppvP z = y → (r ++ [(y, t)]).map (fun p : PySem.Str × Tok => p.1) = (l.take (k + 1)).map (fun p => ppvP p.1) := fun y t e => by
      rw [List.take_add_one, hlk']
      simp [hr, e]
    k_steps
    · (rename chkP z = true => hq); (with_reducible rename Fr _ _ _ _ => F2); (with_reducible rename News _ _ _ _ => N2); (with_reducible rename Ext _ _ => extS)
      dsimp only
      exact TEnd.of1 ⟨extS.os, extS.drawn, extS.gens⟩ F2 N2 ha ⟨r ++ [(z, tz)], _, _, pMap_v .., rfl, hmap _ _ (by simp [ppvP, hq]), by simp [hrl]⟩
    · (rename chkP z = false => hq); (with_reducible rename Fr _ _ _ _ => F2); (with_reducible rename News _ _ _ _ => N2); (with_reducible rename Ext _ _ => extS)
      dsimp only
      exact TEnd.of1 ⟨extS.os, extS.drawn, extS.gens⟩ F2 N2 ha ⟨r ++ [(lostT, _)], _, _, pMap_vv .., rfl, hmap _ _ (by simp [ppvP, hq]), by simp [hrl]⟩
  case refine_5 =>
    intro m₁ news₁ s₁ ha hJ F N S
    obtain ⟨r, n, vv, rfl, rfl, hr, hrl⟩ := hJ.at_
    have hsz : (strValues l).toArray.size = l.length := by simp [strValues]
    rw [hsz, List.take_length] at hr
    clear hJ
    dsimp only
    k_steps
    · exact ⟨D, r, n, rfl, (N _ (.head _)).1, hr, (N _ (.head _)).2.2⟩
    · exact ⟨Fr.keep (by assumption), S.os, S.drawn, S.gens⟩
end
section
open PySem PySem.W PySem.Calls PyProof.Rows
set_option Elab.async false
set_option maxRecDepth 100000
open PySem.Builtin PySem.Builtin.Str in
/-- str.find with a start and an end -/
noncomputable def findR (x y : PySem.Str) (i j : Int) : Int := match occurrences x y (fromIndex x.length i) (min (fromIndex x.length j) x.length) 1 with | k :: _ => (k : Int) | [] => -1
open PySem.Builtin PySem.Builtin.Str in
theorem gives_findR (x y : PySem.Str) (i j : Int) (t u v v' : Tok) : PySem.Gives («str.find» ⟨[.str x t, .str y u, .int i v, .int j v'], []⟩) (.int (findR x y i j)) := by
  unfold findR
  show PySem.Gives (match occurrences x y (fromIndex x.length i) (min (fromIndex x.length j) x.length) 1 with | k :: _ => retInt k | [] => (do rule "str.find.not-found"; retInt (-1))) _
  cases occurrences x y (fromIndex x.length i) (min (fromIndex x.length j) x.length) 1 with
  | nil => exact .rule (.of_eq rfl)
  | cons k _ => exact .of_eq rfl
section
variable {w : World} {A : Around} {E : Value → Shared → Prop} {s : Shared} {h₀ : Heap} {L D : Addr} {m : PySem.Str → Option Value} {news news' : List (Addr × Obj)}
theorem call_findR {x y : PySem.Str} {t u v v' : Tok} {i j : Int} {Q : Value → Shared → Prop} (hq : Q (.int (findR x y i j) s.toks) { s with toks := s.toks + 1 }) :
    wpAny (model PV w) A (call (.builtin "str.find") [.str x t, .str y u, .int i v, .int j v']) Q E s :=
  call_gives F.slot_str_find (typeIs_str _ _ _) F.entry_str_find (F.args_str_find_4 _ _ _ _) (gives_findR x y i j t u v v') hq
theorem del_K {its its' : Array Value} {n : Nat} {i : Int} {u : Tok} {k : Nat} {Q : Unit → Shared → Prop} (F : Fr h₀ L s.heap m) (N : News h₀ L s.heap news) (U : Upd D (W.listOf its n) (W.listOf its' (n + 1)) news news')
    (hfit : Builtin.List.listFitsIndex i = true) (hk : seqIndex? i its.size = some k) (hks : k < its.size) (he : its.eraseIdxIfInBounds k = its') (hsz : its.size ≤ sizeLine)
    (h : ∀ h', Fr h₀ L h' m → News h₀ L h' news' → Q () { s with heap := h' }) : wpAny (model PV w) A (delItem (.ref D) (.int i u)) Q E s := by
  subst he
  obtain ⟨pre, post, rfl, rfl, a, b⟩ := U.split
  have z := N (D, W.listOf its n) (List.mem_append.mpr (.inr (.head _)))
  refine P.delItem_list (n := n) z.1 hfit hk ?_ hsz
  have hne : ((its.eraseIdxIfInBounds k).size == its.size) = false := by
    rw [beq_eq_false_iff_ne]
    simp [Array.eraseIdxIfInBounds, hks]
    omega
  have hf : Obj.mapSeq (fun xs => xs.eraseIdxIfInBounds k) (W.listOf its n) = W.listOf (its.eraseIdxIfInBounds k) (n + 1) := by
    unfold Obj.mapSeq W.listOf
    dsimp only
    rw [hne]
    rfl
  obtain ⟨F', N'⟩ := news_upd (o' := W.listOf (its.eraseIdxIfInBounds k) (n + 1)) (f := Obj.mapSeq fun xs => xs.eraseIdxIfInBounds k) F N a b hf rfl
  exact h _ F' N'
theorem strV_cons (p : PySem.Str × Tok) (l : List (PySem.Str × Tok)) : strValues (p :: l) = .str p.1 p.2 :: strValues l := rfl
theorem erase_last {α : Type} (l : List α) (a : α) : (l ++ [a]).eraseIdx l.length = l := by
  rw [List.eraseIdx_append_of_length_le (Nat.le_refl _)]; simp
theorem del_first {z : PySem.Str} {t : Tok} {rest : List (PySem.Str × Tok)} {n : Nat} {u : Tok} {Q : Unit → Shared → Prop} (F : Fr h₀ L s.heap m) (N : News h₀ L s.heap news)
    (U : Upd D (W.listOf (strValues ((z, t) :: rest)).toArray n) (W.listOf (strValues rest).toArray (n + 1)) news news') (hl : rest.length ≤ 2000)
    (h : ∀ h', Fr h₀ L h' m → News h₀ L h' news' → Q () { s with heap := h' }) : wpAny (model PV w) A (delItem (.ref D) (.int 0 u)) Q E s :=
  del_K (k := 0) F N U (by decide) (by simp [seqIndex?, strValues]) (by simp [strValues]) (by simp [strValues]) (by rw [PySem.sizeLine_eq]; simp [strValues]; omega) h
theorem del_last {z : PySem.Str} {t : Tok} {lm : List (PySem.Str × Tok)} {n : Nat} {u : Tok} {Q : Unit → Shared → Prop} (F : Fr h₀ L s.heap m) (N : News h₀ L s.heap news)
    (U : Upd D (W.listOf (strValues (lm ++ [(z, t)])).toArray n) (W.listOf (strValues lm).toArray (n + 1)) news news') (hl : lm.length ≤ 2000)
    (h : ∀ h', Fr h₀ L h' m → News h₀ L h' news' → Q () { s with heap := h' }) : wpAny (model PV w) A (delItem (.ref D) (.int (-1) u)) Q E s :=
  del_K (k := lm.length) F N U (by decide) (by simp [seqIndex?, strValues]; omega) (by simp [strValues]) (by
    simp only [strValues, List.eraseIdxIfInBounds_toArray, List.map_append, List.map_cons, List.map_nil]
    have := erase_last (lm.map fun p : PySem.Str × Tok => Value.str p.1 p.2) (Value.str z t)
    rw [List.length_map] at this
    rw [this]) (by rw [PySem.sizeLine_eq]; simp [strValues]; omega) h
theorem item_last {value slice : PySem.Expr} {z : PySem.Str} {t : Tok} {lm : List (PySem.Str × Tok)} {n : Nat} {u : Tok} {Q : Value → Shared → Prop} (N : News h₀ L s.heap news) (hm : (D, W.listOf (strValues (lm ++ [(z, t)])).toArray n) ∈ news)
    (h : Q (.str z t) s) (hs : subscripted slice false (.ref D) (.int (-1) u) = operate [.ref D, .int (-1) u] (getItem (.ref D) (.int (-1) u)) := by with_unfolding_all rfl) :
    wpAny (model PV w) A (subscriptTail value slice (.ref D) (.int (-1) u)) Q E s :=
  have hL : s.heap.IsList D (strValues (lm ++ [(z, t)])).toArray := ⟨_, (N _ hm).1, rfl, _, rfl⟩
  tail_any hL.typeIs slot_list_getitem.lookup (wpAny_getItem_list_neg hL (by decide) (by simp [strValues]; omega) (by decide) (by
    have e : ((-1 : Int) + ((strValues (lm ++ [(z, t)])).toArray.size : Nat)).toNat = lm.length := by simp [strValues]; omega
    rw [e]; simp [strValues]) h) hs
end
end
section
open PySem PySem.W PySem.Calls PyProof.Rows
set_option Elab.async false
set_option maxRecDepth 100000
theorem reset_E1 : True := by w_top off; trivial
theorem map_split {lq : List (PySem.Str × Tok)} {z0 zl : PySem.Str} {mid : List PySem.Str} (h : lq.map (·.1) = z0 :: (mid ++ [zl])) : ∃ t0 lm tl, lq = (z0, t0) :: (lm ++ [(zl, tl)]) ∧ lm.map (·.1) = mid := by
  cases lq with
  | nil => cases h
  | cons p r =>
    rw [List.map_cons] at h
    injection h with h1 h2
    obtain ⟨a, b, rfl, ha, hb⟩ := List.map_eq_append_iff.mp h2
    cases b with
    | nil => cases hb
    | cons q b' =>
      rw [List.map_cons] at hb
      injection hb with hb1 hb2
      cases b' with
      | nil => exact ⟨p.2, a, q.2, by rw [← h1, ← hb1], ha⟩
      | cons _ _ => cases hb2
section
variable {w : World} {A : Around} {E : Value → Shared → Prop} {s : Shared} {h₀ : Heap} {L : Addr} {m : PySem.Str → Option Value} {news : List (Addr × Obj)}
theorem my_split {x y z0 zl : PySem.Str} {mid : List PySem.Str} {t u : Tok} {Q : Value → Shared → Prop} (F : Fr h₀ L s.heap m) (N : News h₀ L s.heap news) (hs : PySem.Txt.split x y = z0 :: (mid ++ [zl])) (hx : x.length ≤ 100 ∧ (y.length == 0) = false)
    (hmid : mid.length ≤ 100) (h : ∀ h' tk lm t0 tl, lm.map (·.1) = mid ∧ lm.length ≤ 100 → Fr h₀ L h' m → News h₀ L h' ((s.heap.objs.size, W.listOf (strValues ((z0, t0) :: (lm ++ [(zl, tl)]))).toArray 0) :: news) → Q (.ref s.heap.objs.size) { s with heap := h', toks := tk }) :
    wpAny (model PV w) A (call (.builtin "str.split") [.str x t, .str y u]) Q E s := by
  refine splitN1 F N hx.2 (fun lq h' k hq F' N' => ?_) (by rw [PySem.sizeLine_eq]; omega)
  obtain ⟨t0, lm, tl, rfl, hm⟩ := map_split (hq.trans hs)
  exact h h' k lm t0 tl ⟨hm, by rw [← hm, List.length_map] at hmid; exact hmid⟩ F' N'
theorem my_len {D : Addr} {lm : List (PySem.Str × Tok)} {p q : PySem.Str × Tok} {n : Nat} {Q : Value → Shared → Prop} (N : News h₀ L s.heap news) (hm : (D, W.listOf (strValues (p :: (lm ++ [q]))).toArray n) ∈ news) (hl : lm.length ≤ 100)
    (h : Q (.int ((lm.length : Int) + 2) (s.toks + 1)) { s with toks := s.toks + 1 + 1 }) : wpAny (model PV w) A (call (.builtin "len") [.ref D]) Q E s := by
  refine len_strs (l := p :: (lm ++ [q])) ⟨_, (N _ hm).1, rfl, _, rfl⟩ (by simp; omega) ?_
  have e : (((p :: (lm ++ [q])).length : Nat) : Int) = (lm.length : Int) + 2 := by simp; omega
  rw [e]; exact h
theorem truthy_pos {x : PySem.Str} {t : Tok} {Q : Bool → Shared → Prop} (h0 : 0 < x.length) (h1 : x.length ≤ 100) (h : Q true { s with toks := s.toks + 1 + 1 }) : wpAny (model PV w) A (truthy (.str x t)) Q E s := by
  refine P.truthy_str (by omega) ?_
  have e : ((x.length : Int) != 0) = true := by simp; omega
  rw [e]; exact h
end
noncomputable def dots : PySem.Str := PySem.Str.ofString "..."
noncomputable def findL (y : PySem.Str) (e : Int) : Int → List PySem.Str → Bool
  | _, [] => true
  | s, z :: r => if findR y z s e < 0 then false else findL y e (findR y z s e + z.length) r
noncomputable def ellQ (y z0 : PySem.Str) (mid : List PySem.Str) (zl : PySem.Str) : Bool :=
  if PySem.Txt.startswith y z0 = true then
    if PySem.Txt.endswith y zl = true then
      if (z0.length : Int) > y.length - zl.length then false else findL y (y.length - zl.length) z0.length mid
    else false
  else false
local macro_rules | `(tactic| walk_at "call builtin:str.split") => `(tactic| (refine my_split (by k_asm) (by k_asm) (by assumption) (by assumption) (by assumption) ?_; intro hE tkE lmE t0E tlE hmE F' N'; obtain ⟨hmE1, hmE2⟩ := hmE))
local macro_rules | `(tactic| walk_at "call builtin:len") => `(tactic| (refine my_len (by k_asm) (by k_mem) (by assumption) ?_))
local macro_rules | `(tactic| walk_at "truthy str") => `(tactic| (refine truthy_pos (by assumption) (by assumption) ?_))
local macro_rules | `(tactic| walk_at "exec For Name Name cons nil") => `(tactic| (walk_at "UseFor"))
local macro_rules | `(tactic| walk_at "subscriptTail") => `(tactic| ((with_reducible show wpAny _ _ (subscriptTail _ _ (Value.ref _) (Value.int (-1) _)) _ _ _); refine item_last (by k_asm) (by k_mem) ?_))
local macro_rules | `(tactic| walk_at "delItem") => `(tactic| (first | refine del_first (by k_asm) (by k_asm) (by k_upd) (by first | omega | (simp only [List.length_append, List.length_cons, List.length_nil]; omega)) ?_ | refine del_last (by k_asm) (by k_asm) (by k_upd) (by first | omega | (simp only [List.length_append, List.length_cons, List.length_nil]; omega)) ?_); intro h' F' N')

noncomputable def eMap (x y : PySem.Str) (tx ty : Tok) (D : Addr) (e : Int) (te : Tok) (st : Int) (ts : Tok) (wv : Option Value) : PySem.Str → Option Value := fun n =>
  if n = (PySem.Str.ofString "startpos") then some (.int st ts) else if n = (PySem.Str.ofString "w") then wv else if n = (PySem.Str.ofString "endpos") then some (.int e te) else
  if n = (PySem.Str.ofString "ws") then some (.ref D) else if n = (PySem.Str.ofString "got") then some (.str y ty) else if n = (PySem.Str.ofString "want") then some (.str x tx) else none
structure EJ (x y : PySem.Str) (tx ty : Tok) (D : Addr) (e : Int) (mid : List PySem.Str) (st0 : Int) (k : Nat) (m : PySem.Str → Option Value) (news : List (Addr × Obj)) : Prop where
  at_ : ∃ te st ts wv, m = eMap x y tx ty D e te st ts wv ∧ news = [] ∧ findL y e st0 mid = findL y e st (mid.drop k)
theorem EJ.start (x y : PySem.Str) (tx ty : Tok) (D : Addr) (e : Int) (mid : List PySem.Str) (st : Int) (te ts : Tok) (wv wv' v1 v2 : Option Value) :
    EJ x y tx ty D e mid st 0 (fun n => if n = (PySem.Str.ofString "endpos") then some (.int e te) else if n = (PySem.Str.ofString "w") then wv else if n = (PySem.Str.ofString "startpos") then some (.int st ts) else
      if n = (PySem.Str.ofString "w") then wv' else if n = (PySem.Str.ofString "startpos") then v1 else if n = (PySem.Str.ofString "endpos") then v2 else if n = (PySem.Str.ofString "ws") then some (.ref D) else
      List.lookup n [(PySem.Str.ofString "got", Value.str y ty), (PySem.Str.ofString "want", Value.str x tx)]) [] := by
  refine ⟨te, st, ts, wv, ?_, rfl, rfl⟩
  funext n
  simp only [eMap]
  by_cases q1 : n = (PySem.Str.ofString "startpos")
  · subst q1; rfl
  by_cases q2 : n = (PySem.Str.ofString "w")
  · subst q2; rfl
  by_cases q3 : n = (PySem.Str.ofString "endpos")
  · subst q3; rfl
  by_cases q4 : n = (PySem.Str.ofString "ws")
  · subst q4; rfl
  by_cases q5 : n = (PySem.Str.ofString "got")
  · subst q5; rfl
  by_cases q6 : n = (PySem.Str.ofString "want")
  · subst q6; rfl
  simp [q1, q2, q3, q4, q5, q6, List.lookup, beq_eq_false_iff_ne.mpr q5, beq_eq_false_iff_ne.mpr q6]
theorem eMap_st (x y : PySem.Str) (tx ty : Tok) (D : Addr) (e : Int) (te : Tok) (st st' st'' : Int) (ts ts' ts'' : Tok) (wv wv' : Option Value) :
    (fun n => if n = (PySem.Str.ofString "startpos") then some (Value.int st'' ts'') else if n = (PySem.Str.ofString "startpos") then some (Value.int st' ts') else if n = (PySem.Str.ofString "w") then wv' else eMap x y tx ty D e te st ts wv n) = eMap x y tx ty D e te st'' ts'' wv' := by
  funext n
  simp only [eMap]
  split
  · rfl
  · split <;> rfl
local macro_rules | `(tactic| walk_at "call builtin:str.find") => `(tactic| (refine call_findR ?_))
set_option maxHeartbeats 16000000
theorem ell_ok {w : World} {base : Heap} {outer : List Env} {s : Shared} {mg mb : PySem.Str → Option Value} {mean : ExcName → Option Value}
    (B : Below (Lv 340 outer) base outer s.heap) (X : (hd.heap_39 w.params).In s.heap) (T : TopV mg mb mean s.heap)
    (x y z0 zl : PySem.Str) (mid : List PySem.Str) (tx ty : Tok) (hx : x.length ≤ 100 ∧ ((PySem.Str.ofString "...").length == 0) = false) (hy : y.length ≤ 100) (ho : (Builtin.Str.occurrences x (PySem.Str.ofString "...") 0 x.length 1).isEmpty = false)
    (hsp : PySem.Txt.split x (PySem.Str.ofString "...") = z0 :: (mid ++ [zl])) (h0 : 0 < z0.length ∧ z0.length ≤ 100) (hl : 0 < zl.length ∧ zl.length ≤ 100) (hmid : mid.length ≤ 100) (hmid2 : ∀ z ∈ mid, z.length ≤ 100) :
    Gives w 340 outer 63 [.str x tx, .str y ty] s (fun v _ => v = .bool (ellQ y z0 mid zl)) := by
  k_dflt (refine' enterP (fun n => List.lookup n [(Str.ofString "got", Value.str y ty), (Str.ofString "want", Value.str x tx)]) ?k1 ?k2 ?k3 ?k6 ?k7 ?k8 ?k9 ?kB ?kM ?_ ?c5 ?c2 ?c3 ?c4; (case k1 => k_asm); (case k2 => k_asm); (case k3 => k_asm); (case k6 => k_is); (case k7 => k_is); (case k8 => k_room); (case k9 => exact BindsTo.of_eq rfl); (case kB => exact locs rfl); (case kM => exact rfl); (case c5 => decide); (case c2 => exact rfl); (case c3 => exact rfl); (case c4 => exact rfl); k_whole)
  obtain ⟨h0a, h0b⟩ := h0
  obtain ⟨hla, hlb⟩ := hl
  clear B X T
  intro L' h' tk' F' N' B' X' T'
  (try dsimp only)
  k_fold
  k_steps
  · (rename _ < (z0.length : Int) => hlt); (rename PySem.Txt.endswith y zl = true => hew); (rename PySem.Txt.startswith y z0 = true => hsw)
    show Value.bool false = Value.bool _
    simp only [ellQ, hsw, hew, if_true, gt_iff_lt, hlt]
  · exact Ext.to (Ext.refl _) (Fr.keep (by assumption))
  · (rename ¬ _ < (z0.length : Int) => hlt); (rename PySem.Txt.endswith y zl = true => hew); (rename PySem.Txt.startswith y z0 = true => hsw); (with_reducible rename Fr _ _ _ _ => F1); (with_reducible rename News _ _ _ _ => N1); (rename List.length _ ≤ 100 => hlm); (rename List.map _ _ = mid => hmap)
    rename_i D'' _ _ _ _ _ _ _ _ _ _ _ _ _
    (rename List (PySem.Str × Tok) => lm)
    refine' for_list (a := ?a) (items := (strValues lm).toArray) (m := _) (hB := s.heap) (Lc := L') (news := []) (J := EJ x y tx ty ?a ((y.length : Int) - zl.length) mid z0.length) ?e1 ?e2 ?hl ?e3 ?e4 ?F1 ?e5 ?e6 ?e7 ?e8 ?turn ?done
    case F1 => exact F1
    case hl => exact let ⟨a, _, _⟩ := N1 _ (.tail _ (.head _)); ⟨_, a, rfl, _, rfl⟩
    case e1 => rfl
    case e2 => rfl
    case e7 => rfl
    case e8 => rfl
    case e4 => exact fun p hp => by cases hp
    case e5 => exact fun p hp => by cases hp
    case e6 => exact EJ.start ..
    case e3 => exact (N1 _ (.tail _ (.head _))).2.1
    case turn =>
      intro k v m₁ news₁ own s₁ hk hv ha hJ F N hoff S
      obtain ⟨te, st, ts, wv, rfl, rfl, he⟩ := hJ.at_
      rw [List.nil_append] at N
      have hkl : k < lm.length := by simpa [strValues] using hk
      obtain ⟨⟨z, tz⟩, hlk'⟩ : ∃ q, lm[k]? = some q := ⟨_, List.getElem?_eq_getElem hkl⟩
      have hvz : v = .str z tz := by
        have : (strValues lm).toArray[k]? = some (.str z tz) := by simp [strValues, hlk']
        rw [this] at hv; exact (Option.some.inj hv).symm
      subst hvz
      have hmk : mid[k]? = some z := by rw [← hmap, List.getElem?_map, hlk']; rfl
      have hz : z.length ≤ 100 := hmid2 z (List.mem_of_getElem? hmk)
      have hdr : mid.drop k = z :: mid.drop (k + 1) := by
        obtain ⟨hk', e⟩ := List.getElem?_eq_some_iff.mp hmk
        rw [List.drop_eq_getElem_cons hk', e]
      rw [hdr, findL] at he
      clear hJ hk
      k_steps
      · (rename findR _ _ _ _ < 0 => hneg)
        rw [if_pos hneg] at he
        show Value.bool false = Value.bool _
        simp only [ellQ, hsw, hew, if_true, gt_iff_lt, hlt, if_false, he]
      · exact ⟨Fr.keep (by assumption), S.os, S.drawn, S.gens⟩
      · (rename ¬ findR _ _ _ _ < 0 => hneg); (with_reducible rename Fr _ _ _ _ => F2); (with_reducible rename News _ _ _ _ => N2)
        rw [if_neg hneg] at he
        dsimp only
        exact TEnd.of0 ⟨rfl, rfl, fun g => g⟩ F2 N2 ha ⟨_, _, _, _, eMap_st .., rfl, he⟩
    case done =>
      intro m₁ news₁ s₁ ha hJ F N S
      obtain ⟨te, st, ts, wv, rfl, rfl, he⟩ := hJ.at_
      have hsz : (strValues lm).toArray.size = mid.length := by rw [← hmap]; simp [strValues]
      rw [hsz, List.drop_length, findL] at he
      clear hJ
      dsimp only
      k_steps
      · show Value.bool true = Value.bool _
        simp only [ellQ, hsw, hew, if_true, gt_iff_lt, hlt, if_false, he]
      · exact ⟨Fr.keep (by assumption), S.os, S.drawn, S.gens⟩
  · (rename PySem.Txt.endswith y zl = false => hew); (rename PySem.Txt.startswith y z0 = true => hsw)
    show Value.bool false = Value.bool _
    simp only [ellQ, hsw, hew, if_true, Bool.false_eq_true, if_false]
  · exact Ext.to (Ext.refl _) (Fr.keep (by assumption))
  · (rename PySem.Txt.startswith y z0 = false => hsw)
    show Value.bool false = Value.bool _
    simp only [ellQ, hsw, Bool.false_eq_true, if_false]
  · exact Ext.to (Ext.refl _) (Fr.keep (by assumption))
end
section
open PySem PySem.W PySem.Calls PyProof.Rows PyProof.Rows.LCg
set_option Elab.async false
set_option maxRecDepth 100000
/-- the tests of a comprehension's clause -/
noncomputable abbrev tests (ifs : List PySem.Expr) (env : Env) : Sem Bool := forIn ifs true fun c r => if r = true then do let ok ← isTrue c env (eval c env); pure (ForInStep.yield ok) else pure (ForInStep.yield r)
section
variable {w : World} {A : Around} {R : Result → Shared → Prop} {s : Shared}
theorem comp_loop {elt target iter : PySem.Expr} {ifs : List PySem.Expr} {scope : Scope} {pos : Pos} {it acc : Value} {env : Env} (I : Nat → Shared → Prop)
    (turn : ∀ n s, I n s → wpAny (model PV w) A (pyNext it) (fun r s₁ => match r with
      | none => R (.ok .next) s₁
      | some v => wpAny (model PV w) A (letOwnedTupleGo target it v) (fun _ s₀ => wpAny (model PV w) A (assign target env v) (fun _ s₂ =>
          wpAny (model PV w) A (tests ifs env) (fun ok s₃ => match ok with
            | true => wpAny (model PV w) A (eval elt env) (fun x s₄ => wpAny (model PV w) A (call (.builtin "list.append") [acc, x]) (fun _ s₅ => ∃ m, m < n ∧ I m s₅) (fun _ _ => False) s₄) (fun _ _ => False) s₃
            | false => ∃ m, m < n ∧ I m s₃) (fun _ _ => False) s₂) (fun _ _ => False) s₀) (fun _ _ => False) s₁) (fun _ _ => False) s)
    (n : Nat) (h : I n s) : codeAny (model PV w) A (.compLoop (.ListComp elt [⟨target, iter, ifs, 0⟩] scope pos) 0 it acc env) R s := by
  refine codeAny_loop rfl I (fun n s hI => ?_) n h
  show wpAny _ A ((compTurn (.ListComp elt [⟨target, iter, ifs, 0⟩] scope pos) 0 it acc env).onRaise (fun x => do noteFrame x env; theTreesLotGoes x)) _ _ s
  refine wpAny_noted ?_
  rw [compTurn_list]
  refine wpAny_bind (wpAny_standAt (wpAny_bind (wpAny_mono (turn n s hI) (fun r s₁ h₁ => ?_) fun _ _ h' => h'.elim)))
  cases r with
  | none => exact wpAny_pure h₁
  | some v =>
    refine wpAny_bind (wpAny_mono h₁ (fun _ s₀ h₀' => ?_) fun _ _ h' => h'.elim)
    refine wpAny_bind (wpAny_mono h₀' (fun _ s₂ h₂ => ?_) fun _ _ h' => h'.elim)
    refine wpAny_bind (wpAny_mono h₂ (fun ok s₃ h₃ => ?_) fun _ _ h' => h'.elim)
    cases ok with
    | false => exact wpAny_bind (wpAny_pure (wpAny_pure ⟨rfl, h₃⟩))
    | true => exact wpAny_bind (wpAny_bind (wpAny_mono h₃ (fun x s₄ h₄ => wpAny_bind (wpAny_mono h₄ (fun _ s₅ h₅ => wpAny_pure (wpAny_pure ⟨rfl, h₅⟩)) fun _ _ h' => h'.elim)) fun _ _ h' => h'.elim))
end
/-- how a turn of a comprehension ends whose turns make lists that stay -/
noncomputable def CEndG (h₀ : Heap) (L : Addr) (m : PySem.Str → Option Value) (all : List (Addr × Obj)) (I C D : Addr) (G : List (Addr × Obj) → Prop) (s₁ s₂ : Shared) : Prop :=
  ∃ gr, Sib s₁ s₂ ∧ Fr h₀ L s₂.heap m ∧ News h₀ L s₂.heap all ∧ News h₀ L s₂.heap gr ∧ (∀ p ∈ gr, p.1 ≠ I ∧ p.1 ≠ C ∧ p.1 ≠ D) ∧ G gr
/-- how a turn of a comprehension ends -/
noncomputable def CEnd (h₀ : Heap) (L : Addr) (m : PySem.Str → Option Value) (all : List (Addr × Obj)) (G : Prop) (s₁ s₂ : Shared) : Prop := Sib s₁ s₂ ∧ Fr h₀ L s₂.heap m ∧ News h₀ L s₂.heap all ∧ G
section
variable {w : World} {A : Around} {E : Value → Shared → Prop} {s₂ : Shared} {h₀ : Heap} {L : Addr} {m : PySem.Str → Option Value} {env : Env} {news : List (Addr × Obj)} {elt target iter : PySem.Expr} {ifs : List PySem.Expr} {scope : Scope} {cl : List (PySem.Str × Addr)} {pos : Pos}
/-- the stores of a turn -/
noncomputable def Asg (w : World) (A : Around) (h₀ : Heap) (L : Addr) (env : Env) (news : List (Addr × Obj)) (target : PySem.Expr) (scope : Scope) (cl : List (PySem.Str × Addr)) (I : Addr) (n : Nat) (P : Nat → Value → Prop) (St : Nat → Heap → Prop)
    (X : Nat → Value → (PySem.Str → Option Value) → Prop) : Prop :=
  ∀ i v C (s₁ : Shared) m₂, i < n → P i v → s₁.heap.Ns C m₂ → C ≠ I → News h₀ L s₁.heap news → (∀ b o, h₀.get? b = some o → s₁.heap.get? b = some o) → St (i + 1) s₁.heap →
    wpAny (model PV w) A (letOwnedTupleGo target (.ref I) v) (fun _ s₀ => wpAny (model PV w) A (assign target (compEnvC scope cl C env) v)
      (fun _ s' => ∃ h' tk m₃, s' = { s₁ with heap := h', toks := tk } ∧ h'.Ns C m₃ ∧ X i v m₃ ∧ ∀ b o, b ≠ C → s₁.heap.get? b = some o → h'.get? b = some o) (fun _ _ => False) s₀) (fun _ _ => False) s₁
noncomputable def Turn (w : World) (A : Around) (h₀ : Heap) (L : Addr) (m : PySem.Str → Option Value) (env : Env) (news : List (Addr × Obj)) (elt : PySem.Expr) (ifs : List PySem.Expr) (scope : Scope) (cl : List (PySem.Str × Addr)) (s₂ : Shared) (n : Nat) (P : Nat → Value → Prop)
    (X : Nat → Value → (PySem.Str → Option Value) → Prop) (J : Nat → List Value → Prop) : Prop :=
  ∀ i v I oI C oC D ys m₂ (s₁ : Shared), i < n → P i v → J i ys → NsObj oC m₂ → X i v m₂ → Fr h₀ L s₁.heap m → News h₀ L s₁.heap ((I, oI) :: (C, oC) :: (D, lst ys) :: news) → Off3 I C D news → ((@Ne Nat I C) ∧ (@Ne Nat I D) ∧ (@Ne Nat C D)) → Sib s₂ s₁ →
    wpAny (model PV w) A (tests ifs (compEnvC scope cl C env)) (fun ok s₃ => match ok with
      | true => wpAny (model PV w) A (eval elt (compEnvC scope cl C env)) (fun y s₄ => CEnd h₀ L m ((I, oI) :: (C, oC) :: (D, lst ys) :: news) (J (i + 1) (ys ++ [y])) s₁ s₄) (fun _ _ => False) s₃
      | false => CEnd h₀ L m ((I, oI) :: (C, oC) :: (D, lst ys) :: news) (J (i + 1) ys) s₁ s₃) (fun _ _ => False) s₁
noncomputable def Fin (h₀ : Heap) (L : Addr) (m : PySem.Str → Option Value) (news : List (Addr × Obj)) (s₂ : Shared) (J : List Value → Prop) (RR : Value → Addr → Result → Shared → Prop) : Prop :=
  ∀ D C s' m' ys, J ys → Sib s₂ s' → Fr h₀ L s'.heap m → News h₀ L s'.heap ((D, lst ys) :: news) → Off1 D news → s'.heap.Ns C m' → h₀.get? C = none → h₀.get? D = none → C ≠ L → D ≠ L → C ≠ D → (∀ p ∈ news, p.1 ≠ C) → RR (.ref D) C (.ok .next) s'
noncomputable def TurnG (w : World) (A : Around) (h₀ : Heap) (L : Addr) (m : PySem.Str → Option Value) (env : Env) (news : List (Addr × Obj)) (elt : PySem.Expr) (ifs : List PySem.Expr) (scope : Scope) (cl : List (PySem.Str × Addr)) (s₂ : Shared) (n : Nat) (P : Nat → Value → Prop)
    (X : Nat → Value → (PySem.Str → Option Value) → Prop) (J : Nat → List Value → List (Addr × Obj) → Prop) : Prop :=
  ∀ i v I oI C oC D ys gr m₂ (s₁ : Shared), i < n → P i v → J i ys gr → NsObj oC m₂ → X i v m₂ → Fr h₀ L s₁.heap m → News h₀ L s₁.heap (((I, oI) :: (C, oC) :: (D, lst ys) :: news) ++ gr) → (∀ p ∈ gr, p.1 ≠ I ∧ p.1 ≠ C ∧ p.1 ≠ D) → Off3 I C D news → ((@Ne Nat I C) ∧ (@Ne Nat I D) ∧ (@Ne Nat C D)) → Sib s₂ s₁ →
    wpAny (model PV w) A (tests ifs (compEnvC scope cl C env)) (fun ok s₃ => match ok with
      | true => wpAny (model PV w) A (eval elt (compEnvC scope cl C env)) (fun y s₄ => CEndG h₀ L m ((I, oI) :: (C, oC) :: (D, lst ys) :: news) I C D (J (i + 1) (ys ++ [y])) s₁ s₄) (fun _ _ => False) s₃
      | false => CEndG h₀ L m ((I, oI) :: (C, oC) :: (D, lst ys) :: news) I C D (J (i + 1) ys) s₁ s₃) (fun _ _ => False) s₁
noncomputable def FinG (h₀ : Heap) (L : Addr) (m : PySem.Str → Option Value) (news : List (Addr × Obj)) (s₂ : Shared) (J : List Value → List (Addr × Obj) → Prop) (RR : Value → Addr → Result → Shared → Prop) : Prop :=
  ∀ D C s' m' ys gr, J ys gr → Sib s₂ s' → Fr h₀ L s'.heap m → News h₀ L s'.heap ((D, lst ys) :: news) → Off1 D news → s'.heap.Ns C m' → h₀.get? C = none → h₀.get? D = none → C ≠ L → D ≠ L → C ≠ D → (∀ p ∈ news, p.1 ≠ C) → News h₀ L s'.heap gr → (∀ p ∈ gr, p.1 ≠ C ∧ p.1 ≠ D) → RR (.ref D) C (.ok .next) s'
theorem comp_blockG {I : Addr} {fp : List Addr} {n : Nat} {P : Nat → Value → Prop} {St : Nat → Heap → Prop} {X : Nat → Value → (PySem.Str → Option Value) → Prop} (J : Nat → List Value → List (Addr × Obj) → Prop) {RR : Value → Addr → Result → Shared → Prop}
    (W : Walks PV w A I fp [I] n P St) (hsz : n ≤ sizeLine) (hIo : ∀ i h, St i h → ∃ o, h.get? I = some o)
    (hSt : ∀ i h h' o, St i h → h.get? I = some o → h'.get? I = some o → (∀ b o, h₀.get? b = some o → h'.get? b = some o) → News h₀ L h' news → St i h')
    (hcell : ∀ y ∈ scope.names, y.2 ≠ .cell) (hkind : scope.kind = .function) (hst : St 0 s₂.heap) (hfp : ∀ b ∈ fp, b < s₂.heap.objs.size)
    (F : Fr h₀ L s₂.heap m) (N : News h₀ L s₂.heap news) (hIL : L ≠ I) (hI₀ : h₀.get? I = none) (off : ∀ p ∈ news, p.1 ≠ I)
    (asg : Asg w A h₀ L env news target scope cl I n P St X) (hJ : J 0 [] []) (turn : TurnG w A h₀ L m env news elt ifs scope cl s₂ n P X J) (hRR : FinG h₀ L m news s₂ (J n) RR) :
    wpAny (model PV w) A (newList []) (fun acc s₃ => wpAny (model PV w) A (newFunctionEnv scope env.globals cl [] env.qual none .none (some env)) (fun cenv s₄ =>
      codeAny (model PV w) A (.compStart (.ListComp elt [⟨target, iter, ifs, 0⟩] scope pos) 0 (.ref I) acc { cenv with scope := relabel scope env }) (RR acc cenv.locals) s₄) E s₃) E s₂ := by
  refine wpAny_newObj_type (wpAny_newFunctionEnv hcell (by intro y hy; simp at hy) (fun h₁ hns₁ hsb₁ => ?_) hkind)
  dsimp only at hns₁ hsb₁ ⊢
  generalize hH2 : s₂.heap.push { cls := .type "list", dict := none, data := .seq ([] : List Value).toArray } = H2 at hns₁ hsb₁ ⊢
  have hC : H2.objs.size = s₂.heap.objs.size + 1 := by rw [← hH2, Heap.size_push]
  have hDC : s₂.heap.objs.size ≠ H2.objs.size := by rw [hC]; exact Nat.ne_of_lt (Nat.lt_succ_self _)
  have below : ∀ b, b < s₂.heap.objs.size → b ≠ H2.objs.size ∧ b ≠ s₂.heap.objs.size := fun b hb => ⟨by rw [hC]; exact Nat.ne_of_lt (Nat.lt_succ_of_lt hb), Nat.ne_of_lt hb⟩
  have hDf : s₂.heap.objs.size ∉ fp := fun hm => Nat.lt_irrefl _ (hfp _ hm)
  have hCf : H2.objs.size ∉ fp := fun hm => by have := hfp _ hm; rw [hC] at this; exact Nat.lt_irrefl _ (Nat.lt_of_succ_lt this)
  have hIf : I ∈ fp := W.sub I (List.mem_singleton.mpr rfl)
  have hIlt : I < s₂.heap.objs.size := hfp I hIf
  have old : ∀ b o, s₂.heap.get? b = some o → h₁.get? b = some o := fun b o e => hsb₁.extBut b o (below b (Heap.lt_size e)).1 (Heap.get?_push_of_some _ (hH2 ▸ Heap.get?_push_of_some _ e))
  have hacc : h₁.get? s₂.heap.objs.size = some (lst []) := hsb₁.extBut _ _ hDC (Heap.get?_push_of_some _ (hH2 ▸ Heap.get?_push_size _ rfl))
  have hst₁ : St 0 h₁ := W.frame _ _ _ hst fun b _ o e => old b o e
  have fresh : ∀ a, s₂.heap.objs.size ≤ a → s₂.heap.get? a = none := fun a ha => by
    cases e : s₂.heap.get? a with
    | none => rfl
    | some o' => exact absurd (Heap.lt_size e) (Nat.not_lt.mpr ha)
  have fresh₀ : ∀ a, s₂.heap.objs.size ≤ a → h₀.get? a = none := fun a ha => by
    cases e : h₀.get? a with
    | none => rfl
    | some o' => have := F.keep a o' e; rw [fresh a ha] at this; cases this
  have hD₀ : h₀.get? s₂.heap.objs.size = none := fresh₀ _ (Nat.le_refl _)
  have hC₀ : h₀.get? H2.objs.size = none := fresh₀ _ (by rw [hC]; exact Nat.le_succ _)
  have hLlt : L < s₂.heap.objs.size := F.ns.lt
  have hDL : s₂.heap.objs.size ≠ L := Ne.symm (below L hLlt).2
  have hCL : H2.objs.size ≠ L := Ne.symm (below L hLlt).1
  have hCI : I ≠ H2.objs.size := (below I hIlt).1
  have hDI : I ≠ s₂.heap.objs.size := (below I hIlt).2
  have off3 : ∀ p ∈ news, p.1 ≠ I ∧ p.1 ≠ H2.objs.size ∧ p.1 ≠ s₂.heap.objs.size := fun p hp => ⟨off p hp, (below _ (Heap.lt_size (N p hp).1)).1, (below _ (Heap.lt_size (N p hp).1)).2⟩
  have loop : ∀ s₃ : Shared, s₃ = { s₂ with heap := h₁, toks := s₂.toks + ([] : List (PySem.Str × Value)).length } →
      codeAny (model PV w) A (.compLoop (.ListComp elt [⟨target, iter, ifs, 0⟩] scope pos) 0 (.ref I) (.ref s₂.heap.objs.size) (compEnvC scope cl H2.objs.size env))
        (RR (.ref s₂.heap.objs.size) H2.objs.size) s₃ := by
    rintro s₃ rfl
    refine comp_loop
      (fun k s' => ∃ i ys m', Sib s₂ s' ∧ i ≤ n ∧ k = n + 1 - i ∧ ys.length ≤ i ∧ St i s'.heap ∧ Fr h₀ L s'.heap m ∧ s'.heap.Ns H2.objs.size m' ∧ News h₀ L s'.heap ((s₂.heap.objs.size, lst ys) :: news) ∧ ∃ gr, News h₀ L s'.heap gr ∧ (∀ p ∈ gr, p.1 ≠ I ∧ p.1 ≠ H2.objs.size ∧ p.1 ≠ s₂.heap.objs.size) ∧ J i ys gr) ?_ (n + 1)
      ⟨0, [], _, ⟨rfl, rfl, id⟩, Nat.zero_le _, rfl, Nat.le_refl _, hst₁, F.keeps old, hns₁, fun p hp => ?_, [], (fun p hp => nomatch hp), (fun p hp => nomatch hp), hJ⟩
    · rintro k s' ⟨i, ys, m', S', hi, rfl, hyl, hst', F', hn', N', gr, NG, offG, hJ'⟩
      by_cases hlt : i < n
      · refine W.item i _ _ _ hlt hst' fun v h₂ tk₂ hPv hst₂ hk₂ => ?_
        have hn₂ : h₂.Ns H2.objs.size m' := hn'.at' fun o e => hk₂ _ o (by simpa using Ne.symm hCI) e
        have N₂ : News h₀ L h₂ ((s₂.heap.objs.size, lst ys) :: news) := news_but N' hk₂ fun p hp => by
          rcases List.mem_cons.mp hp with rfl | hp
          · exact Ne.symm hDI
          · exact (off3 p hp).1
        have F₂ : Fr h₀ L h₂ m := fr_but F' hk₂ hIL hI₀
        have NG₂ : News h₀ L h₂ gr := news_but NG hk₂ fun p hp => (offG p hp).1
        refine wpAny_mono (asg i v H2.objs.size _ m' hlt hPv hn₂ (Ne.symm hCI) (fun p hp => N₂ p (List.mem_cons_of_mem _ hp)) F₂.keep hst₂) (fun _ s₀ h₀' => ?_) (fun _ _ x => x.elim)
        refine wpAny_mono h₀' (fun _ s₃ h₃ => ?_) (fun _ _ x => x.elim)
        obtain ⟨h₃, tk₃, m₃, rfl, hn₃, hX, hs₃⟩ := h₃
        dsimp only at hs₃
        have hst₃ : St (i + 1) h₃ := W.frame _ _ _ hst₂ fun b hb o e => hs₃ b o (fun q => hCf (by have q' : b = H2.objs.size := q; rw [← q']; exact hb)) e
        obtain ⟨oI, heI⟩ := hIo _ _ hst₃
        obtain ⟨oC, heC, hoC⟩ := ns_obj hn₃
        have F₃ : Fr h₀ L h₃ m := ⟨F₂.ns.at' fun o e => hs₃ L o (Ne.symm hCL) e, fun b o e => hs₃ b o (fun q => by rw [q, hC₀] at e; cases e) (F₂.keep b o e), F₂.above⟩
        have N₃ : News h₀ L h₃ ((I, oI) :: (H2.objs.size, oC) :: (s₂.heap.objs.size, lst ys) :: news) := fun p hp => by
          rcases List.mem_cons.mp hp with rfl | hp
          · exact ⟨heI, Ne.symm hIL, hI₀⟩
          · rcases List.mem_cons.mp hp with rfl | hp
            · exact ⟨heC, hCL, hC₀⟩
            · have z := N₂ p hp
              refine ⟨hs₃ _ _ ?_ z.1, z.2⟩
              rcases List.mem_cons.mp hp with rfl | hp
              · exact hDC
              · exact (off3 p hp).2.1
        have NG₃ : News h₀ L h₃ gr := fun p hp => ⟨hs₃ _ _ (offG p hp).2.1 (NG₂ p hp).1, (NG₂ p hp).2⟩
        refine wpAny_mono (turn i v I oI H2.objs.size oC s₂.heap.objs.size ys gr _ _ hlt hPv hJ' hoC hX F₃ (N₃.append NG₃) offG (Off3.of off3) ⟨hCI, hDI, Ne.symm hDC⟩ ⟨S'.os, S'.drawn, S'.gens⟩) (fun ok s₄ h₄ => ?_) (fun _ _ x => x.elim)
        have rest : ∀ (s₅ : Shared) {G : List (Addr × Obj) → Prop}, CEndG h₀ L m ((I, oI) :: (H2.objs.size, oC) :: (s₂.heap.objs.size, lst ys) :: news) I H2.objs.size s₂.heap.objs.size G { s' with heap := h₃, toks := tk₃ } s₅ → Sib s₂ s₅ ∧ St (i + 1) s₅.heap ∧ s₅.heap.Ns H2.objs.size m₃ ∧ s₅.heap.get? s₂.heap.objs.size = some (lst ys) ∧ News h₀ L s₅.heap news ∧ Fr h₀ L s₅.heap m ∧ ∃ gr, News h₀ L s₅.heap gr ∧ (∀ p ∈ gr, p.1 ≠ I ∧ p.1 ≠ H2.objs.size ∧ p.1 ≠ s₂.heap.objs.size) ∧ G gr := by
          rintro s₅ G ⟨gr₅, S₅, F₅, N₅, NG₅, offG₅, hG⟩
          have zI := (N₅ (I, oI) List.mem_cons_self).1
          have zC := (N₅ (H2.objs.size, oC) (List.mem_cons_of_mem _ List.mem_cons_self)).1
          have zD := (N₅ (s₂.heap.objs.size, lst ys) (List.mem_cons_of_mem _ (List.mem_cons_of_mem _ List.mem_cons_self))).1
          have N₅' : News h₀ L s₅.heap news := fun p hp => N₅ p (List.mem_cons_of_mem _ (List.mem_cons_of_mem _ (List.mem_cons_of_mem _ hp)))
          exact ⟨S'.trans ⟨S₅.os, S₅.drawn, S₅.gens⟩, hSt _ _ _ _ hst₃ heI zI F₅.keep N₅', hoC.ns zC, zD, N₅', F₅, gr₅, NG₅, offG₅, hG⟩
        cases ok with
        | false =>
          obtain ⟨S₅, hst₅, hn₅, zD, N₅, F₅, gr₅, NG₅, offG₅, hG⟩ := rest s₄ h₄
          refine ⟨n + 1 - (i + 1), Nat.sub_lt_sub_left (Nat.lt_succ_of_lt hlt) (Nat.lt_succ_self i), i + 1, ys, m₃, S₅, hlt, rfl, Nat.le_succ_of_le hyl, hst₅, F₅, hn₅, fun p hp => ?_, gr₅, NG₅, offG₅, hG⟩
          rcases List.mem_cons.mp hp with rfl | hp
          · exact ⟨zD, hDL, hD₀⟩
          · exact N₅ p hp
        | true =>
          refine wpAny_mono h₄ (fun y s₅ h₅ => ?_) (fun _ _ x => x.elim)
          obtain ⟨S₅, hst₅, hn₅, zD, N₅, F₅, gr₅, NG₅, offG₅, hG⟩ := rest s₅ h₅
          refine append_at (hsz := by show ys.toArray.size ≤ sizeLine; rw [List.size_toArray]; exact Nat.le_trans hyl (Nat.le_trans hi hsz)) zD fun h₆ hs₆ hD₆ => ?_
          refine ⟨n + 1 - (i + 1), Nat.sub_lt_sub_left (Nat.lt_succ_of_lt hlt) (Nat.lt_succ_self i), i + 1, ys ++ [y], m₃, ⟨S₅.os, S₅.drawn, S₅.gens⟩, hlt, rfl, by rw [List.length_append, List.length_singleton]; exact Nat.succ_le_succ hyl, W.frame _ _ _ hst₅ fun b hb o e => hs₆.extBut b o (fun q => hDf (q ▸ hb)) e, F₅.change hs₆ hDL hD₀,
            hn₅.sameBut hs₆ (Ne.symm hDC), fun p hp => ?_, gr₅, (fun p hp => ⟨hs₆.extBut _ _ (offG₅ p hp).2.2 (NG₅ p hp).1, (NG₅ p hp).2⟩), offG₅, hG⟩
          rcases List.mem_cons.mp hp with rfl | hp
          · exact ⟨hD₆.trans (congrArg some (lst_snoc ys y)), hDL, hD₀⟩
          · exact ⟨hs₆.extBut _ _ (off3 p hp).2.2 (N₅ p hp).1, (N₅ p hp).2⟩
      · obtain rfl : i = n := Nat.le_antisymm hi (Nat.not_lt.mp hlt)
        refine W.done _ _ _ hst' fun h₂ tk₂ hk₂ => ?_
        exact hRR _ _ { s' with heap := h₂, toks := tk₂ } _ ys gr hJ' ⟨S'.os, S'.drawn, S'.gens⟩ (fr_but F' hk₂ hIL hI₀) (news_but N' hk₂ fun p hp => by
          rcases List.mem_cons.mp hp with rfl | hp
          · exact Ne.symm hDI
          · exact (off3 p hp).1) (Off3.of off3 : Off3 I _ _ news).one (hn'.at' fun o e => hk₂ _ o (by simpa using Ne.symm hCI) e) hC₀ hD₀ hCL hDL (Ne.symm hDC) (fun p hp => (off3 p hp).2.1) (news_but NG hk₂ fun p hp => (offG p hp).1) (fun p hp => (offG p hp).2)
    · rcases List.mem_cons.mp hp with rfl | hp
      · exact ⟨hacc, hDL, hD₀⟩
      · exact ⟨old _ _ (N p hp).1, (N p hp).2⟩
  exact codeAny_compStart_list (loop _ rfl) (W.self 0 _ _ _ hst₁ (loop _ rfl))


theorem comp_block {I : Addr} {fp : List Addr} {n : Nat} {P : Nat → Value → Prop} {St : Nat → Heap → Prop} {X : Nat → Value → (PySem.Str → Option Value) → Prop} (J : Nat → List Value → Prop) {RR : Value → Addr → Result → Shared → Prop}
    (W : Walks PV w A I fp [I] n P St) (hsz : n ≤ sizeLine) (hIo : ∀ i h, St i h → ∃ o, h.get? I = some o)
    (hSt : ∀ i h h' o, St i h → h.get? I = some o → h'.get? I = some o → (∀ b o, h₀.get? b = some o → h'.get? b = some o) → News h₀ L h' news → St i h')
    (hcell : ∀ y ∈ scope.names, y.2 ≠ .cell) (hkind : scope.kind = .function) (hst : St 0 s₂.heap) (hfp : ∀ b ∈ fp, b < s₂.heap.objs.size)
    (F : Fr h₀ L s₂.heap m) (N : News h₀ L s₂.heap news) (hIL : L ≠ I) (hI₀ : h₀.get? I = none) (off : ∀ p ∈ news, p.1 ≠ I)
    (asg : Asg w A h₀ L env news target scope cl I n P St X) (hJ : J 0 []) (turn : Turn w A h₀ L m env news elt ifs scope cl s₂ n P X J) (hRR : Fin h₀ L m news s₂ (J n) RR) :
    wpAny (model PV w) A (newList []) (fun acc s₃ => wpAny (model PV w) A (newFunctionEnv scope env.globals cl [] env.qual none .none (some env)) (fun cenv s₄ =>
      codeAny (model PV w) A (.compStart (.ListComp elt [⟨target, iter, ifs, 0⟩] scope pos) 0 (.ref I) acc { cenv with scope := relabel scope env }) (RR acc cenv.locals) s₄) E s₃) E s₂ := by
  refine comp_blockG (fun i ys gr => gr = [] ∧ J i ys) W hsz hIo hSt hcell hkind hst hfp F N hIL hI₀ off asg ⟨rfl, hJ⟩ ?_ ?_
  · rintro i v I oI C oC D ys gr m₂ s₁ hi hP ⟨rfl, hj⟩ ho hX F N _ o3 ne S
    rw [List.append_nil] at N
    have fin : ∀ {G : Prop} {G' : List (Addr × Obj) → Prop} {s' : Shared}, (G → G' []) → CEnd h₀ L m ((I, oI) :: (C, oC) :: (D, lst ys) :: news) G s₁ s' → CEndG h₀ L m ((I, oI) :: (C, oC) :: (D, lst ys) :: news) I C D G' s₁ s' :=
      fun g ⟨S, F, N, h⟩ => ⟨[], S, F, N, (fun p hp => nomatch hp), (fun p hp => nomatch hp), g h⟩
    refine wpAny_mono (turn i v I oI C oC D ys m₂ s₁ hi hP hj ho hX F N o3 ne S) (fun ok s₃ h => ?_) fun _ _ h => h
    cases ok with
    | true => exact wpAny_mono h (fun y s₄ h => fin (fun g => ⟨rfl, g⟩) h) fun _ _ h => h
    | false => exact fin (fun g => ⟨rfl, g⟩) h
  · rintro D C s' m' ys gr ⟨rfl, hj⟩ S F N o1 hn hC hD hCL hDL hCD oC _ _
    exact hRR D C s' m' ys hj S F N o1 hn hC hD hCL hDL hCD oC

/-- a comprehension's inner part, once its source has been made an iterator -/
noncomputable def CompIn (w : World) (A : Around) (E : Value → Shared → Prop) (env : Env) (elt target iter : PySem.Expr) (ifs : List PySem.Expr) (scope : Scope) (cl : List (PySem.Str × Addr)) (pos : Pos) (use : Option (Value → Sem Unit)) (Q : Value → Shared → Prop) (it : Value) (s₂ : Shared) : Prop :=
  wpAny (model PV w) A (newList []) (fun acc s₃ => wpAny (model PV w) A (newFunctionEnv scope env.globals cl [] env.qual none .none (some env)) (fun cenv s₄ =>
      codeAny (model PV w) A (.compStart (.ListComp elt [⟨target, iter, ifs, 0⟩] scope pos) 0 it acc { cenv with scope := relabel scope env }) (compPost (model PV w) A E use Q acc cenv.locals) s₄) E s₃) E s₂
variable {s : Shared}
theorem comp_eval {Q : Value → Shared → Prop} (hclos : closureFor scope env = pure cl) (hkind : scope.kind = .function) (hnames : ∀ y ∈ scope.names, y.2 = .local → scope.names.lookup y.1 = some .local)
    (h : wpAny (model PV w) A (eval iter env) (fun xv s₁ => wpAny (model PV w) A (pyIter xv) (fun it s₂ => CompIn w A E env elt target iter ifs scope cl pos none Q it s₂) E s₁) E s)
    (hs : ∀ x, foldedSetIterable iter env x = pure x := by intro _; rfl) :
    wpAny (model PV w) A (eval (.ListComp elt [⟨target, iter, ifs, 0⟩] scope pos) env) Q E s := by
  rw [eval_ListComp]
  exact wpAny_comprehension_free (use := none) rfl hs hclos hkind hnames h
theorem comp_assign {y : PySem.Str} {py : Pos} {spos : Pos} {Q : Flow → Shared → Prop}
    (hsw : swapsWith (.ListComp elt [⟨target, iter, ifs, 0⟩] scope pos) (some (.Name y py)) spos.line env = pure true)
    (hclos : closureFor scope env = pure cl) (hkind : scope.kind = .function) (hnames : ∀ y ∈ scope.names, y.2 = .local → scope.names.lookup y.1 = some .local)
    (h : wpAny (model PV w) A (eval iter env) (fun xv s₁ => wpAny (model PV w) A (pyIter xv) (fun it s₂ => CompIn w A E env elt target iter ifs scope cl pos (some (assign (.Name y py) env)) (fun _ s' => Q .next s') it s₂) E s₁) E s)
    (hs : ∀ x, foldedSetIterable iter env x = pure x := by intro _; rfl) :
    wpAny (model PV w) A (exec (.Assign [.Name y py] (.ListComp elt [⟨target, iter, ifs, 0⟩] scope pos) spos) env) Q E s := by
  rw [exec_Assign_Name_used _ _ _ _ hsw]
  refine wpAny_bind (wpAny_standAt (wpAny_bind ?_))
  show wpAny _ A (do let _ ← comprehension (.ListComp elt [⟨target, iter, ifs, 0⟩] scope pos) scope env _ (newList []) false (eval iter env) (some (assign (.Name y py) env))) _ _ s
  exact wpAny_bind (wpAny_mono (wpAny_comprehension_free (use := some (assign (.Name y py) env)) (Q := fun _ s' => Q .next s') rfl hs hclos hkind hnames h) (fun _ s' hq => wpAny_pure (wpAny_pure hq)) fun _ _ e => e)

theorem comp_list {use : Option (Value → Sem Unit)} {Q : Value → Shared → Prop} {ax : Addr} {its : Array Value} (X : Nat → Value → (PySem.Str → Option Value) → Prop) (J : Nat → List Value → Prop)
    (hh : A.handled = none) (F : Fr h₀ L s.heap m) (N : News h₀ L s.heap news) (S : SrcAt h₀ ax its news) (hsz : its.size ≤ sizeLine)
    (hcell : ∀ y ∈ scope.names, y.2 ≠ .cell) (hkind : scope.kind = .function)
    (asg : ∀ I, Asg w A h₀ L env news target scope cl I its.size (fun i v => its[i]? = some v) (fun i h => h.IsListIter I ax i ∧ h.IsList ax its) X) (hJ : J 0 [])
    (turn : Turn w A h₀ L m env news elt ifs scope cl s its.size (fun i v => its[i]? = some v) X J)
    (fin : Fin h₀ L m news s (J its.size) (fun acc C => compPost (model PV w) A E use Q acc C)) :
    wpAny (model PV w) A (pyIter (.ref ax)) (fun it s₂ => CompIn w A E env elt target iter ifs scope cl pos use Q it s₂) E s := by
  have hl := S.list F.keep N
  have hlt : ax < s.heap.objs.size := by obtain ⟨_, e, _⟩ := hl; exact Heap.lt_size e
  refine wpAny_pyIter_list hl ?_
  have up : ∀ b o, s.heap.get? b = some o → (s.heap.push { cls := .type "list_iterator", data := .fields #[.ref ax, .int 0 0] }).get? b = some o := fun b o e => Heap.get?_push_of_some _ e
  refine comp_block (X := X) J (Walks.list hh s.heap.objs.size ax (Nat.ne_of_lt hlt) its) hsz (fun i h st => by obtain ⟨o, e, _⟩ := st.1; exact ⟨o, e⟩) (fun i h h' o st e e' k N => list_st i h h' o news st e e' k N S) hcell hkind
    ⟨⟨_, Heap.get?_push_size _ rfl, rfl, rfl⟩, hl.push _⟩ (fun b hb => ?_) (F.keeps up) (N.grown up) (Nat.ne_of_lt F.ns.lt) (next_is_new F) (fun p hp => Nat.ne_of_lt (Heap.lt_size (N p hp).1)) (asg _) hJ
    (fun i v I oI C oC D ys m₂ s₁ hi hp hj ho hx F N o3 ne S => turn i v I oI C oC D ys m₂ s₁ hi hp hj ho hx F N o3 ne ⟨S.os, S.drawn, S.gens⟩)
    (fun D C s' m' ys hj S F N o1 hn hC hD hCL hDL hCD oC => fin D C s' m' ys hj ⟨S.os, S.drawn, S.gens⟩ F N o1 hn hC hD hCL hDL hCD oC)
  show b < (s.heap.push _).objs.size
  rw [Heap.size_push]
  rcases List.mem_cons.mp hb with rfl | hb
  · exact Nat.lt_succ_self _
  · rw [List.mem_singleton.mp hb]; exact Nat.lt_succ_of_lt hlt
theorem comp_range {use : Option (Value → Sem Unit)} {Q : Value → Shared → Prop} {r : Addr} {a b : Int} {t u v : Tok} {n : Nat} (X : Nat → Value → (PySem.Str → Option Value) → Prop) (J : Nat → List Value → Prop)
    (hh : A.handled = none) (F : Fr h₀ L s.heap m) (N : News h₀ L s.heap news) (hr : IsRange s.heap r a b 1 t u v) (hsm : Builtin.Range.small a b 1 = true) (hn : Builtin.Range.rangeSize a b 1 = ((n : Nat) : Int)) (hsz : n ≤ sizeLine)
    (hcell : ∀ y ∈ scope.names, y.2 ≠ .cell) (hkind : scope.kind = .function)
    (asg : ∀ I, Asg w A h₀ L env news target scope cl I n (fun i v => ∃ t, v = .int (a + (i : Int)) t) (fun i h => IsRangeIter h I (a + (i : Nat) * 1) ((n : Int) - (i : Nat)) 1) X) (hJ : J 0 [])
    (turn : Turn w A h₀ L m env news elt ifs scope cl s n (fun i v => ∃ t, v = .int (a + (i : Int)) t) X J)
    (fin : Fin h₀ L m news s (J n) (fun acc C => compPost (model PV w) A E use Q acc C)) :
    wpAny (model PV w) A (pyIter (.ref r)) (fun it s₂ => CompIn w A E env elt target iter ifs scope cl pos use Q it s₂) E s := by
  refine wpAny_pyIter_range hr hsm ?_
  refine comp_block (X := X) J (range_walks hh a n) hsz (fun i h st => ⟨_, st⟩) (fun i h h' o st e e' k N => range_st i h h' o news st e e' k N trivial) hcell hkind
    (by show IsRangeIter _ _ _ _ _; rw [hn]; simpa using Heap.get?_push_size _ rfl) (fun b hb => ?_) (F.keeps fun _ _ e => Heap.get?_push_of_some _ e) (N.grown fun _ _ e => Heap.get?_push_of_some _ e) (Nat.ne_of_lt F.ns.lt) (next_is_new F)
    (fun p hp => Nat.ne_of_lt (Heap.lt_size (N p hp).1)) (asg _) hJ
    (fun i v I oI C oC D ys m₂ s₁ hi hp hj ho hx F N o3 ne S => turn i v I oI C oC D ys m₂ s₁ hi hp hj ho hx F N o3 ne ⟨S.os, S.drawn, S.gens⟩)
    (fun D C s' m' ys hj S F N o1 hn hC hD hCL hDL hCD oC => fin D C s' m' ys hj ⟨S.os, S.drawn, S.gens⟩ F N o1 hn hC hD hCL hDL hCD oC)
  rw [List.mem_singleton.mp hb]
  show s.heap.objs.size < (s.heap.push _).objs.size
  rw [Heap.size_push]; exact Nat.lt_succ_self _

theorem asg_name {x : PySem.Str} {px : Pos} {I : Addr} {n : Nat} {P : Nat → Value → Prop} {St : Nat → Heap → Prop} (hx : scope.names.lookup x = some .local) (hkind : scope.kind = .function) :
    Asg w A h₀ L env news (.Name x px) scope cl I n P St (fun _ v m => m x = some v) := by
  intro i v C s₁ m₂ _ _ hn _ _ _ _
  refine wpAny_of_eq (a := ()) rfl ?_
  refine wpAny_assign_Name (wpAny_storeName_local (lookup_relabel_local hx) hn (fun h₃ hn₃ hs₃ => ?_) (by simp [compEnvC, relabel, hkind]))
  exact ⟨h₃, _, _, rfl, hn₃, by simp, fun b o hb e => hs₃.extBut b o hb e⟩
theorem fin_none {Q : Value → Shared → Prop} {J : List Value → Prop} (h : ∀ D ys s', J ys → Sib s s' → Fr h₀ L s'.heap m → News h₀ L s'.heap ((D, lst ys) :: news) → Off1 D news → Q (.ref D) s') :
    Fin h₀ L m news s J (fun acc C => compPost (model PV w) A E none Q acc C) := by
  intro D C s' m' ys hj S F N o1 hn hC hD hCL hDL hCD oC
  refine ⟨m', hn, fun h'' hs'' => h D ys { s' with heap := h'' } hj ⟨S.os, S.drawn, S.gens⟩ (F.change hs'' hCL hC) (fun p hp => ?_) o1⟩
  refine ⟨hs''.extBut _ _ ?_ (N p hp).1, (N p hp).2⟩
  rcases List.mem_cons.mp hp with rfl | hp
  · exact Ne.symm hCD
  · exact oC p hp
theorem fin_local {y : PySem.Str} {py : Pos} {Q : Value → Shared → Prop} {J : List Value → Prop} (hLe : env.locals = L) (hy : env.kindOf y = some .local) (hp : (env.scope.kind == .class || (env.scope.kind == .module && env.locals != env.globals)) = false)
    (h : ∀ D ys s', J ys → Sib s s' → Fr h₀ L s'.heap (fun z => if z = y then some (.ref D) else m z) → News h₀ L s'.heap ((D, lst ys) :: news) → Off1 D news → Q .none s') :
    Fin h₀ L m news s J (fun acc C => compPost (model PV w) A E (some (assign (.Name y py) env)) Q acc C) := by
  subst hLe
  intro D C s' m' ys hj S F N o1 hn hC hD hCL hDL hCD oC
  show wpAny _ A (assign (.Name y py) env (.ref D)) _ _ _
  refine wpAny_assign_Name (wpAny_storeName_local hy F.ns (fun h₂ hn₂ hs₂ => ?_) hp)
  have hL₀ : h₀.get? env.locals = none := Heap.get?_none_of_le F.above
  have F₂ : Fr h₀ env.locals h₂ (fun z => if z = y then some (.ref D) else m z) := ⟨hn₂, fun b o e => hs₂.extBut b o (fun q => by rw [q, hL₀] at e; cases e) (F.keep b o e), F.above⟩
  refine ⟨m', hn.sameBut hs₂ hCL, fun h'' hs'' => h D ys { s' with heap := h'', toks := _ } hj ⟨S.os, S.drawn, S.gens⟩ (F₂.change hs'' hCL hC) (fun p hp => ?_) o1⟩
  have z : h₂.get? p.1 = some p.2 := hs₂.extBut _ _ (N p hp).2.1 (N p hp).1
  refine ⟨hs''.extBut _ _ ?_ z, (N p hp).2⟩
  rcases List.mem_cons.mp hp with rfl | hp
  · exact Ne.symm hCD
  · exact oC p hp
end
end
section
open PySem PySem.W PySem.Calls PyProof.Rows PyProof.Rows.LCg
set_option Elab.async false
set_option maxRecDepth 100000
theorem enterC {w : World} {base : Heap} {outer : List Env} {s : Shared} {mg mb : PySem.Str → Option Value} {mean : ExcName → Option Value} {dp : Nat}
    {P : Value → Shared → Prop} {name qual : PySem.Str} {params : Arguments} {body : List Stmt} {scope : Scope} {dV kV doc pm cdv ct oc : Value} {an od : Option Addr} {osl : Array (Option Value)} {f : Addr} {args : List Value} {binds : List (PySem.Str × Value)}
    (B : Below (Lv dp outer) base outer s.heap) (X : (hd.heap_39 w.params).In s.heap) (T : TopV mg mb mean s.heap)
    (ho : (hd.heap_39 w.params).lookup f = some ⟨oc, od, .func (fnOf name qual params body scope dV kV doc pm an cdv ct), osl⟩) (hcd : codeIn (hd.heap_39 w.params) cdv qual = true) (hroom : dp < recursionLimit)
    (hbind : BindsTo s (fnOf name qual params body scope dV kV doc pm an cdv ct) ⟨args, []⟩ binds) (hkind : (binds.all fun y => scope.names.lookup y.1 == some .local || scope.names.lookup y.1 == some .cell) = true)
    (hnd : ((cellsFrom 0 scope.names []).map (·.1)).Nodup)
    (h : ∀ L' h₁ tk cells, Fr s.heap L' h₁ (bindL (envOfC qual scope L' f cdv).kindOf binds fun _ => none) → News s.heap L' h₁ cells → CellsAre (bindC (envOfC qual scope L' f cdv).kindOf binds fun _ => none) (cellsFrom (L' + 1) scope.names []) cells →
      Below (Lv dp outer) base outer s.heap → (hd.heap_39 w.params).In s.heap → TopV mg mb mean s.heap →
      wpAny (model PV w) ((Lv dp outer).deeper (envOfC qual scope L' f cdv)) (execs body (envOfC qual scope L' f cdv))
        (fun fl s' => P (match fl with | .ret v => v | _ => .none) s' ∧ Ext s s') (fun _ _ => False) { s with heap := h₁, toks := tk })
    (hco : scope.isCoroutine = false) (hgen : scope.isGenerator = false) (hk : scope.kind = .function) : Gives w dp outer f args s P := by
  refine codeAny_call_function hroom (X _ _ ho) rfl hco hgen rfl (codeRec_of X hcd) (hbind _ _ _ _ ?_)
  refine wpAny_newFunctionEnv_cells hk (kindsX hkind _) fun env' he s' x => ?_
  subst he
  refine ⟨T.nolimit.keeps x.toInCall.keep, codeAny_func ?_⟩
  obtain ⟨h₁, tk, rfl, _⟩ := x.done
  have hk₁ := x.toInCall.keep
  obtain ⟨cells, NC, Y⟩ := Cl.news (h₀ := s.heap) (Nat.le_refl _) fun n c hm => ⟨x.cell n c (lookup_of_mem_nodup (cellsFrom_names scope.names 0 (s.heap.objs.size + 1) [] [] rfl ▸ hnd) hm), x.above n c hm⟩
  refine wpAny_mono (h s.heap.objs.size h₁ tk cells ⟨x.toInCall.ns, hk₁, Nat.le_refl _⟩ NC Y B X T) (fun fl s' hl => ⟨_, rfl, hl⟩) fun _ _ y => y.elim

theorem useX {w : World} {A A₀ : Around} {base h₀ : Heap} {outer : List Env} {s : Shared} {mg mb : PySem.Str → Option Value} {mean : ExcName → Option Value} (dp : Nat) {P : Value → Shared → Prop} {f : Addr} {args : List Value}
    {env : Env} {L : Addr} {m : PySem.Str → Option Value} {news : List (Addr × Obj)} {Q : Value → Shared → Prop} {E : Value → Shared → Prop}
    (B : Below A₀ base outer h₀) (F : Fr h₀ L s.heap m) (N : News h₀ L s.heap news) (X : (hd.heap_39 w.params).In h₀) (T : TopV mg mb mean h₀)
    (h1 : A.handled = none) (h2 : A.frames = some (env :: outer)) (h3 : A.guards = some []) (h4 : A.depth ≤ dp) (h5 : A.units ≤ dp) (hf : env.frame = some L) (hk : env.scope.kind = .function)
    (c : Below (Lv dp (env :: outer)) base (env :: outer) s.heap → (hd.heap_39 w.params).In s.heap → TopV mg mb mean s.heap → Gives w dp (env :: outer) f args s P)
    (h : ∀ v s', P v s' → Ext s s' → Fr h₀ L s'.heap m → News h₀ L s'.heap news → Q v s') : wpAny (model PV w) A (call (.ref f) args) Q E s := by
  refine wpAny_call (codeAny_lv (codeAny_mono (c (below_lv (pushX B F hf hk)) (X.keeps F.keep) (T.keeps F.keep)) fun r s' h' => ?_) h1 h2 h3 h4 h5)
  obtain ⟨v, rfl, p, e⟩ := h'
  exact h v s' p e (F.keeps e.keep) (N.grown e.keep)
end
section
open PySem PySem.W PySem.Calls PyProof.Rows
set_option Elab.async false
set_option maxRecDepth 100000
theorem reset_E2 : True := by w_top off; trivial
set_option maxHeartbeats 16000000
theorem ell_no {w : World} {base : Heap} {outer : List Env} {s : Shared} {mg mb : PySem.Str → Option Value} {mean : ExcName → Option Value}
    (B : Below (Lv 340 outer) base outer s.heap) (X : (hd.heap_39 w.params).In s.heap) (T : TopV mg mb mean s.heap)
    (x y : PySem.Str) (tx ty : Tok) (hx : x.length ≤ 100) (hy : y.length ≤ 100) (ho : (Builtin.Str.occurrences x (PySem.Str.ofString "...") 0 x.length 1).isEmpty = true) :
    Gives w 340 outer 63 [.str x tx, .str y ty] s (fun v _ => v = .bool (x == y)) := by
  k_dflt (refine' enterP (fun n => List.lookup n [(Str.ofString "got", Value.str y ty), (Str.ofString "want", Value.str x tx)]) ?k1 ?k2 ?k3 ?k6 ?k7 ?k8 ?k9 ?kB ?kM ?_ ?c5 ?c2 ?c3 ?c4; (case k1 => k_asm); (case k2 => k_asm); (case k3 => k_asm); (case k6 => k_is); (case k7 => k_is); (case k8 => k_room); (case k9 => exact BindsTo.of_eq rfl); (case kB => exact locs rfl); (case kM => exact rfl); (case c5 => decide); (case c2 => exact rfl); (case c3 => exact rfl); (case c4 => exact rfl); k_whole)
  clear B X T
  intro L' h' tk' F' N' B' X' T'
  (try dsimp only)
  k_fold
  k_steps
  exact Ext.to (Ext.refl _) (Fr.keep (by assumption))
/-- what _ellipsis_match answers, where our two readings hold -/
noncomputable def ellB (x y : PySem.Str) : Option Bool :=
  if x.length ≤ 100 ∧ y.length ≤ 100 then
    if (Builtin.Str.occurrences x (PySem.Str.ofString "...") 0 x.length 1).isEmpty = true then some (x == y)
    else match PySem.Txt.split x (PySem.Str.ofString "...") with
      | z0 :: r => match r.reverse with
        | zl :: rm => if 0 < z0.length ∧ z0.length ≤ 100 ∧ 0 < zl.length ∧ zl.length ≤ 100 ∧ rm.length ≤ 100 ∧ (rm.all fun z => z.length ≤ 100) = true then some (ellQ y z0 rm.reverse zl) else none
        | [] => none
      | [] => none
  else none
theorem ell_any {w : World} {base : Heap} {outer : List Env} {s : Shared} {mg mb : PySem.Str → Option Value} {mean : ExcName → Option Value}
    (B : Below (Lv 340 outer) base outer s.heap) (X : (hd.heap_39 w.params).In s.heap) (T : TopV mg mb mean s.heap)
    {x y : PySem.Str} {b : Bool} (H : ellB x y = some b) (tx ty : Tok) : Gives w 340 outer 63 [.str x tx, .str y ty] s (fun v _ => v = .bool b) := by
  unfold ellB at H
  split at H
  · rename_i hl
    split at H
    · rename_i ho
      cases H
      exact ell_no B X T x y tx ty hl.1 hl.2 ho
    · rename_i ho
      split at H
      · rename_i z0 r hs
        split at H
        · rename_i zl rm hr
          split at H
          · rename_i hc
            cases H
            obtain ⟨c1, c2, c3, c4, c5, c6⟩ := hc
            have hr' : r = rm.reverse ++ [zl] := by have := congrArg List.reverse hr; simpa using this
            refine ell_ok B X T x y z0 zl rm.reverse tx ty ⟨hl.1, by decide⟩ hl.2 (by simpa using ho) (by rw [hs, hr']) ⟨c1, c2⟩ ⟨c3, c4⟩ (by simpa using c5) ?_
            intro z hz
            have := List.all_eq_true.mp c6 z (by simpa using hz)
            simpa using this
          · cases H
        · cases H
      · cases H
  · cases H
end
section
open PySem PySem.W PySem.Calls PyProof.Rows PyProof.Rows.LCg
set_option Elab.async false
set_option maxRecDepth 100000
section
variable {w : World} {A : Around} {E : Value → Shared → Prop} {s : Shared}
theorem draw_list {it t : Addr} {items : Array Value} (hne : t ≠ it) : ∀ (n i : Nat) (s : Shared) (Q : List Value → Shared → Prop), s.heap.IsListIter it t i → s.heap.IsList t items → i + n ≤ items.size →
    (∀ h', h'.IsListIter it t (i + n) → Heap.SameBut it s.heap h' → Q ((items.toList.drop i).take n) { s with heap := h' }) → wpAny (model PV w) A (draw (.ref it) n) Q E s
  | 0, i, s, Q, hit, _, _, hQ => by
    show wpAny _ _ (pure []) Q E s
    exact wpAny_pure (by simpa using hQ s.heap hit (Heap.SameBut.refl ..))
  | n + 1, i, s, Q, hit, ht, hle, hQ => by
    have hlt : i < items.size := by omega
    show wpAny _ _ (pyNext (.ref it) >>= _) Q E s
    refine wpAny_bind (wpAny_pyNext_list_item hit ht (x := items[i]) (by simp [hlt]) fun h₁ hit₁ hs₁ => ?_)
    refine wpAny_bind (wpAny_holding (draw_list hne n (i + 1) _ _ hit₁ (ht.extBut hs₁.extBut hne) (by omega) fun h₂ hit₂ hs₂ => wpAny_pure ?_))
    have hd : items.toList.drop i = items[i] :: items.toList.drop (i + 1) := by simp [List.drop_eq_getElem_cons, hlt]
    have := hQ h₂ (by rw [show i + (n + 1) = i + 1 + n by omega]; exact hit₂) (hs₁.trans hs₂)
    rw [hd, List.take_succ_cons] at this
    exact this
theorem unpackItems_list {t : Addr} {items : Array Value} {Q : List Value → Shared → Prop} (hh : A.handled = none) (ht : s.heap.IsList t items)
    (hQ : ∀ h', Heap.ExtBut s.heap.objs.size s.heap h' → Q items.toList { s with heap := h' }) : wpAny (model PV w) A (unpackItems (.ref t) items.size none) Q E s := by
  have hlt : t ≠ s.heap.objs.size := by obtain ⟨o, ho, _⟩ := ht; exact Nat.ne_of_lt (Heap.lt_size ho)
  unfold unpackItems
  refine wpAny_bind ?_
  · unfold notIterableAtAll
    refine wpAny_bind (wpAny_specialOf ht.typeIs slot_list_iter.lookup ?_)
    refine wpAny_pure ?_
    simp only [Bool.false_eq_true, if_false]
    refine wpAny_bind (wpAny_holding (wpAny_pyIter_list ht ?_))
    refine wpAny_bind (wpAny_holding (draw_list hlt items.size 0 _ _ ⟨_, Heap.get?_push_size _ rfl, rfl, rfl⟩ (ht.push _) (by omega) fun h₁ hit₁ hs₁ => ?_))
    have hall : List.take items.size (List.drop 0 items.toList) = items.toList := by
      rw [List.drop_zero]; exact List.take_of_length_le (by simp)
    rw [hall]
    rw [if_neg (by simp)]
    have ht₁ : h₁.IsList t items := (ht.push _).extBut hs₁.extBut hlt
    refine wpAny_bind (wpAny_holding (wpAny_pyNext_list_end hh hit₁ ht₁ (by simp) fun h₂ he₂ => ?_))
    simp only [Option.isSome_none, Bool.false_eq_true, if_false]
    refine wpAny_pure (hQ h₂ fun b o hb e => he₂ b o hb (hs₁.extBut b o hb (Heap.get?_push_of_some _ e)))
theorem unpack_list {t : Addr} {items : Array Value} {targets : List (Bool × (Value → Sem Unit))} {Q : Unit → Shared → Prop} (hh : A.handled = none) (ht : s.heap.IsList t items)
    (hn : targets.length = items.size) (hstar : targets.findIdx? (·.1) = none)
    (h : ∀ h', Heap.ExtBut s.heap.objs.size s.heap h' → wpAny (model PV w) A (assignInOrder (targets.map (·.2)) items.toList) Q E { s with heap := h' }) :
    wpAny (model PV w) A (unpack (.ref t) targets) Q E s := by
  unfold unpack
  rw [hn, hstar]
  exact wpAny_bind (wpAny_holding (unpackItems_list hh ht h))
theorem assign_Tuple_list {env : Env} {elts : List PySem.Expr} {x1} {pos : Pos} {t : Addr} {items : Array Value} {Q : Unit → Shared → Prop} (hh : A.handled = none) (ht : s.heap.IsList t items)
    (hn : (assignEach elts env).length = items.size) (hstar : (assignEach elts env).findIdx? (·.1) = none)
    (h : ∀ h', Heap.ExtBut s.heap.objs.size s.heap h' → wpAny (model PV w) A (assignInOrder ((assignEach elts env).map (·.2)) items.toList) Q E { s with heap := h' }) :
    wpAny (model PV w) A (assign (.Tuple elts x1 pos) env (.ref t)) Q E s := by
  rw [arm_assign_Tuple]
  exact wpAny_bind (wpAny_standAt (unpack_list hh ht hn hstar h))
theorem assign_three {env : Env} {a b c : PySem.Str} {pa pb pc tp : Pos} {kk : Nat} {T : Addr} {x y z : Value} {m : PySem.Str → Option Value} {Q : Unit → Shared → Prop} (hh : A.handled = none) (ht : s.heap.IsList T #[x, y, z])
    (ha : env.kindOf a = some .local) (hb : env.kindOf b = some .local) (hc : env.kindOf c = some .local) (hp : (env.scope.kind == .class || (env.scope.kind == .module && env.locals != env.globals)) = false) (hn : s.heap.Ns env.locals m)
    (h : ∀ (h' : Heap) (tk : Nat), h'.Ns env.locals (fun q => if q = c then some z else if q = b then some y else if q = a then some x else m q) → (∀ c o, c ≠ env.locals → s.heap.get? c = some o → h'.get? c = some o) → Q () { s with heap := h', toks := tk }) :
    wpAny (model PV w) A (assign (.Tuple [.Name a pa, .Name b pb, .Name c pc] kk tp) env (.ref T)) Q E s := by
  refine assign_Tuple_list hh ht rfl rfl fun h₁ he₁ => ?_
  have hL : env.locals ≠ s.heap.objs.size := Nat.ne_of_lt hn.lt
  have hn₁ : h₁.Ns env.locals m := hn.at' fun o e => he₁ _ o hL e
  have up₁ : ∀ c o, s.heap.get? c = some o → h₁.get? c = some o := fun c o e => he₁ c o (Nat.ne_of_lt (Heap.lt_size e)) e
  show wpAny _ _ (assignInOrder [assign (.Name a pa) env, assign (.Name b pb) env, assign (.Name c pc) env] [x, y, z]) _ _ _
  refine assignInOrder_cons ?_
  refine wpAny_assign_Name (wpAny_storeName_local ha hn₁ (fun h₂ hn₂ hs₂ => ?_) hp)
  refine assignInOrder_cons ?_
  refine wpAny_assign_Name (wpAny_storeName_local hb hn₂ (fun h₃ hn₃ hs₃ => ?_) hp)
  refine assignInOrder_cons ?_
  refine wpAny_assign_Name (wpAny_storeName_local hc hn₃ (fun h₄ hn₄ hs₄ => ?_) hp)
  refine assignInOrder_nil ?_
  exact h h₄ _ hn₄ fun c o hc e => hs₄.extBut c o hc (hs₃.extBut c o hc (hs₂.extBut c o hc (up₁ c o e)))
end
theorem asg_three {w : World} {A : Around} {h₀ : Heap} {L : Addr} {env : Env} {news : List (Addr × Obj)} {scope : Scope} {cl : List (PySem.Str × Addr)} {a b c : PySem.Str} {pa pb pc tp : Pos} {kk : Nat} {I ax : Addr} {its : Array Value} (hh : A.handled = none)
    (ha : scope.names.lookup a = some .local) (hb : scope.names.lookup b = some .local) (hc : scope.names.lookup c = some .local) (hkind : scope.kind = .function) (hne : a ≠ b ∧ a ≠ c ∧ b ≠ c)
    (T : Nat → Value × Value × Value) (hT : ∀ i v, its[i]? = some v → ∃ D n, v = .ref D ∧ (D, W.listOf #[(T i).1, (T i).2.1, (T i).2.2] n) ∈ news) :
    Asg w A h₀ L env news (.Tuple [.Name a pa, .Name b pb, .Name c pc] kk tp) scope cl I its.size (fun i v => its[i]? = some v) (fun i h => h.IsListIter I ax i ∧ h.IsList ax its)
      (fun i _ m => m a = some (T i).1 ∧ m b = some (T i).2.1 ∧ m c = some (T i).2.2) := by
  intro i v C s₁ m₂ _ hP hn hCI N _ hst
  obtain ⟨D, n, rfl, hm⟩ := hT i v hP
  refine wpAny_letOwnedTupleGo_listiter hst.1 ?_
  refine assign_three hh ⟨_, (N _ hm).1, rfl, _, rfl⟩ (lookup_relabel_local ha) (lookup_relabel_local hb) (lookup_relabel_local hc) (by simp [compEnvC, relabel, hkind]) hn fun h' tk hn' hk => ?_
  exact ⟨h', tk, _, rfl, hn', by simp [hne.1, hne.2.1, hne.2.2], hk⟩
end
section
open PySem PySem.W PySem.Calls PyProof.Rows PyProof.Rows.LCg
set_option Elab.async false
set_option maxRecDepth 100000
theorem reset_D1 : True := by w_top off; trivial
theorem CEnd.mk' {h₀ : Heap} {L : Addr} {m : PySem.Str → Option Value} {all : List (Addr × Obj)} {G : Prop} {s₁ s₂ : Shared} (S : Sib s₁ s₂) (F : Fr h₀ L s₂.heap m) (N : News h₀ L s₂.heap all) (g : G) : CEnd h₀ L m all G s₁ s₂ := ⟨S, F, N, g⟩
theorem tri_of {h₀ : Heap} {L : Addr} {h : Heap} {news : List (Addr × Obj)} {ax l0 l1 l2 l3 l4 l5 : Addr} {n : Nat} (_ : News h₀ L h news) (_ : (ax, W.listOf #[.ref l0, .ref l1, .ref l2, .ref l3, .ref l4, .ref l5] n) ∈ news)
    {x0 x1 x2 x3 x4 x5 y0 y1 y2 y3 y4 y5 : PySem.Str} {d0 d1 d2 d3 d4 d5 : Bool} {u0 u1 u2 u3 u4 u5 v0 v1 v2 v3 v4 v5 : Tok} {n0 n1 n2 n3 n4 n5 : Nat}
    (h0 : (l0, W.listOf #[.str x0 u0, .str y0 v0, .bool d0] n0) ∈ news) (h1 : (l1, W.listOf #[.str x1 u1, .str y1 v1, .bool d1] n1) ∈ news) (h2 : (l2, W.listOf #[.str x2 u2, .str y2 v2, .bool d2] n2) ∈ news)
    (h3 : (l3, W.listOf #[.str x3 u3, .str y3 v3, .bool d3] n3) ∈ news) (h4 : (l4, W.listOf #[.str x4 u4, .str y4 v4, .bool d4] n4) ∈ news) (h5 : (l5, W.listOf #[.str x5 u5, .str y5 v5, .bool d5] n5) ∈ news)
    (e0 : ellB x0 y0 = some d0) (e1 : ellB x1 y1 = some d1) (e2 : ellB x2 y2 = some d2) (e3 : ellB x3 y3 = some d3) (e4 : ellB x4 y4 = some d4) (e5 : ellB x5 y5 = some d5) :
    ∃ T : Nat → Value × Value × Value, (∀ i v, (#[.ref l0, .ref l1, .ref l2, .ref l3, .ref l4, .ref l5] : Array Value)[i]? = some v → ∃ D n, v = .ref D ∧ (D, W.listOf #[(T i).1, (T i).2.1, (T i).2.2] n) ∈ news) ∧
      (∀ i, i < 6 → ∃ x tx y ty d, T i = (.str x tx, .str y ty, .bool d) ∧ ellB x y = some d) := by
  refine ⟨fun i => [(.str x0 u0, .str y0 v0, .bool d0), (.str x1 u1, .str y1 v1, .bool d1), (.str x2 u2, .str y2 v2, .bool d2), (.str x3 u3, .str y3 v3, .bool d3), (.str x4 u4, .str y4 v4, .bool d4)].getD i (.str x5 u5, .str y5 v5, .bool d5), ?_, ?_⟩
  · intro i v hv
    rcases i with _ | _ | _ | _ | _ | _ | j
    · cases hv; exact ⟨_, _, rfl, h0⟩
    · cases hv; exact ⟨_, _, rfl, h1⟩
    · cases hv; exact ⟨_, _, rfl, h2⟩
    · cases hv; exact ⟨_, _, rfl, h3⟩
    · cases hv; exact ⟨_, _, rfl, h4⟩
    · cases hv; exact ⟨_, _, rfl, h5⟩
    · cases hv
  · intro i hi
    rcases i with _ | _ | _ | _ | _ | _ | j
    · exact ⟨_, _, _, _, _, rfl, e0⟩
    · exact ⟨_, _, _, _, _, rfl, e1⟩
    · exact ⟨_, _, _, _, _, rfl, e2⟩
    · exact ⟨_, _, _, _, _, rfl, e3⟩
    · exact ⟨_, _, _, _, _, rfl, e4⟩
    · exact ⟨_, _, _, _, _, rfl, e5⟩
    · exact absurd hi (Nat.not_lt.mpr (Nat.le_add_left 6 j))
/-- the six questions -/
noncomputable def asks (W T : PySem.Str) : List (PySem.Str × PySem.Str × Bool) :=
  [(W, PySem.Txt.slice T (some 1) none ++ PySem.Txt.item T 0, false), (W, T, true), (W, PySem.Txt.item T (-1) ++ T, false), (T, T, true), (PySem.Txt.slice T (some 1) none, T, false), (T ++ PySem.Str.ofString "..." ++ PySem.Txt.item T (-1), T, false)]
theorem asks_all {W T : PySem.Str} (h : ((asks W T).all fun q => decide (ellB q.1 q.2.1 = some q.2.2)) = true) :
    ellB W (PySem.Txt.slice T (some 1) none ++ PySem.Txt.item T 0) = some false ∧ ellB W T = some true ∧ ellB W (PySem.Txt.item T (-1) ++ T) = some false ∧ ellB T T = some true ∧ ellB (PySem.Txt.slice T (some 1) none) T = some false ∧
      ellB (T ++ PySem.Str.ofString "..." ++ PySem.Txt.item T (-1)) T = some false := by
  have h' := List.all_eq_true.mp h
  refine ⟨?_, ?_, ?_, ?_, ?_, ?_⟩
  · exact of_decide_eq_true (h' (_, _, _) (.head _))
  · exact of_decide_eq_true (h' (_, _, _) (.tail _ (.head _)))
  · exact of_decide_eq_true (h' (_, _, _) (.tail _ (.tail _ (.head _))))
  · exact of_decide_eq_true (h' (_, _, _) (.tail _ (.tail _ (.tail _ (.head _)))))
  · exact of_decide_eq_true (h' (_, _, _) (.tail _ (.tail _ (.tail _ (.tail _ (.head _))))))
  · exact of_decide_eq_true (h' (_, _, _) (.tail _ (.tail _ (.tail _ (.tail _ (.tail _ (.head _)))))))
noncomputable def rgbC (k : Int) : PySem.Str := PySem.Txt.item (PySem.Str.ofString "rgb") k
noncomputable def textT (f : List Int) : PySem.Str := PySem.Txt.join (PySem.Str.ofString "") (f.map rgbC)
section
variable {w : World} {A : Around} {E : Value → Shared → Prop} {s : Shared} {h₀ : Heap} {L D : Addr} {m : PySem.Str → Option Value} {news own : List (Addr × Obj)}
theorem mul_some {x : PySem.Str} {t u : Tok} {c : Nat} {Q : Value → Shared → Prop} (hx : x.length ≤ 100) (hc : c ≤ 3) (h : ∀ t' k, (PySem.Txt.mul x (c : Nat)).length ≤ 300 → Q (.str (PySem.Txt.mul x (c : Nat)) t') { s with toks := k }) :
    wpAny (model PV w) A (binaryOp .Mult (.str x t) (.int (c : Nat) u)) Q E s := by
  refine SB.mul ⟨?_, ?_, ?_⟩ (fun t' k => h t' k ?_)
  · rw [decide_eq_false (by omega), decide_eq_false (by omega)]; rfl
  · intro h1 _
    have : c = 1 ∨ c = 2 ∨ c = 3 := by omega
    rcases this with rfl | rfl | rfl <;> simp <;> omega
  · intro h1 _
    have : c = 1 ∨ c = 2 ∨ c = 3 := by omega
    have e : ((c : Nat) : Int).toNat = c := by omega
    rw [e]
    have h3 : x.length * c ≤ 100 * 3 := Nat.mul_le_mul hx hc
    simp only [Builtin.Str.tooLong, PySem.sizeLine_eq, decide_eq_false_iff_not]
    omega
  · have := len_mul_leN (x := x) (n := (c : Nat)) (L := 100) (N := 3) hx (by omega)
    exact this
theorem old_count_m {a : Addr} {its : Array Value} {n : Nat} {pl : Sem Bool} {Q : Value × List Value → Shared → Prop} (F : Fr h₀ L s.heap m) (ha : h₀.get? a = some (W.listOf its n)) (h : Q (.builtin "list.count", [.ref a]) s) : wpAny (model PV w) A (getMethod (.ref a) (PySem.Str.ofString "count") pl) Q E s :=
  getMethod_builtin (T := "list") ⟨_, F.keep _ _ ha, rfl⟩ PySem.F.plainAttrs_list PySem.F.slot_list_count PySem.F.type_list_count (fun _ e => by cases e; exact ⟨_, F.keep _ _ ha, rfl⟩) h
theorem old_count {a : Addr} {vs : List Value} {ns : List Int} {n : Nat} {k : Int} {t : Tok} {Q : Value → Shared → Prop} (F : Fr h₀ L s.heap m) (ha : h₀.get? a = some (W.listOf vs.toArray n)) (hi : IntsAre vs ns) (h : Q (.int (ns.count k : Nat) s.toks) { s with toks := s.toks + 1 }) :
    wpAny (model PV w) A (call (.builtin "list.count") [.ref a, .int k t]) Q E s := count_list_ints ⟨_, F.keep _ _ ha, rfl, _, rfl⟩ hi h
theorem strV_snoc (l : List (PySem.Str × Tok)) (x : PySem.Str) (t : Tok) : strValues (l ++ [(x, t)]) = strValues l ++ [.str x t] := by simp [strValues]
theorem join_rgb {l : List (PySem.Str × Tok)} {f : List Int} {n : Nat} {tx : Tok} {Q : Value → Shared → Prop} (N : News h₀ L s.heap ((D, W.listOf (strValues l).toArray n) :: own)) (he : l.map (·.1) = f.map rgbC) (hf : f.length ≤ 9) (h : ∀ t' k, Q (.str (textT f) t') { s with toks := k }) :
    wpAny (model PV w) A (call (.builtin "str.join") [.str (PySem.Str.ofString "") tx, .ref D]) Q E s := by
  have hl : l.length = f.length := by have := congrArg List.length he; simpa using this
  refine join_str N (by omega) ?_ (by rfl) ?_
  · intro p hp
    have : p.1 ∈ f.map rgbC := he ▸ List.mem_map_of_mem hp
    obtain ⟨k, _, e⟩ := List.mem_map.mp this
    rw [← e]
    show (1 : Nat) ≤ 1000
    decide
  · rw [he]; exact h
end
local macro_rules | `(tactic| walk_at "eval ListComp") => `(tactic| (k_here; k_dflt (refine comp_eval (by with_unfolding_all rfl) (by rfl) (by decide) ?_)))
local macro_rules | `(tactic| walk_at "pyIter ref") => `(tactic| (fail_if_success skip))
local macro_rules | `(tactic| walk_at "call ref") => `(tactic| (k_here; k_dflt (refine' useG 340 ?k1 ?k2 ?k3 ?k4 ?k5 ?k6 ?k7 ?k8 ?k9 ?kA ?kB (fun B X T => ell_any B X T ?kC _ _) ?_; walk_at "UseK"; (case kB => exact rfl); (case kC => assumption); k_whole; intro vS sS pS extS F' N'; subst pS)))
set_option maxHeartbeats 16000000
local macro_rules | `(tactic| walk_at "getMethod ref") => `(tactic| (refine old_count_m (by k_asm) (by assumption) ?_))
local macro_rules | `(tactic| walk_at "call builtin:list.count") => `(tactic| (refine old_count (by k_asm) (by assumption) (by assumption) ?_))
local macro_rules | `(tactic| walk_at "binaryOp Mult str int") => `(tactic| ((have h3 : (PySem.Str.ofString "...").length = 3 := by decide +kernel); refine mul_some (by omega) (by assumption) ?_; intro tx kx lx))
local macro_rules | `(tactic| walk_at "call builtin:str.join") => `(tactic| (refine join_rgb (by k_asm) (by assumption) (by assumption) ?_; intro tx kx))
theorem dots_ok {w : World} {base : Heap} {outer : List Env} {s : Shared} {mg mb : PySem.Str → Option Value} {mean : ExcName → Option Value}
    (B : Below (Lv 330 outer) base outer s.heap) (X : (hd.heap_39 w.params).In s.heap) (T : TopV mg mb mean s.heap)
    (a : Addr) (vs : List Value) (f : List Int) (lamp one : Int) (hf : IntsAre vs f) {na : Nat} (ha : s.heap.get? a = some (W.listOf vs.toArray na)) (hcl : f.count lamp ≤ 3) (hlen : f.length ≤ 9) (hmem : ∀ x ∈ f, 0 ≤ x ∧ x ≤ 2) (tl to : Tok) (hl : 0 ≤ lamp ∧ lamp ≤ 2) (ho : 0 ≤ one ∧ one ≤ 2)
    (b : Bool) (H0 : ellB (PySem.Txt.item (PySem.Str.ofString "rgb") lamp ++ PySem.Txt.mul (PySem.Str.ofString "..." ++ PySem.Txt.item (PySem.Str.ofString "rgb") one) (f.count lamp : Nat)) (textT f) = some b) (HA : b = true → ((asks (PySem.Txt.item (PySem.Str.ofString "rgb") lamp ++ PySem.Txt.mul (PySem.Str.ofString "..." ++ PySem.Txt.item (PySem.Str.ofString "rgb") one) (f.count lamp : Nat)) (textT f)).all fun q => decide (ellB q.1 q.2.1 = some q.2.2)) = true) (hT2 : 2 ≤ (textT f).length) (hT9 : (textT f).length ≤ 9) :
    Gives w 330 outer 83 [.ref a, .int lamp tl, .int one to] s (fun v _ => v = .bool b) := by
  k_dflt (refine' enterP (fun n => List.lookup n [(Str.ofString "one", Value.int one to), (Str.ofString "lamp", Value.int lamp tl), (Str.ofString "front", Value.ref a)]) ?k1 ?k2 ?k3 ?k6 ?k7 ?k8 ?k9 ?kB ?kM ?_ ?c5 ?c2 ?c3 ?c4; (case k1 => k_asm); (case k2 => k_asm); (case k3 => k_asm); (case k6 => k_is); (case k7 => k_is); (case k8 => k_room); (case k9 => exact BindsTo.of_eq rfl); (case kB => exact locs rfl); (case kM => exact rfl); (case c5 => decide); (case c2 => exact rfl); (case c3 => exact rfl); (case c4 => exact rfl); k_whole)
  clear B X T
  intro L' h' tk' F' N' B' X' T'
  (try dsimp only)
  k_fold
  k_steps
  (with_reducible rename Fr _ _ _ _ => F1); (with_reducible rename News _ _ _ _ => N1)
  refine' comp_list (news := []) (X := fun _ v m => m (PySem.Str.ofString "x") = some v) (J := fun i ys => ∃ l : List (PySem.Str × Tok), ys = strValues l ∧ l.map (·.1) = (f.take i).map rgbC) ?e1 F1 N1 (.inl ⟨_, ha, rfl, _, rfl⟩) ?e2 ?e3 ?e4 (fun I => asg_name ?e5 ?e6) ?e7 ?turn (fin_none ?fin)
  case e1 => rfl
  case e2 => rw [PySem.sizeLine_eq]; have := hf.length; simp; omega
  case e3 => decide
  case e4 => rfl
  case e5 => rfl
  case e6 => rfl
  case e7 => exact ⟨[], rfl, rfl⟩
  case turn =>
    intro i v I oI C oC D ys m₂ s₁ hi hP hJ hC hX F N off ne S
    obtain ⟨k, t, rfl, hk⟩ := IntsAre.at hf i v (by simpa using hP)
    obtain ⟨hk0, hk2⟩ := hmem k (List.mem_of_getElem? hk)
    refine wpAny_tests_nil ?_
    dsimp only
    k_steps
    exact ⟨⟨rfl, rfl, fun g => g⟩, by k_asm, by k_asm, by
      obtain ⟨l, rfl, hl⟩ := hJ
      refine ⟨l ++ [(_, _)], (strV_snoc _ _ _).symm, ?_⟩
      rw [List.take_add_one, hk]
      simp [hl, rgbC]⟩
  case fin =>
    intro D ys s' hJ S0 F N o1
    obtain ⟨l, rfl, hl'⟩ := hJ
    have hsz : vs.toArray.size = f.length := by simpa using hf.length
    rw [hsz, List.take_length] at hl'
    have N' : News s.heap L' s'.heap [(D, W.listOf (strValues l).toArray (strValues l).length)] := N
    clear N
    dsimp only
    k_steps
    · (rename (b == false) = true => hb)
      cases b
      · rfl
      · cases hb
    · (with_reducible rename Ext _ _ => X2)
      exact ⟨Fr.keep (by assumption), X2.os.trans S0.os, X2.drawn.trans S0.drawn, fun g => X2.gens (S0.gens g)⟩
    · (rename (b == false) = false => hb); (with_reducible rename Fr _ _ _ _ => F2); (with_reducible rename News _ _ _ _ => N2); (with_reducible rename Ext _ _ => X2)
      have hb' : b = true := by cases b; cases hb; rfl
      subst hb'
      obtain ⟨a0, a1, a2, a3, a4, a5⟩ := asks_all (HA rfl)
      obtain ⟨T, hT, hE⟩ := tri_of N2 (.head _) (by k_mem) (by k_mem) (by k_mem) (by k_mem) (by k_mem) (by k_mem) (by assumption) (by assumption) (by assumption) (by assumption) (by assumption) (by assumption)
      refine' comp_list (J := fun i ys => ys = []) (X := _) ?e1 F2 N2 (.inr ⟨_, .head _, rfl, _, rfl⟩) ?e2 ?e3 ?e4 (fun I => asg_three ?f1 ?f2 ?f3 ?f4 ?f5 ?f6 T hT) ?e7 ?turn (fin_none ?fin)
      case e1 => rfl
      case f1 => rfl
      case f2 => rfl
      case f3 => rfl
      case f4 => rfl
      case f5 => rfl
      case f6 => decide
      case e2 => rw [PySem.sizeLine_eq]; exact Nat.le_of_ble_eq_true rfl
      case e3 => decide
      case e4 => rfl
      case e7 => rfl
      case turn =>
        intro i v I oI C oC D ys m₂ s₁ hi hP hJ hC hX F N off ne S
        obtain ⟨x, tx, y, ty, d, hTi, hd⟩ := hE i hi
        rw [hTi] at hX
        obtain ⟨hX1, hX2, hX3⟩ := hX
        refine wpAny_tests_one ?_
        cases d
        all_goals k_steps
        all_goals ((with_reducible rename Fr _ _ _ _ => F3); (with_reducible rename News _ _ _ _ => N3); (with_reducible rename Ext _ _ => X3))
        all_goals exact (CEnd.mk' ⟨X3.os, X3.drawn, X3.gens⟩ F3 N3 hJ :)
      case fin =>
        intro D ys s' hJ S F N o1
        subst hJ
        dsimp only
        k_steps
        exact ⟨Fr.keep (by assumption), S.os.trans (X2.os.trans S0.os), S.drawn.trans (X2.drawn.trans S0.drawn), fun g => S.gens (X2.gens (S0.gens g))⟩
end
section
open PySem PySem.W PySem.Calls PyProof.Rows PyProof.Rows.LCg
set_option Elab.async false
set_option maxRecDepth 100000
theorem reset_K1 : True := by w_top off; trivial
theorem cons_of {y : PySem.Str} {r : List PySem.Str} : ∀ {l : List (PySem.Str × Tok)}, l.map Prod.fst = y :: r → ∃ t l', l = (y, t) :: l' ∧ l'.map Prod.fst = r
  | (_, t) :: l', h => ⟨t, l', by rw [← (List.cons.inj h).1], (List.cons.inj h).2⟩
theorem nil_of {l : List (PySem.Str × Tok)} (h : l.map Prod.fst = []) : l = [] := List.map_eq_nil_iff.mp h
noncomputable def othS (lamp one : Int) : PySem.Str := if (one - lamp).fmod 3 = 1 then PySem.Str.ofString "\")\"" else PySem.Str.ofString "\\("
noncomputable def brC (lamp one : Int) (k : Int) : PySem.Str := if k = lamp then PySem.Str.ofString "(" else if k = one then PySem.Str.ofString ")" else othS lamp one
noncomputable def textB (lamp one : Int) (f : List Int) : PySem.Str := PySem.Txt.join (PySem.Str.ofString "") (f.map (brC lamp one))
noncomputable def New1 (y0 : PySem.Str) (s : Shared) (v : Value) (s' : Shared) : Prop := ∃ D t n, v = .ref D ∧ s'.heap.get? D = some (W.listOf #[.str y0 t] n) ∧ s.heap.get? D = none
noncomputable def New4 (y0 y1 y2 y3 : PySem.Str) (s : Shared) (v : Value) (s' : Shared) : Prop := ∃ D t0 t1 t2 t3 n, v = .ref D ∧ s'.heap.get? D = some (W.listOf #[.str y0 t0, .str y1 t1, .str y2 t2, .str y3 t3] n) ∧ s.heap.get? D = none
theorem Gives.mono {w : World} {dp : Nat} {outer : List Env} {f : Addr} {args : List Value} {s : Shared} {P P' : Value → Shared → Prop} (h : Gives w dp outer f args s P) (k : ∀ v s', P v s' → P' v s') : Gives w dp outer f args s P' :=
  codeAny_mono h fun _ s' ⟨v, e, p, x⟩ => ⟨v, e, k v s' p, x⟩
section
variable {w : World} {base : Heap} {outer : List Env} {s : Shared} {mg mb : PySem.Str → Option Value} {mean : ExcName → Option Value}
theorem ppv1 (B : Below (Lv 340 outer) base outer s.heap) (X : (hd.heap_39 w.params).In s.heap) (T : TopV mg mb mean s.heap) {a : Addr} {n : Nat} {x0 : PySem.Str} {t0 : Tok} (ha : s.heap.get? a = some (W.listOf #[.str x0 t0] n))
    (l0 : x0.length ≤ 1000 ∧ (stripP x0).length ≤ 1000) : Gives w 340 outer 42 [.ref a] s (New1 (ppvP x0) s) := by
  refine (ppv_ok B X T a [(x0, t0)] ⟨_, ha, rfl, _, rfl⟩ (Nat.le_of_ble_eq_true rfl) ?_ ?_).mono ?_
  · intro p hp; rw [List.mem_singleton.mp hp]; exact l0.1
  · intro p hp; rw [List.mem_singleton.mp hp]; exact l0.2
  · rintro v s' ⟨D, l, n, rfl, hg, hm, hn⟩
    obtain ⟨t, l1, rfl, m1⟩ := cons_of (y := ppvP x0) hm
    obtain rfl := nil_of m1
    exact ⟨D, t, n, rfl, hg, hn⟩
theorem ppv4 (B : Below (Lv 340 outer) base outer s.heap) (X : (hd.heap_39 w.params).In s.heap) (T : TopV mg mb mean s.heap) {a : Addr} {n : Nat} {x0 x1 x2 x3 : PySem.Str} {t0 t1 t2 t3 : Tok} (ha : s.heap.get? a = some (W.listOf #[.str x0 t0, .str x1 t1, .str x2 t2, .str x3 t3] n))
    (l0 : x0.length ≤ 1000 ∧ (stripP x0).length ≤ 1000) (l1 : x1.length ≤ 1000 ∧ (stripP x1).length ≤ 1000) (l2 : x2.length ≤ 1000 ∧ (stripP x2).length ≤ 1000) (l3 : x3.length ≤ 1000 ∧ (stripP x3).length ≤ 1000) :
    Gives w 340 outer 42 [.ref a] s (New4 (ppvP x0) (ppvP x1) (ppvP x2) (ppvP x3) s) := by
  refine (ppv_ok B X T a [(x0, t0), (x1, t1), (x2, t2), (x3, t3)] ⟨_, ha, rfl, _, rfl⟩ (Nat.le_of_ble_eq_true rfl) ?_ ?_).mono ?_
  · intro p hp
    rcases List.mem_cons.mp hp with rfl | hp
    · exact l0.1
    rcases List.mem_cons.mp hp with rfl | hp
    · exact l1.1
    rcases List.mem_cons.mp hp with rfl | hp
    · exact l2.1
    rw [List.mem_singleton.mp hp]; exact l3.1
  · intro p hp
    rcases List.mem_cons.mp hp with rfl | hp
    · exact l0.2
    rcases List.mem_cons.mp hp with rfl | hp
    · exact l1.2
    rcases List.mem_cons.mp hp with rfl | hp
    · exact l2.2
    rw [List.mem_singleton.mp hp]; exact l3.2
  · rintro v s' ⟨D, l, n, rfl, hg, hm, hn⟩
    obtain ⟨t0, l1, rfl, m1⟩ := cons_of (y := ppvP x0) hm
    obtain ⟨t1, l2, rfl, m2⟩ := cons_of (y := ppvP x1) m1
    obtain ⟨t2, l3, rfl, m3⟩ := cons_of (y := ppvP x2) m2
    obtain ⟨t3, l4, rfl, m4⟩ := cons_of (y := ppvP x3) m3
    obtain rfl := nil_of m4
    exact ⟨D, t0, t1, t2, t3, n, rfl, hg, hn⟩
end
theorem news_new {h₀ : Heap} {L D : Addr} {s s' : Shared} {m : PySem.Str → Option Value} {news : List (Addr × Obj)} {o : Obj} (F : Fr h₀ L s.heap m) (N : News h₀ L s'.heap news) (hg : s'.heap.get? D = some o) (hn : s.heap.get? D = none) : News h₀ L s'.heap ((D, o) :: news) := fun p hp => by
  rcases List.mem_cons.mp hp with rfl | hp
  · refine ⟨hg, fun e => ?_, ?_⟩
    · obtain ⟨o', _, _, ho, _⟩ := F.ns
      have e' : D = L := e
      rw [← e', hn] at ho; cases ho
    · cases q : h₀.get? D with
      | none => rfl
      | some o' => have := F.keep _ _ q; rw [hn] at this; cases this
  · exact N p hp
theorem useP1 {w : World} {A A₀ : Around} {base h₀ : Heap} {outer : List Env} {s : Shared} {mg mb : PySem.Str → Option Value} {mean : ExcName → Option Value}
    {env : Env} {L : Addr} {m : PySem.Str → Option Value} {news : List (Addr × Obj)} {Q : Value → Shared → Prop} {E : Value → Shared → Prop} {a : Addr} {n : Nat} {x0 : PySem.Str} {t0 : Tok}
    (B : Below A₀ base outer h₀) (F : Fr h₀ L s.heap m) (N : News h₀ L s.heap news) (X : (hd.heap_39 w.params).In h₀) (T : TopV mg mb mean h₀)
    (h1 : A.handled = none) (h2 : A.frames = some (env :: outer)) (h3 : A.guards = some []) (h4 : A.depth ≤ 340) (h5 : A.units ≤ 340) (hf : env.frame = some L) (hk : env.scope.kind = .function)
    (ha : (a, W.listOf #[.str x0 t0] n) ∈ news) (l0 : x0.length ≤ 1000 ∧ (stripP x0).length ≤ 1000)
    (h : ∀ D t n s', Ext s s' → Fr h₀ L s'.heap m → News h₀ L s'.heap ((D, W.listOf #[.str (ppvP x0) t] n) :: news) → Q (.ref D) s') : wpAny (model PV w) A (call (.ref 42) [.ref a]) Q E s := by
  refine useX 340 B F N X T h1 h2 h3 h4 h5 hf hk (fun B X T => ppv1 B X T (N _ ha).1 l0) fun v s' p e F' N' => ?_
  obtain ⟨D, t, n, rfl, hg, hn⟩ := p
  exact h D t n s' e F' (news_new F N' hg hn)
theorem useP4 {w : World} {A A₀ : Around} {base h₀ : Heap} {outer : List Env} {s : Shared} {mg mb : PySem.Str → Option Value} {mean : ExcName → Option Value}
    {env : Env} {L : Addr} {m : PySem.Str → Option Value} {news : List (Addr × Obj)} {Q : Value → Shared → Prop} {E : Value → Shared → Prop} {a : Addr} {n : Nat} {x0 x1 x2 x3 : PySem.Str} {t0 t1 t2 t3 : Tok}
    (B : Below A₀ base outer h₀) (F : Fr h₀ L s.heap m) (N : News h₀ L s.heap news) (X : (hd.heap_39 w.params).In h₀) (T : TopV mg mb mean h₀)
    (h1 : A.handled = none) (h2 : A.frames = some (env :: outer)) (h3 : A.guards = some []) (h4 : A.depth ≤ 340) (h5 : A.units ≤ 340) (hf : env.frame = some L) (hk : env.scope.kind = .function)
    (ha : (a, W.listOf #[.str x0 t0, .str x1 t1, .str x2 t2, .str x3 t3] n) ∈ news) (l0 : x0.length ≤ 1000 ∧ (stripP x0).length ≤ 1000) (l1 : x1.length ≤ 1000 ∧ (stripP x1).length ≤ 1000) (l2 : x2.length ≤ 1000 ∧ (stripP x2).length ≤ 1000) (l3 : x3.length ≤ 1000 ∧ (stripP x3).length ≤ 1000)
    (h : ∀ D t0 t1 t2 t3 n s', Ext s s' → Fr h₀ L s'.heap m → News h₀ L s'.heap ((D, W.listOf #[.str (ppvP x0) t0, .str (ppvP x1) t1, .str (ppvP x2) t2, .str (ppvP x3) t3] n) :: news) → Q (.ref D) s') : wpAny (model PV w) A (call (.ref 42) [.ref a]) Q E s := by
  refine useX 340 B F N X T h1 h2 h3 h4 h5 hf hk (fun B X T => ppv4 B X T (N _ ha).1 l0 l1 l2 l3) fun v s' p e F' N' => ?_
  obtain ⟨D, t0, t1, t2, t3, n, rfl, hg, hn⟩ := p
  exact h D t0 t1 t2 t3 n s' e F' (news_new F N' hg hn)
section
variable {w : World} {A : Around} {E : Value → Shared → Prop} {s : Shared} {h₀ : Heap} {L D : Addr} {m : PySem.Str → Option Value} {news own : List (Addr × Obj)}
theorem join_br {l : List (PySem.Str × Tok)} {lamp one : Int} {f : List Int} {n : Nat} {tx : Tok} {Q : Value → Shared → Prop} (N : News h₀ L s.heap ((D, W.listOf (strValues l).toArray n) :: own)) (he : l.map (·.1) = f.map (brC lamp one)) (hf : f.length ≤ 9) (h : ∀ t' k, Q (.str (textB lamp one f) t') { s with toks := k }) :
    wpAny (model PV w) A (call (.builtin "str.join") [.str (PySem.Str.ofString "") tx, .ref D]) Q E s := by
  have hl : l.length = f.length := by have := congrArg List.length he; simpa using this
  refine join_str N (by omega) ?_ (by rfl) ?_
  · intro p hp
    have : p.1 ∈ f.map (brC lamp one) := he ▸ List.mem_map_of_mem hp
    obtain ⟨k, _, e⟩ := List.mem_map.mp this
    rw [← e]
    unfold brC othS
    repeat' split
    all_goals decide
  · rw [he]; exact h
theorem eq_strs1 {a b : Addr} {x y : PySem.Str} {t u : Tok} {n k : Nat} {c : Bool} {Q : Value → Shared → Prop} (N : News h₀ L s.heap news) (ha : (a, W.listOf #[.str x t] n) ∈ news) (hb : (b, W.listOf #[.str y u] k) ∈ news) (hu : A.units < cLine)
    (he : (x == y) = c) (h : Q (.bool c) s) : wpAny (model PV w) A (compareOp .Eq (.ref a) (.ref b)) Q E s := by
  refine SeqAt.eq_listAt (e := fun _ => c) ⟨_, (N _ ha).1, rfl, _, rfl⟩ ⟨_, (N _ hb).1, rfl, _, rfl⟩ rfl hu (fun j h1 _ => ?_) ?_
  · obtain rfl : j = 0 := Nat.lt_one_iff.mp h1
    exact he ▸ (eqGives_str x y t u).at _ _
  · have e : ((List.range (#[Value.str x t] : Array Value).size).all fun _ => c) = c := by cases c <;> rfl
    rw [e]; exact h
theorem eq_strs4 {a b : Addr} {x0 x1 x2 x3 y0 y1 y2 y3 : PySem.Str} {t0 t1 t2 t3 u0 u1 u2 u3 : Tok} {n k : Nat} {c : Bool} {Q : Value → Shared → Prop} (N : News h₀ L s.heap news)
    (ha : (a, W.listOf #[.str x0 t0, .str x1 t1, .str x2 t2, .str x3 t3] n) ∈ news) (hb : (b, W.listOf #[.str y0 u0, .str y1 u1, .str y2 u2, .str y3 u3] k) ∈ news) (hu : A.units < cLine)
    (he : ((x0 == y0) && ((x1 == y1) && ((x2 == y2) && (x3 == y3)))) = c) (h : Q (.bool c) s) : wpAny (model PV w) A (compareOp .Eq (.ref a) (.ref b)) Q E s := by
  refine SeqAt.eq_listAt (e := fun j => [x0 == y0, x1 == y1, x2 == y2].getD j (x3 == y3)) ⟨_, (N _ ha).1, rfl, _, rfl⟩ ⟨_, (N _ hb).1, rfl, _, rfl⟩ rfl hu (fun j h1 _ => ?_) ?_
  · rcases j with _ | _ | _ | _ | j
    · exact (eqGives_str _ _ _ _).at _ _
    · exact (eqGives_str _ _ _ _).at _ _
    · exact (eqGives_str _ _ _ _).at _ _
    · exact (eqGives_str _ _ _ _).at _ _
    · exact absurd h1 (Nat.not_lt.mpr (Nat.le_add_left 4 j))
  · subst he
    have e : (List.range (#[Value.str x0 t0, Value.str x1 t1, Value.str x2 t2, Value.str x3 t3] : Array Value).size) = [0, 1, 2, 3] := rfl
    rw [e]
    simpa using h
end
local macro_rules | `(tactic| walk_at "eval ListComp") => `(tactic| (k_here; k_dflt (refine comp_eval (by with_unfolding_all rfl) (by rfl) (by decide) ?_)))
local macro_rules | `(tactic| walk_at "pyIter ref") => `(tactic| (fail_if_success skip))
local macro_rules | `(tactic| walk_at "call ref") => `(tactic| (k_here; k_dflt (first
  | (refine' useP1 ?k1 ?k2 ?k3 ?k4 ?k5 ?k6 ?k7 ?k8 ?k9 ?kA ?kB ?kC ?kD ?kE ?_; walk_at "UseK"; (case kB | kC => exact rfl); (case kD => k_mem); (case kE => assumption); k_whole; intro D1 t1 n1 sS extS F' N')
  | (refine' useP4 ?k1 ?k2 ?k3 ?k4 ?k5 ?k6 ?k7 ?k8 ?k9 ?kA ?kB ?kC ?kD ?kE ?kF ?kG ?kH ?_; walk_at "UseK"; (case kB | kC => exact rfl); (case kD => k_mem); (case kE | kF | kG | kH => assumption); k_whole; intro D1 t1 t2 t3 t4 n1 sS extS F' N'))))
local macro_rules | `(tactic| walk_at "compareOp Eq ref ref") => `(tactic| (k_dflt (first
  | (refine' eq_strs1 ?k1 ?k2 ?k3 ?k4 ?k5 ?_; (case k1 => k_asm); (case k2 | k3 => k_mem); (case k4 => exact Nat.le_of_ble_eq_true rfl); (case k5 => assumption); k_whole)
  | (refine' eq_strs4 ?k1 ?k2 ?k3 ?k4 ?k5 ?_; (case k1 => k_asm); (case k2 | k3 => k_mem); (case k4 => exact Nat.le_of_ble_eq_true rfl); (case k5 => assumption); k_whole))))
local macro_rules | `(tactic| walk_at "call builtin:str.join") => `(tactic| (refine join_br (by k_asm) (by assumption) (by assumption) ?_; intro tx kx))
set_option maxHeartbeats 16000000
theorem brk_ok {w : World} {base : Heap} {outer : List Env} {s : Shared} {mg mb : PySem.Str → Option Value} {mean : ExcName → Option Value}
    (B : Below (Lv 330 outer) base outer s.heap) (X : (hd.heap_39 w.params).In s.heap) (T : TopV mg mb mean s.heap)
    (a : Addr) (vs : List Value) (f : List Int) (lamp one : Int) (hf : IntsAre vs f) {na : Nat} (ha : s.heap.get? a = some (W.listOf vs.toArray na)) (hlen : f.length ≤ 9) (tl to : Tok) (hl : 0 ≤ lamp ∧ lamp ≤ 2) (ho : 0 ≤ one ∧ one ≤ 2)
    (b c : Bool) (HB : (ppvP (textB lamp one f) == PySem.Str.ofString "('', '')") = !b)
    (HC : ((ppvP (PySem.Txt.slice (textB lamp one f) (some 1) none ++ PySem.Str.ofString "(") == PySem.Str.ofString "('', '')") && ((ppvP (textB lamp one f) == textB lamp one f) && ((ppvP (PySem.Str.ofString ")" ++ textB lamp one f) == PySem.Str.ofString "('', '')") && (ppvP (textB lamp one f) == textB lamp one f)))) = c)
    (Hbc : b = true → c = true) (hb0 : (textB lamp one f).length ≤ 1000 ∧ (stripP (textB lamp one f)).length ≤ 1000) (hb1 : (PySem.Txt.slice (textB lamp one f) (some 1) none ++ PySem.Str.ofString "(").length ≤ 1000 ∧ (stripP (PySem.Txt.slice (textB lamp one f) (some 1) none ++ PySem.Str.ofString "(")).length ≤ 1000)
    (hb2 : (PySem.Str.ofString ")" ++ textB lamp one f).length ≤ 1000 ∧ (stripP (PySem.Str.ofString ")" ++ textB lamp one f)).length ≤ 1000)
    (hT2 : 2 ≤ (textB lamp one f).length) (hT9 : (textB lamp one f).length ≤ 30) :
    Gives w 330 outer 78 [.ref a, .int lamp tl, .int one to] s (fun v _ => v = .bool b) := by
  k_dflt (refine' enterC ?k1 ?k2 ?k3 ?k6 ?k7 ?k8 ?k9 ?kB ?kD ?_ ?c2 ?c3 ?c4; (case k1 => k_asm); (case k2 => k_asm); (case k3 => k_asm); (case k6 => k_is); (case k7 => k_is); (case k8 => k_room); (case k9 => exact BindsTo.of_eq rfl); (case kB => exact rfl); (case kD => decide +kernel); (case c2 => exact rfl); (case c3 => exact rfl); (case c4 => exact rfl); k_whole)
  clear B X T
  intro L' h' tk' cells' F' N' Y' B' X' T'
  k_cells Y'
  (try simp only [List.cons_append, List.nil_append] at N')
  (try dsimp only)
  change wpAny _ _ _ _ _ _
  k_fold
  k_steps
  --BLOCKS
  · (with_reducible rename Fr _ _ _ _ => F1); (with_reducible rename News _ _ _ _ => N1)
    rename Int.fmod _ _ = 1 => hfm
    have hO : othS lamp one = PySem.Str.ofString "\")\"" := if_pos hfm
    refine' comp_list (X := fun _ v m => m (PySem.Str.ofString "x") = some v) (J := fun i ys => ∃ l : List (PySem.Str × Tok), ys = strValues l ∧ l.map (·.1) = (f.take i).map (brC lamp one)) ?e1 F1 N1 (.inl ⟨_, ha, rfl, _, rfl⟩) ?e2 ?e3 ?e4 (fun I => asg_name ?e5 ?e6) ?e7 ?turn (fin_none ?fin)
    case e1 => rfl
    case e2 => rw [PySem.sizeLine_eq]; have := hf.length; simp; omega
    case e3 => decide
    case e4 => rfl
    case e5 => rfl
    case e6 => rfl
    case e7 => exact ⟨[], rfl, rfl⟩
    case turn =>
      intro i v I oI C oC D ys m₂ s₁ hi hP hJ hC hX F N off ne S
      obtain ⟨k, t, rfl, hk⟩ := IntsAre.at hf i v (by simpa using hP)
      refine wpAny_tests_nil ?_
      dsimp only
      have hend : ∀ (p : PySem.Str) (u : Tok), brC lamp one k = p → ∃ l : List (PySem.Str × Tok), ys ++ [.str p u] = strValues l ∧ l.map (·.1) = (f.take (i + 1)).map (brC lamp one) := fun p u e => by
        obtain ⟨l, rfl, hl⟩ := hJ
        refine ⟨l ++ [(p, u)], (strV_snoc _ _ _).symm, ?_⟩
        rw [List.take_add_one, hk]
        simp [hl, e]
      k_steps
      all_goals exact ⟨⟨rfl, rfl, fun g => g⟩, by k_asm, by k_asm, hend _ _ (by simp_all [brC])⟩
    case fin =>
      intro D ys s' hJ S0 F N o1
      obtain ⟨l, rfl, hl'⟩ := hJ
      have hsz : vs.toArray.size = f.length := by simpa using hf.length
      rw [hsz, List.take_length] at hl'
      have N'' : News s.heap L' s'.heap ((D, W.listOf (strValues l).toArray (strValues l).length) :: _) := N
      clear N
      dsimp only
      k_steps
      · (rename b = true => hb); subst hb; rfl
      · (with_reducible rename Ext _ _ => XB); revert XB; (with_reducible rename Ext _ _ => XA); intro XB
        exact ⟨Fr.keep (by assumption), XB.os.trans (XA.os.trans S0.os), XB.drawn.trans (XA.drawn.trans S0.drawn), fun g => XB.gens (XA.gens (S0.gens g))⟩
      · (rename b = true => hb); (rename c = false => hc); rw [Hbc hb] at hc; cases hc
      · (with_reducible rename Ext _ _ => XB); revert XB; (with_reducible rename Ext _ _ => XA); intro XB
        exact ⟨Fr.keep (by assumption), XB.os.trans (XA.os.trans S0.os), XB.drawn.trans (XA.drawn.trans S0.drawn), fun g => XB.gens (XA.gens (S0.gens g))⟩
      · (rename b = false => hb); subst hb; rfl
      · (with_reducible rename Ext _ _ => XA)
        exact ⟨Fr.keep (by assumption), XA.os.trans S0.os, XA.drawn.trans S0.drawn, fun g => XA.gens (S0.gens g)⟩
  · (with_reducible rename Fr _ _ _ _ => F1); (with_reducible rename News _ _ _ _ => N1)
    rename Int.fmod _ _ ≠ 1 => hfm
    have hO : othS lamp one = PySem.Str.ofString "\\(" := if_neg hfm
    refine' comp_list (X := fun _ v m => m (PySem.Str.ofString "x") = some v) (J := fun i ys => ∃ l : List (PySem.Str × Tok), ys = strValues l ∧ l.map (·.1) = (f.take i).map (brC lamp one)) ?e1 F1 N1 (.inl ⟨_, ha, rfl, _, rfl⟩) ?e2 ?e3 ?e4 (fun I => asg_name ?e5 ?e6) ?e7 ?turn (fin_none ?fin)
    case e1 => rfl
    case e2 => rw [PySem.sizeLine_eq]; have := hf.length; simp; omega
    case e3 => decide
    case e4 => rfl
    case e5 => rfl
    case e6 => rfl
    case e7 => exact ⟨[], rfl, rfl⟩
    case turn =>
      intro i v I oI C oC D ys m₂ s₁ hi hP hJ hC hX F N off ne S
      obtain ⟨k, t, rfl, hk⟩ := IntsAre.at hf i v (by simpa using hP)
      refine wpAny_tests_nil ?_
      dsimp only
      have hend : ∀ (p : PySem.Str) (u : Tok), brC lamp one k = p → ∃ l : List (PySem.Str × Tok), ys ++ [.str p u] = strValues l ∧ l.map (·.1) = (f.take (i + 1)).map (brC lamp one) := fun p u e => by
        obtain ⟨l, rfl, hl⟩ := hJ
        refine ⟨l ++ [(p, u)], (strV_snoc _ _ _).symm, ?_⟩
        rw [List.take_add_one, hk]
        simp [hl, e]
      k_steps
      all_goals exact ⟨⟨rfl, rfl, fun g => g⟩, by k_asm, by k_asm, hend _ _ (by simp_all [brC])⟩
    case fin =>
      intro D ys s' hJ S0 F N o1
      obtain ⟨l, rfl, hl'⟩ := hJ
      have hsz : vs.toArray.size = f.length := by simpa using hf.length
      rw [hsz, List.take_length] at hl'
      have N'' : News s.heap L' s'.heap ((D, W.listOf (strValues l).toArray (strValues l).length) :: _) := N
      clear N
      dsimp only
      k_steps
      · (rename b = true => hb); subst hb; rfl
      · (with_reducible rename Ext _ _ => XB); revert XB; (with_reducible rename Ext _ _ => XA); intro XB
        exact ⟨Fr.keep (by assumption), XB.os.trans (XA.os.trans S0.os), XB.drawn.trans (XA.drawn.trans S0.drawn), fun g => XB.gens (XA.gens (S0.gens g))⟩
      · (rename b = true => hb); (rename c = false => hc); rw [Hbc hb] at hc; cases hc
      · (with_reducible rename Ext _ _ => XB); revert XB; (with_reducible rename Ext _ _ => XA); intro XB
        exact ⟨Fr.keep (by assumption), XB.os.trans (XA.os.trans S0.os), XB.drawn.trans (XA.drawn.trans S0.drawn), fun g => XB.gens (XA.gens (S0.gens g))⟩
      · (rename b = false => hb); subst hb; rfl
      · (with_reducible rename Ext _ _ => XA)
        exact ⟨Fr.keep (by assumption), XA.os.trans S0.os, XA.drawn.trans S0.drawn, fun g => XA.gens (S0.gens g)⟩
end
section
open PySem PySem.W PySem.Calls PyProof.Rows PyProof.Rows.LCg
set_option Elab.async false
set_option maxRecDepth 100000
section
variable {w : World} {A : Around} {E : Value → Shared → Prop} {s : Shared}
theorem nextOf_tuple_item {it l : Addr} {i : Nat} {items} {x : Value} {Q : Value → Shared → Prop} (hit : s.heap.IsTupleIter it l i)
    (hl : s.heap.IsTuple l items) (hx : items[i]? = some x)
    (hQ : ∀ h', h'.IsTupleIter it l (i + 1) → Heap.SameBut it s.heap h' → Q x { s with heap := h' }) :
    wpAny (model PV w) A (Builtin.SmallTypes.nextOf (.ref it)) Q E s := by
  obtain ⟨o, ho, hc, hd⟩ := id hit
  obtain ⟨ol, hol, _, nl, hdl⟩ := hl
  unfold Builtin.SmallTypes.nextOf
  refine wpAny_bind (wpAny_callSpecial?_slot (name := PySem.Str.ofString "__next__") hit.typeIs F.slot_tuple_iterator_next
    (wpAny_call_entry F.slot_tuple_iterator_next hit.typeIs F.entry_tuple_iterator_next ?_ (F.args_tuple_iterator_next_1 _)))
  show wpAny _ _ (field (.ref it) 0 >>= _) _ _ s
  refine wpAny_bind (wpAny_field ho hd (x := .ref l) rfl ?_)
  show wpAny _ _ (if (Value.ref l == Value.none) = true then _ else _) _ _ s
  rw [if_neg (show ¬ ((Value.ref l == Value.none) = true) from Bool.false_ne_true)]
  show wpAny _ _ (field (.ref it) 1 >>= _) _ _ s
  refine wpAny_bind (wpAny_field ho hd (x := .int i 0) rfl ?_)
  show wpAny _ _ (seqItems? (.ref l) >>= _) _ _ s
  refine wpAny_bind (wpAny_seqItems hol hdl ?_)
  simp only [Int.toNat_natCast, hx]
  refine wpAny_bind (wpAny_setField ho hd (by simp) (wpAny_pure ⟨x, rfl, wpAny_pure (hQ _ ?_ (Heap.SameBut.update ..))⟩))
  exact ⟨_, Heap.get?_update_self _ ho (Obj.isFreed_of_fields (Obj.data_mapFields hd _)), (Obj.cls_mapFields ..).trans hc, by
    rw [Obj.data_mapFields hd]; simp [rawInt]⟩


theorem nextOf_tuple_end {it l : Addr} {i : Nat} {items} {Q : Value → Shared → Prop} (hh : A.handled = none)
    (hit : s.heap.IsTupleIter it l i) (hl : s.heap.IsTuple l items) (hx : items[i]? = none)
    (hE : ∀ h' e, Heap.ExtBut it s.heap h' → (∃ o, h'.get? e = some o ∧ o.cls = .type "StopIteration") → E (.ref e) { s with heap := h' }) :
    wpAny (model PV w) A (Builtin.SmallTypes.nextOf (.ref it)) Q E s := by
  obtain ⟨o, ho, hc, hd⟩ := id hit
  obtain ⟨ol, hol, _, nl, hdl⟩ := hl
  unfold Builtin.SmallTypes.nextOf
  refine wpAny_bind (wpAny_callSpecial?_slot (name := PySem.Str.ofString "__next__") hit.typeIs F.slot_tuple_iterator_next
    (wpAny_call_entry F.slot_tuple_iterator_next hit.typeIs F.entry_tuple_iterator_next ?_ (F.args_tuple_iterator_next_1 _)))
  show wpAny _ _ (field (.ref it) 0 >>= _) _ _ s
  refine wpAny_bind (wpAny_field ho hd (x := .ref l) rfl ?_)
  show wpAny _ _ (if (Value.ref l == Value.none) = true then _ else _) _ _ s
  rw [if_neg (show ¬ ((Value.ref l == Value.none) = true) from Bool.false_ne_true)]
  show wpAny _ _ (field (.ref it) 1 >>= _) _ _ s
  refine wpAny_bind (wpAny_field ho hd (x := .int i 0) rfl ?_)
  show wpAny _ _ (seqItems? (.ref l) >>= _) _ _ s
  refine wpAny_bind (wpAny_seqItems hol hdl ?_)
  simp only [Int.toNat_natCast, hx]
  refine wpAny_bind (wpAny_rule (wpAny_bind (wpAny_setField ho hd (by simp) ?_)))
  show wpAny _ _ (newExc (.type "StopIteration") [] >>= _) _ _ _
  refine wpAny_bind ?_
  simp only [newExc, newTuple]
  refine wpAny_bind (wpAny_newObj_type ?_ (by size_fits))
  refine wpAny_bind (m := firstArgMember _ _) (wpAny_of_eq (a := Value.none) (by first | rfl | (simp only [firstArgMember]; rfl)) ?_)
  refine wpAny_newObj_type ?_ (by size_fits)
  simp only [raiseNew]
  refine wpAny_bind (wpAny_handled ?_)
  first | rw [show A.in1.handled = none from hh] | rw [hh]
  refine wpAny_bind (wpAny_pure (wpAny_throw ?_))
  exact hE _ _ (((Heap.SameBut.update ..).extBut.push _).push _) ⟨_, Heap.get?_push_size _ rfl, rfl⟩


theorem ztl_next_item {z TI TO i1 i2 l1 l2 : Addr} {k1 k2 : Nat} {xs ys : Array Value} {x y a b : Value} {Q : Value → Shared → Prop} (D : ZipApart z TI TO i1 i2 l1 l2)
    (hz : IsZip s.heap z TI TO .none) (hTI : IsPair s.heap TI (.ref i1) (.ref i2)) (hTO : IsPair s.heap TO a b)
    (h1 : s.heap.IsTupleIter i1 l1 k1) (h2 : s.heap.IsListIter i2 l2 k2) (hl1 : s.heap.IsTuple l1 xs) (hl2 : s.heap.IsList l2 ys) (hx : xs[k1]? = some x) (hy : ys[k2]? = some y)
    (hQ : ∀ h', IsZip h' z TI TO (rawInt s.heap.objs.size) → IsPair h' TO x y → h'.IsTupleIter i1 l1 (k1 + 1) → h'.IsListIter i2 l2 (k2 + 1) → IsPair h' s.heap.objs.size x y → h'.objs.size = s.heap.objs.size + 1 →
      (∀ c o, c ≠ z → c ≠ TO → c ≠ i1 → c ≠ i2 → s.heap.get? c = some o → h'.get? c = some o) → Q (.ref s.heap.objs.size) { s with heap := h' }) :
    wpAny (model PV w) A (Builtin.«zip.__next__» ⟨[.ref z], []⟩) (fun fin s' => ∃ v, fin = .done (.ret v) ∧ Q v s') E s := by
  show wpAny _ _ (field (.ref z) 2 >>= _) _ _ _
  refine wpAny_bind (wpAny_field hz rfl (x := .bool false) rfl ?_)
  show wpAny _ _ (field (.ref z) 3 >>= _) _ _ _
  refine wpAny_bind (wpAny_field hz rfl (x := .ref TI) rfl ?_)
  refine wpAny_bind (wpAny_seqItems hTI rfl ?_)
  show wpAny _ _ (Builtin.SmallTypes.ownedTupleIsFree (.ref z) >>= _) _ _ _
  refine wpAny_bind ?_
  unfold Builtin.SmallTypes.ownedTupleIsFree
  refine wpAny_bind (wpAny_field hz rfl (x := .none) rfl (wpAny_pure ?_))
  simp only [if_true]
  refine wpAny_bind (wpAny_rule ?_)
  refine wpAny_bind (wpAny_field hz rfl (x := .ref TO) rfl ?_)
  refine wpAny_bind (wpAny_setField_rec hz (by simp) fun h₁ hz₁ hs₁ => ?_)
  replace hz₁ : IsZip h₁ z TI TO .ellipsis := hz₁
  refine wpAny_bind ?_
  simp only [List.zipIdx_cons, List.zipIdx_nil, List.forIn_cons, List.forIn_nil]

  refine wpAny_bind (wpAny_bind (wpAny_onRaise ?_))
  show wpAny _ _ (Builtin.SmallTypes.nextOf (.ref i1) >>= _) _ _ _
  refine wpAny_bind (nextOf_tuple_item (h1.extBut hs₁.extBut D.i1z) (hl1.extBut hs₁.extBut D.l1z) hx fun h₂ h1₂ hs₂ => wpAny_pure ?_)
  have hTO₂ : IsPair h₂ TO a b := hs₂.extBut _ _ D.TOi1 (hs₁.extBut _ _ D.TOz hTO)
  refine wpAny_bind (wpAny_seqItems hTO₂ rfl ?_)
  refine wpAny_bind (wpAny_updateSeq_pair hTO₂ fun h₃ hTO₃ hs₃ => ?_)
  replace hTO₃ : IsPair h₃ TO x b := hTO₃
  refine wpAny_bind (wpAny_letGo (wpAny_pure ?_))

  refine wpAny_bind (wpAny_bind (wpAny_onRaise ?_))
  show wpAny _ _ (Builtin.SmallTypes.nextOf (.ref i2) >>= _) _ _ _
  refine wpAny_bind (wpAny_nextOf_list_item (((h2.extBut hs₁.extBut D.i2z).extBut hs₂.extBut D.i12.symm).extBut hs₃.extBut D.TOi2.symm)
    (((hl2.extBut hs₁.extBut D.l2z).extBut hs₂.extBut D.l2i1).extBut hs₃.extBut D.l2TO) hy fun h₄ h2₄ hs₄ => wpAny_pure ?_)
  have hTO₄ : IsPair h₄ TO x b := hs₄.extBut _ _ D.TOi2 hTO₃
  refine wpAny_bind (wpAny_seqItems hTO₄ rfl ?_)
  refine wpAny_bind (wpAny_updateSeq_pair hTO₄ fun h₅ hTO₅ hs₅ => ?_)
  replace hTO₅ : IsPair h₅ TO x y := hTO₅
  refine wpAny_bind (wpAny_letGo (wpAny_pure (wpAny_pure ?_)))

  refine wpAny_bind (wpAny_seqItems hTO₅ rfl ?_)
  refine wpAny_bind (wpAny_newTuple ?_)
  have hsz : h₅.objs.size = s.heap.objs.size := by rw [hs₅.1, hs₄.1, hs₃.1, hs₂.1, hs₁.1]
  have hz₅ : IsZip h₅ z TI TO .ellipsis := hs₅.extBut _ _ D.TOz.symm (hs₄.extBut _ _ D.i2z.symm (hs₃.extBut _ _ D.TOz.symm (hs₂.extBut _ _ D.i1z.symm hz₁)))
  have hk₅ : ∀ c o, c ≠ z → c ≠ TO → c ≠ i1 → c ≠ i2 → s.heap.get? c = some o → h₅.get? c = some o := fun c o c1 c2 c3 c4 e =>
    hs₅.extBut _ _ c2 (hs₄.extBut _ _ c4 (hs₃.extBut _ _ c2 (hs₂.extBut _ _ c3 (hs₁.extBut _ _ c1 e))))
  have h1₅ : h₅.IsTupleIter i1 l1 (k1 + 1) := ((h1₂.extBut hs₃.extBut D.TOi1.symm).extBut hs₄.extBut D.i12).extBut hs₅.extBut D.TOi1.symm
  have h2₅ : h₅.IsListIter i2 l2 (k2 + 1) := h2₄.extBut hs₅.extBut D.TOi2.symm
  have hzlt : z < h₅.objs.size := Heap.lt_size hz₅
  have hTOlt : TO < h₅.objs.size := Heap.lt_size hTO₅
  have hi1lt : i1 < h₅.objs.size := by obtain ⟨_, e, _⟩ := h1₅; exact Heap.lt_size e
  have hi2lt : i2 < h₅.objs.size := by obtain ⟨_, e, _⟩ := h2₅; exact Heap.lt_size e
  show wpAny _ _ (Builtin.SmallTypes.ownedTupleHandOut (.ref z) (.ref h₅.objs.size) >>= _) _ _ _
  refine wpAny_bind ?_
  unfold Builtin.SmallTypes.ownedTupleHandOut
  have hz₆ : IsZip (h₅.push { cls := .type "tuple", data := .seq #[x, y] }) z TI TO .ellipsis := Heap.get?_push_of_some _ hz₅
  refine wpAny_bind (wpAny_setField_rec hz₆ (by simp) fun h₇ hz₇ hs₇ => ?_)
  replace hz₇ : IsZip h₇ z TI TO (rawInt h₅.objs.size) := hz₇
  refine wpAny_setField_rec hz₇ (by simp) fun h₈ hz₈ hs₈ => ?_
  replace hz₈ : IsZip h₈ z TI TO (rawInt h₅.objs.size) := hz₈
  have up : ∀ c o, c ≠ z → h₅.get? c = some o → h₈.get? c = some o := fun c o c1 e => hs₈.extBut _ _ c1 (hs₇.extBut _ _ c1 (Heap.get?_push_of_some _ e))
  have hT₈ : IsPair h₈ h₅.objs.size x y := hs₈.extBut _ _ (Nat.ne_of_gt hzlt) (hs₇.extBut _ _ (Nat.ne_of_gt hzlt) (Heap.get?_push_size _ rfl))
  have hz8 : h₈.objs.size = h₅.objs.size + 1 := by rw [hs₈.1, hs₇.1, Heap.size_push]
  rw [hsz] at hz₈ hT₈ hz8
  refine wpAny_pure ⟨_, rfl, ?_⟩
  show Q (.ref h₅.objs.size) _
  rw [hsz]
  exact hQ h₈ hz₈ (up _ _ D.TOz hTO₅) (h1₅.at fun o e => up _ o D.i1z e) (h2₅.at fun o e => up _ o D.i2z e) hT₈ hz8 fun c o c1 c2 c3 c4 e => up c o c1 (hk₅ c o c1 c2 c3 c4 e)

theorem ztl_next_end {z TI TO i1 i2 l1 l2 : Addr} {k1 k2 : Nat} {xs ys : Array Value} {a b : Value} {Q : PySem.Fin → Shared → Prop} (hh : A.handled = none) (D : ZipApart z TI TO i1 i2 l1 l2)
    (hz : IsZip s.heap z TI TO .none) (hTI : IsPair s.heap TI (.ref i1) (.ref i2)) (hTO : IsPair s.heap TO a b)
    (h1 : s.heap.IsTupleIter i1 l1 k1) (h2 : s.heap.IsListIter i2 l2 k2) (hl1 : s.heap.IsTuple l1 xs) (hl2 : s.heap.IsList l2 ys) (hend : xs[k1]? = none)
    (hE : ∀ h' e, (∀ c o, c ≠ z → c ≠ TO → c ≠ i1 → c ≠ i2 → s.heap.get? c = some o → h'.get? c = some o) → (∃ o, h'.get? e = some o ∧ o.cls = .type "StopIteration") → E (.ref e) { s with heap := h' }) :
    wpAny (model PV w) A (Builtin.«zip.__next__» ⟨[.ref z], []⟩) Q E s := by
  show wpAny _ _ (field (.ref z) 2 >>= _) _ _ _
  refine wpAny_bind (wpAny_field hz rfl (x := .bool false) rfl ?_)
  show wpAny _ _ (field (.ref z) 3 >>= _) _ _ _
  refine wpAny_bind (wpAny_field hz rfl (x := .ref TI) rfl ?_)
  refine wpAny_bind (wpAny_seqItems hTI rfl ?_)
  show wpAny _ _ (Builtin.SmallTypes.ownedTupleIsFree (.ref z) >>= _) _ _ _
  refine wpAny_bind ?_
  unfold Builtin.SmallTypes.ownedTupleIsFree
  refine wpAny_bind (wpAny_field hz rfl (x := .none) rfl (wpAny_pure ?_))
  simp only [if_true]
  refine wpAny_bind (wpAny_rule ?_)
  refine wpAny_bind (wpAny_field hz rfl (x := .ref TO) rfl ?_)
  refine wpAny_bind (wpAny_setField_rec hz (by simp) fun h₁ hz₁ hs₁ => ?_)
  replace hz₁ : IsZip h₁ z TI TO .ellipsis := hz₁
  refine wpAny_bind ?_
  simp only [List.zipIdx_cons, List.zipIdx_nil, List.forIn_cons, List.forIn_nil]
  refine wpAny_bind (wpAny_bind (wpAny_onRaise ?_))
  show wpAny _ _ (Builtin.SmallTypes.nextOf (.ref i1) >>= _) _ _ _
  refine wpAny_bind (nextOf_tuple_end hh (h1.extBut hs₁.extBut D.i1z) (hl1.extBut hs₁.extBut D.l1z) hend fun h₂ e hs₂ he => ?_)
  obtain ⟨oe, hoe, hce⟩ := he
  have hz₂ : IsZip h₂ z TI TO .ellipsis := hs₂ _ _ D.i1z.symm hz₁
  have hez : e ≠ z := fun x => by subst x; rw [hz₂] at hoe; cases hoe; simp at hce
  refine wpAny_setField_rec hz₂ (by simp) fun h₃ _ hs₃ => hE h₃ e (fun c o c1 _ c3 _ x => hs₃.extBut _ _ c1 (hs₂ _ _ c3 (hs₁.extBut _ _ c1 x))) ⟨oe, hs₃.extBut _ _ hez hoe, hce⟩

theorem pyNext_ztl_item {z TI TO i1 i2 l1 l2 : Addr} {k1 k2 : Nat} {xs ys : Array Value} {x y a b : Value} {Q : Option Value → Shared → Prop} (D : ZipApart z TI TO i1 i2 l1 l2)
    (hz : IsZip s.heap z TI TO .none) (hTI : IsPair s.heap TI (.ref i1) (.ref i2)) (hTO : IsPair s.heap TO a b)
    (h1 : s.heap.IsTupleIter i1 l1 k1) (h2 : s.heap.IsListIter i2 l2 k2) (hl1 : s.heap.IsTuple l1 xs) (hl2 : s.heap.IsList l2 ys) (hx : xs[k1]? = some x) (hy : ys[k2]? = some y)
    (hQ : ∀ h', IsZip h' z TI TO (rawInt s.heap.objs.size) → IsPair h' TO x y → h'.IsTupleIter i1 l1 (k1 + 1) → h'.IsListIter i2 l2 (k2 + 1) → IsPair h' s.heap.objs.size x y → h'.objs.size = s.heap.objs.size + 1 →
      (∀ c o, c ≠ z → c ≠ TO → c ≠ i1 → c ≠ i2 → s.heap.get? c = some o → h'.get? c = some o) → Q (some (.ref s.heap.objs.size)) { s with heap := h' }) :
    wpAny (model PV w) A (pyNext (.ref z)) Q E s := by
  have hT : s.TypeIs (.ref z) "zip" := ⟨_, hz, rfl⟩
  unfold pyNext
  exact wpAny_bind (wpAny_attempt (wpAny_callSpecial?_slot (name := PySem.Str.ofString "__next__") hT PySem.F.slot_zip_next
    (wpAny_call_entry PySem.F.slot_zip_next hT PySem.F.entry_zip_next
      (ztl_next_item D hz hTI hTO h1 h2 hl1 hl2 hx hy fun h' a1 a2 a3 a4 a5 a6 a7 => wpAny_pure (hQ h' a1 a2 a3 a4 a5 a6 a7)) (PySem.F.args_zip_next_1 _))))

theorem pyNext_ztl_end {z TI TO i1 i2 l1 l2 : Addr} {k1 k2 : Nat} {xs ys : Array Value} {a b : Value} {Q : Option Value → Shared → Prop} (hh : A.handled = none) (D : ZipApart z TI TO i1 i2 l1 l2)
    (hz : IsZip s.heap z TI TO .none) (hTI : IsPair s.heap TI (.ref i1) (.ref i2)) (hTO : IsPair s.heap TO a b)
    (h1 : s.heap.IsTupleIter i1 l1 k1) (h2 : s.heap.IsListIter i2 l2 k2) (hl1 : s.heap.IsTuple l1 xs) (hl2 : s.heap.IsList l2 ys) (hend : xs[k1]? = none)
    (hQ : ∀ h', (∀ c o, c ≠ z → c ≠ TO → c ≠ i1 → c ≠ i2 → s.heap.get? c = some o → h'.get? c = some o) → Q none { s with heap := h' }) : wpAny (model PV w) A (pyNext (.ref z)) Q E s := by
  have hT : s.TypeIs (.ref z) "zip" := ⟨_, hz, rfl⟩
  unfold pyNext
  refine wpAny_bind (wpAny_attempt (wpAny_callSpecial?_slot (name := PySem.Str.ofString "__next__") hT PySem.F.slot_zip_next
    (wpAny_call_entry PySem.F.slot_zip_next hT PySem.F.entry_zip_next (ztl_next_end hh D hz hTI hTO h1 h2 hl1 hl2 hend fun h' e hk he => ?_) (PySem.F.args_zip_next_1 _))))
  obtain ⟨o, ho, hc⟩ := he
  refine wpAny_bind (wpAny_isInstance (T := "StopIteration") (b := true) ⟨o, ho, hc⟩ isSubtype_stop ?_)
  exact wpAny_pure (hQ _ hk)

end
noncomputable abbrev ztlH1 (h : Heap) (l1 : Addr) : Heap := h.push { cls := .type "tuple_iterator", data := .fields #[.ref l1, .int 0 0] }
noncomputable abbrev ztlH2 (h : Heap) (l1 l2 : Addr) : Heap := (ztlH1 h l1).push { cls := .type "list_iterator", data := .fields #[.ref l2, .int 0 0] }
noncomputable abbrev ztlH3 (h : Heap) (l1 l2 : Addr) : Heap := (ztlH2 h l1 l2).push { cls := .type "tuple", data := .seq #[.ref h.objs.size, .ref (ztlH1 h l1).objs.size] }
noncomputable abbrev ztlH4 (h : Heap) (l1 l2 : Addr) : Heap := (ztlH3 h l1 l2).push { cls := .type "tuple", data := .seq #[.none, .none] }
noncomputable abbrev ztlH5 (h : Heap) (l1 l2 : Addr) : Heap := (ztlH4 h l1 l2).push { cls := .type "zip", data := .fields #[.none, .bool false, .bool false, .ref (ztlH2 h l1 l2).objs.size, .ref (ztlH3 h l1 l2).objs.size] }

theorem meets_ztl (l1 l2 : Addr) (xs ys : Array Value) :
    Meets (Builtin.«zip.__new__» ⟨[.type "zip", .ref l1, .ref l2], []⟩) (fun _ R s => s.heap.IsTuple l1 xs ∧ s.heap.IsList l2 ys ∧
      R (.ok (.ret (.ref (ztlH4 s.heap l1 l2).objs.size))) { s with heap := ztlH5 s.heap l1 l2 }) :=
  .of_wp fun prog w A R s h => by
    obtain ⟨hp, g, d, tk, os⟩ := s; obtain ⟨hl1, hl2, h⟩ := h
    have hsub := PySem.sub_zip
    have hL1 : Heap.IsTuple (Shared.heap ⟨hp, g, d, tk, os⟩) l1 xs := hl1
    have hL2 : Heap.IsList (Shared.heap ⟨hp.push { cls := .type "tuple_iterator", data := .fields #[.ref l1, .int 0 0] }, g, d, tk, os⟩) l2 ys := Heap.IsList.push hl2 _
    wp_walk using wpAny_pyIter_tuple hL1, wpAny_pyIter_list hL2
    exact ⟨_, rfl, h⟩

section
variable {w : World} {A : Around} {E : Value → Shared → Prop} {s : Shared}
theorem call_ztl {l1 l2 : Addr} {xs ys : Array Value} {Q : Value → Shared → Prop} (hl1 : s.heap.IsTuple l1 xs) (hl2 : s.heap.IsList l2 ys)
    (h : ∀ h', IsZip h' (s.heap.objs.size + 4) (s.heap.objs.size + 2) (s.heap.objs.size + 3) .none → IsPair h' (s.heap.objs.size + 2) (.ref s.heap.objs.size) (.ref (s.heap.objs.size + 1)) →
      IsPair h' (s.heap.objs.size + 3) .none .none → h'.IsTupleIter s.heap.objs.size l1 0 → h'.IsListIter (s.heap.objs.size + 1) l2 0 → h'.objs.size = s.heap.objs.size + 5 →
      (∀ c o, s.heap.get? c = some o → h'.get? c = some o) → Q (.ref (s.heap.objs.size + 4)) { s with heap := h' }) :
    wpAny (model PV w) A (call (.type "zip") [.ref l1, .ref l2]) Q E s := by
  refine callType_new PySem.F.called_zip (by decide) (PySem.F.typeCall_zip_2 _ _) (PySem.F.newCall_zip_2 _ _) (fun obj => PySem.F.args_object_init_3 obj _ _) PySem.F.entry_zip_new
    (meets_ztl l1 l2 xs ys) ⟨hl1, hl2, ?_⟩
  have z1 : (ztlH1 s.heap l1).objs.size = s.heap.objs.size + 1 := Heap.size_push ..
  have z2 : (ztlH2 s.heap l1 l2).objs.size = s.heap.objs.size + 2 := by rw [Heap.size_push, z1]
  have z3 : (ztlH3 s.heap l1 l2).objs.size = s.heap.objs.size + 3 := by rw [Heap.size_push, z2]
  have z4 : (ztlH4 s.heap l1 l2).objs.size = s.heap.objs.size + 4 := by rw [Heap.size_push, z3]
  have z5 : (ztlH5 s.heap l1 l2).objs.size = s.heap.objs.size + 5 := by rw [Heap.size_push, z4]
  have g5 : (ztlH5 s.heap l1 l2).get? (ztlH4 s.heap l1 l2).objs.size = some _ := Heap.get?_push_size _ rfl
  have g4 : (ztlH5 s.heap l1 l2).get? (ztlH3 s.heap l1 l2).objs.size = some _ := Heap.get?_push_of_some _ (Heap.get?_push_size _ rfl)
  have g3 : (ztlH5 s.heap l1 l2).get? (ztlH2 s.heap l1 l2).objs.size = some _ := Heap.get?_push_of_some _ (Heap.get?_push_of_some _ (Heap.get?_push_size _ rfl))
  have g2 : (ztlH5 s.heap l1 l2).get? (ztlH1 s.heap l1).objs.size = some _ := Heap.get?_push_of_some _ (Heap.get?_push_of_some _ (Heap.get?_push_of_some _ (Heap.get?_push_size _ rfl)))
  have g1 : (ztlH5 s.heap l1 l2).get? s.heap.objs.size = some _ := Heap.get?_push_of_some _ (Heap.get?_push_of_some _ (Heap.get?_push_of_some _ (Heap.get?_push_of_some _ (Heap.get?_push_size _ rfl))))
  show _ ∧ _
  rw [z2, z3, z4] at g5
  rw [z1, z2] at g3
  rw [z3] at g4
  rw [z1] at g2
  rw [z4]
  exact ⟨⟨_, g5, rfl⟩, h _ g5 g3 g4 ⟨_, g1, rfl, rfl⟩ ⟨_, g2, rfl, rfl⟩ z5 fun c o x =>
    Heap.get?_push_of_some _ (Heap.get?_push_of_some _ (Heap.get?_push_of_some _ (Heap.get?_push_of_some _ (Heap.get?_push_of_some _ x))))⟩

theorem ztl_walk (hh : A.handled = none) (z TI TO i1 i2 l1 l2 : Addr) (D : ZipApart z TI TO i1 i2 l1 l2) (xs ys : Array Value) (hle : xs.size ≤ ys.size) :
    WalksT PV w A z [z, TI, TO, i1, i2, l1, l2] [z, TO, i1, i2] (min xs.size ys.size)
      (fun i vals => ∃ x y, xs[i]? = some x ∧ ys[i]? = some y ∧ vals = #[x, y])
      (fun i h => IsZip h z TI TO .none ∧ IsPair h TI (.ref i1) (.ref i2) ∧ (∃ a b, IsPair h TO a b) ∧ h.IsTupleIter i1 l1 i ∧ h.IsListIter i2 l2 i ∧ h.IsTuple l1 xs ∧ h.IsList l2 ys)
      (fun i T h => IsZip h z TI TO (rawInt T) ∧ IsPair h TI (.ref i1) (.ref i2) ∧ (∃ a b, IsPair h TO a b) ∧ h.IsTupleIter i1 l1 (i + 1) ∧ h.IsListIter i2 l2 (i + 1) ∧ h.IsTuple l1 xs ∧ h.IsList l2 ys ∧
        T ≠ z ∧ T ≠ TO ∧ T ≠ i1 ∧ T ≠ i2) where
  sub := fun c hc => by simp at hc ⊢; rcases hc with rfl | rfl | rfl | rfl <;> simp
  frame := fun i h h' hst hk => by
    obtain ⟨hz, hTI, ⟨a, b, hTO⟩, h1, h2, hl1, hl2⟩ := hst
    exact ⟨hk z (by simp) _ hz, hk TI (by simp) _ hTI, ⟨a, b, hk TO (by simp) _ hTO⟩, h1.at fun o e => hk i1 (by simp) o e, h2.at fun o e => hk i2 (by simp) o e,
      hl1.at fun o e => hk l1 (by simp) o e, hl2.at fun o e => hk l2 (by simp) o e⟩
  item := fun i s Q E hi hst hQ => by
    obtain ⟨hz, hTI, ⟨a, b, hTO⟩, h1, h2, hl1, hl2⟩ := hst
    have hix : i < xs.size := Nat.lt_of_lt_of_le hi (Nat.min_le_left ..)
    have hiy : i < ys.size := Nat.lt_of_lt_of_le hi (Nat.min_le_right ..)
    refine pyNext_ztl_item D hz hTI hTO h1 h2 hl1 hl2 (Array.getElem?_eq_getElem hix) (Array.getElem?_eq_getElem hiy) fun h' a1 a2 a3 a4 a5 a6 hk => ?_
    have lt : ∀ {c o}, s.heap.get? c = some o → s.heap.objs.size ≠ c := fun e => Nat.ne_of_gt (Heap.lt_size e)
    exact hQ s.heap.objs.size #[xs[i], ys[i]] h' s.toks ⟨_, _, Array.getElem?_eq_getElem hix, Array.getElem?_eq_getElem hiy, rfl⟩ (Nat.le_refl _) ⟨_, a5, rfl, _, rfl⟩
      ⟨a1, hk _ _ D.TIz D.TITO D.TIi1 D.TIi2 hTI, ⟨_, _, a2⟩, a3, a4, hl1.at fun o e => hk _ o D.l1z D.l1TO D.l1i1 D.l1i2 e, hl2.at fun o e => hk _ o D.l2z D.l2TO D.l2i1 D.l2i2 e,
        lt hz, lt hTO, (by obtain ⟨_, e, _⟩ := h1; exact lt e), (by obtain ⟨_, e, _⟩ := h2; exact lt e)⟩
      fun c o hc e => hk c o (fun x => hc (by simp [x])) (fun x => hc (by simp [x])) (fun x => hc (by simp [x])) (fun x => hc (by simp [x])) e
  go := fun elts k pos i T s Q E hm hQ => by
    obtain ⟨hz, hTI, ⟨a, b, hTO⟩, h1, h2, hl1, hl2, _⟩ := hm
    refine wpAny_letOwnedTupleGo_zip hz fun h' hz' hs' => hQ h' ⟨hz', hs'.extBut _ _ D.TIz hTI, ⟨a, b, hs'.extBut _ _ D.TOz hTO⟩, h1.extBut hs'.extBut D.i1z, h2.extBut hs'.extBut D.i2z,
      hl1.extBut hs'.extBut D.l1z, hl2.extBut hs'.extBut D.l2z⟩ fun c o hc e => hs'.extBut _ _ (fun x => hc (by simp [x])) e
  apart := fun i T h hm hT => by
    obtain ⟨_, _, _, _, _, _, _, t1, t2, t3, t4⟩ := hm
    simp at hT
    rcases hT with rfl | rfl | rfl | rfl
    · exact t1 rfl
    · exact t2 rfl
    · exact t3 rfl
    · exact t4 rfl
  done := fun s Q E hst hQ => by
    obtain ⟨hz, hTI, ⟨a, b, hTO⟩, h1, h2, hl1, hl2⟩ := hst
    have hend : xs[min xs.size ys.size]? = none := by rw [Nat.min_eq_left hle]; exact Array.getElem?_eq_none (Nat.le_refl _)
    exact pyNext_ztl_end hh D hz hTI hTO h1 h2 hl1 hl2 hend fun h' hk => hQ h' s.toks fun c o hc e =>
      hk c o (fun x => hc (by simp [x])) (fun x => hc (by simp [x])) (fun x => hc (by simp [x])) (fun x => hc (by simp [x])) e
  self := fun i s Q E hst hQ => wpAny_pyIter_zip hst.1 hQ

end
end
section
open PySem PySem.W PySem.Calls PyProof.Rows PyProof.Rows.LCg
set_option Elab.async false
set_option maxRecDepth 100000
section
variable {w : World} {A : Around} {E : Value → Shared → Prop} {s s₂ : Shared} {h₀ : Heap} {L : Addr} {m : PySem.Str → Option Value} {env : Env} {news : List (Addr × Obj)} {elt iter : PySem.Expr} {ifs : List PySem.Expr} {scope : Scope} {cl : List (PySem.Str × Addr)} {pos : Pos}
noncomputable def Turn2 (w : World) (A : Around) (h₀ : Heap) (L : Addr) (m : PySem.Str → Option Value) (env : Env) (news : List (Addr × Obj)) (elt : PySem.Expr) (ifs : List PySem.Expr) (scope : Scope) (cl : List (PySem.Str × Addr)) (s₂ : Shared) (a b : PySem.Str) (xs ys : Array Value)
    (J : Nat → List Value → Prop) : Prop :=
  ∀ i x y C oC D zs own m₂ (s₁ : Shared), xs[i]? = some x → ys[i]? = some y → J i zs → NsObj oC m₂ → m₂ a = some x → m₂ b = some y → Fr h₀ L s₁.heap m → News h₀ L s₁.heap ((C, oC) :: (D, lst zs) :: (news ++ own)) → Sib s₂ s₁ →
    wpAny (model PV w) A (tests ifs (compEnvC scope cl C env)) (fun ok s₃ => match ok with
      | true => wpAny (model PV w) A (eval elt (compEnvC scope cl C env)) (fun y s₄ => CEnd h₀ L m ((C, oC) :: (D, lst zs) :: (news ++ own)) (J (i + 1) (zs ++ [y])) s₁ s₄) (fun _ _ => False) s₃
      | false => CEnd h₀ L m ((C, oC) :: (D, lst zs) :: (news ++ own)) (J (i + 1) zs) s₁ s₃) (fun _ _ => False) s₁
theorem comp_block2 {I : Addr} {fp wr : List Addr} {xs ys : Array Value} {n : Nat} {St : Nat → Heap → Prop} {Mid : Nat → Addr → Heap → Prop} {a b : PySem.Str} {pa pb tp : Pos} {kk : Nat} (J : Nat → List Value → Prop) {RR : Value → Addr → Result → Shared → Prop}
    (W : WalksT PV w A I fp wr n (fun i vals => ∃ x y, xs[i]? = some x ∧ ys[i]? = some y ∧ vals = #[x, y]) St Mid) (hh : A.handled = none) (hsz : n ≤ sizeLine)
    (hcell : ∀ y ∈ scope.names, y.2 ≠ .cell) (hkind : scope.kind = .function) (ha : scope.names.lookup a = some .local) (hb : scope.names.lookup b = some .local) (hab : a ≠ b) (hst : St 0 s₂.heap) (hfp : ∀ b ∈ fp, b < s₂.heap.objs.size)
    (F : Fr h₀ L s₂.heap m) (N : News h₀ L s₂.heap news) (hL : L ∉ fp) (hw₀ : ∀ b ∈ wr, h₀.get? b = none) (off : ∀ p ∈ news, p.1 ∉ wr)
    (hJ : J 0 []) (turn : Turn2 w A h₀ L m env news elt ifs scope cl s₂ a b xs ys J) (hRR : Fin h₀ L m news s₂ (J n) RR) :
    wpAny (model PV w) A (newList []) (fun acc s₃ => wpAny (model PV w) A (newFunctionEnv scope env.globals cl [] env.qual none .none (some env)) (fun cenv s₄ =>
      codeAny (model PV w) A (.compStart (.ListComp elt [⟨.Tuple [.Name a pa, .Name b pb] kk tp, iter, ifs, 0⟩] scope pos) 0 (.ref I) acc { cenv with scope := relabel scope env }) (RR acc cenv.locals) s₄) E s₃) E s₂ := by
  refine wpAny_newObj_type (wpAny_newFunctionEnv hcell (by intro y hy; simp at hy) (fun h₁ hns₁ hsb₁ => ?_) hkind)
  dsimp only at hns₁ hsb₁ ⊢
  generalize hH2 : s₂.heap.push { cls := .type "list", dict := none, data := .seq ([] : List Value).toArray } = H2 at hns₁ hsb₁ ⊢
  have hC : H2.objs.size = s₂.heap.objs.size + 1 := by rw [← hH2, Heap.size_push]
  have hDC : s₂.heap.objs.size ≠ H2.objs.size := by rw [hC]; exact Nat.ne_of_lt (Nat.lt_succ_self _)
  have below : ∀ b, b < s₂.heap.objs.size → b ≠ H2.objs.size ∧ b ≠ s₂.heap.objs.size := fun b hb => ⟨by rw [hC]; exact Nat.ne_of_lt (Nat.lt_succ_of_lt hb), Nat.ne_of_lt hb⟩
  have hDf : s₂.heap.objs.size ∉ fp := fun hm => Nat.lt_irrefl _ (hfp _ hm)
  have hCf : H2.objs.size ∉ fp := fun hm => by have := hfp _ hm; rw [hC] at this; exact Nat.lt_irrefl _ (Nat.lt_of_succ_lt this)
  have old : ∀ b o, s₂.heap.get? b = some o → h₁.get? b = some o := fun b o e => hsb₁.extBut b o (below b (Heap.lt_size e)).1 (Heap.get?_push_of_some _ (hH2 ▸ Heap.get?_push_of_some _ e))
  have hacc : h₁.get? s₂.heap.objs.size = some (lst []) := hsb₁.extBut _ _ hDC (Heap.get?_push_of_some _ (hH2 ▸ Heap.get?_push_size _ rfl))
  have hst₁ : St 0 h₁ := W.frame _ _ _ hst fun b _ o e => old b o e
  have fresh : ∀ a, s₂.heap.objs.size ≤ a → s₂.heap.get? a = none := fun a ha => by
    cases e : s₂.heap.get? a with
    | none => rfl
    | some o' => exact absurd (Heap.lt_size e) (Nat.not_lt.mpr ha)
  have fresh₀ : ∀ a, s₂.heap.objs.size ≤ a → h₀.get? a = none := fun a ha => by
    cases e : h₀.get? a with
    | none => rfl
    | some o' => have := F.keep a o' e; rw [fresh a ha] at this; cases this
  have hD₀ : h₀.get? s₂.heap.objs.size = none := fresh₀ _ (Nat.le_refl _)
  have hC₀ : h₀.get? H2.objs.size = none := fresh₀ _ (by rw [hC]; exact Nat.le_succ _)
  have hLlt : L < s₂.heap.objs.size := F.ns.lt
  have hDL : s₂.heap.objs.size ≠ L := Ne.symm (below L hLlt).2
  have hCL : H2.objs.size ≠ L := Ne.symm (below L hLlt).1
  have hLw : L ∉ wr := fun h => hL (W.sub _ h)
  have hCw : H2.objs.size ∉ wr := fun h => hCf (W.sub _ h)
  have hDw : s₂.heap.objs.size ∉ wr := fun h => hDf (W.sub _ h)
  have off3 : ∀ p ∈ news, p.1 ∉ wr ∧ p.1 ≠ H2.objs.size ∧ p.1 ≠ s₂.heap.objs.size := fun p hp => ⟨off p hp, (below _ (Heap.lt_size (N p hp).1)).1, (below _ (Heap.lt_size (N p hp).1)).2⟩
  have loop : ∀ s₃ : Shared, s₃ = { s₂ with heap := h₁, toks := s₂.toks + ([] : List (PySem.Str × Value)).length } →
      codeAny (model PV w) A (.compLoop (.ListComp elt [⟨.Tuple [.Name a pa, .Name b pb] kk tp, iter, ifs, 0⟩] scope pos) 0 (.ref I) (.ref s₂.heap.objs.size) (compEnvC scope cl H2.objs.size env))
        (RR (.ref s₂.heap.objs.size) H2.objs.size) s₃ := by
    rintro s₃ rfl
    refine comp_loop
      (fun k s' => ∃ i zs m', Sib s₂ s' ∧ i ≤ n ∧ k = n + 1 - i ∧ zs.length ≤ i ∧ St i s'.heap ∧ Fr h₀ L s'.heap m ∧ s'.heap.Ns H2.objs.size m' ∧ News h₀ L s'.heap ((s₂.heap.objs.size, lst zs) :: news) ∧ J i zs) ?_ (n + 1)
      ⟨0, [], _, ⟨rfl, rfl, id⟩, Nat.zero_le _, rfl, Nat.le_refl _, hst₁, F.keeps old, hns₁, fun p hp => ?_, hJ⟩
    · rintro k s' ⟨i, zs, m', S', hi, rfl, hyl, hst', F', hn', N', hJ'⟩
      by_cases hlt : i < n
      · refine W.item i _ _ _ hlt hst' fun T vals h₂ tk₂ hPv hTge hT hMid hk₂ => ?_
        obtain ⟨x, y, hx, hy, rfl⟩ := hPv
        have hTw : T ∉ wr := W.apart _ _ _ hMid
        refine W.go _ _ _ i T _ _ _ hMid fun h₂' hst₂ hk₂' => ?_
        have kk₂ : ∀ b o, b ∉ wr → s'.heap.get? b = some o → h₂'.get? b = some o := fun b o hb e => hk₂' b o hb (hk₂ b o hb e)
        have hT' : h₂'.IsTuple T #[x, y] := hT.at fun o e => hk₂' T o hTw e
        have hn₂ : h₂'.Ns H2.objs.size m' := hn'.at' fun o e => kk₂ _ o hCw e
        have F₂ : Fr h₀ L h₂' m := ⟨F'.ns.at' fun o e => kk₂ L o hLw e, fun b o e => kk₂ b o (fun hb => by rw [hw₀ b hb] at e; cases e) (F'.keep b o e), F'.above⟩
        have N₂ : News h₀ L h₂' ((s₂.heap.objs.size, lst zs) :: news) := fun p hp => ⟨kk₂ _ _ (by
          rcases List.mem_cons.mp hp with rfl | hp
          · exact hDw
          · exact (off3 p hp).1) (N' p hp).1, (N' p hp).2⟩
        refine kcp_assign (env := compEnvC scope cl H2.objs.size env) hh hT' (lookup_relabel_local ha) (lookup_relabel_local hb) (by simp [compEnvC, relabel, hkind]) hn₂ fun h₃ tk₃ hn₃ hs₃ => ?_
        dsimp only at hs₃
        replace hn₃ : h₃.Ns H2.objs.size (fun z => if z = b then some y else if z = a then some x else m' z) := hn₃
        replace hs₃ : ∀ c o, c ≠ H2.objs.size → h₂'.get? c = some o → h₃.get? c = some o := hs₃
        have hst₃ : St (i + 1) h₃ := W.frame _ _ _ hst₂ fun b hb o e => hs₃ b o (fun q => hCf (by have q' : b = H2.objs.size := q; rw [← q']; exact hb)) e
        obtain ⟨oC, heC, hoC⟩ := ns_obj hn₃
        have F₃ : Fr h₀ L h₃ m := ⟨F₂.ns.at' fun o e => hs₃ L o (Ne.symm hCL) e, fun b o e => hs₃ b o (fun q => by rw [q, hC₀] at e; cases e) (F₂.keep b o e), F₂.above⟩
        have N₃ : News h₀ L h₃ ((H2.objs.size, oC) :: (s₂.heap.objs.size, lst zs) :: news) := fun p hp => by
          rcases List.mem_cons.mp hp with rfl | hp
          · exact ⟨heC, hCL, hC₀⟩
          · have z := N₂ p hp
            refine ⟨hs₃ _ _ ?_ z.1, z.2⟩
            rcases List.mem_cons.mp hp with rfl | hp
            · exact hDC
            · exact (off3 p hp).2.1
        obtain ⟨own, No, keepO⟩ := all_own (L := L) F₃.keep
        have N₄ : News h₀ L h₃ ((H2.objs.size, oC) :: (s₂.heap.objs.size, lst zs) :: (news ++ own)) := fun p hp => by
          have hp' : p ∈ ((H2.objs.size, oC) :: (s₂.heap.objs.size, lst zs) :: news) ++ own := hp
          rcases List.mem_append.mp hp' with h | h
          · exact N₃ p h
          · exact No p h
        refine wpAny_mono (turn i x y H2.objs.size oC s₂.heap.objs.size zs own _ { s' with heap := h₃, toks := tk₃ } hx hy hJ' hoC (by simp [hab]) (by simp) F₃ N₄ ⟨S'.os, S'.drawn, S'.gens⟩) (fun ok s₄ h₄ => ?_) (fun _ _ x => x.elim)
        have rest : ∀ (s₅ : Shared) {G : Prop}, CEnd h₀ L m ((H2.objs.size, oC) :: (s₂.heap.objs.size, lst zs) :: (news ++ own)) G { s' with heap := h₃, toks := tk₃ } s₅ → Sib s₂ s₅ ∧ St (i + 1) s₅.heap ∧ s₅.heap.Ns H2.objs.size (fun z => if z = b then some y else if z = a then some x else m' z) ∧ s₅.heap.get? s₂.heap.objs.size = some (lst zs) ∧ News h₀ L s₅.heap news ∧ Fr h₀ L s₅.heap m ∧ G := by
          rintro s₅ G ⟨S₅, F₅, N₅, hG⟩
          have kO := keepO s₅.heap m _ F₅ N₅ (fun p hp => List.mem_cons_of_mem _ (List.mem_cons_of_mem _ (List.mem_append_right _ hp)))
          have zC := (N₅ (H2.objs.size, oC) List.mem_cons_self).1
          have zD := (N₅ (s₂.heap.objs.size, lst zs) (List.mem_cons_of_mem _ List.mem_cons_self)).1
          have N₅' : News h₀ L s₅.heap news := fun p hp => N₅ p (List.mem_cons_of_mem _ (List.mem_cons_of_mem _ (List.mem_append_left _ hp)))
          exact ⟨S'.trans ⟨S₅.os, S₅.drawn, S₅.gens⟩, W.frame _ _ _ hst₃ fun b hb o e => kO b o (fun q => hL (q ▸ hb)) e, hoC.ns zC, zD, N₅', F₅, hG⟩
        cases ok with
        | false =>
          obtain ⟨S₅, hst₅, hn₅, zD, N₅, F₅, hG⟩ := rest s₄ h₄
          refine ⟨n + 1 - (i + 1), Nat.sub_lt_sub_left (Nat.lt_succ_of_lt hlt) (Nat.lt_succ_self i), i + 1, zs, _, S₅, hlt, rfl, Nat.le_succ_of_le hyl, hst₅, F₅, hn₅, fun p hp => ?_, hG⟩
          rcases List.mem_cons.mp hp with rfl | hp
          · exact ⟨zD, hDL, hD₀⟩
          · exact N₅ p hp
        | true =>
          refine wpAny_mono h₄ (fun y s₅ h₅ => ?_) (fun _ _ x => x.elim)
          obtain ⟨S₅, hst₅, hn₅, zD, N₅, F₅, hG⟩ := rest s₅ h₅
          refine append_at (hsz := by show zs.toArray.size ≤ sizeLine; rw [List.size_toArray]; exact Nat.le_trans hyl (Nat.le_trans hi hsz)) zD fun h₆ hs₆ hD₆ => ?_
          refine ⟨n + 1 - (i + 1), Nat.sub_lt_sub_left (Nat.lt_succ_of_lt hlt) (Nat.lt_succ_self i), i + 1, zs ++ [y], _, ⟨S₅.os, S₅.drawn, S₅.gens⟩, hlt, rfl, by rw [List.length_append, List.length_singleton]; exact Nat.succ_le_succ hyl, W.frame _ _ _ hst₅ fun b hb o e => hs₆.extBut b o (fun q => hDf (q ▸ hb)) e, F₅.change hs₆ hDL hD₀,
            hn₅.sameBut hs₆ (Ne.symm hDC), fun p hp => ?_, hG⟩
          rcases List.mem_cons.mp hp with rfl | hp
          · exact ⟨hD₆.trans (congrArg some (lst_snoc zs y)), hDL, hD₀⟩
          · exact ⟨hs₆.extBut _ _ (off3 p hp).2.2 (N₅ p hp).1, (N₅ p hp).2⟩
      · obtain rfl : i = n := Nat.le_antisymm hi (Nat.not_lt.mp hlt)
        refine W.done _ _ _ hst' fun h₂ tk₂ hk₂ => ?_
        have F₂ : Fr h₀ L h₂ m := ⟨F'.ns.at' fun o e => hk₂ L o hLw e, fun b o e => hk₂ b o (fun hb => by rw [hw₀ b hb] at e; cases e) (F'.keep b o e), F'.above⟩
        exact hRR _ _ { s' with heap := h₂, toks := tk₂ } _ zs hJ' ⟨S'.os, S'.drawn, S'.gens⟩ F₂ (fun p hp => ⟨hk₂ _ _ (by
          rcases List.mem_cons.mp hp with rfl | hp
          · exact hDw
          · exact (off3 p hp).1) (N' p hp).1, (N' p hp).2⟩) (Off3.of (I := H2.objs.size) (C := H2.objs.size) fun p hp => ⟨(off3 p hp).2.1, (off3 p hp).2⟩).one (hn'.at' fun o e => hk₂ _ o hCw e) hC₀ hD₀ hCL hDL (Ne.symm hDC) (fun p hp => (off3 p hp).2.1)
    · rcases List.mem_cons.mp hp with rfl | hp
      · exact ⟨hacc, hDL, hD₀⟩
      · exact ⟨old _ _ (N p hp).1, (N p hp).2⟩
  exact codeAny_compStart_list (loop _ rfl) (W.self 0 _ _ _ hst₁ (loop _ rfl))

theorem comp_zip {use : Option (Value → Sem Unit)} {Q : Value → Shared → Prop} {t l : Addr} {ot ol : Obj} {xs ys : Array Value} {nt nl : Nat} {a b : PySem.Str} {pa pb tp : Pos} {kk : Nat} (J : Nat → List Value → Prop)
    (hh : A.handled = none) (F : Fr h₀ L s.heap m) (N : News h₀ L s.heap news) (ht : (t, ot) ∈ news) (htc : ot.cls = .type "tuple") (htd : ot.data = .seq xs nt) (hl : (l, ol) ∈ news) (hlc : ol.cls = .type "list") (hld : ol.data = .seq ys nl) (hle : xs.size ≤ ys.size) (hsz : xs.size ≤ sizeLine)
    (hcell : ∀ y ∈ scope.names, y.2 ≠ .cell) (hkind : scope.kind = .function) (ha : scope.names.lookup a = some .local) (hb : scope.names.lookup b = some .local) (hab : a ≠ b)
    (hJ : J 0 []) (turn : Turn2 w A h₀ L m env news elt ifs scope cl s a b xs ys J)
    (fin : Fin h₀ L m news s (J xs.size) (fun acc C => compPost (model PV w) A E use Q acc C)) :
    wpAny (model PV w) A (call (.type "zip") [.ref t, .ref l]) (fun xv s₁ => wpAny (model PV w) A (pyIter xv) (fun it s₂ => CompIn w A E env elt (.Tuple [.Name a pa, .Name b pb] kk tp) iter ifs scope cl pos use Q it s₂) E s₁) E s := by
  have hT : s.heap.IsTuple t xs := ⟨_, (N _ ht).1, htc, _, htd⟩
  have hL : s.heap.IsList l ys := ⟨_, (N _ hl).1, hlc, _, hld⟩
  have hlt1 : t < s.heap.objs.size := Heap.lt_size (N _ ht).1
  have hlt2 : l < s.heap.objs.size := Heap.lt_size (N _ hl).1
  have hLs : L < s.heap.objs.size := F.ns.lt
  have D : ZipApart (s.heap.objs.size + 4) (s.heap.objs.size + 2) (s.heap.objs.size + 3) s.heap.objs.size (s.heap.objs.size + 1) t l := ktu_apart _ _ _ hlt1 hlt2
  refine call_ztl hT hL fun h' hz hTI hTO hi1 hi2 hs' hk => ?_
  refine wpAny_pyIter_zip hz ?_
  have fresh₀ : ∀ a, s.heap.objs.size ≤ a → h₀.get? a = none := fun a ha => by
    cases e : h₀.get? a with
    | none => rfl
    | some o' => exact absurd (Heap.lt_size (F.keep a o' e)) (Nat.not_lt.mpr ha)
  have W := ztl_walk (w := w) hh (s.heap.objs.size + 4) (s.heap.objs.size + 2) (s.heap.objs.size + 3) s.heap.objs.size (s.heap.objs.size + 1) t l D xs ys hle
  rw [Nat.min_eq_left hle] at W
  refine comp_block2 (s₂ := { s with heap := h' }) J W hh hsz hcell hkind ha hb hab ⟨hz, hTI, ⟨_, _, hTO⟩, hi1, hi2, hT.at fun o e => hk _ _ e, hL.at fun o e => hk _ _ e⟩ (fun c hc => ?_) (F.keeps hk) (N.grown hk) (fun hc => ?_) (fun c hc => ?_) (fun p hp hc => ?_) hJ
    (fun i x y C oC D zs own m₂ s₁ hx hy hj ho hxa hyb F N S => turn i x y C oC D zs own m₂ s₁ hx hy hj ho hxa hyb F N ⟨S.os, S.drawn, S.gens⟩)
    (fun D C s' m' ys hj S F N o1 hn hC hD hCL hDL hCD oC => fin D C s' m' ys hj ⟨S.os, S.drawn, S.gens⟩ F N o1 hn hC hD hCL hDL hCD oC)
  · show c < h'.objs.size
    rw [hs']
    simp only [List.mem_cons, List.not_mem_nil, or_false] at hc
    rcases hc with rfl | rfl | rfl | rfl | rfl | rfl | rfl
    · exact Nat.lt_succ_self _
    · exact Nat.add_lt_add_left (by decide) _
    · exact Nat.add_lt_add_left (by decide) _
    · exact Nat.lt_add_of_pos_right (by decide)
    · exact Nat.add_lt_add_left (by decide) _
    · exact Nat.lt_of_lt_of_le hlt1 (Nat.le_add_right _ _)
    · exact Nat.lt_of_lt_of_le hlt2 (Nat.le_add_right _ _)
  · simp only [List.mem_cons, List.not_mem_nil, or_false] at hc
    have h1 := (N _ ht).2.1
    have h2 := (N _ hl).2.1
    rcases hc with e | e | e | e | e | e | e
    · exact absurd hLs (by rw [e]; exact Nat.not_lt.mpr (Nat.le_add_right _ _))
    · exact absurd hLs (by rw [e]; exact Nat.not_lt.mpr (Nat.le_add_right _ _))
    · exact absurd hLs (by rw [e]; exact Nat.not_lt.mpr (Nat.le_add_right _ _))
    · exact absurd hLs (by rw [e]; exact Nat.lt_irrefl _)
    · exact absurd hLs (by rw [e]; exact Nat.not_lt.mpr (Nat.le_add_right _ _))
    · exact h1 e.symm
    · exact h2 e.symm
  · simp only [List.mem_cons, List.not_mem_nil, or_false] at hc
    rcases hc with rfl | rfl | rfl | rfl
    · exact fresh₀ _ (Nat.le_add_right _ _)
    · exact fresh₀ _ (Nat.le_add_right _ _)
    · exact fresh₀ _ (Nat.le_refl _)
    · exact fresh₀ _ (Nat.le_add_right _ _)
  · simp only [List.mem_cons, List.not_mem_nil, or_false] at hc
    have hp' := Heap.lt_size (N p hp).1
    rcases hc with e | e | e | e
    · exact absurd hp' (by rw [e]; exact Nat.not_lt.mpr (Nat.le_add_right _ _))
    · exact absurd hp' (by rw [e]; exact Nat.not_lt.mpr (Nat.le_add_right _ _))
    · exact absurd hp' (by rw [e]; exact Nat.lt_irrefl _)
    · exact absurd hp' (by rw [e]; exact Nat.not_lt.mpr (Nat.le_add_right _ _))
end
end
section
open PySem PySem.W PySem.Calls PyProof.Rows PyProof.Rows.LCg
set_option Elab.async false
set_option maxRecDepth 100000
theorem reset_Q1 : True := by w_top off; trivial
noncomputable abbrev tup3 (a b c : UInt64) (ta tb tc : Tok) : Obj := { cls := .type "tuple", data := .seq #[.float a ta, .float b tb, .float c tc] }
theorem useT {w : World} {A A₀ : Around} {base h₀ : Heap} {outer : List Env} {s : Shared} {mg mb : PySem.Str → Option Value} {mean : ExcName → Option Value} {f : Addr} {args : List Value} {p0 p1 p2 : UInt64}
    {env : Env} {L : Addr} {m : PySem.Str → Option Value} {news : List (Addr × Obj)} {Q : Value → Shared → Prop} {E : Value → Shared → Prop}
    (B : Below A₀ base outer h₀) (F : Fr h₀ L s.heap m) (N : News h₀ L s.heap news) (X : (hd.heap_39 w.params).In h₀) (T : TopV mg mb mean h₀)
    (h1 : A.handled = none) (h2 : A.frames = some (env :: outer)) (h3 : A.guards = some []) (h4 : A.depth ≤ 480) (h5 : A.units ≤ 480) (hf : env.frame = some L) (hk : env.scope.kind = .function)
    (c : Below (Lv 480 (env :: outer)) base (env :: outer) s.heap → (hd.heap_39 w.params).In s.heap → TopV mg mb mean s.heap → Gives w 480 (env :: outer) f args s (fun v s' => Tup3 s.heap s'.heap v (p0, p1, p2)))
    (h : ∀ D ta tb tc s', Ext s s' → Fr h₀ L s'.heap m → News h₀ L s'.heap ((D, tup3 p0 p1 p2 ta tb tc) :: news) → Q (.ref D) s') : wpAny (model PV w) A (call (.ref f) args) Q E s := by
  refine useX 480 B F N X T h1 h2 h3 h4 h5 hf hk c fun v s' q e F' N' => ?_
  obtain ⟨D, ta, tb, tc, rfl, hg, hn⟩ := q
  exact h D ta tb tc s' e F' (news_new F N' hg hn)
theorem rgb_at {w : World} {base : Heap} {outer : List Env} {s : Shared} {mg mb : PySem.Str → Option Value} {mean : ExcName → Option Value}
    (B : Below (Lv 480 outer) base outer s.heap) (X : (hd.heap_39 w.params).In s.heap) (T : TopV mg mb mean s.heap) {x y z a b c : UInt64} {tx ty tz : Tok} (ok : rgbOk x y z = true) (e : rgbF x y z = (a, b, c)) :
    Gives w 480 outer 49 [.float x tx, .float y ty, .float z tz] s (fun v s' => Tup3 s.heap s'.heap v (a, b, c)) := e ▸ rgb_ok B X T x y z tx ty tz ok
theorem hsv_at {w : World} {base : Heap} {outer : List Env} {s : Shared} {mg mb : PySem.Str → Option Value} {mean : ExcName → Option Value}
    (B : Below (Lv 480 outer) base outer s.heap) (X : (hd.heap_39 w.params).In s.heap) (T : TopV mg mb mean s.heap) {x y z a b c : UInt64} {tx ty tz : Tok} (ok : hsvOk x y = true) (e : hsvF x y z = (a, b, c)) :
    Gives w 480 outer 56 [.float x tx, .float y ty, .float z tz] s (fun v s' => Tup3 s.heap s'.heap v (a, b, c)) := e ▸ hsv_ok B X T x y z tx ty tz ok
/-- -1 < x < 1, as the compare of a float with ints tells it -/
noncomputable def nearF (x : UInt64) : Bool := (Float64.cmpInt x (-1) == some Ordering.gt) && (Float64.cmpInt x 1 == some Ordering.lt)
noncomputable def backF (x : UInt64) (n : Nat) : UInt64 := Float64.mul (Float64.sub (Float64.mul (Float64.ofInt 4) x) (Float64.ofInt (n : Int))) (Float64.ofInt ((2 : Int) ^ Int.toNat 20))
noncomputable def hueF (x : UInt64) (k : Int) : UInt64 := Float64.mul (Float64.sub (Float64.mul (Float64.ofInt 6) x) (Float64.ofInt k)) (Float64.ofInt ((2 : Int) ^ Int.toNat 20))
noncomputable def q4 (n : Nat) : UInt64 := Float64.ofFrac (decide ((n : Int) < 0) != decide ((4 : Int) < 0)) (n : Int).natAbs (4 : Int).natAbs
theorem div4 {w : World} {A : Around} {E : Value → Shared → Prop} {s : Shared} {n : Nat} {t u : Tok} {Q : Value → Shared → Prop} (hA : A.handled = none) (hn : n ≤ 9) {x : UInt64} (hx : q4 n = x) (h : Q (.float x s.toks) { s with toks := s.toks + 1 }) :
    wpAny (model PV w) A (binaryOp .Div (.int (n : Nat) t) (.int 4 u)) Q E s :=
  PySem.Flt.div_ii_fits hA (Nat.lt_of_le_of_lt (by show (n : Int).natAbs ≤ 9; omega) (Nat.lt_of_lt_of_le (by decide : 9 < 2 ^ 4) (Nat.pow_le_pow_right (by decide) (Nat.le_of_ble_eq_true rfl)))) (fun h => absurd h (by decide)) fun _ _ => by subst hx; exact h
local macro_rules | `(tactic| walk_at "eval ListComp") => `(tactic| (k_here; k_dflt (refine comp_eval (by with_unfolding_all rfl) (by rfl) (by decide) ?_)))
local macro_rules | `(tactic| walk_at "exec Assign cons ListComp") => `(tactic| (k_here; k_dflt (refine comp_assign (by with_unfolding_all rfl) (by with_unfolding_all rfl) (by rfl) (by decide) ?_)))
local macro_rules | `(tactic| walk_at "pyIter ref") => `(tactic| (fail_if_success skip))
local macro_rules | `(tactic| walk_at "call type:zip") => `(tactic| (fail_if_success skip))
local macro_rules | `(tactic| walk_at "binaryOp Div int int") => `(tactic| (k_dflt (refine div4 rfl (by assumption) (by assumption) ?_)))
local macro_rules | `(tactic| walk_at "call ref") => `(tactic| (k_here; k_dflt (first
  | (refine' useT ?k1 ?k2 ?k3 ?k4 ?k5 ?k6 ?k7 ?k8 ?k9 ?kA ?kB ?kC (fun B X T => rgb_at B X T ?kD ?kE) ?_; walk_at "UseK"; (case kB | kC => exact rfl); (case kD | kE => assumption); k_whole; intro D1 t1 t2 t3 sS extS F' N')
  | (refine' useT ?k1 ?k2 ?k3 ?k4 ?k5 ?k6 ?k7 ?k8 ?k9 ?kA ?kB ?kC (fun B X T => hsv_at B X T ?kD ?kE) ?_; walk_at "UseK"; (case kB | kC => exact rfl); (case kD | kE => assumption); k_whole; intro D1 t1 t2 t3 sS extS F' N'))))
local macro_rules | `(tactic| walk_at "getMethod ref") => `(tactic| (refine old_count_m (by k_asm) (by assumption) ?_))
local macro_rules | `(tactic| walk_at "call builtin:list.count") => `(tactic| (refine old_count (by k_asm) (by assumption) (by assumption) ?_))
set_option maxHeartbeats 16000000
theorem hue_ok {w : World} {base : Heap} {outer : List Env} {s : Shared} {mg mb : PySem.Str → Option Value} {mean : ExcName → Option Value}
    (B : Below (Lv 330 outer) base outer s.heap) (X : (hd.heap_39 w.params).In s.heap) (T : TopV mg mb mean s.heap)
    (a : Addr) (vs : List Value) (f : List Int) (lamp one : Int) (hf : IntsAre vs f) {na : Nat} (ha : s.heap.get? a = some (W.listOf vs.toArray na)) (hlen : f.length ≤ 9) (tl to : Tok) (hl : 0 ≤ lamp ∧ lamp ≤ 2) (ho : 0 ≤ one ∧ one ≤ 2)
    (b : Bool) (n0 n1 n2 : Nat) (e0 : f.count 0 = n0) (e1 : f.count 1 = n1) (e2 : f.count 2 = n2) (h0 : n0 ≤ 9) (h1 : n1 ≤ 9) (h2 : n2 ≤ 9) (x0 x1 x2 p0 p1 p2 r0 r1 r2 : UInt64) (hx0 : q4 n0 = x0) (hx1 : q4 n1 = x1) (hx2 : q4 n2 = x2)
    (hP : rgbF x0 x1 x2 = (p0, p1, p2)) (hR : hsvF p0 p1 p2 = (r0, r1, r2)) (okP : rgbOk x0 x1 x2 = true) (okR : hsvOk p0 p1 = true)
    (k0 : nearF (backF r0 n0) = true) (k1 : nearF (backF r1 n1) = true) (k2 : nearF (backF r2 n2) = true) (HB : nearF (hueF p0 ((9 - 2 * lamp - 2 * one).fmod 6)) = b) :
    Gives w 330 outer 73 [.ref a, .int lamp tl, .int one to] s (fun v _ => v = .bool b) := by
  k_dflt (refine' enterC ?k1 ?k2 ?k3 ?k6 ?k7 ?k8 ?k9 ?kB ?kD ?_ ?c2 ?c3 ?c4; (case k1 => k_asm); (case k2 => k_asm); (case k3 => k_asm); (case k6 => k_is); (case k7 => k_is); (case k8 => k_room); (case k9 => exact BindsTo.of_eq rfl); (case kB => exact rfl); (case kD => decide +kernel); (case c2 => exact rfl); (case c3 => exact rfl); (case c4 => exact rfl); k_whole)
  clear B X T
  intro L' h' tk' cells' F' N' Y' B' X' T'
  k_cells Y'
  (try simp only [List.cons_append, List.nil_append] at N')
  (try dsimp only)
  change wpAny _ _ _ _ _ _
  k_fold
  k_steps
  (with_reducible rename Fr _ _ _ _ => F1); (with_reducible rename News _ _ _ _ => N1); (rename IsRange _ _ _ _ _ _ _ _ => R1)
  refine' comp_range (n := 3) (X := fun _ v m => m (PySem.Str.ofString "x") = some v) (J := fun i ys => IntsAre ys ((List.range i).map fun j : Nat => ((f.count (j : Int) : Nat) : Int))) ?e1 F1 N1 R1 ?e2 ?e3 ?e4 ?e5 ?e6 (fun I => asg_name ?e7 ?e8) ?e9 ?turn (fin_local ?g1 ?g2 ?g3 ?fin)
  case e1 => rfl
  case e2 => rfl
  case e3 => rfl
  case e4 => rw [PySem.sizeLine_eq]; decide
  case e5 => decide
  case e6 => rfl
  case e7 => rfl
  case e8 => rfl
  case e9 => exact .nil
  case g1 => rfl
  case g2 => rfl
  case g3 => rfl
  case turn =>
    intro i v I oI C oC D ys m₂ s₁ hi hP hJ hC hX F N off ne S
    obtain ⟨t, rfl⟩ := hP
    rw [Int.zero_add] at hX
    refine wpAny_tests_nil ?_
    dsimp only
    k_steps
    exact ⟨⟨rfl, rfl, fun g => g⟩, by k_asm, by k_asm, by
      rw [List.range_succ, List.map_append]
      exact IntsAre.append hJ (.cons _ _ .nil)⟩
  case fin =>
    intro D ys s' hJ S0 F N o1
    obtain ⟨c0, c1, c2, rfl⟩ : ∃ t0 t1 t2, ys = [.int (n0 : Nat) t0, .int (n1 : Nat) t1, .int (n2 : Nat) t2] := by
      have e : (List.range 3).map (fun j : Nat => ((f.count (j : Int) : Nat) : Int)) = [((f.count 0 : Nat) : Int), ((f.count 1 : Nat) : Int), ((f.count 2 : Nat) : Int)] := rfl
      rw [e, e0, e1, e2] at hJ
      cases hJ with | cons _ t0 h => cases h with | cons _ t1 h => cases h with | cons _ t2 h => cases h; exact ⟨_, _, _, rfl⟩
    have N'' : News s.heap L' s'.heap ((D, W.listOf #[.int (n0 : Nat) c0, .int (n1 : Nat) c1, .int (n2 : Nat) c2] 3) :: _) := N
    clear hJ
    clear N
    (try dsimp only)
    k_steps
    (with_reducible rename Fr _ _ _ _ => F2); (with_reducible rename News _ _ _ _ => N2)
    refine' comp_zip (J := fun i zs => zs = ([Value.int (n0 : Nat) c0, .int (n1 : Nat) c1, .int (n2 : Nat) c2].take i)) ?f1 F2 N2 (.head _) ?f2 ?f3 (.tail _ (.tail _ (.head _))) ?f4 ?f5 ?f6 ?f7 ?f8 ?f9 ?fa ?fb ?fc ?fd ?turn (fin_none ?fin)
    case f1 => rfl
    case f2 => rfl
    case f3 => rfl
    case f4 => rfl
    case f5 => rfl
    case f6 => exact Nat.le_of_ble_eq_true rfl
    case f7 => rw [PySem.sizeLine_eq]; exact Nat.le_of_ble_eq_true rfl
    case f8 => decide
    case f9 => rfl
    case fa => rfl
    case fb => rfl
    case fc => decide
    case fd => rfl
    case turn =>
      intro i x y C oC D zs own m₂ s₁ hx hy hJ hC hX hY F N S
      obtain ⟨xv, tx, nv, tn, rfl, rfl, hnv, hbk⟩ : ∃ (xv : UInt64) (tx : Tok) (nv : Nat) (tn : Tok), x = .float xv tx ∧ y = .int (nv : Nat) tn ∧ nv ≤ 9 ∧ nearF (backF xv nv) = true := by
        rcases i with _ | _ | _ | j
        · cases hx; cases hy; exact ⟨_, _, _, _, rfl, rfl, h0, k0⟩
        · cases hx; cases hy; exact ⟨_, _, _, _, rfl, rfl, h1, k1⟩
        · cases hx; cases hy; exact ⟨_, _, _, _, rfl, rfl, h2, k2⟩
        · cases hx
      obtain ⟨ka, kb⟩ := Bool.and_eq_true_iff.mp hbk
      unfold backF at ka kb
      have hJ' : zs ++ [.int (nv : Nat) tn] = [Value.int (n0 : Nat) c0, .int (n1 : Nat) c1, .int (n2 : Nat) c2].take (i + 1) := by
        rw [List.take_add_one, hJ]
        have : [Value.int (n0 : Nat) c0, .int (n1 : Nat) c1, .int (n2 : Nat) c2][i]? = some (.int (nv : Nat) tn) := by simpa using hy
        rw [this]; rfl
      refine wpAny_tests_one ?_
      k_steps
      rw [kb]
      dsimp only
      k_steps
      exact CEnd.mk' ⟨rfl, rfl, fun g => g⟩ (by k_asm) (by k_asm) hJ'
    case fin =>
      intro D ys s' hJ S1 F N o1
      rw [hJ] at N
      have N3 : News s.heap L' s'.heap ((D, W.listOf #[.int (n0 : Nat) c0, .int (n1 : Nat) c1, .int (n2 : Nat) c2] 3) :: _) := N
      clear N
      (try dsimp only)
      k_steps
      · rename 2 ^ 1024 - 2 ^ 970 ≤ _ => hbig
        have z1 := Int.fmod_nonneg_of_pos (9 - 2 * lamp - 2 * one) (b := 6) (by decide)
        have z2 := Int.fmod_lt_of_pos (9 - 2 * lamp - 2 * one) (b := 6) (by decide)
        exact no_big hbig (by omega)
      · rename (_ == _) = true => hq
        rw [← HB]
        simp only [nearF, hueF, hq, Bool.true_and]
      · (with_reducible rename Ext _ _ => XB); revert XB; (with_reducible rename Ext _ _ => XA); intro XB
        exact ⟨Fr.keep (by assumption), S1.os.trans (XB.os.trans (XA.os.trans S0.os)), S1.drawn.trans (XB.drawn.trans (XA.drawn.trans S0.drawn)), fun g => S1.gens (XB.gens (XA.gens (S0.gens g)))⟩
      · rename (_ == _) = false => hq
        rw [← HB]
        simp only [nearF, hueF, hq, Bool.false_and]
      · (with_reducible rename Ext _ _ => XB); revert XB; (with_reducible rename Ext _ _ => XA); intro XB
        exact ⟨Fr.keep (by assumption), S1.os.trans (XB.os.trans (XA.os.trans S0.os)), S1.drawn.trans (XB.drawn.trans (XA.drawn.trans S0.drawn)), fun g => S1.gens (XB.gens (XA.gens (S0.gens g)))⟩
end
section
open PySem PySem.W PySem.Calls PyProof.Rows PyProof.Rows.LCg
set_option Elab.async false
set_option maxRecDepth 100000
theorem reset_T1 : True := by w_top off; trivial
noncomputable def hueB (f : List Int) (lamp one : Int) : Option Bool :=
  let n0 := f.count 0; let n1 := f.count 1; let n2 := f.count 2
  let P := rgbF (q4 n0) (q4 n1) (q4 n2)
  let R := hsvF P.1 P.2.1 P.2.2
  if n0 ≤ 9 ∧ n1 ≤ 9 ∧ n2 ≤ 9 ∧ rgbOk (q4 n0) (q4 n1) (q4 n2) = true ∧ hsvOk P.1 P.2.1 = true ∧ nearF (backF R.1 n0) = true ∧ nearF (backF R.2.1 n1) = true ∧ nearF (backF R.2.2 n2) = true
  then some (nearF (hueF P.1 ((9 - 2 * lamp - 2 * one).fmod 6))) else none
noncomputable abbrev lenOk (x : PySem.Str) : Prop := x.length ≤ 1000 ∧ (stripP x).length ≤ 1000
noncomputable def brkB (f : List Int) (lamp one : Int) : Option Bool :=
  let T := textB lamp one f
  let P := PySem.Txt.slice T (some 1) none ++ PySem.Str.ofString "("
  let R := PySem.Str.ofString ")" ++ T
  if lenOk T ∧ lenOk P ∧ lenOk R ∧ 2 ≤ T.length ∧ T.length ≤ 30 then
    if (ppvP T == PySem.Str.ofString "('', '')") = true then some false else
      if ((ppvP P == PySem.Str.ofString "('', '')") && ((ppvP T == T) && ((ppvP R == PySem.Str.ofString "('', '')") && (ppvP T == T)))) = true then some true else none
  else none
noncomputable def wantT (f : List Int) (lamp one : Int) : PySem.Str := PySem.Txt.item (PySem.Str.ofString "rgb") lamp ++ PySem.Txt.mul (PySem.Str.ofString "..." ++ PySem.Txt.item (PySem.Str.ofString "rgb") one) (f.count lamp : Nat)
noncomputable def dotB (f : List Int) (lamp one : Int) : Option Bool :=
  if f.count lamp ≤ 3 ∧ 2 ≤ (textT f).length ∧ (textT f).length ≤ 9 then
    match ellB (wantT f lamp one) (textT f) with
    | some false => some false
    | some true => if ((asks (wantT f lamp one) (textT f)).all fun q => decide (ellB q.1 q.2.1 = some q.2.2)) = true then some true else none
    | none => none
  else none
noncomputable def tieR (r : Nat) (f : List Int) (lamp one : Int) : Option Bool := match r with | 0 => hueB f lamp one | 1 => brkB f lamp one | _ => dotB f lamp one
section
variable {w : World} {base : Heap} {outer : List Env} {s : Shared} {mg mb : PySem.Str → Option Value} {mean : ExcName → Option Value}
theorem hue_B (B : Below (Lv 330 outer) base outer s.heap) (X : (hd.heap_39 w.params).In s.heap) (T : TopV mg mb mean s.heap) {a : Addr} {vs : List Value} {f : List Int} {lamp one : Int} (hf : IntsAre vs f) {na : Nat} (ha : s.heap.get? a = some (W.listOf vs.toArray na)) (hlen : f.length ≤ 9)
    {tl to : Tok} (hl : 0 ≤ lamp ∧ lamp ≤ 2) (ho : 0 ≤ one ∧ one ≤ 2) {b : Bool} (H : hueB f lamp one = some b) : Gives w 330 outer 73 [.ref a, .int lamp tl, .int one to] s (fun v _ => v = .bool b) := by
  unfold hueB at H
  dsimp only at H
  split at H
  · rename_i h
    obtain ⟨c0, c1, c2, okP, okR, k0, k1, k2⟩ := h
    exact hue_ok B X T a vs f lamp one hf ha hlen tl to hl ho b _ _ _ rfl rfl rfl c0 c1 c2 _ _ _ _ _ _ _ _ _ rfl rfl rfl rfl rfl okP okR k0 k1 k2 (Option.some.inj H)
  · cases H
theorem brk_B (B : Below (Lv 330 outer) base outer s.heap) (X : (hd.heap_39 w.params).In s.heap) (T : TopV mg mb mean s.heap) {a : Addr} {vs : List Value} {f : List Int} {lamp one : Int} (hf : IntsAre vs f) {na : Nat} (ha : s.heap.get? a = some (W.listOf vs.toArray na)) (hlen : f.length ≤ 9)
    {tl to : Tok} (hl : 0 ≤ lamp ∧ lamp ≤ 2) (ho : 0 ≤ one ∧ one ≤ 2) {b : Bool} (H : brkB f lamp one = some b) : Gives w 330 outer 78 [.ref a, .int lamp tl, .int one to] s (fun v _ => v = .bool b) := by
  unfold brkB at H
  dsimp only at H
  split at H
  · rename_i h
    obtain ⟨h0, h1, h2, h3, h4⟩ := h
    split at H
    · rename_i hq
      cases H
      exact brk_ok B X T a vs f lamp one hf ha hlen tl to hl ho false _ hq rfl (fun e => nomatch e) h0 h1 h2 h3 h4
    · rename_i hq
      split at H
      · rename_i hc
        cases H
        exact brk_ok B X T a vs f lamp one hf ha hlen tl to hl ho true true (by simpa using hq) hc (fun _ => rfl) h0 h1 h2 h3 h4
      · cases H
  · cases H
theorem dot_B (B : Below (Lv 330 outer) base outer s.heap) (X : (hd.heap_39 w.params).In s.heap) (T : TopV mg mb mean s.heap) {a : Addr} {vs : List Value} {f : List Int} {lamp one : Int} (hf : IntsAre vs f) {na : Nat} (ha : s.heap.get? a = some (W.listOf vs.toArray na)) (hlen : f.length ≤ 9)
    (hmem : ∀ x ∈ f, 0 ≤ x ∧ x ≤ 2) {tl to : Tok} (hl : 0 ≤ lamp ∧ lamp ≤ 2) (ho : 0 ≤ one ∧ one ≤ 2) {b : Bool} (H : dotB f lamp one = some b) : Gives w 330 outer 83 [.ref a, .int lamp tl, .int one to] s (fun v _ => v = .bool b) := by
  unfold dotB at H
  split at H
  · rename_i h
    obtain ⟨h0, h1, h2⟩ := h
    split at H
    · rename_i hq
      cases H
      exact dots_ok B X T a vs f lamp one hf ha h0 hlen hmem tl to hl ho false hq (fun e => nomatch e) h1 h2
    · rename_i hq
      split at H
      · rename_i hc
        cases H
        exact dots_ok B X T a vs f lamp one hf ha h0 hlen hmem tl to hl ho true hq (fun _ => hc) h1 h2
      · cases H
    · cases H
  · cases H
end
local macro_rules | `(tactic| walk_at "call ref") => `(tactic| (k_here; k_dflt (first
  | (refine' useX 330 ?k1 ?k2 ?k3 ?k4 ?k5 ?k6 ?k7 ?k8 ?k9 ?kA ?kB ?kC (fun B X T => hue_B B X T ?q1 (Fr.keep ?q2 _ _ ?q3) ?q4 ?q5 ?q6 ?kD) ?_; walk_at "UseK"; (case kB | kC => exact rfl); (case q1 => assumption); (case q2 => k_asm); (case q3 | q4 | q5 | q6 | kD => assumption); k_whole; intro vS sS pS extS F' N'; subst pS)
  | (refine' useX 330 ?k1 ?k2 ?k3 ?k4 ?k5 ?k6 ?k7 ?k8 ?k9 ?kA ?kB ?kC (fun B X T => brk_B B X T ?q1 (Fr.keep ?q2 _ _ ?q3) ?q4 ?q5 ?q6 ?kD) ?_; walk_at "UseK"; (case kB | kC => exact rfl); (case q1 => assumption); (case q2 => k_asm); (case q3 | q4 | q5 | q6 | kD => assumption); k_whole; intro vS sS pS extS F' N'; subst pS)
  | (refine' useX 330 ?k1 ?k2 ?k3 ?k4 ?k5 ?k6 ?k7 ?k8 ?k9 ?kA ?kB ?kC (fun B X T => dot_B B X T ?q1 (Fr.keep ?q2 _ _ ?q3) ?q4 ?q7 ?q5 ?q6 ?kD) ?_; walk_at "UseK"; (case kB | kC => exact rfl); (case q1 => assumption); (case q2 => k_asm); (case q3 | q4 | q7 | q5 | q6 | kD => assumption); k_whole; intro vS sS pS extS F' N'; subst pS))))
set_option maxHeartbeats 16000000
theorem tie_ok {w : World} {base : Heap} {outer : List Env} {s : Shared} {mg mb : PySem.Str → Option Value} {mean : ExcName → Option Value}
    (B : Below (Lv 320 outer) base outer s.heap) (X : (hd.heap_39 w.params).In s.heap) (T : TopV mg mb mean s.heap)
    {a : Addr} {vs : List Value} {f : List Int} {lamp one : Int} (hf : IntsAre vs f) {na : Nat} (ha : s.heap.get? a = some (W.listOf vs.toArray na)) (hlen : f.length ≤ 9) (hmem : ∀ x ∈ f, 0 ≤ x ∧ x ≤ 2) {tl to tr : Tok} (hl : 0 ≤ lamp ∧ lamp ≤ 2) (ho : 0 ≤ one ∧ one ≤ 2)
    {b : Bool} (r : Nat) (hr : r < 3) (H : tieR r f lamp one = some b) :
    Gives w 320 outer 90 [.ref a, .int lamp tl, .int one to, .int (r : Nat) tr] s (fun v _ => v = .bool b) := by
  rcases r with _ | _ | _ | r
  · replace H : hueB f lamp one = some b := H
    k_dflt (refine' enterP (fun n => List.lookup n [(Str.ofString "reader", Value.int 0 tr), (Str.ofString "one", Value.int one to), (Str.ofString "lamp", Value.int lamp tl), (Str.ofString "front", Value.ref a)]) ?k1 ?k2 ?k3 ?k6 ?k7 ?k8 ?k9 ?kB ?kM ?_ ?c5 ?c2 ?c3 ?c4; (case k1 => k_asm); (case k2 => k_asm); (case k3 => k_asm); (case k6 => k_is); (case k7 => k_is); (case k8 => k_room); (case k9 => exact BindsTo.of_eq rfl); (case kB => exact locs rfl); (case kM => exact rfl); (case c5 => decide); (case c2 => exact rfl); (case c3 => exact rfl); (case c4 => exact rfl); k_whole)
    clear B X T
    intro L' h' tk' F' N' B' X' T'
    (try dsimp only)
    k_fold
    k_steps
    (with_reducible rename Ext _ _ => XA)
    exact ⟨Fr.keep (by assumption), XA.os, XA.drawn, XA.gens⟩
  · replace H : brkB f lamp one = some b := H
    k_dflt (refine' enterP (fun n => List.lookup n [(Str.ofString "reader", Value.int 1 tr), (Str.ofString "one", Value.int one to), (Str.ofString "lamp", Value.int lamp tl), (Str.ofString "front", Value.ref a)]) ?k1 ?k2 ?k3 ?k6 ?k7 ?k8 ?k9 ?kB ?kM ?_ ?c5 ?c2 ?c3 ?c4; (case k1 => k_asm); (case k2 => k_asm); (case k3 => k_asm); (case k6 => k_is); (case k7 => k_is); (case k8 => k_room); (case k9 => exact BindsTo.of_eq rfl); (case kB => exact locs rfl); (case kM => exact rfl); (case c5 => decide); (case c2 => exact rfl); (case c3 => exact rfl); (case c4 => exact rfl); k_whole)
    clear B X T
    intro L' h' tk' F' N' B' X' T'
    (try dsimp only)
    k_fold
    k_steps
    (with_reducible rename Ext _ _ => XA)
    exact ⟨Fr.keep (by assumption), XA.os, XA.drawn, XA.gens⟩
  · replace H : dotB f lamp one = some b := H
    k_dflt (refine' enterP (fun n => List.lookup n [(Str.ofString "reader", Value.int 2 tr), (Str.ofString "one", Value.int one to), (Str.ofString "lamp", Value.int lamp tl), (Str.ofString "front", Value.ref a)]) ?k1 ?k2 ?k3 ?k6 ?k7 ?k8 ?k9 ?kB ?kM ?_ ?c5 ?c2 ?c3 ?c4; (case k1 => k_asm); (case k2 => k_asm); (case k3 => k_asm); (case k6 => k_is); (case k7 => k_is); (case k8 => k_room); (case k9 => exact BindsTo.of_eq rfl); (case kB => exact locs rfl); (case kM => exact rfl); (case c5 => decide); (case c2 => exact rfl); (case c3 => exact rfl); (case c4 => exact rfl); k_whole)
    clear B X T
    intro L' h' tk' F' N' B' X' T'
    (try dsimp only)
    k_fold
    k_steps
    (with_reducible rename Ext _ _ => XA)
    exact ⟨Fr.keep (by assumption), XA.os, XA.drawn, XA.gens⟩
  · exact absurd hr (Nat.not_lt.mpr (Nat.le_add_left 3 r))
end
section
open PySem PySem.W PySem.Calls PyProof.Rows PyProof.Rows.LCg
set_option Elab.async false
set_option maxRecDepth 100000
theorem getD_of {f : List Int} {i : Nat} (h : i < f.length) : f[i]? = some (f.getD i 0) := by simp [List.getD, h]
theorem pick_mem {f : List Int} {lo hi st : Option Int} {x : Int} (h : x ∈ pickNums f lo hi st) : x ∈ f := by
  unfold pickNums at h
  obtain ⟨i, _, e⟩ := List.mem_filterMap.mp h
  exact List.mem_of_getElem? e
theorem pick_len {f : List Int} {lo hi st : Option Int} {vs : List Value} (hf : IntsAre vs f) (h : f.length ≤ 9) : (pickNums f lo hi st).length ≤ 9 := Nat.le_trans (length_pickNums_le hf lo hi st) h
section
variable {w : World} {A : Around} {E : Value → Shared → Prop} {s : Shared} {h₀ : Heap} {L a b : Addr} {m : PySem.Str → Option Value} {news : List (Addr × Obj)} {vs ws : List Value} {f g : List Int} {n k : Nat}
theorem old_item {value slice : PySem.Expr} {i : Int} {u : Tok} {Q : Value → Shared → Prop} (F : Fr h₀ L s.heap m) (ha : h₀.get? a = some (W.listOf vs.toArray n)) (hf : IntsAre vs f) (h0 : 0 ≤ i) (h1 : i < f.length) (h9 : f.length ≤ 9)
    (h : ∀ t, Q (.int (f.getD i.toNat 0) t) s)
    (hs : subscripted slice false (.ref a) (.int i u) = operate [.ref a, .int i u] (getItem (.ref a) (.int i u)) := by with_unfolding_all rfl) (hg : ∀ r, letTemporaryGo value (.ref a) r = pure () := by intro _; with_unfolding_all rfl) :
    wpAny (model PV w) A (subscriptTail value slice (.ref a) (.int i u)) Q E s := by
  have hi : i.toNat < f.length := by omega
  have hlt : i.toNat < vs.length := by rw [hf.length]; exact hi
  obtain ⟨kk, t, e1, e2⟩ := IntsAre.at hf i.toNat vs[i.toNat] (by simp [hlt])
  rw [getD_of hi] at e2
  refine item_listL (x := .int kk t) ⟨_, F.keep _ _ ha, rfl, _, rfl⟩ h0 (by omega) (by rw [← e1]; simp [hlt]) ?_ hs hg
  rw [← Option.some.inj e2]; exact h t
theorem old_len {Q : Value → Shared → Prop} (F : Fr h₀ L s.heap m) (ha : h₀.get? a = some (W.listOf vs.toArray n)) (hf : IntsAre vs f) (h9 : f.length ≤ 9) (h : Q (.int (f.length : Nat) (s.toks + 1)) { s with toks := s.toks + 1 + 1 }) : wpAny (model PV w) A (call (.builtin "len") [.ref a]) Q E s := by
  have e := hf.length
  refine len_list (items := vs.toArray) ⟨_, F.keep _ _ ha, rfl, _, rfl⟩ (by simp; omega) ?_
  have e' : ((vs.toArray.size : Nat) : Int) = (f.length : Nat) := by simp [e]
  rw [e']; exact h
theorem old_slice {value slice : PySem.Expr} {vl vu : Value} {lo hi : Option Int} {Q : Value → Shared → Prop}
    (F : Fr h₀ L s.heap m) (N : News h₀ L s.heap news) (ha : h₀.get? a = some (W.listOf vs.toArray n)) (hf : IntsAre vs f) (h9 : f.length ≤ 9) (pl : IsPart vl lo) (pu : IsPart vu hi)
    (h : ∀ D h' ws, IntsAre ws (pickNums f lo hi none) → Fr h₀ L h' m → News h₀ L h' ((D, W.listOf ws.toArray 0) :: news) → Q (.ref D) { s with heap := h' })
    (hs : subscripted slice false (.ref a) (.ref s.heap.objs.size) = operate [.ref s.heap.objs.size, .ref a] (getItem (.ref a) (.ref s.heap.objs.size)) := by with_unfolding_all rfl)
    (ht : ∀ r, letTemporaryGo value (.ref a) r = pure () := by intro _; with_unfolding_all rfl) :
    wpAny (model PV w) A (subscriptTail value slice (.ref a) (.ref s.heap.objs.size)) Q E { s with heap := s.heap.push { cls := .type "slice", data := .fields #[vl, vu, .none] } } := by
  have e := hf.length
  refine slice_list (items := vs.toArray) F N ⟨_, F.keep _ _ ha, rfl, _, rfl⟩ pl pu (fun h' F' N' => ?_) hs ht (by rw [PySem.sizeLine_eq]; simp; omega)
  exact h _ h' (slicePick vs.toArray lo hi none).toList (hf.pick lo hi none) F' (by simpa using N')
theorem add_ints {Q : Value → Shared → Prop} (F : Fr h₀ L s.heap m) (N : News h₀ L s.heap news) (h1 : (a, W.listOf vs.toArray n) ∈ news) (h2 : (b, W.listOf ws.toArray k) ∈ news) (hf : IntsAre vs f) (hg : IntsAre ws g) (hl : f.length + g.length ≤ 100)
    (h : ∀ D h' us, IntsAre us (f ++ g) → Fr h₀ L h' m → News h₀ L h' ((D, W.listOf us.toArray 0) :: news) → Q (.ref D) { s with heap := h' }) : wpAny (model PV w) A (binaryOp .Add (.ref a) (.ref b)) Q E s :=
  add_lists_ints F N ⟨_, (N _ h1).1, rfl, _, rfl⟩ ⟨_, (N _ h2).1, rfl, _, rfl⟩ hf hg (fun h' F' N' hi => h _ h' _ hi F' N') (by rw [PySem.sizeLine_eq]; omega)
end
end
section
open PySem PySem.W PySem.Calls PyProof.Rows PyProof.Rows.LCg
set_option Elab.async false
set_option maxRecDepth 100000
theorem reset_S1 : True := by w_top off; trivial
/-- what a step makes of the row, from the k-th m (m = 2 + k) on -/
noncomputable def stepGo (r : Nat) (f : List Int) (lamp : Int) : Nat → Nat → Option (List Int)
  | 0, _ => some []
  | j + 1, k => if f.getD (2 + (k : Int) - 1).toNat 0 = lamp then stepGo r f lamp j (k + 1) else match tieR r (pickNums f none (some (2 + (k : Int))) none) lamp (f.getD (2 + (k : Int) - 1).toNat 0) with
    | some true => some (pickNums f (some 1) (some (2 + (k : Int) - 1)) none ++ [lamp] ++ pickNums f (some (2 + (k : Int))) none none ++ [f.getD (2 + (k : Int) - 1).toNat 0])
    | some false => stepGo r f lamp j (k + 1)
    | none => none
noncomputable def stepO (r : Nat) (f : List Int) : Option (List Int) := stepGo r f (f.getD (0 : Int).toNat 0) (f.length - 1) 0
noncomputable def sMp (a : Addr) (r : Nat) (tr : Tok) (lamp : Int) (tl : Tok) (vm vo vt : Option Value) : PySem.Str → Option Value := fun n =>
  if n = (PySem.Str.ofString "tie") then vt else if n = (PySem.Str.ofString "one") then vo else if n = (PySem.Str.ofString "m") then vm else if n = (PySem.Str.ofString "lamp") then some (.int lamp tl) else
  List.lookup n [(PySem.Str.ofString "reader", Value.int (r : Nat) tr), (PySem.Str.ofString "row", Value.ref a)]
theorem sMp_start (a : Addr) (r : Nat) (tr : Tok) (lamp : Int) (tl : Tok) : (fun n => if n = (PySem.Str.ofString "lamp") then some (Value.int lamp tl) else List.lookup n [(PySem.Str.ofString "reader", Value.int (r : Nat) tr), (PySem.Str.ofString "row", Value.ref a)]) = sMp a r tr lamp tl none none none := by
  funext n
  simp only [sMp]
  by_cases q1 : n = (PySem.Str.ofString "tie")
  · subst q1; rfl
  by_cases q2 : n = (PySem.Str.ofString "one")
  · subst q2; rfl
  by_cases q3 : n = (PySem.Str.ofString "m")
  · subst q3; rfl
  simp only [if_neg q1, if_neg q2, if_neg q3]
theorem sMp_one (a : Addr) (r : Nat) (tr : Tok) (lamp : Int) (tl : Tok) (vm vo vt vm' vo' : Option Value) : (fun n => if n = (PySem.Str.ofString "one") then vo' else if n = (PySem.Str.ofString "m") then vm' else sMp a r tr lamp tl vm vo vt n) = sMp a r tr lamp tl vm' vo' vt := by
  funext n
  simp only [sMp]
  by_cases q1 : n = (PySem.Str.ofString "tie")
  · subst q1; rfl
  by_cases q2 : n = (PySem.Str.ofString "one")
  · subst q2; rfl
  by_cases q3 : n = (PySem.Str.ofString "m")
  · subst q3; rfl
  simp only [if_neg q1, if_neg q2, if_neg q3]
theorem sMp_tie (a : Addr) (r : Nat) (tr : Tok) (lamp : Int) (tl : Tok) (vm vo vt vm' vo' vt' : Option Value) : (fun n => if n = (PySem.Str.ofString "tie") then vt' else if n = (PySem.Str.ofString "one") then vo' else if n = (PySem.Str.ofString "m") then vm' else sMp a r tr lamp tl vm vo vt n) = sMp a r tr lamp tl vm' vo' vt' := by
  funext n
  simp only [sMp]
  by_cases q1 : n = (PySem.Str.ofString "tie")
  · subst q1; rfl
  by_cases q2 : n = (PySem.Str.ofString "one")
  · subst q2; rfl
  by_cases q3 : n = (PySem.Str.ofString "m")
  · subst q3; rfl
  simp only [if_neg q1, if_neg q2, if_neg q3]
structure StJ (r : Nat) (f : List Int) (g : List Int) (a : Addr) (tr : Tok) (lamp : Int) (n : Nat) (k : Nat) (m : PySem.Str → Option Value) (news : List (Addr × Obj)) : Prop where
  at_ : ∃ tl vm vo vt, m = sMp a r tr lamp tl vm vo vt ∧ news = [] ∧ stepGo r f lamp (n - k) k = some g
noncomputable def NewInts (g : List Int) (s : Shared) (v : Value) (s' : Shared) : Prop := ∃ D vs n, v = .ref D ∧ s'.heap.get? D = some (W.listOf (vs : List Value).toArray n) ∧ IntsAre vs g ∧ s.heap.get? D = none
theorem two_to : ∀ n : Nat, n < 10 → 2 ≤ n → Builtin.Range.small 2 ((n : Int) + 1) 1 = true ∧ Builtin.Range.rangeSize 2 ((n : Int) + 1) 1 = ((n - 1 : Nat) : Int) := by decide
theorem for_range {w : World} {A : Around} {hB : Heap} {env : Env} {Lc : Addr} (hEL : env.locals = Lc) {x : PySem.Str} {px : Pos} {body : List Stmt} {R : Result → Shared → Prop} {s : Shared} {r : Addr} {a b : Int} {t u v : Tok} {n : Nat}
    (hh : A.handled = none) (hr : IsRange s.heap r a b 1 t u v) (hsm : Builtin.Range.small a b 1 = true) (hn : Builtin.Range.rangeSize a b 1 = ((n : Nat) : Int))
    (J : Nat → (PySem.Str → Option Value) → List (Addr × Obj) → Prop) {m : PySem.Str → Option Value} {news : List (Addr × Obj)} (F : Fr hB Lc s.heap m) (N : News hB Lc s.heap news) (hJ : J 0 m news)
    (hk1 : env.kindOf x = some .local) (hp : (env.scope.kind == .class || (env.scope.kind == .module && env.locals != env.globals)) = false)
    (turn : ∀ k v m₁ news₁ own (s₁ : Shared), k < n → (∃ t, v = .int (a + (k : Int)) t) → news₁.map (·.1) = news.map (·.1) → J k m₁ news₁ → Fr hB Lc s₁.heap (fun y => if y = x then some v else m₁ y) →
      News hB Lc s₁.heap (news₁ ++ own) → (∀ p ∈ own, ∀ b ∈ news.map (·.1), p.1 ≠ b) → Sib s s₁ →
      wpAny (model PV w) A (execs body env) (fun f s₂ => match f with
        | .ret v => R (.ok (.ret v)) s₂
        | .brk => R (.ok .next) s₂
        | _ => TEnd hB Lc (J (k + 1)) own (news.map (·.1)) s₁ s₂) (fun _ _ => False) s₁)
    (done : ∀ m₁ news₁ s₁, news₁.map (·.1) = news.map (·.1) → J n m₁ news₁ → Fr hB Lc s₁.heap m₁ → News hB Lc s₁.heap news₁ → Sib s s₁ → R (.ok .next) s₁) :
    wpAny (model PV w) A (pyIter (.ref r)) (fun it s₂ => codeAny (model PV w) A (.forLoop (.Name x px) it body [] env) R s₂) (fun _ _ => False) s := by
  refine wpAny_pyIter_range hr hsm ?_
  refine for_walk hEL (range_walks hh a n) J ?_ ?_ ?_ (by show IsRangeIter _ _ _ _ _; rw [hn]; simpa using Heap.get?_push_size _ rfl) (F.push _) (fun p hp => ⟨Heap.get?_push_of_some _ (N p hp).1, (N p hp).2⟩) hJ hk1 hp
    (fun k v m₁ news₁ own s₁ hk hP ha hJ F N ho S => turn k v m₁ news₁ own s₁ hk hP ha hJ F N ho ⟨S.os, S.drawn, S.gens⟩) (fun m₁ news₁ s₁ ha hJ F N S => done m₁ news₁ s₁ ha hJ F N ⟨S.os, S.drawn, S.gens⟩)
  · intro hm
    exact Nat.lt_irrefl _ ((List.mem_singleton.mp hm) ▸ F.ns.lt)
  · intro b hb
    rw [List.mem_singleton.mp hb]
    exact Heap.get?_none_of_le (Nat.le_trans F.above (Nat.le_of_lt F.ns.lt))
  · intro p hp hm
    exact Nat.lt_irrefl _ ((List.mem_singleton.mp hm) ▸ Heap.lt_size (N p hp).1)
local macro_rules | `(tactic| walk_at "exec For") => `(tactic| (walk_at "UseFor"))
local macro_rules | `(tactic| walk_at "exec For Name Call cons nil") => `(tactic| (walk_at "UseFor"))
local macro_rules | `(tactic| walk_at "pyIter ref") => `(tactic| (fail_if_success skip))
local macro_rules | `(tactic| walk_at "binaryOp Add ref ref") => `(tactic| (k_dflt (refine' add_ints ?k1 ?k2 ?k3 ?k4 ?k5 ?k6 ?k7 ?_; (case k1 | k2 => k_asm); (case k3 | k4 => k_mem); (case k5 | k6 => first | assumption | exact .cons _ _ .nil); (case k7 => simp only [List.length_append, List.length_cons, List.length_nil]; omega); k_whole; intro D1 h1 us1 i1 F' N')))
local macro_rules | `(tactic| walk_at "call builtin:len") => `(tactic| (refine old_len (by k_asm) (by assumption) (by assumption) (by assumption) ?_))
local macro_rules | `(tactic| walk_at "subscriptTail") => `(tactic| (walk_at "UseSub"; refine old_item (by k_asm) (by assumption) (by assumption) (by omega) (by omega) (by assumption) ?_; intro tI))
local macro_rules | `(tactic| walk_at "subscriptTail Name Slice ref ref") => `(tactic| ((with_reducible rename Fr _ _ _ _ => F'); (with_reducible rename News _ _ _ _ => N'); (refine old_slice (s := ⟨_, _, _, _, _⟩) F' N' (by assumption) (by assumption) (by assumption) (by constructor) (by constructor) ?_); intro D1 h1 ws1 i1 F' N'))
local macro_rules | `(tactic| walk_at "call ref") => `(tactic| first | (k_here; k_dflt (refine' useX 320 ?k1 ?k2 ?k3 ?k4 ?k5 ?k6 ?k7 ?k8 ?k9 ?kA ?kB ?kC (fun B X T => tie_ok B X T ?q1 (News.get ?q2 ?q3) ?q4 ?q5 ?q6 ?q7 _ ?q8 ?kD) ?_; walk_at "UseK"; (case kB | kC => exact rfl); (case q1 => assumption); (case q2 => k_asm); (case q3 => k_mem); (case q4 | q5 | q6 | q7 | q8 | kD => assumption); k_whole; intro vS sS pS extS F' N'; subst pS)) | contradiction)
set_option maxHeartbeats 16000000
theorem step_ok {w : World} {base : Heap} {outer : List Env} {s : Shared} {mg mb : PySem.Str → Option Value} {mean : ExcName → Option Value}
    (B : Below (Lv 310 outer) base outer s.heap) (X : (hd.heap_39 w.params).In s.heap) (T : TopV mg mb mean s.heap)
    {a : Addr} {vs : List Value} {f : List Int} (hf : IntsAre vs f) {na : Nat} (ha : s.heap.get? a = some (W.listOf vs.toArray na)) (hlen : f.length ≤ 9) (hlen2 : 2 ≤ f.length) (hmem : ∀ x ∈ f, 0 ≤ x ∧ x ≤ 2) {tr : Tok}
    (r : Nat) (hr : r < 3) {g : List Int} (H : stepO r f = some g) :
    Gives w 310 outer 97 [.ref a, .int (r : Nat) tr] s (fun v s' => NewInts g s v s') := by
  k_dflt (refine' enterP (fun n => List.lookup n [(Str.ofString "reader", Value.int (r : Nat) tr), (Str.ofString "row", Value.ref a)]) ?k1 ?k2 ?k3 ?k6 ?k7 ?k8 ?k9 ?kB ?kM ?_ ?c5 ?c2 ?c3 ?c4; (case k1 => k_asm); (case k2 => k_asm); (case k3 => k_asm); (case k6 => k_is); (case k7 => k_is); (case k8 => k_room); (case k9 => exact BindsTo.of_eq rfl); (case kB => exact locs rfl); (case kM => exact rfl); (case c5 => decide); (case c2 => exact rfl); (case c3 => exact rfl); (case c4 => exact rfl); k_whole)
  clear B X T
  intro L' h' tk' F' N' B' X' T'
  (try dsimp only)
  k_fold
  have hz : 0 < (f.length : Int) := by omega
  k_steps
  (with_reducible rename Fr _ _ _ _ => F1); (with_reducible rename News _ _ _ _ => N1); (rename IsRange _ _ _ _ _ _ _ _ => R1)
  refine' for_range (n := f.length - 1) (hB := s.heap) (Lc := L') (J := StJ r f g a tr (f.getD (0 : Int).toNat 0) (f.length - 1)) ?e1 ?e2 R1 ?e3 ?e4 F1 N1 ?e5 ?e6 ?e7 ?turn ?done
  case e1 => rfl
  case e2 => rfl
  case e6 => rfl
  case e7 => rfl
  case e3 => exact (two_to _ (Nat.lt_succ_of_le hlen) hlen2).1
  case e4 => exact (two_to _ (Nat.lt_succ_of_le hlen) hlen2).2
  case e5 => exact ⟨_, none, none, none, sMp_start .., rfl, H⟩
  case turn =>
    intro k v m₁ news₁ own s₁ hk hv ha' hJ F N hoff S
    obtain ⟨t, rfl⟩ := hv
    obtain ⟨tl, vm, vo, vt, rfl, rfl, he⟩ := hJ.at_
    rw [List.nil_append] at N
    have hfu : f.length - 1 - k = (f.length - 1 - (k + 1)) + 1 := (Nat.sub_add_cancel (Nat.sub_pos_of_lt hk)).symm
    rw [hfu, stepGo] at he
    have hl : 0 ≤ f.getD (0 : Int).toNat 0 ∧ f.getD (0 : Int).toNat 0 ≤ 2 := hmem _ (List.mem_of_getElem? (getD_of (by show 0 < f.length; omega)))
    have ho : 0 ≤ f.getD (2 + (k : Int) - 1).toNat 0 ∧ f.getD (2 + (k : Int) - 1).toNat 0 ≤ 2 := hmem _ (List.mem_of_getElem? (getD_of (by omega)))
    have hp0 : (pickNums f none (some (2 + (k : Int))) none).length ≤ 9 := pick_len hf hlen
    have hp1 : (pickNums f (some 1) (some (2 + (k : Int) - 1)) none).length ≤ 9 := pick_len hf hlen
    have hp2 : (pickNums f (some (2 + (k : Int))) none none).length ≤ 9 := pick_len hf hlen
    have hm0 : ∀ x ∈ pickNums f none (some (2 + (k : Int))) none, 0 ≤ x ∧ x ≤ 2 := fun x hx => hmem x (pick_mem hx)
    have hkf : (k : Int) + 2 ≤ f.length := by omega
    clear hJ hfu H
    by_cases hq : f.getD (2 + (k : Int) - 1).toNat 0 = f.getD (0 : Int).toNat 0
    · rw [if_pos hq] at he
      k_steps
      (with_reducible rename Fr _ _ _ _ => F2); (with_reducible rename News _ _ _ _ => N2)
      dsimp only
      exact TEnd.of0 ⟨rfl, rfl, fun g => g⟩ F2 N2 ha' ⟨_, _, _, _, sMp_one .., rfl, he⟩
    · rw [if_neg hq] at he
      cases hT : tieR r (pickNums f none (some (2 + (k : Int))) none) (f.getD (0 : Int).toNat 0) (f.getD (2 + (k : Int) - 1).toNat 0) with
      | none => rw [hT] at he; cases he
      | some b =>
        rw [hT] at he
        cases b with
        | false =>
          dsimp only at he
          k_steps
          · (with_reducible rename Fr _ _ _ _ => F2); (with_reducible rename News _ _ _ _ => N2); (with_reducible rename Ext _ _ => XA)
            dsimp only
            exact TEnd.of0 ⟨XA.os, XA.drawn, XA.gens⟩ F2 (fun p hp => N2 p (.tail _ hp)) ha' ⟨_, _, _, _, sMp_tie .., rfl, he⟩
          · exact absurd (by assumption) hq
        | true =>
          dsimp only at he
          have he := Option.some.inj he
          subst he
          k_steps
          · (with_reducible rename News _ _ _ _ => N2)
            exact ⟨_, _, _, rfl, (N2 _ (.head _)).1, by assumption, (N2 _ (.head _)).2.2⟩
          · (with_reducible rename Ext _ _ => XA)
            exact ⟨Fr.keep (by assumption), XA.os.trans S.os, XA.drawn.trans S.drawn, fun g => XA.gens (S.gens g)⟩
          · exact absurd (by assumption) hq
  case done =>
    intro m₁ news₁ s₁ ha' hJ F N S
    obtain ⟨tl, vm, vo, vt, rfl, rfl, he⟩ := hJ.at_
    rw [Nat.sub_self, stepGo] at he
    clear hJ H
    dsimp only
    k_steps
    · (with_reducible rename News _ _ _ _ => N2)
      cases he
      exact ⟨_, [], _, rfl, (N2 _ (.head _)).1, .nil, (N2 _ (.head _)).2.2⟩
    · exact ⟨Fr.keep (by assumption), S.os, S.drawn, S.gens⟩
end
section
open PySem PySem.W PySem.Calls PyProof.Rows
set_option Elab.async false
set_option maxRecDepth 100000
theorem pickNums_plain (f : List Int) (lo hi : Option Int) : pickNums f lo hi none = (f.drop (lo.elim 0 (clipAt f.length))).take (hi.elim f.length (clipAt f.length) - lo.elim 0 (clipAt f.length)) := by
  unfold pickNums
  rw [sliceBounds_plain]
  simp only [sliceRange_one]
  have := pick_run f.toArray (lo.elim 0 (clipAt f.length)) (hi.elim f.length (clipAt f.length) - lo.elim 0 (clipAt f.length))
  simpa using this
theorem pick_upto (f : List Int) (b : Nat) : pickNums f none (some (b : Int)) none = f.take b := by
  rw [pickNums_plain]
  simp only [Option.elim, clipAt_nat, List.drop_zero, Nat.sub_zero]
  rcases Nat.le_total b f.length with h | h
  · rw [Nat.min_eq_left h]
  · rw [Nat.min_eq_right h, List.take_of_length_le (Nat.le_refl _), List.take_of_length_le h]
theorem pick_from (f : List Int) (a : Nat) : pickNums f (some (a : Int)) none none = f.drop a := by
  rw [pickNums_plain]
  simp only [Option.elim, clipAt_nat]
  rcases Nat.le_total a f.length with h | h
  · rw [Nat.min_eq_left h, List.take_of_length_le (by simp)]
  · rw [Nat.min_eq_right h, List.drop_of_length_le (Nat.le_refl _), List.drop_of_length_le h]; simp
theorem pick_run' (f : List Int) (a b : Nat) (h : a ≤ b) (hb : b ≤ f.length) : pickNums f (some (a : Int)) (some (b : Int)) none = (f.drop a).take (b - a) := by
  rw [pickNums_plain]
  simp only [Option.elim, clipAt_nat]
  rw [Nat.min_eq_left (Nat.le_trans h hb), Nat.min_eq_left hb]
end
section
open PySem PySem.W PySem.Calls PyProof.Rows
set_option Elab.async false
set_option maxRecDepth 100000
/-- the colours that may follow -/
noncomputable def freeF (size : Nat) (lamp : Int) (row : List Int) : List Int :=
  (if 3 * (row.count lamp : Int) < (size : Int) then [lamp] else []) ++ [(lamp + 1).fmod 3, (lamp + 2).fmod 3].filter (fun one => decide ((row.count one : Int) < (row.count lamp : Int)))
noncomputable def level (size : Nat) (lamp : Int) : Nat → List (List Int)
  | 0 => [[lamp]]
  | j + 1 => (level size lamp j).flatMap fun row => (freeF size lamp row).map fun c => row ++ [c]
theorem level_len {size : Nat} {lamp : Int} : ∀ {j : Nat} {g : List Int}, g ∈ level size lamp j → g.length = j + 1
  | 0, g, h => by rw [List.mem_singleton.mp h]; rfl
  | j + 1, g, h => by
    obtain ⟨row, hr, hg⟩ := List.mem_flatMap.mp h
    obtain ⟨c, _, rfl⟩ := List.mem_map.mp hg
    rw [List.length_append, level_len hr]; rfl
noncomputable def tieC (f : List Int) (lamp one : Int) : Bool := decide (f.count lamp = f.count one)
noncomputable def lastI (p : List Int) : Int := p.getD (p.length - 1) 0
/-- this front ends the step's search -/
noncomputable def closes (lamp : Int) (p : List Int) : Bool := (!decide (lastI p = lamp)) && tieC p lamp (lastI p)
noncomputable def asks1 (lamp : Int) (p : List Int) : Bool := decide (lastI p = lamp) || (List.range 3).all fun r => decide (tieR r p lamp (lastI p) = some (tieC p lamp (lastI p)))
/-- the fronts that are asked for -/
noncomputable def live (size : Nat) (lamp : Int) : Nat → List (List Int)
  | 0 => [[lamp]]
  | j + 1 => ((live size lamp j).filter fun p => !closes lamp p).flatMap fun row => (freeF size lamp row).map fun c => row ++ [c]
noncomputable def goC (f : List Int) (lamp : Int) : Nat → Nat → List Int
  | 0, _ => []
  | j + 1, k => if closes lamp (f.take (k + 2)) = true then (f.drop 1).take k ++ [lamp] ++ f.drop (k + 2) ++ [f.getD (k + 1) 0] else goC f lamp j (k + 1)
noncomputable def stepC (lamp : Int) (f : List Int) : List Int := goC f lamp (f.length - 1) 0
theorem level_pre {size : Nat} {lamp : Int} : ∀ {j : Nat} {f : List Int}, f ∈ level size lamp j → ∀ i, i ≤ j → f.take (i + 1) ∈ level size lamp i
  | j, f, h, i, hi => by
    by_cases e : i = j
    · subst e
      rw [List.take_of_length_le (by rw [level_len h]; omega)]; exact h
    · match j, h, hi, e with
      | 0, h, hi, e => omega
      | j + 1, h, hi, e =>
        obtain ⟨row, hr, hg⟩ := List.mem_flatMap.mp h
        obtain ⟨c, _, rfl⟩ := List.mem_map.mp hg
        have hl := level_len hr
        rw [List.take_append_of_le_length (by omega)]
        exact level_pre hr i (by omega)
theorem level_live {size : Nat} {lamp : Int} {n : Nat} {f : List Int} (h : f ∈ level size lamp n) : ∀ i, i ≤ n → (∀ i', i' < i → closes lamp (f.take (i' + 1)) = false) → f.take (i + 1) ∈ live size lamp i
  | 0, _, _ => by
    have := level_pre h 0 (Nat.zero_le _)
    exact this
  | i + 1, hi, hc => by
    have hp := level_live h i (by omega) fun i' hi' => hc i' (by omega)
    have hq := level_pre h (i + 1) hi
    obtain ⟨row, hr, hg⟩ := List.mem_flatMap.mp hq
    obtain ⟨c, hcm, he⟩ := List.mem_map.mp hg
    have hl := level_len hr
    have hrow : row = f.take (i + 1) := by
      have e := congrArg (List.take (i + 1)) he
      rw [List.take_append_of_le_length (by omega), List.take_of_length_le (by omega), List.take_take, Nat.min_eq_left (by omega)] at e
      exact e
    rw [← he]
    refine List.mem_flatMap.mpr ⟨row, List.mem_filter.mpr ⟨hrow ▸ hp, ?_⟩, List.mem_map.mpr ⟨c, hcm, rfl⟩⟩
    rw [hrow, hc i (by omega)]; rfl
theorem last_take {f : List Int} {k : Nat} (h : k + 2 ≤ f.length) : lastI (f.take (k + 2)) = f.getD (k + 1) 0 := by
  unfold lastI
  rw [List.length_take, Nat.min_eq_left h]
  simp [List.getD, List.getElem?_take]
theorem stepGo_C {size : Nat} {lamp : Int} {f : List Int} {n r : Nat} (hr : r < 3) (h : f ∈ level size lamp n) (ha : ∀ j, j ≤ n → ∀ p ∈ live size lamp j, asks1 lamp p = true) :
    ∀ j k, j + k = n → (∀ i, i < k + 1 → closes lamp (f.take (i + 1)) = false) → stepGo r f lamp j k = some (goC f lamp j k)
  | 0, k, _, _ => rfl
  | j + 1, k, hjk, hc => by
    have hl := level_len h
    have e1 : (2 + (k : Int) - 1).toNat = k + 1 := by omega
    have e2 : (2 + (k : Int)) = ((k + 2 : Nat) : Int) := by omega
    have e3 : (2 + (k : Int) - 1) = ((k + 1 : Nat) : Int) := by omega
    have hla := last_take (f := f) (k := k) (by omega)
    rw [stepGo, goC, e1]
    have hk := ha (k + 1) (by omega) _ (level_live h (k + 1) (by omega) hc)
    unfold asks1 at hk
    rw [hla] at hk
    by_cases hq : f.getD (k + 1) 0 = lamp
    · rw [if_pos hq]
      have hn : closes lamp (f.take (k + 2)) = false := by unfold closes; rw [hla, decide_eq_true hq]; rfl
      rw [hn, if_neg (by decide)]
      exact stepGo_C hr h ha j (k + 1) (by omega) fun i hi => by
        by_cases hik : i = k + 1
        · subst hik; exact hn
        · exact hc i (by omega)
    · rw [if_neg hq]
      rw [decide_eq_false hq, Bool.false_or] at hk
      have ht := of_decide_eq_true (List.all_eq_true.mp hk r (List.mem_range.mpr hr))
      rw [e3, e2, pick_upto, pick_from, ht]
      have hcl : closes lamp (f.take (k + 2)) = tieC (f.take (k + 2)) lamp (f.getD (k + 1) 0) := by unfold closes; rw [hla, decide_eq_false hq]; rfl
      rw [hcl]
      cases hT : tieC (f.take (k + 2)) lamp (f.getD (k + 1) 0) with
      | true =>
        rw [if_pos rfl]
        show some (pickNums f (some ((1 : Nat) : Int)) (some ((k + 1 : Nat) : Int)) none ++ [lamp] ++ f.drop (k + 2) ++ [f.getD (k + 1) 0]) = _
        rw [pick_run' f 1 (k + 1) (by omega) (by omega)]; rfl
      | false =>
        rw [if_neg (by decide)]
        exact stepGo_C hr h ha j (k + 1) (by omega) fun i hi => by
          by_cases hik : i = k + 1
          · subst hik; rw [← hT]; exact hcl
          · exact hc i (by omega)
theorem level_head {size : Nat} {lamp : Int} {n : Nat} {f : List Int} (h : f ∈ level size lamp n) : f.getD 0 0 = lamp := by
  have h1 := level_pre h 0 (Nat.zero_le _)
  have h2 := List.mem_singleton.mp h1
  have hl := level_len h
  match f, hl, h2 with
  | x :: r, _, h2 => simpa using h2
theorem stepO_C {size : Nat} {lamp : Int} {f : List Int} {n r : Nat} (hr : r < 3) (h : f ∈ level size lamp n) (ha : ∀ j, j ≤ n → ∀ p ∈ live size lamp j, asks1 lamp p = true) : stepO r f = some (stepC lamp f) := by
  unfold stepO stepC
  have e : f.getD (0 : Int).toNat 0 = lamp := level_head h
  rw [e]
  have hl := level_len h
  refine stepGo_C hr h ha _ 0 (by omega) fun i hi => ?_
  obtain rfl : i = 0 := by omega
  have h1 := List.mem_singleton.mp (level_pre h 0 (Nat.zero_le _))
  rw [h1]
  unfold closes
  have : lastI [lamp] = lamp := rfl
  rw [this, decide_eq_true rfl]; rfl
end
section
open PySem PySem.W PySem.Calls PyProof.Rows PyProof.Rows.LCg
set_option Elab.async false
set_option maxRecDepth 100000
theorem reset_W1 : True := by w_top off; trivial
section
variable {w : World} {A : Around} {E : Value → Shared → Prop} {s : Shared} {h₀ : Heap} {L a D : Addr} {m : PySem.Str → Option Value} {news news' : List (Addr × Obj)} {vs : List Value} {f : List Int} {n : Nat}
theorem old_sliceO {value slice : PySem.Expr} {vl vu : Value} {lo hi : Option Int} {Q : Value → Shared → Prop}
    (F : Fr h₀ L s.heap m) (N : News h₀ L s.heap news) (ha : h₀.get? a = some (W.listOf vs.toArray n)) (hf : IntsAre vs f) (h9 : f.length ≤ 9) (pl : IsPart vl lo) (pu : IsPart vu hi)
    (h : ∀ D h' ws, IntsAre ws (pickNums f lo hi none) → (∀ p ∈ news, p.1 ≠ D) → Fr h₀ L h' m → News h₀ L h' ((D, W.listOf ws.toArray 0) :: news) → Q (.ref D) { s with heap := h' })
    (hs : subscripted slice false (.ref a) (.ref s.heap.objs.size) = operate [.ref s.heap.objs.size, .ref a] (getItem (.ref a) (.ref s.heap.objs.size)) := by with_unfolding_all rfl)
    (ht : ∀ r, letTemporaryGo value (.ref a) r = pure () := by intro _; with_unfolding_all rfl) :
    wpAny (model PV w) A (subscriptTail value slice (.ref a) (.ref s.heap.objs.size)) Q E { s with heap := s.heap.push { cls := .type "slice", data := .fields #[vl, vu, .none] } } := by
  have e := hf.length
  refine slice_list (items := vs.toArray) F N ⟨_, F.keep _ _ ha, rfl, _, rfl⟩ pl pu (fun h' F' N' => ?_) hs ht (by rw [PySem.sizeLine_eq]; simp; omega)
  exact h _ h' (slicePick vs.toArray lo hi none).toList (hf.pick lo hi none) (fun p hp e => by have := Heap.lt_size (N p hp).1; rw [e] at this; exact Nat.not_succ_lt_self this) F' (by simpa using N')
theorem add_intsL {b : Addr} {ws : List Value} {g : List Int} {k : Nat} {Q : Value → Shared → Prop} (F : Fr h₀ L s.heap m) (N : News h₀ L s.heap news) (h1 : (a, W.listOf vs.toArray n) ∈ news) (h2 : (b, W.listOf ws.toArray k) ∈ news) (hf : IntsAre vs f) (hg : IntsAre ws g) (hl : f.length + g.length ≤ 100)
    (h : ∀ D h' us, IntsAre us (f ++ g) → (∀ p ∈ news, p.1 < D) → Fr h₀ L h' m → News h₀ L h' ((D, W.listOf us.toArray 0) :: news) → Q (.ref D) { s with heap := h' }) : wpAny (model PV w) A (binaryOp .Add (.ref a) (.ref b)) Q E s :=
  add_lists_ints F N ⟨_, (N _ h1).1, rfl, _, rfl⟩ ⟨_, (N _ h2).1, rfl, _, rfl⟩ hf hg (fun h' F' N' hi => h _ h' _ hi (fun p hp => Heap.lt_size (N p hp).1) F' N') (by rw [PySem.sizeLine_eq]; omega)
theorem led_count_m {its : Array Value} {pl : Sem Bool} {Q : Value × List Value → Shared → Prop} (N : News h₀ L s.heap news) (hm : (a, W.listOf its n) ∈ news) (h : Q (.builtin "list.count", [.ref a]) s) : wpAny (model PV w) A (getMethod (.ref a) (PySem.Str.ofString "count") pl) Q E s :=
  getMethod_builtin (T := "list") ⟨_, (N _ hm).1, rfl⟩ PySem.F.plainAttrs_list PySem.F.slot_list_count PySem.F.type_list_count (fun _ e => by cases e; exact ⟨_, (N _ hm).1, rfl⟩) h
theorem led_count {k : Int} {t : Tok} {Q : Value → Shared → Prop} (N : News h₀ L s.heap news) (hm : (a, W.listOf vs.toArray n) ∈ news) (hi : IntsAre vs f) (h : Q (.int (f.count k : Nat) s.toks) { s with toks := s.toks + 1 }) :
    wpAny (model PV w) A (call (.builtin "list.count") [.ref a, .int k t]) Q E s := count_list_ints ⟨_, (N _ hm).1, rfl, _, rfl⟩ hi h
theorem led_item {value slice : PySem.Expr} {i : Int} {u : Tok} {Q : Value → Shared → Prop} (N : News h₀ L s.heap news) (hm : (a, W.listOf vs.toArray n) ∈ news) (hf : IntsAre vs f) (h0 : 0 ≤ i) (h1 : i < f.length) (h9 : f.length ≤ 100)
    (h : ∀ t, Q (.int (f.getD i.toNat 0) t) s)
    (hs : subscripted slice false (.ref a) (.int i u) = operate [.ref a, .int i u] (getItem (.ref a) (.int i u)) := by with_unfolding_all rfl) (hg : ∀ r, letTemporaryGo value (.ref a) r = pure () := by intro _; with_unfolding_all rfl) :
    wpAny (model PV w) A (subscriptTail value slice (.ref a) (.int i u)) Q E s := by
  have hi : i.toNat < f.length := by omega
  have hlt : i.toNat < vs.length := by rw [hf.length]; exact hi
  obtain ⟨kk, t, e1, e2⟩ := IntsAre.at hf i.toNat vs[i.toNat] (by simp [hlt])
  rw [getD_of hi] at e2
  refine item_listL (x := .int kk t) ⟨_, (N _ hm).1, rfl, _, rfl⟩ h0 (by omega) (by rw [← e1]; simp [hlt]) ?_ hs hg
  rw [← Option.some.inj e2]; exact h t
theorem led_len {Q : Value → Shared → Prop} (N : News h₀ L s.heap news) (hm : (a, W.listOf vs.toArray n) ∈ news) (hf : IntsAre vs f) (h9 : f.length ≤ 100) (h : Q (.int (f.length : Nat) (s.toks + 1)) { s with toks := s.toks + 1 + 1 }) : wpAny (model PV w) A (call (.builtin "len") [.ref a]) Q E s := by
  have e := hf.length
  refine len_list (items := vs.toArray) ⟨_, (N _ hm).1, rfl, _, rfl⟩ (by simp; omega) ?_
  have e' : ((vs.toArray.size : Nat) : Int) = (f.length : Nat) := by simp [e]
  rw [e']; exact h
end
noncomputable def wMp (m0 : PySem.Str → Option Value) (vx vf : Option Value) : PySem.Str → Option Value := fun n => if n = (PySem.Str.ofString "free") then vf else if n = (PySem.Str.ofString "x") then vx else m0 n
theorem wMp_start (m0 : PySem.Str → Option Value) : m0 = wMp m0 (m0 (PySem.Str.ofString "x")) (m0 (PySem.Str.ofString "free")) := by
  funext n
  simp only [wMp]
  split
  · rename_i h; rw [h]
  · split
    · rename_i h; rw [h]
    · rfl
theorem wMp_end (m0 : PySem.Str → Option Value) (vx vf vx' v1 v2 : Option Value) : (fun n => if n = (PySem.Str.ofString "free") then v1 else if n = (PySem.Str.ofString "free") then v2 else if n = (PySem.Str.ofString "x") then vx' else wMp m0 vx vf n) = wMp m0 vx' v1 := by
  funext n
  simp only [wMp]
  by_cases q1 : n = (PySem.Str.ofString "free")
  · simp only [if_pos q1]
  by_cases q2 : n = (PySem.Str.ofString "x")
  · simp only [if_neg q1, if_pos q2]
  simp only [if_neg q1, if_neg q2]
theorem pick_tail (f : List Int) (h2 : 2 ≤ f.length) (h9 : f.length ≤ 9) : (pickNums f (some 1) none none).length = f.length - 1 := by
  rw [show (1 : Int) = ((1 : Nat) : Int) from rfl, pick_from, List.length_drop]
/-- how a conditional that makes a list ends -/
noncomputable def ListEnd (s : Shared) (hB : Heap) (L : Addr) (m : PySem.Str → Option Value) (news : List (Addr × Obj)) (P : List Int → Prop) (v : Value) (s' : Shared) : Prop :=
  ∃ (D : Addr) (ws : List Value) (g : List Int) (h : Heap) (tk : Nat), v = .ref D ∧ s' = { s with heap := h, toks := tk } ∧ IntsAre ws g ∧ P g ∧ AllLt D news ∧ Fr hB L h m ∧ News hB L h ((D, W.listOf ws.toArray 0) :: news)
theorem ListEnd.of {s : Shared} {hB h : Heap} {L D : Addr} {m : PySem.Str → Option Value} {news : List (Addr × Obj)} {P : List Int → Prop} {ws : List Value} {g : List Int} {tk : Nat} (i : IntsAre ws g) (p : P g) (l : AllLt D news) (F : Fr hB L h m)
    (N : News hB L h ((D, W.listOf ws.toArray 0) :: news)) : ListEnd s hB L m news P (.ref D) { s with heap := h, toks := tk } := ⟨D, ws, g, h, tk, rfl, rfl, i, p, l, F, N⟩
theorem ifexp_list {M : Model} {A : Around} {e : PySem.Expr} {env : Env} {Q : Value → Shared → Prop} {E : Value → Shared → Prop} {s : Shared} {hB : Heap} {L : Addr} {m : PySem.Str → Option Value} {news : List (Addr × Obj)} {P : List Int → Prop}
    (_F : Fr hB L s.heap m) (_N : News hB L s.heap news) (h1 : wpAny M A (eval e env) (ListEnd s hB L m news P) E s)
    (h2 : ∀ (D : Addr) (ws : List Value) (g : List Int) (h : Heap) (tk : Nat), IntsAre ws g → P g → AllLt D news → Fr hB L h m → News hB L h ((D, W.listOf ws.toArray 0) :: news) → Q (.ref D) { s with heap := h, toks := tk }) : wpAny M A (eval e env) Q E s :=
  wpAny_mono h1 (fun v s' x => by obtain ⟨D, ws, g, h, tk, rfl, rfl, i, p, l, F', N'⟩ := x; exact h2 D ws g h tk i p l F' N') fun _ _ h => h
noncomputable def RowPost (size : Nat) (lamp : Int) (s : Shared) (v : Value) (s' : Shared) : Prop := ∃ g ∈ level size lamp (size - 1), NewInts g s v s'
structure RJ (m0 : PySem.Str → Option Value) (size : Nat) (lamp : Int) (lD c1 c2 : Addr) (o1 o2 : Obj) (k : Nat) (m : PySem.Str → Option Value) (news : List (Addr × Obj)) : Prop where
  at_ : ∃ vx vf ws n g, m = wMp m0 vx vf ∧ news = [(lD, W.listOf (ws : List Value).toArray n), (c1, o1), (c2, o2)] ∧ IntsAre ws g ∧ g ∈ level size lamp k
theorem level_next {size : Nat} {lamp : Int} {j : Nat} {g : List Int} {i : Nat} (h : g ∈ level size lamp j) (hi : i < (freeF size lamp g).length) : g ++ [(freeF size lamp g).getD i 0] ∈ level size lamp (j + 1) :=
  List.mem_flatMap.mpr ⟨g, h, List.mem_map.mpr ⟨_, List.mem_of_getElem? (getD_of hi), rfl⟩⟩
local macro_rules | `(tactic| walk_at "exec For") => `(tactic| (walk_at "UseFor"))
local macro_rules | `(tactic| walk_at "eval ListComp") => `(tactic| (k_here; k_dflt (refine comp_eval (by with_unfolding_all rfl) (by rfl) (by decide) ?_)))
local macro_rules | `(tactic| walk_at "pyIter ref") => `(tactic| (fail_if_success skip))
local macro_rules | `(tactic| walk_at "getMethod ref") => `(tactic| (k_dflt (refine led_count_m (by k_asm) (by k_mem) ?_)))
local macro_rules | `(tactic| walk_at "call builtin:list.count") => `(tactic| (k_dflt (refine led_count (by k_asm) (by k_mem) (by first | assumption | exact .cons _ _ .nil) ?_)))
local macro_rules | `(tactic| walk_at "subscriptTail") => `(tactic| (walk_at "UseSub"; first | (refine old_item (by k_asm) (by assumption) (by assumption) (by omega) (by omega) (by assumption) ?_; intro tI) | (refine led_item (by k_asm) (by k_mem) (by assumption) (by assumption) (by assumption) (by assumption) ?_; intro tI)))
local macro_rules | `(tactic| walk_at "subscriptTail Name Slice ref ref") => `(tactic| ((with_reducible rename Fr _ _ _ _ => F'); (with_reducible rename News _ _ _ _ => N'); (refine old_sliceO (s := ⟨_, _, _, _, _⟩) F' N' (by assumption) (by assumption) (by assumption) (by constructor) (by constructor) ?_); intro D1 h1 ws1 i1 oD F' N'))
local macro_rules | `(tactic| walk_at "call builtin:len") => `(tactic| first | (refine old_len (by k_asm) (by assumption) (by assumption) (by assumption) ?_) | (k_dflt (refine led_len (by k_asm) (by k_mem) (by assumption) (by assumption) ?_)))
local macro_rules | `(tactic| walk_at "binaryOp Add ref ref") => `(tactic| (k_dflt (refine' add_intsL ?k1 ?k2 ?k3 ?k4 ?k5 ?k6 ?k7 ?_; (case k1 | k2 => k_asm); (case k3 | k4 => k_mem); (case k5 | k6 => first | assumption | exact .cons _ _ .nil | exact .nil); (case k7 => assumption); k_whole; intro D1 h1 us1 i1 l1 F' N'; (try k_lt l1))))
local macro_rules | `(tactic| walk_at "eval IfExp") => `(tactic| ((fail_if_success (with_reducible rename Flag => hflag)); refine Hold.of ?_))
set_option maxHeartbeats 16000000
theorem row_ok {w : World} {base : Heap} {outer : List Env} {s : Shared} {mg mb : PySem.Str → Option Value} {mean : ExcName → Option Value}
    (B : Below (Lv 310 outer) base outer s.heap) (X : (hd.heap_39 w.params).In s.heap) (T : TopV mg mb mean s.heap)
    {a : Addr} {vs : List Value} {f : List Int} (hf : IntsAre vs f) {na : Nat} (ha : s.heap.get? a = some (W.listOf vs.toArray na)) (hlen : f.length ≤ 9) (hlen2 : 2 ≤ f.length) (lamp : Int) (hlamp : (f.getD (0 : Int).toNat 0).fmod 3 = lamp)
    (hfree : ∀ j, j < f.length - 1 → ∀ row ∈ level f.length lamp j, freeF f.length lamp row ≠ []) :
    Gives w 310 outer 68 [.ref a] s (fun v s' => RowPost f.length lamp s v s') := by
  k_dflt (refine' enterC ?k1 ?k2 ?k3 ?k6 ?k7 ?k8 ?k9 ?kB ?kD ?_ ?c2 ?c3 ?c4; (case k1 => k_asm); (case k2 => k_asm); (case k3 => k_asm); (case k6 => k_is); (case k7 => k_is); (case k8 => k_room); (case k9 => exact BindsTo.of_eq rfl); (case kB => exact rfl); (case kD => decide +kernel); (case c2 => exact rfl); (case c3 => exact rfl); (case c4 => exact rfl); k_whole)
  clear B X T
  intro L' h' tk' cells' F' N' Y' B' X' T'
  k_cells Y'
  (try simp only [List.cons_append, List.nil_append] at N')
  (try dsimp only)
  change wpAny _ _ _ _ _ _
  k_fold
  have hz : 0 < (f.length : Int) := by omega
  k_steps
  subst hlamp
  (with_reducible rename Fr _ _ _ _ => F1); (with_reducible rename News _ _ _ _ => N1); (rename IntsAre _ (pickNums _ _ _ _) => hws)
  rename_i o2 dl lD _ l1 _ o1 _ _ dr D1 _ ws1 oD
  obtain ⟨m0, hm0, F1⟩ : ∃ m0, m0 = _ ∧ Fr s.heap L' _ m0 := ⟨_, rfl, F1⟩
  have hsz : ws1.toArray.size = f.length - 1 := by rw [List.size_toArray, hws.length, pick_tail f hlen2 hlen]
  refine' for_list (a := D1) (items := ws1.toArray) (hB := s.heap) (Lc := L') (news := [(lD, W.listOf #[Value.int ((f.getD (0 : Int).toNat 0).fmod 3) (tk' + 1 + 1)] 0), (L' + 1 + 1, o1), (L' + 1, o2)]) (J := RJ m0 f.length ((f.getD (0 : Int).toNat 0).fmod 3) lD (L' + 1 + 1) (L' + 1) o1 o2) ?e1 ?e2 ?hl ?e3 ?e4 F1 ?e5 ?e6 ?e7 ?e8 ?turn ?done
  case e1 => rfl
  case e2 => rfl
  case e7 => rfl
  case e8 => rfl
  case hl => exact ⟨_, (N1 _ (.head _)).1, rfl, _, rfl⟩
  case e3 => exact (N1 _ (.head _)).2.1
  case e5 => exact fun p hp => N1 p (.tail _ hp)
  case e4 => exact oD
  case e6 => exact ⟨_, _, _, _, _, wMp_start _, rfl, .cons _ _ .nil, .head _⟩
  case turn =>
    intro k v m₁ news₁ own s₁ hk hv ha' hJ F N hoff S
    obtain ⟨vx, vf, ws, n, g, rfl, rfl, hg, hgm⟩ := hJ.at_
    rw [hsz] at hk
    obtain ⟨x, tx, rfl, hxx⟩ := IntsAre.at hws k v (by simpa using hv)
    simp only [List.cons_append, List.nil_append] at N
    have hgl : g.length = k + 1 := level_len hgm
    have hfr := hfree k hk g hgm
    subst hm0
    clear hJ hws
    k_steps
    change wpAny _ _ _ _ _ _
    refine ifexp_list (P := fun q => freeF f.length ((f.getD (0 : Int).toNat 0).fmod 3) g = q ++ ([(((f.getD (0 : Int).toNat 0).fmod 3) + 1).fmod 3, (((f.getD (0 : Int).toNat 0).fmod 3) + 2).fmod 3].filter (fun one => decide ((g.count one : Int) < (g.count (((f.getD (0 : Int).toNat 0).fmod 3)) : Int)))) ∧ q.length ≤ 1) F N ?_ ?_
    · have hflag : Flag := trivial
      k_steps
      · refine ListEnd.of (ws := [_]) (g := [_]) (.cons _ _ .nil) ⟨?_, Nat.le_refl _⟩ (by assumption) (by k_asm) (by k_asm)
        show (if _ then _ else _) ++ _ = _
        rw [if_pos ‹_›]
      · refine ListEnd.of (ws := []) (g := []) .nil ⟨?_, Nat.zero_le _⟩ (by assumption) (by k_asm) (by k_asm)
        show (if _ then _ else _) ++ _ = _
        rw [if_neg ‹_›]
    intro Dq wq q hq9 tq iq pq lq F2q N2q
    obtain ⟨hfe, hq1⟩ := pq
    simp only [AllLt, and_true] at lq
    clear F N
    k_steps
    (with_reducible rename Fr _ _ _ _ => F2); (with_reducible rename News _ _ _ _ => N2)
    rw [hfe] at hfr
    have hfl : (([(((f.getD (0 : Int).toNat 0).fmod 3) + 1).fmod 3, (((f.getD (0 : Int).toNat 0).fmod 3) + 2).fmod 3].filter (fun one => decide ((g.count one : Int) < (g.count (((f.getD (0 : Int).toNat 0).fmod 3)) : Int))))).length ≤ 2 := List.length_filter_le _ _
    have hk7 : q.length + (([(((f.getD (0 : Int).toNat 0).fmod 3) + 1).fmod 3, (((f.getD (0 : Int).toNat 0).fmod 3) + 2).fmod 3].filter (fun one => decide ((g.count one : Int) < (g.count (((f.getD (0 : Int).toNat 0).fmod 3)) : Int))))).length ≤ 100 := by omega
    have hfl2 : (q ++ ([(((f.getD (0 : Int).toNat 0).fmod 3) + 1).fmod 3, (((f.getD (0 : Int).toNat 0).fmod 3) + 2).fmod 3].filter (fun one => decide ((g.count one : Int) < (g.count (((f.getD (0 : Int).toNat 0).fmod 3)) : Int))))).length ≤ 100 := by rw [List.length_append]; exact hk7
    have hpos : 0 < (((q ++ ([(((f.getD (0 : Int).toNat 0).fmod 3) + 1).fmod 3, (((f.getD (0 : Int).toNat 0).fmod 3) + 2).fmod 3].filter (fun one => decide ((g.count one : Int) < (g.count (((f.getD (0 : Int).toNat 0).fmod 3)) : Int))))).length : Nat) : Int) := by
      have := List.length_pos_iff.mpr hfr
      omega
    have hne : (((q ++ ([(((f.getD (0 : Int).toNat 0).fmod 3) + 1).fmod 3, (((f.getD (0 : Int).toNat 0).fmod 3) + 2).fmod 3].filter (fun one => decide ((g.count one : Int) < (g.count (((f.getD (0 : Int).toNat 0).fmod 3)) : Int))))).length : Nat) : Int) ≠ 0 := by omega
    have hm1 := Int.fmod_nonneg_of_pos x hpos
    have hm2 := Int.fmod_lt_of_pos x hpos
    have hwl : ws.length ≤ 2000 := by rw [hg.length, hgl]; omega
    have hnext : g ++ [(q ++ ([(((f.getD (0 : Int).toNat 0).fmod 3) + 1).fmod 3, (((f.getD (0 : Int).toNat 0).fmod 3) + 2).fmod 3].filter (fun one => decide ((g.count one : Int) < (g.count (((f.getD (0 : Int).toNat 0).fmod 3)) : Int))))).getD (x.fmod (((q ++ ([(((f.getD (0 : Int).toNat 0).fmod 3) + 1).fmod 3, (((f.getD (0 : Int).toNat 0).fmod 3) + 2).fmod 3].filter (fun one => decide ((g.count one : Int) < (g.count (((f.getD (0 : Int).toNat 0).fmod 3)) : Int))))).length : Nat) : Int)).toNat 0] ∈ level f.length ((f.getD (0 : Int).toNat 0).fmod 3) (k + 1) := by
      have h := level_next (i := (x.fmod (((q ++ ([(((f.getD (0 : Int).toNat 0).fmod 3) + 1).fmod 3, (((f.getD (0 : Int).toNat 0).fmod 3) + 2).fmod 3].filter (fun one => decide ((g.count one : Int) < (g.count (((f.getD (0 : Int).toNat 0).fmod 3)) : Int))))).length : Nat) : Int)).toNat) hgm (by rw [hfe]; omega)
      rw [hfe] at h; exact h
    refine' comp_list (X := fun _ v m => m (PySem.Str.ofString "one") = some v) (J := fun i ys => IntsAre ys (([(((f.getD (0 : Int).toNat 0).fmod 3) + 1).fmod 3, (((f.getD (0 : Int).toNat 0).fmod 3) + 2).fmod 3].take i).filter (fun one => decide ((g.count one : Int) < (g.count (((f.getD (0 : Int).toNat 0).fmod 3)) : Int))))) ?f1 F2 N2 (.inr ⟨_, .head _, rfl, _, rfl⟩) ?f2 ?f3 ?f4 (fun I => asg_name ?f5 ?f6) ?f7 ?turn (fin_none ?fin)
    case f1 => rfl
    case f2 => rw [PySem.sizeLine_eq]; exact Nat.le_of_ble_eq_true rfl
    case f3 => decide
    case f4 => rfl
    case f5 => rfl
    case f6 => rfl
    case f7 => exact .nil
    case turn =>
      intro i v I oI C oC D ys m₂ s₁ hi hP hJ hC hX F N off ne S
      obtain ⟨c, tc, rfl, hc⟩ : ∃ c tc, v = .int c tc ∧ [(((f.getD (0 : Int).toNat 0).fmod 3) + 1).fmod 3, (((f.getD (0 : Int).toNat 0).fmod 3) + 2).fmod 3][i]? = some c := by
        rcases i with _ | _ | j
        · cases hP; exact ⟨_, _, rfl, rfl⟩
        · cases hP; exact ⟨_, _, rfl, rfl⟩
        · cases hP
      have hyes : (g.count c : Int) < (g.count (((f.getD (0 : Int).toNat 0).fmod 3)) : Int) → IntsAre (ys ++ [.int c tc]) (([(((f.getD (0 : Int).toNat 0).fmod 3) + 1).fmod 3, (((f.getD (0 : Int).toNat 0).fmod 3) + 2).fmod 3].take (i + 1)).filter (fun one => decide ((g.count one : Int) < (g.count (((f.getD (0 : Int).toNat 0).fmod 3)) : Int)))) := fun h => by
        rw [List.take_add_one, hc, List.filter_append]
        refine hJ.append ?_
        rw [show (some c).toList.filter _ = [c] from List.filter_cons_of_pos (by simpa using h)]
        exact .cons _ _ .nil
      have hno : ¬ (g.count c : Int) < (g.count (((f.getD (0 : Int).toNat 0).fmod 3)) : Int) → IntsAre ys (([(((f.getD (0 : Int).toNat 0).fmod 3) + 1).fmod 3, (((f.getD (0 : Int).toNat 0).fmod 3) + 2).fmod 3].take (i + 1)).filter (fun one => decide ((g.count one : Int) < (g.count (((f.getD (0 : Int).toNat 0).fmod 3)) : Int)))) := fun h => by
        rw [List.take_add_one, hc, List.filter_append]
        rw [show (some c).toList.filter _ = [] from List.filter_cons_of_neg (by simpa using h)]
        simpa using hJ
      refine wpAny_tests_one ?_
      k_steps
      by_cases hcd : (g.count c : Int) < (g.count (((f.getD (0 : Int).toNat 0).fmod 3)) : Int)
      · rw [decide_eq_true hcd]
        dsimp only
        k_steps
        exact CEnd.mk' ⟨rfl, rfl, fun g => g⟩ (by k_asm) (by k_asm) (hyes hcd)
      · rw [decide_eq_false hcd]
        exact CEnd.mk' ⟨rfl, rfl, fun g => g⟩ (by k_asm) (by k_asm) (hno hcd)
    case fin =>
      intro D ys s' hJ S1 F N oo
      replace hJ : IntsAre ys ([(((f.getD (0 : Int).toNat 0).fmod 3) + 1).fmod 3, (((f.getD (0 : Int).toNat 0).fmod 3) + 2).fmod 3].filter (fun one => decide ((g.count one : Int) < (g.count (((f.getD (0 : Int).toNat 0).fmod 3)) : Int)))) := hJ
      have N' : News s.heap L' s'.heap ((D, W.listOf ys.toArray ys.length) :: _) := N
      clear N
      have hDl : @Ne Nat lD D := oo.2.2.1
      have hall : ∀ p ∈ (L' + 1 + 1, o1) :: (L' + 1, o2) :: own, p.1 ≠ lD := fun p hp => by
        rcases List.mem_cons.mp hp with rfl | hp
        · exact Nat.ne_of_lt l1.1
        rcases List.mem_cons.mp hp with rfl | hp
        · exact Nat.ne_of_lt l1.2
        · exact hoff p hp lD (.head _)
      k_steps
      (with_reducible rename Fr _ _ _ _ => F3); (with_reducible rename News _ _ _ _ => N3)
      rw [List.push_toArray] at N3
      dsimp only
      exact ⟨_, [(lD, _), (_, _), (_, _)], ⟨S1.os, S1.drawn, S1.gens⟩, F3, fun p hp => N3 p (.tail _ (.tail _ (.tail _ (.tail _ hp)))), ha', ⟨_, _, _, _, _, wMp_end .., rfl, hg.append (.cons _ _ .nil), hnext⟩⟩
  case done =>
    intro m₁ news₁ s₁ ha' hJ F N S
    obtain ⟨vx, vf, ws, n, g, rfl, rfl, hg, hgm⟩ := hJ.at_
    rw [hsz] at hgm
    subst hm0
    dsimp only
    k_steps
    · exact ⟨g, hgm, _, _, _, rfl, (N _ (.head _)).1, hg, (N _ (.head _)).2.2⟩
    · exact ⟨Fr.keep (by assumption), S.os, S.drawn, S.gens⟩
end
section
open PySem PySem.W PySem.Calls PyProof.Rows PyProof.Rows.LCg
set_option Elab.async false
set_option maxRecDepth 100000
/-- a turn goes on, with a ledger of its own -/
noncomputable def TEndF (hB : Heap) (Lc : Addr) (J : (PySem.Str → Option Value) → List (Addr × Obj) → Prop) (own : List (Addr × Obj)) (s₁ s₂ : Shared) : Prop :=
  ∃ m₂ news₂, Sib s₁ s₂ ∧ Fr hB Lc s₂.heap m₂ ∧ News hB Lc s₂.heap (news₂ ++ own) ∧ J m₂ news₂
theorem for_rangeF {w : World} {A : Around} {hB : Heap} {env : Env} {Lc : Addr} (hEL : env.locals = Lc) {x : PySem.Str} {px : Pos} {body : List Stmt} {R : Result → Shared → Prop} {s : Shared} {r : Addr} {a b : Int} {t u v : Tok} {n : Nat}
    (hh : A.handled = none) (hr : IsRange s.heap r a b 1 t u v) (hsm : Builtin.Range.small a b 1 = true) (hn : Builtin.Range.rangeSize a b 1 = ((n : Nat) : Int))
    (adr : List Addr) (J : Nat → (PySem.Str → Option Value) → List (Addr × Obj) → Prop) {m : PySem.Str → Option Value} {news : List (Addr × Obj)} (F : Fr hB Lc s.heap m) (N : News hB Lc s.heap news) (hJ : J 0 m news)
    (hadr : ∀ b ∈ adr, ∃ o, s.heap.get? b = some o) (hcls : ∀ k m news, J k m news → ∀ p ∈ news, ∀ z, p.2.data ≠ .fields z)
    (hk1 : env.kindOf x = some .local) (hp : (env.scope.kind == .class || (env.scope.kind == .module && env.locals != env.globals)) = false)
    (turn : ∀ k v m₁ news₁ own (s₁ : Shared), k < n → (∃ t, v = .int (a + (k : Int)) t) → J k m₁ news₁ → Fr hB Lc s₁.heap (fun y => if y = x then some v else m₁ y) →
      News hB Lc s₁.heap (news₁ ++ own) → (∀ p ∈ own, ∀ b ∈ adr, p.1 ≠ b) → Sib s s₁ →
      wpAny (model PV w) A (execs body env) (fun f s₂ => match f with
        | .ret v => R (.ok (.ret v)) s₂
        | .brk => R (.ok .next) s₂
        | _ => TEndF hB Lc (J (k + 1)) own s₁ s₂) (fun _ _ => False) s₁)
    (done : ∀ m₁ news₁ s₁, J n m₁ news₁ → Fr hB Lc s₁.heap m₁ → News hB Lc s₁.heap news₁ → Sib s s₁ → R (.ok .next) s₁) :
    wpAny (model PV w) A (pyIter (.ref r)) (fun it s₂ => codeAny (model PV w) A (.forLoop (.Name x px) it body [] env) R s₂) (fun _ _ => False) s := by
  refine wpAny_pyIter_range hr hsm ?_
  subst hEL
  have W := range_walks (prog := PV) (w := w) (I := s.heap.objs.size) hh a n
  have hLI : env.locals ≠ s.heap.objs.size := Nat.ne_of_lt F.ns.lt
  have hI₀ : hB.get? s.heap.objs.size = none := Heap.get?_none_of_le (Nat.le_trans F.above (Nat.le_of_lt F.ns.lt))
  have hIadr : s.heap.objs.size ∉ adr := fun hm => by
    obtain ⟨o, e⟩ := hadr _ hm
    exact Nat.lt_irrefl _ (Heap.lt_size e)
  refine codeAny_forLoop (fun j s' => ∃ k m₁ news₁, j = n + 1 - k ∧ k ≤ n ∧ IsRangeIter s'.heap s.heap.objs.size (a + (k : Nat) * 1) ((n : Int) - (k : Nat)) 1 ∧ Fr hB env.locals s'.heap m₁ ∧ News hB env.locals s'.heap news₁ ∧ J k m₁ news₁ ∧ Sib s s')
    ?_ (n + 1) ⟨0, m, news, rfl, Nat.zero_le _, (by show IsRangeIter _ _ _ _ _; rw [hn]; simpa using Heap.get?_push_size _ rfl), F.push _, (fun p hp => ⟨Heap.get?_push_of_some _ (N p hp).1, (N p hp).2⟩), hJ, ⟨rfl, rfl, fun g => g⟩⟩
  rintro j s' ⟨k, m₁, news₁, rfl, hk, hst, F₁, N₁, hJ₁, S₁⟩
  have next : ∀ h₁ : Heap, (∀ b o, b ∉ [s.heap.objs.size] → s'.heap.get? b = some o → h₁.get? b = some o) → Fr hB env.locals h₁ m₁ ∧ News hB env.locals h₁ news₁ := fun h₁ hk₁ =>
    ⟨⟨F₁.ns.at' fun o e => hk₁ _ o (by simpa using hLI) e, fun b o e => hk₁ b o (fun hb => by rw [List.mem_singleton.mp hb, hI₀] at e; cases e) (F₁.keep b o e), F₁.above⟩,
      fun p hp => ⟨hk₁ _ _ (fun hb => by
        have e1 := (N₁ p hp).1
        rw [List.mem_singleton.mp hb, hst] at e1
        exact hcls _ _ _ hJ₁ p hp _ (by rw [← Option.some.inj e1])) (N₁ p hp).1, (N₁ p hp).2⟩⟩
  refine wpAny_mono (E := fun _ _ => False) ?_ (fun _ _ h => h) (fun _ _ x => x.elim)
  by_cases hlt : k < n
  · refine W.item k _ _ _ hlt hst fun v h₁ tk₁ hP hst₁ hk₁ => ?_
    obtain ⟨F₂, N₂⟩ := next h₁ hk₁
    refine wpAny_mono (E := fun _ _ => False) ?_ (fun _ _ h => h) (fun _ _ x => x.elim)
    refine wpAny_assign_Name (wpAny_storeName_local hk1 F₂.ns (fun h₂ hn₂ hs₂ => ?_) hp)
    replace hs₂ : Heap.SameBut env.locals h₁ h₂ := hs₂
    have F₃ := F₂.set hn₂ hs₂
    have N₃ : News hB env.locals h₂ news₁ := N₂.set hs₂
    have hst₂ := W.frame _ _ h₂ hst₁ fun b hb o e => hs₂.extBut b o (fun q => hLI (by rw [← q]; exact List.mem_singleton.mp hb)) e
    obtain ⟨own, No, hoff, keepO⟩ := all_own' (L := env.locals) adr F₃.keep
    refine wpAny_mono (turn k v m₁ news₁ own _ hlt hP hJ₁ F₃ (N₃.append No) hoff ⟨S₁.os, S₁.drawn, S₁.gens⟩) (fun f s₂ h₆ => ?_) (fun _ _ x => x.elim)
    have fin : TEndF hB env.locals (J (k + 1)) own { s' with heap := h₂, toks := tk₁ + 1 } s₂ → ∃ j', j' < n + 1 - k ∧ ∃ k m₁ news₁, j' = n + 1 - k ∧ k ≤ n ∧ IsRangeIter s₂.heap s.heap.objs.size (a + (k : Nat) * 1) ((n : Int) - (k : Nat)) 1 ∧ Fr hB env.locals s₂.heap m₁ ∧ News hB env.locals s₂.heap news₁ ∧ J k m₁ news₁ ∧ Sib s s₂ := by
      rintro ⟨m₂, news₂, S₆, F₆, N₆, hJ₆⟩
      refine ⟨n + 1 - (k + 1), Nat.sub_lt_sub_left (Nat.lt_succ_of_lt hlt) (Nat.lt_succ_self k), k + 1, m₂, news₂, rfl, hlt, W.frame _ _ _ hst₂ fun b hb o e => ?_, F₆, fun p hp => N₆ p (List.mem_append_left _ hp), hJ₆, S₁.trans ⟨S₆.os, S₆.drawn, S₆.gens⟩⟩
      rw [List.mem_singleton.mp hb] at e ⊢
      exact keepO _ _ _ F₆ (fun p hp => N₆ p (List.mem_append_right _ hp)) (fun _ h => h) _ o (Ne.symm hLI) hIadr e
    cases f with
    | ret v => exact h₆
    | brk => exact h₆
    | next => exact fin h₆
    | cont => exact fin h₆
  · have hkn : k = n := by omega
    subst hkn
    refine W.done _ _ _ hst fun h₁ tk₁ hk₁ => wpAny_execs_nil ?_
    obtain ⟨F₂, N₂⟩ := next h₁ hk₁
    exact done m₁ news₁ _ hJ₁ F₂ N₂ ⟨S₁.os, S₁.drawn, S₁.gens⟩
section
variable {w : World} {A : Around} {E : Value → Shared → Prop} {s : Shared}
open PySem.SeqAt
end
end
section
open PySem PySem.W PySem.Calls PyProof.Rows PyProof.Rows.LCg
set_option Elab.async false
set_option maxRecDepth 100000
section
variable {w : World} {A : Around} {E : Value → Shared → Prop} {s₂ : Shared} {h₀ : Heap} {L : Addr} {m : PySem.Str → Option Value} {env : Env} {news : List (Addr × Obj)} {elt target iter : PySem.Expr} {ifs : List PySem.Expr} {scope : Scope} {cl : List (PySem.Str × Addr)} {pos : Pos}
variable {s : Shared}
theorem comp_rangeG {use : Option (Value → Sem Unit)} {Q : Value → Shared → Prop} {r : Addr} {a b : Int} {t u v : Tok} {n : Nat} (X : Nat → Value → (PySem.Str → Option Value) → Prop) (J : Nat → List Value → List (Addr × Obj) → Prop)
    (hh : A.handled = none) (F : Fr h₀ L s.heap m) (N : News h₀ L s.heap news) (hr : IsRange s.heap r a b 1 t u v) (hsm : Builtin.Range.small a b 1 = true) (hn : Builtin.Range.rangeSize a b 1 = ((n : Nat) : Int)) (hsz : n ≤ sizeLine)
    (hcell : ∀ y ∈ scope.names, y.2 ≠ .cell) (hkind : scope.kind = .function)
    (asg : ∀ I, Asg w A h₀ L env news target scope cl I n (fun i v => ∃ t, v = .int (a + (i : Int)) t) (fun i h => IsRangeIter h I (a + (i : Nat) * 1) ((n : Int) - (i : Nat)) 1) X) (hJ : J 0 [] [])
    (turn : TurnG w A h₀ L m env news elt ifs scope cl s n (fun i v => ∃ t, v = .int (a + (i : Int)) t) X J)
    (fin : FinG h₀ L m news s (J n) (fun acc C => compPost (model PV w) A E use Q acc C)) :
    wpAny (model PV w) A (pyIter (.ref r)) (fun it s₂ => CompIn w A E env elt target iter ifs scope cl pos use Q it s₂) E s := by
  refine wpAny_pyIter_range hr hsm ?_
  refine comp_blockG (X := X) J (range_walks hh a n) hsz (fun i h st => ⟨_, st⟩) (fun i h h' o st e e' k N => range_st i h h' o news st e e' k N trivial) hcell hkind
    (by show IsRangeIter _ _ _ _ _; rw [hn]; simpa using Heap.get?_push_size _ rfl) (fun b hb => ?_) (F.keeps fun _ _ e => Heap.get?_push_of_some _ e) (N.grown fun _ _ e => Heap.get?_push_of_some _ e) (Nat.ne_of_lt F.ns.lt) (next_is_new F)
    (fun p hp => Nat.ne_of_lt (Heap.lt_size (N p hp).1)) (asg _) hJ
    (fun i v I oI C oC D ys gr m₂ s₁ hi hp hj ho hx F N og o3 ne S => turn i v I oI C oC D ys gr m₂ s₁ hi hp hj ho hx F N og o3 ne ⟨S.os, S.drawn, S.gens⟩)
    (fun D C s' m' ys gr hj S F N o1 hn hC hD hCL hDL hCD oC NG og => fin D C s' m' ys gr hj ⟨S.os, S.drawn, S.gens⟩ F N o1 hn hC hD hCL hDL hCD oC NG og)
  rw [List.mem_singleton.mp hb]
  show s.heap.objs.size < (s.heap.push _).objs.size
  rw [Heap.size_push]; exact Nat.lt_succ_self _
theorem fin_noneG {Q : Value → Shared → Prop} {J : List Value → List (Addr × Obj) → Prop} (h : ∀ D ys gr s', J ys gr → Sib s s' → Fr h₀ L s'.heap m → News h₀ L s'.heap ((D, lst ys) :: news) → Off1 D news → News h₀ L s'.heap gr → (∀ p ∈ gr, p.1 ≠ D) → Q (.ref D) s') :
    FinG h₀ L m news s J (fun acc C => compPost (model PV w) A E none Q acc C) := by
  intro D C s' m' ys gr hj S F N o1 hn hC hD hCL hDL hCD oC NG og
  refine ⟨m', hn, fun h'' hs'' => h D ys gr { s' with heap := h'' } hj ⟨S.os, S.drawn, S.gens⟩ (F.change hs'' hCL hC) (fun p hp => ?_) o1 (fun p hp => ⟨hs''.extBut _ _ (og p hp).1 (NG p hp).1, (NG p hp).2⟩) (fun p hp => (og p hp).2)⟩
  refine ⟨hs''.extBut _ _ ?_ (N p hp).1, (N p hp).2⟩
  rcases List.mem_cons.mp hp with rfl | hp
  · exact Ne.symm hCD
  · exact oC p hp
end
end
section
open PySem PySem.W PySem.Calls PyProof.Rows PyProof.Rows.LCg
set_option Elab.async false
set_option maxRecDepth 100000
theorem abst {ws : List Value} {f : List Int} {n : Nat} (h : IntsAre ws f) (hl : f.length = n) : ∃ g, IntsAre ws g ∧ g.length = n := ⟨f, h, hl⟩
theorem led_new {h₀ : Heap} {L : Addr} {m : PySem.Str → Option Value} {news : List (Addr × Obj)} {g : List Int} {v : Value} {s s' : Shared} (F : Fr h₀ L s.heap m) (N : News h₀ L s.heap news) (h : NewInts g s v s') :
    ∃ D vs n, v = .ref D ∧ IntsAre vs g ∧ News h₀ L s'.heap [(D, W.listOf vs.toArray n)] ∧ (∀ p ∈ news, @Ne Nat D p.1) := by
  obtain ⟨D, vs, n, rfl, hD, hi, h0⟩ := h
  refine ⟨D, vs, n, rfl, hi, fun p hp => ?_, fun p hp e => ?_⟩
  · rw [List.mem_singleton.mp hp]
    refine ⟨hD, fun e => ?_, ?_⟩
    · obtain ⟨o, ho, _⟩ := ns_obj F.ns
      have e' : D = L := e
      rw [e', ho] at h0; cases h0
    · cases e : h₀.get? D with
      | none => rfl
      | some o => rw [F.keep _ _ e] at h0; cases h0
  · have e' : D = p.1 := e
    rw [e', (N p hp).1] at h0; cases h0
/-- three lists, told as data -/
noncomputable abbrev LL := List (Addr × List Value × Nat)
noncomputable def refsL (l : LL) : List Value := l.map fun p => .ref p.1
noncomputable def objsL (l : LL) : List (Addr × Obj) := l.map fun p => (p.1, W.listOf p.2.1.toArray p.2.2)
theorem objsL_mem {l : LL} {p : Addr × List Value × Nat} (h : p ∈ l) : (p.1, W.listOf p.2.1.toArray p.2.2) ∈ objsL l := List.mem_map_of_mem h
section
variable {w : World} {A : Around} {E : Value → Shared → Prop} {s : Shared}
open PySem.SeqAt
theorem in_rowsL {e R : Addr} {l : LL} {Q : Value → Shared → Prop} (he : s.heap.IsList e #[]) (hR : s.heap.IsList R (refsL l).toArray) (hl : ∀ p ∈ l, s.heap.IsList p.1 p.2.1.toArray ∧ 0 < p.2.1.length)
    (hu : A.units + 8 < cLine) (h : Q (.bool false) s) : wpAny (model PV w) A (compareOp .In (.ref e) (.ref R)) Q E s := by
  have one : ∀ {d : Addr} {v : List Value}, s.heap.IsList d v.toArray → 0 < v.length → EqAt A.in1 s (.ref d) (.ref e) false := fun {d v} hd hz => by
    refine EqAt.of_refs (fun q => ?_) (RcAt.lists_lengths hd he (by simpa using List.ne_nil_of_length_pos hz) ?_)
    · subst q
      obtain ⟨o, ho, _, n, hd1⟩ := hd
      obtain ⟨o', ho', _, n', hd2⟩ := he
      rw [ho] at ho'
      cases ho'
      rw [hd1] at hd2
      have := congrArg (fun d => match d with | Data.seq a _ => a.size | _ => 0) hd2
      simp at this
      rw [this] at hz
      exact Nat.lt_irrefl _ hz
    · show A.units + 1 < cLine
      omega
  refine in_listAt (fun _ => false) hR (fun y hy => ?_) (by rw [show ((refsL l).toArray.any fun _ => false) = false by simp]; exact h)
  have hy' : y ∈ refsL l := by simpa using hy
  obtain ⟨p, hp, rfl⟩ := List.mem_map.mp hy'
  exact one (hl p hp).1 (hl p hp).2
theorem eqv_three (h : List Int) : PyData.eqv (.list [.list (h.map PyData.int), .list (h.map PyData.int), .list (h.map PyData.int)]) (.list [.list (h.map PyData.int), .list (h.map PyData.int), .list (h.map PyData.int)]) = true := by
  simp [PyData.eqv, PyData.eqvAll, ked_eqvAll]
theorem shaped_three (h : List Int) : shaped (.list [.list (h.map PyData.int), .list (h.map PyData.int), .list (h.map PyData.int)]) = true := by
  simp [shaped, PyData.canLay0, PyData.canLayAll0, PyData.depth, PyData.depthAll, ke_canLayAll0, ke_depthAll]
theorem eq_rowsL {R X y : Addr} {l : LL} {h : List Int} {us : List Value} {Q : Value → Shared → Prop} (hR : s.heap.IsList R (refsL l).toArray) (h3 : l.length = 3) (hl : ∀ p ∈ l, s.heap.IsList p.1 p.2.1.toArray ∧ IntsAre p.2.1 h)
    (hX : s.heap.IsList X #[.ref y, .ref y, .ref y]) (hy : s.heap.IsList y us.toArray) (hi : IntsAre us h) (hu : A.units + 64 < cLine) (hq : Q (.bool true) s) : wpAny (model PV w) A (compareOp .Eq (.ref R) (.ref X)) Q E s := by
  obtain ⟨o, ho, hc, n, hd⟩ := hR
  obtain ⟨o', ho', hc', n', hd'⟩ := hX
  rcases l with _ | ⟨p0, _ | ⟨p1, _ | ⟨p2, _ | ⟨p3, l⟩⟩⟩⟩
  case cons.cons.cons.nil =>
    have r0 := hl p0 (.head _)
    have r1 := hl p1 (.tail _ (.head _))
    have r2 := hl p2 (.tail _ (.tail _ (.head _)))
    have ra : ReadsAll s.heap [.ref p0.1, .ref p1.1, .ref p2.1] [.list (h.map PyData.int), .list (h.map PyData.int), .list (h.map PyData.int)] _ :=
      .cons (reads_of_ints r0.1 r0.2) (.cons (reads_of_ints r1.1 r1.2) (.cons (reads_of_ints r2.1 r2.2) .nil))
    have rb : ReadsAll s.heap [.ref y, .ref y, .ref y] [.list (h.map PyData.int), .list (h.map PyData.int), .list (h.map PyData.int)] _ :=
      .cons (reads_of_ints hy hi) (.cons (reads_of_ints hy hi) (.cons (reads_of_ints hy hi) .nil))
    refine eq_dataH (Reads.list ho hc hd ra) (Reads.list ho' hc' hd' rb) (shaped_three h) (shaped_three h) hu ?_
    rw [eqv_three]; exact hq
  all_goals exact absurd h3 (by simp)
theorem eqAt_fi {a : UInt64} {k : Int} {t u : Tok} (h : (Float64.cmpInt a k == some Ordering.eq) = true) : EqAt A s (.float a t) (.int k u) true := fun prog w E Q hq => by
  unfold eqBool
  refine wpAny_holding ?_
  refine wpAny_ite_split (fun hab => nomatch eq_of_beq hab) (fun _ => ?_)
  refine wpAny_bind (eq_fi (prog := prog) (w := w) (A := A) ?_)
  rw [h]
  exact wpAny_truthy_bool hq
open PySem.MeetsSeq2 in
theorem isSame_float {M : Model} {a b : UInt64} {t u : Tok} {Q : Bool → Shared → Prop} (h0 : (t == 0 || u == 0) = false) (hb : NoneBooked s.heap) (hq : ∀ b, Q b s) : wpAny M A (isSame (.float a t) (.float b u)) Q E s := by
  show wpAny M A (isSame.created (a == b && !Float64.isNaN a) t u) Q E s
  unfold isSame.created
  refine wpAny_ite ?_
  split
  · rename_i h; rw [h0] at h; exact absurd h Bool.false_ne_true
  refine wpAny_ite ?_
  split
  · exact wpAny_pure (hq _)
  refine wpAny_ite ?_
  split
  · exact wpAny_pure (hq _)
  refine wpAny_bind (wpAny_sharingNotTold_none hb ?_)
  first | rw [if_neg Bool.false_ne_true] | simp only [Bool.false_eq_true, if_false]
  refine wpAny_bind (wpAny_sharingNotTold_none hb ?_)
  first | rw [if_neg Bool.false_ne_true] | simp only [Bool.false_eq_true, if_false]
  exact wpAny_bind (wpAny_rule (wpAny_bind (wpAny_askSetting (wpAny_pure (hq _)))))
end
section
variable {w : World} {A : Around} {E : Value → Shared → Prop} {s : Shared}
open PySem.SeqAt
theorem eqAt_ff {a b : UInt64} {t u : Tok} (h : (Float64.cmp a b == some Ordering.eq) = true) (h0 : (t == 0 || u == 0) = false) (hb : NoneBooked s.heap) : EqAt A s (.float a t) (.float b u) true := fun prog w E Q hq => by
  unfold eqBool
  refine wpAny_holding ?_
  refine wpAny_ite_split (fun _ => wpAny_bind (wpAny_rule (wpAny_pure hq))) (fun _ => ?_)
  refine wpAny_bind (isSame_float h0 hb fun b => ?_)
  cases b with
  | true => rw [if_pos rfl]; exact wpAny_pure hq
  | false =>
    rw [if_neg (by decide)]
    refine wpAny_bind (AutoFloatOps.eq_0 (prog := prog) (w := w) (A := A) ?_)
    rw [h]
    exact wpAny_truthy_bool hq
theorem eq_grey {d e : Addr} {a b c x : UInt64} {ta tb tc t0 t1 tx : Tok} {Q : Value → Shared → Prop} (hd : s.heap.IsTuple d #[.float a ta, .float b tb, .float c tc]) (he : s.heap.IsTuple e #[.int 0 t0, .int 0 t1, .float x tx])
    (h0 : (Float64.cmpInt a 0 == some Ordering.eq) = true) (h1 : (Float64.cmpInt b 0 == some Ordering.eq) = true) (h2 : (Float64.cmp c x == some Ordering.eq) = true) (ht : (tc == 0 || tx == 0) = false) (hb : NoneBooked s.heap) (hu : A.units < cLine) (hq : Q (.bool true) s) :
    wpAny (model PV w) A (compareOp .Eq (.ref d) (.ref e)) Q E s := by
  refine eq_tupleAt (e := fun _ => true) hd he hu (fun j j1 j2 => ?_) (by show Q (.bool true) s; exact hq)
  rcases j with _ | _ | _ | j
  · exact eqAt_fi h0
  · exact eqAt_fi h1
  · exact eqAt_ff h2 ht hb
  · exact absurd j1 (Nat.not_lt.mpr (Nat.le_add_left 3 j))
end
end
section
open PySem PySem.W PySem.Calls PyProof.Rows
set_option Elab.async false
set_option maxRecDepth 100000
theorem reset_R3 : True := by w_top off; trivial
theorem best3_same {bt : UInt64 → UInt64 → Bool} {x : UInt64} : best3 bt x x x = x := by
  unfold best3; split <;> (first | rfl | (split <;> rfl))
section
variable {w : World} {A : Around} {E : Value → Shared → Prop} {s : Shared} {h₀ : Heap} {L : Addr} {m : PySem.Str → Option Value} {news : List (Addr × Obj)} {x : UInt64} {tx ty tz : Tok} {Q : Value → Shared → Prop}
theorem at_same (h0 : tx ≠ 0) (h1 : ty ≠ 0) (h2 : tz ≠ 0) {i : Nat} {v : Value} (h : (#[Value.float x tx, .float x ty, .float x tz] : Array Value)[i]? = some v) : ∃ t, v = .float x t ∧ t ≠ 0 := by
  match i with
  | 0 => exact ⟨tx, by simpa using h.symm, h0⟩
  | 1 => exact ⟨ty, by simpa using h.symm, h1⟩
  | 2 => exact ⟨tz, by simpa using h.symm, h2⟩
  | n + 3 => simp at h
theorem max3e (hh : A.handled = none) (F : Fr h₀ L s.heap m) (N : News h₀ L s.heap news) (t0 : tx ≠ 0) (t1 : ty ≠ 0) (t2 : tz ≠ 0)
    (h : ∀ t h' tk', t ≠ 0 → Fr h₀ L h' m → News h₀ L h' news → Q (.float x t) { s with heap := h', toks := tk' }) :
    wpAny (model PV w) A (call (.builtin "max") [.float x tx, .float x ty, .float x tz]) Q E s := by
  have hT : (s.heap.push { cls := .type "tuple", data := .seq #[.float x tx, .float x ty, .float x tz] }).IsTuple s.heap.objs.size #[.float x tx, .float x ty, .float x tz] := ⟨_, Heap.get?_push_size _ rfl, rfl, 0, rfl⟩
  have hsz : (s.heap.push { cls := .type "tuple", data := .seq #[.float x tx, .float x ty, .float x tz] }).objs.size = s.heap.objs.size + 1 := Heap.size_push ..
  refine call_max_three (wpAny_pyIter_tuple hT ?_)
  refine ⟨_, [_, s.heap.objs.size], [_], _, _, _, _, rfl, Walks.tuple (A := A.in1) hh _ s.heap.objs.size (by rw [hsz]; exact Nat.ne_of_lt (Nat.lt_succ_self _)) #[.float x tx, .float x ty, .float x tz],
    ⟨⟨_, Heap.get?_push_size _ rfl, rfl, rfl⟩, hT.push _⟩, fun d hd => ?_, by simp, cmp_gtF (valAt x x x) (fun _ _ => at_val), fun v h' tk hP hk => ?_⟩
  · show d < ((s.heap.push _).push _).objs.size
    rw [Heap.size_push, hsz]
    rcases List.mem_cons.mp hd with rfl | hd
    · rw [hsz]; exact Nat.lt_succ_self _
    · rcases List.mem_cons.mp hd with rfl | hd
      · exact Nat.lt_succ_of_lt (Nat.lt_succ_self _)
      · cases hd
  · have hold : ∀ d o, s.heap.get? d = some o → h'.get? d = some o := fun d o e => by
      refine hk d o (fun hm => ?_) (Heap.get?_push_of_some _ (Heap.get?_push_of_some _ e))
      rcases List.mem_cons.mp hm with e1 | hm
      · have := Heap.lt_size e; rw [e1, hsz] at this; exact Nat.lt_irrefl _ (Nat.lt_of_succ_lt this)
      · cases hm
    obtain ⟨t, rfl, ht⟩ := at_same t0 t1 t2 hP
    exact h t h' tk ht (F.keeps hold) (N.grown hold)
end
local macro_rules | `(tactic| walk_at "call builtin:max") => `(tactic| (k_here; (with_unfolding_all refine' max3e ?k1 ?k2 ?k3 ?k4 ?k5 ?k6 ?_; (case k1 => exact rfl); (case k2 | k3 => k_asm); (case k4 | k5 | k6 => assumption); k_whole; intro t' h' tk' tn' F' N')))
local macro_rules | `(tactic| walk_at "call builtin:min") => `(tactic| (k_here; (with_unfolding_all refine' min3f ?k1 ?k2 ?k3 ?_; (case k1 => exact rfl); (case k2 | k3 => k_asm); k_whole; intro t' h' tk' F' N'; (try rw [best3_same]))))
set_option maxHeartbeats 4000000
noncomputable def TupE (h₀ h : Heap) (v : Value) (x : UInt64) : Prop := ∃ d ta tb tc, v = .ref d ∧ h.get? d = some { cls := .type "tuple", data := .seq #[.float 0 ta, .float 0 tb, .float x tc] } ∧ h₀.get? d = none ∧ tc ≠ 0
theorem TupE.of {h₀ h : Heap} {L : Addr} {d : Addr} {ta tb tc : Tok} {x : UInt64} {news : List (Addr × Obj)} (N : News h₀ L h ((d, { cls := .type "tuple", data := .seq #[.float 0 ta, .float 0 tb, .float x tc] }) :: news)) (e : tc ≠ 0) : TupE h₀ h (.ref d) x :=
  ⟨_, _, _, _, rfl, (N _ (.head _)).1, (N _ (.head _)).2.2, e⟩
theorem grey_ok {w : World} {base : Heap} {outer : List Env} {s : Shared} {mg mb : PySem.Str → Option Value} {mean : ExcName → Option Value}
    (B : Below (Lv 480 outer) base outer s.heap) (X : (hd.heap_39 w.params).In s.heap) (T : TopV mg mb mean s.heap)
    (x : UInt64) (tx ty tz : Tok) (t0 : tx ≠ 0) (t1 : ty ≠ 0) (t2 : tz ≠ 0) (ok : (Float64.cmp x x == some Ordering.eq) = true) :
    Gives w 480 outer 49 [.float x tx, .float x ty, .float x tz] s (fun v s' => TupE s.heap s'.heap v x) := by
  k_dflt (refine' enterP (fun n => List.lookup n [(Str.ofString "b", Value.float x tz), (Str.ofString "g", Value.float x ty), (Str.ofString "r", Value.float x tx)]) ?k1 ?k2 ?k3 ?k6 ?k7 ?k8 ?k9 ?kB ?kM ?_ ?c5 ?c2 ?c3 ?c4; (case k1 => k_asm); (case k2 => k_asm); (case k3 => k_asm); (case k6 => k_is); (case k7 => k_is); (case k8 => k_room); (case k9 => exact BindsTo.of_eq rfl); (case kB => exact locs rfl); (case kM => exact rfl); (case c5 => decide); (case c2 => exact rfl); (case c3 => exact rfl); (case c4 => exact rfl); k_whole)
  clear B X T
  intro L' h' tk' F' N' B' X' T'
  (try dsimp only)
  k_fold
  k_steps
  all_goals first
    | exact Ext.to (Ext.refl _) (Fr.keep (by assumption))
    | exact TupE.of (by assumption) (by assumption)
    | (exfalso; simp_all only [Bool.false_eq_true]; done)
end
section
open PySem PySem.W PySem.Calls PyProof.Rows
set_option Elab.async false
set_option maxRecDepth 100000
noncomputable def natF {α : Type} (n : Nat) (k : Nat → α) : α := match n with | 0 => k 0 | m + 1 => k (m + 1)
theorem natF_eq {α : Type} (n : Nat) (k : Nat → α) : natF n k = k n := by cases n <;> rfl
noncomputable def lstF {α : Type} : List Nat → (List Nat → α) → α
  | [], k => k []
  | a :: l, k => natF a fun a => lstF l fun l => k (a :: l)
theorem lstF_eq {α : Type} : ∀ (l : List Nat) (k : List Nat → α), lstF l k = k l
  | [], _ => rfl
  | a :: l, k => (natF_eq a _).trans (lstF_eq l _)
noncomputable def strF {α : Type} (x : PySem.Str) (k : PySem.Str → α) : α := lstF x.cps.toList fun l => k ⟨⟨l⟩⟩
theorem strF_eq {α : Type} (x : PySem.Str) (k : PySem.Str → α) : strF x k = k x := by rw [strF, lstF_eq]
noncomputable def u64F {α : Type} (x : UInt64) (k : UInt64 → α) : α := natF x.toNat fun n => k (UInt64.ofNat n)
theorem u64F_eq {α : Type} (x : UInt64) (k : UInt64 → α) : u64F x k = k x := by rw [u64F, natF_eq, UInt64.ofNat_toNat]
/-- hueB, each float found once -/
noncomputable def hueC (n0 n1 n2 : Nat) (lamp one : Int) : Option Bool :=
  u64F (q4 n0) fun a => u64F (q4 n1) fun b => u64F (q4 n2) fun c =>
  u64F (rgbF a b c).1 fun h => u64F (rgbF a b c).2.1 fun s => u64F (rgbF a b c).2.2 fun v =>
  u64F (hsvF h s v).1 fun x => u64F (hsvF h s v).2.1 fun y => u64F (hsvF h s v).2.2 fun z =>
  if n0 ≤ 9 ∧ n1 ≤ 9 ∧ n2 ≤ 9 ∧ rgbOk a b c = true ∧ hsvOk h s = true ∧ nearF (backF x n0) = true ∧ nearF (backF y n1) = true ∧ nearF (backF z n2) = true
  then some (nearF (hueF h ((9 - 2 * lamp - 2 * one).fmod 6))) else none
noncomputable def hueN (f : List Int) (lamp one : Int) : Option Bool := natF (f.count 0) fun a => natF (f.count 1) fun b => natF (f.count 2) fun c => hueC a b c lamp one
theorem hueN_eq (f : List Int) (lamp one : Int) : hueN f lamp one = hueB f lamp one := by
  simp only [hueN, natF_eq, hueC, u64F_eq]; rfl
noncomputable def preB : List Nat → List Nat → Bool
  | [], _ => true
  | _ :: _, [] => false
  | a :: y, b :: l => Nat.beq a b && preB y l
theorem preB_iff : ∀ (y l : List Nat), preB y l = true ↔ l.take y.length = y
  | [], l => by simp [preB]
  | a :: y, [] => by simp [preB]
  | a :: y, b :: l => by
    rw [preB, Bool.and_eq_true, preB_iff y l, Nat.beq_eq]
    show _ ↔ b :: l.take y.length = a :: y
    rw [List.cons.injEq, eq_comm (a := a)]
theorem sub_pre (x y : PySem.Str) (i : Nat) : Builtin.Str.subAt x y i = preB y.cps.toList (x.cps.toList.drop i) := by
  rw [Bool.eq_iff_iff, preB_iff]
  unfold Builtin.Str.subAt
  rw [beq_iff_eq, ← Array.toList_inj, Array.toList_extract, List.extract_eq_take_drop]
  rw [Nat.add_sub_cancel_left]; rfl
noncomputable def occG (y : List Nat) (n hi limit : Nat) : Nat → Nat → Nat → Nat → List Nat → List Nat
  | 0, _, _, _, _ => []
  | k + 1, i, c, fr, l => cond (Nat.blt c limit && (Nat.ble fr i && (Nat.ble (i + n) hi && preB y l))) (i :: occG y n hi limit k (i + 1) (c + 1) (i + n) l.tail) (occG y n hi limit k (i + 1) c fr l.tail)
theorem occ_go (x y : PySem.Str) (hi limit : Nat) : ∀ (k i : Nat) (st : Array Nat × Nat),
    (forIn (m := Id) (List.range' i k) st (StrLaws.occBody x y hi limit)).run.fst.toList = st.1.toList ++ occG y.cps.toList y.length hi limit k i st.1.size st.2 (x.cps.toList.drop i)
  | 0, i, st => by simp [occG]
  | k + 1, i, st => by
    have hb : (Nat.blt st.1.size limit && (Nat.ble st.2 i && (Nat.ble (i + y.length) hi && preB y.cps.toList (x.cps.toList.drop i)))) = decide (((st.fst.size < limit ∧ st.snd ≤ i) ∧ i + y.length ≤ hi) ∧ Builtin.Str.subAt x y i = true) := by
      rw [← sub_pre, Bool.eq_iff_iff]
      simp only [Bool.and_eq_true, Nat.blt_eq, Nat.ble_eq, decide_eq_true_eq, and_assoc]
    rw [List.range'_succ, List.forIn_cons, occG, hb, List.tail_drop]
    unfold StrLaws.occBody
    by_cases h : ((st.fst.size < limit ∧ st.snd ≤ i) ∧ i + y.length ≤ hi) ∧ Builtin.Str.subAt x y i = true
    · rw [if_pos h, decide_eq_true h, cond_true]
      refine Eq.trans (occ_go x y hi limit k (i + 1) (st.1.push i, i + y.length)) ?_
      simp
    · rw [if_neg h, decide_eq_false h, cond_false]
      exact occ_go x y hi limit k (i + 1) st
noncomputable def occF (x y : PySem.Str) (lo hi limit : Nat) : List Nat := occG y.cps.toList y.length hi limit (hi + 1 - lo) lo 0 lo (x.cps.toList.drop lo)
theorem occF_eq (x y : PySem.Str) (lo hi limit : Nat) : occF x y lo hi limit = Builtin.Str.occurrences x y lo hi limit := by
  rw [StrLaws.occ_eq, occ_go]; rfl
noncomputable def kindF (s : PySem.Str) : Nat := if s.cps.toList.all (· < 256) then 1 else if s.cps.toList.all (· < 65536) then 2 else 4
theorem kindF_eq (s : PySem.Str) : kindF s = Builtin.Str.strKind s := by unfold kindF Builtin.Str.strKind; simp only [Array.all_toList]
noncomputable def partsF (l : List Nat) (n : Nat) (cuts : List Nat) (width : Nat) : List PySem.Str := ((0 :: cuts.map (· + width)).zip (cuts ++ [n])).map fun p => ⟨⟨(l.drop p.1).take (p.2 - p.1)⟩⟩
theorem partsF_eq (s : PySem.Str) (cuts : List Nat) (width : Nat) : partsF s.cps.toList s.length cuts width = Builtin.Str.partsBetween s cuts width := by
  unfold partsF Builtin.Str.partsBetween
  refine congrArg (fun f => List.map f _) (funext fun p => ?_)
  show _ = (⟨s.cps.extract p.1 p.2⟩ : PySem.Str)
  refine congrArg PySem.Str.mk (Array.toList_inj.mp ?_)
  rw [Array.toList_extract, List.extract_eq_take_drop]
noncomputable def splitF (x y : PySem.Str) : List PySem.Str :=
  if (decide (x.length < y.length) || decide (kindF x < kindF y)) = true then [x] else
  if (occF x y 0 x.length (x.length + 1)).isEmpty = true then [x] else partsF x.cps.toList x.length (occF x y 0 x.length (x.length + 1)) y.length
theorem splitF_eq (x y : PySem.Str) : splitF x y = PySem.Txt.split x y := by
  unfold splitF PySem.Txt.split
  simp only [kindF_eq, occF_eq, partsF_eq]
noncomputable def findF (x y : PySem.Str) (i j : Int) : Int := match occF x y (fromIndex x.length i) (min (fromIndex x.length j) x.length) 1 with | k :: _ => (k : Int) | [] => -1
theorem findF_eq (x y : PySem.Str) (i j : Int) : findF x y i j = findR x y i j := by unfold findF findR; rw [occF_eq]; first | done | rfl
noncomputable def findLF (y : PySem.Str) (e : Int) : Int → List PySem.Str → Bool
  | _, [] => true
  | s, z :: r => if findF y z s e < 0 then false else findLF y e (findF y z s e + z.length) r
theorem findLF_eq (y : PySem.Str) (e : Int) : ∀ (l : List PySem.Str) (s : Int), findLF y e s l = findL y e s l
  | [], _ => rfl
  | z :: r, s => by
    show (if findF y z s e < 0 then false else findLF y e (findF y z s e + z.length) r) = (if findR y z s e < 0 then false else findL y e (findR y z s e + z.length) r)
    rw [findF_eq, findLF_eq y e r]
noncomputable def ellQF (y z0 : PySem.Str) (mid : List PySem.Str) (zl : PySem.Str) : Bool :=
  if (decide (0 + z0.length ≤ y.length) && preB z0.cps.toList (y.cps.toList.drop 0)) = true then
    if (decide (0 + zl.length ≤ y.length) && preB zl.cps.toList (y.cps.toList.drop (y.length - zl.length))) = true then
      if (z0.length : Int) > y.length - zl.length then false else findLF y (y.length - zl.length) z0.length mid
    else false
  else false
theorem ellQF_eq (y z0 : PySem.Str) (mid : List PySem.Str) (zl : PySem.Str) : ellQF y z0 mid zl = ellQ y z0 mid zl := by
  unfold ellQF ellQ PySem.Txt.startswith PySem.Txt.endswith
  simp only [sub_pre, findLF_eq]
noncomputable def dots3 : PySem.Str := ⟨⟨[46, 46, 46]⟩⟩
theorem dots3_eq : dots3 = PySem.Str.ofString "..." := by decide +kernel
noncomputable def rgb3 : PySem.Str := ⟨⟨[114, 103, 98]⟩⟩
theorem rgb3_eq : rgb3 = PySem.Str.ofString "rgb" := by decide +kernel
/-- what a text with dots is cut into -/
noncomputable def cutE (x : PySem.Str) : Option (Option (PySem.Str × List PySem.Str × PySem.Str)) :=
  if x.length ≤ 100 then
    if (occF x dots3 0 x.length 1).isEmpty = true then some none
    else match splitF x dots3 with
      | z0 :: r => match r.reverse with
        | zl :: rm => if 0 < z0.length ∧ z0.length ≤ 100 ∧ 0 < zl.length ∧ zl.length ≤ 100 ∧ rm.length ≤ 100 ∧ (rm.all fun z => z.length ≤ 100) = true then some (some (z0, rm.reverse, zl)) else none
        | [] => none
      | [] => none
  else none
noncomputable def strsF {α : Type} : List PySem.Str → (List PySem.Str → α) → α
  | [], k => k []
  | a :: l, k => strF a fun a => strsF l fun l => k (a :: l)
theorem strsF_eq {α : Type} : ∀ (l : List PySem.Str) (k : List PySem.Str → α), strsF l k = k l
  | [], _ => rfl
  | a :: l, k => (strF_eq a _).trans (strsF_eq l _)
noncomputable def askE (c : Option (Option (PySem.Str × List PySem.Str × PySem.Str))) (x y : PySem.Str) : Option Bool := if y.length ≤ 100 then match c with
  | some none => some (x == y)
  | some (some q) => some (ellQF y q.1 q.2.1 q.2.2)
  | none => none else none
noncomputable def cutF {α : Type} (x : PySem.Str) (k : Option (Option (PySem.Str × List PySem.Str × PySem.Str)) → α) : α := match cutE x with
  | some (some q) => strF q.1 fun a => strsF q.2.1 fun b => strF q.2.2 fun c => k (some (some (a, b, c)))
  | some none => k (some none)
  | none => k none
theorem cutF_eq {α : Type} (x : PySem.Str) (k : Option (Option (PySem.Str × List PySem.Str × PySem.Str)) → α) : cutF x k = k (cutE x) := by
  unfold cutF
  split <;> rename_i h <;> rw [h]
  rw [strF_eq, strsF_eq, strF_eq]
theorem askE_eq (x y : PySem.Str) : askE (cutE x) x y = ellB x y := by
  unfold askE cutE ellB
  simp only [occF_eq, splitF_eq, ellQF_eq, dots3_eq]
  by_cases hy : y.length ≤ 100
  · rw [if_pos hy]
    by_cases hx : x.length ≤ 100
    · rw [if_pos hx, if_pos (And.intro hx hy)]
      by_cases ho : (Builtin.Str.occurrences x (PySem.Str.ofString "...") 0 x.length 1).isEmpty = true
      · rw [if_pos ho, if_pos ho]
      · rw [if_neg ho, if_neg ho]
        generalize PySem.Txt.split x (PySem.Str.ofString "...") = l
        rcases l with _ | ⟨z0, r⟩
        · rfl
        · dsimp only
          generalize r.reverse = l'
          rcases l' with _ | ⟨zl, rm⟩
          · rfl
          · dsimp only
            by_cases hc : 0 < z0.length ∧ z0.length ≤ 100 ∧ 0 < zl.length ∧ zl.length ≤ 100 ∧ rm.length ≤ 100 ∧ (rm.all fun z => z.length ≤ 100) = true
            · rw [if_pos hc, if_pos hc]
            · rw [if_neg hc, if_neg hc]
    · rw [if_neg hx, if_neg fun h => hx h.1]
  · rw [if_neg hy, if_neg fun h => hy h.2]
noncomputable def ellF (x y : PySem.Str) : Option Bool := strF x fun x => strF y fun y => cutF x fun c => askE c x y
theorem ellF_eq (x y : PySem.Str) : ellF x y = ellB x y := by rw [ellF, strF_eq, strF_eq, cutF_eq, askE_eq]
noncomputable def wF (c : Option (Option (PySem.Str × List PySem.Str × PySem.Str))) (W y : PySem.Str) (b : Bool) : Bool := strF y fun y => decide (askE c W y = some b)
theorem wF_eq (W y : PySem.Str) (b : Bool) : wF (cutE W) W y b = decide (ellB W y = some b) := by rw [wF, strF_eq, askE_eq]
noncomputable def textF (f : List Int) : PySem.Str := PySem.Txt.join ⟨⟨[]⟩⟩ (f.map fun k => PySem.Txt.item rgb3 k)
theorem textF_eq (f : List Int) : textF f = textT f := by unfold textF textT rgbC; rw [rgb3_eq]; rfl
noncomputable def wantF (f : List Int) (lamp one : Int) : PySem.Str := PySem.Txt.item rgb3 lamp ++ PySem.Txt.mul (dots3 ++ PySem.Txt.item rgb3 one) (f.count lamp : Nat)
theorem wantF_eq (f : List Int) (lamp one : Int) : wantF f lamp one = wantT f lamp one := by unfold wantF wantT; rw [rgb3_eq, dots3_eq]
noncomputable def dotF (f : List Int) (lamp one : Int) : Option Bool :=
  strF (textF f) fun T => strF (wantF f lamp one) fun W => cutF W fun c =>
  if f.count lamp ≤ 3 ∧ 2 ≤ T.length ∧ T.length ≤ 9 then
    match askE c W T with
    | some false => some false
    | some true => if (wF c W (PySem.Txt.slice T (some 1) none ++ PySem.Txt.item T 0) false && (wF c W T true && (wF c W (PySem.Txt.item T (-1) ++ T) false && ([(T, T, true), (PySem.Txt.slice T (some 1) none, T, false), (T ++ dots3 ++ PySem.Txt.item T (-1), T, false)].all fun q => decide (ellF q.1 q.2.1 = some q.2.2))))) = true then some true else none
    | none => none
  else none
theorem dotF_eq (f : List Int) (lamp one : Int) : dotF f lamp one = dotB f lamp one := by
  simp only [dotF, strF_eq, cutF_eq, ellF_eq, askE_eq, wF_eq, textF_eq, wantF_eq, dots3_eq]; rfl
noncomputable def quo1 : PySem.Str := ⟨⟨[34]⟩⟩
theorem quo1_eq : quo1 = PySem.Str.ofString "\"" := by decide +kernel
noncomputable def lost8 : PySem.Str := ⟨⟨[40, 39, 39, 44, 32, 39, 39, 41]⟩⟩
theorem lost8_eq : lost8 = PySem.Str.ofString "('', '')" := by decide +kernel
noncomputable def opn1 : PySem.Str := ⟨⟨[40]⟩⟩
theorem opn1_eq : opn1 = PySem.Str.ofString "(" := by decide +kernel
noncomputable def cls1 : PySem.Str := ⟨⟨[41]⟩⟩
theorem cls1_eq : cls1 = PySem.Str.ofString ")" := by decide +kernel
noncomputable def qcl3 : PySem.Str := ⟨⟨[34, 41, 34]⟩⟩
theorem qcl3_eq : qcl3 = PySem.Str.ofString "\")\"" := by decide +kernel
noncomputable def esc2 : PySem.Str := ⟨⟨[92, 40]⟩⟩
theorem esc2_eq : esc2 = PySem.Str.ofString "\\(" := by decide +kernel
noncomputable def stripF (x : PySem.Str) : PySem.Str :=
  if (occF x quo1 0 x.length 1).isEmpty = true then x else
    let q := (escG 0 false 0 x.cps.toList).foldl (sStep x) (0, none, [])
    PySem.Txt.join ⟨⟨[]⟩⟩ (if q.1 < (x.length : Int) then q.2.2 ++ [PySem.Txt.slice x (some q.1) none] else q.2.2)
theorem stripF_eq (x : PySem.Str) : stripF x = stripP x := by unfold stripF stripP; rw [occF_eq, quo1_eq]; rfl
noncomputable def pF {α : Type} (x : PySem.Str) (k : PySem.Str → PySem.Str → α) : α := strF (stripF x) fun s => k s (if chkI 0 (escG 0 false 0 s.cps.toList) then x else lost8)
theorem pF_eq {α : Type} (x : PySem.Str) (k : PySem.Str → PySem.Str → α) : pF x k = k (stripP x) (ppvP x) := by rw [pF, strF_eq, stripF_eq, lost8_eq]; rfl
noncomputable def textBF (lamp one : Int) (f : List Int) : PySem.Str := PySem.Txt.join ⟨⟨[]⟩⟩ (f.map fun k => if k = lamp then opn1 else if k = one then cls1 else if (one - lamp).fmod 3 = 1 then qcl3 else esc2)
theorem textBF_eq (lamp one : Int) (f : List Int) : textBF lamp one f = textB lamp one f := by unfold textBF textB; rw [opn1_eq, cls1_eq, qcl3_eq, esc2_eq]; rfl
noncomputable def brkF (f : List Int) (lamp one : Int) : Option Bool :=
  strF (textBF lamp one f) fun T => strF (PySem.Txt.slice T (some 1) none ++ opn1) fun P => strF (cls1 ++ T) fun R => pF T fun sT t => pF P fun sP p => pF R fun sR r =>
  if (T.length ≤ 1000 ∧ sT.length ≤ 1000) ∧ (P.length ≤ 1000 ∧ sP.length ≤ 1000) ∧ (R.length ≤ 1000 ∧ sR.length ≤ 1000) ∧ 2 ≤ T.length ∧ T.length ≤ 30 then
    if (t == lost8) = true then some false else
      if ((p == lost8) && ((t == T) && ((r == lost8) && (t == T)))) = true then some true else none
  else none
theorem brkF_eq (f : List Int) (lamp one : Int) : brkF f lamp one = brkB f lamp one := by
  simp only [brkF, strF_eq, pF_eq, textBF_eq, opn1_eq, cls1_eq, lost8_eq]; rfl
noncomputable def asksF (lamp : Int) (p : List Int) : Bool := decide (lastI p = lamp) || (decide (hueN p lamp (lastI p) = some (tieC p lamp (lastI p))) && (decide (brkF p lamp (lastI p) = some (tieC p lamp (lastI p))) && decide (dotF p lamp (lastI p) = some (tieC p lamp (lastI p)))))
theorem asksF_eq (lamp : Int) (p : List Int) : asksF lamp p = asks1 lamp p := by
  simp only [asksF, hueN_eq, brkF_eq, dotF_eq]
  simp [asks1, List.range_succ, tieR]
noncomputable def iterN (h : List Int → List Int) : Nat → List Int → List Int
  | 0, f => f
  | n + 1, f => iterN h n (h f)
theorem iterN_succ (h : List Int → List Int) : ∀ (n : Nat) (f : List Int), iterN h (n + 1) f = h (iterN h n f)
  | 0, _ => rfl
  | n + 1, f => iterN_succ h n (h f)
noncomputable def backC (lamp : Int) (f : List Int) : List Int := f.map fun x => (2 * lamp - x).fmod 3
noncomputable def intF {α : Type} (x : Int) (k : Int → α) : α := match x with | .ofNat n => natF n fun n => k (.ofNat n) | .negSucc n => natF n fun n => k (.negSucc n)
theorem intF_eq {α : Type} (x : Int) (k : Int → α) : intF x k = k x := by cases x <;> simp only [intF, natF_eq]
noncomputable def intsF {α : Type} : List Int → (List Int → α) → α
  | [], k => k []
  | a :: l, k => intF a fun a => intsF l fun l => k (a :: l)
theorem intsF_eq {α : Type} : ∀ (l : List Int) (k : List Int → α), intsF l k = k l
  | [], _ => rfl
  | a :: l, k => (intF_eq a _).trans (intsF_eq l _)
noncomputable def iterF {α : Type} (h : List Int → List Int) : Nat → List Int → (List Int → α) → α
  | 0, f, k => k f
  | n + 1, f, k => intsF (h f) fun g => iterF h n g k
theorem iterF_eq {α : Type} (h : List Int → List Int) : ∀ (n : Nat) (f : List Int) (k : List Int → α), iterF h n f k = k (iterN h n f)
  | 0, _, _ => rfl
  | n + 1, f, k => (intsF_eq (h f) _).trans (iterF_eq h n (h f) k)
noncomputable def backF' (lamp : Int) (size : Nat) (f : List Int) : Bool := intsF f fun f => iterF (stepC lamp) size f fun g => decide (g = backC lamp f)
theorem backF'_eq (lamp : Int) (size : Nat) (f : List Int) : backF' lamp size f = decide (iterN (stepC lamp) size f = backC lamp f) := by rw [backF', intsF_eq, iterF_eq]
noncomputable def chkFree (size : Nat) (lamp : Int) : Bool := (List.range (size - 1)).all fun j => (level size lamp j).all fun row => !(freeF size lamp row).isEmpty
noncomputable def okRow (size : Nat) (lamp : Int) : List Int → List Int → Bool
  | _, [] => true
  | p, c :: r => (freeF size lamp p).contains c && okRow size lamp (p ++ [c]) r
noncomputable def isRow (size : Nat) (lamp : Int) (f : List Int) : Bool := match f with | x :: r => decide (x = lamp) && decide (r.length = size - 1) && okRow size lamp [x] r | [] => false
theorem okRow_level {size : Nat} {lamp : Int} : ∀ (r : List Int) {p : List Int} {j : Nat}, p ∈ level size lamp j → okRow size lamp p r = true → p ++ r ∈ level size lamp (j + r.length)
  | [], p, j, hp, _ => by simpa using hp
  | c :: r, p, j, hp, h => by
    rw [okRow, Bool.and_eq_true] at h
    have hc : c ∈ freeF size lamp p := by simpa using h.1
    have := okRow_level r (p := p ++ [c]) (j := j + 1) (List.mem_flatMap.mpr ⟨p, hp, List.mem_map.mpr ⟨c, hc, rfl⟩⟩) h.2
    rw [List.append_assoc] at this
    rw [List.length_cons, show j + (r.length + 1) = j + 1 + r.length by omega]
    exact this
theorem isRow_level {size : Nat} {lamp : Int} {f : List Int} (h : isRow size lamp f = true) : f ∈ level size lamp (size - 1) := by
  match f, h with
  | x :: r, h =>
    simp only [isRow, Bool.and_eq_true, decide_eq_true_eq] at h
    obtain ⟨⟨rfl, hl⟩, ho⟩ := h
    have := okRow_level r (j := 0) (List.mem_singleton.mpr rfl) ho
    rw [Nat.zero_add, hl] at this
    exact this
noncomputable def chkStay (size : Nat) (lamp : Int) : Bool := (level size lamp (size - 1)).all fun f => isRow size lamp (stepC lamp f)
noncomputable def chkBack (size : Nat) (lamp : Int) : Bool := (level size lamp (size - 1)).all (backF' lamp size)
noncomputable def chkRgb (size : Nat) (lamp : Int) : Bool := (level size lamp (size - 1)).all fun f => (f.all fun x => decide (0 ≤ x ∧ x ≤ 2)) && decide (f.count 0 * 3 = size ∧ f.count 1 * 3 = size ∧ f.count 2 * 3 = size)
noncomputable def chkAsk (size : Nat) (lamp : Int) (j : Nat) : Bool := (live size lamp j).all (asksF lamp)
theorem all_chunks {α : Type} {l : List α} {q : α → Bool} (w n : Nat) (hw : 0 < w) (hl : l.length ≤ w * n) (h : ∀ k, k < n → ((l.drop (w * k)).take w).all q = true) : l.all q = true := by
  refine List.all_eq_true.mpr fun x hx => ?_
  obtain ⟨i, hi, rfl⟩ := List.mem_iff_getElem.mp hx
  have hk : i / w < n := Nat.div_lt_of_lt_mul (Nat.lt_of_lt_of_le hi hl)
  refine List.all_eq_true.mp (h _ hk) _ (List.mem_of_getElem? (i := i % w) ?_)
  rw [List.getElem?_take, if_pos (Nat.mod_lt _ hw), List.getElem?_drop, Nat.div_add_mod]
  exact List.getElem?_eq_getElem hi
noncomputable def partAsk (size : Nat) (lamp : Int) (j w k : Nat) : Bool := (((live size lamp j).drop (w * k)).take w).all (asksF lamp)
noncomputable def partBack (size : Nat) (lamp : Int) (w k : Nat) : Bool := (((level size lamp (size - 1)).drop (w * k)).take w).all (backF' lamp size)
/-- what is found by counting through -/
structure FinF (size : Nat) (lamp : Int) : Prop where
  free : ∀ j, j < size - 1 → ∀ row ∈ level size lamp j, freeF size lamp row ≠ []
  ask : ∀ j, j ≤ size - 1 → ∀ p ∈ live size lamp j, asks1 lamp p = true
  stay : ∀ f ∈ level size lamp (size - 1), stepC lamp f ∈ level size lamp (size - 1)
  back : ∀ f ∈ level size lamp (size - 1), iterN (stepC lamp) size f = backC lamp f
  rgb : ∀ f ∈ level size lamp (size - 1), (∀ x ∈ f, 0 ≤ x ∧ x ≤ 2) ∧ f.count 0 * 3 = size ∧ f.count 1 * 3 = size ∧ f.count 2 * 3 = size
theorem FinF.of {size : Nat} {lamp : Int} (h1 : chkFree size lamp = true) (h2 : ∀ j, j ≤ size - 1 → chkAsk size lamp j = true) (h3 : chkStay size lamp = true) (h4 : chkBack size lamp = true) (h5 : chkRgb size lamp = true) : FinF size lamp where
  free j hj row hr e := by
    have := List.all_eq_true.mp (List.all_eq_true.mp h1 j (List.mem_range.mpr hj)) row hr
    rw [e] at this; cases this
  ask j hj p hp := (asksF_eq lamp p).symm.trans (List.all_eq_true.mp (h2 j hj) p hp)
  stay f hf := isRow_level (List.all_eq_true.mp h3 f hf)
  back f hf := of_decide_eq_true ((backF'_eq lamp size f).symm.trans (List.all_eq_true.mp h4 f hf))
  rgb f hf := by
    have := List.all_eq_true.mp h5 f hf
    rw [Bool.and_eq_true] at this
    exact ⟨fun x hx => of_decide_eq_true (List.all_eq_true.mp this.1 x hx), of_decide_eq_true this.2⟩
theorem ask_60_0 : chkAsk 6 0 0 = true := by decide +kernel
theorem ask_60_1 : chkAsk 6 0 1 = true := by decide +kernel
theorem ask_60_2 : chkAsk 6 0 2 = true := by decide +kernel
theorem ask_60_3 : chkAsk 6 0 3 = true := by decide +kernel
theorem ask_60_4 : chkAsk 6 0 4 = true := by decide +kernel
theorem ask_60_5 : chkAsk 6 0 5 = true := by decide +kernel
theorem stay_60 : chkStay 6 0 = true := by decide +kernel
theorem back_60 : chkBack 6 0 = true := by decide +kernel
theorem fin_60 : FinF 6 0 := .of (by decide +kernel) (fun j hj => by
  match j, hj with
  | 0, _ => exact ask_60_0
  | 1, _ => exact ask_60_1
  | 2, _ => exact ask_60_2
  | 3, _ => exact ask_60_3
  | 4, _ => exact ask_60_4
  | 5, _ => exact ask_60_5
  | j + 6, hj => exact absurd hj (by omega)) stay_60 back_60 (by decide +kernel)
theorem ask_61_0 : chkAsk 6 1 0 = true := by decide +kernel
theorem ask_61_1 : chkAsk 6 1 1 = true := by decide +kernel
theorem ask_61_2 : chkAsk 6 1 2 = true := by decide +kernel
theorem ask_61_3 : chkAsk 6 1 3 = true := by decide +kernel
theorem ask_61_4 : chkAsk 6 1 4 = true := by decide +kernel
theorem ask_61_5 : chkAsk 6 1 5 = true := by decide +kernel
theorem stay_61 : chkStay 6 1 = true := by decide +kernel
theorem back_61 : chkBack 6 1 = true := by decide +kernel
theorem fin_61 : FinF 6 1 := .of (by decide +kernel) (fun j hj => by
  match j, hj with
  | 0, _ => exact ask_61_0
  | 1, _ => exact ask_61_1
  | 2, _ => exact ask_61_2
  | 3, _ => exact ask_61_3
  | 4, _ => exact ask_61_4
  | 5, _ => exact ask_61_5
  | j + 6, hj => exact absurd hj (by omega)) stay_61 back_61 (by decide +kernel)
theorem ask_62_0 : chkAsk 6 2 0 = true := by decide +kernel
theorem ask_62_1 : chkAsk 6 2 1 = true := by decide +kernel
theorem ask_62_2 : chkAsk 6 2 2 = true := by decide +kernel
theorem ask_62_3 : chkAsk 6 2 3 = true := by decide +kernel
theorem ask_62_4 : chkAsk 6 2 4 = true := by decide +kernel
theorem ask_62_5 : chkAsk 6 2 5 = true := by decide +kernel
theorem stay_62 : chkStay 6 2 = true := by decide +kernel
theorem back_62 : chkBack 6 2 = true := by decide +kernel
theorem fin_62 : FinF 6 2 := .of (by decide +kernel) (fun j hj => by
  match j, hj with
  | 0, _ => exact ask_62_0
  | 1, _ => exact ask_62_1
  | 2, _ => exact ask_62_2
  | 3, _ => exact ask_62_3
  | 4, _ => exact ask_62_4
  | 5, _ => exact ask_62_5
  | j + 6, hj => exact absurd hj (by omega)) stay_62 back_62 (by decide +kernel)
theorem ask_90_0 : chkAsk 9 0 0 = true := by decide +kernel
theorem ask_90_1 : chkAsk 9 0 1 = true := by decide +kernel
theorem ask_90_2 : chkAsk 9 0 2 = true := by decide +kernel
theorem ask_90_3 : chkAsk 9 0 3 = true := by decide +kernel
theorem ask_90_4_0 : partAsk 9 0 4 8 0 = true := by decide +kernel
theorem ask_90_4_1 : partAsk 9 0 4 8 1 = true := by decide +kernel
theorem ask_90_4 : chkAsk 9 0 4 = true := all_chunks 8 2 (by decide) (by decide +kernel) (fun k hk => by
  match k, hk with
  | 0, _ => exact ask_90_4_0
  | 1, _ => exact ask_90_4_1
  | k + 2, hk => exact absurd hk (by omega))
theorem ask_90_5_0 : partAsk 9 0 5 8 0 = true := by decide +kernel
theorem ask_90_5_1 : partAsk 9 0 5 8 1 = true := by decide +kernel
theorem ask_90_5_2 : partAsk 9 0 5 8 2 = true := by decide +kernel
theorem ask_90_5 : chkAsk 9 0 5 = true := all_chunks 8 3 (by decide) (by decide +kernel) (fun k hk => by
  match k, hk with
  | 0, _ => exact ask_90_5_0
  | 1, _ => exact ask_90_5_1
  | 2, _ => exact ask_90_5_2
  | k + 3, hk => exact absurd hk (by omega))
theorem ask_90_6_0 : partAsk 9 0 6 8 0 = true := by decide +kernel
theorem ask_90_6_1 : partAsk 9 0 6 8 1 = true := by decide +kernel
theorem ask_90_6_2 : partAsk 9 0 6 8 2 = true := by decide +kernel
theorem ask_90_6_3 : partAsk 9 0 6 8 3 = true := by decide +kernel
theorem ask_90_6 : chkAsk 9 0 6 = true := all_chunks 8 4 (by decide) (by decide +kernel) (fun k hk => by
  match k, hk with
  | 0, _ => exact ask_90_6_0
  | 1, _ => exact ask_90_6_1
  | 2, _ => exact ask_90_6_2
  | 3, _ => exact ask_90_6_3
  | k + 4, hk => exact absurd hk (by omega))
theorem ask_90_7_0 : partAsk 9 0 7 8 0 = true := by decide +kernel
theorem ask_90_7_1 : partAsk 9 0 7 8 1 = true := by decide +kernel
theorem ask_90_7_2 : partAsk 9 0 7 8 2 = true := by decide +kernel
theorem ask_90_7_3 : partAsk 9 0 7 8 3 = true := by decide +kernel
theorem ask_90_7 : chkAsk 9 0 7 = true := all_chunks 8 4 (by decide) (by decide +kernel) (fun k hk => by
  match k, hk with
  | 0, _ => exact ask_90_7_0
  | 1, _ => exact ask_90_7_1
  | 2, _ => exact ask_90_7_2
  | 3, _ => exact ask_90_7_3
  | k + 4, hk => exact absurd hk (by omega))
theorem ask_90_8 : chkAsk 9 0 8 = true := by decide +kernel
theorem stay_90 : chkStay 9 0 = true := by decide +kernel
theorem back_90_0 : partBack 9 0 64 0 = true := by decide +kernel
theorem back_90_1 : partBack 9 0 64 1 = true := by decide +kernel
theorem back_90_2 : partBack 9 0 64 2 = true := by decide +kernel
theorem back_90 : chkBack 9 0 = true := all_chunks 64 3 (by decide) (by decide +kernel) (fun k hk => by
  match k, hk with
  | 0, _ => exact back_90_0
  | 1, _ => exact back_90_1
  | 2, _ => exact back_90_2
  | k + 3, hk => exact absurd hk (by omega))
theorem fin_90 : FinF 9 0 := .of (by decide +kernel) (fun j hj => by
  match j, hj with
  | 0, _ => exact ask_90_0
  | 1, _ => exact ask_90_1
  | 2, _ => exact ask_90_2
  | 3, _ => exact ask_90_3
  | 4, _ => exact ask_90_4
  | 5, _ => exact ask_90_5
  | 6, _ => exact ask_90_6
  | 7, _ => exact ask_90_7
  | 8, _ => exact ask_90_8
  | j + 9, hj => exact absurd hj (by omega)) stay_90 back_90 (by decide +kernel)
theorem ask_91_0 : chkAsk 9 1 0 = true := by decide +kernel
theorem ask_91_1 : chkAsk 9 1 1 = true := by decide +kernel
theorem ask_91_2 : chkAsk 9 1 2 = true := by decide +kernel
theorem ask_91_3 : chkAsk 9 1 3 = true := by decide +kernel
theorem ask_91_4_0 : partAsk 9 1 4 8 0 = true := by decide +kernel
theorem ask_91_4_1 : partAsk 9 1 4 8 1 = true := by decide +kernel
theorem ask_91_4 : chkAsk 9 1 4 = true := all_chunks 8 2 (by decide) (by decide +kernel) (fun k hk => by
  match k, hk with
  | 0, _ => exact ask_91_4_0
  | 1, _ => exact ask_91_4_1
  | k + 2, hk => exact absurd hk (by omega))
theorem ask_91_5_0 : partAsk 9 1 5 8 0 = true := by decide +kernel
theorem ask_91_5_1 : partAsk 9 1 5 8 1 = true := by decide +kernel
theorem ask_91_5_2 : partAsk 9 1 5 8 2 = true := by decide +kernel
theorem ask_91_5 : chkAsk 9 1 5 = true := all_chunks 8 3 (by decide) (by decide +kernel) (fun k hk => by
  match k, hk with
  | 0, _ => exact ask_91_5_0
  | 1, _ => exact ask_91_5_1
  | 2, _ => exact ask_91_5_2
  | k + 3, hk => exact absurd hk (by omega))
theorem ask_91_6_0 : partAsk 9 1 6 8 0 = true := by decide +kernel
theorem ask_91_6_1 : partAsk 9 1 6 8 1 = true := by decide +kernel
theorem ask_91_6_2 : partAsk 9 1 6 8 2 = true := by decide +kernel
theorem ask_91_6_3 : partAsk 9 1 6 8 3 = true := by decide +kernel
theorem ask_91_6 : chkAsk 9 1 6 = true := all_chunks 8 4 (by decide) (by decide +kernel) (fun k hk => by
  match k, hk with
  | 0, _ => exact ask_91_6_0
  | 1, _ => exact ask_91_6_1
  | 2, _ => exact ask_91_6_2
  | 3, _ => exact ask_91_6_3
  | k + 4, hk => exact absurd hk (by omega))
theorem ask_91_7_0 : partAsk 9 1 7 8 0 = true := by decide +kernel
theorem ask_91_7_1 : partAsk 9 1 7 8 1 = true := by decide +kernel
theorem ask_91_7_2 : partAsk 9 1 7 8 2 = true := by decide +kernel
theorem ask_91_7_3 : partAsk 9 1 7 8 3 = true := by decide +kernel
theorem ask_91_7 : chkAsk 9 1 7 = true := all_chunks 8 4 (by decide) (by decide +kernel) (fun k hk => by
  match k, hk with
  | 0, _ => exact ask_91_7_0
  | 1, _ => exact ask_91_7_1
  | 2, _ => exact ask_91_7_2
  | 3, _ => exact ask_91_7_3
  | k + 4, hk => exact absurd hk (by omega))
theorem ask_91_8 : chkAsk 9 1 8 = true := by decide +kernel
theorem stay_91 : chkStay 9 1 = true := by decide +kernel
theorem back_91_0 : partBack 9 1 64 0 = true := by decide +kernel
theorem back_91_1 : partBack 9 1 64 1 = true := by decide +kernel
theorem back_91_2 : partBack 9 1 64 2 = true := by decide +kernel
theorem back_91 : chkBack 9 1 = true := all_chunks 64 3 (by decide) (by decide +kernel) (fun k hk => by
  match k, hk with
  | 0, _ => exact back_91_0
  | 1, _ => exact back_91_1
  | 2, _ => exact back_91_2
  | k + 3, hk => exact absurd hk (by omega))
theorem fin_91 : FinF 9 1 := .of (by decide +kernel) (fun j hj => by
  match j, hj with
  | 0, _ => exact ask_91_0
  | 1, _ => exact ask_91_1
  | 2, _ => exact ask_91_2
  | 3, _ => exact ask_91_3
  | 4, _ => exact ask_91_4
  | 5, _ => exact ask_91_5
  | 6, _ => exact ask_91_6
  | 7, _ => exact ask_91_7
  | 8, _ => exact ask_91_8
  | j + 9, hj => exact absurd hj (by omega)) stay_91 back_91 (by decide +kernel)
theorem ask_92_0 : chkAsk 9 2 0 = true := by decide +kernel
theorem ask_92_1 : chkAsk 9 2 1 = true := by decide +kernel
theorem ask_92_2 : chkAsk 9 2 2 = true := by decide +kernel
theorem ask_92_3 : chkAsk 9 2 3 = true := by decide +kernel
theorem ask_92_4_0 : partAsk 9 2 4 8 0 = true := by decide +kernel
theorem ask_92_4_1 : partAsk 9 2 4 8 1 = true := by decide +kernel
theorem ask_92_4 : chkAsk 9 2 4 = true := all_chunks 8 2 (by decide) (by decide +kernel) (fun k hk => by
  match k, hk with
  | 0, _ => exact ask_92_4_0
  | 1, _ => exact ask_92_4_1
  | k + 2, hk => exact absurd hk (by omega))
theorem ask_92_5_0 : partAsk 9 2 5 8 0 = true := by decide +kernel
theorem ask_92_5_1 : partAsk 9 2 5 8 1 = true := by decide +kernel
theorem ask_92_5_2 : partAsk 9 2 5 8 2 = true := by decide +kernel
theorem ask_92_5 : chkAsk 9 2 5 = true := all_chunks 8 3 (by decide) (by decide +kernel) (fun k hk => by
  match k, hk with
  | 0, _ => exact ask_92_5_0
  | 1, _ => exact ask_92_5_1
  | 2, _ => exact ask_92_5_2
  | k + 3, hk => exact absurd hk (by omega))
theorem ask_92_6_0 : partAsk 9 2 6 8 0 = true := by decide +kernel
theorem ask_92_6_1 : partAsk 9 2 6 8 1 = true := by decide +kernel
theorem ask_92_6_2 : partAsk 9 2 6 8 2 = true := by decide +kernel
theorem ask_92_6_3 : partAsk 9 2 6 8 3 = true := by decide +kernel
theorem ask_92_6 : chkAsk 9 2 6 = true := all_chunks 8 4 (by decide) (by decide +kernel) (fun k hk => by
  match k, hk with
  | 0, _ => exact ask_92_6_0
  | 1, _ => exact ask_92_6_1
  | 2, _ => exact ask_92_6_2
  | 3, _ => exact ask_92_6_3
  | k + 4, hk => exact absurd hk (by omega))
theorem ask_92_7_0 : partAsk 9 2 7 8 0 = true := by decide +kernel
theorem ask_92_7_1 : partAsk 9 2 7 8 1 = true := by decide +kernel
theorem ask_92_7_2 : partAsk 9 2 7 8 2 = true := by decide +kernel
theorem ask_92_7_3 : partAsk 9 2 7 8 3 = true := by decide +kernel
theorem ask_92_7 : chkAsk 9 2 7 = true := all_chunks 8 4 (by decide) (by decide +kernel) (fun k hk => by
  match k, hk with
  | 0, _ => exact ask_92_7_0
  | 1, _ => exact ask_92_7_1
  | 2, _ => exact ask_92_7_2
  | 3, _ => exact ask_92_7_3
  | k + 4, hk => exact absurd hk (by omega))
theorem ask_92_8 : chkAsk 9 2 8 = true := by decide +kernel
theorem stay_92 : chkStay 9 2 = true := by decide +kernel
theorem back_92_0 : partBack 9 2 64 0 = true := by decide +kernel
theorem back_92_1 : partBack 9 2 64 1 = true := by decide +kernel
theorem back_92_2 : partBack 9 2 64 2 = true := by decide +kernel
theorem back_92 : chkBack 9 2 = true := all_chunks 64 3 (by decide) (by decide +kernel) (fun k hk => by
  match k, hk with
  | 0, _ => exact back_92_0
  | 1, _ => exact back_92_1
  | 2, _ => exact back_92_2
  | k + 3, hk => exact absurd hk (by omega))
theorem fin_92 : FinF 9 2 := .of (by decide +kernel) (fun j hj => by
  match j, hj with
  | 0, _ => exact ask_92_0
  | 1, _ => exact ask_92_1
  | 2, _ => exact ask_92_2
  | 3, _ => exact ask_92_3
  | 4, _ => exact ask_92_4
  | 5, _ => exact ask_92_5
  | 6, _ => exact ask_92_6
  | 7, _ => exact ask_92_7
  | 8, _ => exact ask_92_8
  | j + 9, hj => exact absurd hj (by omega)) stay_92 back_92 (by decide +kernel)
theorem fin_all {size : Nat} {lamp : Int} (hs : size = 6 ∨ size = 9) (h0 : 0 ≤ lamp) (h1 : lamp < 3) : FinF size lamp := by
  obtain ⟨n, rfl⟩ := Int.eq_ofNat_of_zero_le h0
  have hn : n < 3 := Int.ofNat_lt.mp h1
  rcases n with _ | _ | _ | n
  · exact hs.elim (fun e => e ▸ fin_60) fun e => e ▸ fin_90
  · exact hs.elim (fun e => e ▸ fin_61) fun e => e ▸ fin_91
  · exact hs.elim (fun e => e ▸ fin_62) fun e => e ▸ fin_92
  · exact absurd hn (Nat.not_lt.mpr (Nat.le_add_left 3 n))
end
section
open PySem PySem.W PySem.Calls PyProof.Rows PyProof.Rows.LCg
set_option Elab.async false
set_option maxRecDepth 100000
noncomputable def lMp (m0 : PySem.Str → Option Value) (vs : Option Value) : PySem.Str → Option Value := fun n => if n = (PySem.Str.ofString "step") then vs else m0 n
theorem lMp_start (m0 : PySem.Str → Option Value) : m0 = lMp m0 (m0 (PySem.Str.ofString "step")) := by
  funext n
  simp only [lMp]
  split
  · rename_i h; rw [h]
  · rfl
theorem lMp_end (m0 : PySem.Str → Option Value) (vs vs' : Option Value) : (fun n => if n = (PySem.Str.ofString "step") then vs' else lMp m0 vs n) = lMp m0 vs' := by
  funext n
  simp only [lMp]
  by_cases q1 : n = (PySem.Str.ofString "step")
  · simp only [if_pos q1]
  simp only [if_neg q1]
theorem lMp_size (m0 : PySem.Str → Option Value) {x : Value} (h : m0 (PySem.Str.ofString "size") = some x) {vs : Option Value} : lMp m0 vs = fun n => if n = (PySem.Str.ofString "size") then some x else lMp m0 vs n := by
  funext n
  by_cases q : n = (PySem.Str.ofString "size")
  · subst q
    rw [if_pos rfl, ← h]
    rfl
  · rw [if_neg q]
/-- what holds between the steps -/
structure LJ (h : Nat → List Int) (m0 : PySem.Str → Option Value) (cr cd D : Addr) (od : Obj) (vD : List Value) (nD : Nat) (k : Nat) (m : PySem.Str → Option Value) (news : List (Addr × Obj)) : Prop where
  at_ : ∃ vs R nR oc l, m = lMp m0 vs ∧ news = (cr, oc) :: (cd, od) :: (D, W.listOf vD.toArray nD) :: (R, W.listOf (refsL l).toArray nR) :: objsL l ∧ oc.data = .cell (some (.ref R)) ∧ l.length = 3 ∧ (∀ p ∈ l, IntsAre p.2.1 (h k) ∧ @Ne Nat p.1 cr) ∧ @Ne Nat R cr
theorem LJ.cls {h : Nat → List Int} {m0 : PySem.Str → Option Value} {cr cd D : Addr} {od : Obj} {vD : List Value} {nD : Nat} {v : Option Value} (hd : od.data = .cell v) : ∀ k m news, LJ h m0 cr cd D od vD nD k m news → ∀ p ∈ news, ∀ z, p.2.data ≠ .fields z := by
  rintro k m news ⟨vs, R, nR, oc, l, rfl, rfl, hoc, h3, hl, hR⟩ p hp z e
  rcases List.mem_cons.mp hp with rfl | hp
  · rw [hoc] at e; cases e
  rcases List.mem_cons.mp hp with rfl | hp
  · rw [hd] at e; cases e
  rcases List.mem_cons.mp hp with rfl | hp
  · cases e
  rcases List.mem_cons.mp hp with rfl | hp
  · cases e
  obtain ⟨q, _, rfl⟩ := List.mem_map.mp hp
  cases e
noncomputable def RowsJ (cr : Addr) (f : List Int) (i : Nat) (ys : List Value) (gr : List (Addr × Obj)) : Prop := ∃ l : LL, l.length = i ∧ ys = refsL l ∧ gr = objsL l ∧ ∀ p ∈ l, IntsAre p.2.1 f ∧ @Ne Nat p.1 cr
theorem lev_iter {size : Nat} {lamp : Int} {g : List Int} (Z : FinF size lamp) (hg : g ∈ level size lamp (size - 1)) : ∀ k, iterN (stepC lamp) k g ∈ level size lamp (size - 1)
  | 0 => hg
  | k + 1 => by rw [iterN_succ]; exact Z.stay _ (lev_iter Z hg k)
section
variable {w : World} {A : Around} {E : Value → Shared → Prop} {s : Shared} {h₀ : Heap} {L R : Addr} {news : List (Addr × Obj)} {l : LL} {nR i : Nat}
theorem rows_item {value slice : PySem.Expr} {u : Tok} {p : Addr × List Value × Nat} {Q : Value → Shared → Prop} (N : News h₀ L s.heap news) (hm : (R, W.listOf (refsL l).toArray nR) ∈ news) (hp : l[i]? = some p) (h3 : i < 3) (h : Q (.ref p.1) s)
    (hs : subscripted slice false (.ref R) (.int (i : Nat) u) = operate [.ref R, .int (i : Nat) u] (getItem (.ref R) (.int (i : Nat) u)) := by with_unfolding_all rfl) (hg : ∀ r, letTemporaryGo value (.ref R) r = pure () := by intro _; with_unfolding_all rfl) :
    wpAny (model PV w) A (subscriptTail value slice (.ref R) (.int (i : Nat) u)) Q E s := by
  refine item_listL (x := .ref p.1) ⟨_, (N _ hm).1, rfl, _, rfl⟩ (by omega) (by omega) ?_ h hs hg
  simp [refsL, hp]
theorem rows_at {f : List Int} {P : Addr × List Value × Nat → Prop} {h : Heap} (N : News h₀ L h news) (hsub : ∀ q ∈ objsL l, q ∈ news) (hl : ∀ p ∈ l, IntsAre p.2.1 f ∧ P p) (hf : 0 < f.length) : ∀ p ∈ l, h.IsList p.1 p.2.1.toArray ∧ 0 < p.2.1.length := fun p hp =>
  ⟨⟨_, (N _ (hsub _ (objsL_mem hp))).1, rfl, _, rfl⟩, by rw [(hl p hp).1.length]; exact hf⟩
theorem objs_ne {cr : Addr} {f : List Int} (hl : ∀ p ∈ l, IntsAre p.2.1 f ∧ @Ne Nat p.1 cr) : ∀ q ∈ objsL l, q.1 ≠ cr := fun q hq => by
  obtain ⟨p, hp, rfl⟩ := List.mem_map.mp hq
  exact (hl p hp).2
theorem none_booked {P : Params} {h : Heap} (X : (hd.heap_39 P).In h) : NoneBooked h := ⟨fun _ => none, ⟨_, _, _, X 2 _ rfl, rfl, by intro e he; simp at he, fun _ => rfl⟩, rfl⟩
end
theorem objsL_snoc (l : LL) (x : Addr × List Value × Nat) : objsL (l ++ [x]) = objsL l ++ [(x.1, W.listOf x.2.1.toArray x.2.2)] := by simp [objsL]
theorem refsL_snoc (l : LL) (x : Addr × List Value × Nat) : refsL (l ++ [x]) = refsL l ++ [.ref x.1] := by simp [refsL]
section
variable {h₀ h : Heap} {L cr cd D R0 : Addr} {orr od : Obj} {vD : List Value} {nD : Nat}
theorem start_news (N : News h₀ L h [(R0, W.listOf #[.ref D, .ref D, .ref D] 0), (D, W.listOf vD.toArray nD), (cr, orr), (cd, od)]) :
    News h₀ L h ((cr, orr) :: (cd, od) :: (D, W.listOf vD.toArray nD) :: (R0, W.listOf (refsL [(D, vD, nD), (D, vD, nD), (D, vD, nD)]).toArray 0) :: objsL [(D, vD, nD), (D, vD, nD), (D, vD, nD)]) := by
  intro p hp
  refine N p ?_
  rcases List.mem_cons.mp hp with rfl | hp
  · exact .tail _ (.tail _ (.head _))
  rcases List.mem_cons.mp hp with rfl | hp
  · exact .tail _ (.tail _ (.tail _ (.head _)))
  rcases List.mem_cons.mp hp with rfl | hp
  · exact .tail _ (.head _)
  rcases List.mem_cons.mp hp with rfl | hp
  · exact .head _
  obtain ⟨q, hq, rfl⟩ := List.mem_map.mp hp
  have hq' : q = (D, vD, nD) := by simpa using hq
  subst hq'
  exact .tail _ (.head _)
theorem start_adr (N : News h₀ L h [(R0, W.listOf #[.ref D, .ref D, .ref D] 0), (D, W.listOf vD.toArray nD), (cr, orr), (cd, od)]) : ∀ b ∈ [cr], ∃ o, h.get? b = some o := fun b hb => by
  rw [List.mem_singleton.mp hb]
  exact ⟨_, (N _ (.tail _ (.tail _ (.head _)))).1⟩
theorem start_J {st : Nat → List Int} {g : List Int} {m0 : PySem.Str → Option Value} (h0 : st 0 = g) (dr : orr.data = .cell (some (.ref R0))) (hD : IntsAre vD g) (e1 : @Ne Nat D cr) (hR : @Ne Nat R0 cr) :
    LJ st m0 cr cd D od vD nD 0 m0 ((cr, orr) :: (cd, od) :: (D, W.listOf vD.toArray nD) :: (R0, W.listOf (refsL [(D, vD, nD), (D, vD, nD), (D, vD, nD)]).toArray 0) :: objsL [(D, vD, nD), (D, vD, nD), (D, vD, nD)]) :=
  ⟨_, _, _, _, _, lMp_start _, rfl, dr, rfl, fun p hp => by
    have hq' : p = (D, vD, nD) := by simpa using hp
    subst hq'
    rw [h0]
    exact ⟨hD, e1⟩, hR⟩
variable {own : List (Addr × Obj)} {R : Addr} {nR : Nat} {l l' : LL} {f : List Int} {oc : Obj}
theorem rest_ne (hl : ∀ p ∈ l, IntsAre p.2.1 f ∧ @Ne Nat p.1 cr) (hd : @Ne Nat cd cr) (hD : @Ne Nat D cr) (hoff : ∀ p ∈ own, ∀ b ∈ [cr], p.1 ≠ b) : ∀ p ∈ (cd, od) :: (D, W.listOf vD.toArray nD) :: (objsL l ++ own), p.1 ≠ cr := by
  intro p hp
  rcases List.mem_cons.mp hp with rfl | hp
  · exact hd
  rcases List.mem_cons.mp hp with rfl | hp
  · exact hD
  rcases List.mem_append.mp hp with hp | hp
  · exact objs_ne hl p hp
  · exact hoff p hp cr (.head _)
theorem fin_news {Dn : Addr} {on : Obj} (N : News h₀ L h ((Dn, on) :: (cr, oc) :: (cd, od) :: (D, W.listOf vD.toArray nD) :: (R, W.listOf (refsL l).toArray nR) :: (objsL l ++ own))) (NG : News h₀ L h (objsL l')) :
    News h₀ L h ((Dn, on) :: (cr, oc) :: (cd, od) :: (D, W.listOf vD.toArray nD) :: (objsL l' ++ own)) := by
  intro p hp
  rcases List.mem_cons.mp hp with rfl | hp
  · exact N _ (.head _)
  rcases List.mem_cons.mp hp with rfl | hp
  · exact N _ (.tail _ (.head _))
  rcases List.mem_cons.mp hp with rfl | hp
  · exact N _ (.tail _ (.tail _ (.head _)))
  rcases List.mem_cons.mp hp with rfl | hp
  · exact N _ (.tail _ (.tail _ (.tail _ (.head _))))
  rcases List.mem_append.mp hp with hp | hp
  · exact NG p hp
  · exact N p (.tail _ (.tail _ (.tail _ (.tail _ (.tail _ (List.mem_append_right _ hp))))))
theorem end_news {Dn : Addr} {on o' : Obj} (N : News h₀ L h ((Dn, on) :: (cr, o') :: (cd, od) :: (D, W.listOf vD.toArray nD) :: (objsL l' ++ own))) :
    News h₀ L h (((cr, o') :: (cd, od) :: (D, W.listOf vD.toArray nD) :: (Dn, on) :: objsL l') ++ own) := by
  intro p hp
  refine N p ?_
  rcases List.mem_append.mp hp with hp | hp
  · rcases List.mem_cons.mp hp with rfl | hp
    · exact .tail _ (.head _)
    rcases List.mem_cons.mp hp with rfl | hp
    · exact .tail _ (.tail _ (.head _))
    rcases List.mem_cons.mp hp with rfl | hp
    · exact .tail _ (.tail _ (.tail _ (.head _)))
    rcases List.mem_cons.mp hp with rfl | hp
    · exact .head _
    · exact .tail _ (.tail _ (.tail _ (.tail _ (List.mem_append_left _ hp))))
  · exact .tail _ (.tail _ (.tail _ (.tail _ (List.mem_append_right _ hp))))
theorem cend_rows {m : PySem.Str → Option Value} {all : List (Addr × Obj)} {I C Dd D9 : Addr} {v9 : List Value} {n9 i : Nat} {s₂ s₃ : Shared} (Sb : Sib s₂ s₃) (F : Fr h₀ L s₃.heap m) (N : News h₀ L s₃.heap (all ++ objsL l')) (ND : News h₀ L s₃.heap [(D9, W.listOf v9.toArray n9)])
    (og : ∀ p ∈ objsL l', p.1 ≠ I ∧ p.1 ≠ C ∧ p.1 ≠ Dd) (n1 : @Ne Nat D9 I) (n2 : @Ne Nat D9 C) (n3 : @Ne Nat D9 Dd) (n4 : @Ne Nat D9 cr) (hl' : l'.length = i) (hg : ∀ p ∈ l', IntsAre p.2.1 f ∧ @Ne Nat p.1 cr) (i9 : IntsAre v9 f) :
    CEndG h₀ L m all I C Dd (RowsJ cr f (i + 1) (refsL l' ++ [.ref D9])) s₂ s₃ := by
  refine ⟨objsL (l' ++ [(D9, v9, n9)]), Sb, F, fun q hq => N q (List.mem_append_left _ hq), ?_, ?_, l' ++ [(D9, v9, n9)], by simp [hl'], (refsL_snoc l' (D9, v9, n9)).symm, rfl, ?_⟩
  · rw [objsL_snoc]
    exact News.append (fun q hq => N q (List.mem_append_right _ hq)) ND
  · intro p hp
    rw [objsL_snoc] at hp
    rcases List.mem_append.mp hp with hp | hp
    · exact og p hp
    · rw [List.mem_singleton.mp hp]; exact ⟨n1, n2, n3⟩
  · intro p hp
    rcases List.mem_append.mp hp with hp | hp
    · exact hg p hp
    · rw [List.mem_singleton.mp hp]; exact ⟨i9, n4⟩
end
noncomputable def q12 (n : Nat) : UInt64 := Float64.ofFrac (decide ((n : Int) < 0) != decide ((12 : Int) < 0)) (n : Int).natAbs (12 : Int).natAbs
theorem div12 {w : World} {A : Around} {E : Value → Shared → Prop} {s : Shared} {n : Int} {t u : Tok} {Q : Value → Shared → Prop} (hA : A.handled = none) (h9 : n = 9 ∨ n = 6) {x : UInt64} (hx : q12 n.toNat = x) (h : Q (.float x s.toks) { s with toks := s.toks + 1 }) :
    wpAny (model PV w) A (binaryOp .Div (.int n t) (.int 12 u)) Q E s := by
  have hn : n = ((n.toNat : Nat) : Int) := by rcases h9 with rfl | rfl <;> rfl
  rw [hn]
  exact PySem.Flt.div_ii_fits hA (Nat.lt_of_le_of_lt (by rcases h9 with rfl | rfl <;> decide) (Nat.lt_of_lt_of_le (by decide : 9 < 2 ^ 4) (Nat.pow_le_pow_right (by decide) (Nat.le_of_ble_eq_true rfl)))) (fun h => absurd h (by decide)) fun _ _ => by subst hx; exact h
theorem q12_9 : q12 (9 : Int).toNat = q4 3 := by decide +kernel
theorem q12_6 : q12 (6 : Int).toNat = q4 2 := by decide +kernel
theorem cmp_q3 : (Float64.cmp (q4 3) (q4 3) == some Ordering.eq) = true := by decide +kernel
theorem cmp_q2 : (Float64.cmp (q4 2) (q4 2) == some Ordering.eq) = true := by decide +kernel
theorem cmp_0 : (Float64.cmpInt 0 0 == some Ordering.eq) = true := by decide +kernel
theorem led_tup {h₀ : Heap} {L : Addr} {m : PySem.Str → Option Value} {v : Value} {x : UInt64} {s s' : Shared} (F : Fr h₀ L s.heap m) (h : TupE s.heap s'.heap v x) :
    ∃ d ta tb tc, v = .ref d ∧ News h₀ L s'.heap [(d, { cls := .type "tuple", data := .seq #[.float 0 ta, .float 0 tb, .float x tc] })] ∧ tc ≠ 0 := by
  obtain ⟨d, ta, tb, tc, rfl, hD, h0, ht⟩ := h
  refine ⟨d, ta, tb, tc, rfl, fun p hp => ?_, ht⟩
  rw [List.mem_singleton.mp hp]
  refine ⟨hD, fun e => ?_, ?_⟩
  · obtain ⟨o, ho, _⟩ := ns_obj F.ns
    have e' : d = L := e
    rw [e', ho] at h0; cases h0
  · cases e : h₀.get? d with
    | none => rfl
    | some o => rw [F.keep _ _ e] at h0; cases h0
theorem tok_ne {t u : Tok} (h : t ≠ 0) : (t == 0 || (u + 1 : Nat) == 0) = false := by
  simp; exact h
/-- how the law ends -/
noncomputable def LawEnd (s₁ : Shared) (fl : Flow) (s' : Shared) : Prop := (match fl with | .ret v => v | _ => .none) = Value.bool true ∧ (∀ b o, s₁.heap.get? b = some o → s'.heap.get? b = some o) ∧ AllBare s'.gens ∧ s'.os = s₁.os
theorem LawEnd.good {c : ClaimW} {cl : PySem.Str → Option Addr} {mean : ExcName → Option Value} {args : List WData} {s₁ s' : Shared} {fl : Flow} (h : LawEnd s₁ fl s') (hn : ∀ cls, c.raises args cls = false)
    (hp : c.post args (.bool true) args = true) : GoodWG c cl mean args s₁ (.ok (.ret (match (generalizing := false) fl with | .ret v => v | _ => .none))) s' := by
  obtain ⟨hv, hk, hb, ho⟩ := h
  rw [hv]
  exact ⟨.inl ⟨_, .bool true, [], rfl, hn, .bool true, hp, fun _ => ⟨.nil, fun _ ha => nomatch ha⟩⟩, .of_keep hk, ho, hb⟩
end
section
open PySem PySem.W PySem.Calls PyProof.Rows PyProof.Rows.LCg
set_option Elab.async false
set_option maxRecDepth 100000
/-- the two sizes -/
noncomputable def SizeOk (N : Nat) (l : Nat) : Prop := N = 9 ∧ 5 < l ∨ N = 6 ∧ ¬ 5 < l
theorem ifexp_mono {M : Model} {A : Around} {e : PySem.Expr} {env : Env} {Q : Value → Shared → Prop} {E : Value → Shared → Prop} {s : Shared} {P : Nat → Prop}
    (h1 : wpAny M A (eval e env) (fun v s' => ∃ (n : Nat) (t : Tok) (k : Nat), v = .int (n : Int) t ∧ P n ∧ s' = { s with toks := k }) E s)
    (h2 : ∀ (n : Nat) (t : Tok) (k : Nat), P n → Q (.int (n : Int) t) { s with toks := k }) : wpAny M A (eval e env) Q E s :=
  wpAny_mono h1 (fun v s' x => by obtain ⟨n, t, k, rfl, p, rfl⟩ := x; exact h2 n t k p) fun _ _ h => h
theorem turn_list {prog : Program} {w : World} {A : Around} {E : Value → Shared → Prop} {s : Shared} {es : List PySem.Expr} {p : Pos} {slice : PySem.Expr} {o i : Value} {Q : Value → Shared → Prop}
    (h : wpAny (model prog w) A (subscriptTail (PySem.Expr.Name (PySem.Str.ofString "_") ⟨0, 0, 0, 0⟩) slice o i) Q E s) : wpAny (model prog w) A (subscriptTail (PySem.Expr.List es p) slice o i) Q E s :=
  kba_turn (fun _ => rfl) h
theorem num_len' {ns : List Int} {N : Nat} (hN : SizeOk N ns.length) :
    (List.take ((N : Int)).toNat ns ++ List.take (min ((N : Int)).toNat [(1 : Int), 0, 1, 0, 0, 0, 0, 0, 0].length - (((List.take ((N : Int)).toNat ns).length : Nat) : Int).toNat) (List.drop (((List.take ((N : Int)).toNat ns).length : Nat) : Int).toNat [(1 : Int), 0, 1, 0, 0, 0, 0, 0, 0])).length = N := by
  have h9 : N ≤ [(1 : Int), 0, 1, 0, 0, 0, 0, 0, 0].length := by rcases hN with ⟨rfl, _⟩ | ⟨rfl, _⟩ <;> decide
  rw [Int.toNat_natCast, Int.toNat_natCast, List.length_append, List.length_take, List.length_take, List.length_drop, Nat.min_eq_left h9,
    Nat.min_eq_left (Nat.sub_le_sub_right h9 _), Nat.add_sub_cancel' (Nat.min_le_left _ _)]
namespace SizeOk
variable {N l c : Nat}
theorem le9 (h : SizeOk N l) : N ≤ 9 := by rcases h with ⟨rfl, _⟩ | ⟨rfl, _⟩ <;> decide
theorem two (h : SizeOk N l) : 2 ≤ N := by rcases h with ⟨rfl, _⟩ | ⟨rfl, _⟩ <;> decide
theorem pos (h : SizeOk N l) : 0 < N := by rcases h with ⟨rfl, _⟩ | ⟨rfl, _⟩ <;> decide
theorem six (h : SizeOk N l) : N = 6 ∨ N = 9 := by rcases h with ⟨rfl, _⟩ | ⟨rfl, _⟩ <;> simp
theorem pred (h : SizeOk N l) : N - 1 + 1 = N := by rcases h with ⟨rfl, _⟩ | ⟨rfl, _⟩ <;> rfl
theorem small (h : SizeOk N l) : Builtin.Range.small 0 (N : Int) 1 = true := by rcases h with ⟨rfl, _⟩ | ⟨rfl, _⟩ <;> decide
theorem rsize (h : SizeOk N l) : Builtin.Range.rangeSize 0 (N : Int) 1 = (N : Int) := by rcases h with ⟨rfl, _⟩ | ⟨rfl, _⟩ <;> decide
theorem int (h : SizeOk N l) : (N : Int) = 9 ∨ (N : Int) = 6 := by rcases h with ⟨rfl, _⟩ | ⟨rfl, _⟩ <;> simp
theorem q (h : SizeOk N l) (hc : c * 3 = N) : q4 c = q12 (N : Int).toNat := by
  rcases h with ⟨rfl, _⟩ | ⟨rfl, _⟩
  · obtain rfl : c = 3 := by omega
    exact q12_9.symm
  · obtain rfl : c = 2 := by omega
    exact q12_6.symm
theorem cmp (h : SizeOk N l) : (Float64.cmp (q12 (N : Int).toNat) (q12 (N : Int).toNat) == some Ordering.eq) = true := by
  rcases h with ⟨rfl, _⟩ | ⟨rfl, _⟩
  · have := cmp_q3
    rw [← q12_9] at this; exact this
  · have := cmp_q2
    rw [← q12_6] at this; exact this
end SizeOk
end
section
open PySem PySem.W PySem.Calls PyProof.Rows PyProof.Rows.LCg
set_option Elab.async false
set_option maxRecDepth 100000
set_option maxHeartbeats 16000000
theorem reset_L6 : True := by w_top off; trivial
local macro_rules | `(tactic| walk_at "call ref") => `(tactic| (refine Hold.of ?_))
local macro_rules | `(tactic| walk_at "exec For") => `(tactic| (walk_at "UseFor"))
local macro_rules | `(tactic| walk_at "exec For Name Call cons nil") => `(tactic| (walk_at "UseFor"))
local macro_rules | `(tactic| walk_at "pyIter ref") => `(tactic| (fail_if_success skip))
local macro_rules | `(tactic| walk_at "eval ListComp") => `(tactic| (k_here; k_dflt (refine comp_eval (by with_unfolding_all rfl) (by rfl) (by decide) ?_)))
local macro_rules | `(tactic| walk_at "exec Assign cons ListComp") => `(tactic| (k_here; k_dflt (first | (refine comp_assign (by with_unfolding_all rfl) (by with_unfolding_all rfl) (by rfl) (by decide) ?_) | (refine wpAny_Assign_Name ?_ (by with_unfolding_all rfl)))))
local macro_rules | `(tactic| walk_at "eval IfExp") => `(tactic| ((fail_if_success (with_reducible rename Flag => hflag)); refine Hold.of ?_))
local macro_rules | `(tactic| walk_at "compareOp In ref ref") => `(tactic| (refine Hold.of ?_))
local macro_rules | `(tactic| walk_at "storeName") => `(tactic| (k_here; k_dflt (refine' storeX_C ?F ?N ?c ?U ?d ?_ ?a ?b; (case a | b => rfl); (case F | N => k_asm); (case c => rfl); (case U => (refine' UpdF.tail ?x (UpdF.head ?y); (case x => k_ne); (case y => assumption))); (case d => k_asm); k_whole; intro h' o' F' N' d'; (try dsimp only at N'))))
local macro_rules | `(tactic| walk_at "subscriptTail") => `(tactic| first | with_reducible refine turn_list ?_ | (walk_at "UseSub"; k_dflt (first | (refine rows_item (by k_asm) (by k_mem) (by assumption) (by assumption) ?_) | (refine led_item (by k_asm) (by k_mem) (by assumption) (by omega) (by omega) (by omega) ?_; intro tI))))
local macro_rules | `(tactic| walk_at "getMethod ref") => `(tactic| (k_dflt (refine led_count_m (by k_asm) (by k_mem) ?_)))
local macro_rules | `(tactic| walk_at "call builtin:list.count") => `(tactic| (k_dflt (refine led_count (by k_asm) (by k_mem) (by assumption) ?_)))
local macro_rules | `(tactic| walk_at "binaryOp Div int int") => `(tactic| (k_dflt (first | ((with_reducible show wpAny _ _ (binaryOp _ (Value.int _ _) (Value.int 12 _)) _ _ _); refine div12 rfl ?h9 (by assumption) ?_; (case h9 => assumption)) | ((with_reducible show wpAny _ _ (binaryOp _ (Value.int _ _) (Value.int 4 _)) _ _ _); refine div4 rfl (by assumption) (by assumption) ?_))))
local macro_rules | `(tactic| walk_at "compareOp Eq ref ref") => `(tactic| (refine Hold.of ?_))
theorem law_holds : PySem.Challenge.rw_sl0012_01.Holds := by
  apply hd
  k_fill
  intro w s₀ s1 mg mb G0 Y0 fa o0 pm cd0 doc dV kV ho0 hd0 hcd0 hD0 hmg0 hgens args0 vals0 as0 hpre0 hlay0 hrd0 hwl0 hlo0
  have KX := kIn_of Y0
  have X0 := (Ground.X G0).1
  have V0 := (Ground.X G0).2
  try w_nolog (first | (have GL := glob_more (Ground.glob G0 (by first | k_qdec | decide +kernel) (by first | k_qdec | decide +kernel)) V0) | (have GL := glob_more (Ground.glob G0 (by decide +kernel)) V0))
  refine Ground.open G0 ?_
  intro T0 B0 D0 TE TW
  try (refine guard_noD D0 (by decide +kernel) ?_; clear D0)
  obtain ⟨_, _, M0⟩ := bmod_of_top T0
  have TA := at_of_top T0
  try (obtain ⟨_, _, he, B1⟩ := based_of_top T0 rfl hmg0 ho0 hd0; have he' : cd0 = _ := he; subst he'; clear he)
  clear hmg0
  wrow_args hpre0 hlay0 hrd0 hwl0 hlo0
  all_goals (
    first | refine callC_kw (enter_call ?_) | refine enter_call ?_ | refine callC_kw (enter_callW ?_) | refine enter_callW ?_
    w_top off
    have K0 := below_caller (Top.heap T0)
    w_call any ho0 hd0 hcd0 hD0 T0 F
    clear hd0 TA
    k_drop
    skip)
  all_goals refine wpAny_mono (Q := fun fl s' => LawEnd s1 fl s') (E := fun _ _ => False) ?_ (fun fl s' h => ?_) (fun _ _ h => h.elim)
  all_goals try (refine LawEnd.good h (fun _ => ?p1) ?p2; (case p1 => rfl); (case p2 => first | rfl | decide | with_unfolding_all rfl | (simp; done)))
  all_goals (try k_fold)
  k_steps
  · change wpAny _ _ _ _ _ _
    (with_reducible rename List Int => ns)
    refine ifexp_mono (P := fun n => SizeOk n ns.length) ?_ ?_
    · have hflag : Flag := trivial
      k_steps
      all_goals first
        | exact ⟨9, _, _, rfl, Or.inl ⟨rfl, by omega⟩, rfl⟩
        | exact ⟨6, _, _, rfl, Or.inr ⟨rfl, by omega⟩, rfl⟩
        | exact Or.inl ⟨rfl, by omega⟩
        | exact Or.inr ⟨rfl, by omega⟩
    intro Sz tN kN hN
    dsimp only
    k_steps
    (with_reducible rename Fr _ _ _ _ => F1); (with_reducible rename News _ _ _ _ => N1); (with_reducible rename IntsAre _ (_ ++ _) => hn1)
    obtain ⟨f, hf, hfl⟩ := abst (n := Sz) hn1 (num_len' hN)
    clear hn1
    obtain ⟨lamp, hlamp⟩ : ∃ l, (f.getD (0 : Int).toNat 0).fmod 3 = l := ⟨_, rfl⟩
    have hl0 : 0 ≤ lamp := hlamp ▸ Int.fmod_nonneg_of_pos _ (by decide)
    have hl1 : lamp < 3 := hlamp ▸ Int.fmod_lt_of_pos _ (by decide)
    have Z := fin_all (size := Sz) hN.six hl0 hl1
    change wpAny _ _ _ _ _ _
    refine' useX 310 ?k1 ?k2 ?k3 ?k4 ?k5 ?k6 ?k7 ?k8 ?k9 ?kA ?kB ?kC (fun B X T => row_ok B X T hf (News.get ?q2 ?q3) ?q4 ?q5 lamp hlamp ?q6) ?_
    (case k1 => k_asm); (case k2 => k_asm); (case k3 => k_asm); (case k4 => k_asm); (case k5 => k_asm); (case k6 => exact rfl); (case k7 => exact rfl); (case k8 => exact rfl); (case k9 => exact Nat.le_of_ble_eq_true rfl); (case kA => exact Nat.le_of_ble_eq_true rfl); (case kB => exact rfl); (case kC => exact rfl)
    (case q2 => k_asm); (case q3 => k_mem); (case q4 => rw [hfl]; exact hN.le9); (case q5 => rw [hfl]; exact hN.two); (case q6 => rw [hfl]; exact Z.free)
    k_whole
    intro vS sS pS extS F2 N2
    rw [hfl] at pS
    obtain ⟨g, hg, hnew⟩ := pS
    obtain ⟨D, vD, nD, rfl, hD, ND, hne⟩ := led_new F1 N1 hnew
    have N3 := News.append ND (show News _ _ _ [_, _] from fun p hp => N2 p (.tail _ (.tail _ (.tail _ (.tail _ (.tail _ hp))))))
    simp only [List.cons_append, List.nil_append] at N3
    have e1 := hne _ (.tail _ (.tail _ (.tail _ (.tail _ (.tail _ (.head _))))))
    have e2 := hne _ (.tail _ (.tail _ (.tail _ (.tail _ (.tail _ (.tail _ (.head _)))))))
    dsimp only at e1 e2
    have hgl : g.length = Sz := (level_len hg).trans hN.pred
    have hg0 : g.getD 0 0 = lamp := level_head hg
    clear N2 N1 F1 ND hne hnew hfl hf hlamp
    k_steps
    (with_reducible rename IsRange _ _ _ _ _ _ _ _ => R1); (with_reducible rename Fr _ _ _ _ => F3); (with_reducible rename News _ _ _ _ => N4)
    rename_i od dd R0 _ lR _ orr _ _ dr _ _ _ _ _ kp
    obtain ⟨m0, hm0, F3⟩ : ∃ m0, m0 = _ ∧ Fr _ _ _ m0 := ⟨_, rfl, F3⟩
    have hdl := Nat.ne_of_gt lR.2.1
    refine wpAny_mono (E := fun _ _ => False) ?_ (fun _ _ h => h) (fun _ _ x => x.elim)
    refine' for_rangeF (n := Sz) ?e1 ?e2 R1 ?e3 ?e4 [(s1.heap.objs.size + 1 + 1)] (LJ (fun k => iterN (stepC lamp) k g) m0 (s1.heap.objs.size + 1 + 1) _ D od vD nD) F3 (start_news N4) (start_J rfl dr hD e1 hdl) (start_adr N4) (LJ.cls dd) ?e9 ?ea ?turn ?done
    case e1 => rfl
    case e2 => rfl
    case e3 => exact hN.small
    case e4 => exact hN.rsize
    case e9 => rfl
    case ea => rfl
    case turn =>
      intro k v m₁ news₁ own s₁ hk hv hJ F N hoff S
      obtain ⟨t, rfl⟩ := hv
      obtain ⟨vs, R, nR, oc, l, rfl, rfl, hoc, hl3, hl, hRc⟩ := hJ.at_
      simp only [List.cons_append] at N
      have hlv := lev_iter Z hg k
      have hlk : (iterN (stepC lamp) k g).length = Sz := (level_len hlv).trans hN.pred
      clear hJ N3 N4 F3 R1 kp hm0
      k_steps
      (with_reducible rename Fr _ _ _ _ => F5); (with_reducible rename News _ _ _ _ => N5)
      change wpAny _ _ _ _ _ _
      refine in_rowsL (l := l) (News.isList N5 (.head _)) (News.isList N5 (.tail _ (.tail _ (.tail _ (.tail _ (.head _)))))) (rows_at N5 (fun q hq => (.tail _ (.tail _ (.tail _ (.tail _ (.tail _ (List.mem_append_left _ hq))))))) hl (by rw [hlk]; exact hN.pos)) (Nat.le_of_ble_eq_true rfl) ?_
      k_steps
      (with_reducible rename IsRange _ _ _ _ _ _ _ _ => R6); (with_reducible rename Fr _ _ _ _ => F6); (with_reducible rename News _ _ _ _ => N6)
      have N7 := fun p hp => N6 p (.tail _ hp)
      clear N6
      refine' comp_rangeG (n := 3) (X := fun _ v m => m (PySem.Str.ofString "k") = some v) (J := RowsJ (s1.heap.objs.size + 1 + 1) (stepC lamp (iterN (stepC lamp) k g))) ?f1 F6 N7 R6 ?f2 ?f3 ?f4 ?f5 ?f6 (fun I => asg_name ?f7 ?f8) ?f9 ?turn (fin_noneG ?fin)
      case f1 => rfl
      case f2 => rfl
      case f3 => rfl
      case f4 => rw [PySem.sizeLine_eq]; decide
      case f5 => decide
      case f6 => rfl
      case f7 => rfl
      case f8 => rfl
      case f9 => exact ⟨[], rfl, rfl, rfl, fun p hp => nomatch hp⟩
      case turn =>
        intro i v I oI C oC Dd ys gr m₂ s₂ hi hP hJ hC hX F N og off ne S2
        obtain ⟨tv, rfl⟩ := hP
        rw [Int.zero_add] at hX
        obtain ⟨l', hl', rfl, rfl, hg'⟩ := hJ
        obtain ⟨p, hp⟩ : ∃ p, l[i]? = some p := ⟨l[i]'(by omega), by simp⟩
        have hpm := List.mem_of_getElem? hp
        refine wpAny_tests_nil ?_
        dsimp only
        simp only [List.cons_append] at N
        clear N7 F6 R6
        k_steps
        (with_reducible rename Fr _ _ _ _ => F8); (with_reducible rename News _ _ _ _ => N8)
        change wpAny _ _ _ _ _ _
        refine' useX 310 ?k1 ?k2 ?k3 ?k4 ?k5 ?k6 ?k7 ?k8 ?k9 ?kA ?kB ?kC (fun B X T => step_ok B X T (hl p hpm).1 (News.get ?q2 ?q3) ?q4 ?q5 ?q6 i hi (stepO_C hi hlv Z.ask)) ?_
        (case k1 => k_asm); (case k2 => k_asm); (case k3 => k_asm); (case k4 => k_asm); (case k5 => k_asm); (case k6 => exact rfl); (case k7 => exact rfl); (case k8 => exact rfl); (case k9 => exact Nat.le_of_ble_eq_true rfl); (case kA => exact Nat.le_of_ble_eq_true rfl); (case kB => exact rfl); (case kC => exact rfl)
        (case q2 => exact N8); (case q3 => exact (.tail _ (.tail _ (.tail _ (.tail _ (.tail _ (.tail _ (.tail _ (List.mem_append_left _ (List.mem_append_left _ (objsL_mem hpm))))))))))); (case q4 => rw [hlk]; exact hN.le9); (case q5 => rw [hlk]; exact hN.two); (case q6 => exact (Z.rgb _ hlv).1)
        k_whole
        intro vS sS2 pS ext2 F9 N9
        obtain ⟨D9, v9, n9, rfl, i9, ND9, hne9⟩ := led_new F8 N8 pS
        exact cend_rows ⟨ext2.os, ext2.drawn, ext2.gens⟩ F9 (by simpa only [List.cons_append] using N9) ND9 og (hne9 _ (.head _)) (hne9 _ (.tail _ (.head _))) (hne9 _ (.tail _ (.tail _ (.head _)))) (hne9 _ (.tail _ (.tail _ (.tail _ (.head _))))) hl' hg' i9
      case fin =>
        intro Dn ys gr s' hJ S3 F N oo NG og
        obtain ⟨l', hl', rfl, rfl, hg'⟩ := hJ
        have hDn : @Ne Nat Dn (s1.heap.objs.size + 1 + 1) := fun e => oo.1 e.symm
        replace N : News _ _ _ ((Dn, W.listOf (refsL l').toArray (refsL l').length) :: _) := N
        have NN := fin_news N NG
        have hall := rest_ne (own := own) (cd := s1.heap.objs.size + 1) (D := D) (od := od) (vD := vD) (nD := nD) hg' (Nat.ne_of_lt (Nat.lt_succ_self _)) e1 hoff
        have hst : stepC lamp (iterN (stepC lamp) k g) = iterN (stepC lamp) (k + 1) g := (iterN_succ _ _ _).symm
        rw [hst] at hg'
        clear N NG oo og N7 F6 R6
        k_steps
        (with_reducible rename Fr _ _ _ _ => F9); (with_reducible rename News _ _ _ _ => N9); (with_reducible rename _ = Data.cell _ => d9)
        dsimp only
        exact ⟨_, _, ⟨S3.os, S3.drawn, S3.gens⟩, F9, end_news N9, ⟨_, Dn, _, _, l', lMp_end .., rfl, d9, hl', hg', hDn⟩⟩
    case done =>
      intro m₁ news₁ s₁ hJ F N S
      obtain ⟨vs, R, nR, oc, l, rfl, rfl, hoc, hl3, hl, hRc⟩ := hJ.at_
      clear hJ N3 N4 F3 R1 kp
      obtain ⟨tsz, htsz⟩ : ∃ t, m0 (PySem.Str.ofString "size") = some (Value.int (Sz : Int) t) := by rw [hm0]; exact ⟨_, rfl⟩
      rw [lMp_size m0 htsz] at F
      clear hm0
      k_steps
      have hback := Z.back _ hg
      have hmems := (Z.rgb _ hg).1
      obtain ⟨c0, c1, c2⟩ := (Z.rgb _ hg).2
      have hsz : vD.toArray.size = Sz := by rw [List.size_toArray, hD.length]; exact hgl
      have hl2 : lamp ≤ 2 := by omega
      (with_reducible rename Fr _ _ _ _ => F10); (with_reducible rename News _ _ _ _ => N10)
      refine' comp_list (its := vD.toArray) (X := fun _ v m => m (PySem.Str.ofString "x") = some v) (J := fun i ys => IntsAre ys ((g.take i).map fun x => (2 * lamp - x).fmod 3)) ?f1 F10 N10 (.inr ⟨_, (.tail _ (.tail _ (.head _))), rfl, _, rfl⟩) ?f2 ?f3 ?f4 (fun I => asg_name ?f5 ?f6) ?f7 ?turn (fin_local ?g1 ?g2 ?g3 ?fin)
      case f1 => rfl
      case f2 => rw [hsz, PySem.sizeLine_eq]; exact Nat.le_trans hN.le9 (Nat.le_of_ble_eq_true rfl)
      case f3 => decide
      case f4 => rfl
      case f5 => rfl
      case f6 => rfl
      case f7 => exact .nil
      case g1 => rfl
      case g2 => rfl
      case g3 => rfl
      case turn =>
        intro i v I oI C oC Dd ys m₂ s₂ hi hP hJ hC hX F N off ne S2
        obtain ⟨x, tx, rfl, hx⟩ := IntsAre.at hD i v (by simpa using hP)
        have hxm := hmems x (List.mem_of_getElem? hx)
        refine wpAny_tests_nil ?_
        dsimp only
        k_steps
        refine CEnd.mk' ⟨rfl, rfl, fun g => g⟩ (by k_asm) (by k_asm) ?_
        have e9 : g.getD (Int.toNat 0) 0 = lamp := hg0
        rw [List.take_add_one, hx, List.map_append, e9]
        exact hJ.append (.cons _ _ .nil)
      case fin =>
        intro D2 ys s' hJ S4 F N oo
        rw [hsz, List.take_of_length_le (Nat.le_of_eq hgl)] at hJ
        replace N : News _ _ _ ((D2, W.listOf ys.toArray ys.length) :: _) := N
        have hm0 : g.count 0 ≤ 9 := by have := hN.le9; omega
        have hm1 : g.count 1 ≤ 9 := by have := hN.le9; omega
        have hm2 : g.count 2 ≤ 9 := by have := hN.le9; omega
        have hN12 := hN.int
        obtain ⟨xq, hq9⟩ : ∃ x, q12 (Sz : Int).toNat = x := ⟨_, rfl⟩
        have hc3 := hN.cmp
        rw [hq9] at hc3
        have hq0 : q4 (g.count 0) = xq := (hN.q c0).trans hq9
        have hq1 : q4 (g.count 1) = xq := (hN.q c1).trans hq9
        have hq2 : q4 (g.count 2) = xq := (hN.q c2).trans hq9
        clear c0 c1 c2 oo
        k_steps
        (with_reducible rename Fr _ _ _ _ => F11); (with_reducible rename News _ _ _ _ => N11)
        change wpAny _ _ _ _ _ _
        refine' useX 480 ?k1 ?k2 ?k3 ?k4 ?k5 ?k6 ?k7 ?k8 ?k9 ?kA ?kB ?kC (fun B X T => grey_ok B X T xq _ _ _ ?q2 ?q3 ?q4 hc3) ?_
        (case k1 => k_asm); (case k2 => k_asm); (case k3 => k_asm); (case k4 => k_asm); (case k5 => k_asm); (case k6 => exact rfl); (case k7 => exact rfl); (case k8 => exact rfl); (case k9 => exact Nat.le_of_ble_eq_true rfl); (case kA => exact Nat.le_of_ble_eq_true rfl); (case kB => exact rfl); (case kC => exact rfl)
        (case q2 => exact Nat.succ_ne_zero _); (case q3 => exact Nat.succ_ne_zero _); (case q4 => exact Nat.succ_ne_zero _)
        k_whole
        intro vT sT pT extT F12 N12
        obtain ⟨d, ta, tb, tc, rfl, ND, htc⟩ := led_tup F11 pT
        have N13 := News.append ND N12
        simp only [List.cons_append, List.nil_append] at N13
        clear N11 F11 N12
        k_steps
        (with_reducible rename Fr _ _ _ _ => F14); (with_reducible rename News _ _ _ _ => N14)
        change wpAny _ _ _ _ _ _
        have hl9 : ∀ p ∈ l, IntsAre p.2.1 (backC lamp g) ∧ @Ne Nat p.1 (s1.heap.objs.size + 1 + 1) := by rw [← hback]; exact hl
        refine eq_rowsL (News.isList N14 (.tail _ (.tail _ (.tail _ (.tail _ (.tail _ (.tail _ (.head _)))))))) hl3 (fun p hp => ⟨⟨_, (N14 _ (.tail _ (.tail _ (.tail _ (.tail _ (.tail _ (.tail _ (.tail _ (objsL_mem hp))))))))).1, rfl, _, rfl⟩, (hl9 p hp).1⟩) (News.isList N14 (.head _)) (News.isList N14 (.tail _ (.tail _ (.head _)))) hJ (Nat.le_of_ble_eq_true rfl) ?_
        k_steps
        (with_reducible rename Fr _ _ _ _ => F15); (with_reducible rename News _ _ _ _ => N15)
        change wpAny _ _ _ _ _ _
        refine eq_grey ⟨_, (N15 _ (.tail _ (.tail _ (.head _)))).1, rfl, _, rfl⟩ ⟨_, (N15 _ (.head _)).1, rfl, _, rfl⟩ cmp_0 cmp_0 hc3 (tok_ne htc) (none_booked (KX.keeps F15.keep)) (Nat.le_of_ble_eq_true rfl) ?_
        k_steps
        exact ⟨rfl, F15.keep, extT.gens (S4.gens (S.gens (extS.gens (AllBare.of_eq hgens)))), extT.os.trans (S4.os.trans (S.os.trans extS.os))⟩
end
end
end Mine
theorem PySem.Challenge.cw_sl0012_01_holds : PySem.Challenge.rw_sl0012_01.Holds := by
  exact Mine.law_holds
