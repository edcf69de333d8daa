import PyProof.Rows.All
import Wide.All
import OpenK.AllK
import Wide.FinOn
import Lean
import PySem.Challenge.RW_pm0039_01
set_option Elab.async false
set_option linter.all false
set_option rowWalk.seconds 0
set_option compiler.extract_closed false
set_option maxRecDepth 100000
set_option pp.deepTerms false
set_option pp.deepTerms.threshold 8
open PySem PySem.W PyProof.Rows
namespace Mine
set_option maxRecDepth 100000 in
set_option maxHeartbeats 8000000 in
open_top hd for PySem.Challenge.rw_pm0039_01
end Mine
section PartC0
open PySem PySem.W PyProof.Rows PySem.Calls
namespace Mine
section
variable {prog : Program} {w : World} {A₀ Ar : Around} {s : Shared} {base h₀ : Heap} {outer : List Env} {L : Addr} {m mg mb : Str → Option Value} {env : Env} {news AA : List (Addr × Obj)} {K : Frag}
  {R : Result → Shared → Prop} {name qual : Str} {params : Arguments} {body : List Stmt} {scope : Scope} {dV kV doc pm cdv ct oc : Value} {an od : Option Addr} {osl : Array (Option Value)} {f : Addr} {args : Args} {binds : List (Str × Value)} {p : Program} {loose : List Str} {mean : ExcName → Option Value}
theorem news_sub {h₀ h : Heap} {L : Addr} {l l' : List (Addr × Obj)} (N : News h₀ L h l) (hs : ∀ p ∈ l', p ∈ l) : News h₀ L h l' := fun p hp => N p (hs p hp)
/-- enter a def: of the caller's ledger only AA is shown to the walk; the rest lies in the ground of the callee and comes back as it was -/
theorem code_defE (B : Below A₀ base outer h₀) (F : Fr h₀ L s.heap m) (X₀ : K.In h₀) (N : News h₀ L s.heap news) (hAn : ∀ p ∈ AA, p ∈ news) (T : Top p loose mean mg mb h₀) (hA : Ar.frames = some (env :: outer)) (hf : env.frame = some L) (hke : env.scope.kind = .function)
    (ho : K.lookup f = some ⟨oc, od, .func (fnOf name qual params body scope dV kV doc pm an cdv ct), osl⟩) (hcd : codeIn K cdv qual = true) (hroom : Ar.depth < recursionLimit)
    (hbind : BindsTo s (fnOf name qual params body scope dV kV doc pm an cdv ct) args binds) (hloc : ∀ y ∈ binds, scope.names.lookup y.1 = some .local)
    (h : ∀ g L' h₁, Fr g L' h₁ (fun y => binds.reverse.lookup y) → News g L' h₁ AA → Below Ar base (env :: outer) g → K.In g → Top p loose mean mg mb g → (∀ p ∈ news, p ∈ AA ∨ g.get? p.1 = some p.2) →
      wpAny (model prog w) (Ar.deeper (envOf qual scope L' f cdv)) (execs body (envOf qual scope L' f cdv))
        (fun fl s' => LeaveK h₀ L m g (fun r s'' => (∀ p ∈ AA, s''.heap.get? p.1 = some p.2) ∧ (News h₀ L s''.heap news → R r s'')) (match fl with | .ret v => v | _ => .none) s')
        (fun e s' => wpAny (model prog w) (Ar.deeper (envOf qual scope L' f cdv)) (leaving (envOf qual scope L' f cdv) e) (fun _ s'' => R (.error e) s'') (fun e' s'' => R (.error e') s'') s')
        { s with heap := h₁, toks := s.toks + binds.length })
    (hco : scope.isCoroutine = false) (hgen : scope.isGenerator = false) (hk : scope.kind = .function)
    (hcell : ∀ x ∈ scope.names, x.2 ≠ .cell) : codeAny (model prog w) Ar (.call (.ref f) args) R s := by
  have NA : News h₀ L s.heap AA := news_sub N hAn
  obtain ⟨FG, BG, st, lv⟩ := groundX (R := R) B F NA hA hf hke
  have kept : ∀ q ∈ news, q ∈ AA ∨ (hideAll s.heap (AA.map (·.1))).get? q.1 = some q.2 := fun q hq => by
    by_cases hm : q.1 ∈ AA.map (·.1)
    · obtain ⟨q', hq', e⟩ := List.mem_map.mp hm
      refine .inl ?_
      have h1 := (N q hq).1
      have h2 := (NA q' hq').1
      rw [e, h1] at h2
      have : q = q' := Prod.ext e.symm (Option.some.inj h2)
      exact this ▸ hq'
    · exact .inr (hideAll_get _ (N q hq).1 hm)
  refine codeAny_call_def (fd := fnOf name qual params body scope dV kV doc pm an cdv ct) (body := body) (binds := binds) hroom ((X₀.keeps F.keep) _ _ ho) rfl (T.nolimit.keeps F.keep) (codeRec_of (X₀.keeps F.keep) hcd) rfl hbind hcell hloc (fun h₁ hns hk₁ => ?_) hco hgen hk
  have hsz : (hideAll s.heap (AA.map (·.1))).objs.size = s.heap.objs.size := hideAll_size _ _
  refine wpAny_mono (h _ s.heap.objs.size h₁ ⟨hns, fun b o e => hk₁ b o (of_hideAll _ e), Nat.le_of_eq hsz⟩
    (fun q hq => ⟨hk₁ _ _ (NA q hq).1, Nat.ne_of_lt (Heap.lt_size (NA q hq).1), hideAll_none _ (List.mem_map_of_mem hq)⟩) BG (X₀.keeps st) (T.keeps st) kept) (fun fl s' hl => lv _ _ ?_) fun _ _ y => y
  obtain ⟨L', m', news', F', N', k⟩ := hl
  refine ⟨L', m', news', F', N', fun kF kN => ?_⟩
  obtain ⟨hk1, hk2⟩ := k kF kN
  refine hk2 fun q hq => ⟨?_, (N q hq).2⟩
  rcases kept q hq with hq' | hq'
  · exact hk1 q hq'
  · exact F'.keep _ _ hq'
end
noncomputable def Apart (a b : Addr) : Prop := a ≠ b
noncomputable abbrev RetT := (h₀ : Heap) → (L : Addr) → (m : Str → Option Value) → (news : List (Addr × Obj)) → (s : Shared) → (Q : Value → Shared → Prop) → Prop
noncomputable abbrev CallsTo (w : World) (mean : ExcName → Option Value) (mg mb : Str → Option Value) (f : Addr) (vs : List Value) (news : List (Addr × Obj)) (Ret : RetT) : Prop :=
  ∀ (dp un : Nat) (gd : Option (List Code)) (cn : Str) (cs : Scope) (a : Addr) (ccd : Value) (cl : List (Str × Addr)) (outer : List Env) (A₀ : Around) (base h₀ : Heap) (L : Addr) (m : Str → Option Value) (s : Shared) (Q E : Value → Shared → Prop),
    Below A₀ base outer h₀ → Fr h₀ L s.heap m → Frag.In (hd.heap_39 w.params) h₀ → News h₀ L s.heap news → Top hd.view_39 (looseW hd.view_39 []) mean mg mb h₀ →
    cs.kind = .function → dp + 3 < recursionLimit → un + 24 < cLine → Ret h₀ L m news s Q →
    wpAny (model PySem.Challenge.rw_pm0039_01.row.prog w) (ktrTop dp un gd cn cs L a ccd cl outer) (call (.ref f) vs) Q E s
/-- gives back a plain value -/
noncomputable abbrev RetV (R : Tok → Value) : RetT := fun h₀ L m news s Q => ∀ (t : Tok) (h' : Heap) (tk' : Nat), Fr h₀ L h' m → News h₀ L h' news → Q (R t) { s with heap := h', toks := tk' }
/-- gives back a new object -/
noncomputable abbrev RetO (O : Obj → Prop) : RetT := fun h₀ L m news s Q => ∀ (q : Addr) (o : Obj) (h' : Heap) (tk' : Nat), O o → Fr h₀ L h' m → News h₀ L h' ((q, o) :: news) → (∀ p ∈ news, Apart p.1 q) → Q (.ref q) { s with heap := h', toks := tk' }
end Mine
end PartC0
section PartC1
open PySem PySem.W PyProof.Rows PySem.Calls PySem.Flt
namespace Mine
noncomputable def fmax3 (a b c : UInt64) : UInt64 := bestBits gtB a [b, c]
noncomputable def fmin3 (a b c : UInt64) : UInt64 := bestBits ltB a [b, c]
section
variable {prog : Program} {w : World} {A : Around} {E : Value → Shared → Prop} {s : Shared} {h₀ : Heap} {L : Addr} {m : Str → Option Value} {news : List (Addr × Obj)} {Q : Value → Shared → Prop} {a b c : UInt64} {t1 t2 t3 : Tok}
theorem at3 {i : Nat} {v : Value} (h : (#[Value.float a t1, .float b t2, .float c t3])[i]? = some v) : ∃ t, v = .float ([a, b, c].getD i 0) t := by
  match i, h with
  | 0, h => exact ⟨t1, (Option.some.inj h).symm⟩
  | 1, h => exact ⟨t2, (Option.some.inj h).symm⟩
  | 2, h => exact ⟨t3, (Option.some.inj h).symm⟩
  | n + 3, h => simp at h
/-- what max and min ask of three floats, for any comparison -/
theorem best3 {op : CmpOp} (bt : UInt64 → UInt64 → Bool) (hop : ∀ (x y : UInt64) (t u : Tok) (s : Shared) (Q E : Value → Shared → Prop), Q (.bool (bt x y)) s → wpAny (model prog w) A.in1 (richCompare op (.float x t) (.float y u)) Q E s)
    (hh : A.handled = none) (F : Fr h₀ L s.heap m) (N : News h₀ L s.heap news) (h : ∀ h' tk t, Fr h₀ L h' m → News h₀ L h' news → Q (.float (bestBits bt a [b, c]) t) { s with heap := h', toks := tk }) :
    wpAny (model prog w) A.in1 (pyIter (.ref s.heap.objs.size)) (fun it s₂ => ∃ I fp wr n P St bt, it = .ref I ∧ Walks prog w A.in1 I fp wr n P St ∧ St 0 s₂.heap ∧ (∀ b ∈ fp, b < s₂.heap.objs.size) ∧ 0 < n ∧ CmpOf prog w A.in1 op P bt ∧
      ∀ v h' tk, P (argBest bt (n - 1)) v → (∀ b o, b ∉ wr → s₂.heap.get? b = some o → h'.get? b = some o) → Q v { s₂ with heap := h', toks := tk }) E
      { s with heap := s.heap.push { cls := .type "tuple", data := .seq #[.float a t1, .float b t2, .float c t3] } } := by
  have tup : (s.heap.push { cls := .type "tuple", data := .seq #[.float a t1, .float b t2, .float c t3] }).IsTuple s.heap.objs.size #[.float a t1, .float b t2, .float c t3] := ⟨_, Heap.get?_push_size _ rfl, rfl, 0, rfl⟩
  obtain ⟨_, ho, _⟩ := id tup
  have lt := Heap.lt_size ho
  refine wpAny_pyIter_tuple tup ⟨_, _, _, _, _, _, fun i j => bt ([a, b, c].getD i 0) ([a, b, c].getD j 0), rfl, Walks.tuple (A := A.in1) hh _ _ (Nat.ne_of_lt lt) _, ⟨⟨_, Heap.get?_push_size _ rfl, rfl, rfl⟩, tup.push _⟩, ?_, Nat.succ_pos 2, ?_, ?_⟩
  · refine List.forall_mem_cons.mpr ⟨?_, List.forall_mem_cons.mpr ⟨?_, fun _ q => nomatch q⟩⟩
    · exact Nat.lt_of_lt_of_eq (Nat.lt_succ_self _) (Heap.size_push ..).symm
    · exact Nat.lt_trans lt (Nat.lt_of_lt_of_eq (Nat.lt_succ_self _) (Heap.size_push ..).symm)
  · intro i j vi vj s Q E hi hj hQ
    obtain ⟨t, rfl⟩ := at3 hi
    obtain ⟨u, rfl⟩ := at3 hj
    exact hop _ _ t u s Q E hQ
  · intro v h' tk hv hk
    obtain ⟨t, rfl⟩ := at3 hv
    have same := argBest_bits bt [a, b, c] 2 (Nat.lt_succ_self 2)
    have old : ∀ d o, s.heap.get? d = some o → h'.get? d = some o := fun d o e => LSm.kept_iter (s := { s with heap := s.heap.push _ }) hk d o (Heap.get?_push_of_some _ e)
    exact same ▸ h h' tk t (F.grownK old) (N.grown old)
theorem max3F (hh : A.handled = none) (F : Fr h₀ L s.heap m) (N : News h₀ L s.heap news)
    (h : ∀ h' tk t, Fr h₀ L h' m → News h₀ L h' news → Q (.float (fmax3 a b c) t) { s with heap := h', toks := tk }) :
    wpAny (model prog w) A (call (.builtin "max") [.float a t1, .float b t2, .float c t3]) Q E s :=
  call_max_three (best3 gtB (fun x y _ _ _ _ _ q => AutoFloatOps.gt_0 (by rw [cmp_gt]; exact q)) hh F N h)
theorem min3F (hh : A.handled = none) (F : Fr h₀ L s.heap m) (N : News h₀ L s.heap news)
    (h : ∀ h' tk t, Fr h₀ L h' m → News h₀ L h' news → Q (.float (fmin3 a b c) t) { s with heap := h', toks := tk }) :
    wpAny (model prog w) A (call (.builtin "min") [.float a t1, .float b t2, .float c t3]) Q E s :=
  call_min_three (best3 ltB (fun _ _ _ _ _ _ _ q => AutoFloatOps.lt_0 q) hh F N h)
end
end Mine
end PartC1
section PartC2
open PySem PySem.W PyProof.Rows PySem.Calls PySem.Flt
namespace Mine
theorem fin_obj {h₀ g h : Heap} {L L' : Addr} {news AA l l' : List (Addr × Obj)} {q : Addr} {o : Obj} (kN : News h₀ L h l) (hm : (q, o) ∈ l) (N' : News g L' h l') (hm' : (q, o) ∈ l') (hg : ∀ p ∈ news, p ∈ AA ∨ g.get? p.1 = some p.2) (hA : ∀ p ∈ AA, p.1 ≠ q) (kNN : News h₀ L h news) :
    News h₀ L h ((q, o) :: news) ∧ ∀ p ∈ news, Apart p.1 q := by
  refine ⟨fun p hp => ?_, fun p hp e => ?_⟩
  · rcases List.mem_cons.mp hp with rfl | hp
    · exact kN _ hm
    · exact kNN p hp
  · rcases hg p hp with h | h
    · exact hA p h e
    · have := (N' (q, o) hm').2.2
      simp only at this
      rw [← e, h] at this; cases this
theorem fin_tup {h₀ g h' : Heap} {L L' : Addr} {m m' : Str → Option Value} {news AA l' : List (Addr × Obj)} {q : Addr} {o : Obj} {O : Obj → Prop} {s : Shared} {tk' : Nat} {Q E : Value → Shared → Prop}
    (F' : Fr g L' h' m') (N' : News g L' h' l') (hm : (q, o) ∈ l') (hg : ∀ p ∈ news, p ∈ AA ∨ g.get? p.1 = some p.2) (hAA : ∀ p ∈ AA, p ∈ l') (hA : ∀ p ∈ AA, p.1 ≠ q) (ho : O o)
    (hret : ∀ (q : Addr) (o : Obj) (h' : Heap) (tk' : Nat), O o → Fr h₀ L h' m → News h₀ L h' ((q, o) :: news) → (∀ p ∈ news, Apart p.1 q) → Q (.ref q) { s with heap := h', toks := tk' }) :
    LeaveK h₀ L m g (fun r s'' => (∀ p ∈ AA, s''.heap.get? p.1 = some p.2) ∧ (News h₀ L s''.heap news → match r with | .ok (.ret v) => Q v s'' | .ok _ => False | .error e => E e s'')) (.ref q) { s with heap := h', toks := tk' } := by
  refine leaveK_ F' N' fun kF kN => ⟨fun p hp => (N' p (hAA p hp)).1, fun kNN => ?_⟩
  obtain ⟨h1, h2⟩ := fin_obj kN hm N' hm hg hA kNN
  exact hret q o h' tk' ho kF h1 h2
/-- a tuple of three ints -/
noncomputable abbrev tup3 (k p q : Int) (o : Obj) : Prop := ∃ t1 t2 t3 n, o = { cls := .type "tuple", data := .seq #[.int k t1, .int p t2, .int q t3] n }
noncomputable abbrev ftup3 (a b c : UInt64) (o : Obj) : Prop := ∃ t1 t2 t3 n, o = { cls := .type "tuple", data := .seq #[.float a t1, .float b t2, .float c t3] n }
-- _law_way
noncomputable def wayX (x y : Int) : Int := y.fdiv 4 - x.fdiv 4
noncomputable def wayY (x y : Int) : Int := y.fmod 4 - x.fmod 4
noncomputable def shP (X Y : Int) : Nat → Int | 0 => X | 1 => X + Y | 2 => Y | 3 => -X | 4 => -X - Y | _ => -Y
noncomputable def shQ (X Y : Int) : Nat → Int | 0 => Y | 1 => -X | 2 => -X - Y | 3 => -Y | 4 => X | _ => X + Y
noncomputable abbrev wayC (X Y : Int) (j : Nat) : Prop := 0 < shP X Y j ∧ 0 ≤ shQ X Y j
noncomputable def wayGo (X Y : Int) : Nat → Nat → Int × Int × Int
  | 0, _ => (0, 0, 0)
  | n + 1, j => if wayC X Y j then ((j : Int), shP X Y j, shQ X Y j) else wayGo X Y n (j + 1)
noncomputable def wayF (x y : Int) : Int × Int × Int := wayGo (wayX x y) (wayY x y) 6 0
theorem wayGo_hit {X Y : Int} : ∀ {n j i : Nat}, i < n → (∀ j', j ≤ j' → j' < j + i → ¬ wayC X Y j') → wayC X Y (j + i) → wayGo X Y n j = (((j + i : Nat) : Int), shP X Y (j + i), shQ X Y (j + i))
  | n + 1, j, 0, _, _, h => by rw [wayGo, if_pos (by simpa using h)]; simp
  | n + 1, j, i + 1, hi, hn, h => by
    rw [wayGo, if_neg (hn j (Nat.le_refl _) (by omega)), wayGo_hit (i := i) (by omega) (fun j' h1 h2 => hn j' (by omega) (by omega)) (by rw [show j + 1 + i = j + (i + 1) by omega]; exact h)]
    rw [show j + 1 + i = j + (i + 1) by omega]
theorem wayGo_none {X Y : Int} : ∀ {n j : Nat}, (∀ j', j ≤ j' → j' < j + n → ¬ wayC X Y j') → wayGo X Y n j = (0, 0, 0)
  | 0, _, _ => rfl
  | n + 1, j, hn => by rw [wayGo, if_neg (hn j (Nat.le_refl _) (by omega)), wayGo_none (fun j' h1 h2 => hn j' (by omega) (by omega))]
theorem wayF_hit {x y : Int} {j : Nat} (hj : j < 6) (hn : ∀ j', j' < j → ¬ wayC (wayX x y) (wayY x y) j') (h : wayC (wayX x y) (wayY x y) j) : wayF x y = ((j : Int), shP (wayX x y) (wayY x y) j, shQ (wayX x y) (wayY x y) j) := by
  have := wayGo_hit (n := 6) (j := 0) (i := j) hj (fun j' _ h2 => hn j' (by omega)) (by simpa using h)
  simpa [wayF] using this
theorem wayF_none {x y : Int} (hn : ∀ j', j' < 6 → ¬ wayC (wayX x y) (wayY x y) j') : wayF x y = (0, 0, 0) := wayGo_none fun j' _ h2 => hn j' (by omega)
end Mine
end PartC2
section PartC3
open PySem PySem.W PyProof.Rows PySem.Calls PySem.Flt
namespace Mine
section
variable {prog : Program} {w : World} {A : Around} {E : Value → Shared → Prop} {s : Shared} {h₀ : Heap} {L l : Addr} {news : List (Addr × Obj)} {Q : Value → Shared → Prop} {vs : List Value} {n : Nat} {k : Int} {u : Tok} {v : Value} {value slice : Expr}
theorem item_listK (N : News h₀ L s.heap news) (hm : (l, ({ cls := .type "list", data := .seq vs.toArray n } : Obj)) ∈ news) (h0 : 0 ≤ k) (hk : k < 2 ^ 63) (hx : vs[k.toNat]? = some v) (h : Q v s)
    (hs : subscripted slice false (.ref l) (.int k u) = operate [.ref l, .int k u] (getItem (.ref l) (.int k u))) :
    wpAny (model prog w) A (subscriptTail value slice (.ref l) (.int k u)) Q E s :=
  tail_any (N.isList hm).typeIs slot_list_getitem.lookup (wpAny_getItem_list (N.isList hm) h0 hk (by simpa using hx) h) hs
theorem item_tupK (N : News h₀ L s.heap news) (hm : (l, ({ cls := .type "tuple", data := .seq vs.toArray n } : Obj)) ∈ news) (h0 : 0 ≤ k) (hk : k < 2 ^ 63) (hx : vs[k.toNat]? = some v) (h : Q v s)
    (hs : subscripted slice false (.ref l) (.int k u) = operate [.ref l, .int k u] (getItem (.ref l) (.int k u))) :
    wpAny (model prog w) A (subscriptTail value slice (.ref l) (.int k u)) Q E s := by
  have hlt : k.toNat < vs.length := (List.getElem?_eq_some_iff.mp hx).1
  refine item_tupleT (j := k.toNat) (N.isTup hm) (by omega) hk ?_ hx h hs
  have e : (if k < 0 then k + (vs.length : Int) else k) = k := if_neg (by omega)
  show (if (0 ≤ (if k < 0 then k + (vs.length : Int) else k) && (if k < 0 then k + (vs.length : Int) else k) < (vs.length : Int)) = true then some (if k < 0 then k + (vs.length : Int) else k).toNat else none) = some k.toNat
  rw [e, if_pos (by simp only [Bool.and_eq_true, decide_eq_true_eq]; omega)]
end
end Mine
end PartC3
section PartC4
open PySem PySem.W PyProof.Rows PySem.Calls PySem.Flt
namespace Mine
theorem fin_int {h₀ g h' : Heap} {L L' : Addr} {m m' : Str → Option Value} {news AA l' : List (Addr × Obj)} {s : Shared} {t : Tok} {tk' : Nat} {Q E : Value → Shared → Prop} {n n' : Int}
    (F' : Fr g L' h' m') (N' : News g L' h' l') (hAA : ∀ p ∈ AA, p ∈ l') (e : n = n')
    (hret : ∀ (t : Tok) (h' : Heap) (tk' : Nat), Fr h₀ L h' m → News h₀ L h' news → Q (.int n' t) { s with heap := h', toks := tk' }) :
    LeaveK h₀ L m g (fun r s'' => (∀ p ∈ AA, s''.heap.get? p.1 = some p.2) ∧ (News h₀ L s''.heap news → match r with | .ok (.ret v) => Q v s'' | .ok _ => False | .error e => E e s'')) (.int n t) { s with heap := h', toks := tk' } :=
  leaveK_ F' N' fun kF kN => ⟨fun p hp => (N' p (hAA p hp)).1, fun kNN => e ▸ hret t h' tk' kF kNN⟩
theorem fin_bool {h₀ g h' : Heap} {L L' : Addr} {m m' : Str → Option Value} {news AA l' : List (Addr × Obj)} {s : Shared} {tk' : Nat} {Q E : Value → Shared → Prop} {n n' : Bool}
    (F' : Fr g L' h' m') (N' : News g L' h' l') (hAA : ∀ p ∈ AA, p ∈ l') (e : n = n')
    (hret : ∀ (t : Tok) (h' : Heap) (tk' : Nat), Fr h₀ L h' m → News h₀ L h' news → Q (.bool n') { s with heap := h', toks := tk' }) :
    LeaveK h₀ L m g (fun r s'' => (∀ p ∈ AA, s''.heap.get? p.1 = some p.2) ∧ (News h₀ L s''.heap news → match r with | .ok (.ret v) => Q v s'' | .ok _ => False | .error e => E e s'')) (.bool n) { s with heap := h', toks := tk' } :=
  leaveK_ F' N' fun kF kN => ⟨fun p hp => (N' p (hAA p hp)).1, fun kNN => e ▸ hret 0 h' tk' kF kNN⟩
theorem not_over_small {n : Int} (h : n.natAbs < 1000) : ¬ (2 ^ 1024 - 2 ^ 970 ≤ n.natAbs) := by
  have : (1000 : Nat) ≤ 2 ^ 1024 - 2 ^ 970 := by decide +kernel
  omega
theorem fdiv4_bound {x : Int} (h0 : 0 ≤ x) (h1 : x < 16) : 0 ≤ x.fdiv 4 ∧ x.fdiv 4 < 4 := by rw [Int.fdiv_eq_ediv_of_nonneg _ (by decide)]; omega
theorem fmod4_bound (x : Int) : 0 ≤ x.fmod 4 ∧ x.fmod 4 < 4 := by rw [Int.fmod_eq_emod_of_nonneg _ (by decide)]; omega
-- _substitution_cost
noncomputable def subF (x y : PySem.Str) : Int := if (x == y) = true then 0 else if (Txt.lower x == Txt.lower y) = true then 1 else 2
theorem subF_0 {x y : PySem.Str} (h : (x == y) = true) : subF x y = 0 := if_pos h
theorem subF_1 {x y : PySem.Str} (h : (x == y) = false) (h2 : (Txt.lower x == Txt.lower y) = true) : subF x y = 1 := by unfold subF; rw [if_neg (ne_true_of_eq_false h), if_pos h2]
theorem subF_2 {x y : PySem.Str} (h : (x == y) = false) (h2 : (Txt.lower x == Txt.lower y) = false) : subF x y = 2 := by unfold subF; rw [if_neg (ne_true_of_eq_false h), if_neg (ne_true_of_eq_false h2)]
-- _law_orders
noncomputable def ordersF (p q : Int) : Int := (List.foldl (fun (σ : Int × Unit) k => ((σ.fst * (p + k + 1)).fdiv (k + 1), ())) (1, ()) (rangeInts 0 1 (q - 0).toNat)).fst
-- _law_colour
noncomputable def colR (x y : Int) : UInt64 := Float64.div (Float64.ofInt (8 + wayX x y + wayY x y)) 4625196817309499392
noncomputable def colG (x y : Int) : UInt64 := Float64.div (Float64.ofInt (8 + wayY x y)) 4625196817309499392
noncomputable def colB : UInt64 := Float64.div (Float64.ofInt 8) 4625196817309499392
-- _law_fits
noncomputable def fitsF (hue spread : UInt64) (k p r : Int) : Bool :=
  if p = 0 then (Float64.cmp hue 0 == some .eq && Float64.cmp spread 0 == some .eq)
  else (Float64.cmp (Float64.abs (Float64.sub (Float64.sub (Float64.mul spread 4625196817309499392) (Float64.ofInt p)) (Float64.ofInt r))) 4517329193108106637 == some .lt) &&
    (Float64.cmp (Float64.abs (Float64.sub (Float64.sub (Float64.mul (Float64.mul hue 4618441417868443648) (Float64.ofInt (p + r))) (Float64.ofInt (k * (p + r)))) (Float64.ofInt r))) 4517329193108106637 == some .lt)
-- rgb_to_hsv
noncomputable def hueF (r g b mx mn : UInt64) : UInt64 :=
  let rg := Float64.sub mx mn
  let rc := Float64.div (Float64.sub mx r) rg
  let gc := Float64.div (Float64.sub mx g) rg
  let bc := Float64.div (Float64.sub mx b) rg
  let h := if (Float64.cmp r mx == some .eq) = true then Float64.sub bc gc
    else if (Float64.cmp g mx == some .eq) = true then Float64.sub (Float64.add 4611686018427387904 rc) bc
    else Float64.sub (Float64.add 4616189618054758400 gc) rc
  (Float64.divmod (Float64.div h 4618441417868443648) 4607182418800017408).snd
noncomputable def hsvF (r g b : UInt64) : UInt64 × UInt64 × UInt64 :=
  if (Float64.cmp (fmin3 r g b) (fmax3 r g b) == some .eq) = true then (0, 0, fmax3 r g b)
  else (hueF r g b (fmax3 r g b) (fmin3 r g b), Float64.div (Float64.sub (fmax3 r g b) (fmin3 r g b)) (fmax3 r g b), fmax3 r g b)
theorem hsvF_0 {r g b : UInt64} (h : (Float64.cmp (fmin3 r g b) (fmax3 r g b) == some Ordering.eq) = true) : hsvF r g b = (0, 0, fmax3 r g b) := if_pos h
theorem hsvF_1 {r g b : UInt64} (h : (Float64.cmp (fmin3 r g b) (fmax3 r g b) == some Ordering.eq) = false) : hsvF r g b = (hueF r g b (fmax3 r g b) (fmin3 r g b), Float64.div (Float64.sub (fmax3 r g b) (fmin3 r g b)) (fmax3 r g b), fmax3 r g b) := if_neg (ne_true_of_eq_false h)
theorem hueF_0 {r g b mx mn : UInt64} (h : (Float64.cmp r mx == some Ordering.eq) = true) : hueF r g b mx mn = (Float64.divmod (Float64.div (Float64.sub (Float64.div (Float64.sub mx b) (Float64.sub mx mn)) (Float64.div (Float64.sub mx g) (Float64.sub mx mn))) 4618441417868443648) 4607182418800017408).snd := by
  simp only [hueF]; rw [if_pos h]
theorem hueF_1 {r g b mx mn : UInt64} (h : (Float64.cmp r mx == some Ordering.eq) = false) (h2 : (Float64.cmp g mx == some Ordering.eq) = true) : hueF r g b mx mn = (Float64.divmod (Float64.div (Float64.sub (Float64.add 4611686018427387904 (Float64.div (Float64.sub mx r) (Float64.sub mx mn))) (Float64.div (Float64.sub mx b) (Float64.sub mx mn))) 4618441417868443648) 4607182418800017408).snd := by
  simp only [hueF]; rw [if_neg (ne_true_of_eq_false h), if_pos h2]
theorem hueF_2 {r g b mx mn : UInt64} (h : (Float64.cmp r mx == some Ordering.eq) = false) (h2 : (Float64.cmp g mx == some Ordering.eq) = false) : hueF r g b mx mn = (Float64.divmod (Float64.div (Float64.sub (Float64.add 4616189618054758400 (Float64.div (Float64.sub mx g) (Float64.sub mx mn))) (Float64.div (Float64.sub mx r) (Float64.sub mx mn))) 4618441417868443648) 4607182418800017408).snd := by
  simp only [hueF]; rw [if_neg (ne_true_of_eq_false h), if_neg (ne_true_of_eq_false h2)]
-- rgb_to_hls
noncomputable def leF (a b : UInt64) : Bool := Float64.cmp a b == some .lt || Float64.cmp a b == some .eq
noncomputable def lightF (r g b : UInt64) : UInt64 := Float64.div (Float64.add (fmax3 r g b) (fmin3 r g b)) 4611686018427387904
noncomputable def satF (r g b : UInt64) : UInt64 :=
  if (Float64.cmp (lightF r g b) 4602678819172646912 == some .lt || Float64.cmp (lightF r g b) 4602678819172646912 == some .eq) = true then Float64.div (Float64.sub (fmax3 r g b) (fmin3 r g b)) (Float64.add (fmax3 r g b) (fmin3 r g b))
  else Float64.div (Float64.sub (fmax3 r g b) (fmin3 r g b)) (Float64.sub (Float64.sub 4611686018427387904 (fmax3 r g b)) (fmin3 r g b))
theorem satF_0 {r g b : UInt64} (h : (Float64.cmp (Float64.div (Float64.add (fmax3 r g b) (fmin3 r g b)) 4611686018427387904) 4602678819172646912 == some .lt || Float64.cmp (Float64.div (Float64.add (fmax3 r g b) (fmin3 r g b)) 4611686018427387904) 4602678819172646912 == some .eq) = true) :
    satF r g b = Float64.div (Float64.sub (fmax3 r g b) (fmin3 r g b)) (Float64.add (fmax3 r g b) (fmin3 r g b)) := if_pos h
theorem satF_1 {r g b : UInt64} (h : (Float64.cmp (Float64.div (Float64.add (fmax3 r g b) (fmin3 r g b)) 4611686018427387904) 4602678819172646912 == some .lt || Float64.cmp (Float64.div (Float64.add (fmax3 r g b) (fmin3 r g b)) 4611686018427387904) 4602678819172646912 == some .eq) = false) :
    satF r g b = Float64.div (Float64.sub (fmax3 r g b) (fmin3 r g b)) (Float64.sub (Float64.sub 4611686018427387904 (fmax3 r g b)) (fmin3 r g b)) := if_neg (ne_true_of_eq_false h)
noncomputable def hlsF (r g b : UInt64) : UInt64 × UInt64 × UInt64 :=
  if (Float64.cmp (fmin3 r g b) (fmax3 r g b) == some .eq) = true then (0, lightF r g b, 0)
  else (hueF r g b (fmax3 r g b) (fmin3 r g b), lightF r g b, satF r g b)
theorem hlsF_0 {r g b : UInt64} (h : (Float64.cmp (fmin3 r g b) (fmax3 r g b) == some Ordering.eq) = true) : hlsF r g b = (0, lightF r g b, 0) := if_pos h
theorem hlsF_1 {r g b : UInt64} (h : (Float64.cmp (fmin3 r g b) (fmax3 r g b) == some Ordering.eq) = false) : hlsF r g b = (hueF r g b (fmax3 r g b) (fmin3 r g b), lightF r g b, satF r g b) := if_neg (ne_true_of_eq_false h)
noncomputable def okHsv (r g b : UInt64) : Bool := (Float64.cmp (fmin3 r g b) (fmax3 r g b) == some .eq) || (!Float64.isZero (fmax3 r g b) && !Float64.isZero (Float64.sub (fmax3 r g b) (fmin3 r g b)))
noncomputable def okHls (r g b : UInt64) : Bool := (Float64.cmp (fmin3 r g b) (fmax3 r g b) == some .eq) || (!Float64.isZero (Float64.add (fmax3 r g b) (fmin3 r g b)) && !Float64.isZero (Float64.sub (Float64.sub 4611686018427387904 (fmax3 r g b)) (fmin3 r g b)) && !Float64.isZero (Float64.sub (fmax3 r g b) (fmin3 r g b)))
theorem no_zero {b : Bool} (h1 : b = true) (h2 : b = false) : False := by rw [h1] at h2; cases h2
theorem okHsv_use {r g b : UInt64} (h : okHsv r g b = true) (h0 : (Float64.cmp (fmin3 r g b) (fmax3 r g b) == some Ordering.eq) = false) : Float64.isZero (fmax3 r g b) = false ∧ Float64.isZero (Float64.sub (fmax3 r g b) (fmin3 r g b)) = false := by
  unfold okHsv at h
  rw [h0] at h
  simpa using h
theorem okHls_use {r g b : UInt64} (h : okHls r g b = true) (h0 : (Float64.cmp (fmin3 r g b) (fmax3 r g b) == some Ordering.eq) = false) : Float64.isZero (Float64.add (fmax3 r g b) (fmin3 r g b)) = false ∧ Float64.isZero (Float64.sub (Float64.sub 4611686018427387904 (fmax3 r g b)) (fmin3 r g b)) = false ∧ Float64.isZero (Float64.sub (fmax3 r g b) (fmin3 r g b)) = false := by
  unfold okHls at h
  rw [h0] at h
  simp only [Bool.false_or, Bool.and_eq_true, Bool.not_eq_true'] at h
  exact ⟨h.1.1, h.1.2, h.2⟩
-- hsv_to_rgb, with saturation and value 1.0
noncomputable def rgbI (h : UInt64) : Int := Flt.toInt Float64.truncOf (Float64.mul h 4618441417868443648)
noncomputable def rgbf (h : UInt64) : UInt64 := Float64.sub (Float64.mul h 4618441417868443648) (Float64.ofInt (rgbI h))
noncomputable def rgbF (h s v : UInt64) : UInt64 × UInt64 × UInt64 :=
  let p := Float64.mul v (Float64.sub 4607182418800017408 s)
  let q := Float64.mul v (Float64.sub 4607182418800017408 (Float64.mul s (rgbf h)))
  let t := Float64.mul v (Float64.sub 4607182418800017408 (Float64.mul s (Float64.sub 4607182418800017408 (rgbf h))))
  if (rgbI h).fmod 6 = 0 then (v, t, p)
  else if (rgbI h).fmod 6 = 1 then (q, v, p)
  else if (rgbI h).fmod 6 = 2 then (p, v, t)
  else if (rgbI h).fmod 6 = 3 then (p, q, v)
  else if (rgbI h).fmod 6 = 4 then (t, p, v)
  else (v, p, q)
theorem rgbF_0 {h s v : UInt64}  (e : (Flt.toInt Float64.truncOf (Float64.mul h 4618441417868443648)).fmod 6 = 0) : rgbF h s v = (v, Float64.mul v (Float64.sub 4607182418800017408 (Float64.mul s (Float64.sub 4607182418800017408 (Float64.sub (Float64.mul h 4618441417868443648) (Float64.ofInt (Flt.toInt Float64.truncOf (Float64.mul h 4618441417868443648))))))), Float64.mul v (Float64.sub 4607182418800017408 s)) := by
  unfold rgbF
  dsimp only
  rw [if_pos (show (rgbI h).fmod 6 = 0 from e)]
  rfl
theorem rgbF_1 {h s v : UInt64} (n0 : (Flt.toInt Float64.truncOf (Float64.mul h 4618441417868443648)).fmod 6 ≠ 0) (e : (Flt.toInt Float64.truncOf (Float64.mul h 4618441417868443648)).fmod 6 = 1) : rgbF h s v = (Float64.mul v (Float64.sub 4607182418800017408 (Float64.mul s (Float64.sub (Float64.mul h 4618441417868443648) (Float64.ofInt (Flt.toInt Float64.truncOf (Float64.mul h 4618441417868443648)))))), v, Float64.mul v (Float64.sub 4607182418800017408 s)) := by
  unfold rgbF
  dsimp only
  rw [if_neg (show ¬ (rgbI h).fmod 6 = 0 from n0), if_pos (show (rgbI h).fmod 6 = 1 from e)]
  rfl
theorem rgbF_2 {h s v : UInt64} (n0 : (Flt.toInt Float64.truncOf (Float64.mul h 4618441417868443648)).fmod 6 ≠ 0) (n1 : (Flt.toInt Float64.truncOf (Float64.mul h 4618441417868443648)).fmod 6 ≠ 1) (e : (Flt.toInt Float64.truncOf (Float64.mul h 4618441417868443648)).fmod 6 = 2) : rgbF h s v = (Float64.mul v (Float64.sub 4607182418800017408 s), v, Float64.mul v (Float64.sub 4607182418800017408 (Float64.mul s (Float64.sub 4607182418800017408 (Float64.sub (Float64.mul h 4618441417868443648) (Float64.ofInt (Flt.toInt Float64.truncOf (Float64.mul h 4618441417868443648)))))))) := by
  unfold rgbF
  dsimp only
  rw [if_neg (show ¬ (rgbI h).fmod 6 = 0 from n0), if_neg (show ¬ (rgbI h).fmod 6 = 1 from n1), if_pos (show (rgbI h).fmod 6 = 2 from e)]
  rfl
theorem rgbF_3 {h s v : UInt64} (n0 : (Flt.toInt Float64.truncOf (Float64.mul h 4618441417868443648)).fmod 6 ≠ 0) (n1 : (Flt.toInt Float64.truncOf (Float64.mul h 4618441417868443648)).fmod 6 ≠ 1) (n2 : (Flt.toInt Float64.truncOf (Float64.mul h 4618441417868443648)).fmod 6 ≠ 2) (e : (Flt.toInt Float64.truncOf (Float64.mul h 4618441417868443648)).fmod 6 = 3) : rgbF h s v = (Float64.mul v (Float64.sub 4607182418800017408 s), Float64.mul v (Float64.sub 4607182418800017408 (Float64.mul s (Float64.sub (Float64.mul h 4618441417868443648) (Float64.ofInt (Flt.toInt Float64.truncOf (Float64.mul h 4618441417868443648)))))), v) := by
  unfold rgbF
  dsimp only
  rw [if_neg (show ¬ (rgbI h).fmod 6 = 0 from n0), if_neg (show ¬ (rgbI h).fmod 6 = 1 from n1), if_neg (show ¬ (rgbI h).fmod 6 = 2 from n2), if_pos (show (rgbI h).fmod 6 = 3 from e)]
  rfl
theorem rgbF_4 {h s v : UInt64} (n0 : (Flt.toInt Float64.truncOf (Float64.mul h 4618441417868443648)).fmod 6 ≠ 0) (n1 : (Flt.toInt Float64.truncOf (Float64.mul h 4618441417868443648)).fmod 6 ≠ 1) (n2 : (Flt.toInt Float64.truncOf (Float64.mul h 4618441417868443648)).fmod 6 ≠ 2) (n3 : (Flt.toInt Float64.truncOf (Float64.mul h 4618441417868443648)).fmod 6 ≠ 3) (e : (Flt.toInt Float64.truncOf (Float64.mul h 4618441417868443648)).fmod 6 = 4) : rgbF h s v = (Float64.mul v (Float64.sub 4607182418800017408 (Float64.mul s (Float64.sub 4607182418800017408 (Float64.sub (Float64.mul h 4618441417868443648) (Float64.ofInt (Flt.toInt Float64.truncOf (Float64.mul h 4618441417868443648))))))), Float64.mul v (Float64.sub 4607182418800017408 s), v) := by
  unfold rgbF
  dsimp only
  rw [if_neg (show ¬ (rgbI h).fmod 6 = 0 from n0), if_neg (show ¬ (rgbI h).fmod 6 = 1 from n1), if_neg (show ¬ (rgbI h).fmod 6 = 2 from n2), if_neg (show ¬ (rgbI h).fmod 6 = 3 from n3), if_pos (show (rgbI h).fmod 6 = 4 from e)]
  rfl
theorem rgbF_5 {h s v : UInt64} (n0 : (Flt.toInt Float64.truncOf (Float64.mul h 4618441417868443648)).fmod 6 ≠ 0) (n1 : (Flt.toInt Float64.truncOf (Float64.mul h 4618441417868443648)).fmod 6 ≠ 1) (n2 : (Flt.toInt Float64.truncOf (Float64.mul h 4618441417868443648)).fmod 6 ≠ 2) (n3 : (Flt.toInt Float64.truncOf (Float64.mul h 4618441417868443648)).fmod 6 ≠ 3) (n4 : (Flt.toInt Float64.truncOf (Float64.mul h 4618441417868443648)).fmod 6 ≠ 4) (e : (Flt.toInt Float64.truncOf (Float64.mul h 4618441417868443648)).fmod 6 = 5) : rgbF h s v = (v, Float64.mul v (Float64.sub 4607182418800017408 s), Float64.mul v (Float64.sub 4607182418800017408 (Float64.mul s (Float64.sub (Float64.mul h 4618441417868443648) (Float64.ofInt (Flt.toInt Float64.truncOf (Float64.mul h 4618441417868443648))))))) := by
  unfold rgbF
  dsimp only
  rw [if_neg (show ¬ (rgbI h).fmod 6 = 0 from n0), if_neg (show ¬ (rgbI h).fmod 6 = 1 from n1), if_neg (show ¬ (rgbI h).fmod 6 = 2 from n2), if_neg (show ¬ (rgbI h).fmod 6 = 3 from n3), if_neg (show ¬ (rgbI h).fmod 6 = 4 from n4)]
  rfl
theorem fmod6_bound (x : Int) : 0 ≤ x.fmod 6 ∧ x.fmod 6 < 6 := by rw [Int.fmod_eq_emod_of_nonneg _ (by decide)]; omega
end Mine
end PartC4
section PartC5
open PySem PySem.W PyProof.Rows PySem.Calls PySem.Flt
namespace Mine
section
variable {prog : Program} {w : World} {A : Around} {E : Value → Shared → Prop} {Q : Flow → Shared → Prop} {s : Shared} {env : Env} {h₀ : Heap} {L : Addr}
/-- the state where a while is left: the test was false at the letters c -/
noncomputable def WExit {σ : Type} (h₀ : Heap) (L : Addr) (s : Shared) (Led : σ → List (Addr × Obj)) (M : Str → Option Value) (D : σ → Prop) (c : σ) (s₂ : Shared) : Prop :=
  ∃ (h' : Heap) (tk : Nat), s₂ = { s with heap := h', toks := tk } ∧ Fr h₀ L h' M ∧ News h₀ L h' (Led c) ∧ D c
theorem WExit.intro {σ : Type} {Led : σ → List (Addr × Obj)} {M : Str → Option Value} {D : σ → Prop} {c : σ} {h' : Heap} {tk : Nat} (F : Fr h₀ L h' M) (N : News h₀ L h' (Led c)) (hd : D c) : WExit h₀ L s Led M D c { s with heap := h', toks := tk } := ⟨h', tk, rfl, F, N, hd⟩
/-- a while whose ways out meet again -/
theorem ksw_whileJ {σ : Type} {test : Expr} {body : List Stmt} {pos : Pos} {m₀ : Str → Option Value} (Led : σ → List (Addr × Obj)) (ps : σ → List (Str × Value)) (stored : List Str) (P D : σ → Prop) (μ : σ → Nat) (c₀ : σ)
    (F : Fr h₀ L s.heap m₀) (N : News h₀ L s.heap (Led c₀)) (hk : ∀ p ∈ ps c₀, m₀ p.1 = some p.2) (hp : P c₀)
    (turn : ∀ (c : σ) (u : Str → Option Value) h tk, P c → Fr h₀ L h (kstB (fun z => if stored.contains z then u z else m₀ z) (ps c)) → News h₀ L h (Led c) →
      wpAny (model prog w) A (isTrue test env (eval test env)) (fun b s₂ =>
        if b = true then wpAny (model prog w) A (execs body env) (KswPost h₀ L s Led ps (fun _ => True) stored m₀ P μ Q c) E s₂ else WExit h₀ L s Led (kstB (fun z => if stored.contains z then u z else m₀ z) (ps c)) D c s₂) E { s with heap := h, toks := tk })
    (done : ∀ (c : σ) (u : Str → Option Value) h tk, P c → D c → Fr h₀ L h (kstB (fun z => if stored.contains z then u z else m₀ z) (ps c)) → News h₀ L h (Led c) → Q .next { s with heap := h, toks := tk })
    (hE : PassesOwn (model prog w) A env E) :
    wpAny (model prog w) A (exec (.While test body [] pos) env) Q E s := by
  refine ksw_while Led ps (fun _ => True) stored P μ c₀ F N trivial hk hp (fun c u h tk _ hP F' N' => ?_) hE
  refine wpAny_mono (turn c u h tk hP F' N') (fun b s₂ hb => ?_) fun _ _ x => x
  cases b with
  | true => simpa using hb
  | false =>
    obtain ⟨h', tk', rfl, F₂, N₂, hd⟩ := (by simpa using hb : WExit h₀ L s Led (kstB (fun z => if stored.contains z then u z else m₀ z) (ps c)) D c s₂)
    simpa using done c u h' tk' hP hd F₂ N₂
end
/-- the signs of a text -/
noncomputable abbrev sgn (x : PySem.Str) : List Nat := x.cps.toList
theorem sgn_len (x : PySem.Str) : (sgn x).length = x.length := by simp [sgn, Str.length]
section
variable {α : Type} {M : Model} {A : Around} {E : Value → Shared → Prop} {s : Shared} {h₀ : Heap} {L : Addr} {t : Sem α} {Q : α → Shared → Prop}
/-- ways that meet again -/
noncomputable def EJoin (h₀ : Heap) (L : Addr) (s : Shared) (J : α → (Str → Option Value) → List (Addr × Obj) → Prop) (v : α) (s₂ : Shared) : Prop :=
  ∃ h' tk m' news', s₂ = { s with heap := h', toks := tk } ∧ Fr h₀ L h' m' ∧ News h₀ L h' news' ∧ J v m' news'
theorem EJoin.intro {J : α → (Str → Option Value) → List (Addr × Obj) → Prop} {v : α} {h' : Heap} {tk : Nat} {m' : Str → Option Value} {news' : List (Addr × Obj)} (F : Fr h₀ L h' m') (N : News h₀ L h' news') (h : J v m' news') : EJoin h₀ L s J v { s with heap := h', toks := tk } := ⟨h', tk, m', news', rfl, F, N, h⟩
theorem EJoin.intro0 {J : α → (Str → Option Value) → List (Addr × Obj) → Prop} {v : α} {h' : Heap} {tk : Nat} {m' : Str → Option Value} (F : Fr h₀ L h' m') (h : J v m' []) : EJoin h₀ L s J v { s with heap := h', toks := tk } := ⟨h', tk, m', [], rfl, F, (by intro p hp; cases hp), h⟩
theorem eJoin (J : α → (Str → Option Value) → List (Addr × Obj) → Prop) (h1 : wpAny M A t (EJoin h₀ L s J) E s) (h2 : ∀ v h' tk m' news', Fr h₀ L h' m' → News h₀ L h' news' → J v m' news' → Q v { s with heap := h', toks := tk }) : wpAny M A t Q E s :=
  wpAny_mono h1 (fun v s₂ ⟨h', tk, m', news', e, F, N, j⟩ => e ▸ h2 v h' tk m' news' F N j) fun _ _ x => x
end
section
variable {M : Model} {A : Around} {E : Value → Shared → Prop} {s : Shared} {h₀ : Heap} {L : Addr} {t : Sem Value} {Q : Value → Shared → Prop} {m : Str → Option Value} {news : List (Addr × Obj)}
theorem eJoinV (F : Fr h₀ L s.heap m) (N : News h₀ L s.heap news) (V : Tok → Value) (h1 : wpAny M A t (EJoin h₀ L s (fun v m' news' => m' = m ∧ news' = news ∧ ∃ t, v = V t)) E s) (h2 : ∀ t h' tk, Fr h₀ L h' m → News h₀ L h' news → Q (V t) { s with heap := h', toks := tk }) : wpAny M A t Q E s :=
  eJoin _ h1 fun v h' tk m' news' F' N' ⟨e1, e2, t, e3⟩ => by subst e1 e2 e3; exact h2 t h' tk F' N'
end
section
variable {M : Model} {A : Around} {E : Value → Shared → Prop} {s : Shared} {h₀ : Heap} {L : Addr} {t : Sem Flow} {Q : Flow → Shared → Prop} {m : Str → Option Value} {news : List (Addr × Obj)}
/-- the map with two texts bound anew -/
noncomputable def setAB (A B : PySem.Str) (ta tb : Tok) (m : Str → Option Value) : Str → Option Value := fun z => if z = PySem.Str.ofString "a" then some (.str A ta) else if z = PySem.Str.ofString "b" then some (.str B tb) else m z
theorem eJoinAB (F : Fr h₀ L s.heap m) (N : News h₀ L s.heap news) (PP : PySem.Str → PySem.Str → Prop) (h1 : wpAny M A t (EJoin h₀ L s (fun f m' news' => f = .next ∧ news' = news ∧ ∃ A B ta tb, m' = setAB A B ta tb m ∧ PP A B)) E s)
    (h2 : ∀ A B ta tb h' tk, PP A B → Fr h₀ L h' (fun z => if z = PySem.Str.ofString "a" then some (.str A ta) else if z = PySem.Str.ofString "b" then some (.str B tb) else m z) → News h₀ L h' news → Q .next { s with heap := h', toks := tk }) : wpAny M A t Q E s :=
  eJoin _ h1 fun v h' tk m' news' F' N' ⟨e1, e2, A, B, ta, tb, e3, hp⟩ => by subst e1 e2 e3; exact h2 A B ta tb h' tk hp F' N'
end
theorem ints_steps {a c : Int} : ∀ (l : List Value) (i : Nat), (∀ j v, l[j]? = some v → ∃ t, v = Value.int (a + ((i + j : Nat) : Int) * c) t) → IntsAre l ((List.range' i l.length).map fun (j : Nat) => a + (j : Int) * c)
  | [], _, _ => .nil
  | v :: r, i, h => by
    obtain ⟨t, rfl⟩ := h 0 v rfl
    refine IntsAre.cons _ _ (ints_steps r (i + 1) fun j w hj => ?_)
    obtain ⟨t', e⟩ := h (j + 1) w hj
    exact ⟨t', by rw [e]; congr 4; omega⟩
section
variable {prog : Program} {w : World} {A : Around} {E : Value → Shared → Prop} {s : Shared} {h₀ : Heap} {L r : Addr} {m : Str → Option Value} {news : List (Addr × Obj)} {a b c : Int} {t₀ u₀ v₀ : Tok} {n : Nat} {Q : Value → Shared → Prop}
theorem list_rangeK (hh : A.handled = none) (F : Fr h₀ L s.heap m) (N : News h₀ L s.heap news) (hr : IsRange s.heap r a b c t₀ u₀ v₀) (hsmall : Builtin.Range.small a b c = true) (hn : Builtin.Range.rangeSize a b c = (n : Int)) (hz : n ≤ 2 ^ 24)
    (h : ∀ D us e h' tk, Fr h₀ L h' m → News h₀ L h' ((D, listOf (List.toArray us) e) :: news) → (∀ p ∈ news, p.1 < D) → IntsAre us ((List.range n).map fun (j : Nat) => a + (j : Int) * c) → Q (.ref D) { s with heap := h', toks := tk }) :
    wpAny (model prog w) A (call (.type "list") [.ref r]) Q E s := by
  refine call_list_range hh hr hsmall hn hz fun h' tk acc e hk hD hI => ?_
  have hD' : h'.get? s.heap.objs.size = some (listOf (List.toArray acc.toList) e) := by
    rw [Array.toArray_toList]
    exact hD
  have hi := ints_steps (a := a) (c := c) acc.toList 0 (fun j v hj => by rw [Nat.zero_add]; exact hI.2 j v (by rw [← hj, Array.getElem?_toList]))
  rw [Array.length_toList, hI.1] at hi
  rw [← List.range_eq_range'] at hi
  exact h _ acc.toList e h' tk (F.keeps hk) (news_pushed F N hk hD' rfl) (fun p hp => Heap.lt_size (N p hp).1) hi
end
theorem slice_from (x : PySem.Str) {i : Int} (h0 : 0 ≤ i) (h1 : i ≤ x.length) : Txt.slice x (some i) none = ⟨((sgn x).drop i.toNat).toArray⟩ := by
  have h := PySem.StrLaws.sliceText_from (x := x) (i := i) ⟨h0, by rw [sgn_len]; exact h1⟩
  have e : Txt.slice x (some i) none = StrLaws.sliceText x (some i) none := rfl
  rw [e, h]
  congr 2
  refine List.take_of_length_le ?_
  obtain ⟨k, rfl⟩ := Int.eq_ofNat_of_zero_le h0
  rw [List.length_drop, Int.toNat_sub]
  exact Nat.le_refl _
theorem idx_neg {j : Int} {n : Nat} (hj : j < 0) (hn : -j ≤ n) : PySem.Builtin.Str.strSliceIndices none (some j) 1 n = PySem.Builtin.Str.strSliceIndices none (some (j + n)) 1 n := by
  have a : ¬ (j + (n : Int) < 0) := by omega
  simp only [PySem.Builtin.Str.strSliceIndices, if_pos hj, if_neg a]
theorem slice_neg (x : PySem.Str) {j : Int} (hj : j < 0) (h1 : -j ≤ x.length) : Txt.slice x none (some j) = ⟨((sgn x).take (j + x.length).toNat).toArray⟩ := by
  have h := PySem.StrLaws.sliceText_to (x := x) (j := j + x.length) ⟨by omega, by rw [sgn_len]; omega⟩
  have e : Txt.slice x none (some j) = StrLaws.sliceText x none (some (j + x.length)) := by
    show StrLaws.sliceText x none (some j) = _
    unfold StrLaws.sliceText
    rw [idx_neg hj h1]
  rw [e, h]
  simp
theorem slice_all (x : PySem.Str) : Txt.slice x none none = x := by
  have h := PySem.StrLaws.sliceText_from (x := x) (i := 0) ⟨by omega, by omega⟩
  have e : Txt.slice x none none = StrLaws.sliceText x (some 0) none := by
    show StrLaws.sliceText x none none = _
    unfold StrLaws.sliceText
    rw [StrLaws.sliceIdx_none_lo]
  rw [e, h]
  cases x
  simp only [Int.sub_zero, Int.toNat_natCast, Int.toNat_zero, List.drop_zero, List.take_length, Array.toArray_toList]
theorem item_at (x : PySem.Str) {i : Int} (h0 : 0 ≤ i) (h1 : i < x.length) : Txt.item x i = ⟨#[(sgn x).getD i.toNat 0]⟩ := by
  unfold Txt.item Txt.charAt seqIndex?
  have hl := sgn_len x
  have e : (if i < 0 then i + (x.length : Int) else i) = i := if_neg (by omega)
  simp only [e]
  rw [if_pos (by simp only [Bool.and_eq_true, decide_eq_true_eq]; omega)]
  simp [sgn, List.getD_eq_getElem?_getD]
theorem item_neg (x : PySem.Str) {i : Int} (h0 : i < 0) (h1 : -i ≤ x.length) : Txt.item x i = ⟨#[(sgn x).getD (i + x.length).toNat 0]⟩ := by
  unfold Txt.item Txt.charAt seqIndex?
  have hl := sgn_len x
  have e : (if i < 0 then i + (x.length : Int) else i) = i + x.length := if_pos h0
  simp only [e]
  rw [if_pos (by simp only [Bool.and_eq_true, decide_eq_true_eq]; omega)]
  simp [sgn, List.getD_eq_getElem?_getD]
theorem one_eq {c d : Nat} : ((⟨#[c]⟩ : PySem.Str) == ⟨#[d]⟩) = decide (c = d) := by
  by_cases h : c = d
  · subst h; simp
  · simp [h]
/-- how many signs stand first in both -/
noncomputable def comN : List Nat → List Nat → Nat
  | a :: r, b :: t => if a = b then comN r t + 1 else 0
  | _, _ => 0
theorem comN_step {X Y : List Nat} {k : Nat} (hx : k < X.length) (hy : k < Y.length) (e : X.getD k 0 = Y.getD k 0) : comN (X.drop k) (Y.drop k) = 1 + comN (X.drop (k + 1)) (Y.drop (k + 1)) := by
  rw [List.drop_eq_getElem_cons hx, List.drop_eq_getElem_cons hy]
  have e' : X[k] = Y[k] := by simpa [List.getD_eq_getElem?_getD, hx, hy] using e
  simp only [comN, e', if_true]
  omega
theorem comN_stop {X Y : List Nat} {k : Nat} (hx : k < X.length) (hy : k < Y.length) (e : X.getD k 0 ≠ Y.getD k 0) : comN (X.drop k) (Y.drop k) = 0 := by
  rw [List.drop_eq_getElem_cons hx, List.drop_eq_getElem_cons hy]
  have e' : X[k] ≠ Y[k] := by simpa [List.getD_eq_getElem?_getD, hx, hy] using e
  simp only [comN, if_neg e']
theorem comN_nil_l {X Y : List Nat} {k : Nat} (hx : X.length ≤ k) : comN (X.drop k) (Y.drop k) = 0 := by
  rw [List.drop_eq_nil_of_le hx]; cases Y.drop k <;> rfl
theorem comN_nil_r {X Y : List Nat} {k : Nat} (hy : Y.length ≤ k) : comN (X.drop k) (Y.drop k) = 0 := by
  rw [List.drop_eq_nil_of_le hy]; cases X.drop k <;> rfl
/-- signs compared one by one, in a text -/
theorem item_eq_at {x y : PySem.Str} {i : Int} {b : Bool} (h0 : 0 ≤ i) (hx : i < x.length) (hy : i < y.length) (h : (Txt.item x i == Txt.item y i) = b) : decide ((sgn x).getD i.toNat 0 = (sgn y).getD i.toNat 0) = b := by
  rw [item_at x h0 hx, item_at y h0 hy, one_eq] at h
  exact h
/-- x[:c or None] for a c that is not above nought -/
noncomputable def cutEnd (x : PySem.Str) (c : Int) : PySem.Str := if c = 0 then x else Txt.slice x none (some c)
theorem cutEnd_0 (x : PySem.Str) {c : Int} (h : c = 0) : cutEnd x c = Txt.slice x none none := by rw [cutEnd, if_pos h, slice_all]
theorem cutEnd_1 (x : PySem.Str) {c : Int} (h : c ≠ 0) : cutEnd x c = Txt.slice x none (some c) := by rw [cutEnd, if_neg h]
theorem cutEnd_sgn (x : PySem.Str) {c : Int} (h0 : c ≤ 0) (h1 : -c ≤ x.length) : sgn (cutEnd x c) = (sgn x).take ((sgn x).length - (-c).toNat) := by
  have hl := sgn_len x
  unfold cutEnd
  split
  · subst_vars; simp only [Int.neg_zero, Int.toNat_zero, Nat.sub_zero, List.take_length]
  · rw [slice_neg x (by omega) h1]
    show List.take _ _ = _
    congr 1
    omega
theorem cutEnd_len (x : PySem.Str) {c : Int} (h0 : c ≤ 0) (h1 : -c ≤ x.length) : ((cutEnd x c).length : Int) = x.length + c := by
  have h := congrArg List.length (cutEnd_sgn x h0 h1)
  rw [sgn_len, List.length_take, sgn_len] at h
  omega
theorem getD_rev {X : List Nat} {k : Nat} (h : k < X.length) : X.reverse.getD k 0 = X.getD (X.length - 1 - k) 0 := by
  rw [List.getD_eq_getElem?_getD, List.getD_eq_getElem?_getD, List.getElem?_reverse h]
theorem rev_at {n k : Nat} (h : k < n) : (-(k : Int) - 1 + n).toNat = n - 1 - k := by omega
theorem item_rev {x : PySem.Str} {i : Int} (h0 : i ≤ 0) (hx : -i < x.length) : Txt.item x (i - 1) = ⟨#[(sgn x).reverse.getD (-i).toNat 0]⟩ := by
  have l := sgn_len x
  obtain ⟨k, hk⟩ := Int.eq_ofNat_of_zero_le (Int.neg_nonneg_of_nonpos h0)
  have hi : i = -(k : Int) := by rw [← hk, Int.neg_neg]
  subst hi
  rw [Int.neg_neg] at hx
  have hk : k < x.length := Int.ofNat_lt.mp hx
  rw [item_neg x (Int.sub_one_lt_of_le h0) (by rw [Int.neg_sub, Int.sub_neg, Int.add_comm]; exact Int.add_one_le_of_lt hx), Int.neg_neg, Int.toNat_natCast, getD_rev (by rw [l]; exact hk), l, rev_at hk]
theorem item_eq_neg {x y : PySem.Str} {i : Int} {b : Bool} (h0 : i ≤ 0) (hx : -i < x.length) (hy : -i < y.length) (h : (Txt.item x (i - 1) == Txt.item y (i - 1)) = b) : decide ((sgn x).reverse.getD (-i).toNat 0 = (sgn y).reverse.getD (-i).toNat 0) = b := by
  rw [item_rev h0 hx, item_rev h0 hy, one_eq] at h
  exact h
-- _levenshtein_distance, on the signs
noncomputable def subC (c d : Nat) : Int := subF ⟨#[c]⟩ ⟨#[d]⟩
/-- one turn of the inner loop: distance, result, minimum, row -/
noncomputable def innerStep (bc : Nat) (A : List Nat) (st : Int × Int × Int × List Int) (i : Nat) : Int × Int × Int × List Int :=
  let sub := st.1 + subC bc (A.getD i 0)
  let dist := st.2.2.2.getD i 0
  let ins := (if dist < st.2.1 then dist else st.2.1) + 2
  let res := if sub < ins then sub else ins
  (dist, res, if res < st.2.2.1 then res else st.2.2.1, st.2.2.2.set i res)
noncomputable def innerGo (bc : Nat) (A : List Nat) : Nat → Nat → Int × Int × Int × List Int → Int × Int × Int × List Int
  | 0, _, st => st
  | n + 1, i, st => innerGo bc A n (i + 1) (innerStep bc A st i)
noncomputable def levOuter (A : List Nat) (mc : Int) : List Nat → Nat → List Int → Int → Int
  | [], _, _, res => res
  | bc :: r, i, row, _ =>
    let st := innerGo bc A A.length 0 ((i : Int) * 2, (i : Int) * 2, 9223372036854775807, row)
    if mc < st.2.2.1 then mc + 1 else levOuter A mc r (i + 1) st.2.2.2 st.2.1
noncomputable def levH (A B : List Nat) (mc : Int) : Int :=
  if mc < ((B.length : Int) - A.length) * 2 then mc + 1 else levOuter A mc B 0 ((List.range A.length).map fun (i : Nat) => (2 : Int) + (i : Int) * 2) 0
noncomputable def levG (X Y : List Nat) (mc : Int) : Int :=
  if X.length = 0 ∨ Y.length = 0 then 2 * ((X.length : Int) + Y.length)
  else if Y.length < X.length then levH Y X mc else levH X Y mc
noncomputable def levL (X Y : List Nat) (mc : Int) : Int :=
  let X1 := X.drop (comN X Y)
  let Y1 := Y.drop (comN X Y)
  let m := comN X1.reverse Y1.reverse
  levG (X1.take (X1.length - m)) (Y1.take (Y1.length - m)) mc
noncomputable def levF (x y : PySem.Str) (mc : Int) : Int := if (x == y) = true then 0 else levL (sgn x) (sgn y) mc
theorem levF_0 {x y : PySem.Str} {mc : Int} (h : (x == y) = true) : levF x y mc = 0 := if_pos h
/-- what both whiles leave -/
theorem levF_cut {x y : PySem.Str} {mc : Int} (h : (x == y) = false) {c d : Int} (hc0 : 0 ≤ c) (hc1 : c ≤ x.length) (hc2 : c ≤ y.length) (hc : c.toNat = comN (sgn x) (sgn y))
    (hd0 : d ≤ 0) (hd1 : -d ≤ (Txt.slice x (some c) none).length) (hd2 : -d ≤ (Txt.slice y (some c) none).length) (hd : (-d).toNat = comN (sgn (Txt.slice x (some c) none)).reverse (sgn (Txt.slice y (some c) none)).reverse) :
    levF x y mc = levG (sgn (cutEnd (Txt.slice x (some c) none) d)) (sgn (cutEnd (Txt.slice y (some c) none) d)) mc := by
  rw [levF, if_neg (ne_true_of_eq_false h), cutEnd_sgn _ hd0 hd1, cutEnd_sgn _ hd0 hd2, hd]
  rw [slice_from x hc0 hc1, slice_from y hc0 hc2, hc]
  rfl
theorem levF_empty {x y : PySem.Str} {mc : Int} {A B : PySem.Str} (h : levF x y mc = levG (sgn A) (sgn B) mc) (h0 : (A.length : Int) = 0 ∨ (B.length : Int) = 0) : 2 * ((A.length : Int) + B.length) = levF x y mc := by
  rw [h, levG, if_pos (by rw [sgn_len, sgn_len]; omega), sgn_len, sgn_len]
theorem levF_keep {x y : PySem.Str} {mc : Int} {A B : PySem.Str} (h : levF x y mc = levG (sgn A) (sgn B) mc) (ha : (A.length : Int) ≠ 0) (hb : (B.length : Int) ≠ 0) (hle : A.length ≤ B.length) : levF x y mc = levH (sgn A) (sgn B) mc := by
  rw [h, levG, if_neg (by rw [sgn_len, sgn_len]; omega), if_neg (by rw [sgn_len, sgn_len]; omega)]
theorem levF_swap {x y : PySem.Str} {mc : Int} {A B : PySem.Str} (h : levF x y mc = levG (sgn A) (sgn B) mc) (ha : (A.length : Int) ≠ 0) (hb : (B.length : Int) ≠ 0) (hle : B.length < A.length) : levF x y mc = levH (sgn B) (sgn A) mc := by
  rw [h, levG, if_neg (by rw [sgn_len, sgn_len]; omega), if_pos (by rw [sgn_len, sgn_len]; omega)]
theorem levF_far {x y : PySem.Str} {mc : Int} {A B : PySem.Str} (h : levF x y mc = levH (sgn A) (sgn B) mc) (hc : mc < ((B.length : Int) - A.length) * 2) : mc + 1 = levF x y mc := by
  rw [h, levH, if_pos (by rw [sgn_len, sgn_len]; exact hc)]
noncomputable def row0 (n : Nat) : List Int := (List.range n).map fun (j : Nat) => (2 : Int) + (j : Int) * 2
theorem levF_near {x y : PySem.Str} {mc : Int} {A B : PySem.Str} (h : levF x y mc = levH (sgn A) (sgn B) mc) (hc : ¬ mc < ((B.length : Int) - A.length) * 2) : levF x y mc = levOuter (sgn A) mc (sgn B) 0 (row0 A.length) 0 := by
  rw [h, levH, if_neg (by rw [sgn_len, sgn_len]; exact hc), sgn_len]; rfl
theorem range2 {n : Nat} (h1 : 1 ≤ n) (h2 : n ≤ 6) : Builtin.Range.small 2 (2 * ((n : Int) + 1)) 2 = true ∧ Builtin.Range.rangeSize 2 (2 * ((n : Int) + 1)) 2 = (n : Int) := by
  exact (by decide : ∀ n : Nat, n < 7 → 1 ≤ n → Builtin.Range.small 2 (2 * ((n : Int) + 1)) 2 = true ∧ Builtin.Range.rangeSize 2 (2 * ((n : Int) + 1)) 2 = (n : Int)) n (Nat.lt_succ_of_le h2) h1
theorem range1 {n : Nat} (h2 : n ≤ 6) : Builtin.Range.small 0 (n : Int) 1 = true ∧ Builtin.Range.rangeSize 0 (n : Int) 1 = (n : Int) := by
  exact (by decide : ∀ n : Nat, n < 7 → Builtin.Range.small 0 (n : Int) 1 = true ∧ Builtin.Range.rangeSize 0 (n : Int) 1 = (n : Int)) n (Nat.lt_succ_of_le h2)
/-- the outer loop's word: what is left to do from here is what was to do -/
noncomputable def OutP (A B : PySem.Str) (mc : Int) (i : Nat) (ns : List Int) (res : Int) : Prop := levOuter (sgn A) mc (sgn B) 0 (row0 A.length) 0 = levOuter (sgn A) mc ((sgn B).drop i) i ns res
theorem outP_0 (A B : PySem.Str) (mc : Int) : OutP A B mc 0 (row0 A.length) 0 := rfl
theorem outP_done {A B : PySem.Str} {mc : Int} {ns : List Int} {res : Int} (h : OutP A B mc B.length ns res) : res = levOuter (sgn A) mc (sgn B) 0 (row0 A.length) 0 := by
  rw [h, ← sgn_len, List.drop_length]; rfl
noncomputable def bchar (B : PySem.Str) (i : Nat) : Nat := (sgn B).getD i 0
theorem outP_turn {A B : PySem.Str} {mc : Int} {i : Nat} {ns : List Int} {res : Int} (h : OutP A B mc i ns res) (hi : i < B.length) {st : Int × Int × Int × List Int} (hst : st = innerGo (bchar B i) (sgn A) A.length 0 ((i : Int) * 2, (i : Int) * 2, 9223372036854775807, ns)) :
    (mc < st.2.2.1 → mc + 1 = levOuter (sgn A) mc (sgn B) 0 (row0 A.length) 0) ∧ (¬ mc < st.2.2.1 → OutP A B mc (i + 1) st.2.2.2 st.2.1) := by
  have hl := sgn_len B
  unfold OutP at *
  have hi' : i < (sgn B).length := by omega
  have e0 : (sgn B)[i] = bchar B i := by rw [bchar, List.getD_eq_getElem?_getD, List.getElem?_eq_getElem hi']; rfl
  rw [List.drop_eq_getElem_cons hi', levOuter, sgn_len A, e0, ← hst] at h
  constructor
  · intro hc; rw [h, if_pos hc]
  · intro hc; rw [h, if_neg hc]
/-- the inner loop's word -/
noncomputable def InP (A : PySem.Str) (bc : Nat) (st0 : Int × Int × Int × List Int) (i : Nat) (st : Int × Int × Int × List Int) : Prop := innerGo bc (sgn A) A.length 0 st0 = innerGo bc (sgn A) (A.length - i) i st
theorem inP_0 (A : PySem.Str) (bc : Nat) (st : Int × Int × Int × List Int) : InP A bc st 0 st := rfl
theorem inP_done {A : PySem.Str} {bc : Nat} {st0 st : Int × Int × Int × List Int} (h : InP A bc st0 A.length st) : st = innerGo bc (sgn A) A.length 0 st0 := by
  unfold InP at h
  rw [h, Nat.sub_self]; rfl
theorem inP_turn {A : PySem.Str} {bc : Nat} {st0 st : Int × Int × Int × List Int} {i : Nat} (h : InP A bc st0 i st) (hi : i < A.length) {st' : Int × Int × Int × List Int} (e : st' = innerStep bc (sgn A) st i) : InP A bc st0 (i + 1) st' := by
  unfold InP at *
  rw [h, ← Nat.succ_pred_eq_of_pos (Nat.sub_pos_of_lt hi), innerGo, e]; rfl
theorem sub_item {A B : PySem.Str} {i j : Int} (h0 : 0 ≤ i) (h1 : i < A.length) (h2 : 0 ≤ j) (h3 : j < B.length) : subF (Txt.item B j) (Txt.item A i) = subC (bchar B j.toNat) ((sgn A).getD i.toNat 0) := by
  rw [item_at A h0 h1, item_at B h2 h3]; rfl
noncomputable abbrev CallsTo2 (w : World) (mean : ExcName → Option Value) (mg mb : Str → Option Value) (f : Addr) (vs : List Value) (news : List (Addr × Obj)) (Ret : RetT) : Prop :=
  ∀ (dp un : Nat) (gd : Option (List Code)) (cn : Str) (cs : Scope) (a : Addr) (ccd : Value) (cl : List (Str × Addr)) (outer : List Env) (A₀ : Around) (base h₀ : Heap) (L : Addr) (m : Str → Option Value) (s : Shared) (Q E : Value → Shared → Prop),
    Below A₀ base outer h₀ → Fr h₀ L s.heap m → Frag.In (hd.heap_39 w.params) h₀ → News h₀ L s.heap news → Top hd.view_39 (looseW hd.view_39 []) mean mg mb h₀ →
    cs.kind = .function → dp + 10 < recursionLimit → un + 60 < cLine → Ret h₀ L m news s Q →
    wpAny (model PySem.Challenge.rw_pm0039_01.row.prog w) (ktrTop dp un gd cn cs L a ccd cl outer) (call (.ref f) vs) Q E s
end Mine
end PartC5
section PartC6
open PySem PySem.W PyProof.Rows PySem.Calls PyProof.V
namespace Mine
section
variable {h₀ H h : Heap} {L a : Addr} {m : Str → Option Value} {nx : List (Addr × Obj)} {M : Model} {A : Around} {E : Value → Shared → Prop} {Q : Unit → Shared → Prop} {s : Shared} {env : Env} {x y : Str} {b c : Value}
theorem fr_ext (e : Heap.ExtBut a H h) (n : h₀.get? a = none) (ne : L ≠ a) (F : Fr h₀ L H m) : Fr h₀ L h m :=
  ⟨F.ns.extBut e ne, fun _ _ g => e _ _ (fun q => by rw [q, n] at g; cases g) (F.keep _ _ g), F.above⟩
theorem news_ext (e : Heap.ExtBut a H h) (n : ∀ p ∈ nx, p.1 ≠ a) (N : News h₀ L H nx) : News h₀ L h nx := fun p hp => ⟨e _ _ (n p hp) (N p hp).1, (N p hp).2⟩
theorem bind_one {r : List Value} {px : Pos} (hx : env.kindOf x = some .local) (hp : (env.scope.kind == .class || (env.scope.kind == .module && env.locals != env.globals)) = false) (F : Fr h₀ env.locals s.heap m) (N : News h₀ env.locals s.heap nx)
    (k : ∀ h tk, Fr h₀ env.locals h (fun z => if z = x then some b else m z) → News h₀ env.locals h nx → Q () { s with heap := h, toks := tk }) : wpAny M A (holding r (assign (.Name x px) env b)) Q E s :=
  wpAny_holding (wpAny_assign_Name (wpAny_storeName_local hx F.ns (fun h n e => k h _ (F.set n e) (N.set e)) hp))
/-- the two names of a pair are bound -/
theorem bind_two {px py : Pos} (hx : env.kindOf x = some .local) (hy : env.kindOf y = some .local) (hp : (env.scope.kind == .class || (env.scope.kind == .module && env.locals != env.globals)) = false) (F : Fr h₀ env.locals s.heap m) (N : News h₀ env.locals s.heap nx)
    (k : ∀ h tk, Fr h₀ env.locals h (fun z => if z = y then some c else if z = x then some b else m z) → News h₀ env.locals h nx → Q () { s with heap := h, toks := tk }) :
    wpAny M A (assignInOrder ((assignEach [.Name x px, .Name y py] env).map (·.2)) [b, c]) Q E s :=
  wpAny_bind (bind_one hx hp F N fun _ _ F₁ N₁ => wpAny_bind (bind_one hy hp F₁ N₁ fun h tk F₂ N₂ => wpAny_pure (k h tk F₂ N₂)))
end
/-- the state of a loop over a dict's pairs with n looks at the iterator ahead -/
noncomputable def PairsLeft (h₀ : Heap) (L it d : Addr) (len ep : Nat) (J : Nat → (Str → Option Value) → List (Addr × Obj) → Prop) (s : Shared) (n : Nat) (s' : Shared) : Prop :=
  ∃ i h tk m nx ok ov, s' = { s with heap := h, toks := tk } ∧ i + n = len + 1 ∧ 0 < n ∧ IsItemIter h it d i len ep ok ov ∧ Fr h₀ L h m ∧ News h₀ L h nx ∧ (∀ p ∈ nx, p.1 ≠ it) ∧ J i m nx
theorem PairsLeft.again {h₀ h : Heap} {L it d : Addr} {len ep i n tk : Nat} {J : Nat → (Str → Option Value) → List (Addr × Obj) → Prop} {s s' : Shared} {own : List (Addr × Obj)} {o : Obj} {key v : Value}
    (u : LoopStepU h₀ L [it] own (J (i + 1)) { s with heap := h, toks := tk } .next s') (mem : (it, o) ∈ own) (iter : ∀ h' : Heap, h'.get? it = some o → IsItemIter h' it d (i + 1) len ep key v) (hi : i < len) (sum : i + n = len + 1) :
    ∃ n', n' < n ∧ PairsLeft h₀ L it d len ep J s n' s' := by
  obtain ⟨_, h', t, m, nx, rfl, F, N, off, hJ⟩ := u
  have pos : 0 < n := by omega
  exact ⟨n - 1, Nat.sub_lt pos (Nat.succ_pos 0), i + 1, h', t, m, nx, key, v, rfl, by omega, by omega, iter _ (N _ (List.mem_append_left _ mem)).1, F, N.right, fun p hp q => off p hp (q ▸ List.mem_singleton_self _), hJ⟩
section
variable {prog : Program} {w : World} {K : Type} [DecidableEq K] {knd : KeyKind prog w K} {A : Around} {s : Shared} {env : Env} {h₀ : Heap}
/-- a loop over a dict's pairs whose body may change the ledger, save the dict itself -/
theorem loop_itemsV {R : Result → Shared → Prop} {xk xv : Str} {pk pv pt : Pos} {x1} {body : List Stmt} {it d : Addr} {od : Obj} {kvs : List (K × Value)} {ep : Nat} {m : Str → Option Value} {news : List (Addr × Obj)}
    (hh : A.handled = none) (hxk : env.kindOf xk = some .local) (hxv : env.kindOf xv = some .local)
    (hp : (env.scope.kind == .class || (env.scope.kind == .module && env.locals != env.globals)) = false)
    (hiL : it ≠ env.locals) (hin : h₀.get? it = none) (hnw : ∀ p ∈ news, p.1 ≠ it)
    (hit : IsItemIter s.heap it d 0 kvs.length ep .none .none) (ha : KdkAt knd od kvs ep) (F : Fr h₀ env.locals s.heap m) (N : News h₀ env.locals s.heap news)
    (J : Nat → (Str → Option Value) → List (Addr × Obj) → Prop) (h0 : J 0 m news) (hJd : (∀ i m nx, J i m nx → (d, od) ∈ nx) ∨ h₀.get? d = some od)
    (step : ∀ i k v key m₁ news₁ h tk own (oI : Obj), kvs[i]? = some (k, v) → knd.is k key = true → J i m₁ news₁ → (∀ p ∈ news₁, p.1 ≠ it) → (∀ p ∈ own, p.1 = it) → (it, oI) ∈ own → (∃ a, oI.data = .fields a) →
      Fr h₀ env.locals h (fun y => if y = xv then some v else if y = xk then some key else m₁ y) → News h₀ env.locals h (own ++ news₁) →
      wpAny (model prog w) A (execs body env) (LoopStepV h₀ env.locals [it] own (J (i + 1)) { s with heap := h, toks := tk } (fun v s' => R (.ok (.ret v)) s') fun s' => R (.ok .next) s') (notedBy (model prog w) A env fun e s' => R (.error e) s') { s with heap := h, toks := tk })
    (hR : ∀ h' tk m' news', Fr h₀ env.locals h' m' → News h₀ env.locals h' news' → J kvs.length m' news' → R (.ok .next) { s with heap := h', toks := tk }) :
    codeAny (model prog w) A (.forLoop (.Tuple [.Name xk pk, .Name xv pv] x1 pt) (.ref it) body [] env) R s := by
  refine codeAny_forLoop_any (PairsLeft h₀ env.locals it d kvs.length ep J s) (fun n s' left => ?_) (kvs.length + 1) ⟨0, s.heap, s.toks, m, news, .none, .none, rfl, Nat.zero_add _, Nat.succ_pos _, hit, F, N, hnw, h0⟩
  obtain ⟨i, H, tk, m₁, nx, ok, ov, rfl, sum, pos, here, F₁, N₁, off, hJ⟩ := left
  have D : H.DictAt knd d kvs ep := ha.dictAt (hJd.elim (fun x => (N₁ _ (x _ _ _ hJ)).1) fun x => F₁.keep _ _ x)
  by_cases hi : i < kvs.length
  · rcases e : kvs[i] with ⟨k, v⟩
    have hv : kvs[i]? = some (k, v) := e ▸ List.getElem?_eq_getElem hi
    refine wpAny_pyNext_items_item here D hv fun key h₁ isk out tup _ ext₁ => wpAny_letOwnedTupleGo_items out fun h₂ back same => ?_
    refine wpAny_assign_Tuple hh ⟨_, (same.2 _ (Nat.ne_of_gt (Heap.lt_size here))).trans tup, rfl, _, rfl⟩ rfl rfl fun h₃ ext₃ => ?_
    have still : ∀ {b o}, h₂.get? b = some o → h₃.get? b = some o := fun g => ext₃ _ _ (Nat.ne_of_lt (Heap.lt_size g)) g
    have ext : Heap.ExtBut it H h₃ := fun b o ne g => still (same.extBut b o ne (ext₁ b o ne g))
    refine bind_two (nx := (it, _) :: nx) hxk hxv hp (fr_ext ext hin (Ne.symm hiL) F₁) (List.forall_mem_cons.mpr ⟨⟨still back, hiL, hin⟩, news_ext ext off N₁⟩) fun h₄ tk₄ F₄ N₄ => ?_
    refine wpAny_mono (step i k v key m₁ nx h₄ tk₄ [_] _ hv isk hJ off (fun p hp => congrArg Prod.fst (List.mem_singleton.mp hp)) (List.mem_singleton_self _) ⟨_, rfl⟩ F₄ N₄) (fun f s₃ r => ?_) fun _ _ x => x
    cases f with
    | next => exact PairsLeft.again (key := key) (v := v) r (List.mem_singleton_self _) (fun _ g => g) hi sum
    | cont => exact PairsLeft.again (key := key) (v := v) r (List.mem_singleton_self _) (fun _ g => g) hi sum
    | brk => exact r
    | ret _ => exact r
  · have all : i = kvs.length := by omega
    exact wpAny_pyNext_items_end hh here D (List.getElem?_eq_none (Nat.le_of_not_lt hi)) fun h₁ ext => wpAny_execs_nil (hR h₁ tk m₁ nx (fr_ext ext hin (Ne.symm hiL) F₁) (news_ext ext off N₁) (all ▸ hJ))
end
section
variable {prog : Program} {w : World} {K : Type} [DecidableEq K] {knd : KeyKind prog w K} {A : Around} {E : Value → Shared → Prop} {s : Shared} {env : Env} {h₀ : Heap} {body : List Stmt} {Q : Flow → Shared → Prop}
theorem kst_items {σ : Type} {xk xv : Str} {vw d : Addr} {od : Obj} {kvs : List (K × Value)} {m₀ : Str → Option Value} (Led : σ → List (Addr × Obj)) (ps : σ → List (Str × Value)) (Facts : σ → Prop) (stored : List Str) (P : Nat → σ → Prop) (c₀ : σ)
    (hh : A.handled = none) (hxk : env.kindOf xk = some .local) (hxv : env.kindOf xv = some .local)
    (hp : (env.scope.kind == .class || (env.scope.kind == .module && env.locals != env.globals)) = false)
    (hvw : ∃ ov, s.heap.get? vw = some ov ∧ ov.cls = .type "dict_items" ∧ ov.data = .fields #[.ref d]) (hd : od.IsDictOf knd kvs)
    (F : Fr h₀ env.locals s.heap m₀) (N : News h₀ env.locals s.heap (Led c₀)) (hm : (∀ c, (d, od) ∈ Led c) ∨ h₀.get? d = some od) (hf : Facts c₀) (hk : ∀ p ∈ ps c₀, m₀ p.1 = some p.2) (hP : P 0 c₀)
    (turn : ∀ (c : σ) (i : Nat) (k : K) (v key : Value) (u : Str → Option Value) h tk own, kvs[i]? = some (k, v) → knd.is k key = true → OwnOff own ((Led c₀).map (·.1)) → Facts c → P i c →
      Fr h₀ env.locals h (fun y => if y = xv then some v else if y = xk then some key else kstB (fun z => if stored.contains z then u z else m₀ z) (ps c) y) → News h₀ env.locals h (Led c ++ own) →
      wpAny (model prog w) A (execs body env) (InvPostN h₀ env.locals (KstS Led ps Facts xk (xv :: stored) m₀ (fun l => P l.length) (rangeKs 0 (i + 1))) own ((Led c₀).map (·.1)) { s with heap := h, toks := tk } Q) E { s with heap := h, toks := tk })
    (done : ∀ (c : σ) (u : Str → Option Value) h tk, Facts c → P kvs.length c → Fr h₀ env.locals h (fun y => if y = xk then u y else kstB (fun z => if (xv :: stored).contains z then u z else m₀ z) (ps c) y) → News h₀ env.locals h (Led c) → Q .next { s with heap := h, toks := tk })
    (hE : PassesOwn (model prog w) A env E := by passes_own) :
    wpAny (model prog w) A (pyIter (.ref vw)) (fun it s₂ => PairLoopAt prog w A h₀ env xk xv body Q E it s₂) E s := by
  obtain ⟨ep, ha⟩ := KdkAt.of hd
  have hdm : s.heap.get? d = some od := hm.elim (fun x => (N _ (x c₀)).1) fun x => F.keep _ _ x
  refine wpAny_pyIter_items (knd := knd) (d := d) (kvs := kvs) (ep := ep) hvw (ha.dictAt hdm) ?_
  intro pk pv pt x1
  let J : Nat → (Str → Option Value) → List (Addr × Obj) → Prop := fun i m nx => nx.map (·.1) = (Led c₀).map (·.1) ∧ KstS Led ps Facts xk (xv :: stored) m₀ (fun l => P l.length) (rangeKs 0 i) m nx
  refine loop_itemsV (knd := knd) (h₀ := h₀) (news := Led c₀) hh hxk hxv hp (Nat.ne_of_gt F.ns.lt) (next_is_new F)
    (fun p hp => Nat.ne_of_lt (Heap.lt_size (N p hp).1)) (Heap.get?_push_size _ rfl) ha (F.push _) (fun p hp => ⟨Heap.get?_push_of_some _ (N p hp).1, (N p hp).2⟩) J ⟨rfl, c₀, rfl, hf, hk, fun _ _ _ _ => rfl, hP⟩ (hm.imp (fun x i m nx ⟨_, c, e, _⟩ => e ▸ x c) id) ?_ ?_
  · rintro i k v key m₁ news₁ h tk own _ hx hkey ⟨hadr, c, rfl, hf', h1, h2, hP'⟩ hnw hown _ _ F₁ N₁
    have hlt : i < kvs.length := (List.getElem?_eq_some_iff.mp hx).1
    have hoff : OwnOff own ((Led c₀).map (·.1)) := by
      intro p hp b hb e
      rw [← hadr] at hb
      obtain ⟨q, hq, rfl⟩ := List.mem_map.mp hb
      exact hnw q hq (e.symm.trans (hown p hp))
    have N₂ : News h₀ env.locals h (Led c ++ own) := fun p hp => N₁ p ((List.mem_append.mp hp).elim (fun h => List.mem_append.mpr (.inr h)) fun h => List.mem_append.mpr (.inl h))
    have hP'' : P i c := by have := hP'; rwa [rangeKs_length] at this
    have em : (fun y => if y = xv then some v else if y = xk then some key else kstB (fun z => if stored.contains z then m₁ z else m₀ z) (ps c) y) = fun y => if y = xv then some v else if y = xk then some key else m₁ y := by
      funext y
      by_cases hy : y = xv
      · simp [hy]
      · by_cases hy2 : y = xk
        · simp [hy2]
        · simp only [hy, hy2, if_false]
          refine kstB_eq h1 fun hn => ?_
          show (if stored.contains y = true then m₁ y else m₀ y) = m₁ y
          cases h3 : stored.contains y with
          | true => simp
          | false =>
            simp only [Bool.false_eq_true, if_false]
            refine (h2 y hy2 hn ?_).symm
            simp only [List.contains_cons, h3, Bool.or_false, beq_eq_false_iff_ne, ne_eq]; exact hy
    refine wpAny_passesOwn hE (wpAny_mono (turn c i k v key m₁ h tk own hx hkey hoff hf' hP'' (em ▸ F₁) N₂) (fun f s₂ p => ?_) fun _ _ e => e)
    have fin : InvEndN h₀ env.locals (KstS Led ps Facts xk (xv :: stored) m₀ (fun l => P l.length) (rangeKs 0 (i + 1))) own ((Led c₀).map (·.1)) { s with heap := h, toks := tk } s₂ → LoopStepU h₀ env.locals [s.heap.objs.size] own (J (i + 1)) { s with heap := h, toks := tk } .next s₂ := by
      rintro ⟨h', tk', m', news', nx, e, F', N', hn, ho, ha', hS⟩
      refine ⟨rfl, h', tk', m', nx, e, F', fun p hp => N' p ((List.mem_append.mp hp).elim (ho p) (hn p)), fun p hp hq => ?_, ha', hS⟩
      have h1 : p.1 ∈ nx.map (·.1) := List.mem_map.mpr ⟨p, hp, rfl⟩
      rw [ha', ← hadr] at h1
      obtain ⟨q, hq1, hq2⟩ := List.mem_map.mp h1
      exact hnw q hq1 (hq2.trans (List.mem_singleton.mp hq))
    cases f with
    | ret v => exact .ret p
    | brk => exact .brk p
    | next => exact .next (fin p)
    | cont => exact .cont (fin p)
  · rintro h' tk m' news' F' N' ⟨_, c, rfl, hf', h1, h2, hP'⟩
    rw [rangeKs_length] at hP'
    exact done c m' h' tk hf' hP' (kst_frOut h1 h2 F') N'
end
section
variable {prog : Program} {w : World} {A : Around} {E : Value → Shared → Prop} {s : Shared} {env : Env} {h₀ : Heap} {body : List Stmt} {Q : Flow → Shared → Prop}
theorem kdpD_get (c : List (Str × Int)) {i : Nat} {q : PyData × PyData} (h : (kdpD c)[i]? = some q) : ∃ k n, c[i]? = some (k, n) ∧ q = (.str k, .int n) := by
  unfold kdpD at h
  rw [List.getElem?_map] at h
  cases hc : c[i]? with
  | none => rw [hc] at h; cases h
  | some p => rw [hc] at h; exact ⟨p.1, p.2, rfl, (Option.some.inj h).symm⟩
theorem pairs_get {kvs : List (Str × Value)} {c : List (Str × Int)} (hf : FlatPairs PyData.str kvs (kdpD c)) {i : Nat} {k : Str} {v : Value} (h : kvs[i]? = some (k, v)) : ∃ n t, c[i]? = some (k, n) ∧ v = .int n t := by
  obtain ⟨dv, hd, hfl⟩ := hf.at h
  obtain ⟨k', n, hc, e⟩ := kdpD_get c hd
  have e1 : PyData.str k = PyData.str k' := congrArg Prod.fst e
  have e2 : dv = PyData.int n := congrArg Prod.snd e
  injection e1 with e1
  subst e1; subst e2
  obtain ⟨t, rfl⟩ := Flat.int_inv hfl
  exact ⟨n, t, hc, rfl⟩
/-- a loop over the values of a dict (text to int) that lies in the ground -/
theorem kst_vals {σ : Type} {x : Str} {vw d : Addr} {cc : List (Str × Int)} {m₀ : Str → Option Value} (Led : σ → List (Addr × Obj)) (ps : σ → List (Str × Value)) (Facts : σ → Prop) (stored : List Str) (P : Nat → σ → Prop) (c₀ : σ)
    (hh : A.handled = none) (hvw : ∃ ov, s.heap.get? vw = some ov ∧ ov.cls = .type "dict_values" ∧ ov.data = .fields #[.ref d]) (T : TabAt (strKind prog w) PyData.str h₀ d (kdpD cc))
    (F : Fr h₀ env.locals s.heap m₀) (N : News h₀ env.locals s.heap (Led c₀)) (hf : Facts c₀) (hk : ∀ p ∈ ps c₀, m₀ p.1 = some p.2) (hP : P 0 c₀)
    (turn : ∀ (c : σ) (i : Nat) (k : Str) (n : Int) (t : Tok) (u : Str → Option Value) h tk own, cc[i]? = some (k, n) → OwnOff own ((Led c₀).map (·.1)) → Facts c → P i c →
      Fr h₀ env.locals h (fun y => if y = x then some (.int n t) else kstB (fun z => if stored.contains z then u z else m₀ z) (ps c) y) → News h₀ env.locals h (Led c ++ own) →
      wpAny (model prog w) A (execs body env) (InvPostN h₀ env.locals (KstS Led ps Facts x stored m₀ (fun l => P l.length) (rangeKs 0 (i + 1))) own ((Led c₀).map (·.1)) { s with heap := h, toks := tk } Q) E { s with heap := h, toks := tk })
    (done : ∀ (c : σ) (u : Str → Option Value) h tk, Facts c → P cc.length c → Fr h₀ env.locals h (fun y => if y = x then u y else kstB (fun z => if stored.contains z then u z else m₀ z) (ps c) y) → News h₀ env.locals h (Led c) → Q .next { s with heap := h, toks := tk }) :
    wpAny (model prog w) A (pyIter (.ref vw)) (fun it s₂ => LoopAtV prog w A h₀ env x body Q E it s₂) E s := by
  obtain ⟨lo, kvs, hdo, hfl⟩ := id T
  have hdo' : s.heap.DictOf (strKind prog w) d kvs := by
    obtain ⟨o, ho, r⟩ := Heap.dictOf_iff.mp hdo
    exact Heap.dictOf_iff.mpr ⟨o, F.keep _ _ ho, r⟩
  obtain ⟨oD, hoD, _⟩ := Heap.dictOf_iff.mp hdo
  obtain ⟨ep, hat⟩ := hdo'.dictAt
  have hdlt : d < h₀.objs.size := Heap.lt_size hoD
  have hne : d ≠ s.heap.objs.size := Nat.ne_of_lt hat.lt_size
  have hlen : kvs.length = cc.length := by rw [← hfl.length, kdpD_length]
  refine wpAny_pyIter_values (knd := strKind prog w) hvw hat ?_
  refine loop_invN (fun i m nx => KstS Led ps Facts x stored m₀ (fun l => P l.length) (rangeKs 0 i) m nx) (Walks.dictValues (knd := strKind prog w) hh s.heap.objs.size d hne kvs ep) ?_ ?_ ?_ ?_ ⟨⟨_, Heap.get?_push_size _ rfl, rfl, rfl⟩, hat.push _⟩ (F.push _) (fun p hp => ⟨Heap.get?_push_of_some _ (N p hp).1, (N p hp).2⟩) ⟨c₀, rfl, hf, hk, fun _ _ _ _ => rfl, hP⟩ ?_ ?_
  · intro hm
    rcases List.mem_cons.mp hm with e | hm
    · exact absurd F.ns.lt (e ▸ Nat.lt_irrefl _)
    · exact absurd (Nat.lt_of_lt_of_le hdlt F.above) ((List.mem_singleton.mp hm) ▸ Nat.lt_irrefl _)
  · intro b hb
    rw [List.mem_singleton.mp hb]
    exact next_is_new F
  · intro p hp hI
    exact absurd (Heap.lt_size (N p hp).1) ((List.mem_singleton.mp hI) ▸ Nat.lt_irrefl _)
  · intro q hq hI
    rcases List.mem_cons.mp hI with e | hm
    · exact absurd (Heap.lt_size (N q hq).1) (e ▸ Nat.lt_irrefl _)
    · have h3 := (N q hq).2.2
      rw [List.mem_singleton.mp hm, hoD] at h3
      cases h3
  · rintro i v m₁ nx h tk own hi ⟨k, hx⟩ _ hoff ⟨c, rfl, hf', h1, h2, hp'⟩ F₁ N₁
    obtain ⟨n, t, hc, rfl⟩ := pairs_get hfl hx
    rw [rangeKs_length] at hp'
    exact turn c i k n t m₁ h tk own hc hoff hf' hp' (kst_fr h1 h2 F₁) N₁
  · rintro m₁ nx h tk ⟨c, rfl, hf', h1, h2, hp'⟩ F₁ N₁
    rw [rangeKs_length, hlen] at hp'
    exact done c m₁ h tk hf' hp' (kst_frOut h1 h2 F₁) N₁
end
end Mine
end PartC6
section PartC7
open PySem PySem.W PyProof.Rows PySem.Calls PyProof.V
namespace Mine
noncomputable def sumF (c : List (Str × Int)) : Int := c.foldl (fun a p => a + p.2) 0
theorem sumF_take {c : List (Str × Int)} {i : Nat} {k : Str} {n : Int} (h : c[i]? = some (k, n)) : sumF (c.take (i + 1)) = sumF (c.take i) + n := by
  unfold sumF
  rw [List.take_add_one, h, List.foldl_append]; rfl
theorem sumF_all (c : List (Str × Int)) : sumF (c.take c.length) = sumF c := by rw [List.take_length]
/-- add_callers over text to int -/
noncomputable def addStep (acc : List (Str × Int)) (p : Str × Int) : List (Str × Int) := if kdpHas acc p.1 then kdpPut acc p.1 (kdpLook acc p.1 0 + p.2) else kdpPut acc p.1 p.2
noncomputable def copyF (t : List (Str × Int)) : List (Str × Int) := t.foldl (fun acc p => kdpPut acc p.1 p.2) []
noncomputable def addF (t s : List (Str × Int)) : List (Str × Int) := s.foldl addStep (copyF t)
theorem foldl_take {α β : Type} (f : α → β → α) (a : α) {c : List β} {i : Nat} {p : β} (h : c[i]? = some p) : (c.take (i + 1)).foldl f a = f ((c.take i).foldl f a) p := by
  rw [List.take_add_one, h, List.foldl_append]; rfl
theorem foldl_len (f : List (Str × Int) → Str × Int → List (Str × Int)) (hf : ∀ a p, (f a p).length ≤ a.length + 1) (c : List (Str × Int)) : ∀ a, (c.foldl f a).length ≤ a.length + c.length := by
  induction c with
  | nil => intro a; simp
  | cons p c ih => intro a; have := ih (f a p); have := hf a p; simp only [List.foldl_cons, List.length_cons]; omega
theorem addStep_len (a : List (Str × Int)) (p : Str × Int) : (addStep a p).length ≤ a.length + 1 := by unfold addStep; split <;> exact kdpPut_len _ _ _
theorem copyF_len (t : List (Str × Int)) : (copyF t).length ≤ t.length := by have := foldl_len _ (fun a p => kdpPut_len a p.1 p.2) t []; simpa [copyF] using this
theorem addF_len (t s : List (Str × Int)) : (addF t s).length ≤ t.length + s.length := by have := foldl_len _ addStep_len s (copyF t); have := copyF_len t; unfold addF; omega
theorem pairs_len {kvs : List (Str × Value)} {c : List (Str × Int)} (hf : FlatPairs PyData.str kvs (kdpD c)) : kvs.length = c.length := by rw [← hf.length, kdpD_length]
noncomputable abbrev PR : Program := PySem.Challenge.rw_pm0039_01.row.prog
/-- gives back a new dict, text to int -/
noncomputable abbrev RetD (w : World) (c : List (Str × Int)) : RetT := fun h₀ L m news s Q => ∀ (q : Addr) (o : Obj) (kvs : List (Str × Value)) (h' : Heap) (tk' : Nat), o.IsDictOf (strKind PySem.Challenge.rw_pm0039_01.row.prog w) kvs → FlatPairs PyData.str kvs (kdpD c) → (q == sysModules) = false → Fr h₀ L h' m → News h₀ L h' ((q, o) :: news) → (∀ p ∈ news, Apart p.1 q) → Q (.ref q) { s with heap := h', toks := tk' }
theorem fin_dict {w : World} {h₀ g h' : Heap} {L L' : Addr} {m m' : Str → Option Value} {news AA l' : List (Addr × Obj)} {q : Addr} {o : Obj} {kvs : List (Str × Value)} {c : List (Str × Int)} {s : Shared} {tk' : Nat} {Q E : Value → Shared → Prop}
    (F' : Fr g L' h' m') (N' : News g L' h' l') (hm : (q, o) ∈ l') (hg : ∀ p ∈ news, p ∈ AA ∨ g.get? p.1 = some p.2) (hAA : ∀ p ∈ AA, p ∈ l') (hA : ∀ p ∈ AA, p.1 ≠ q) (hd : o.IsDictOf (strKind PySem.Challenge.rw_pm0039_01.row.prog w) kvs) (hf : FlatPairs PyData.str kvs (kdpD c)) (lo : (q == sysModules) = false)
    (hret : RetD w c h₀ L m news s Q) :
    LeaveK h₀ L m g (fun r s'' => (∀ p ∈ AA, s''.heap.get? p.1 = some p.2) ∧ (News h₀ L s''.heap news → match r with | .ok (.ret v) => Q v s'' | .ok _ => False | .error e => E e s'')) (.ref q) { s with heap := h', toks := tk' } := by
  refine leaveK_ F' N' fun kF kN => ⟨fun p hp => (N' p (hAA p hp)).1, fun kNN => ?_⟩
  obtain ⟨h1, h2⟩ := fin_obj kN hm N' hm hg hA kNN
  exact hret q o kvs h' tk' hd hf lo kF h1 h2
end Mine
end PartC7
section PartC8
open PySem PySem.W PyProof.Rows PySem.Calls PyProof.V
namespace Mine
-- the law's own tree
noncomputable def lawFn : List Stmt × Scope := match PySem.Challenge.rw_pm0039_01.row.prog.main.body.getLast? with
  | some (.FunctionDef _ _ body _ _ _ scope _ _ _) => (body, scope)
  | _ => ([], default)
noncomputable def lawBody : List Stmt := lawFn.1
noncomputable def lawScope : Scope := lawFn.2
noncomputable def lawStmt (k : Nat) : Stmt := lawBody.getD k (.Pass ⟨0, 0, 0, 0⟩)
noncomputable abbrev lawEnv (L a : Addr) (c : Value) : Env := envX (Str.ofString "law") lawScope L a c (cellsFrom (L + 1) lawScope.names [])
-- letters and words
noncomputable def ltr (p : Int) : PySem.Str := if p = 0 then Str.ofString "ab" else Str.ofString "Aa"
theorem ltr_len (p : Int) : (ltr p).length = 2 := by unfold ltr; split <;> rfl
noncomputable def wordS (l : PySem.Str) (n : Int) : PySem.Str := Txt.mul (Txt.item l 0) (n.fdiv 4) ++ Txt.mul (Txt.item l 1) (n.fmod 4)
theorem item_len1 {x : PySem.Str} {i : Int} (h : (Txt.item x i).length = 1) : (Txt.item x i).length ≤ 1 := Nat.le_of_eq h
theorem ltr_item (p i : Int) (h0 : 0 ≤ i) (h1 : i < 2) : (Txt.item (ltr p) i).length = 1 := by
  have : i = 0 ∨ i = 1 := by omega
  unfold ltr
  rcases this with rfl | rfl <;> split <;> rfl
theorem ltNat {a b : Nat} (h : a < b) : a < b := h
-- the drawn numbers
theorem drawn3 {vs : List Value} {w : List Int} (h : IntsAre vs (List.map (fun k => k.fmod 48) (List.take 3 w) ++ List.drop ((List.map (fun k => k.fmod 48) (List.take 3 w)).length : Int).toNat [3, 13, 0])) :
    ∃ (a b c : Int) (t u v : Tok), vs = [.int a t, .int b u, .int c v] ∧ (0 ≤ a ∧ a < 48) ∧ (0 ≤ b ∧ b < 48) ∧ (0 ≤ c ∧ c < 48) := by
  have bd : ∀ k : Int, 0 ≤ k.fmod 48 ∧ k.fmod 48 < 48 := fun k => by rw [Int.fmod_eq_emod_of_nonneg _ (by decide)]; omega
  have tri : ∀ {vs : List Value} {a b c : Int}, IntsAre vs [a, b, c] → ∃ t u v, vs = [.int a t, .int b u, .int c v] := by
    intro vs a b c h
    cases h with | cons _ t h => cases h with | cons _ u h => cases h with | cons _ v h => cases h with | nil => exact ⟨t, u, v, rfl⟩
  match w with
  | [] => obtain ⟨t, u, v, e⟩ := tri (a := 3) (b := 13) (c := 0) h; exact ⟨_, _, _, t, u, v, e, by decide, by decide, by decide⟩
  | [x] => obtain ⟨t, u, v, e⟩ := tri (a := x.fmod 48) (b := 13) (c := 0) h; exact ⟨_, _, _, t, u, v, e, bd x, by decide, by decide⟩
  | [x, y] => obtain ⟨t, u, v, e⟩ := tri (a := x.fmod 48) (b := y.fmod 48) (c := 0) h; exact ⟨_, _, _, t, u, v, e, bd x, bd y, by decide⟩
  | x :: y :: z :: r => obtain ⟨t, u, v, e⟩ := tri (a := x.fmod 48) (b := y.fmod 48) (c := z.fmod 48) h; exact ⟨_, _, _, t, u, v, e, bd x, bd y, bd z⟩
theorem weight1 {vs : List Value} {l : List Int} (h : IntsAre vs (l ++ [1])) : ∃ (a : Int) (t : Tok) (r : List Value), vs = .int a t :: r := by
  cases l with
  | nil => cases h with | cons _ t _ => exact ⟨_, _, _, rfl⟩
  | cons a l => cases h with | cons _ t _ => exact ⟨_, _, _, rfl⟩
theorem fmod_bd (a : Int) {n : Int} (h : 0 < n) : 0 ≤ a.fmod n ∧ a.fmod n < n := by
  rw [Int.fmod_eq_emod_of_nonneg a (by omega)]; exact ⟨Int.emod_nonneg a (by omega), Int.emod_lt_of_pos a h⟩
theorem fd4_rng {k : Int} (h0 : 0 ≤ k) (h1 : k < 16) : -(2 ^ 63 : Int) ≤ k.fdiv 4 ∧ k.fdiv 4 ≤ ((1048576 : Nat) : Int) ∧ 0 ≤ k.fdiv 4 ∧ k.fdiv 4 < 4 := by
  rw [Int.fdiv_eq_ediv_of_nonneg _ (by decide)]; omega
theorem fm4_rng {k : Int} : -(2 ^ 63 : Int) ≤ k.fmod 4 ∧ k.fmod 4 ≤ ((1048576 : Nat) : Int) ∧ 0 ≤ k.fmod 4 ∧ k.fmod 4 < 4 := by
  rw [Int.fmod_eq_emod_of_nonneg _ (by decide)]; omega
theorem mul_len {x : PySem.Str} {i : Int} (hn : 0 ≤ i → ((Txt.mul x i).length : Int) = ((1 : Nat) : Int) * i) (h0 : 0 ≤ i) (h1 : i < 4) : (Txt.mul x i).length ≤ 16 := by have := hn h0; omega
end Mine
end PartC8
section PartC9
open PySem PySem.W PyProof.Rows PySem.Calls PyProof.V PySem.Flt
namespace Mine
theorem all_of {p : Int → Bool} {n : Nat} (h : (List.range n).all (fun (i : Nat) => p i) = true) {x : Int} (h0 : 0 ≤ x) (h1 : x < n) : p x = true := by
  have := List.all_eq_true.mp h x.toNat (List.mem_range.mpr (by omega))
  rwa [Int.toNat_of_nonneg h0] at this
noncomputable def prc (par : Int) (k : Int) : Int := if k = 2 ∨ k = 5 then 2 - par else 2
/-- f at x, with x computed first (for the kernel, which else computes it anew wherever f names it) -/
noncomputable def fo {α : Type} (x : Int) (f : Int → α) : α := match x with | .ofNat 0 => f 0 | .ofNat (k + 1) => f (.ofNat (k + 1)) | .negSucc k => f (.negSucc k)
theorem fo_eq {α : Type} (x : Int) (f : Int → α) : fo x f = f x := by rcases x with (_ | k) | k <;> rfl
noncomputable def priceF (par x y : Int) : Int := fo x fun x => fo y fun y => (wayF x y).2.1 * prc par (wayF x y).1 + (wayF x y).2.2 * prc par ((wayF x y).1 + 1)
theorem priceF_eq (par x y : Int) : priceF par x y = (wayF x y).2.1 * prc par (wayF x y).1 + (wayF x y).2.2 * prc par ((wayF x y).1 + 1) := by unfold priceF; rw [fo_eq, fo_eq]
/-- (0, q, p, 0, q, p)[k] -/
noncomputable def zeroF (x y : Int) : Int := if (wayF x y).1 = 1 ∨ (wayF x y).1 = 4 then (wayF x y).2.2 else if (wayF x y).1 = 2 ∨ (wayF x y).1 = 5 then (wayF x y).2.1 else 0
noncomputable def chkLev (par x y : Int) : Bool :=
  decide (levF (wordS (ltr par) x) (wordS (ltr par) y) (priceF par x y) = priceF par x y) && decide (levF (wordS (ltr par) x) (wordS (ltr par) y) (priceF par x y - 1) = priceF par x y)
  && decide (levF (wordS (ltr par) x) (wordS (ltr par) y) 0 = if 0 < zeroF x y then 1 else priceF par x y)
set_option maxHeartbeats 4000000 in
theorem chkLev_all : (List.range 2).all (fun (p : Nat) => (fun par => (List.range 16).all fun (i : Nat) => (fun x => (List.range 16).all fun (j : Nat) => (fun y => chkLev par x y) j) i) (p : Int)) = true := by decide +kernel
theorem lev_facts {par x y : Int} (hp : 0 ≤ par ∧ par < 2) (hx : 0 ≤ x ∧ x < 16) (hy : 0 ≤ y ∧ y < 16) :
    levF (wordS (ltr par) x) (wordS (ltr par) y) (priceF par x y) = priceF par x y ∧ levF (wordS (ltr par) x) (wordS (ltr par) y) (priceF par x y - 1) = priceF par x y ∧ levF (wordS (ltr par) x) (wordS (ltr par) y) 0 = if 0 < zeroF x y then 1 else priceF par x y := by
  have h1 := all_of (p := fun par => (List.range 16).all fun (i : Nat) => (fun x => (List.range 16).all fun (j : Nat) => (fun y => chkLev par x y) j) (i : Int)) chkLev_all hp.1 hp.2
  have h2 := all_of (p := fun x => (List.range 16).all fun (j : Nat) => (fun y => chkLev par x y) (j : Int)) h1 hx.1 hx.2
  have h3 := all_of (p := fun y => chkLev par x y) h2 hy.1 hy.2
  simp only [chkLev, Bool.and_eq_true, decide_eq_true_eq] at h3
  exact ⟨h3.1.1, h3.1.2, h3.2⟩
theorem wordS_len {p n : Int} (hn : 0 ≤ n ∧ n < 16) : (wordS (ltr p) n).length ≤ 6 := by
  have key : ∀ l : PySem.Str, (l = Str.ofString "ab" ∨ l = Str.ofString "Aa") → (wordS l n).length ≤ 6 := by
    have ha : (List.range 16).all (fun (i : Nat) => (fun n => decide ((wordS (Str.ofString "ab") n).length ≤ 6) && decide ((wordS (Str.ofString "Aa") n).length ≤ 6)) (i : Int)) = true := by decide +kernel
    have h := all_of (p := fun n => decide ((wordS (Str.ofString "ab") n).length ≤ 6) && decide ((wordS (Str.ofString "Aa") n).length ≤ 6)) ha hn.1 hn.2
    simp only [Bool.and_eq_true, decide_eq_true_eq] at h
    rintro l (rfl | rfl)
    · exact h.1
    · exact h.2
  refine key _ ?_
  unfold ltr
  split
  · exact .inl rfl
  · exact .inr rfl
-- the colours
noncomputable def cRX (X Y : Int) : UInt64 := Float64.div (Float64.ofInt (8 + X + Y)) 4625196817309499392
noncomputable def cGX (Y : Int) : UInt64 := Float64.div (Float64.ofInt (8 + Y)) 4625196817309499392
noncomputable def chkCol (X Y : Int) : Bool :=
  let r := cRX X Y; let g := cGX Y; let b := colB; let w := wayGo X Y 6 0
  let hs := hsvF r g b; let hl := hlsF r g b; let l := hl.2.1
  decide (0 ≤ w.1) && decide (w.1 < 6) && decide (0 ≤ w.2.1) && decide (w.2.1 < 4) && decide (0 ≤ w.2.2) && decide (w.2.2 < 4) &&
  okHsv r g b && (Float64.cmp hs.2.2 (fmax3 r g b) == some .eq) && fitsF hs.1 (Float64.mul hs.2.1 hs.2.2) w.1 w.2.1 w.2.2 &&
  okHls r g b && (Float64.cmp (Float64.add l l) (Float64.add (fmax3 r g b) (fmin3 r g b)) == some .eq) && fitsF hl.1 (Float64.mul (Float64.mul hl.2.2 (if (Float64.cmp (Float64.sub 4607182418800017408 l) l == some .lt) = true then Float64.sub 4607182418800017408 l else l)) 4611686018427387904) w.1 w.2.1 w.2.2
set_option maxHeartbeats 4000000 in
theorem chkCol_all : (List.range 7).all (fun (p : Nat) => (fun X => (List.range 7).all fun (i : Nat) => (fun Y => chkCol (X - 3) (Y - 3)) (i : Int)) (p : Int)) = true := by decide +kernel
theorem way_rng {x y : Int} (hx : 0 ≤ x ∧ x < 16) (hy : 0 ≤ y ∧ y < 16) : (-3 ≤ wayX x y ∧ wayX x y ≤ 3) ∧ (-3 ≤ wayY x y ∧ wayY x y ≤ 3) := by
  have a := fd4_rng hx.1 hx.2
  have b := fd4_rng hy.1 hy.2
  have c := fm4_rng (k := x)
  have d := fm4_rng (k := y)
  unfold wayX wayY
  omega
theorem col_facts {x y : Int} (hx : 0 ≤ x ∧ x < 16) (hy : 0 ≤ y ∧ y < 16) : chkCol (wayX x y) (wayY x y) = true := by
  obtain ⟨hX, hY⟩ := way_rng hx hy
  have h1 := all_of (p := fun X => (List.range 7).all fun (i : Nat) => (fun Y => chkCol (X - 3) (Y - 3)) (i : Int)) chkCol_all (x := wayX x y + 3) (by omega) (by omega)
  have h2 := all_of (p := fun Y => chkCol (wayX x y + 3 - 3) (Y - 3)) h1 (x := wayY x y + 3) (by omega) (by omega)
  have e1 : wayX x y + 3 - 3 = wayX x y := by omega
  have e2 : wayY x y + 3 - 3 = wayY x y := by omega
  rwa [e1, e2] at h2
theorem way_bd {x y : Int} (hx : 0 ≤ x ∧ x < 16) (hy : 0 ≤ y ∧ y < 16) : (0 ≤ (wayF x y).1 ∧ (wayF x y).1 < 6) ∧ (0 ≤ (wayF x y).2.1 ∧ (wayF x y).2.1 < 4) ∧ (0 ≤ (wayF x y).2.2 ∧ (wayF x y).2.2 < 4) := by
  have h := col_facts hx hy
  simp only [chkCol, Bool.and_eq_true, decide_eq_true_eq] at h
  obtain ⟨⟨⟨⟨⟨⟨⟨⟨⟨⟨⟨a, b⟩, c⟩, d⟩, e⟩, f⟩, _⟩, _⟩, _⟩, _⟩, _⟩, _⟩ := h
  exact ⟨⟨a, b⟩, ⟨c, d⟩, ⟨e, f⟩⟩
theorem hsv_facts {x y : Int} (hx : 0 ≤ x ∧ x < 16) (hy : 0 ≤ y ∧ y < 16) : okHsv (colR x y) (colG x y) colB = true ∧ (Float64.cmp (hsvF (colR x y) (colG x y) colB).2.2 (fmax3 (colR x y) (colG x y) colB) == some .eq) = true ∧ fitsF (hsvF (colR x y) (colG x y) colB).1 (Float64.mul (hsvF (colR x y) (colG x y) colB).2.1 (hsvF (colR x y) (colG x y) colB).2.2) (wayF x y).1 (wayF x y).2.1 (wayF x y).2.2 = true := by
  have h := col_facts hx hy
  simp only [chkCol, Bool.and_eq_true, decide_eq_true_eq] at h
  obtain ⟨⟨⟨⟨⟨_, a⟩, b⟩, c⟩, _⟩, _⟩ := (⟨⟨h.1.1.1, h.1.1.2⟩, h.2⟩ : (_ ∧ _) ∧ _) |> fun q => (⟨⟨⟨⟨q.1.1.1.1, q.1.1.1.2⟩, q.1.1.2⟩, q.1.2⟩, q.2⟩ : (((_ ∧ _) ∧ _) ∧ _) ∧ _) |> fun q => (⟨⟨⟨⟨⟨trivial, q.1.1.1.1.2⟩, q.1.1.1.2⟩, q.1.1.2⟩, trivial⟩, trivial⟩ : ((((True ∧ _) ∧ _) ∧ _) ∧ True) ∧ True)
  exact ⟨a, b, c⟩
theorem hls_facts {x y : Int} (hx : 0 ≤ x ∧ x < 16) (hy : 0 ≤ y ∧ y < 16) : okHls (colR x y) (colG x y) colB = true ∧ (Float64.cmp (Float64.add (hlsF (colR x y) (colG x y) colB).2.1 (hlsF (colR x y) (colG x y) colB).2.1) (Float64.add (fmax3 (colR x y) (colG x y) colB) (fmin3 (colR x y) (colG x y) colB)) == some .eq) = true ∧
    fitsF (hlsF (colR x y) (colG x y) colB).1 (Float64.mul (Float64.mul (hlsF (colR x y) (colG x y) colB).2.2 (if (Float64.cmp (Float64.sub 4607182418800017408 (hlsF (colR x y) (colG x y) colB).2.1) (hlsF (colR x y) (colG x y) colB).2.1 == some .lt) = true then Float64.sub 4607182418800017408 (hlsF (colR x y) (colG x y) colB).2.1 else (hlsF (colR x y) (colG x y) colB).2.1)) 4611686018427387904) (wayF x y).1 (wayF x y).2.1 (wayF x y).2.2 = true := by
  have h := col_facts hx hy
  simp only [chkCol, Bool.and_eq_true, decide_eq_true_eq] at h
  exact ⟨h.1.1.2, h.1.2, h.2⟩
/-- the words of the law, as a list of values -/
noncomputable def WordsAre (l : PySem.Str) (ys : List Value) : Prop := ∀ k : Int, 0 ≤ k → k < 16 → ∃ t, ys[k.toNat]? = some (.str (wordS l k) t)
theorem carried_get {ys : List Value} {ds : List PyData} (h : CarriedAll ys ds) : ∀ (i : Nat) (x : PySem.Str), ds[i]? = some (.str x) → ∃ t, ys[i]? = some (.str x t) := by
  induction h with
  | nil => intro i x h; cases h
  | cons hc _ ih =>
    intro i x h
    cases i with
    | zero =>
      have : _ = PyData.str x := Option.some.inj h
      subst this
      cases hc with
      | str _ t => exact ⟨t, rfl⟩
    | succ i => exact ih i x h
theorem WordsAre.of {l : PySem.Str} {ys : List Value} (h : CarriedAll ys (List.map (fun k => PyData.str (wordS l k)) (rangeKs 0 16))) : WordsAre l ys := by
  intro k h0 h1
  refine carried_get h k.toNat _ ?_
  have : (rangeKs 0 16)[k.toNat]? = some k := by
    have h2 : k.toNat < 16 := by omega
    simp only [rangeKs, List.getElem?_map]
    rw [List.getElem?_range h2]
    simp only [Option.map_some, Option.some.injEq]; omega
  rw [List.getElem?_map, this]; rfl
/-- the seven prices -/
noncomputable def PricesAre (par : Int) (vs : List Value) : Prop := ∀ k : Int, 0 ≤ k → k < 7 → ∃ t, vs[k.toNat]? = some (.int (prc par k) t)
theorem cases7 {k : Int} (h0 : 0 ≤ k) (h1 : k < 7) : k = 0 ∨ k = 1 ∨ k = 2 ∨ k = 3 ∨ k = 4 ∨ k = 5 ∨ k = 6 := by omega
theorem PricesAre.of {par : Int} {t0 t1 t2 t3 t4 t5 t6 : Tok} : PricesAre par [.int 2 t0, .int 2 t1, .int (2 - par) t2, .int 2 t3, .int 2 t4, .int (2 - par) t5, .int 2 t6] := by
  intro k h0 h1
  rcases cases7 h0 h1 with rfl | rfl | rfl | rfl | rfl | rfl | rfl <;> exact ⟨_, rfl⟩
section
variable {prog : Program} {w : World} {A : Around} {E : Value → Shared → Prop} {s : Shared} {h₀ : Heap} {L : Addr} {news : List (Addr × Obj)} {value slice : PySem.Expr} {l : Addr} {n : Nat} {k : Int} {u : Tok} {Q : Value → Shared → Prop} {vs : List Value}
/-- an item of a list of the ledger, known up to its token -/
theorem item_someK {f : Tok → Value} (N : News h₀ L s.heap news) (hm : (l, ({ cls := .type "list", data := .seq vs.toArray n } : Obj)) ∈ news) (h0 : 0 ≤ k) (hk : k < 2 ^ 63) (hx : ∃ t, vs[k.toNat]? = some (f t)) (h : ∀ t, Q (f t) s)
    (hs : subscripted slice false (.ref l) (.int k u) = operate [.ref l, .int k u] (getItem (.ref l) (.int k u))) :
    wpAny (model prog w) A (subscriptTail value slice (.ref l) (.int k u)) Q E s := by
  obtain ⟨t, ht⟩ := hx
  exact item_listK N hm h0 hk ht (h t) hs
/-- list.append, with the ledger afterwards given -/
theorem append_M {D : Addr} {x : Value} {m : Str → Option Value} (F : Fr h₀ L s.heap m) (N : News h₀ L s.heap news) (hm : (D, listOf vs.toArray n) ∈ news) (hz : vs.length ≤ 16777216) (nf : Value → List (Addr × Obj))
    (hn : ∀ p ∈ nf x, p = (D, listOf (vs ++ [x]).toArray (n + 1)) ∨ (p ∈ news ∧ p.1 ≠ D)) (h : ∀ h', Fr h₀ L h' m → News h₀ L h' (nf x) → Q .none { s with heap := h' }) : wpAny (model prog w) A (call (.builtin "list.append") [.ref D, x]) Q E s := by
  have z := N _ hm
  refine append_at (hsz := by rw [List.size_toArray, sizeLine_eq]; exact hz) z.1 fun h' hs ho' => h h' (F.change hs z.2.1 z.2.2) fun p hp => ?_
  rcases hn p hp with e | ⟨hp', hne⟩
  · rw [e]
    refine ⟨?_, z.2.1, z.2.2⟩
    simpa only [List.push_toArray] using ho'
  · have := N p hp'
    exact ⟨(hs.2 _ hne).trans this.1, this.2⟩
end
theorem snoc_get {vs : List Value} {v : Value} {n : Nat} (h : vs.length = n) : (vs ++ [v])[((n : Nat) : Int).toNat]? = some v := by
  subst h; simp
theorem bne_dead {α : Type} [BEq α] {a b : α} (h1 : (a == b) = true) (h2 : (a != b) = true) : False := by
  unfold bne at h2; rw [h1] at h2; cases h2
theorem six_get {p q k : Int} {t0 t1 t2 t3 t4 t5 : Tok} (h0 : 0 ≤ k) (h1 : k < 6) : ∃ t, [Value.int 0 t0, .int q t1, .int p t2, .int 0 t3, .int q t4, .int p t5][k.toNat]? = some (.int (if k = 1 ∨ k = 4 then q else if k = 2 ∨ k = 5 then p else 0) t) := by
  rcases cases7 h0 (Int.lt_trans h1 (by decide)) with rfl | rfl | rfl | rfl | rfl | rfl | rfl
  case inr.inr.inr.inr.inr.inr => exact absurd h1 (by decide)
  all_goals exact ⟨_, rfl⟩
theorem rangeKs_snoc (a : Int) (n : Nat) : rangeKs a (n + 1) = rangeKs a n ++ [a + (n : Int)] := by
  simp [rangeKs, List.range_succ]
section
variable {prog : Program} {w : World} {A : Around} {E : Value → Shared → Prop} {s : Shared} {h₀ : Heap} {L : Addr} {news : List (Addr × Obj)} {value slice : PySem.Expr} {l : Addr} {n : Nat} {k : Int} {u : Tok} {Q : Value → Shared → Prop} {vs : List Value}
theorem item_someT {f : Tok → Value} (N : News h₀ L s.heap news) (hm : (l, ({ cls := .type "tuple", data := .seq vs.toArray n } : Obj)) ∈ news) (h0 : 0 ≤ k) (hk : k < 2 ^ 63) (hx : ∃ t, vs[k.toNat]? = some (f t)) (h : ∀ t, Q (f t) s)
    (hs : subscripted slice false (.ref l) (.int k u) = operate [.ref l, .int k u] (getItem (.ref l) (.int k u))) :
    wpAny (model prog w) A (subscriptTail value slice (.ref l) (.int k u)) Q E s := by
  obtain ⟨t, ht⟩ := hx
  exact item_tupK N hm h0 hk ht (h t) hs
end
end Mine
end PartC9
section PartC10
open PySem PySem.W PyProof.Rows PySem.Calls PyProof.V PySem.Flt
namespace Mine
section
variable {prog : Program} {w : World} {A : Around} {E : Value → Shared → Prop} {s : Shared} {h₀ : Heap} {L : Addr} {m : Str → Option Value} {news : List (Addr × Obj)}
/-- a dict's item is set, with the ledger afterwards given -/
theorem put_M {D : Addr} {o : Obj} {kvs : List (Str × Value)} {c : List (Str × Int)} {k : Str} {e : Int} {tk te : Tok} {Q : Unit → Shared → Prop} (F : Fr h₀ L s.heap m) (N : News h₀ L s.heap news) (hm : (D, o) ∈ news)
    (hd : o.IsDictOf (strKind prog w) kvs) (hf : FlatPairs PyData.str kvs (kdpD c)) (hc : c.length ≤ 16777216) (nf : Obj → List (Addr × Obj))
    (hn : ∀ o', ∀ p ∈ nf o', p = (D, o') ∨ (p ∈ news ∧ p.1 ≠ D))
    (h : ∀ h' o' kvs', Fr h₀ L h' m → News h₀ L h' (nf o') → o'.IsDictOf (strKind prog w) kvs' → FlatPairs PyData.str kvs' (kdpD (kdpPut c k e)) → Q () { s with heap := h', toks := s.toks + 1 }) :
    wpAny (model prog w) A (setItem (.ref D) (.str k tk) (.int e te)) Q E s := by
  have z := N _ hm
  refine wpAny_setItem_pairs (hsz := by rw [← hf.length, kdpD_length, sizeLine_eq]; exact hc) (strKind_is prog w k tk) (Heap.dictOf_iff.mpr ⟨o, z.1, hd⟩) fun h' hm' hs => ?_
  obtain ⟨o', ho', hd'⟩ := Heap.dictOf_iff.mp hm'
  refine h h' o' _ (F.change hs z.2.1 z.2.2) (fun p hp => ?_) hd' (by rw [← kdpD_put]; exact hf.stored same_str k (Flat.int e te))
  rcases hn o' p hp with e | ⟨hp', hne⟩
  · rw [e]; exact ⟨ho', z.2.1, z.2.2⟩
  · have := N p hp'
    exact ⟨(hs.2 _ hne).trans this.1, this.2⟩
end
theorem rangeP {p : Int} (h0 : 0 ≤ p) (h1 : p < 100) : Builtin.Range.small 0 p 1 = true ∧ Builtin.Range.rangeSize 0 p 1 = (p.toNat : Int) := by
  have a : p.toNat < 100 := by omega
  have e : p = (p.toNat : Int) := by omega
  have all : (List.range 100).all (fun n => decide (Builtin.Range.small 0 (n : Int) 1 = true) && decide (Builtin.Range.rangeSize 0 (n : Int) 1 = (n : Int))) = true := by decide +kernel
  have := List.all_eq_true.mp all p.toNat (List.mem_range.mpr a)
  simp only [Bool.and_eq_true, decide_eq_true_eq] at this
  rw [← e] at this
  exact ⟨this.1, this.2.trans e⟩
-- the six steps (and the first once more)
noncomputable def stX (k : Int) : Int := if k = 0 ∨ k = 5 ∨ k = 6 then 1 else if k = 2 ∨ k = 3 then -1 else 0
noncomputable def stY (k : Int) : Int := if k = 1 ∨ k = 2 then 1 else if k = 4 ∨ k = 5 then -1 else 0
noncomputable def StepsAre (vs : List Value) (so : List (Addr × Obj)) : Prop := ∀ k : Int, 0 ≤ k → k < 7 → ∃ q t1 t2 n, vs[k.toNat]? = some (.ref q) ∧ (q, ({ cls := .type "tuple", data := .seq #[.int (stX k) t1, .int (stY k) t2] n } : Obj)) ∈ so
noncomputable def idxF (S Z f g : Int) : Int := 4 * (S.fdiv 4 + f * stX (wayF S Z).1 + g * stX ((wayF S Z).1 + 1)) + (S.fmod 4 + f * stY (wayF S Z).1 + g * stY ((wayF S Z).1 + 1))
noncomputable def dueIn (l : PySem.Str) (W S Z : Int) (f : Nat) (acc : List (Str × Int)) (m : Nat) : List (Str × Int) := (List.range m).foldl (fun acc (g : Nat) => kdpPut acc (wordS l (idxF S Z f g)) (W * ordersF f g)) acc
noncomputable def dueOut (l : PySem.Str) (W S Z : Int) (m : Nat) : List (Str × Int) := (List.range m).foldl (fun acc f => dueIn l W S Z f acc ((wayF S Z).2.2 + 1).toNat) []
noncomputable def dueF (l : PySem.Str) (W S Z : Int) : List (Str × Int) := dueOut l W S Z ((wayF S Z).2.1 + 1).toNat
theorem dueIn_succ {l : PySem.Str} {W S Z : Int} {f m : Nat} {acc : List (Str × Int)} : dueIn l W S Z f acc (m + 1) = kdpPut (dueIn l W S Z f acc m) (wordS l (idxF S Z f m)) (W * ordersF f m) := by
  unfold dueIn; rw [List.range_succ, List.foldl_append]; rfl
theorem dueOut_succ {l : PySem.Str} {W S Z : Int} {m : Nat} : dueOut l W S Z (m + 1) = dueIn l W S Z m (dueOut l W S Z m) ((wayF S Z).2.2 + 1).toNat := by
  unfold dueOut; rw [List.range_succ, List.foldl_append]; rfl
theorem dueIn_len {l : PySem.Str} {W S Z : Int} {f : Nat} {acc : List (Str × Int)} : ∀ m, (dueIn l W S Z f acc m).length ≤ acc.length + m
  | 0 => Nat.le_refl _
  | m + 1 => by rw [dueIn_succ]; have := dueIn_len (l := l) (W := W) (S := S) (Z := Z) (f := f) (acc := acc) m; have := kdpPut_len (dueIn l W S Z f acc m) (wordS l (idxF S Z f m)) (W * ordersF f m); omega
theorem dueOut_len {l : PySem.Str} {W S Z : Int} (h : ((wayF S Z).2.2 + 1).toNat ≤ 4) : ∀ m, (dueOut l W S Z m).length ≤ 4 * m
  | 0 => Nat.le_refl _
  | m + 1 => by rw [dueOut_succ]; have := dueOut_len (l := l) (W := W) h m; have := dueIn_len (l := l) (W := W) (S := S) (Z := Z) (f := m) (acc := dueOut l W S Z m) ((wayF S Z).2.2 + 1).toNat; omega
noncomputable def chkIdx (S Z : Int) : Bool := (List.range 4).all fun (f : Nat) => (List.range 4).all fun (g : Nat) => !(decide ((f : Int) ≤ (wayF S Z).2.1) && decide ((g : Int) ≤ (wayF S Z).2.2)) || (decide (0 ≤ idxF S Z f g) && decide (idxF S Z f g < 16))
set_option maxHeartbeats 4000000 in
theorem chkIdx_all : (List.range 16).all (fun (i : Nat) => (fun S => (List.range 16).all fun (j : Nat) => (fun Z => chkIdx S Z) (j : Int)) (i : Int)) = true := by decide +kernel
theorem idx_facts {S Z : Int} (hS : 0 ≤ S ∧ S < 16) (hZ : 0 ≤ Z ∧ Z < 16) {f g : Nat} (hf : (f : Int) ≤ (wayF S Z).2.1) (hg : (g : Int) ≤ (wayF S Z).2.2) : 0 ≤ idxF S Z f g ∧ idxF S Z f g < 16 := by
  have h1 := all_of (p := fun S => (List.range 16).all fun (j : Nat) => (fun Z => chkIdx S Z) (j : Int)) chkIdx_all hS.1 hS.2
  have h2 := all_of (p := fun Z => chkIdx S Z) h1 hZ.1 hZ.2
  obtain ⟨_, b2, b3⟩ := way_bd hS hZ
  have h3 := List.all_eq_true.mp h2 f (List.mem_range.mpr (by omega))
  have h4 := List.all_eq_true.mp h3 g (List.mem_range.mpr (by omega))
  simp only [hf, hg, decide_true, Bool.and_self, Bool.not_true, Bool.false_or, Bool.and_eq_true, decide_eq_true_eq] at h4
  exact h4
noncomputable def chkOrd (p q : Int) : Bool := decide ((ordersF p q).natAbs < 100000)
theorem chkOrd_all : (List.range 8).all (fun (i : Nat) => (fun p => (List.range 8).all fun (j : Nat) => (fun q => chkOrd p q) (j : Int)) (i : Int)) = true := by decide +kernel
theorem ord_small {p q : Int} (hp : 0 ≤ p ∧ p < 8) (hq : 0 ≤ q ∧ q < 8) : (ordersF p q).natAbs < 100000 := by
  have h1 := all_of (p := fun p => (List.range 8).all fun (j : Nat) => (fun q => chkOrd p q) (j : Int)) chkOrd_all hp.1 hp.2
  exact of_decide_eq_true (all_of (p := fun q => chkOrd p q) h1 hq.1 hq.2)
theorem mulOk_right {a b : Int} (h : b.natAbs < 2 ^ 64) : IntMulOk a b := IntMulOk.of_right (intBits_le_64 (by omega) (by omega))
end Mine
end PartC10
section PartC11
open PySem PySem.W PyProof.Rows PySem.Calls PyProof.V
namespace Mine
-- loops whose ledger may move: no object of it is made of fields, as an iterator is
noncomputable def InvEndM (h₀ : Heap) (L : Addr) (J : (Str → Option Value) → List (Addr × Obj) → Prop) (own : List (Addr × Obj)) (s₁ s₂ : Shared) : Prop :=
  ∃ h' tk m' news' nx, s₂ = { s₁ with heap := h', toks := tk } ∧ Fr h₀ L h' m' ∧ News h₀ L h' news' ∧ (∀ p ∈ nx, p ∈ news') ∧ (∀ p ∈ own, p ∈ news') ∧ J m' nx
noncomputable def InvPostM (h₀ : Heap) (L : Addr) (J : (Str → Option Value) → List (Addr × Obj) → Prop) (own : List (Addr × Obj)) (s₁ : Shared) (f : Flow) (s₂ : Shared) : Prop := f = .next ∧ InvEndM h₀ L J own s₁ s₂
theorem InvPostM.next {h₀ : Heap} {L : Addr} {J : (Str → Option Value) → List (Addr × Obj) → Prop} {own : List (Addr × Obj)} {s₁ s₂ : Shared} (h : InvEndM h₀ L J own s₁ s₂) : InvPostM h₀ L J own s₁ .next s₂ := ⟨rfl, h⟩
noncomputable def KstM {σ : Type} (Led : σ → List (Addr × Obj)) (ps : σ → List (Str × Value)) (Facts : σ → Prop) (xs stored : List Str) (m₀ : Str → Option Value) (P : Nat → σ → Prop) (k : Nat) (m : Str → Option Value) (nx : List (Addr × Obj)) : Prop :=
  ∃ c : σ, nx = Led c ∧ Facts c ∧ (∀ p ∈ ps c, m p.1 = some p.2) ∧ (∀ z, xs.contains z = false → (∀ p ∈ ps c, z ≠ p.1) → stored.contains z = false → m z = m₀ z) ∧ P k c
theorem kstM_end {σ : Type} {Led : σ → List (Addr × Obj)} {ps : σ → List (Str × Value)} {Facts : σ → Prop} {xs stored : List Str} {m₀ : Str → Option Value} {P : Nat → σ → Prop} {k : Nat} (c : σ) {h₀ h' : Heap} {L : Addr} {m' : Str → Option Value} {own news' : List (Addr × Obj)} {s₁ : Shared} {tk : Nat}
    (F : Fr h₀ L h' m') (N : News h₀ L h' news') (hn : ∀ p ∈ Led c, p ∈ news') (ho : ∀ p ∈ own, p ∈ news') (hf : Facts c) (hk : ∀ p ∈ ps c, m' p.1 = some p.2) (hr : ∀ z, xs.contains z = false → (∀ p ∈ ps c, z ≠ p.1) → stored.contains z = false → m' z = m₀ z) (hp : P k c) :
    InvEndM h₀ L (KstM Led ps Facts xs stored m₀ P k) own s₁ { s₁ with heap := h', toks := tk } := ⟨h', tk, m', news', Led c, rfl, F, N, hn, ho, c, rfl, hf, hk, hr, hp⟩
/-- the map inside a turn -/
noncomputable def kmB (xs : List Str) (stored : List Str) (u m₀ : Str → Option Value) (ps : List (Str × Value)) : Str → Option Value := kstB (fun z => if (xs ++ stored).contains z then u z else m₀ z) ps
theorem kmB_eq {xs stored : List Str} {m₁ m₀ : Str → Option Value} {ps : List (Str × Value)} (h1 : ∀ p ∈ ps, m₁ p.1 = some p.2) (h2 : ∀ z, xs.contains z = false → (∀ p ∈ ps, z ≠ p.1) → stored.contains z = false → m₁ z = m₀ z) : kmB xs stored m₁ m₀ ps = m₁ := by
  funext z
  refine kstB_eq h1 fun hn => ?_
  show (if (xs ++ stored).contains z = true then m₁ z else m₀ z) = m₁ z
  cases h3 : (xs ++ stored).contains z with
  | true => simp
  | false =>
    simp only [Bool.false_eq_true, if_false]
    simp only [List.contains_eq_mem, List.mem_append, decide_eq_false_iff_not, not_or] at h3
    exact (h2 z (by simpa [List.contains_eq_mem] using h3.1) hn (by simpa [List.contains_eq_mem] using h3.2)).symm
section
variable {prog : Program} {w : World} {A : Around} {E : Value → Shared → Prop} {s : Shared} {env : Env} {h₀ : Heap} {body : List Stmt} {Q : Flow → Shared → Prop}
theorem moved_off {fx : List (Addr × Obj)} {h' : Heap} {L I : Addr} {oI : Obj} {a : Array Value} {news' nx : List (Addr × Obj)} (N : News h₀ L h' news') (hn : ∀ p ∈ nx, p ∈ news') (hI : (I, oI) ∈ news') (hd : oI.data = .fields a) (hnx : ∀ p ∈ nx, p ∈ fx ∨ ∀ a, p.2.data ≠ .fields a) (hfx : ∀ p ∈ fx, p.1 ≠ I) : ∀ p ∈ nx, p.1 ≠ I := by
  intro p hp e
  rcases hnx p hp with hx | hx
  · exact hfx p hx e
  have h1 := (N p (hn p hp)).1
  have h2 := (N (I, oI) hI).1
  rw [e] at h1
  simp only at h2
  rw [h1] at h2
  have : p.2 = oI := Option.some.inj h2
  exact hx a (this ▸ hd)
theorem kst_rangeM {σ : Type} {x : Str} {r : Addr} {a₀ b₀ : Int} {t₀ u₀ v₀ : Tok} {n : Nat} {m₀ : Str → Option Value} (Led : σ → List (Addr × Obj)) (ps : σ → List (Str × Value)) (Facts : σ → Prop) (stored : List Str) (P : Nat → σ → Prop) (c₀ : σ)
    (hh : A.handled = none) (hr : IsRange s.heap r a₀ b₀ 1 t₀ u₀ v₀) (hsmall : Builtin.Range.small a₀ b₀ 1 = true) (hn : Builtin.Range.rangeSize a₀ b₀ 1 = (n : Int)) (F : Fr h₀ env.locals s.heap m₀) (N : News h₀ env.locals s.heap (Led c₀)) (hf : Facts c₀) (hk : ∀ p ∈ ps c₀, m₀ p.1 = some p.2) (hp : P 0 c₀)
    (fx : List (Addr × Obj)) (hfx : ∀ p ∈ fx, p ∈ Led c₀) (hfl : ∀ c, Facts c → ∀ p ∈ Led c, p ∈ fx ∨ ∀ a, p.2.data ≠ .fields a)
    (turn : ∀ (c : σ) (i : Nat) t (u : Str → Option Value) h tk own, i < n → Facts c → P i c →
      Fr h₀ env.locals h (fun y => if y = x then some (.int (a₀ + (i : Int)) t) else kmB [x] stored u m₀ (ps c) y) → News h₀ env.locals h (Led c ++ own) →
      wpAny (model prog w) A (execs body env) (InvPostM h₀ env.locals (KstM Led ps Facts [x] stored m₀ P (i + 1)) own { s with heap := h, toks := tk }) E { s with heap := h, toks := tk })
    (done : ∀ (c : σ) (u : Str → Option Value) h tk, Facts c → P n c → Fr h₀ env.locals h (kmB [x] stored u m₀ (ps c)) → News h₀ env.locals h (Led c) → Q .next { s with heap := h, toks := tk }) :
    wpAny (model prog w) A (pyIter (.ref r)) (fun it s₂ => LoopAtV prog w A h₀ env x body Q E it s₂) E s := by
  have hfI : ∀ p ∈ fx, p.1 ≠ s.heap.objs.size := fun p hp => Nat.ne_of_lt (Heap.lt_size (N p (hfx p hp)).1)
  refine wpAny_pyIter_range hr hsmall ?_
  have W : Walks prog w A s.heap.objs.size [s.heap.objs.size] [s.heap.objs.size] n (fun i v => i < n ∧ ∃ t, v = .int (a₀ + i * 1) t)
      (fun i h => IsRangeIter h s.heap.objs.size (a₀ + (i : Nat) * 1) ((n : Int) - (i : Nat)) 1) := (Walks.range hh _ a₀ 1 n).bound
  refine ⟨s.heap.objs.size, _, _, n, _, _, m₀, Led c₀, fun i m nx => KstM Led ps Facts [x] stored m₀ P i m nx, rfl, W, ?_, ?_, ?_, (by show IsRangeIter _ _ _ _ _; rw [hn]; simpa using Heap.get?_push_size _ rfl), F.push _, (fun p hp => ⟨Heap.get?_push_of_some _ (N p hp).1, (N p hp).2⟩), ⟨c₀, rfl, hf, hk, fun _ _ _ _ => rfl, hp⟩, ?_, ?_⟩
  · intro hm
    exact absurd F.ns.lt ((List.mem_singleton.mp hm) ▸ Nat.lt_irrefl _)
  · intro b hb
    rw [List.mem_singleton.mp hb]
    exact next_is_new F
  · intro p hp hI
    exact absurd (Heap.lt_size (N p hp).1) ((List.mem_singleton.mp hI) ▸ Nat.lt_irrefl _)
  · rintro i v m₁ nx s₁ own ⟨hh', tk', rfl⟩ hin ⟨_, t, rfl⟩ ⟨c, rfl, hf', h1, h2, hp'⟩ _ _ _ hall hst₁ F₁ N₁
    have e1 : a₀ + (i : Int) * 1 = a₀ + (i : Int) := by omega
    rw [e1] at F₁
    have hmem := hall s.heap.objs.size (List.mem_singleton_self _) (next_is_new F) _ hst₁
    have N₂ : News h₀ env.locals hh' (Led c ++ own) := fun p hp => N₁ p ((List.mem_append.mp hp).elim (fun h => List.mem_append.mpr (.inr h)) fun h => List.mem_append.mpr (.inl h))
    refine wpAny_mono (turn c i t m₁ hh' tk' own hin hf' hp' ((kmB_eq h1 h2).symm ▸ F₁) N₂) (fun f s₂ p => ?_) fun _ _ e => e
    obtain ⟨rfl, h', tk, m', news', nx, e, F', N', hn', ho', c', rfl, hf9, hS⟩ := p
    refine LoopStepV.next ⟨rfl, h', tk, m', Led c', e, F', fun p hp => N' p ((List.mem_append.mp hp).elim (ho' p) (hn' p)), fun p hp hq => ?_, c', rfl, hf9, hS⟩
    exact moved_off N' hn' (ho' _ hmem) rfl (hfl c' hf9) hfI p hp (List.mem_singleton.mp hq)
  · rintro h' tk m' news' F' N' _ ⟨c, rfl, hf', h1, h2, hp'⟩
    exact done c m' h' tk hf' hp' ((kmB_eq h1 h2).symm ▸ F') N'
/-- a loop over a list that lies in the ledger, with any target -/
theorem kst_listM {σ : Type} {xs : List Str} {target : Expr} {l : Addr} {vs : List Value} {nn : Nat} {m₀ : Str → Option Value} (Led : σ → List (Addr × Obj)) (ps : σ → List (Str × Value)) (Facts : σ → Prop) (stored : List Str) (P : Nat → σ → Prop) (c₀ : σ)
    (hh : A.handled = none) (hl : ∀ c, (l, listOf vs.toArray nn) ∈ Led c) (F : Fr h₀ env.locals s.heap m₀) (N : News h₀ env.locals s.heap (Led c₀)) (hf : Facts c₀) (hk : ∀ p ∈ ps c₀, m₀ p.1 = some p.2) (hp : P 0 c₀)
    (fx : List (Addr × Obj)) (hfx : ∀ p ∈ fx, p ∈ Led c₀) (hfl : ∀ c, Facts c → ∀ p ∈ Led c, p ∈ fx ∨ ∀ a, p.2.data ≠ .fields a)
    (turn : ∀ (c : σ) (i : Nat) (v : Value) (u : Str → Option Value) (s₁ : Shared) own, vs[i]? = some v → Facts c → P i c →
      Fr h₀ env.locals s₁.heap (kmB xs stored u m₀ (ps c)) → News h₀ env.locals s₁.heap (Led c ++ own) →
      wpAny (model prog w) A (assign target env v) (fun _ s₃ => wpAny (model prog w) A (execs body env) (InvPostM h₀ env.locals (KstM Led ps Facts xs stored m₀ P (i + 1)) own s₁) E s₃) E s₁)
    (done : ∀ (c : σ) (u : Str → Option Value) h tk, Facts c → P vs.length c → Fr h₀ env.locals h (kmB xs stored u m₀ (ps c)) → News h₀ env.locals h (Led c) → Q .next { s with heap := h, toks := tk }) :
    wpAny (model prog w) A (pyIter (.ref l)) (fun it s₂ => LoopAtT prog w A h₀ env target body Q E it s₂) E s := by
  have hm := N _ (hl c₀)
  have hls : s.heap.IsList l vs.toArray := N.isList (hl c₀)
  have hne : l ≠ s.heap.objs.size := Nat.ne_of_lt (Heap.lt_size hm.1)
  have hfI : ∀ p ∈ fx, p.1 ≠ s.heap.objs.size := fun p hp => Nat.ne_of_lt (Heap.lt_size (N p (hfx p hp)).1)
  refine wpAny_pyIter_list hls ?_
  have W := Walks.list (prog := prog) (w := w) (A := A) hh s.heap.objs.size l hne vs.toArray
  have hlen : vs.toArray.size = vs.length := List.size_toArray ..
  refine ⟨s.heap.objs.size, _, _, vs.toArray.size, _, _, m₀, Led c₀, fun i m nx => KstM Led ps Facts xs stored m₀ P i m nx, rfl, W, ?_, ?_, ?_, ⟨⟨_, Heap.get?_push_size _ rfl, rfl, rfl⟩, hls.at fun o e => Heap.get?_push_of_some _ e⟩, F.push _, (fun p hp => ⟨Heap.get?_push_of_some _ (N p hp).1, (N p hp).2⟩), ?_, ⟨c₀, rfl, hf, hk, fun _ _ _ _ => rfl, hp⟩, ?_, ?_⟩
  · intro hm'
    rcases List.mem_cons.mp hm' with e | hm'
    · exact absurd F.ns.lt (e ▸ Nat.lt_irrefl _)
    · exact hm.2.1 (List.mem_singleton.mp hm').symm
  · intro b hb
    rw [List.mem_singleton.mp hb]
    exact next_is_new F
  · intro p hp hI
    exact absurd (Heap.lt_size (N p hp).1) ((List.mem_singleton.mp hI) ▸ Nat.lt_irrefl _)
  · intro i s' v Q' st q
    exact letGo_listiter st.1 q
  · rintro i v m₁ nx s₁ own hin hP ⟨c, rfl, hf', h1, h2, hp'⟩ _ _ _ hall hst₁ F₁ N₁
    obtain ⟨oI, hoI, _, hdI⟩ := hst₁.1
    have hmem := hall s.heap.objs.size (List.mem_cons_self ..) (next_is_new F) _ hoI
    have N₂ : News h₀ env.locals s₁.heap (Led c ++ own) := fun p hp => N₁ p ((List.mem_append.mp hp).elim (fun h => List.mem_append.mpr (.inr h)) fun h => List.mem_append.mpr (.inl h))
    have hv : vs[i]? = some v := by simpa using hP
    refine wpAny_mono (turn c i v m₁ s₁ own hv hf' hp' ((kmB_eq h1 h2).symm ▸ F₁) N₂) (fun _ s₃ q => wpAny_mono q (fun f s₂ p => ?_) fun _ _ e => e) fun _ _ e => e
    obtain ⟨rfl, h', tk, m', news', nx, e, F', N', hn', ho', c', rfl, hf9, hS⟩ := p
    refine ⟨rfl, h', tk, m', Led c', e, F', fun p hp => N' p ((List.mem_append.mp hp).elim (ho' p) (hn' p)), fun p hp hq => ?_, c', rfl, hf9, hS⟩
    exact moved_off N' hn' (ho' _ hmem) hdI (hfl c' hf9) hfI p hp (List.mem_singleton.mp hq)
  · rintro h' tk m' news' F' N' _ ⟨c, rfl, hf', h1, h2, hp'⟩
    rw [hlen] at hp'
    exact done c m' h' tk hf' hp' ((kmB_eq h1 h2).symm ▸ F') N'
/-- a loop over the pairs of a dict (text to int) of the ledger -/
theorem kst_itemsM {σ : Type} {xk xv : Str} {vw d : Addr} {od : Obj} {kvs : List (Str × Value)} {cc : List (Str × Int)} {m₀ : Str → Option Value} (Led : σ → List (Addr × Obj)) (ps : σ → List (Str × Value)) (Facts : σ → Prop) (stored : List Str) (P : Nat → σ → Prop) (c₀ : σ)
    (hh : A.handled = none) (hxk : env.kindOf xk = some .local) (hxv : env.kindOf xv = some .local)
    (hp : (env.scope.kind == .class || (env.scope.kind == .module && env.locals != env.globals)) = false)
    (hvw : ∃ ov, s.heap.get? vw = some ov ∧ ov.cls = .type "dict_items" ∧ ov.data = .fields #[.ref d]) (hd : od.IsDictOf (strKind prog w) kvs) (hfp : FlatPairs PyData.str kvs (kdpD cc))
    (F : Fr h₀ env.locals s.heap m₀) (N : News h₀ env.locals s.heap (Led c₀)) (hm : ∀ c, (d, od) ∈ Led c) (hf : Facts c₀) (hk : ∀ p ∈ ps c₀, m₀ p.1 = some p.2) (hP : P 0 c₀)
    (fx : List (Addr × Obj)) (hfx : ∀ p ∈ fx, p ∈ Led c₀) (hfl : ∀ c, Facts c → ∀ p ∈ Led c, p ∈ fx ∨ ∀ a, p.2.data ≠ .fields a)
    (turn : ∀ (c : σ) (i : Nat) (k : Str) (n : Int) (tk0 tn : Tok) (u : Str → Option Value) h tk own, cc[i]? = some (k, n) → Facts c → P i c →
      Fr h₀ env.locals h (fun y => if y = xv then some (.int n tn) else if y = xk then some (.str k tk0) else kmB [xk, xv] stored u m₀ (ps c) y) → News h₀ env.locals h (Led c ++ own) →
      wpAny (model prog w) A (execs body env) (InvPostM h₀ env.locals (KstM Led ps Facts [xk, xv] stored m₀ P (i + 1)) own { s with heap := h, toks := tk }) E { s with heap := h, toks := tk })
    (done : ∀ (c : σ) (u : Str → Option Value) h tk, Facts c → P cc.length c → Fr h₀ env.locals h (kmB [xk, xv] stored u m₀ (ps c)) → News h₀ env.locals h (Led c) → Q .next { s with heap := h, toks := tk })
    (hE : PassesOwn (model prog w) A env E := by passes_own) :
    wpAny (model prog w) A (pyIter (.ref vw)) (fun it s₂ => PairLoopAt prog w A h₀ env xk xv body Q E it s₂) E s := by
  obtain ⟨ep, ha⟩ := KdkAt.of hd
  have hdm : s.heap.get? d = some od := (N _ (hm c₀)).1
  refine wpAny_pyIter_items (knd := strKind prog w) (d := d) (kvs := kvs) (ep := ep) hvw (ha.dictAt hdm) ?_
  have hfI : ∀ p ∈ fx, p.1 ≠ s.heap.objs.size := fun p hp => Nat.ne_of_lt (Heap.lt_size (N p (hfx p hp)).1)
  intro pk pv pt x1
  refine loop_itemsV (knd := strKind prog w) (h₀ := h₀) (news := Led c₀) hh hxk hxv hp (Nat.ne_of_gt F.ns.lt) (next_is_new F)
    (fun p hp => Nat.ne_of_lt (Heap.lt_size (N p hp).1)) (Heap.get?_push_size _ rfl) ha (F.push _) (fun p hp => ⟨Heap.get?_push_of_some _ (N p hp).1, (N p hp).2⟩)
    (fun i m nx => KstM Led ps Facts [xk, xv] stored m₀ P i m nx) ⟨c₀, rfl, hf, hk, fun _ _ _ _ => rfl, hP⟩ (.inl fun i m nx ⟨c, e, _⟩ => e ▸ hm c) ?_ ?_
  · rintro i k v key m₁ news₁ h tk own oI hx hkey ⟨c, rfl, hf', h1, h2, hP'⟩ hnw hown hmem hdI F₁ N₁
    obtain ⟨n, t, hc, rfl⟩ := pairs_get hfp hx
    obtain ⟨t', rfl⟩ := PySem.Value.isStrOf_shape hkey
    have N₂ : News h₀ env.locals h (Led c ++ own) := fun p hp => N₁ p ((List.mem_append.mp hp).elim (fun h => List.mem_append.mpr (.inr h)) fun h => List.mem_append.mpr (.inl h))
    refine wpAny_passesOwn hE (wpAny_mono (turn c i k n t' t m₁ h tk own hc hf' hP' ((kmB_eq h1 h2).symm ▸ F₁) N₂) (fun f s₂ p => ?_) fun _ _ e => e)
    obtain ⟨rfl, h', tk', m', news', nx, e, F', N', hn', ho', c', rfl, hf9, hS⟩ := p
    refine LoopStepV.next ⟨rfl, h', tk', m', Led c', e, F', fun p hp => N' p ((List.mem_append.mp hp).elim (ho' p) (hn' p)), fun p hp hq => ?_, c', rfl, hf9, hS⟩
    obtain ⟨a, hda⟩ := hdI
    exact moved_off N' hn' (ho' _ hmem) hda (hfl c' hf9) hfI p hp (List.mem_singleton.mp hq)
  · rintro h' tk m' news' F' N' ⟨c, rfl, hf', h1, h2, hP'⟩
    rw [pairs_len hfp] at hP'
    exact done c m' h' tk hf' hP' ((kmB_eq h1 h2).symm ▸ F') N'
end
end Mine
end PartC11
section PartC12
open PySem PySem.W PyProof.Rows PySem.Calls PyProof.V PySem.Flt
namespace Mine
-- words are apart
noncomputable def chkW (par x y : Int) : Bool := decide (x = y) || !(wordS (ltr par) x == wordS (ltr par) y)
set_option maxHeartbeats 4000000 in
theorem chkW_all : (List.range 2).all (fun (p : Nat) => (fun par => (List.range 16).all fun (i : Nat) => (fun x => (List.range 16).all fun (j : Nat) => (fun y => chkW par x y) (j : Int)) (i : Int)) (p : Int)) = true := by decide +kernel
theorem word_ne {par x y : Int} (hp : 0 ≤ par ∧ par < 2) (hx : 0 ≤ x ∧ x < 16) (hy : 0 ≤ y ∧ y < 16) (h : x ≠ y) : wordS (ltr par) x ≠ wordS (ltr par) y := by
  have h1 := all_of (p := fun par => (List.range 16).all fun (i : Nat) => (fun x => (List.range 16).all fun (j : Nat) => (fun y => chkW par x y) (j : Int)) (i : Int)) chkW_all hp.1 hp.2
  have h2 := all_of (p := fun x => (List.range 16).all fun (j : Nat) => (fun y => chkW par x y) (j : Int)) h1 hx.1 hx.2
  have h3 := all_of (p := fun y => chkW par x y) h2 hy.1 hy.2
  simp only [chkW, h, decide_false, Bool.false_or, Bool.not_eq_true', beq_eq_false_iff_ne, ne_eq] at h3
  exact h3
noncomputable def isW (k : Str) : Value → Bool
  | .str a _ => a.cps.toList == k.cps.toList
  | _ => false
section
variable {prog : Program} {w : World} {A : Around} {E : Value → Shared → Prop} {s : Shared} {h₀ : Heap} {L D : Addr} {news : List (Addr × Obj)} {ys : List Value} {n : Nat}
theorem index_word {par k : Int} {t : Tok} {Q : Value → Shared → Prop} (hp : 0 ≤ par ∧ par < 2) (hk : 0 ≤ k ∧ k < 16) (hl : ys.length = 16) (hW : WordsAre (ltr par) ys) (N : News h₀ L s.heap news) (hm : (D, ({ cls := .type "list", data := .seq ys.toArray n } : Obj)) ∈ news)
    (h : Q (.int k s.toks) { s with toks := s.toks + 1 }) : wpAny (model prog w) A (call (.builtin "list.index") [.ref D, .str (wordS (ltr par) k) t]) Q E s := by
  have hy : ∀ i : Nat, (hi : i < 16) → ∃ t, ys[i]? = some (.str (wordS (ltr par) i) t) := fun i hi => by
    obtain ⟨t, ht⟩ := hW (i : Int) (by omega) (by omega)
    exact ⟨t, by simpa using ht⟩
  have hq : Q (.int ((k.toNat : Nat) : Int) s.toks) { s with toks := s.toks + 1 } := by rw [Int.toNat_of_nonneg hk.1]; exact h
  have e1 : ∀ i (hi : i < ys.length), isW (wordS (ltr par) k) ys[i] = decide (i = k.toNat) := fun i hi => by
    obtain ⟨t, ht⟩ := hy i (by omega)
    rw [List.getElem?_eq_getElem hi] at ht
    rw [Option.some.inj ht]
    show ((wordS (ltr par) i).cps.toList == (wordS (ltr par) k).cps.toList) = _
    by_cases e : i = k.toNat
    · have : (i : Int) = k := by omega
      rw [this]; simp [e]
    · have hne := word_ne hp (x := i) (y := k) (by omega) hk (by omega)
      have hne' : (wordS (ltr par) i).cps.toList ≠ (wordS (ltr par) k).cps.toList := fun h => hne (PySem.Str.ext' (Array.toList_inj.mp h))
      rw [beq_eq_false_iff_ne.mpr hne', decide_eq_false e]
  refine call_meets PySem.F.slot_list_index ⟨_, (N _ hm).1, rfl⟩ PySem.F.entry_list_index (PySem.F.args_list_index_2 _ _)
    (MeetsSeq.list_index D ys.toArray n (.str (wordS (ltr par) k) t) (isW (wordS (ltr par) k)) (fun y hy' => ?_) k.toNat (by simp [hl]; omega) (by omega) ?_ ?_) ⟨(N _ hm).1, hq⟩
  · have hy'' : y ∈ ys := by simpa using hy'
    obtain ⟨i, hi, rfl⟩ := List.getElem_of_mem hy''
    obtain ⟨t', ht⟩ := hy i (by omega)
    rw [List.getElem?_eq_getElem hi] at ht
    rw [Option.some.inj ht]
    exact SeqRoads2.EqGives.str _ _ _ _
  · have := e1 k.toNat (by omega)
    simpa using this
  · intro i hi hlt
    have := e1 i (by omega)
    simp only [show ¬ i = k.toNat by omega, decide_false] at this
    simpa using this
end
-- the tables, told by the places of the words
noncomputable abbrev Tab := List (Nat × Int)
noncomputable def tabS (l : PySem.Str) (T : Tab) : List (Str × Int) := T.map fun p => (wordS l (p.1 : Int), p.2)
noncomputable def hasN (T : Tab) (k : Nat) : Bool := T.any fun p => decide (p.1 = k)
noncomputable def putN (T : Tab) (k : Nat) (v : Int) : Tab := if T.any (fun p => decide (p.1 = k)) then T.map (fun p => if decide (p.1 = k) then (p.1, v) else p) else T ++ [(k, v)]
noncomputable def lookN (T : Tab) (k : Nat) (d : Int) : Int := ((T.find? fun p => decide (p.1 = k)).map (·.2)).getD d
noncomputable def addStepN (acc : Tab) (p : Nat × Int) : Tab := if hasN acc p.1 then putN acc p.1 (lookN acc p.1 0 + p.2) else putN acc p.1 p.2
noncomputable def copyN (t : Tab) : Tab := t.foldl (fun acc p => putN acc p.1 p.2) []
noncomputable def addN (t s : Tab) : Tab := s.foldl addStepN (copyN t)
noncomputable def KeysOk (T : Tab) : Prop := ∀ p ∈ T, p.1 < 16
section
variable {par : Int} (hp : 0 ≤ par ∧ par < 2)
include hp
theorem word_eq {a b : Nat} (ha : a < 16) (hb : b < 16) : decide (wordS (ltr par) (a : Int) = wordS (ltr par) (b : Int)) = decide (a = b) := by
  by_cases h : a = b
  · subst h; simp
  · have := word_ne hp (x := a) (y := b) (by omega) (by omega) (by omega)
    simp [h, this]
theorem tab_any {T : Tab} (hT : KeysOk T) {k : Nat} (hk : k < 16) : (tabS (ltr par) T).any (fun p => decide (p.1 = wordS (ltr par) (k : Int))) = T.any fun p => decide (p.1 = k) := by
  induction T with
  | nil => rfl
  | cons p T ih =>
    show (decide (wordS (ltr par) (p.1 : Int) = wordS (ltr par) (k : Int)) || (tabS (ltr par) T).any _) = (decide (p.1 = k) || _)
    rw [word_eq hp (hT p (.head _)) hk, ih fun q hq => hT q (.tail _ hq)]
theorem tab_put {T : Tab} (hT : KeysOk T) {k : Nat} (hk : k < 16) {v : Int} : kdpPut (tabS (ltr par) T) (wordS (ltr par) (k : Int)) v = tabS (ltr par) (putN T k v) := by
  unfold kdpPut putN
  rw [tab_any hp hT hk]
  split
  · unfold tabS
    rw [List.map_map, List.map_map]
    refine List.map_congr_left fun p hq => ?_
    show (if decide (wordS (ltr par) (p.1 : Int) = wordS (ltr par) (k : Int)) = true then _ else _) = _
    rw [word_eq hp (hT p hq) hk]
    show _ = (fun p : Nat × Int => (wordS (ltr par) (p.1 : Int), p.2)) (if decide (p.1 = k) = true then (p.1, v) else p)
    by_cases h : p.1 = k
    · simp [h]
    · simp [h]
  · unfold tabS
    rw [List.map_append]; rfl
theorem tab_look {T : Tab} (hT : KeysOk T) {k : Nat} (hk : k < 16) {d : Int} : kdpLook (tabS (ltr par) T) (wordS (ltr par) (k : Int)) d = lookN T k d := by
  unfold kdpLook lookN
  induction T with
  | nil => rfl
  | cons p T ih =>
    show ((List.find? _ ((wordS (ltr par) (p.1 : Int), p.2) :: tabS (ltr par) T)).map (·.2)).getD d = _
    rw [List.find?_cons, List.find?_cons]
    simp only [word_eq hp (hT p (.head _)) hk]
    cases decide (p.1 = k) with
    | true => rfl
    | false => exact ih fun q hq => hT q (.tail _ hq)
theorem tab_addStep {T : Tab} (hT : KeysOk T) {q : Nat × Int} (hk : q.1 < 16) : addStep (tabS (ltr par) T) (wordS (ltr par) (q.1 : Int), q.2) = tabS (ltr par) (addStepN T q) := by
  unfold addStep addStepN
  have e : kdpHas (tabS (ltr par) T) (wordS (ltr par) (q.1 : Int)) = hasN T q.1 := tab_any hp hT hk
  simp only [e, tab_look hp hT hk, tab_put hp hT hk]
  cases hasN T q.1 <;> rfl
end
theorem putN_keys {T : Tab} (hT : KeysOk T) {k : Nat} (hk : k < 16) {v : Int} : KeysOk (putN T k v) := by
  unfold putN
  split
  · intro p hp
    obtain ⟨q, hq, rfl⟩ := List.mem_map.mp hp
    split
    · exact hT q hq
    · exact hT q hq
  · intro p hp
    rcases List.mem_append.mp hp with h | h
    · exact hT p h
    · rw [List.mem_singleton.mp h]; exact hk
theorem addStepN_keys {T : Tab} (hT : KeysOk T) {q : Nat × Int} (hk : q.1 < 16) : KeysOk (addStepN T q) := by
  unfold addStepN; split <;> exact putN_keys hT hk
theorem foldl_map_tab {par : Int} (f : List (Str × Int) → Str × Int → List (Str × Int)) (g : Tab → Nat × Int → Tab) (hfg : ∀ T (q : Nat × Int), KeysOk T → q.1 < 16 → f (tabS (ltr par) T) (wordS (ltr par) (q.1 : Int), q.2) = tabS (ltr par) (g T q)) (hg : ∀ T (q : Nat × Int), KeysOk T → q.1 < 16 → KeysOk (g T q)) :
    ∀ (U T : Tab), KeysOk U → KeysOk T → (tabS (ltr par) U).foldl f (tabS (ltr par) T) = tabS (ltr par) (U.foldl g T) ∧ KeysOk (U.foldl g T)
  | [], _, _, hT => ⟨rfl, hT⟩
  | q :: U, T, hU, hT => by
    have hq := hU q (.head _)
    show (tabS (ltr par) U).foldl f (f (tabS (ltr par) T) (wordS (ltr par) (q.1 : Int), q.2)) = _ ∧ _
    rw [hfg T q hT hq]
    exact foldl_map_tab f g hfg hg U _ (fun p hp => hU p (.tail _ hp)) (hg T q hT hq)
theorem addF_tab {par : Int} (hp : 0 ≤ par ∧ par < 2) {T U : Tab} (hT : KeysOk T) (hU : KeysOk U) : addF (tabS (ltr par) T) (tabS (ltr par) U) = tabS (ltr par) (addN T U) ∧ KeysOk (addN T U) := by
  have h1 := foldl_map_tab (par := par) (fun acc p => kdpPut acc p.1 p.2) (fun acc p => putN acc p.1 p.2) (fun T q h1 h2 => tab_put hp h1 h2) (fun T q h1 h2 => putN_keys h1 h2) T [] hT (fun _ h => nomatch h)
  have h2 := foldl_map_tab (par := par) addStep addStepN (fun T q h1 h2 => tab_addStep hp h1 h2) (fun T q h1 h2 => addStepN_keys h1 h2) U (copyN T) hU h1.2
  refine ⟨?_, h2.2⟩
  unfold addF addN copyF
  have e : List.foldl (fun acc (p : Str × Int) => kdpPut acc p.1 p.2) [] (tabS (ltr par) T) = tabS (ltr par) (copyN T) := h1.1
  rw [e]
  exact h2.1
end Mine
end PartC12
section PartC13
open PySem PySem.W PyProof.Rows PySem.Calls PyProof.V PySem.Flt
namespace Mine
-- the two moves
noncomputable def oneB : UInt64 := 4607182418800017408
noncomputable def mvH (c : Int) : UInt64 := Float64.div (Float64.ofInt c) 4618441417868443648
noncomputable def mvT (c : Int) : UInt64 × UInt64 × UInt64 := rgbF (mvH c) 4607182418800017408 4607182418800017408
noncomputable def chkMv (c : Int) : Bool :=
  let h6 := Float64.mul (mvH c) 4618441417868443648
  let d1 := Float64.sub (mvT c).1 (mvT c).2.1
  let d2 := Float64.sub (mvT c).2.1 (mvT c).2.2
  !Float64.isNaN h6 && !Float64.isInf h6 && decide ((rgbI (mvH c)).natAbs < 1000) && !Float64.isNaN d1 && !Float64.isInf d1 && !Float64.isNaN d2 && !Float64.isInf d2 && decide (Flt.toInt Float64.truncOf d1 = stX c) && decide (Flt.toInt Float64.truncOf d2 = stY c)
set_option maxHeartbeats 4000000 in
theorem chkMv_all : (List.range 7).all (fun (i : Nat) => (fun c => chkMv c) (i : Int)) = true := by decide +kernel
theorem mv_facts {c : Int} (h0 : 0 ≤ c) (h1 : c < 7) : (Float64.isNaN (Float64.mul (mvH c) 4618441417868443648) = false ∧ Float64.isInf (Float64.mul (mvH c) 4618441417868443648) = false ∧ (rgbI (mvH c)).natAbs < 1000) ∧
    (Float64.isNaN (Float64.sub (mvT c).1 (mvT c).2.1) = false ∧ Float64.isInf (Float64.sub (mvT c).1 (mvT c).2.1) = false ∧ Float64.isNaN (Float64.sub (mvT c).2.1 (mvT c).2.2) = false ∧ Float64.isInf (Float64.sub (mvT c).2.1 (mvT c).2.2) = false) ∧
    Flt.toInt Float64.truncOf (Float64.sub (mvT c).1 (mvT c).2.1) = stX c ∧ Flt.toInt Float64.truncOf (Float64.sub (mvT c).2.1 (mvT c).2.2) = stY c := by
  have h := all_of (p := fun c => chkMv c) chkMv_all h0 h1
  simp only [chkMv, Bool.and_eq_true, Bool.not_eq_true', decide_eq_true_eq] at h
  obtain ⟨⟨⟨⟨⟨⟨⟨⟨a, b⟩, c⟩, d⟩, e⟩, f⟩, g⟩, i⟩, j⟩ := h
  exact ⟨⟨a, b, c⟩, ⟨d, e, f, g⟩, i, j⟩
-- corner and number of turns
noncomputable def cornX (X Y : Int) : UInt64 := Float64.add (Float64.mul (hsvF (cRX X Y) (cGX Y) colB).1 4618441417868443648) 4517329193108106637
noncomputable def turnX (X Y : Int) : UInt64 := Float64.add (Float64.mul (Float64.mul (hsvF (cRX X Y) (cGX Y) colB).2.1 (hsvF (cRX X Y) (cGX Y) colB).2.2) 4625196817309499392) 4602678819172646912
noncomputable def chkCorn (X Y : Int) : Bool :=
  !Float64.isNaN (cornX X Y) && !Float64.isInf (cornX X Y) && decide (Flt.toInt Float64.truncOf (cornX X Y) = (wayGo X Y 6 0).1) && !Float64.isNaN (turnX X Y) && !Float64.isInf (turnX X Y) && decide (Flt.toInt Float64.truncOf (turnX X Y) = (wayGo X Y 6 0).2.1 + (wayGo X Y 6 0).2.2)
set_option maxHeartbeats 4000000 in
theorem chkCorn_all : (List.range 7).all (fun (p : Nat) => (fun X => (List.range 7).all fun (i : Nat) => (fun Y => chkCorn (X - 3) (Y - 3)) (i : Int)) (p : Int)) = true := by decide +kernel
noncomputable def cornF (S Z : Int) : UInt64 := Float64.add (Float64.mul (hsvF (colR S Z) (colG S Z) colB).1 4618441417868443648) 4517329193108106637
noncomputable def turnF (S Z : Int) : UInt64 := Float64.add (Float64.mul (Float64.mul (hsvF (colR S Z) (colG S Z) colB).2.1 (hsvF (colR S Z) (colG S Z) colB).2.2) 4625196817309499392) 4602678819172646912
theorem corn_facts {x y : Int} (hx : 0 ≤ x ∧ x < 16) (hy : 0 ≤ y ∧ y < 16) : (Float64.isNaN (cornF x y) = false ∧ Float64.isInf (cornF x y) = false ∧ Flt.toInt Float64.truncOf (cornF x y) = (wayF x y).1) ∧ (Float64.isNaN (turnF x y) = false ∧ Float64.isInf (turnF x y) = false ∧ Flt.toInt Float64.truncOf (turnF x y) = (wayF x y).2.1 + (wayF x y).2.2) := by
  obtain ⟨hX, hY⟩ := way_rng hx hy
  have h1 := all_of (p := fun X => (List.range 7).all fun (i : Nat) => (fun Y => chkCorn (X - 3) (Y - 3)) (i : Int)) chkCorn_all (x := wayX x y + 3) (by omega) (by omega)
  have h2 := all_of (p := fun Y => chkCorn (wayX x y + 3 - 3) (Y - 3)) h1 (x := wayY x y + 3) (by omega) (by omega)
  have e1 : wayX x y + 3 - 3 = wayX x y := by omega
  have e2 : wayY x y + 3 - 3 = wayY x y := by omega
  rw [e1, e2] at h2
  simp only [chkCorn, Bool.and_eq_true, Bool.not_eq_true', decide_eq_true_eq] at h2
  obtain ⟨⟨⟨⟨⟨a, b⟩, c⟩, d⟩, e⟩, f⟩ := h2
  exact ⟨⟨a, b, c⟩, ⟨d, e, f⟩⟩
-- the turns
noncomputable def placeA (n : Nat) (dx : Int) : Int := (n : Int).fdiv 4 + dx
noncomputable def placeB (n : Nat) (dy : Int) : Int := (n : Int).fmod 4 + dy
noncomputable def okMv (par S Z : Int) (n : Nat) (dx dy : Int) : Bool :=
  decide (0 ≤ placeA n dx) && decide (placeA n dx < 4) && decide (0 ≤ placeB n dy) && decide (placeB n dy < 4) && decide (priceF par S (4 * placeA n dx + placeB n dy) + priceF par (4 * placeA n dx + placeB n dy) Z = priceF par S Z)
noncomputable def stepMv (par S Z dx dy : Int) (n : Nat) (v : Int) (acc : Tab) : Tab := if okMv par S Z n dx dy then addN acc [((4 * placeA n dx + placeB n dy).toNat, v)] else acc
noncomputable def stepW (par S Z k : Int) (acc : Tab) (q : Nat × Int) : Tab := stepMv par S Z (stX (k + 1)) (stY (k + 1)) q.1 q.2 (stepMv par S Z (stX k) (stY k) q.1 q.2 acc)
noncomputable def turnN (par S Z k : Int) (st : Tab × Tab) : Tab × Tab := (st.1.foldl (stepW par S Z k) [], addN st.2 (st.1.foldl (stepW par S Z k) []))
noncomputable def runN (par S Z k W : Int) : Nat → Tab × Tab
  | 0 => ([(S.toNat, W)], addN [] [(S.toNat, W)])
  | i + 1 => turnN par S Z k (runN par S Z k W i)
noncomputable def dueN (S Z W : Int) : Tab := (List.range ((wayF S Z).2.1 + 1).toNat).foldl (fun acc (f : Nat) => (List.range ((wayF S Z).2.2 + 1).toNat).foldl (fun acc (g : Nat) => putN acc (idxF S Z f g).toNat (W * ordersF f g)) acc) []
noncomputable def sumN (T : Tab) : Int := T.foldl (fun a p => a + p.2) 0
noncomputable def chkTab (par S Z : Int) : Bool :=
  let w := wayF S Z
  let nt := (w.2.1 + w.2.2).toNat
  let m := (runN par S Z w.1 1 nt).2
  let d := dueN S Z 1
  (List.range (nt + 1)).all (fun i => decide ((runN par S Z w.1 1 i).1.length ≤ 100) && decide ((runN par S Z w.1 1 i).2.length ≤ 100)) && decide (m.length = d.length) && m.all (fun p => hasN d p.1 && decide (lookN d p.1 0 = p.2)) && decide (sumN m = ordersF (w.2.1 + 1) (w.2.2 + 1) - 1)
set_option maxHeartbeats 8000000 in
theorem chkTab_all : (List.range 2).all (fun (p : Nat) => (fun par => (List.range 16).all fun (i : Nat) => (fun S => (List.range 16).all fun (j : Nat) => (fun Z => chkTab par S Z) (j : Int)) (i : Int)) (p : Int)) = true := by decide +kernel
theorem tab_facts {par S Z : Int} (hp : 0 ≤ par ∧ par < 2) (hS : 0 ≤ S ∧ S < 16) (hZ : 0 ≤ Z ∧ Z < 16) : chkTab par S Z = true := by
  have h1 := all_of (p := fun par => (List.range 16).all fun (i : Nat) => (fun S => (List.range 16).all fun (j : Nat) => (fun Z => chkTab par S Z) (j : Int)) (i : Int)) chkTab_all hp.1 hp.2
  have h2 := all_of (p := fun S => (List.range 16).all fun (j : Nat) => (fun Z => chkTab par S Z) (j : Int)) h1 hS.1 hS.2
  exact all_of (p := fun Z => chkTab par S Z) h2 hZ.1 hZ.2
-- the loop over the moves, step by step
noncomputable def mvAcc (par S Z k : Int) (acc : Tab) (q : Nat × Int) : Nat → Tab
  | 0 => acc
  | 1 => stepMv par S Z (stX k) (stY k) q.1 q.2 acc
  | _ => stepW par S Z k acc q
theorem mvAcc_succ {par S Z k : Int} {acc : Tab} {q : Nat × Int} {i : Nat} (hi : i < 2) : mvAcc par S Z k acc q (i + 1) = stepMv par S Z (stX (k + i)) (stY (k + i)) q.1 q.2 (mvAcc par S Z k acc q i) := by
  have : i = 0 ∨ i = 1 := by omega
  rcases this with rfl | rfl
  · simp [mvAcc]
  · rfl
/-- the list of the two moves -/
noncomputable def MovesAre (c : Int) (vs : List Value) (mo : List (Addr × Obj)) : Prop := vs.length = 2 ∧ ∀ i : Nat, i < 2 → ∃ q t1 t2 t3 n, vs[i]? = some (.ref q) ∧ (q, ({ cls := .type "tuple", data := .seq #[.float (mvT (c + i)).1 t1, .float (mvT (c + i)).2.1 t2, .float (mvT (c + i)).2.2 t3] n } : Obj)) ∈ mo
theorem tabS_get {l : PySem.Str} {T : Tab} {i : Nat} {k : Str} {n : Int} (h : (tabS l T)[i]? = some (k, n)) : ∃ m, T[i]? = some (m, n) ∧ k = wordS l (m : Int) := by
  unfold tabS at h
  rw [List.getElem?_map] at h
  cases hT : T[i]? with
  | none => rw [hT] at h; cases h
  | some p =>
    rw [hT] at h
    have := Option.some.inj h
    exact ⟨p.1, by rw [← (Prod.mk.inj this).2], (Prod.mk.inj this).1.symm⟩
theorem dict_nf {prog : Program} {w : World} {o : Obj} {kvs : List (Str × Value)} (h : o.IsDictOf (strKind prog w) kvs) : ∀ a, o.data ≠ .fields a := by
  obtain ⟨es, ep, _, hd, _⟩ := h
  intro a e
  rw [hd] at e; cases e
theorem tabS_len {l : PySem.Str} {T : Tab} : (tabS l T).length = T.length := List.length_map ..
end Mine
end PartC13
section PartC14
open PySem PySem.W PyProof.Rows PySem.Calls PyProof.V PySem.Flt
namespace Mine
noncomputable def NumsAre (f : Int → Int) (vs : List Value) : Prop := ∀ k : Int, 0 ≤ k → k < 16 → ∃ t, vs[k.toNat]? = some (.int (f k) t)
theorem NumsAre.of {f : Int → Int} {vs : List Value} (h : IntsAre vs ((rangeKs 0 16).map f)) : NumsAre f vs := by
  intro k h0 h1
  have : ((rangeKs 0 16).map f)[k.toNat]? = some (f k) := by
    have h2 : k.toNat < 16 := by omega
    simp only [rangeKs, List.getElem?_map]
    rw [List.getElem?_range h2]
    simp only [Option.map_some, Option.some.injEq]
    congr 1; omega
  obtain ⟨t, ht⟩ := h.get _ _ this
  exact ⟨t, ht⟩
theorem place_bd {n : Nat} {dx dy : Int} {par S Z : Int} (h : okMv par S Z n dx dy = true) : 0 ≤ 4 * placeA n dx + placeB n dy ∧ 4 * placeA n dx + placeB n dy < 16 := by
  simp only [okMv, Bool.and_eq_true, decide_eq_true_eq] at h
  omega
theorem nil_keys : KeysOk [] := by intro p hp; cases hp
theorem one_keys {m : Nat} {v : Int} (h : m < 16) : KeysOk [(m, v)] := fun p hp => by rw [List.mem_singleton.mp hp]; exact h
theorem addN_len {par : Int} (hp : 0 ≤ par ∧ par < 2) {T U : Tab} (hT : KeysOk T) (hU : KeysOk U) : (addN T U).length ≤ T.length + U.length := by
  have h := addF_len (tabS (ltr par) T) (tabS (ltr par) U)
  rw [(addF_tab hp hT hU).1, tabS_len, tabS_len, tabS_len] at h
  exact h
theorem stepMv_ok {par S Z dx dy v : Int} {n : Nat} {acc : Tab} (hp : 0 ≤ par ∧ par < 2) (h : KeysOk acc) : KeysOk (stepMv par S Z dx dy n v acc) ∧ (stepMv par S Z dx dy n v acc).length ≤ acc.length + 1 := by
  unfold stepMv
  split
  · rename_i hok
    have hb := place_bd hok
    have hk := one_keys (m := (4 * placeA n dx + placeB n dy).toNat) (v := v) (by omega)
    exact ⟨(addF_tab hp h hk).2, addN_len hp h hk⟩
  · exact ⟨h, by omega⟩
theorem mvAcc_ok {par S Z k : Int} {acc : Tab} {q : Nat × Int} (hp : 0 ≤ par ∧ par < 2) (h : KeysOk acc) : ∀ i, i ≤ 2 → KeysOk (mvAcc par S Z k acc q i) ∧ (mvAcc par S Z k acc q i).length ≤ acc.length + i
  | 0, _ => ⟨h, Nat.le_refl _⟩
  | 1, _ => stepMv_ok hp h
  | 2, _ => by
    have h1 := stepMv_ok (S := S) (Z := Z) (dx := stX k) (dy := stY k) (v := q.2) (n := q.1) hp h
    have h2 := stepMv_ok (S := S) (Z := Z) (dx := stX (k + 1)) (dy := stY (k + 1)) (v := q.2) (n := q.1) hp h1.1
    exact ⟨h2.1, by have := h2.2; have := h1.2; show (stepMv par S Z (stX (k + 1)) (stY (k + 1)) q.1 q.2 (stepMv par S Z (stX k) (stY k) q.1 q.2 acc)).length ≤ _; omega⟩
noncomputable def wordAcc (par S Z k : Int) (T : Tab) (j : Nat) : Tab := (T.take j).foldl (stepW par S Z k) []
theorem wordAcc_succ {par S Z k : Int} {T : Tab} {j : Nat} {q : Nat × Int} (h : T[j]? = some q) : wordAcc par S Z k T (j + 1) = stepW par S Z k (wordAcc par S Z k T j) q := foldl_take _ _ h
theorem wordAcc_ok {par S Z k : Int} {T : Tab} (hp : 0 ≤ par ∧ par < 2) : ∀ j, KeysOk (wordAcc par S Z k T j) ∧ (wordAcc par S Z k T j).length ≤ 2 * j
  | 0 => ⟨nil_keys, Nat.le_refl _⟩
  | j + 1 => by
    have ih := wordAcc_ok (S := S) (Z := Z) (k := k) (T := T) hp j
    cases h : T[j]? with
    | none =>
      have e : wordAcc par S Z k T (j + 1) = wordAcc par S Z k T j := by
        unfold wordAcc
        rw [List.take_add_one, h]; simp
      rw [e]; exact ⟨ih.1, by omega⟩
    | some q =>
      rw [wordAcc_succ h]
      have := mvAcc_ok (S := S) (Z := Z) (k := k) (q := q) hp ih.1 2 (Nat.le_refl _)
      exact ⟨this.1, by have h2 := this.2; show (stepW par S Z k _ q).length ≤ _; change (stepW par S Z k _ q).length ≤ _ at h2; omega⟩
theorem runN_ok {par S Z k W : Int} (hp : 0 ≤ par ∧ par < 2) (hS : 0 ≤ S ∧ S < 16) : ∀ i, KeysOk (runN par S Z k W i).1 ∧ KeysOk (runN par S Z k W i).2
  | 0 => by
    have h := one_keys (m := S.toNat) (v := W) (by omega)
    exact ⟨h, (addF_tab hp nil_keys h).2⟩
  | i + 1 => by
    have ih := runN_ok (Z := Z) (k := k) (W := W) hp hS i
    have h1 := (wordAcc_ok (S := S) (Z := Z) (k := k) (T := (runN par S Z k W i).1) hp (runN par S Z k W i).1.length).1
    unfold wordAcc at h1
    rw [List.take_length] at h1
    exact ⟨h1, (addF_tab hp ih.2 h1).2⟩
-- scaling
noncomputable def sc (W : Int) (T : Tab) : Tab := T.map fun p => (p.1, W * p.2)
theorem sc_any {W : Int} {T : Tab} {k : Nat} : (sc W T).any (fun p => decide (p.1 = k)) = T.any fun p => decide (p.1 = k) := by
  unfold sc; rw [List.any_map]; rfl
theorem sc_put {W : Int} {T : Tab} {k : Nat} {v : Int} : putN (sc W T) k (W * v) = sc W (putN T k v) := by
  unfold putN
  rw [sc_any]
  split
  · unfold sc
    rw [List.map_map, List.map_map]
    refine List.map_congr_left fun p _ => ?_
    show (if decide (p.1 = k) = true then _ else _) = (fun p : Nat × Int => (p.1, W * p.2)) (if decide (p.1 = k) = true then (p.1, v) else p)
    by_cases h : p.1 = k
    · simp [h]
    · simp [h]
  · unfold sc; rw [List.map_append]; rfl
theorem sc_look {W : Int} {T : Tab} {k : Nat} : lookN (sc W T) k 0 = W * lookN T k 0 := by
  unfold lookN
  induction T with
  | nil => simp [sc]
  | cons p T ih =>
    show ((List.find? _ ((p.1, W * p.2) :: sc W T)).map (·.2)).getD 0 = _
    rw [List.find?_cons, List.find?_cons]
    dsimp only
    cases decide (p.1 = k) with
    | true => rfl
    | false => exact ih
theorem sc_addStep {W : Int} {T : Tab} {q : Nat × Int} : addStepN (sc W T) (q.1, W * q.2) = sc W (addStepN T q) := by
  unfold addStepN hasN
  rw [sc_any]
  dsimp only
  rw [sc_look, ← Int.mul_add, sc_put, sc_put]
  split <;> rfl
theorem sc_foldl {W : Int} {f : Tab → Nat × Int → Tab} (hf : ∀ T q, f (sc W T) (q.1, W * q.2) = sc W (f T q)) : ∀ U T : Tab, (sc W U).foldl f (sc W T) = sc W (U.foldl f T)
  | [], _ => rfl
  | q :: U, T => by
    show (sc W U).foldl f (f (sc W T) (q.1, W * q.2)) = _
    rw [hf]; exact sc_foldl hf U _
theorem sc_add {W : Int} {T U : Tab} : addN (sc W T) (sc W U) = sc W (addN T U) := by
  unfold addN copyN
  have e : (sc W T).foldl (fun acc p => putN acc p.1 p.2) [] = sc W (T.foldl (fun acc p => putN acc p.1 p.2) []) := sc_foldl (f := fun acc p => putN acc p.1 p.2) (fun T q => sc_put) T []
  rw [e]
  exact sc_foldl (fun T q => sc_addStep) U _
theorem sc_stepMv {W par S Z dx dy v : Int} {n : Nat} {acc : Tab} : stepMv par S Z dx dy n (W * v) (sc W acc) = sc W (stepMv par S Z dx dy n v acc) := by
  unfold stepMv
  split
  · exact sc_add (U := [(_, v)])
  · rfl
theorem sc_stepW {W par S Z k : Int} {acc : Tab} {q : Nat × Int} : stepW par S Z k (sc W acc) (q.1, W * q.2) = sc W (stepW par S Z k acc q) := by
  unfold stepW
  dsimp only
  rw [sc_stepMv, sc_stepMv]
theorem sc_run {W par S Z k : Int} : ∀ i, runN par S Z k W i = (sc W (runN par S Z k 1 i).1, sc W (runN par S Z k 1 i).2)
  | 0 => by
    have e : ([(S.toNat, W)] : Tab) = sc W [(S.toNat, 1)] := by simp [sc]
    show ([(S.toNat, W)], addN [] [(S.toNat, W)]) = _
    rw [e]
    exact congrArg _ (sc_add (W := W) (T := []) (U := [(S.toNat, 1)]))
  | i + 1 => by
    show turnN par S Z k (runN par S Z k W i) = _
    rw [sc_run i]
    unfold turnN
    dsimp only
    have e : (sc W (runN par S Z k 1 i).1).foldl (stepW par S Z k) [] = sc W ((runN par S Z k 1 i).1.foldl (stepW par S Z k) []) := sc_foldl (fun T q => sc_stepW) _ []
    rw [e, sc_add]
    rfl
theorem run_len {par S Z W : Int} {i : Nat} (hp : 0 ≤ par ∧ par < 2) (hS : 0 ≤ S ∧ S < 16) (hZ : 0 ≤ Z ∧ Z < 16) (hi : i ≤ ((wayF S Z).2.1 + (wayF S Z).2.2).toNat) : (runN par S Z (wayF S Z).1 W i).1.length ≤ 100 ∧ (runN par S Z (wayF S Z).1 W i).2.length ≤ 100 := by
  have h := tab_facts hp hS hZ
  simp only [chkTab, Bool.and_eq_true] at h
  have h2 := List.all_eq_true.mp h.1.1.1 i (List.mem_range.mpr (by omega))
  simp only [Bool.and_eq_true, decide_eq_true_eq] at h2
  rw [sc_run]
  unfold sc
  rw [List.length_map, List.length_map]
  exact h2
theorem mv_yes {par S Z dx dy v : Int} {n : Nat} {acc : Tab} (hp : 0 ≤ par ∧ par < 2) (hacc : KeysOk acc) (hok : okMv par S Z n dx dy = true) : addF (tabS (ltr par) acc) [(wordS (ltr par) (4 * placeA n dx + placeB n dy), v)] = tabS (ltr par) (stepMv par S Z dx dy n v acc) := by
  have hb := place_bd hok
  have hk := one_keys (m := (4 * placeA n dx + placeB n dy).toNat) (v := v) (by omega)
  have h := (addF_tab hp hacc hk).1
  unfold stepMv
  rw [if_pos hok, ← h]
  show _ = addF _ [(wordS (ltr par) (((4 * placeA n dx + placeB n dy).toNat : Nat) : Int), v)]
  rw [Int.toNat_of_nonneg hb.1]
theorem mv_no {par S Z dx dy v : Int} {n : Nat} {acc : Tab} (hno : okMv par S Z n dx dy = false) : stepMv par S Z dx dy n v acc = acc := by
  unfold stepMv
  rw [if_neg (by rw [hno]; exact Bool.false_ne_true)]
theorem memA1 {α : Type} {p : α} {A B : List α} (h : p ∈ A) : p ∈ A ++ B := List.mem_append_left _ h
theorem memA2 {α : Type} {p : α} {A B C : List α} (h : p ∈ A ++ B) : p ∈ A ++ (B ++ C) := by
  rw [← List.append_assoc]; exact List.mem_append_left _ h
theorem memA3 {α : Type} {p : α} {A B C D : List α} (h : p ∈ A ++ (B ++ C)) : p ∈ A ++ (B ++ (C ++ D)) := by
  rw [← List.append_assoc B, ← List.append_assoc]; exact List.mem_append_left _ h
theorem memB1 {α : Type} {p : α} {A B : List α} (h : p ∈ B) : p ∈ A ++ B := List.mem_append_right _ h
theorem ite_decM {p : Prop} [Decidable p] {a b : Prop} (h1 : p → a) (h2 : ¬ p → b) : if decide p = true then a else b := by
  by_cases h : p
  · rw [if_pos (decide_eq_true h)]; exact h1 h
  · rw [if_neg (by rw [decide_eq_false h]; exact Bool.false_ne_true)]; exact h2 h
theorem ite_beqM {x y : Int} {a b : Prop} (h1 : x = y → a) (h2 : ¬ x = y → b) : if (x == y) = true then a else b := by
  by_cases h : x = y
  · rw [if_pos (by simpa using h)]; exact h1 h
  · rw [if_neg (by simpa using h)]; exact h2 h
end Mine
end PartC14
section PartC15
open PySem PySem.W PyProof.Rows PySem.Calls PyProof.V PySem.Flt
namespace Mine
noncomputable def dueInN (S Z W : Int) (f : Nat) (acc : Tab) (m : Nat) : Tab := (List.range m).foldl (fun acc (g : Nat) => putN acc (idxF S Z f g).toNat (W * ordersF f g)) acc
noncomputable def dueOutN (S Z W : Int) (m : Nat) : Tab := (List.range m).foldl (fun acc (f : Nat) => dueInN S Z W f acc ((wayF S Z).2.2 + 1).toNat) []
theorem dueN_eq {S Z W : Int} : dueN S Z W = dueOutN S Z W ((wayF S Z).2.1 + 1).toNat := rfl
theorem dueInN_succ {S Z W : Int} {f m : Nat} {acc : Tab} : dueInN S Z W f acc (m + 1) = putN (dueInN S Z W f acc m) (idxF S Z f m).toNat (W * ordersF f m) := by
  unfold dueInN; rw [List.range_succ, List.foldl_append]; rfl
theorem dueOutN_succ {S Z W : Int} {m : Nat} : dueOutN S Z W (m + 1) = dueInN S Z W m (dueOutN S Z W m) ((wayF S Z).2.2 + 1).toNat := by
  unfold dueOutN; rw [List.range_succ, List.foldl_append]; rfl
section
variable {par S Z W : Int} (hp : 0 ≤ par ∧ par < 2) (hS : 0 ≤ S ∧ S < 16) (hZ : 0 ≤ Z ∧ Z < 16)
include hp hS hZ
theorem dueIn_tab {f : Nat} (hf : (f : Int) ≤ (wayF S Z).2.1) {acc : Tab} (ha : KeysOk acc) : ∀ m : Nat, (m : Int) ≤ (wayF S Z).2.2 + 1 → dueIn (ltr par) W S Z f (tabS (ltr par) acc) m = tabS (ltr par) (dueInN S Z W f acc m) ∧ KeysOk (dueInN S Z W f acc m)
  | 0, _ => ⟨rfl, ha⟩
  | m + 1, hm => by
    obtain ⟨e, hk⟩ := dueIn_tab hf ha m (by omega)
    have hi := idx_facts hS hZ hf (g := m) (by omega)
    rw [dueIn_succ, dueInN_succ, e]
    have := tab_put hp hk (k := (idxF S Z f m).toNat) (by omega) (v := W * ordersF f m)
    rw [Int.toNat_of_nonneg hi.1] at this
    exact ⟨this, putN_keys hk (by omega)⟩
theorem dueOut_tab : ∀ m : Nat, (m : Int) ≤ (wayF S Z).2.1 + 1 → dueOut (ltr par) W S Z m = tabS (ltr par) (dueOutN S Z W m) ∧ KeysOk (dueOutN S Z W m)
  | 0, _ => ⟨rfl, nil_keys⟩
  | m + 1, hm => by
    obtain ⟨e, hk⟩ := dueOut_tab m (by omega)
    obtain ⟨_, _, b3⟩ := way_bd hS hZ
    rw [dueOut_succ, dueOutN_succ, e]
    exact dueIn_tab hp hS hZ (by omega) hk _ (by omega)
theorem due_tab : dueF (ltr par) W S Z = tabS (ltr par) (dueN S Z W) ∧ KeysOk (dueN S Z W) := by
  obtain ⟨_, b2, _⟩ := way_bd hS hZ
  exact dueOut_tab hp hS hZ _ (by omega)
end
theorem sc_dueIn {S Z W : Int} {f : Nat} {acc : Tab} : ∀ m : Nat, dueInN S Z W f (sc W acc) m = sc W (dueInN S Z 1 f acc m)
  | 0 => rfl
  | m + 1 => by
    rw [dueInN_succ, dueInN_succ, sc_dueIn m, Int.one_mul, sc_put]
theorem sc_dueOut {S Z W : Int} : ∀ m : Nat, dueOutN S Z W m = sc W (dueOutN S Z 1 m)
  | 0 => rfl
  | m + 1 => by rw [dueOutN_succ, dueOutN_succ, sc_dueOut m, sc_dueIn]
theorem sumN_sc {W : Int} {T : Tab} : sumN (sc W T) = W * sumN T := by
  have key : ∀ (T : Tab) (a : Int), (sc W T).foldl (fun a p => a + p.2) (W * a) = W * T.foldl (fun a p => a + p.2) a := by
    intro T
    induction T with
    | nil => intro a; rfl
    | cons p T ih =>
      intro a
      show (sc W T).foldl _ (W * a + W * p.2) = W * T.foldl _ (a + p.2)
      rw [← Int.mul_add]; exact ih _
  have := key T 0
  rw [Int.mul_zero] at this
  exact this
theorem sumF_tab {l : PySem.Str} {T : Tab} : sumF (tabS l T) = sumN T := by
  unfold sumF sumN tabS
  rw [List.foldl_map]
theorem rows_tab {l : PySem.Str} {Db : List (PyData × PyData)} : ∀ {T : Tab}, (∀ p ∈ T, PySem.Spec.lookup (PyData.str (wordS l (p.1 : Int))) Db = some (.int p.2)) → KeqRows Db (kdpD (tabS l T)) true
  | [], _ => KeqRows.nil
  | p :: T, h => by
    have h1 := h p (.head _)
    have ih := rows_tab (l := l) (Db := Db) (T := T) fun q hq => h q (.tail _ hq)
    have hit := KeqRows.hit (v := PyData.int p.2) h1 ih
    have e : (PyData.eqv (PyData.int p.2) (PyData.int p.2) && true) = true := by simp [PyData.eqv]
    rw [e] at hit
    exact hit
theorem sc_keys {W : Int} {T : Tab} (h : KeysOk (sc W T)) : KeysOk T := fun p hp => h (p.1, W * p.2) (List.mem_map.mpr ⟨p, hp, rfl⟩)
theorem end_facts {par S Z W : Int} (hp : 0 ≤ par ∧ par < 2) (hS : 0 ≤ S ∧ S < 16) (hZ : 0 ≤ Z ∧ Z < 16) :
    KeqRows (kdpD (dueF (ltr par) W S Z)) (kdpD (tabS (ltr par) (runN par S Z (wayF S Z).1 W ((wayF S Z).2.1 + (wayF S Z).2.2).toNat).2)) true ∧
    (kdpD (tabS (ltr par) (runN par S Z (wayF S Z).1 W ((wayF S Z).2.1 + (wayF S Z).2.2).toNat).2)).length = (kdpD (dueF (ltr par) W S Z)).length ∧
    sumF (tabS (ltr par) (runN par S Z (wayF S Z).1 W ((wayF S Z).2.1 + (wayF S Z).2.2).toNat).2) = W * (ordersF ((wayF S Z).2.1 + 1) ((wayF S Z).2.2 + 1) - 1) := by
  have h := tab_facts hp hS hZ
  simp only [chkTab, Bool.and_eq_true, decide_eq_true_eq] at h
  obtain ⟨⟨⟨_, hlen⟩, hall⟩, hsum⟩ := h
  obtain ⟨hdue, hdk⟩ := due_tab (W := W) hp hS hZ
  have hdsc : dueN S Z W = sc W (dueN S Z 1) := sc_dueOut _
  have hM := (runN_ok (Z := Z) (k := (wayF S Z).1) (W := W) hp hS ((wayF S Z).2.1 + (wayF S Z).2.2).toNat).2
  rw [hdue, hdsc]
  rw [hdsc] at hdk
  have hrun := congrArg Prod.snd (sc_run (W := W) (par := par) (S := S) (Z := Z) (k := (wayF S Z).1) ((wayF S Z).2.1 + (wayF S Z).2.2).toNat)
  dsimp only at hrun
  rw [hrun] at hM ⊢
  refine ⟨rows_tab fun p hpm => ?_, ?_, ?_⟩
  · obtain ⟨q, hq, rfl⟩ := List.mem_map.mp hpm
    have hq' := List.all_eq_true.mp hall q hq
    simp only [Bool.and_eq_true, decide_eq_true_eq] at hq'
    have hk : q.1 < 16 := sc_keys hM q hq
    have h1 : kdpHas (tabS (ltr par) (sc W (dueN S Z 1))) (wordS (ltr par) (q.1 : Int)) = true := by
      show (tabS (ltr par) (sc W (dueN S Z 1))).any _ = true
      rw [tab_any hp hdk hk, sc_any]; exact hq'.1
    rw [kdpD_item h1, tab_look hp hdk hk, sc_look, hq'.2]
  · rw [kdpD_length, kdpD_length, tabS_len, tabS_len]
    unfold sc
    rw [List.length_map, List.length_map]; exact hlen
  · rw [sumF_tab, sumN_sc, hsum]
theorem lev_letters {par : Int} (hp : 0 ≤ par ∧ par < 2) : levF (ltr par) (Txt.item (ltr par) 1 ++ ltr par ++ Txt.item (ltr par) 0) 4 = 4 := by
  have h : par = 0 ∨ par = 1 := by omega
  rcases h with rfl | rfl <;> decide +kernel
theorem fr_pre {h₀ h : Heap} {L : Addr} {m : Str → Option Value} (F : Fr h₀ L h m) (ps : List (Str × Value)) (hps : ∀ p ∈ ps, m p.1 = some p.2) : Fr h₀ L h (kstB m ps) := by
  have : kstB m ps = m := by
    funext z
    exact kstB_eq hps fun _ => rfl
  rw [this]; exact F
theorem tab_0 {par S Z k W : Int} (hS : 0 ≤ S ∧ S < 16) : tabS (ltr par) (runN par S Z k W 0).1 = [(wordS (ltr par) S, W)] := by
  show [(wordS (ltr par) ((S.toNat : Nat) : Int), W)] = _
  rw [Int.toNat_of_nonneg hS.1]
theorem add_0 {par S Z k W : Int} (hp : 0 ≤ par ∧ par < 2) (hS : 0 ≤ S ∧ S < 16) : addF [] [(wordS (ltr par) S, W)] = tabS (ltr par) (runN par S Z k W 0).2 := by
  have h := (addF_tab hp nil_keys (one_keys (m := S.toNat) (v := W) (by omega))).1
  have e : tabS (ltr par) [(S.toNat, W)] = [(wordS (ltr par) S, W)] := tab_0 (Z := Z) (k := k) hS
  rw [e] at h
  exact h
theorem flat_tab0 (par S Z k W : Int) {kvs : List (Str × Value)} (hS : 0 ≤ S ∧ S < 16) (h : FlatPairs PyData.str kvs (kdpD [(wordS (ltr par) S, W)])) : FlatPairs PyData.str kvs (kdpD (tabS (ltr par) (runN par S Z k W 0).1)) := by
  rw [tab_0 hS]; exact h
noncomputable abbrev mvO (c : Int) (t1 t2 t3 : Tok) (n : Nat) : Obj := { cls := .type "tuple", data := .seq #[.float (mvT c).1 t1, .float (mvT c).2.1 t2, .float (mvT c).2.2 t3] n }
theorem moves_of {c : Int} {q0 q1 : Addr} {t1 t2 t3 u1 u2 u3 : Tok} {n n' : Nat} : MovesAre c [.ref q0, .ref q1] [(q0, mvO c t1 t2 t3 n), (q1, mvO (c + 1) u1 u2 u3 n')] := by
  refine ⟨rfl, fun i hi => ?_⟩
  have h : i = 0 ∨ i = 1 := by omega
  rcases h with rfl | rfl
  · refine ⟨q0, t1, t2, t3, n, rfl, ?_⟩
    rw [show c + ((0 : Nat) : Int) = c by omega]
    exact .head _
  · exact ⟨q1, u1, u2, u3, n', rfl, .tail _ (.head _)⟩
end Mine
end PartC15
section PartC16
open PySem PySem.W PyProof.Rows PySem.Calls PyProof.V PySem.Flt
namespace Mine
noncomputable abbrev stO (x y : Int) (t1 t2 : Tok) : Obj := { cls := .type "tuple", data := .seq #[.int x t1, .int y t2] }
section
variable {q0 q1 q2 q3 q4 q5 q6 qM Dd Ds Dw L : Addr} {t0 t1 t2 t3 t4 t5 t6 u0 u1 u2 u3 u4 u5 u6 : Tok} {oM od : Obj} {ys : List Value} {h₀ h : Heap} {e : Nat} {news : List (Addr × Obj)}
noncomputable abbrev stL (q0 q1 q2 q3 q4 q5 q6 : Addr) (t0 u0 t1 u1 t2 u2 t3 u3 t4 u4 t5 u5 t6 u6 : Tok) : List (Addr × Obj) := [(q0, stO 1 0 t0 u0), (q1, stO 0 1 t1 u1), (q2, stO (-1) 1 t2 u2), (q3, stO (-1) 0 t3 u3), (q4, stO 0 (-1) t4 u4), (q5, stO 1 (-1) t5 u5), (q6, stO 1 0 t6 u6)]
theorem steps_of : StepsAre [.ref q0, .ref q1, .ref q2, .ref q3, .ref q4, .ref q5, .ref q6] ((qM, oM) :: stL q0 q1 q2 q3 q4 q5 q6 t0 u0 t1 u1 t2 u2 t3 u3 t4 u4 t5 u5 t6 u6) := by
  intro k h0 h7
  rcases cases7 h0 h7 with rfl | rfl | rfl | rfl | rfl | rfl | rfl
  · exact ⟨q0, t0, u0, 0, rfl, .tail _ (.head _)⟩
  · exact ⟨q1, t1, u1, 0, rfl, .tail _ (.tail _ (.head _))⟩
  · exact ⟨q2, t2, u2, 0, rfl, .tail _ (.tail _ (.tail _ (.head _)))⟩
  · exact ⟨q3, t3, u3, 0, rfl, .tail _ (.tail _ (.tail _ (.tail _ (.head _))))⟩
  · exact ⟨q4, t4, u4, 0, rfl, .tail _ (.tail _ (.tail _ (.tail _ (.tail _ (.head _)))))⟩
  · exact ⟨q5, t5, u5, 0, rfl, .tail _ (.tail _ (.tail _ (.tail _ (.tail _ (.tail _ (.head _))))))⟩
  · exact ⟨q6, t6, u6, 0, rfl, .tail _ (.tail _ (.tail _ (.tail _ (.tail _ (.tail _ (.tail _ (.head _)))))))⟩
theorem steps_ne (hM : qM ≠ Dd) (h0 : q0 ≠ Dd) (h1 : q1 ≠ Dd) (h2 : q2 ≠ Dd) (h3 : q3 ≠ Dd) (h4 : q4 ≠ Dd) (h5 : q5 ≠ Dd) (h6 : q6 ≠ Dd) : ∀ p ∈ (qM, oM) :: stL q0 q1 q2 q3 q4 q5 q6 t0 u0 t1 u1 t2 u2 t3 u3 t4 u4 t5 u5 t6 u6, p.1 ≠ Dd := by
  intro p hp
  simp only [stL, List.mem_cons, List.not_mem_nil, or_false] at hp
  rcases hp with rfl | rfl | rfl | rfl | rfl | rfl | rfl | rfl <;> assumption
theorem steps_use (N : News h₀ L h ((Dd, od) :: (Ds, listOf #[.ref q0, .ref q1, .ref q2, .ref q3, .ref q4, .ref q5, .ref q6] e) :: (q6, stO 1 0 t6 u6) :: (q5, stO 1 (-1) t5 u5) :: (q4, stO 0 (-1) t4 u4) :: (q3, stO (-1) 0 t3 u3) :: (q2, stO (-1) 1 t2 u2) :: (q1, stO 0 1 t1 u1) :: (q0, stO 1 0 t0 u0) :: news))
    (hw : (Dw, LCg.lst ys) ∈ news) (hM : (qM, oM) ∈ news) :
    News h₀ L h ((Dd, od) :: (Dw, LCg.lst ys) :: (Ds, listOf [.ref q0, .ref q1, .ref q2, .ref q3, .ref q4, .ref q5, .ref q6].toArray e) :: (qM, oM) :: stL q0 q1 q2 q3 q4 q5 q6 t0 u0 t1 u1 t2 u2 t3 u3 t4 u4 t5 u5 t6 u6) := by
  exact news_sub N (List.forall_mem_cons.mpr ⟨.head _, List.forall_mem_cons.mpr ⟨.tail _ (.tail _ (.tail _ (.tail _ (.tail _ (.tail _ (.tail _ (.tail _ (.tail _ (hw))))))))), List.forall_mem_cons.mpr ⟨.tail _ (.head _), List.forall_mem_cons.mpr ⟨.tail _ (.tail _ (.tail _ (.tail _ (.tail _ (.tail _ (.tail _ (.tail _ (.tail _ (hM))))))))), List.forall_mem_cons.mpr ⟨.tail _ (.tail _ (.tail _ (.tail _ (.tail _ (.tail _ (.tail _ (.tail _ (.head _)))))))), List.forall_mem_cons.mpr ⟨.tail _ (.tail _ (.tail _ (.tail _ (.tail _ (.tail _ (.tail _ (.head _))))))), List.forall_mem_cons.mpr ⟨.tail _ (.tail _ (.tail _ (.tail _ (.tail _ (.tail _ (.head _)))))), List.forall_mem_cons.mpr ⟨.tail _ (.tail _ (.tail _ (.tail _ (.tail _ (.head _))))), List.forall_mem_cons.mpr ⟨.tail _ (.tail _ (.tail _ (.tail _ (.head _)))), List.forall_mem_cons.mpr ⟨.tail _ (.tail _ (.tail _ (.head _))), List.forall_mem_cons.mpr ⟨.tail _ (.tail _ (.head _)), fun _ h => nomatch h⟩⟩⟩⟩⟩⟩⟩⟩⟩⟩⟩)
end
section
variable {prog : Program} {w : World} {A : Around} {s : Shared} {E : Value → Shared → Prop} {h₀ : Heap} {L qM d : Addr} {oM o : Obj} {kM kU : List (Str × Value)} {tM tU : List (Str × Int)} {news : List (Addr × Obj)} {Q : Value → Shared → Prop}
theorem same_tabs (N : News h₀ L s.heap news) (hm : (qM, oM) ∈ news) (hu : (d, o) ∈ news) (lM : (qM == sysModules) = false) (lU : (d == sysModules) = false) (dM : oM.IsDictOf (strKind prog w) kM) (dU : o.IsDictOf (strKind prog w) kU) (fM : FlatPairs PyData.str kM (kdpD tM)) (fU : FlatPairs PyData.str kU (kdpD tU))
    (hun : A.units < cLine) (rows : KeqRows (kdpD tU) (kdpD tM) true) (hl : (kdpD tM).length = (kdpD tU).length) (h : Q (.bool false) s) : wpAny (model prog w) A (compareOp .NotEq (.ref qM) (.ref d)) Q E s :=
  kne_tabs (knd := strKind prog w) (enc := PyData.str) PyProof.V.same_str ⟨lM, kM, Heap.dictOf_iff.mpr ⟨oM, (N _ hm).1, dM⟩, fM⟩ ⟨lU, kU, Heap.dictOf_iff.mpr ⟨o, (N _ hu).1, dU⟩, fU⟩ hl hun rows h
end
theorem carried_len {ys : List Value} {ds : List PyData} (h : CarriedAll ys ds) : ys.length = ds.length := by
  induction h with
  | nil => rfl
  | cons _ _ ih => exact congrArg (· + 1) ih
theorem words_len {l : PySem.Str} {ys : List Value} (h : CarriedAll ys (List.map (fun k => PyData.str (wordS l k)) (rangeKs 0 16))) : ys.length = 16 := by
  rw [carried_len h, List.length_map, rangeKs_length]
end Mine
end PartC16
section PartC17
open PySem PySem.W PyProof.Rows PySem.Calls PyProof.V PySem.Flt
namespace Mine
theorem le_room {a b k K : Nat} (h : a + K < b) (hk : Nat.ble k K = true) : a + k < b := Nat.lt_of_le_of_lt (Nat.add_le_add_left (Nat.le_of_ble_eq_true hk) a) h
section
variable {M : Model} {A : Around} {α : Type} {c : Sem α} {Q : α → Shared → Prop} {E : Value → Shared → Prop} {h₀ h : Heap} {L : Addr} {m : Str → Option Value}
/-- the state of a statement's start, made short: a new count of tokens -/
theorem norm_st (_ : Fr h₀ L h m) (s : Shared) {t : Nat} (k : ∀ t, wpAny M A c Q E ⟨h, s.gens, s.drawn, t, s.os⟩) : wpAny M A c Q E ⟨h, s.gens, s.drawn, t, s.os⟩ := k t
/-- what follows, under one name -/
theorem q_let {s : Shared} (k : let qX := Q; wpAny M A c qX E s) : wpAny M A c Q E s := k
/-- the frame's map under one name -/
theorem fr_let {P : Prop} (F : Fr h₀ L h m) (k : let mX := m; Fr h₀ L h mX → P) : P := k F
end
section
theorem cut_pos {d n m : Int} (h : n = m + d) (h0 : n ≠ 0) (h1 : -d ≤ m) : -d < m := Int.lt_iff_le_and_ne.mpr ⟨h1, fun e => h0 (by rw [h, ← e, Int.add_left_neg])⟩
theorem neg_s {d : Int} : -(d - 1) = -d + 1 := by rw [Int.neg_sub, Int.sub_eq_add_neg, Int.add_comm]
theorem neg_sn {d : Int} (h0 : d ≤ 0) : (-(d - 1)).toNat = (-d).toNat + 1 := by rw [neg_s]; exact Int.toNat_add (Int.neg_nonneg_of_nonpos h0) (by decide)
theorem tn_in {X : Str} {c : Int} (h0 : 0 ≤ c) (hx : c < X.length) : c.toNat < (sgn X).length := by rw [sgn_len]; exact (Int.toNat_lt h0).mpr hx
theorem tn_out {X : Str} {c : Int} (h0 : 0 ≤ c) (hx : (X.length : Int) ≤ c) : (sgn X).length ≤ c.toNat := by rw [sgn_len]; exact (Int.le_toNat h0).mpr hx
theorem tr_in {X : Str} {d : Int} (h0 : d ≤ 0) (hx : -d < X.length) : (-d).toNat < (sgn X).reverse.length := by rw [List.length_reverse]; exact tn_in (Int.neg_nonneg_of_nonpos h0) hx
theorem tr_out {X : Str} {d n : Int} (h0 : d ≤ 0) (hc : n = X.length + d) (hn : n = 0) : (sgn X).reverse.length ≤ (-d).toNat := by
  rw [List.length_reverse]
  refine tn_out (Int.neg_nonneg_of_nonpos h0) (Int.le_of_eq ?_)
  rw [← Int.neg_eq_of_add_eq_zero (hc.symm.trans hn), Int.neg_neg]
theorem post_step {X Y : Str} {d : Int} (h0 : d ≤ 0) (hx : -d < X.length) (hy : -d < Y.length) (hi : (Txt.item X (d - 1) == Txt.item Y (d - 1)) = true) (h3 : comN (sgn X).reverse (sgn Y).reverse = (-d).toNat + comN (List.drop (-d).toNat (sgn X).reverse) (List.drop (-d).toNat (sgn Y).reverse)) :
    d - 1 ≤ 0 ∧ -(d - 1) ≤ X.length ∧ -(d - 1) ≤ Y.length ∧ comN (sgn X).reverse (sgn Y).reverse = (-(d - 1)).toNat + comN (List.drop (-(d - 1)).toNat (sgn X).reverse) (List.drop (-(d - 1)).toNat (sgn Y).reverse) := by
  refine ⟨Int.le_trans (Int.sub_le_self d (by decide)) h0, ?_, ?_, ?_⟩
  · rw [neg_s]; exact Int.add_one_le_of_lt hx
  · rw [neg_s]; exact Int.add_one_le_of_lt hy
  · rw [h3, comN_step (tr_in h0 hx) (tr_in h0 hy) (of_decide_eq_true (item_eq_neg h0 hx hy hi)), neg_sn h0]; exact (Nat.add_assoc _ _ _).symm
theorem post_less {n : Nat} {d : Int} (h0 : d ≤ 0) (hx : -d < n) : n - (-(d - 1)).toNat < n - (-d).toNat := by rw [neg_sn h0]; exact Nat.sub_succ_lt_self _ _ ((Int.toNat_lt (Int.neg_nonneg_of_nonpos h0)).mpr hx)
theorem post_ne {X Y : Str} {d : Int} (h0 : d ≤ 0) (hx : -d < X.length) (hy : -d < Y.length) (hi : (Txt.item X (d - 1) == Txt.item Y (d - 1)) = false) (h3 : comN (sgn X).reverse (sgn Y).reverse = (-d).toNat + comN (List.drop (-d).toNat (sgn X).reverse) (List.drop (-d).toNat (sgn Y).reverse)) :
    (-d).toNat = comN (sgn X).reverse (sgn Y).reverse := by
  rw [h3, comN_stop (tr_in h0 hx) (tr_in h0 hy) (of_decide_eq_false (item_eq_neg h0 hx hy hi))]; rfl
theorem post_x {X Y : Str} {d n : Int} (h0 : d ≤ 0) (hc : n = X.length + d) (hn : n = 0) (h3 : comN (sgn X).reverse (sgn Y).reverse = (-d).toNat + comN (List.drop (-d).toNat (sgn X).reverse) (List.drop (-d).toNat (sgn Y).reverse)) :
    (-d).toNat = comN (sgn X).reverse (sgn Y).reverse := by
  rw [h3, comN_nil_l (tr_out h0 hc hn)]; rfl
theorem post_y {X Y : Str} {d n : Int} (h0 : d ≤ 0) (hc : n = Y.length + d) (hn : n = 0) (h3 : comN (sgn X).reverse (sgn Y).reverse = (-d).toNat + comN (List.drop (-d).toNat (sgn X).reverse) (List.drop (-d).toNat (sgn Y).reverse)) :
    (-d).toNat = comN (sgn X).reverse (sgn Y).reverse := by
  rw [h3, comN_nil_r (tr_out h0 hc hn)]; rfl
theorem pre_step {X Y : Str} {c : Int} (h0 : 0 ≤ c) (hx : c < X.length) (hy : c < Y.length) (hi : (Txt.item X c == Txt.item Y c) = true) (h3 : comN (sgn X) (sgn Y) = c.toNat + comN (List.drop c.toNat (sgn X)) (List.drop c.toNat (sgn Y))) :
    0 ≤ c + 1 ∧ c + 1 ≤ X.length ∧ c + 1 ≤ Y.length ∧ comN (sgn X) (sgn Y) = (c + 1).toNat + comN (List.drop (c + 1).toNat (sgn X)) (List.drop (c + 1).toNat (sgn Y)) := by
  refine ⟨Int.le_add_one h0, Int.add_one_le_of_lt hx, Int.add_one_le_of_lt hy, ?_⟩
  rw [h3, comN_step (tn_in h0 hx) (tn_in h0 hy) (of_decide_eq_true (item_eq_at h0 hx hy hi)), Int.toNat_add h0 (by decide)]; exact (Nat.add_assoc _ _ _).symm
theorem pre_less {n : Nat} {c : Int} (h0 : 0 ≤ c) (hx : c < n) : n - (c + 1).toNat < n - c.toNat := by rw [Int.toNat_add h0 (by decide)]; exact Nat.sub_succ_lt_self _ _ ((Int.toNat_lt h0).mpr hx)
theorem pre_ne {X Y : Str} {c : Int} (h0 : 0 ≤ c) (hx : c < X.length) (hy : c < Y.length) (hi : (Txt.item X c == Txt.item Y c) = false) (h3 : comN (sgn X) (sgn Y) = c.toNat + comN (List.drop c.toNat (sgn X)) (List.drop c.toNat (sgn Y))) : c.toNat = comN (sgn X) (sgn Y) := by
  rw [h3, comN_stop (tn_in h0 hx) (tn_in h0 hy) (of_decide_eq_false (item_eq_at h0 hx hy hi))]; rfl
theorem pre_x {X Y : Str} {c : Int} (h0 : 0 ≤ c) (hx : (X.length : Int) ≤ c) (h3 : comN (sgn X) (sgn Y) = c.toNat + comN (List.drop c.toNat (sgn X)) (List.drop c.toNat (sgn Y))) : c.toNat = comN (sgn X) (sgn Y) := by
  rw [h3, comN_nil_l (tn_out h0 hx)]; rfl
theorem pre_y {X Y : Str} {c : Int} (h0 : 0 ≤ c) (hx : (Y.length : Int) ≤ c) (h3 : comN (sgn X) (sgn Y) = c.toNat + comN (List.drop c.toNat (sgn X)) (List.drop c.toNat (sgn Y))) : c.toNat = comN (sgn X) (sgn Y) := by
  rw [h3, comN_nil_r (tn_out h0 hx)]; rfl
theorem slice_in {c n k : Int} (hf : (0 ≤ c → c ≤ n → k = n - c) ∧ (n ≤ c → k = 0)) (hk : k ≠ 0) : c < n := Int.not_le.mp fun h => hk (hf.2 h)
theorem slice_out {c n k : Int} (hf : (0 ≤ c → c ≤ n → k = n - c) ∧ (n ≤ c → k = 0)) (h0 : 0 ≤ c) (h1 : c ≤ n) (hk : k = 0) : n ≤ c := Int.le_of_eq (Int.sub_eq_zero.mp ((hf.1 h0 h1).symm.trans hk))
end
section
variable {S : Int}
theorem b16_63 (h : 0 ≤ S ∧ S < 16) : S < 2 ^ 63 := Int.lt_trans h.2 (by decide)
theorem b6_63 (h : 0 ≤ S ∧ S < 6) : S < 2 ^ 63 := Int.lt_trans h.2 (by decide)
theorem b6_7 (h : 0 ≤ S ∧ S < 6) : S < 7 := Int.lt_trans h.2 (by decide)
theorem b6p_0 (h : 0 ≤ S ∧ S < 6) : 0 ≤ S + 1 := Int.le_add_one h.1
theorem b6p_7 (h : 0 ≤ S ∧ S < 6) : S + 1 < 7 := Int.add_lt_add_right h.2 1
theorem b6p_63 (h : 0 ≤ S ∧ S < 6) : S + 1 < 2 ^ 63 := Int.lt_trans (b6p_7 h) (by decide)
theorem b4_n64 (h : 0 ≤ S ∧ S < 4) : -2 ^ 64 < S := Int.lt_of_lt_of_le (by decide) h.1
theorem b4_64 (h : 0 ≤ S ∧ S < 4) : S < 2 ^ 64 := Int.lt_trans h.2 (by decide)
theorem b4p_0 (h : 0 ≤ S ∧ S < 4) : 0 ≤ S + 1 := Int.le_add_one h.1
theorem b4p_8 (h : 0 ≤ S ∧ S < 4) : S + 1 < 8 := Int.lt_trans (Int.add_lt_add_right h.2 1) (by decide)
theorem b4p_100 (h : 0 ≤ S ∧ S < 4) : S + 1 < 100 := Int.lt_trans (b4p_8 h) (by decide)
theorem c4_0 : (0 : Int) ≤ 4 := by decide
theorem c4_n : -2 ^ 64 < (4 : Int) := by decide
theorem c4_64 : (4 : Int) < 2 ^ 64 := by decide
theorem cN_64 {n : Nat} : -2 ^ 64 < (n : Int) := Int.lt_of_lt_of_le (by decide) (Int.natCast_nonneg n)
theorem c0_16M : 0 ≤ 16777216 := by decide
theorem bN_0 {n : Nat} : 0 ≤ (n : Int) := Int.natCast_nonneg n
theorem bN_16M {n : Nat} (h : 0 ≤ (n : Int) ∧ (n : Int) < 16) : n ≤ 16777216 := Nat.le_of_lt (Nat.lt_trans ((Int.ofNat_lt (m := 16)).mp h.2) (by decide))
end
section
theorem slice6 {x : Str} {c : Int} (h : x.length ≤ 6) (h0 : 0 ≤ c) (h1 : c ≤ x.length) : (Txt.slice x (some c) none).length ≤ 6 := by
  rw [slice_from x h0 h1]
  have l := sgn_len x
  show (List.toArray _).size ≤ 6
  rw [List.size_toArray, List.length_drop, l]; exact Nat.le_trans (Nat.sub_le _ _) h
theorem cut6 {k n : Nat} {d : Int} (h : (k : Int) = n + d) (h0 : d ≤ 0) (h1 : n ≤ 6) : k ≤ 6 := by omega
variable {n : Nat}
theorem n6_16M (h : n ≤ 6) : n ≤ 16777216 := Nat.le_trans h (by decide)
theorem n6_63 (h : n ≤ 6) : (n : Int) < 9223372036854775808 := Int.lt_of_le_of_lt (Int.ofNat_le.mpr h) (by decide)
theorem n6_63p (h : n ≤ 6) : (n : Int) < 2 ^ 63 := n6_63 h
theorem n6_no (h : n ≤ 6) : ¬ ((n : Int) ≥ 2 ^ 63) := Int.not_le.mpr (n6_63 h)
theorem n6_40 (h : n ≤ 6) : ¬ ((40 : Int) < n) := Int.not_lt.mpr (Int.le_trans (Int.ofNat_le.mpr h) (by decide))
end
section
variable {c d k : Int} {n : Nat}
theorem neg_le0 (h : 0 ≤ c) : -(n : Int) ≤ c := Int.le_trans (Int.neg_nonpos_of_nonneg (Int.natCast_nonneg n)) h
theorem c_hi63 (h : c ≤ n) (h6 : n ≤ 6) : c < 9223372036854775808 := Int.lt_of_le_of_lt h (n6_63 h6)
theorem c_lo63 (h : 0 ≤ c) : -9223372036854775808 < c := Int.lt_of_lt_of_le (by decide) h
theorem post_lo (h : k = n + d) (h0 : k ≠ 0) (h1 : -d ≤ n) : -(n : Int) ≤ d - 1 := Int.le_sub_one_of_lt (Int.neg_lt_of_neg_lt (cut_pos h h0 h1))
theorem post_hi (h : d ≤ 0) : d - 1 < n := Int.sub_one_lt_of_le (Int.le_trans h (Int.natCast_nonneg n))
theorem post_hi63 (h : d ≤ 0) : d - 1 < 9223372036854775808 := Int.sub_one_lt_of_le (Int.le_trans h (by decide))
theorem post_lo63 (h : -d ≤ n) (h6 : n ≤ 6) : -9223372036854775808 < d - 1 := by omega
theorem room0 {a b K : Nat} (h : a + K < b) : a < b := Nat.lt_of_le_of_lt (Nat.le_add_right a K) h
end
section
variable {a b k : Int} {i n m : Nat}
theorem pl_0 (ha : 0 ≤ a) (hb : 0 ≤ b) : 0 ≤ 4 * a + b := Int.add_nonneg (Int.mul_nonneg (by decide) ha) hb
theorem pl_16 (ha : a < 4) (hb : b < 4) : 4 * a + b < 16 := by omega
theorem pl_63 (ha : a < 4) (hb : b < 4) : 4 * a + b < 2 ^ 63 := Int.lt_trans (pl_16 ha hb) (by decide)
theorem w_0 (h : 0 ≤ k ∧ k < 6) : 0 ≤ k + (i : Int) := Int.add_nonneg h.1 (Int.natCast_nonneg i)
theorem w_7 (h : 0 ≤ k ∧ k < 6) (hi : i < 2) : k + (i : Int) < 7 := Int.lt_of_lt_of_le (Int.add_lt_add_of_lt_of_le h.2 (Int.ofNat_le.mpr (Nat.le_of_lt_succ hi))) (by decide)
theorem le_400 (h : n ≤ 100) : n ≤ 400 := Nat.le_trans h (by decide)
end
section
variable {q : Int} {n : Nat}
theorem n_le (h : n < (q + 1).toNat) : (n : Int) ≤ q := Int.le_of_lt_add_one (Int.lt_toNat.mp h)
theorem n_lt4 (h : (n : Int) ≤ q) (hq : 0 ≤ q ∧ q < 4) : (n : Int) < 8 := Int.lt_trans (Int.lt_of_le_of_lt h hq.2) (by decide)
theorem n_lt64 (h : (n : Int) ≤ q) (hq : 0 ≤ q ∧ q < 4) : (n : Int) < 2 ^ 64 := Int.lt_trans (Int.lt_of_le_of_lt h hq.2) (by decide)
theorem n_nat4 (hq : 0 ≤ q ∧ q < 4) : (q + 1).toNat ≤ 4 := Int.toNat_le.mpr (Int.add_one_le_of_lt hq.2)
end
theorem sub1_64 {o : Int} (h : o.natAbs < 100000) : (o - 1).natAbs < 2 ^ 64 := Nat.lt_of_le_of_lt (Int.natAbs_sub_le o 1) (Nat.lt_trans (Nat.add_lt_add_right h 1) (by decide))
section
variable {X Y : Int} {q0 q1 q2 q3 q4 q5 l L : Addr} {t0 t1 t2 t3 t4 t5 u0 u1 u2 u3 u4 u5 : Tok} {h₀ h : Heap} {e : Nat} {rest : List (Addr × Obj)}
noncomputable def SharesAre (X Y : Int) (vs : List Value) (so : List (Addr × Obj)) : Prop := ∀ j : Nat, j < 6 → ∃ q t1 t2, vs[j]? = some (.ref q) ∧ (q, stO (shP X Y j) (shQ X Y j) t1 t2) ∈ so
theorem shares_of (_ : News h₀ L h ((l, listOf #[.ref q0, .ref q1, .ref q2, .ref q3, .ref q4, .ref q5] e) :: (q5, stO (-Y) (X + Y) t5 u5) :: (q4, stO (-X - Y) X t4 u4) :: (q3, stO (-X) (-Y) t3 u3) :: (q2, stO Y (-X - Y) t2 u2) :: (q1, stO (X + Y) (-X) t1 u1) :: (q0, stO X Y t0 u0) :: rest)) :
    SharesAre X Y [.ref q0, .ref q1, .ref q2, .ref q3, .ref q4, .ref q5] ((l, listOf #[.ref q0, .ref q1, .ref q2, .ref q3, .ref q4, .ref q5] e) :: (q5, stO (-Y) (X + Y) t5 u5) :: (q4, stO (-X - Y) X t4 u4) :: (q3, stO (-X) (-Y) t3 u3) :: (q2, stO Y (-X - Y) t2 u2) :: (q1, stO (X + Y) (-X) t1 u1) :: (q0, stO X Y t0 u0) :: rest) := by
  intro j hj
  match j, hj with
  | 0, _ => exact ⟨q0, t0, u0, rfl, .tail _ (.tail _ (.tail _ (.tail _ (.tail _ (.tail _ (.head _))))))⟩
  | 1, _ => exact ⟨q1, t1, u1, rfl, .tail _ (.tail _ (.tail _ (.tail _ (.tail _ (.head _)))))⟩
  | 2, _ => exact ⟨q2, t2, u2, rfl, .tail _ (.tail _ (.tail _ (.tail _ (.head _))))⟩
  | 3, _ => exact ⟨q3, t3, u3, rfl, .tail _ (.tail _ (.tail _ (.head _)))⟩
  | 4, _ => exact ⟨q4, t4, u4, rfl, .tail _ (.tail _ (.head _))⟩
  | 5, _ => exact ⟨q5, t5, u5, rfl, .tail _ (.head _)⟩
end
section
variable {xs stored : List Str} {u m₀ rest : Str → Option Value} {z x : Str} {v : Value}
theorem kstB_out : ∀ {ps : List (Str × Value)}, (∀ p ∈ ps, z ≠ p.1) → kstB rest ps z = rest z
  | [], _ => rfl
  | p :: _, h => (if_neg (h p (.head _))).trans (kstB_out fun q hq => h q (.tail _ hq))
theorem kmB_out {ps : List (Str × Value)} (h1 : xs.contains z = false) (h2 : ∀ p ∈ ps, z ≠ p.1) (h3 : stored.contains z = false) : kmB xs stored u m₀ ps z = m₀ z := by
  refine (kstB_out h2).trans (if_neg ?_)
  rw [List.contains_append, h1, h3]; decide
theorem kst_out {ps : List (Str × Value)} (h1 : z ≠ x) (h2 : ∀ p ∈ ps, z ≠ p.1) (h3 : stored.contains z = false) : kstB (fun z => if stored.contains z = true then u z else if z = x then some v else m₀ z) ps z = m₀ z :=
  (kstB_out h2).trans ((if_neg (by rw [h3]; decide)).trans (if_neg h1))
theorem ps_ne {ps : List (Str × Value)} (h2 : ∀ p ∈ ps, z ≠ p.1) (hm : (x, v) ∈ ps) : z ≠ x := h2 (x, v) hm
theorem st_ne (h : stored.contains z = false) (hx : stored.contains x = true) : z ≠ x := fun e => by rw [e, hx] at h; cases h
end
end Mine
end PartC17
open PyProof.Rows
local macro_rules | `(tactic| walk_at $s:str) => `(tactic| k_extra $s)
local macro_rules | `(tactic| omega) => `(tactic| first | (with_reducible first | assumption | exact And.left ‹_› | exact And.right ‹_› | exact Mine.bN_0 | exact Mine.slice_in ‹_› ‹_› | exact Mine.post_lo ‹_› ‹_› ‹_› | exact Mine.n6_16M ‹_› | exact Mine.n6_63 ‹_› | exact Mine.n6_63p ‹_› | exact Mine.n6_no ‹_› | exact Mine.n6_40 ‹_› | exact Mine.room0 ‹_› | exact Mine.bN_16M ‹_› | exact Mine.b4_n64 ‹_› | exact Mine.b4_64 ‹_›) | omega +splitDisjunctions)
local macro_rules | `(tactic| k_ne) => `(tactic| (refine PySem.W.neN ?_; (try dsimp only); first | (with_reducible assumption) | (rename (_ < _ ∧ _) => l9; first | exact Nat.ne_of_gt (by simp only [l9]) | exact Nat.ne_of_lt (by simp only [l9])) | (rename (_ < _ ∧ _) => l9; clear l9; rename (_ < _ ∧ _) => l9; first | exact Nat.ne_of_gt (by simp only [l9]) | exact Nat.ne_of_lt (by simp only [l9])) | omega +splitDisjunctions))
section PartPway
open PySem PySem.W PyProof.Rows
set_option maxHeartbeats 20000000
namespace Mine
theorem way_call : ∀ (w : World) (mean : ExcName → Option Value) (mg mb : Str → Option Value) (news : List (Addr × Obj)) (x y : Int) (tx ty : Tok), CallsTo w mean mg mb 70 [.int x tx, .int y ty] news (RetO (tup3 (wayF x y).1 (wayF x y).2.1 (wayF x y).2.2)) := by
  dsimp only [CallsTo, RetV, RetO]
  k_fill
  intro w mean mg mb news x y tx ty dp un gd cn cs a ccd cl outer A₀ base h₀ L m s Q E B F KX N T hkk hdp hun hret
  have X := KX
  w_top off
  k_with_none
  k_with "execs cons" => ((rename Fr _ _ _ _ => lF'); refine norm_st lF' s ?_; intro tkS; refine fr_let lF' ?_; intro mX F'; clear lF'; refine q_let ?_; intro qX; refine PySem.wpAny_execs_cons ?_)
  k_with "subscriptTail Name Name ref int" => k_dflt (
    (with_reducible show wpAny _ _ (subscriptTail _ _ (Value.ref _) (Value.int _ _)) _ _ _)
    (rename News _ _ _ _ => lN')
    obtain ⟨q9, t91, t92, hq91, hq92⟩ := hSh pre.length hl6
    refine' item_listK lN' (by k_mem) bN_0 (n6_63p (Nat.le_of_lt hl6)) hq91 ?_ (by with_unfolding_all rfl))
  k_with "subscriptTail Subscript" => k_dflt (
    (rename News _ _ _ _ => lN')
    refine' item_tupK lN' (List.mem_append_left _ hq92) (by decide) (by decide) (by rfl) ?_ (by with_unfolding_all rfl))
  k_with "pyIter ref" => k_dflt (
    (rename IsRange _ _ _ _ _ _ _ _ => lR'); (rename Fr _ _ _ _ => lF'); (rename News _ _ _ _ => lN')
    have hSh := shares_of (X := wayX x y) (Y := wayY x y) lN'
    refine' kst_range (σ := Unit) (n := 6) (fun _ => _) (fun _ => []) (fun _ => True) [] (fun pre _ => ∀ j, j < pre.length → ¬ wayC (wayX x y) (wayY x y) j) () (by rfl) lR' (by decide) (by decide) lF' lN' trivial (fun _ h => nomatch h) (fun _ h => absurd h (Nat.not_lt_zero _)) ?_ ?_
    rotate_left
    clear lR' lF' lN'
    intro c u h tk hcc hP F' N'
    rotate_right
    clear lR' lF' lN'
    intro c pre k t u h tk own hk hlt hoff hcc hP F' N'
    simp only [List.cons_append, List.nil_append] at N'
    obtain rfl : k = (pre.length : Int) := hk.trans (Int.zero_add _)
    have hl6 : pre.length < 6 := hlt
    all_goals (try k_fold))
  k_with "InvEndN" => k_dflt (
    refine' kst_end () (by assumption) (by assumption) ?hn ?ho (by rfl) trivial (fun _ h => nomatch h) ?hr ?hp
    (case hn => with_unfolding_all ((try simp only [List.nil_append, List.cons_append]); k_allIn))
    (case ho => intro p hp; k_ownIn)
    (case hr => intro z h1 _ _; simp +zetaDelta [h1, kstB])
    (case hp =>
      intro j hj
      rcases Nat.lt_succ_iff_lt_or_eq.mp (by simpa using hj) with h | h
      · exact hP j h
      · subst h
        intro hc
        first
        | exact absurd hc.1 (by with_reducible assumption)
        | exact absurd hc.2 (by with_reducible assumption)
        | omega))
  k_with "LeaveK" => k_dflt (
    refine' fin_tup (by assumption) (by assumption) ?m hkept (fun _ h => nomatch h) (fun _ h => nomatch h) ?o hret
    (case m => k_mem)
    (case o => first
      | (have e := wayF_hit (x := x) (y := y) (j := pre.length) hlt hP ⟨by with_reducible assumption, by with_reducible assumption⟩
         rw [e]; exact ⟨_, _, _, _, rfl⟩)
      | (have e := wayF_none (x := x) (y := y) (fun j hj => hP j (by rw [rangeKs_length]; exact hj)); rw [e]; exact ⟨_, _, _, _, rfl⟩)))
  refine wpAny_call ?_
  k_dflt (refine' code_defE (AA := []) ?k1 ?k2 ?k3 ?k4 ?kAA ?k5 ?kA ?kF ?kK ?k6 ?k7 ?k8 ?k9 ?kB ?_ ?c2 ?c3 ?c4 ?c5; (case kA => exact rfl); (case kF => exact rfl); (case kK => assumption); (case k1 => k_asm); (case k2 => k_asm); (case k3 => k_asm); (case k4 => k_asm); (case kAA => exact (fun _ h => nomatch h)); (case k5 => k_asm); (case k6 => k_is); (case k7 => k_is); (case k8 => ktr_room); (case k9 => exact BindsTo.of_eq rfl); (case c5 => decide); (case kB => exact locs rfl); (case c2 => exact rfl); (case c3 => exact rfl); (case c4 => exact rfl); k_whole; intro g' L' h' F' N' B' X' T' hkept; (try dsimp only); (try k_lift B'); clear F B KX T X N; (try k_fold))
  k_steps
  all_goals (try dsimp +zetaDelta only)
  k_steps
end Mine
end PartPway
section PartPsubst
open PySem PySem.W PyProof.Rows
set_option maxHeartbeats 20000000
namespace Mine
theorem subst_call : ∀ (w : World) (mean : ExcName → Option Value) (mg mb : Str → Option Value) (news : List (Addr × Obj)) (x y : PySem.Str) (t1 t2 : Tok) (_ : x.length ≤ 6) (_ : y.length ≤ 6), CallsTo w mean mg mb 21 [.str x t1, .str y t2] news (RetV fun t => .int (subF x y) t) := by
  dsimp only [CallsTo, RetV, RetO]
  k_fill
  intro w mean mg mb news x y t1 t2 hx hy dp un gd cn cs a ccd cl outer A₀ base h₀ L m s Q E B F KX N T hkk hdp hun hret
  have X := KX
  w_top off
  k_with_none
  k_with "execs cons" => ((rename Fr _ _ _ _ => lF'); refine norm_st lF' s ?_; intro tkS; refine fr_let lF' ?_; intro mX F'; clear lF'; refine q_let ?_; intro qX; refine PySem.wpAny_execs_cons ?_)
  k_with "LeaveK" => k_dflt (
    refine' fin_int (by assumption) (by assumption) (fun _ h => nomatch h) ?o hret
    (case o => first
      | exact (subF_0 (by assumption)).symm
      | exact (subF_1 (by assumption) (by assumption)).symm
      | exact (subF_2 (by assumption) (by assumption)).symm))
  refine wpAny_call ?_
  k_dflt (refine' code_defE (AA := []) ?k1 ?k2 ?k3 ?k4 ?kAA ?k5 ?kA ?kF ?kK ?k6 ?k7 ?k8 ?k9 ?kB ?_ ?c2 ?c3 ?c4 ?c5; (case kA => exact rfl); (case kF => exact rfl); (case kK => assumption); (case k1 => k_asm); (case k2 => k_asm); (case k3 => k_asm); (case k4 => k_asm); (case kAA => exact (fun _ h => nomatch h)); (case k5 => k_asm); (case k6 => k_is); (case k7 => k_is); (case k8 => ktr_room); (case k9 => exact BindsTo.of_eq rfl); (case c5 => decide); (case kB => exact locs rfl); (case c2 => exact rfl); (case c3 => exact rfl); (case c4 => exact rfl); k_whole; intro g' L' h' F' N' B' X' T' hkept; (try dsimp only); (try k_lift B'); clear F B KX T X N; (try k_fold))
  k_steps
  all_goals (try dsimp +zetaDelta only)
  k_steps
end Mine
end PartPsubst
section PartPcolour
open PySem PySem.W PyProof.Rows
set_option maxHeartbeats 20000000
namespace Mine
theorem colour_call : ∀ (w : World) (mean : ExcName → Option Value) (mg mb : Str → Option Value) (news : List (Addr × Obj)) (x y : Int) (tx ty : Tok) (_ : 0 ≤ x) (_ : x < 16) (_ : 0 ≤ y) (_ : y < 16), CallsTo w mean mg mb 77 [.int x tx, .int y ty] news (RetO (ftup3 (colR x y) (colG x y) colB)) := by
  dsimp only [CallsTo, RetV, RetO]
  k_fill
  intro w mean mg mb news x y tx ty hx0 hx1 hy0 hy1 dp un gd cn cs a ccd cl outer A₀ base h₀ L m s Q E B F KX N T hkk hdp hun hret
  have X := KX
  w_top off
  k_with_none
  k_with "execs cons" => ((rename Fr _ _ _ _ => lF'); refine norm_st lF' s ?_; intro tkS; refine fr_let lF' ?_; intro mX F'; clear lF'; refine q_let ?_; intro qX; refine PySem.wpAny_execs_cons ?_)
  have b1 := fdiv4_bound hx0 hx1
  have b2 := fdiv4_bound hy0 hy1
  have b3 := fmod4_bound x
  have b4 := fmod4_bound y
  k_with "LeaveK" => k_dflt (
    refine' fin_tup (by assumption) (by assumption) ?m hkept (fun _ h => nomatch h) (fun _ h => nomatch h) ?o hret
    (case m => k_mem)
    (case o => first
      | (skip; exact ⟨_, _, _, _, rfl⟩)))
  refine wpAny_call ?_
  k_dflt (refine' code_defE (AA := []) ?k1 ?k2 ?k3 ?k4 ?kAA ?k5 ?kA ?kF ?kK ?k6 ?k7 ?k8 ?k9 ?kB ?_ ?c2 ?c3 ?c4 ?c5; (case kA => exact rfl); (case kF => exact rfl); (case kK => assumption); (case k1 => k_asm); (case k2 => k_asm); (case k3 => k_asm); (case k4 => k_asm); (case kAA => exact (fun _ h => nomatch h)); (case k5 => k_asm); (case k6 => k_is); (case k7 => k_is); (case k8 => ktr_room); (case k9 => exact BindsTo.of_eq rfl); (case c5 => decide); (case kB => exact locs rfl); (case c2 => exact rfl); (case c3 => exact rfl); (case c4 => exact rfl); k_whole; intro g' L' h' F' N' B' X' T' hkept; (try dsimp only); (try k_lift B'); clear F B KX T X N; (try k_fold))
  k_steps
  all_goals (try dsimp +zetaDelta only)
  k_steps
  all_goals (exfalso; rename Over _ => hOver; exact not_over_small (by omega) hOver)
end Mine
end PartPcolour
section PartPorders
open PySem PySem.W PyProof.Rows
set_option maxHeartbeats 20000000
namespace Mine
theorem orders_call : ∀ (w : World) (mean : ExcName → Option Value) (mg mb : Str → Option Value) (news : List (Addr × Obj)) (p q : Int) (tx ty : Tok) (_ : 0 ≤ p) (_ : p < 8) (_ : 0 ≤ q) (_ : q < 8), CallsTo w mean mg mb 91 [.int p tx, .int q ty] news (RetV fun t => .int (ordersF p q) t) := by
  dsimp only [CallsTo, RetV, RetO]
  k_fill
  intro w mean mg mb news p q tx ty hx0 hx1 hy0 hy1 dp un gd cn cs a ccd cl outer A₀ base h₀ L m s Q E B F KX N T hkk hdp hun hret
  have X := KX
  w_top off
  k_with_none
  k_with "execs cons" => ((rename Fr _ _ _ _ => lF'); refine norm_st lF' s ?_; intro tkS; refine fr_let lF' ?_; intro mX F'; clear lF'; refine q_let ?_; intro qX; refine PySem.wpAny_execs_cons ?_)
  k_with "LeaveK" => k_dflt (
    refine' fin_int (by assumption) (by assumption) (fun _ h => nomatch h) ?o hret
    (case o => first
      | rfl))
  refine wpAny_call ?_
  k_dflt (refine' code_defE (AA := []) ?k1 ?k2 ?k3 ?k4 ?kAA ?k5 ?kA ?kF ?kK ?k6 ?k7 ?k8 ?k9 ?kB ?_ ?c2 ?c3 ?c4 ?c5; (case kA => exact rfl); (case kF => exact rfl); (case kK => assumption); (case k1 => k_asm); (case k2 => k_asm); (case k3 => k_asm); (case k4 => k_asm); (case kAA => exact (fun _ h => nomatch h)); (case k5 => k_asm); (case k6 => k_is); (case k7 => k_is); (case k8 => ktr_room); (case k9 => exact BindsTo.of_eq rfl); (case c5 => decide); (case kB => exact locs rfl); (case c2 => exact rfl); (case c3 => exact rfl); (case c4 => exact rfl); k_whole; intro g' L' h' F' N' B' X' T' hkept; (try dsimp only); (try k_lift B'); clear F B KX T X N; (try k_fold))
  k_steps
  all_goals (try dsimp +zetaDelta only)
  k_steps
end Mine
end PartPorders
section PartPfits
open PySem PySem.W PyProof.Rows
set_option maxHeartbeats 20000000
namespace Mine
theorem fits_call : ∀ (w : World) (mean : ExcName → Option Value) (mg mb : Str → Option Value) (news : List (Addr × Obj)) (hue spread : UInt64) (q : Addr) (t1 t2 t3 t4 t5 : Tok) (n : Nat) (k p r : Int) (_ : (q, ({ cls := .type "tuple", data := .seq #[.int k t3, .int p t4, .int r t5] n } : Obj)) ∈ news) (_ : 0 ≤ k ∧ k < 6) (_ : 0 ≤ p ∧ p < 4) (_ : 0 ≤ r ∧ r < 4), CallsTo w mean mg mb 84 [.float hue t1, .float spread t2, .ref q] news (RetV fun _ => .bool (fitsF hue spread k p r)) := by
  dsimp only [CallsTo, RetV, RetO]
  k_fill
  intro w mean mg mb news hue spread q t1 t2 t3 t4 t5 n k p r hq hk0 hp0 hr0 dp un gd cn cs a ccd cl outer A₀ base h₀ L m s Q E B F KX N T hkk hdp hun hret
  have X := KX
  w_top off
  k_with_none
  k_with "execs cons" => ((rename Fr _ _ _ _ => lF'); refine norm_st lF' s ?_; intro tkS; refine fr_let lF' ?_; intro mX F'; clear lF'; refine q_let ?_; intro qX; refine PySem.wpAny_execs_cons ?_)
  k_with "LeaveK" => k_dflt (
    refine' fin_bool (by assumption) (by assumption) ?A ?o hret
    (case A => intro p hp; rw [List.mem_singleton.mp hp]; k_mem)
    (case o => first
      | (simp only [fitsF]; rw [if_pos (by assumption), show (Float64.cmp hue 0 == some Ordering.eq) = true by assumption]; rfl)
      | (simp only [fitsF]; rw [if_pos (by assumption), show (Float64.cmp hue 0 == some Ordering.eq) = false by assumption]; rfl)
      | (simp only [fitsF]; rw [if_neg (by assumption), show (Float64.cmp (Float64.abs (Float64.sub (Float64.sub (Float64.mul spread 4625196817309499392) (Float64.ofInt p)) (Float64.ofInt r))) 4517329193108106637 == some .lt) = true by assumption]; rfl)
      | (simp only [fitsF]; rw [if_neg (by assumption), show (Float64.cmp (Float64.abs (Float64.sub (Float64.sub (Float64.mul spread 4625196817309499392) (Float64.ofInt p)) (Float64.ofInt r))) 4517329193108106637 == some .lt) = false by assumption]; rfl)))
  refine wpAny_call ?_
  k_dflt (refine' code_defE (AA := [(q, ({ cls := .type "tuple", data := .seq #[.int k t3, .int p t4, .int r t5] n } : Obj))]) ?k1 ?k2 ?k3 ?k4 ?kAA ?k5 ?kA ?kF ?kK ?k6 ?k7 ?k8 ?k9 ?kB ?_ ?c2 ?c3 ?c4 ?c5; (case kA => exact rfl); (case kF => exact rfl); (case kK => assumption); (case k1 => k_asm); (case k2 => k_asm); (case k3 => k_asm); (case k4 => k_asm); (case kAA => exact (fun _ h => (List.mem_singleton.mp h) ▸ hq)); (case k5 => k_asm); (case k6 => k_is); (case k7 => k_is); (case k8 => ktr_room); (case k9 => exact BindsTo.of_eq rfl); (case c5 => decide); (case kB => exact locs rfl); (case c2 => exact rfl); (case c3 => exact rfl); (case c4 => exact rfl); k_whole; intro g' L' h' F' N' B' X' T' hkept; (try dsimp only); (try k_lift B'); clear F B KX T X N; (try k_fold))
  k_steps
  all_goals (try dsimp +zetaDelta only)
  k_steps
  all_goals (exfalso; refine not_over_small (n := k * (p + r)) ?_ (by assumption))
  have h1 : k * (p + r) ≤ 5 * (p + r) := Int.mul_le_mul_of_nonneg_right (by omega) (by omega)
  have h2 : 0 ≤ k * (p + r) := Int.mul_nonneg (by omega) (by omega)
  omega
end Mine
end PartPfits
section PartPhsv
open PySem PySem.W PyProof.Rows
set_option maxHeartbeats 20000000
namespace Mine
theorem hsv_call : ∀ (w : World) (mean : ExcName → Option Value) (mg mb : Str → Option Value) (news : List (Addr × Obj)) (r g b : UInt64) (t1 t2 t3 : Tok) (_ : okHsv r g b = true), CallsTo w mean mg mb 42 [.float r t1, .float g t2, .float b t3] news (RetO (ftup3 (hsvF r g b).1 (hsvF r g b).2.1 (hsvF r g b).2.2)) := by
  dsimp only [CallsTo, RetV, RetO]
  k_fill
  intro w mean mg mb news r g b t1 t2 t3 hok dp un gd cn cs a ccd cl outer A₀ base h₀ L m s Q E B F KX N T hkk hdp hun hret
  have X := KX
  w_top off
  k_with_none
  k_with "execs cons" => ((rename Fr _ _ _ _ => lF'); refine norm_st lF' s ?_; intro tkS; refine fr_let lF' ?_; intro mX F'; clear lF'; refine q_let ?_; intro qX; refine PySem.wpAny_execs_cons ?_)
  k_with "call builtin:max" => k_dflt ((rename Fr _ _ _ _ => lF'); (rename News _ _ _ _ => lN'); (refine' max3F (by rfl) lF' lN' ?_); clear lF' lN'; intro hM tkM tM F' N'; (try k_fold))
  k_with "call builtin:min" => k_dflt ((rename Fr _ _ _ _ => lF'); (rename News _ _ _ _ => lN'); (refine' min3F (by rfl) lF' lN' ?_); clear lF' lN'; intro hM tkM tM F' N'; (try k_fold))
  k_with "LeaveK" => k_dflt (
    refine' fin_tup (by assumption) (by assumption) ?m hkept (fun _ h => nomatch h) (fun _ h => nomatch h) ?o hret
    (case m => k_mem)
    (case o => first
      | (rw [hsvF_0 (by assumption)]; exact ⟨_, _, _, _, rfl⟩)
      | (rw [hsvF_1 (by assumption), hueF_0 (by assumption)]; exact ⟨_, _, _, _, rfl⟩)
      | (rw [hsvF_1 (by assumption), hueF_1 (by assumption) (by assumption)]; exact ⟨_, _, _, _, rfl⟩)
      | (rw [hsvF_1 (by assumption), hueF_2 (by assumption) (by assumption)]; exact ⟨_, _, _, _, rfl⟩)))
  refine wpAny_call ?_
  k_dflt (refine' code_defE (AA := []) ?k1 ?k2 ?k3 ?k4 ?kAA ?k5 ?kA ?kF ?kK ?k6 ?k7 ?k8 ?k9 ?kB ?_ ?c2 ?c3 ?c4 ?c5; (case kA => exact rfl); (case kF => exact rfl); (case kK => assumption); (case k1 => k_asm); (case k2 => k_asm); (case k3 => k_asm); (case k4 => k_asm); (case kAA => exact (fun _ h => nomatch h)); (case k5 => k_asm); (case k6 => k_is); (case k7 => k_is); (case k8 => ktr_room); (case k9 => exact BindsTo.of_eq rfl); (case c5 => decide); (case kB => exact locs rfl); (case c2 => exact rfl); (case c3 => exact rfl); (case c4 => exact rfl); k_whole; intro g' L' h' F' N' B' X' T' hkept; (try dsimp only); (try k_lift B'); clear F B KX T X N; (try k_fold))
  k_steps
  all_goals (try dsimp +zetaDelta only)
  k_steps
  all_goals (exfalso; obtain ⟨z1, z2⟩ := okHsv_use hok (by assumption); first | exact no_zero (by assumption) z1 | exact no_zero (by assumption) z2)
end Mine
end PartPhsv
section PartPhls
open PySem PySem.W PyProof.Rows
set_option maxHeartbeats 20000000
namespace Mine
theorem hls_call : ∀ (w : World) (mean : ExcName → Option Value) (mg mb : Str → Option Value) (news : List (Addr × Obj)) (r g b : UInt64) (t1 t2 t3 : Tok) (_ : okHls r g b = true), CallsTo w mean mg mb 35 [.float r t1, .float g t2, .float b t3] news (RetO (ftup3 (hlsF r g b).1 (hlsF r g b).2.1 (hlsF r g b).2.2)) := by
  dsimp only [CallsTo, RetV, RetO]
  k_fill
  intro w mean mg mb news r g b t1 t2 t3 hok dp un gd cn cs a ccd cl outer A₀ base h₀ L m s Q E B F KX N T hkk hdp hun hret
  have X := KX
  w_top off
  k_with_none
  k_with "execs cons" => ((rename Fr _ _ _ _ => lF'); refine norm_st lF' s ?_; intro tkS; refine fr_let lF' ?_; intro mX F'; clear lF'; refine q_let ?_; intro qX; refine PySem.wpAny_execs_cons ?_)
  k_with "call builtin:max" => k_dflt ((rename Fr _ _ _ _ => lF'); (rename News _ _ _ _ => lN'); (refine' max3F (by rfl) lF' lN' ?_); clear lF' lN'; intro hM tkM tM F' N'; (try k_fold))
  k_with "call builtin:min" => k_dflt ((rename Fr _ _ _ _ => lF'); (rename News _ _ _ _ => lN'); (refine' min3F (by rfl) lF' lN' ?_); clear lF' lN'; intro hM tkM tM F' N'; (try k_fold))
  k_with "LeaveK" => k_dflt (
    refine' fin_tup (by assumption) (by assumption) ?m hkept (fun _ h => nomatch h) (fun _ h => nomatch h) ?o hret
    (case m => k_mem)
    (case o => first
      | (rw [hlsF_0 (by assumption)]; exact ⟨_, _, _, _, rfl⟩)
      | (rw [hlsF_1 (by assumption), satF_0 (by assumption), hueF_0 (by assumption)]; exact ⟨_, _, _, _, rfl⟩)
      | (rw [hlsF_1 (by assumption), satF_0 (by assumption), hueF_1 (by assumption) (by assumption)]; exact ⟨_, _, _, _, rfl⟩)
      | (rw [hlsF_1 (by assumption), satF_0 (by assumption), hueF_2 (by assumption) (by assumption)]; exact ⟨_, _, _, _, rfl⟩)
      | (rw [hlsF_1 (by assumption), satF_1 (by assumption), hueF_0 (by assumption)]; exact ⟨_, _, _, _, rfl⟩)
      | (rw [hlsF_1 (by assumption), satF_1 (by assumption), hueF_1 (by assumption) (by assumption)]; exact ⟨_, _, _, _, rfl⟩)
      | (rw [hlsF_1 (by assumption), satF_1 (by assumption), hueF_2 (by assumption) (by assumption)]; exact ⟨_, _, _, _, rfl⟩)))
  refine wpAny_call ?_
  k_dflt (refine' code_defE (AA := []) ?k1 ?k2 ?k3 ?k4 ?kAA ?k5 ?kA ?kF ?kK ?k6 ?k7 ?k8 ?k9 ?kB ?_ ?c2 ?c3 ?c4 ?c5; (case kA => exact rfl); (case kF => exact rfl); (case kK => assumption); (case k1 => k_asm); (case k2 => k_asm); (case k3 => k_asm); (case k4 => k_asm); (case kAA => exact (fun _ h => nomatch h)); (case k5 => k_asm); (case k6 => k_is); (case k7 => k_is); (case k8 => ktr_room); (case k9 => exact BindsTo.of_eq rfl); (case c5 => decide); (case kB => exact locs rfl); (case c2 => exact rfl); (case c3 => exact rfl); (case c4 => exact rfl); k_whole; intro g' L' h' F' N' B' X' T' hkept; (try dsimp only); (try k_lift B'); clear F B KX T X N; (try k_fold))
  k_steps
  all_goals (try dsimp +zetaDelta only)
  k_steps
  all_goals (exfalso; obtain ⟨z1, z2, z3⟩ := okHls_use hok (by assumption); first | exact no_zero (by assumption) z1 | exact no_zero (by assumption) z2 | exact no_zero (by assumption) z3)
end Mine
end PartPhls
section PartPhsv2rgb
open PySem PySem.W PyProof.Rows
set_option maxHeartbeats 20000000
namespace Mine
theorem hsv2rgb_call : ∀ (w : World) (mean : ExcName → Option Value) (mg mb : Str → Option Value) (news : List (Addr × Obj)) (h ss v : UInt64) (t1 t2 t3 : Tok) (_ : (Float64.cmp ss 0 == some Ordering.eq) = false) (_ : Float64.isNaN (Float64.mul h 4618441417868443648) = false) (_ : Float64.isInf (Float64.mul h 4618441417868443648) = false) (_ : (rgbI h).natAbs < 1000), CallsTo w mean mg mb 49 [.float h t1, .float ss t2, .float v t3] news (RetO (ftup3 (rgbF h ss v).1 (rgbF h ss v).2.1 (rgbF h ss v).2.2)) := by
  dsimp only [CallsTo, RetV, RetO]
  k_fill
  intro w mean mg mb news hh ss v t1 t2 t3 hs0 hnan hinf hI dp un gd cn cs a ccd cl outer A₀ base h₀ L m s Q E B F KX N T hkk hdp hun hret
  have X := KX
  w_top off
  k_with_none
  k_with "execs cons" => ((rename Fr _ _ _ _ => lF'); refine norm_st lF' s ?_; intro tkS; refine fr_let lF' ?_; intro mX F'; clear lF'; refine q_let ?_; intro qX; refine PySem.wpAny_execs_cons ?_)
  k_with "LeaveK" => k_dflt (
    refine' fin_tup (by assumption) (by assumption) ?m hkept (fun _ h => nomatch h) (fun _ h => nomatch h) ?o hret
    (case m => k_mem)
    (case o => first
      | (rw [rgbF_0 (by assumption)]; exact ⟨_, _, _, _, rfl⟩)
      | (rw [rgbF_1 (by assumption) (by assumption)]; exact ⟨_, _, _, _, rfl⟩)
      | (rw [rgbF_2 (by assumption) (by assumption) (by assumption)]; exact ⟨_, _, _, _, rfl⟩)
      | (rw [rgbF_3 (by assumption) (by assumption) (by assumption) (by assumption)]; exact ⟨_, _, _, _, rfl⟩)
      | (rw [rgbF_4 (by assumption) (by assumption) (by assumption) (by assumption) (by assumption)]; exact ⟨_, _, _, _, rfl⟩)
      | (rw [rgbF_5 (by assumption) (by assumption) (by assumption) (by assumption) (by assumption) (by assumption)]; exact ⟨_, _, _, _, rfl⟩)))
  refine wpAny_call ?_
  k_dflt (refine' code_defE (AA := []) ?k1 ?k2 ?k3 ?k4 ?kAA ?k5 ?kA ?kF ?kK ?k6 ?k7 ?k8 ?k9 ?kB ?_ ?c2 ?c3 ?c4 ?c5; (case kA => exact rfl); (case kF => exact rfl); (case kK => assumption); (case k1 => k_asm); (case k2 => k_asm); (case k3 => k_asm); (case k4 => k_asm); (case kAA => exact (fun _ h => nomatch h)); (case k5 => k_asm); (case k6 => k_is); (case k7 => k_is); (case k8 => ktr_room); (case k9 => exact BindsTo.of_eq rfl); (case c5 => decide); (case kB => exact locs rfl); (case c2 => exact rfl); (case c3 => exact rfl); (case c4 => exact rfl); k_whole; intro g' L' h' F' N' B' X' T' hkept; (try dsimp only); (try k_lift B'); clear F B KX T X N; (try k_fold))
  k_steps
  all_goals (try dsimp +zetaDelta only)
  k_steps
  all_goals (exfalso)
  all_goals first | (have fb := fmod6_bound (Flt.toInt Float64.truncOf (Float64.mul hh 4618441417868443648)); omega) | exact no_zero (by assumption) hs0 | exact no_zero (by assumption) hnan | exact no_zero (by assumption) hinf | exact not_over_small hI (by assumption) | skip
end Mine
end PartPhsv2rgb
section PartPlev
open PySem PySem.W PyProof.Rows
set_option maxHeartbeats 20000000
namespace Mine
theorem lev_call : ∀ (w : World) (mean : ExcName → Option Value) (mg mb : Str → Option Value) (news : List (Addr × Obj)) (x y : PySem.Str) (t1 t2 t3 : Tok) (mc : Int) (_ : x.length ≤ 6) (_ : y.length ≤ 6), CallsTo2 w mean mg mb 28 [.str x t1, .str y t2, .int mc t3] news (RetV fun t => .int (levF x y mc) t) := by
  dsimp only [CallsTo2, RetV, RetO]
  k_fill
  intro w mean mg mb news x y t1 t2 t3 mc hx hy dp un gd cn cs a ccd cl outer A₀ base h₀ L m s Q E B F KX N T hkk hdp hun hret
  have X := KX
  w_top off
  k_with_none
  k_with "execs cons" => ((rename Fr _ _ _ _ => lF'); refine norm_st lF' s ?_; intro tkS; refine fr_let lF' ?_; intro mX F'; clear lF'; refine q_let ?_; intro qX; refine PySem.wpAny_execs_cons ?_)
  k_with "exec While BoolOp cons nil" => k_dflt (
    (rename Fr _ _ _ _ => lF'); (rename News _ _ _ _ => lN')
    refine' ksw_whileJ (σ := Int × Nat) (fun _ => []) (fun c => [(PySem.Str.ofString "post", .int c.1 c.2)]) [PySem.Str.ofString "post"] (fun d => d.1 ≤ 0 ∧ -d.1 ≤ (Txt.slice x (some c.1) none).length ∧ -d.1 ≤ (Txt.slice y (some c.1) none).length ∧ comN (sgn (Txt.slice x (some c.1) none)).reverse (sgn (Txt.slice y (some c.1) none)).reverse = (-d.1).toNat + comN ((sgn (Txt.slice x (some c.1) none)).reverse.drop (-d.1).toNat) ((sgn (Txt.slice y (some c.1) none)).reverse.drop (-d.1).toNat)) (fun d => (-d.1).toNat = comN (sgn (Txt.slice x (some c.1) none)).reverse (sgn (Txt.slice y (some c.1) none)).reverse) (fun d => (Txt.slice x (some c.1) none).length - (-d.1).toNat) (0, _) lF' lN' ?hkA ?kpA ?turnA ?doneA ?hEA
    (case hEA => passes_own)
    (case hkA => intro p hp; rw [List.mem_singleton.mp hp]; rfl)
    (case kpA => exact ⟨Int.le_refl 0, by simp, by simp, by simp⟩)
    clear lF' lN'
    intro d u2 h tk hP F' N'
    obtain ⟨hR0, hR1, hR2, hR3⟩ := hP
    have hcl1 := cutEnd_len _ hR0 hR1
    have hcl2 := cutEnd_len _ hR0 hR2
    have hq5 := post_hi (n := (Txt.slice x (some c.1) none).length) hR0
    have hq6 := post_hi (n := (Txt.slice y (some c.1) none).length) hR0
    have hq7 := post_hi63 hR0
    have hq8 := post_lo63 hR1 hs6x
    have hc6x := cut6 hcl1 hR0 hs6x
    have hc6y := cut6 hcl2 hR0 hs6y
    rotate_left
    clear lF' lN'
    intro d u2 h tk hP hD2 F' N'
    obtain ⟨hR0, hR1, hR2, hR3⟩ := hP
    have hcl1 := cutEnd_len _ hR0 hR1
    have hcl2 := cutEnd_len _ hR0 hR2
    have hq5 := post_hi (n := (Txt.slice x (some c.1) none).length) hR0
    have hq6 := post_hi (n := (Txt.slice y (some c.1) none).length) hR0
    have hq7 := post_hi63 hR0
    have hq8 := post_lo63 hR1 hs6x
    have hc6x := cut6 hcl1 hR0 hs6x
    have hc6y := cut6 hcl2 hR0 hs6y
    have hLev := levF_cut (mc := mc) (show (x == y) = false by with_reducible assumption) hP0 hP1 hP2 hD hR0 hR1 hR2 hD2
    rotate_right
    all_goals (try k_fold))
  k_with "exec While BoolOp cons nil" => k_dflt (
    (rename Fr _ _ _ _ => lF'); (rename News _ _ _ _ => lN')
    refine' ksw_whileJ (σ := Int × Nat) (fun _ => []) (fun c => [(PySem.Str.ofString "pre", .int c.1 c.2)]) [PySem.Str.ofString "pre"] (fun c => 0 ≤ c.1 ∧ c.1 ≤ x.length ∧ c.1 ≤ y.length ∧ comN (sgn x) (sgn y) = c.1.toNat + comN ((sgn x).drop c.1.toNat) ((sgn y).drop c.1.toNat)) (fun c => c.1.toNat = comN (sgn x) (sgn y)) (fun c => x.length - c.1.toNat) (0, _) lF' lN' ?hkB ?kpB ?turnB ?doneB ?hEB
    (case hEB => passes_own)
    (case hkB => intro p hp; rw [List.mem_singleton.mp hp]; rfl)
    (case kpB => exact ⟨Int.le_refl 0, by simp, by simp, by simp⟩)
    clear lF' lN'
    intro c u h tk hP F' N'
    obtain ⟨hP0, hP1, hP2, hP3⟩ := hP
    have hs6x := slice6 hx hP0 hP1
    have hs6y := slice6 hy hP0 hP2
    have hq1 := neg_le0 (n := x.length) hP0
    have hq2 := neg_le0 (n := y.length) hP0
    have hq3 := c_hi63 hP1 hx
    have hq4 := c_lo63 hP0
    rotate_left
    clear lF' lN'
    intro c u h tk hP hD F' N'
    obtain ⟨hP0, hP1, hP2, hP3⟩ := hP
    have hs6x := slice6 hx hP0 hP1
    have hs6y := slice6 hy hP0 hP2
    have hq1 := neg_le0 (n := x.length) hP0
    have hq2 := neg_le0 (n := y.length) hP0
    have hq3 := c_hi63 hP1 hx
    have hq4 := c_lo63 hP0
    rotate_right
    all_goals (try k_fold))
  k_with "KswEnd" => k_dflt (
    refine' ksw_end (d.1 - 1, _) (by assumption) (by assumption) (fun _ h => nomatch h) trivial ?hkC ?hrC ?hpC ?hmC
    (case hkC =>
      intro p hp; rw [List.mem_singleton.mp hp]; rfl)
    (case hrC =>
      intro z h2 h3; have hz : z ≠ PySem.Str.ofString "post" := h2 _ (List.Mem.head _); simp +zetaDelta [kstB, hz])
    (case hpC =>
      exact post_step hR0 (cut_pos hcl1 (by with_reducible assumption) hR1) (cut_pos hcl2 (by with_reducible assumption) hR2) (by with_reducible assumption) hR3)
    (case hmC =>
      exact post_less hR0 (cut_pos hcl1 (by with_reducible assumption) hR1)))
  k_with "KswEnd" => k_dflt (
    refine' ksw_end (c.1 + 1, _) (by assumption) (by assumption) (fun _ h => nomatch h) trivial ?hkD ?hrD ?hpD ?hmD
    (case hkD =>
      intro p hp; rw [List.mem_singleton.mp hp]; rfl)
    (case hrD =>
      intro z h2 h3; have hz : z ≠ PySem.Str.ofString "pre" := h2 _ (List.Mem.head _); simp +zetaDelta [kstB, hz])
    (case hpD =>
      exact pre_step hP0 (slice_in (k := ((Txt.slice x (some c.1) none).length : Int)) (by with_reducible assumption) (by with_reducible assumption)) (slice_in (k := ((Txt.slice y (some c.1) none).length : Int)) (by with_reducible assumption) (by with_reducible assumption)) (by with_reducible assumption) hP3)
    (case hmD =>
      exact pre_less hP0 (slice_in (k := ((Txt.slice x (some c.1) none).length : Int)) (by with_reducible assumption) (by with_reducible assumption))))
  k_with "WExit" => k_dflt (
    refine' WExit.intro (by assumption) (by assumption) ?_
    · show (-d.1).toNat = comN (sgn (Txt.slice x (some c.1) none)).reverse (sgn (Txt.slice y (some c.1) none)).reverse
      first
      | exact post_ne hR0 (cut_pos hcl1 (by with_reducible assumption) hR1) (cut_pos hcl2 (by with_reducible assumption) hR2) (by with_reducible assumption) hR3
      | exact post_x hR0 hcl1 (by with_reducible assumption) hR3
      | exact post_y hR0 hcl2 (by with_reducible assumption) hR3)
  k_with "WExit" => k_dflt (
    refine' WExit.intro (by assumption) (by assumption) ?_
    · show c.1.toNat = comN (sgn x) (sgn y)
      first
      | exact pre_ne hP0 (slice_in (k := ((Txt.slice x (some c.1) none).length : Int)) (by with_reducible assumption) (by with_reducible assumption)) (slice_in (k := ((Txt.slice y (some c.1) none).length : Int)) (by with_reducible assumption) (by with_reducible assumption)) (by with_reducible assumption) hP3
      | exact pre_x hP0 (slice_out (k := ((Txt.slice x (some c.1) none).length : Int)) (by with_reducible assumption) hP0 hP1 (by with_reducible assumption)) hP3
      | exact pre_y hP0 (slice_out (k := ((Txt.slice y (some c.1) none).length : Int)) (by with_reducible assumption) hP0 hP2 (by with_reducible assumption)) hP3)
  k_with "subscriptTail Name Slice str ref" => k_dflt (
    (with_reducible show wpAny _ _ (subscriptTail _ (Expr.Slice none (some (Expr.BoolOp _ _ _)) none _) _ _) _ _ _)
    (rename Fr _ _ _ _ => lF'); (rename News _ _ _ _ => lN')
    first
    | ((with_reducible refine slice_strN_nn_len (s := ⟨_, _, _, _, _⟩) lF' lN' ?_); intro hh tt kk F' N' hlen)
    | ((with_reducible refine slice_strN_ns_len (s := ⟨_, _, _, _, _⟩) lF' lN' ?_); intro hh tt kk F' N' hlen))
  k_with "eval Subscript Name Slice" => k_dflt (
    (with_reducible show wpAny _ _ (eval (Expr.Subscript _ (Expr.Slice none (some (Expr.BoolOp _ _ _)) none _) _) _) _ _ _)
    (fail_if_success (with_reducible show wpAny _ _ _ (EJoin _ _ _ _) _ _))
    (rename Fr _ _ _ _ => lF'); (rename News _ _ _ _ => lN')
    first
    | ((with_reducible show wpAny _ _ (eval (Expr.Subscript (Expr.Name (PySem.Str.ofString "a") _) _ _) _) _ _ _); (refine' eJoinV (h₀ := g') (L := L') lF' lN' (fun t => .str (cutEnd (Txt.slice x (some c.1) none) d.1) t) ?_ ?_))
    | ((with_reducible show wpAny _ _ (eval (Expr.Subscript (Expr.Name (PySem.Str.ofString "b") _) _ _) _) _ _ _); (refine' eJoinV (h₀ := g') (L := L') lF' lN' (fun t => .str (cutEnd (Txt.slice y (some c.1) none) d.1) t) ?_ ?_))
    rotate_left
    clear lF' lN'
    intro tJ hJ tkJ F' N'
    rotate_right)
  k_with "EJoin" => k_dflt (
    refine' EJoin.intro0 (by with_reducible assumption) ⟨rfl, rfl, ?_⟩
    first
      | ((have hd0 : d.1 = 0 := by with_reducible assumption); with_reducible exact ⟨_, congrArg (fun z => Value.str z _) (cutEnd_0 _ hd0).symm⟩)
      | ((have hd0 : d.1 ≠ 0 := by with_reducible assumption); with_reducible exact ⟨_, congrArg (fun z => Value.str z _) (cutEnd_1 _ hd0).symm⟩)
      | ((have hGuard := hLev)
         refine' ⟨cutEnd (Txt.slice x (some c.1) none) d.1, cutEnd (Txt.slice y (some c.1) none) d.1, _, _, ?hmE, ?hpE⟩
         (case hmE =>
           funext z
           by_cases ha : z = PySem.Str.ofString "a"
           · subst ha; with_unfolding_all rfl
           · by_cases hb : z = PySem.Str.ofString "b"
             · subst hb; with_unfolding_all rfl
             · first | exact ((if_neg ha).trans (if_neg hb)).symm | exact ((if_neg hb).trans (if_neg ha)).trans ((if_neg ha).trans (if_neg hb)).symm | exact ((if_neg ha).trans (if_neg hb)).trans ((if_neg ha).trans (if_neg hb)).symm | simp +zetaDelta only [setAB, ha, hb, if_false])
         (case hpE => exact ⟨by omega, by omega, by omega, levF_keep hLev (by with_reducible assumption) (by with_reducible assumption) (by omega)⟩))
      | ((have hGuard := hLev)
         refine' ⟨cutEnd (Txt.slice y (some c.1) none) d.1, cutEnd (Txt.slice x (some c.1) none) d.1, _, _, ?hmF, ?hpF⟩
         (case hmF =>
           funext z
           by_cases ha : z = PySem.Str.ofString "a"
           · subst ha; with_unfolding_all rfl
           · by_cases hb : z = PySem.Str.ofString "b"
             · subst hb; with_unfolding_all rfl
             · first | exact ((if_neg ha).trans (if_neg hb)).symm | exact ((if_neg hb).trans (if_neg ha)).trans ((if_neg ha).trans (if_neg hb)).symm | exact ((if_neg ha).trans (if_neg hb)).trans ((if_neg ha).trans (if_neg hb)).symm | simp +zetaDelta only [setAB, ha, hb, if_false])
         (case hpF => exact ⟨by omega, by omega, by omega, levF_swap hLev (by with_reducible assumption) (by with_reducible assumption) (by omega)⟩)))
  k_with "exec If" => k_dflt (
    (with_reducible show wpAny _ _ (exec (Stmt.If _ [Stmt.Assign [Expr.Tuple _ _ _] _ _] [] _) _) _ _ _)
    (fail_if_success (with_reducible show wpAny _ _ _ (EJoin _ _ _ _) _ _))
    (rename Fr _ _ _ _ => lF'); (rename News _ _ _ _ => lN')
    (refine' eJoinAB (h₀ := g') (L := L') lF' lN' (fun A B => A.length ≤ B.length ∧ 1 ≤ A.length ∧ B.length ≤ 6 ∧ levF x y mc = levH (sgn A) (sgn B) mc) ?_ ?_)
    rotate_left
    clear lF' lN'
    intro A B ta tb hJ tkJ hPP F' N'
    obtain ⟨hAB, hA1, hB6, hLH⟩ := hPP
    have hA6 := Nat.le_trans hAB hB6
    clear hcl1 hcl2 hLev hD2 hR0 hR1 hR2 hR3 hD hP0 hP1 hP2 hP3
    rotate_right
    all_goals (try k_fold))
  k_with "pyIter ref" => k_dflt (
    (with_reducible show wpAny _ _ (pyIter _) (fun it s₂ => LoopAtV _ _ _ _ _ (PySem.Str.ofString "bindex") _ _ _ it s₂) _ _)
    (rename IsRange _ _ _ _ _ _ _ _ => lR'); (rename Fr _ _ _ _ => lF'); (rename News _ _ _ _ => lN')
    refine' kst_range (σ := List Value × List Int × Int × Nat) (n := B.length) (fun q => [(ra, PySem.W.listOf (List.toArray q.1) e0)]) (fun q => [(PySem.Str.ofString "result", .int q.2.2.1 q.2.2.2)]) (fun q => IntsAre q.1 q.2.1 ∧ q.2.1.length = A.length) [PySem.Str.ofString "bchar", PySem.Str.ofString "distance", PySem.Str.ofString "minimum", PySem.Str.ofString "index", PySem.Str.ofString "substitute", PySem.Str.ofString "insert_delete"] (fun pre q => OutP A B mc pre.length q.2.1 q.2.2.1) (vs, row0 A.length, 0, _) (by rfl) lR' (range1 hB6).1 (range1 hB6).2 lF' lN' ⟨hiR, by simp [row0]⟩ ?hkO (outP_0 A B mc) ?_ ?_
    (case hkO => intro p hp; rw [List.mem_singleton.mp hp]; rfl)
    rotate_left
    clear lR' lF' lN'
    intro q u3 h tk hFa hPE F' N'
    rw [rangeKs_length] at hPE
    have hRes := outP_done hPE
    obtain ⟨hIA, hIL⟩ := hFa
    rotate_right
    clear lR' lF' lN'
    intro cO preO kO tO u3 h tk ownO hkO hltO hoffO hFa hPO F' N'
    obtain ⟨hIA, hIL⟩ := hFa
    simp only [List.cons_append, List.nil_append] at N'
    obtain rfl : kO = (preO.length : Int) := hkO.trans (Int.zero_add _)
    have hO6 := Nat.le_trans (Nat.le_of_lt hltO) hB6
    have hO7 : (preO.length : Int) < B.length := Int.ofNat_lt.mpr hltO
    have hO8 := neg_le0 (n := B.length) (Int.natCast_nonneg preO.length)
    have hO9 := c_lo63 (Int.natCast_nonneg preO.length)
    all_goals (try k_fold))
  k_with "pyIter ref" => k_dflt (
    (with_reducible show wpAny _ _ (pyIter _) (fun it s₂ => LoopAtV _ _ _ _ _ (PySem.Str.ofString "index") _ _ _ it s₂) _ _)
    (rename IsRange _ _ _ _ _ _ _ _ => lR'); (rename Fr _ _ _ _ => lF'); (rename News _ _ _ _ => lN')
    refine' kst_range (σ := (List Value × List Int) × (Int × Nat) × (Int × Nat) × (Int × Nat)) (n := A.length) (fun q => (ra, PySem.W.listOf (List.toArray q.1.1) e0) :: ownO) (fun q => [(PySem.Str.ofString "distance", .int q.2.1.1 q.2.1.2), (PySem.Str.ofString "result", .int q.2.2.1.1 q.2.2.1.2), (PySem.Str.ofString "minimum", .int q.2.2.2.1 q.2.2.2.2)]) (fun q => IntsAre q.1.1 q.1.2 ∧ q.1.2.length = A.length) [PySem.Str.ofString "substitute", PySem.Str.ofString "insert_delete"]
      (fun pre q => InP A (bchar B preO.length) ((preO.length : Int) * 2, (preO.length : Int) * 2, 9223372036854775807, cO.2.1) pre.length (q.2.1.1, q.2.2.1.1, q.2.2.2.1, q.1.2)) ((cO.1, cO.2.1), ((preO.length : Int) * 2, _), ((preO.length : Int) * 2, _), (9223372036854775807, _)) (by rfl) lR' (range1 (show A.length ≤ 6 by omega)).1 (range1 (show A.length ≤ 6 by omega)).2 lF' lN' ⟨hIA, hIL⟩ ?hkI (inP_0 A _ _) ?_ ?_
    (case hkI => refine List.forall_mem_cons.mpr ⟨by with_unfolding_all rfl, List.forall_mem_cons.mpr ⟨by with_unfolding_all rfl, List.forall_mem_cons.mpr ⟨by with_unfolding_all rfl, List.forall_mem_nil _⟩⟩⟩)
    rotate_left
    clear lR' lF' lN'
    intro q u4 h tk hFa hPE F' N'
    rw [rangeKs_length] at hPE
    have hst := inP_done hPE
    have hOT := outP_turn hPO hltO hst
    obtain ⟨hIAq, hILq⟩ := hFa
    rotate_right
    clear lR' lF' lN'
    intro cI preI kI tI u4 h tk ownI hkI hltI hoffI hFa hPI F' N'
    obtain ⟨hIAi, hILi⟩ := hFa
    simp only [List.cons_append, List.nil_append] at N'
    obtain rfl : kI = (preI.length : Int) := hkI.trans (Int.zero_add _)
    have hI6 := Nat.le_trans (Nat.le_of_lt hltI) hA6
    have hI7 : (preI.length : Int) < A.length := Int.ofNat_lt.mpr hltI
    have hI8 := neg_le0 (n := A.length) (Int.natCast_nonneg preI.length)
    have hI9 := c_lo63 (Int.natCast_nonneg preI.length)
    all_goals (try k_fold))
  k_with "call ref" => k_dflt (
    (rename Fr _ _ _ _ => lF'); (rename News _ _ _ _ => lN')
    refine' subst_call w mean mg mb _ _ _ _ _ (by omega) (by omega) _ _ _ _ _ _ _ _ _ _ _ _ _ _ _ _ _ B' lF' X' lN' T' (by rfl) (le_room (k := 4) hdp rfl) (le_room (k := 27) hun rfl) ?_
    clear lF' lN'
    intro tS hS tkS F' N')
  k_with "setItem" => k_dflt (
    (rename Fr _ _ _ _ => lF'); (rename News _ _ _ _ => lN')
    refine' ksa_set lF' lN' (Upd.head ?hU) hIAi (by omega) (by omega) (by omega) ?_
    (case hU =>
      intro p hp
      rcases List.mem_append.mp hp with h | h
      · exact hoffO p h _ (List.Mem.head _)
      · exact hoffI p h _ (List.Mem.head _))
    clear lF' lN'
    intro hS F' N' hIs hls hss)
  k_with "InvEndN" => k_dflt (
    have hMin : (if cI.2.1.1 + subF (Txt.item B (preO.length : Int)) (Txt.item A (preI.length : Int)) < (if cI.1.2.getD (preI.length : Int).toNat 0 < cI.2.2.1.1 then cI.1.2.getD (preI.length : Int).toNat 0 else cI.2.2.1.1) + 2 then cI.2.1.1 + subF (Txt.item B (preO.length : Int)) (Txt.item A (preI.length : Int)) else (if cI.1.2.getD (preI.length : Int).toNat 0 < cI.2.2.1.1 then cI.1.2.getD (preI.length : Int).toNat 0 else cI.2.2.1.1) + 2) < cI.2.2.2.1 := by with_reducible assumption
    have hsub := sub_item (A := A) (B := B) (i := (preI.length : Int)) (j := (preO.length : Int)) (by omega) (by omega) (by omega) (by omega)
    refine' kst_end ((cI.1.1.set (preI.length : Int).toNat (.int (if cI.2.1.1 + subF (Txt.item B (preO.length : Int)) (Txt.item A (preI.length : Int)) < (if cI.1.2.getD (preI.length : Int).toNat 0 < cI.2.2.1.1 then cI.1.2.getD (preI.length : Int).toNat 0 else cI.2.2.1.1) + 2 then cI.2.1.1 + subF (Txt.item B (preO.length : Int)) (Txt.item A (preI.length : Int)) else (if cI.1.2.getD (preI.length : Int).toNat 0 < cI.2.2.1.1 then cI.1.2.getD (preI.length : Int).toNat 0 else cI.2.2.1.1) + 2) _), cI.1.2.set (preI.length : Int).toNat (if cI.2.1.1 + subF (Txt.item B (preO.length : Int)) (Txt.item A (preI.length : Int)) < (if cI.1.2.getD (preI.length : Int).toNat 0 < cI.2.2.1.1 then cI.1.2.getD (preI.length : Int).toNat 0 else cI.2.2.1.1) + 2 then cI.2.1.1 + subF (Txt.item B (preO.length : Int)) (Txt.item A (preI.length : Int)) else (if cI.1.2.getD (preI.length : Int).toNat 0 < cI.2.2.1.1 then cI.1.2.getD (preI.length : Int).toNat 0 else cI.2.2.1.1) + 2)), (cI.1.2.getD (preI.length : Int).toNat 0, _), ((if cI.2.1.1 + subF (Txt.item B (preO.length : Int)) (Txt.item A (preI.length : Int)) < (if cI.1.2.getD (preI.length : Int).toNat 0 < cI.2.2.1.1 then cI.1.2.getD (preI.length : Int).toNat 0 else cI.2.2.1.1) + 2 then cI.2.1.1 + subF (Txt.item B (preO.length : Int)) (Txt.item A (preI.length : Int)) else (if cI.1.2.getD (preI.length : Int).toNat 0 < cI.2.2.1.1 then cI.1.2.getD (preI.length : Int).toNat 0 else cI.2.2.1.1) + 2), _), ((if cI.2.1.1 + subF (Txt.item B (preO.length : Int)) (Txt.item A (preI.length : Int)) < (if cI.1.2.getD (preI.length : Int).toNat 0 < cI.2.2.1.1 then cI.1.2.getD (preI.length : Int).toNat 0 else cI.2.2.1.1) + 2 then cI.2.1.1 + subF (Txt.item B (preO.length : Int)) (Txt.item A (preI.length : Int)) else (if cI.1.2.getD (preI.length : Int).toNat 0 < cI.2.2.1.1 then cI.1.2.getD (preI.length : Int).toNat 0 else cI.2.2.1.1) + 2), _)) (by assumption) (by assumption) ?hnI1 ?hoI1 (by rfl) ?hfI1 ?hkI21 ?hrI1 ?hpI1
    (case hkI21 => refine List.forall_mem_cons.mpr ⟨by with_unfolding_all rfl, List.forall_mem_cons.mpr ⟨by with_unfolding_all rfl, List.forall_mem_cons.mpr ⟨by with_unfolding_all rfl, List.forall_mem_nil _⟩⟩⟩)
    (case hnI1 => refine List.forall_mem_cons.mpr ⟨by k_mem, ?_⟩; intro p hp; exact List.mem_cons_of_mem _ (List.mem_append_left _ hp))
    (case hoI1 => intro p hp; exact List.mem_cons_of_mem _ (List.mem_append_right _ hp))
    (case hfI1 => exact ⟨by assumption, by rw [List.length_set]; exact hILi⟩)
    (case hrI1 =>
      intro z h1 h2 h3
      simp only [List.forall_mem_cons, List.not_mem_nil, false_implies, implies_true, and_true, ne_eq] at h2
      simp only [List.contains_cons, List.contains_nil, Bool.or_false, Bool.or_eq_false_iff, beq_eq_false_iff_ne, ne_eq] at h3
      simp +zetaDelta [h1, h2, h3, kstB])
    (case hpI1 =>
      rw [List.length_append]
      refine inP_turn hPI hltI ?_
      dsimp only [innerStep]
      rw [Int.toNat_natCast, Int.toNat_natCast] at hsub
      rw [← hsub]
      simp only [Int.toNat_natCast] at hMin ⊢
      rw [if_pos hMin]))
  k_with "InvEndN" => k_dflt (
    have hMin : ¬ (if cI.2.1.1 + subF (Txt.item B (preO.length : Int)) (Txt.item A (preI.length : Int)) < (if cI.1.2.getD (preI.length : Int).toNat 0 < cI.2.2.1.1 then cI.1.2.getD (preI.length : Int).toNat 0 else cI.2.2.1.1) + 2 then cI.2.1.1 + subF (Txt.item B (preO.length : Int)) (Txt.item A (preI.length : Int)) else (if cI.1.2.getD (preI.length : Int).toNat 0 < cI.2.2.1.1 then cI.1.2.getD (preI.length : Int).toNat 0 else cI.2.2.1.1) + 2) < cI.2.2.2.1 := by with_reducible assumption
    have hsub := sub_item (A := A) (B := B) (i := (preI.length : Int)) (j := (preO.length : Int)) (by omega) (by omega) (by omega) (by omega)
    refine' kst_end ((cI.1.1.set (preI.length : Int).toNat (.int (if cI.2.1.1 + subF (Txt.item B (preO.length : Int)) (Txt.item A (preI.length : Int)) < (if cI.1.2.getD (preI.length : Int).toNat 0 < cI.2.2.1.1 then cI.1.2.getD (preI.length : Int).toNat 0 else cI.2.2.1.1) + 2 then cI.2.1.1 + subF (Txt.item B (preO.length : Int)) (Txt.item A (preI.length : Int)) else (if cI.1.2.getD (preI.length : Int).toNat 0 < cI.2.2.1.1 then cI.1.2.getD (preI.length : Int).toNat 0 else cI.2.2.1.1) + 2) _), cI.1.2.set (preI.length : Int).toNat (if cI.2.1.1 + subF (Txt.item B (preO.length : Int)) (Txt.item A (preI.length : Int)) < (if cI.1.2.getD (preI.length : Int).toNat 0 < cI.2.2.1.1 then cI.1.2.getD (preI.length : Int).toNat 0 else cI.2.2.1.1) + 2 then cI.2.1.1 + subF (Txt.item B (preO.length : Int)) (Txt.item A (preI.length : Int)) else (if cI.1.2.getD (preI.length : Int).toNat 0 < cI.2.2.1.1 then cI.1.2.getD (preI.length : Int).toNat 0 else cI.2.2.1.1) + 2)), (cI.1.2.getD (preI.length : Int).toNat 0, _), ((if cI.2.1.1 + subF (Txt.item B (preO.length : Int)) (Txt.item A (preI.length : Int)) < (if cI.1.2.getD (preI.length : Int).toNat 0 < cI.2.2.1.1 then cI.1.2.getD (preI.length : Int).toNat 0 else cI.2.2.1.1) + 2 then cI.2.1.1 + subF (Txt.item B (preO.length : Int)) (Txt.item A (preI.length : Int)) else (if cI.1.2.getD (preI.length : Int).toNat 0 < cI.2.2.1.1 then cI.1.2.getD (preI.length : Int).toNat 0 else cI.2.2.1.1) + 2), _), (cI.2.2.2.1, _)) (by assumption) (by assumption) ?hnI2 ?hoI2 (by rfl) ?hfI2 ?hkI22 ?hrI2 ?hpI2
    (case hkI22 => refine List.forall_mem_cons.mpr ⟨by with_unfolding_all rfl, List.forall_mem_cons.mpr ⟨by with_unfolding_all rfl, List.forall_mem_cons.mpr ⟨by with_unfolding_all rfl, List.forall_mem_nil _⟩⟩⟩)
    (case hnI2 => refine List.forall_mem_cons.mpr ⟨by k_mem, ?_⟩; intro p hp; exact List.mem_cons_of_mem _ (List.mem_append_left _ hp))
    (case hoI2 => intro p hp; exact List.mem_cons_of_mem _ (List.mem_append_right _ hp))
    (case hfI2 => exact ⟨by assumption, by rw [List.length_set]; exact hILi⟩)
    (case hrI2 =>
      intro z h1 h2 h3
      simp only [List.forall_mem_cons, List.not_mem_nil, false_implies, implies_true, and_true, ne_eq] at h2
      simp only [List.contains_cons, List.contains_nil, Bool.or_false, Bool.or_eq_false_iff, beq_eq_false_iff_ne, ne_eq] at h3
      simp +zetaDelta [h1, h2, h3, kstB])
    (case hpI2 =>
      rw [List.length_append]
      refine inP_turn hPI hltI ?_
      dsimp only [innerStep]
      rw [Int.toNat_natCast, Int.toNat_natCast] at hsub
      rw [← hsub]
      simp only [Int.toNat_natCast] at hMin ⊢
      rw [if_neg hMin]))
  k_with "InvEndN" => k_dflt (
    have hGuard := hst
    refine' kst_end (q.1.1, q.1.2, q.2.2.1.1, q.2.2.1.2) (by assumption) (by assumption) ?hnP ?hoP (by rfl) ⟨hIAq, hILq⟩ ?hkP ?hrP ?hpP
    (case hkP => intro p hp; rw [List.mem_singleton.mp hp]; with_unfolding_all rfl)
    (case hnP => intro p hp; rw [List.mem_singleton.mp hp]; k_mem)
    (case hoP => intro p hp; exact List.Mem.tail _ hp)
    (case hrP =>
      intro z h1 h2 h3
      simp only [List.forall_mem_cons, List.not_mem_nil, false_implies, implies_true, and_true, ne_eq] at h2
      simp only [List.contains_cons, List.contains_nil, Bool.or_false, Bool.or_eq_false_iff, beq_eq_false_iff_ne, ne_eq] at h3
      simp +zetaDelta [h1, h2, h3, kstB])
    (case hpP =>
      rw [List.length_append]
      exact hOT.2 (by with_reducible assumption)))
  k_with "LeaveK" => k_dflt (
    refine' fin_int (by assumption) (by assumption) (fun _ h => nomatch h) ?_ hret
    first
    | exact (levF_0 (by with_reducible assumption)).symm
    | exact levF_empty hLev (Or.inl (by with_reducible assumption))
    | exact levF_empty hLev (Or.inr (by with_reducible assumption))
    | exact hRes.trans hLO.symm
    | exact (hOT.1 (by with_reducible assumption)).trans hLO.symm
    | exact levF_far hLH (by with_reducible assumption))
  k_with "call type:list" => k_dflt (
    (rename Fr _ _ _ _ => lF'); (rename News _ _ _ _ => lN'); (rename IsRange _ _ _ _ _ _ _ _ => lR')
    (refine' list_rangeK (n := A.length) (by rfl) lF' lN' lR' (range2 hA1 (by omega)).1 (range2 hA1 (by omega)).2 (by omega) ?_)
    clear lF' lN' lR'
    intro ra vs e0 hL tkL F' N' hraL hiR
    have hLO := levF_near hLH (by with_reducible assumption)
    (try k_fold))
  refine wpAny_call ?_
  k_dflt (refine' code_defE (AA := []) ?k1 ?k2 ?k3 ?k4 ?kAA ?k5 ?kA ?kF ?kK ?k6 ?k7 ?k8 ?k9 ?kB ?_ ?c2 ?c3 ?c4 ?c5; (case kA => exact rfl); (case kF => exact rfl); (case kK => assumption); (case k1 => k_asm); (case k2 => k_asm); (case k3 => k_asm); (case k4 => k_asm); (case kAA => exact (fun _ h => nomatch h)); (case k5 => k_asm); (case k6 => k_is); (case k7 => k_is); (case k8 => ktr_room); (case k9 => exact BindsTo.of_eq rfl); (case c5 => decide); (case kB => exact locs rfl); (case c2 => exact rfl); (case c3 => exact rfl); (case c4 => exact rfl); k_whole; intro g' L' h' F' N' B' X' T' hkept; (try dsimp only); (try k_lift B'); clear F B KX T X N; (try k_fold))
  k_steps
  all_goals (try dsimp +zetaDelta only)
  k_steps
end Mine
end PartPlev
section PartPcount
open PySem PySem.W PyProof.Rows PyProof.V
set_option maxHeartbeats 20000000
namespace Mine
theorem count_call : ∀ (w : World) (mean : ExcName → Option Value) (mg mb : Str → Option Value) (news : List (Addr × Obj)) (d : Addr) (o : Obj) (kvs : List (Str × Value)) (cc : List (Str × Int)) (_ : (d, o) ∈ news) (_ : (d == sysModules) = false) (_ : o.IsDictOf (strKind PySem.Challenge.rw_pm0039_01.row.prog w) kvs) (_ : FlatPairs PyData.str kvs (kdpD cc)), CallsTo w mean mg mb 63 [.ref d] news (RetV fun t => .int (sumF cc) t) := by
  dsimp only [CallsTo, RetV, RetO, RetD]
  k_fill
  intro w mean mg mb news d o kvs cc hd hlo hdo hfl dp un gd cn cs a ccd cl outer A₀ base h₀ L m s Q E B F KX N T hkk hdp hun hret
  have X := KX
  w_top off
  k_with_none
  k_with "execs cons" => ((rename Fr _ _ _ _ => lF'); refine norm_st lF' s ?_; intro tkS; refine fr_let lF' ?_; intro mX F'; clear lF'; refine q_let ?_; intro qX; refine PySem.wpAny_execs_cons ?_)
  k_with "exec For Name Call cons nil" => k_dflt (
    (rename Fr _ _ _ _ => lF'); (rename News _ _ _ _ => lN')
    with_unfolding_all ((refine For_invV g' (by rfl) (by rfl) ?_); (refine MethodCall_ ?_); (refine ld lF' (by rfl) ?_); (refine getMethod_tab (knd := strKind _ _) (enc := PyData.str) PySem.F.slot_dict_values PySem.F.type_dict_values (hTab.ofFr lF') ?_); (refine callWith_method0 ?_); (refine call_values_tab (knd := strKind _ _) (enc := PyData.str) (hTab.ofFr lF') lF' lN' ?_))
    intro h' o' hv' F' N'
    replace N' := kti_tail N'
    refine' kst_vals (σ := Int × Nat) (fun _ => []) (fun c => [(PySem.Str.ofString "nc", .int c.1 c.2)]) (fun _ => True) [] (fun i c => c.1 = sumF (cc.take i)) (0, _) (by rfl) hv' hTab F' N' trivial ?hkA rfl ?_ ?_
    (case hkA => intro p hp; rw [List.mem_singleton.mp hp]; rfl)
    rotate_left
    clear F' N' lF' lN'
    intro q u h tk hFa hPE F' N'
    rw [sumF_all] at hPE
    rotate_right
    clear F' N' lF' lN'
    intro q i k n t u h tk ownA hci hoffA hFa hPA F' N'
    simp only [List.cons_append, List.nil_append] at N'
    all_goals (try k_fold))
  k_with "InvEndN" => k_dflt (
    refine' kst_end (q.1 + n, _) (by assumption) (by assumption) (fun _ h => nomatch h) ?hoI1 (by rfl) trivial ?hkI21 ?hrI1 ?hpI1
    (case hkI21 => intro p hp; rw [List.mem_singleton.mp hp]; with_unfolding_all rfl)
    (case hoI1 => intro p hp; exact hp)
    (case hrI1 =>
      intro z h1 h2 h3
      simp only [List.forall_mem_cons, List.not_mem_nil, false_implies, implies_true, and_true, ne_eq] at h2
      simp +zetaDelta [h1, h2, kstB])
    (case hpI1 => show q.1 + n = sumF (cc.take (rangeKs 0 (i + 1)).length); rw [rangeKs_length, sumF_take hci, hPA]))
  k_with "LeaveK" => k_dflt (
    refine' fin_int (by assumption) (by assumption) (fun _ h => nomatch h) hPE hret)
  refine wpAny_call ?_
  k_dflt (refine' code_defE (AA := []) ?k1 ?k2 ?k3 ?k4 ?kAA ?k5 ?kA ?kF ?kK ?k6 ?k7 ?k8 ?k9 ?kB ?_ ?c2 ?c3 ?c4 ?c5; (case kA => exact rfl); (case kF => exact rfl); (case kK => assumption); (case k1 => k_asm); (case k2 => k_asm); (case k3 => k_asm); (case k4 => k_asm); (case kAA => exact (fun _ h => nomatch h)); (case k5 => k_asm); (case k6 => k_is); (case k7 => k_is); (case k8 => ktr_room); (case k9 => exact BindsTo.of_eq rfl); (case c5 => decide); (case kB => exact locs rfl); (case c2 => exact rfl); (case c3 => exact rfl); (case c4 => exact rfl); k_whole; intro g' L' h' F' N' B' X' T' hkept; (try dsimp only); (try k_lift B'); clear F B KX T X N; (try k_fold))
  have hTab : TabAt (strKind PySem.Challenge.rw_pm0039_01.row.prog w) PyData.str g' d (kdpD cc) := by
    rcases hkept _ hd with h | h
    · exact nomatch h
    · exact ⟨hlo, kvs, Heap.dictOf_iff.mpr ⟨o, h, hdo⟩, hfl⟩
  k_steps
  all_goals (try dsimp +zetaDelta only)
  k_steps
end Mine
end PartPcount
section PartPadd
open PySem PySem.W PyProof.Rows PyProof.V
set_option maxHeartbeats 20000000
namespace Mine
theorem add_call : ∀ (w : World) (mean : ExcName → Option Value) (mg mb : Str → Option Value) (news : List (Addr × Obj))  (d1 : Addr) (o1 : Obj) (kvs1 : List (Str × Value)) (cc1 : List (Str × Int)) (_ : (d1, o1) ∈ news) (_ : (d1 == sysModules) = false) (_ : o1.IsDictOf (strKind PySem.Challenge.rw_pm0039_01.row.prog w) kvs1) (_ : FlatPairs PyData.str kvs1 (kdpD cc1)) (_ : cc1.length ≤ 400) (d2 : Addr) (o2 : Obj) (kvs2 : List (Str × Value)) (cc2 : List (Str × Int)) (_ : (d2, o2) ∈ news) (_ : (d2 == sysModules) = false) (_ : o2.IsDictOf (strKind PySem.Challenge.rw_pm0039_01.row.prog w) kvs2) (_ : FlatPairs PyData.str kvs2 (kdpD cc2)) (_ : cc2.length ≤ 400), CallsTo w mean mg mb 56 [.ref d1, .ref d2] news (RetD w (addF cc1 cc2)) := by
  dsimp only [CallsTo, RetV, RetO, RetD]
  k_fill
  intro w mean mg mb news d1 o1 kvs1 cc1 hd1 hlo1 hdo1 hfl1 hle1 d2 o2 kvs2 cc2 hd2 hlo2 hdo2 hfl2 hle2 dp un gd cn cs a ccd cl outer A₀ base h₀ L m s Q E B F KX N T hkk hdp hun hret
  have X := KX
  w_top off
  k_with_none
  k_with "execs cons" => ((rename Fr _ _ _ _ => lF'); refine norm_st lF' s ?_; intro tkS; refine fr_let lF' ?_; intro mX F'; clear lF'; refine q_let ?_; intro qX; refine PySem.wpAny_execs_cons ?_)
  k_with "exec For Tuple Call cons nil" => k_dflt (
    (with_reducible show wpAny _ _ (exec (Stmt.For _ (Expr.Call (Expr.Attribute (Expr.Name (PySem.Str.ofString "source") _) _ _) _ _ _) _ _ _) _) _ _ _)
    (rename Fr _ _ _ _ => lF'); (rename News _ _ _ _ => lN')
    with_unfolding_all ((refine For_pair_inv g' ?_); (refine MethodCall_ ?_); (refine ld lF' (by rfl) ?_); (refine getMethod_tab (knd := strKind _ _) (enc := PyData.str) PySem.F.slot_dict_items PySem.F.type_dict_items (hTab2.ofFr lF') ?_); (refine callWith_method0 ?_); (refine call_items_tab (knd := strKind _ _) (enc := PyData.str) (hTab2.ofFr lF') lF' lN' ?_))
    intro h' o' hv' F' N'
    replace N' := kti_tail N'
    refine' kst_items (σ := Obj × List (Str × Value) × List (Str × Int)) (fun c => [(_, c.1)]) (fun _ => []) (fun c => c.1.IsDictOf (strKind PySem.Challenge.rw_pm0039_01.row.prog w) c.2.1 ∧ FlatPairs PyData.str c.2.1 (kdpD c.2.2)) [] (fun i c => c.2.2 = (cc2.take i).foldl addStep (copyF cc1)) (_, _, (copyF cc1)) (by rfl) (by rfl) (by rfl) (by rfl) hv' hdo2 F' N' (.inr hg2) ⟨by assumption, by assumption⟩ (fun _ h => nomatch h) rfl ?_ ?_
    rotate_left
    clear F' N' lF' lN'
    intro q2 u2 h tk hFa hPE2 F' N'
    obtain ⟨hdq2, hfq2⟩ := hFa
    rw [pairs_len hfl2, List.take_length] at hPE2
    try dsimp only at hdq2 hfq2 N'
    skip
    rotate_right
    clear F' N' lF' lN'
    intro c2 i2 k2 v2 key2 u2 h tk own2 hci2 hkey2 hoff2 hFa hP2 F' N'
    obtain ⟨hdt2, hft2⟩ := hFa
    obtain ⟨n2, t2, hcn2, rfl⟩ := pairs_get hfl2 hci2
    obtain ⟨tk2, rfl⟩ := PySem.Value.isStrOf_shape hkey2
    have hsz2 : c2.2.2.length ≤ 1000 := by
      rw [hP2]
      have q1 := foldl_len _ addStep_len (cc2.take i2) (copyF cc1)
      have q2 : (cc2.take i2).length ≤ cc2.length := by rw [List.length_take]; omega
      have q3 := copyF_len cc1
      omega
    simp only [List.cons_append, List.nil_append] at N'
    all_goals (try k_fold))
  k_with "exec For Tuple Call cons nil" => k_dflt (
    (with_reducible show wpAny _ _ (exec (Stmt.For _ (Expr.Call (Expr.Attribute (Expr.Name (PySem.Str.ofString "target") _) _ _) _ _ _) _ _ _) _) _ _ _)
    (rename Fr _ _ _ _ => lF'); (rename News _ _ _ _ => lN')
    with_unfolding_all ((refine For_pair_inv g' ?_); (refine MethodCall_ ?_); (refine ld lF' (by rfl) ?_); (refine getMethod_tab (knd := strKind _ _) (enc := PyData.str) PySem.F.slot_dict_items PySem.F.type_dict_items (hTab1.ofFr lF') ?_); (refine callWith_method0 ?_); (refine call_items_tab (knd := strKind _ _) (enc := PyData.str) (hTab1.ofFr lF') lF' lN' ?_))
    intro h' o' hv' F' N'
    replace N' := kti_tail N'
    refine' kst_items (σ := Obj × List (Str × Value) × List (Str × Int)) (fun c => [(_, c.1)]) (fun _ => []) (fun c => c.1.IsDictOf (strKind PySem.Challenge.rw_pm0039_01.row.prog w) c.2.1 ∧ FlatPairs PyData.str c.2.1 (kdpD c.2.2)) [] (fun i c => c.2.2 = (cc1.take i).foldl (fun acc p => kdpPut acc p.1 p.2) []) (_, _, []) (by rfl) (by rfl) (by rfl) (by rfl) hv' hdo1 F' N' (.inr hg1) ⟨by assumption, by assumption⟩ (fun _ h => nomatch h) rfl ?_ ?_
    rotate_left
    clear F' N' lF' lN'
    intro q1 u1 h tk hFa hPE1 F' N'
    obtain ⟨hdq1, hfq1⟩ := hFa
    rw [pairs_len hfl1, List.take_length] at hPE1
    try dsimp only at hdq1 hfq1 N'
    change _ = copyF cc1 at hPE1; rw [hPE1] at hfq1; clear hPE1
    rotate_right
    clear F' N' lF' lN'
    intro c1 i1 k1 v1 key1 u1 h tk own1 hci1 hkey1 hoff1 hFa hP1 F' N'
    obtain ⟨hdt1, hft1⟩ := hFa
    obtain ⟨n1, t1, hcn1, rfl⟩ := pairs_get hfl1 hci1
    obtain ⟨tk1, rfl⟩ := PySem.Value.isStrOf_shape hkey1
    have hsz1 : c1.2.2.length ≤ 1000 := by
      rw [hP1]
      have q1 := foldl_len _ (fun a p => kdpPut_len a p.1 p.2) (cc1.take i1) []
      have q2 : (cc1.take i1).length ≤ cc1.length := by rw [List.length_take]; omega
      rw [List.length_nil] at q1
      omega
    simp only [List.cons_append, List.nil_append] at N'
    all_goals (try k_fold))
  k_with "setItem ref str" => k_dflt (
    have hGuard := hsz1
    (rename Fr _ _ _ _ => lF'); (rename News _ _ _ _ => lN')
    refine' kdp_setItem (c := c1.2.2) lF' lN' (UpdF.head ?hU1) hdt1 hft1 (by omega) ?_
    (case hU1 => intro p hp; exact hoff1 p hp _ (List.Mem.head _))
    clear lF' lN'
    intro h' o' kvs' F' N' hd' hf')
  k_with "setItem ref str" => k_dflt (
    have hGuard := hsz2
    (rename Fr _ _ _ _ => lF'); (rename News _ _ _ _ => lN')
    refine' kdp_setItem (c := c2.2.2) lF' lN' (UpdF.head ?hU2) hdt2 hft2 (by omega) ?_
    (case hU2 => intro p hp; exact hoff2 p hp _ (List.Mem.head _))
    clear lF' lN'
    intro h' o' kvs' F' N' hd' hf')
  k_with "InvEndN" => k_dflt (
    have hGuard := hsz1
    (rename Obj.IsDictOf _ _ _ => hdE)
    (rename FlatPairs _ _ _ => hfE)
    refine' kst_end (_, _, kdpPut c1.2.2 k1 n1) (by assumption) (by assumption) ?hnI1 ?hoI1 (by rfl) ⟨hdE, hfE⟩ (fun _ h => nomatch h) ?hrI1 ?hpI1
    (case hnI1 => intro p hp; rw [List.mem_singleton.mp hp]; exact List.Mem.head _)
    (case hoI1 => intro p hp; exact List.Mem.tail _ hp)
    (case hrI1 =>
      intro z h1 h2 h3
      simp only [List.contains_cons, List.contains_nil, Bool.or_false, beq_eq_false_iff_ne, ne_eq] at h3
      simp +zetaDelta [h1, h3, kstB])
    (case hpI1 => (show kdpPut c1.2.2 k1 n1 = _); (rw [rangeKs_length, foldl_take _ _ hcn1, ← hP1]); skip))
  k_with "InvEndN" => k_dflt (
    have hGuard := hsz2
    (rename Obj.IsDictOf _ _ _ => hdE)
    (rename FlatPairs _ _ _ => hfE)
    refine' kst_end (_, _, kdpPut c2.2.2 k2 n2) (by assumption) (by assumption) ?hnI2a ?hoI2a (by rfl) ⟨hdE, hfE⟩ (fun _ h => nomatch h) ?hrI2a ?hpI2a
    (case hnI2a => intro p hp; rw [List.mem_singleton.mp hp]; exact List.Mem.head _)
    (case hoI2a => intro p hp; exact List.Mem.tail _ hp)
    (case hrI2a =>
      intro z h1 h2 h3
      simp only [List.contains_cons, List.contains_nil, Bool.or_false, beq_eq_false_iff_ne, ne_eq] at h3
      simp +zetaDelta [h1, h3, kstB])
    (case hpI2a => (show kdpPut c2.2.2 k2 n2 = _); (rw [rangeKs_length, foldl_take _ _ hcn2, ← hP2]); rw [addStep, if_neg (by rw [show kdpHas c2.2.2 k2 = false by assumption]; exact Bool.false_ne_true)]))
  k_with "InvEndN" => k_dflt (
    have hGuard := hsz2
    (rename Obj.IsDictOf _ _ _ => hdE)
    (rename FlatPairs _ _ _ => hfE)
    refine' kst_end (_, _, kdpPut c2.2.2 k2 (kdpLook c2.2.2 k2 0 + n2)) (by assumption) (by assumption) ?hnI2b ?hoI2b (by rfl) ⟨hdE, hfE⟩ (fun _ h => nomatch h) ?hrI2b ?hpI2b
    (case hnI2b => intro p hp; rw [List.mem_singleton.mp hp]; exact List.Mem.head _)
    (case hoI2b => intro p hp; exact List.Mem.tail _ hp)
    (case hrI2b =>
      intro z h1 h2 h3
      simp only [List.contains_cons, List.contains_nil, Bool.or_false, beq_eq_false_iff_ne, ne_eq] at h3
      simp +zetaDelta [h1, h3, kstB])
    (case hpI2b => (show kdpPut c2.2.2 k2 (kdpLook c2.2.2 k2 0 + n2) = _); (rw [rangeKs_length, foldl_take _ _ hcn2, ← hP2]); rw [addStep, if_pos (by assumption)]))
  k_with "LeaveK" => k_dflt (
    have hGuard := hPE2
    change _ = addF cc1 cc2 at hPE2
    rw [hPE2] at hfq2
    refine' fin_dict (by assumption) (by assumption) (List.Mem.head _) hkept (fun _ h => nomatch h) (fun _ h => nomatch h) hdq2 hfq2 (by assumption) hret)
  refine wpAny_call ?_
  k_dflt (refine' code_defE (AA := []) ?k1 ?k2 ?k3 ?k4 ?kAA ?k5 ?kA ?kF ?kK ?k6 ?k7 ?k8 ?k9 ?kB ?_ ?c2 ?c3 ?c4 ?c5; (case kA => exact rfl); (case kF => exact rfl); (case kK => assumption); (case k1 => k_asm); (case k2 => k_asm); (case k3 => k_asm); (case k4 => k_asm); (case kAA => exact (fun _ h => nomatch h)); (case k5 => k_asm); (case k6 => k_is); (case k7 => k_is); (case k8 => ktr_room); (case k9 => exact BindsTo.of_eq rfl); (case c5 => decide); (case kB => exact locs rfl); (case c2 => exact rfl); (case c3 => exact rfl); (case c4 => exact rfl); k_whole; intro g' L' h' F' N' B' X' T' hkept; (try dsimp only); (try k_lift B'); clear F B KX T X N; (try k_fold))
  have hg1 : g'.get? d1 = some o1 := by
    rcases hkept _ hd1 with h | h
    · exact nomatch h
    · exact h
  have hTab1 : TabAt (strKind PySem.Challenge.rw_pm0039_01.row.prog w) PyData.str g' d1 (kdpD cc1) := ⟨hlo1, kvs1, Heap.dictOf_iff.mpr ⟨o1, hg1, hdo1⟩, hfl1⟩
  have hg2 : g'.get? d2 = some o2 := by
    rcases hkept _ hd2 with h | h
    · exact nomatch h
    · exact h
  have hTab2 : TabAt (strKind PySem.Challenge.rw_pm0039_01.row.prog w) PyData.str g' d2 (kdpD cc2) := ⟨hlo2, kvs2, Heap.dictOf_iff.mpr ⟨o2, hg2, hdo2⟩, hfl2⟩
  k_steps
  all_goals (try dsimp +zetaDelta only)
  k_steps
end Mine
end PartPadd
section PartPlawn
open PySem PySem.W PyProof.Rows PyProof.V
set_option maxHeartbeats 20000000
namespace Mine
theorem law_n : ∀ (w : World) (mean : ExcName → Option Value) (mg mb : Str → Option Value) (dp un : Nat) (gd : Option (List Code)) (a : Addr) (ccd : Value) (outer : List Env) (A₀ : Around) (base h₀ : Heap) (L : Addr) (s : Shared) (m₀ : Str → Option Value) (Q : Flow → Shared → Prop) (E : Value → Shared → Prop) (S Z P OV : Int) (tS tE tO tl : Tok) (Da Db Dw Dp : Addr) (ys vp : List Value) (ea eb ep : Nat) (oc : Obj),
    Below A₀ base outer h₀ → Fr h₀ L s.heap (fun y => if y = Str.ofString "behind" then some (.ref Db) else if y = Str.ofString "ahead" then some (.ref Da) else if y = Str.ofString "words" then some (.ref Dw) else if y = Str.ofString "prices" then some (.ref Dp) else if y = Str.ofString "over" then some (.int OV tO) else if y = Str.ofString "end" then some (.int Z tE) else if y = Str.ofString "start" then some (.int S tS) else m₀ y) → Frag.In (hd.heap_39 w.params) h₀ → News h₀ L s.heap [(Db, listOf ([] : List Value).toArray eb), (Da, listOf ([] : List Value).toArray ea), (Dw, LCg.lst ys), (Dp, listOf vp.toArray ep), (L + 1, oc)] → Top hd.view_39 (looseW hd.view_39 []) mean mg mb h₀ → dp + 20 < recursionLimit → un + 200 < cLine → PassesOwn (model PySem.Challenge.rw_pm0039_01.row.prog w) (ktrTop dp un gd (Str.ofString "law") lawScope L a ccd (cellsFrom (L + 1) lawScope.names []) outer) (lawEnv L a ccd) E →
    (Da ≠ Db) → (Da ≠ Dw) → (Da ≠ Dp) → (Da ≠ L + 1) → (Db ≠ Dw) → (Db ≠ Dp) → (Db ≠ L + 1) → WordsAre (ltr P) ys → PricesAre P vp → oc.data = .cell (some (.str (ltr P) tl)) → (0 ≤ S ∧ S < 16) → (0 ≤ Z ∧ Z < 16) → (0 ≤ P ∧ P < 2) →
    (∀ h' tk' m' va vb ea' eb', IntsAre va ((rangeKs 0 16).map fun n => priceF P S n) → IntsAre vb ((rangeKs 0 16).map fun n => priceF P n Z) → (∀ z, z ≠ Str.ofString "n" → [PySem.Str.ofString "k", PySem.Str.ofString "p", PySem.Str.ofString "q", PySem.Str.ofString "price", PySem.Str.ofString "red", PySem.Str.ofString "green", PySem.Str.ofString "blue", PySem.Str.ofString "hue", PySem.Str.ofString "saturation", PySem.Str.ofString "value", PySem.Str.ofString "light"].contains z = false → m' z = (fun y => if y = Str.ofString "behind" then some (.ref Db) else if y = Str.ofString "ahead" then some (.ref Da) else if y = Str.ofString "words" then some (.ref Dw) else if y = Str.ofString "prices" then some (.ref Dp) else if y = Str.ofString "over" then some (.int OV tO) else if y = Str.ofString "end" then some (.int Z tE) else if y = Str.ofString "start" then some (.int S tS) else m₀ y) z) → Fr h₀ L h' m' → News h₀ L h' [(Db, listOf vb.toArray eb'), (Da, listOf va.toArray ea'), (Dw, LCg.lst ys), (Dp, listOf vp.toArray ep), (L + 1, oc)] → Q .next { s with heap := h', toks := tk' }) →
    wpAny (model PySem.Challenge.rw_pm0039_01.row.prog w) (ktrTop dp un gd (Str.ofString "law") lawScope L a ccd (cellsFrom (L + 1) lawScope.names []) outer) (exec (lawStmt 10) (lawEnv L a ccd)) Q E s := by
  k_fill
  intro w mean mg mb dp un gd a ccd outer A₀ base h₀ L s m₀ Q E S Z P OV tS tE tO tl Da Db Dw Dp ys vp ea eb ep oc B F KX N T hdp hun hE hdab hdaw hdap hdal hdbw hdbp hdbl hW hPr hoc hSb hZb hPb hQ
  have X := KX
  have hSb0 := hSb
  obtain ⟨SC, hS⟩ : ∃ SC, SC = lawScope := ⟨_, rfl⟩
  conv at hS => rhs; whnf
  simp only [lawEnv] at hE ⊢
  simp only [show lawScope = SC from by rw [hS]; rfl] at hE ⊢
  subst hS
  first | (conv in List.drop _ lawBody => whnf) | (conv in lawStmt _ => whnf)
  refine fr_let F ?_; clear F; intro mF F
  w_top off
  k_with_none
  k_with "execs cons" => ((rename Fr _ _ _ _ => lF'); refine norm_st lF' s ?_; intro tkS; refine fr_let lF' ?_; intro mX F'; clear lF'; refine q_let ?_; intro qX; refine PySem.wpAny_execs_cons ?_)
  k_with "pyIter ref" => k_dflt (
    (rename IsRange _ _ _ _ _ _ _ _ => lR'); (rename Fr _ _ _ _ => lF'); (rename News _ _ _ _ => lN')
    refine' kst_range (σ := (List Value × List Int × Nat) × (List Value × List Int × Nat)) (n := 16) (fun c => [(Db, listOf c.2.1.toArray c.2.2.2), (Da, listOf c.1.1.toArray c.1.2.2), (Dw, LCg.lst ys), (Dp, listOf vp.toArray ep), (L + 1, oc)]) (fun _ => []) (fun c => IntsAre c.1.1 c.1.2.1 ∧ IntsAre c.2.1 c.2.2.1) [PySem.Str.ofString "k", PySem.Str.ofString "p", PySem.Str.ofString "q", PySem.Str.ofString "price", PySem.Str.ofString "red", PySem.Str.ofString "green", PySem.Str.ofString "blue", PySem.Str.ofString "hue", PySem.Str.ofString "saturation", PySem.Str.ofString "value", PySem.Str.ofString "light"] (fun pre c => c.1.2.1 = (rangeKs 0 pre.length).map (fun n => priceF P S n) ∧ c.2.2.1 = (rangeKs 0 pre.length).map (fun n => priceF P n Z)) (([], [], _), ([], [], _)) (by rfl) lR' (by decide) (by decide) lF' lN' ⟨.nil, .nil⟩ (fun _ h => nomatch h) ⟨rfl, rfl⟩ ?_ ?_
    rotate_left
    clear lR' lF' lN'
    intro c u h tk hFa hPE F' N'
    rw [rangeKs_length] at hPE
    rotate_right
    clear lR' lF' lN'
    intro cO preO kO tO' u h tk ownO hkO hltO hoffO hFa hPO F' N'
    obtain ⟨hIA, hIB⟩ := hFa
    simp only [List.cons_append, List.nil_append] at N'
    obtain rfl : kO = (preO.length : Int) := hkO.trans (Int.zero_add _)
    have hlA : cO.1.1.length = preO.length := by rw [hIA.length, hPO.1, List.length_map, rangeKs_length]
    have hlB : cO.2.1.length = preO.length := by rw [hIB.length, hPO.2, List.length_map, rangeKs_length]
    have hnb : 0 ≤ (preO.length : Int) ∧ (preO.length : Int) < 16 := ⟨Int.natCast_nonneg _, by omega⟩
    obtain ⟨hLA, _, _⟩ := lev_facts hPb hSb hnb
    obtain ⟨_, hLB, hLC⟩ := lev_facts hPb hnb hZb
    have hLAp := hLA
    have hLBp := hLB
    simp only [priceF_eq, zeroF] at hLA hLB hLC
    obtain ⟨hV0, hV1, hV2⟩ := hsv_facts hSb hnb
    obtain ⟨hG0, hG1, hG2⟩ := hls_facts hnb hZb
    all_goals (try k_fold))
  k_with "call ref" => k_dflt (
    (with_reducible show wpAny _ _ (call (Value.ref 91) _) _ _ _)
    (rename Fr _ _ _ _ => lF'); (rename News _ _ _ _ => lN')
    refine' orders_call w mean mg mb _ _ _ _ _ _ _ _ _ _ _ _ _ _ _ _ _ _ _ _ _ _ B lF' X lN' T (by rfl) (le_room (k := 3) hdp rfl) (le_room (k := 24) hun rfl) ?_
    clear lF' lN'
    intro tV hpV9 tkV F' N')
  k_with "call ref" => k_dflt (
    (with_reducible show wpAny _ _ (call (Value.ref 70) [Value.int S _, _]) _ _ _)
    (rename Fr _ _ _ _ => lF'); (rename News _ _ _ _ => lN')
    refine' way_call w mean mg mb _ S (preO.length : Int) _ _ _ _ _ _ _ _ _ _ _ _ _ _ _ _ _ _ _ B lF' X lN' T (by rfl) (le_room (k := 3) hdp rfl) (le_room (k := 24) hun rfl) ?_
    clear lF' lN'
    intro qW oW hpW9 tkW hOW F' N' hapW
    obtain ⟨u1W, u2W, u3W, nW, rfl⟩ := hOW
    have hneWDa : qW ≠ Da := fun e => hapW (Da, _) (by k_mem) e.symm
    have hneWDb : qW ≠ Db := fun e => hapW (Db, _) (by k_mem) e.symm
    clear hapW
    have hbW := way_bd hSb hnb
    obtain ⟨hbW1, hbW2, hbW3⟩ := id hbW)
  k_with "call ref" => k_dflt (
    (with_reducible show wpAny _ _ (call (Value.ref 70) [Value.int (preO.length : Int) _, _]) _ _ _)
    (rename Fr _ _ _ _ => lF'); (rename News _ _ _ _ => lN')
    refine' way_call w mean mg mb _ (preO.length : Int) Z _ _ _ _ _ _ _ _ _ _ _ _ _ _ _ _ _ _ _ B lF' X lN' T (by rfl) (le_room (k := 3) hdp rfl) (le_room (k := 24) hun rfl) ?_
    clear lF' lN'
    intro qV oV hpV9 tkV hOV F' N' hapV
    obtain ⟨u1V, u2V, u3V, nV, rfl⟩ := hOV
    have hneVDa : qV ≠ Da := fun e => hapV (Da, _) (by k_mem) e.symm
    have hneVDb : qV ≠ Db := fun e => hapV (Db, _) (by k_mem) e.symm
    clear hapV
    have hbV := way_bd hnb hZb
    obtain ⟨hbV1, hbV2, hbV3⟩ := id hbV)
  k_with "subscriptTail Name Name ref int" => k_dflt (
    (with_reducible show wpAny _ _ (subscriptTail _ _ (Value.ref Dp) (Value.int _ _)) _ _ _)
    (rename News _ _ _ _ => lN')
    refine' item_someK (f := fun t => Value.int (prc P _) t) lN' (by k_mem) (by first | (with_reducible first | exact bN_0 | exact c4_0 | exact c4_n | exact c4_64 | exact cN_64 | assumption | exact And.left ‹_› | exact And.right ‹_› | exact b16_63 ‹_› | exact b6_63 ‹_› | exact b6_7 ‹_› | exact b6p_0 ‹_› | exact b6p_7 ‹_› | exact b6p_63 ‹_› | exact b4p_0 ‹_› | exact b4p_8 ‹_› | exact b4p_100 ‹_›) | omega) (by first | (with_reducible first | exact bN_0 | exact c4_0 | exact c4_n | exact c4_64 | exact cN_64 | assumption | exact And.left ‹_› | exact And.right ‹_› | exact b16_63 ‹_› | exact b6_63 ‹_› | exact b6_7 ‹_› | exact b6p_0 ‹_› | exact b6p_7 ‹_› | exact b6p_63 ‹_› | exact b4p_0 ‹_› | exact b4p_8 ‹_› | exact b4p_100 ‹_›) | omega) (hPr _ (by first | (with_reducible first | exact bN_0 | exact c4_0 | exact c4_n | exact c4_64 | exact cN_64 | assumption | exact And.left ‹_› | exact And.right ‹_› | exact b16_63 ‹_› | exact b6_63 ‹_› | exact b6_7 ‹_› | exact b6p_0 ‹_› | exact b6p_7 ‹_› | exact b6p_63 ‹_› | exact b4p_0 ‹_› | exact b4p_8 ‹_› | exact b4p_100 ‹_›) | omega) (by first | (with_reducible first | exact bN_0 | exact c4_0 | exact c4_n | exact c4_64 | exact cN_64 | assumption | exact And.left ‹_› | exact And.right ‹_› | exact b16_63 ‹_› | exact b6_63 ‹_› | exact b6_7 ‹_› | exact b6p_0 ‹_› | exact b6p_7 ‹_› | exact b6p_63 ‹_› | exact b4p_0 ‹_› | exact b4p_8 ‹_› | exact b4p_100 ‹_›) | omega)) ?_ (by with_unfolding_all rfl)
    intro tP9)
  k_with "subscriptTail Name BinOp ref int" => k_dflt (
    (with_reducible show wpAny _ _ (subscriptTail _ _ (Value.ref Dp) (Value.int _ _)) _ _ _)
    (rename News _ _ _ _ => lN')
    refine' item_someK (f := fun t => Value.int (prc P _) t) lN' (by k_mem) (by first | (with_reducible first | exact bN_0 | exact c4_0 | exact c4_n | exact c4_64 | exact cN_64 | assumption | exact And.left ‹_› | exact And.right ‹_› | exact b16_63 ‹_› | exact b6_63 ‹_› | exact b6_7 ‹_› | exact b6p_0 ‹_› | exact b6p_7 ‹_› | exact b6p_63 ‹_› | exact b4p_0 ‹_› | exact b4p_8 ‹_› | exact b4p_100 ‹_›) | omega) (by first | (with_reducible first | exact bN_0 | exact c4_0 | exact c4_n | exact c4_64 | exact cN_64 | assumption | exact And.left ‹_› | exact And.right ‹_› | exact b16_63 ‹_› | exact b6_63 ‹_› | exact b6_7 ‹_› | exact b6p_0 ‹_› | exact b6p_7 ‹_› | exact b6p_63 ‹_› | exact b4p_0 ‹_› | exact b4p_8 ‹_› | exact b4p_100 ‹_›) | omega) (hPr _ (by first | (with_reducible first | exact bN_0 | exact c4_0 | exact c4_n | exact c4_64 | exact cN_64 | assumption | exact And.left ‹_› | exact And.right ‹_› | exact b16_63 ‹_› | exact b6_63 ‹_› | exact b6_7 ‹_› | exact b6p_0 ‹_› | exact b6p_7 ‹_› | exact b6p_63 ‹_› | exact b4p_0 ‹_› | exact b4p_8 ‹_› | exact b4p_100 ‹_›) | omega) (by first | (with_reducible first | exact bN_0 | exact c4_0 | exact c4_n | exact c4_64 | exact cN_64 | assumption | exact And.left ‹_› | exact And.right ‹_› | exact b16_63 ‹_› | exact b6_63 ‹_› | exact b6_7 ‹_› | exact b6p_0 ‹_› | exact b6p_7 ‹_› | exact b6p_63 ‹_› | exact b4p_0 ‹_› | exact b4p_8 ‹_› | exact b4p_100 ‹_›) | omega)) ?_ (by with_unfolding_all rfl)
    intro tP9)
  k_with "subscriptTail Name Name ref int" => k_dflt (
    (with_reducible show wpAny _ _ (subscriptTail _ _ (Value.ref Dw) (Value.int _ _)) _ _ _)
    (rename News _ _ _ _ => lN')
    refine' item_someK (f := fun t => Value.str (wordS (ltr P) _) t) lN' (by k_mem) (by first | (with_reducible first | exact bN_0 | exact c4_0 | exact c4_n | exact c4_64 | exact cN_64 | assumption | exact And.left ‹_› | exact And.right ‹_› | exact b16_63 ‹_› | exact b6_63 ‹_› | exact b6_7 ‹_› | exact b6p_0 ‹_› | exact b6p_7 ‹_› | exact b6p_63 ‹_› | exact b4p_0 ‹_› | exact b4p_8 ‹_› | exact b4p_100 ‹_›) | omega) (by first | (with_reducible first | exact bN_0 | exact c4_0 | exact c4_n | exact c4_64 | exact cN_64 | assumption | exact And.left ‹_› | exact And.right ‹_› | exact b16_63 ‹_› | exact b6_63 ‹_› | exact b6_7 ‹_› | exact b6p_0 ‹_› | exact b6p_7 ‹_› | exact b6p_63 ‹_› | exact b4p_0 ‹_› | exact b4p_8 ‹_› | exact b4p_100 ‹_›) | omega) (hW _ (by first | (with_reducible first | exact bN_0 | exact c4_0 | exact c4_n | exact c4_64 | exact cN_64 | assumption | exact And.left ‹_› | exact And.right ‹_› | exact b16_63 ‹_› | exact b6_63 ‹_› | exact b6_7 ‹_› | exact b6p_0 ‹_› | exact b6p_7 ‹_› | exact b6p_63 ‹_› | exact b4p_0 ‹_› | exact b4p_8 ‹_› | exact b4p_100 ‹_›) | omega) (by first | (with_reducible first | exact bN_0 | exact c4_0 | exact c4_n | exact c4_64 | exact cN_64 | assumption | exact And.left ‹_› | exact And.right ‹_› | exact b16_63 ‹_› | exact b6_63 ‹_› | exact b6_7 ‹_› | exact b6p_0 ‹_› | exact b6p_7 ‹_› | exact b6p_63 ‹_› | exact b4p_0 ‹_› | exact b4p_8 ‹_› | exact b4p_100 ‹_›) | omega)) ?_ (by with_unfolding_all rfl)
    intro tW9)
  k_with "call ref" => k_dflt (
    (with_reducible show wpAny _ _ (call (Value.ref 77) _) _ _ _)
    (rename Fr _ _ _ _ => lF'); (rename News _ _ _ _ => lN')
    refine' colour_call w mean mg mb _ _ _ _ _ (by first | (with_reducible first | exact bN_0 | exact c4_0 | exact c4_n | exact c4_64 | exact cN_64 | assumption | exact And.left ‹_› | exact And.right ‹_› | exact b16_63 ‹_› | exact b6_63 ‹_› | exact b6_7 ‹_› | exact b6p_0 ‹_› | exact b6p_7 ‹_› | exact b6p_63 ‹_› | exact b4p_0 ‹_› | exact b4p_8 ‹_› | exact b4p_100 ‹_›) | omega) (by first | (with_reducible first | exact bN_0 | exact c4_0 | exact c4_n | exact c4_64 | exact cN_64 | assumption | exact And.left ‹_› | exact And.right ‹_› | exact b16_63 ‹_› | exact b6_63 ‹_› | exact b6_7 ‹_› | exact b6p_0 ‹_› | exact b6p_7 ‹_› | exact b6p_63 ‹_› | exact b4p_0 ‹_› | exact b4p_8 ‹_› | exact b4p_100 ‹_›) | omega) (by first | (with_reducible first | exact bN_0 | exact c4_0 | exact c4_n | exact c4_64 | exact cN_64 | assumption | exact And.left ‹_› | exact And.right ‹_› | exact b16_63 ‹_› | exact b6_63 ‹_› | exact b6_7 ‹_› | exact b6p_0 ‹_› | exact b6p_7 ‹_› | exact b6p_63 ‹_› | exact b4p_0 ‹_› | exact b4p_8 ‹_› | exact b4p_100 ‹_›) | omega) (by first | (with_reducible first | exact bN_0 | exact c4_0 | exact c4_n | exact c4_64 | exact cN_64 | assumption | exact And.left ‹_› | exact And.right ‹_› | exact b16_63 ‹_› | exact b6_63 ‹_› | exact b6_7 ‹_› | exact b6p_0 ‹_› | exact b6p_7 ‹_› | exact b6p_63 ‹_› | exact b4p_0 ‹_› | exact b4p_8 ‹_› | exact b4p_100 ‹_›) | omega) _ _ _ _ _ _ _ _ _ _ _ _ _ _ _ _ _ B lF' X lN' T (by rfl) (le_room (k := 3) hdp rfl) (le_room (k := 24) hun rfl) ?_
    clear lF' lN'
    intro qC oC hpC9 tkC hOC F' N' hapC
    obtain ⟨u1C, u2C, u3C, nC, rfl⟩ := hOC
    have hneCDb : qC ≠ Db := fun e => hapC (Db, _) (by k_mem) e.symm
    clear hapC)
  k_with "call ref" => k_dflt (
    (with_reducible show wpAny _ _ (call (Value.ref 42) _) _ _ _)
    (rename Fr _ _ _ _ => lF'); (rename News _ _ _ _ => lN')
    refine' hsv_call w mean mg mb _ _ _ _ _ _ _ (hsv_facts (by assumption) (by assumption)).1 _ _ _ _ _ _ _ _ _ _ _ _ _ _ _ _ _ B lF' X lN' T (by rfl) (le_room (k := 3) hdp rfl) (le_room (k := 24) hun rfl) ?_
    clear lF' lN'
    intro qH oH hpH9 tkH hOH F' N' hapH
    obtain ⟨u1H, u2H, u3H, nH, rfl⟩ := hOH
    have hneHDb : qH ≠ Db := fun e => hapH (Db, _) (by k_mem) e.symm
    clear hapH)
  k_with "call ref" => k_dflt (
    (with_reducible show wpAny _ _ (call (Value.ref 35) _) _ _ _)
    (rename Fr _ _ _ _ => lF'); (rename News _ _ _ _ => lN')
    refine' hls_call w mean mg mb _ _ _ _ _ _ _ (hls_facts (by assumption) (by assumption)).1 _ _ _ _ _ _ _ _ _ _ _ _ _ _ _ _ _ B lF' X lN' T (by rfl) (le_room (k := 3) hdp rfl) (le_room (k := 24) hun rfl) ?_
    clear lF' lN'
    intro qG oG hpG9 tkG hOG F' N' hapG
    obtain ⟨u1G, u2G, u3G, nG, rfl⟩ := hOG
    clear hapG)
  k_with "call ref" => k_dflt (
    (with_reducible show wpAny _ _ (call (Value.ref 28) _) _ _ _)
    (rename Fr _ _ _ _ => lF'); (rename News _ _ _ _ => lN')
    refine' lev_call w mean mg mb _ _ _ _ _ _ _ (wordS_len (by assumption)) (wordS_len (by assumption)) _ _ _ _ _ _ _ _ _ _ _ _ _ _ _ _ _ B lF' X lN' T (by rfl) (le_room (k := 10) hdp rfl) (le_room (k := 60) hun rfl) ?_
    clear lF' lN'
    intro tV hpV9 tkV F' N')
  k_with "call ref" => k_dflt (
    (with_reducible show wpAny _ _ (call (Value.ref 84) _) _ _ _)
    (rename Fr _ _ _ _ => lF'); (rename News _ _ _ _ => lN')
    refine' fits_call w mean mg mb _ _ _ _ _ _ _ _ _ _ _ _ _ (by k_mem) (by with_reducible assumption) (by with_reducible assumption) (by with_reducible assumption) _ _ _ _ _ _ _ _ _ _ _ _ _ _ _ _ _ B lF' X lN' T (by rfl) (le_room (k := 3) hdp rfl) (le_room (k := 24) hun rfl) ?_
    clear lF' lN'
    intro tV hpV9 tkV F' N'
    first | rw [hV2] | rw [hG2])
  k_with "execs cons" => k_dflt ((with_reducible show wpAny _ _ (execs (Stmt.Return _ _ :: _) _) _ _ _); exfalso; first
    | exact absurd hLA (by with_reducible assumption)
    | exact bne_dead hV1 (by with_reducible assumption)
    | exact absurd hLB (by with_reducible assumption)
    | exact bne_dead hG1 (by with_reducible assumption)
    | exact absurd (hLC.trans (if_pos (by with_reducible assumption))) (by with_reducible assumption)
    | exact absurd (hLC.trans (if_neg (by with_reducible assumption))) (by with_reducible assumption))
  k_with "subscriptTail" => ((with_reducible show wpAny _ _ (subscriptTail (PySem.Expr.Tuple _ _ _) _ _ _) _ _ _); refine PySem.W.kba_turn (value' := PySem.Expr.Name (PySem.Str.ofString "_") ⟨0, 0, 0, 0⟩) (fun _ => rfl) ?_; (rename News _ _ _ _ => lN'); k_dflt (refine' item_someT (f := fun t => Value.int _ t) lN' (by k_mem) (by first | (with_reducible first | exact bN_0 | exact c4_0 | exact c4_n | exact c4_64 | exact cN_64 | assumption | exact And.left ‹_› | exact And.right ‹_› | exact b16_63 ‹_› | exact b6_63 ‹_› | exact b6_7 ‹_› | exact b6p_0 ‹_› | exact b6p_7 ‹_› | exact b6p_63 ‹_› | exact b4p_0 ‹_› | exact b4p_8 ‹_› | exact b4p_100 ‹_›) | omega) (by first | (with_reducible first | exact bN_0 | exact c4_0 | exact c4_n | exact c4_64 | exact cN_64 | assumption | exact And.left ‹_› | exact And.right ‹_› | exact b16_63 ‹_› | exact b6_63 ‹_› | exact b6_7 ‹_› | exact b6p_0 ‹_› | exact b6p_7 ‹_› | exact b6p_63 ‹_› | exact b4p_0 ‹_› | exact b4p_8 ‹_› | exact b4p_100 ‹_›) | omega) (six_get (by first | (with_reducible first | exact bN_0 | exact c4_0 | exact c4_n | exact c4_64 | exact cN_64 | assumption | exact And.left ‹_› | exact And.right ‹_› | exact b16_63 ‹_› | exact b6_63 ‹_› | exact b6_7 ‹_› | exact b6p_0 ‹_› | exact b6p_7 ‹_› | exact b6p_63 ‹_› | exact b4p_0 ‹_› | exact b4p_8 ‹_› | exact b4p_100 ‹_›) | omega) (by first | (with_reducible first | exact bN_0 | exact c4_0 | exact c4_n | exact c4_64 | exact cN_64 | assumption | exact And.left ‹_› | exact And.right ‹_› | exact b16_63 ‹_› | exact b6_63 ‹_› | exact b6_7 ‹_› | exact b6p_0 ‹_› | exact b6p_7 ‹_› | exact b6p_63 ‹_› | exact b4p_0 ‹_› | exact b4p_8 ‹_› | exact b4p_100 ‹_›) | omega)) ?_ (by with_unfolding_all rfl)); intro t6)
  k_with "InvEndN" => k_dflt (
    refine' kst_end ((cO.1.1 ++ [_], cO.1.2.1 ++ [_], _), (cO.2.1 ++ [_], cO.2.2.1 ++ [_], _)) (by assumption) (by assumption) ?hnI1 ?hoI1 (by rfl) ⟨IntsAre.append hIA (IntsAre.cons _ _ .nil), IntsAre.append hIB (IntsAre.cons _ _ .nil)⟩ (fun _ h => nomatch h) ?hrI1 ?hpI1
    (case hnI1 => exact List.forall_mem_cons.mpr ⟨by k_mem, List.forall_mem_cons.mpr ⟨by k_mem, List.forall_mem_cons.mpr ⟨by k_mem, List.forall_mem_cons.mpr ⟨by k_mem, List.forall_mem_cons.mpr ⟨by k_mem, fun _ h => nomatch h⟩⟩⟩⟩⟩)
    (case hoI1 => intro p hp; (repeat (first | exact hp | apply List.mem_cons_of_mem)))
    (case hrI1 =>
      intro z h1 h2 h3
      simp only [List.contains_cons, List.contains_nil, Bool.or_false, Bool.or_eq_false_iff, beq_eq_false_iff_ne, ne_eq] at h3
      simp +zetaDelta [h1, h3, kstB])
    (case hpI1 =>
      (simp only [List.length_append, List.length_cons, List.length_nil, Nat.zero_add, rangeKs_snoc, List.map_append, List.map_cons, List.map_nil, Int.zero_add])
      rw [← hPO.1, ← hPO.2]
      exact ⟨congrArg (fun x => cO.1.2.1 ++ [x]) (hLA.trans (priceF_eq ..).symm), congrArg (fun x => cO.2.2.1 ++ [x]) (hLB.trans (priceF_eq ..).symm)⟩))
  k_with "subscriptTail Name Name ref int" => k_dflt (
    (with_reducible show wpAny _ _ (subscriptTail _ _ (Value.ref Da) (Value.int _ _)) _ _ _)
    (rename News _ _ _ _ => lN')
    refine' item_listK (vs := cO.1.1 ++ [_]) lN' (by k_mem) (by first | (with_reducible first | exact bN_0 | exact c4_0 | exact c4_n | exact c4_64 | exact cN_64 | assumption | exact And.left ‹_› | exact And.right ‹_› | exact b16_63 ‹_› | exact b6_63 ‹_› | exact b6_7 ‹_› | exact b6p_0 ‹_› | exact b6p_7 ‹_› | exact b6p_63 ‹_› | exact b4p_0 ‹_› | exact b4p_8 ‹_› | exact b4p_100 ‹_›) | omega) (by first | (with_reducible first | exact bN_0 | exact c4_0 | exact c4_n | exact c4_64 | exact cN_64 | assumption | exact And.left ‹_› | exact And.right ‹_› | exact b16_63 ‹_› | exact b6_63 ‹_› | exact b6_7 ‹_› | exact b6p_0 ‹_› | exact b6p_7 ‹_› | exact b6p_63 ‹_› | exact b4p_0 ‹_› | exact b4p_8 ‹_› | exact b4p_100 ‹_›) | omega) (snoc_get hlA) ?_ (by with_unfolding_all rfl))
  k_with "subscriptTail Name Name ref int" => k_dflt (
    (with_reducible show wpAny _ _ (subscriptTail _ _ (Value.ref Db) (Value.int _ _)) _ _ _)
    (rename News _ _ _ _ => lN')
    refine' item_listK (vs := cO.2.1 ++ [_]) lN' (by k_mem) (by first | (with_reducible first | exact bN_0 | exact c4_0 | exact c4_n | exact c4_64 | exact cN_64 | assumption | exact And.left ‹_› | exact And.right ‹_› | exact b16_63 ‹_› | exact b6_63 ‹_› | exact b6_7 ‹_› | exact b6p_0 ‹_› | exact b6p_7 ‹_› | exact b6p_63 ‹_› | exact b4p_0 ‹_› | exact b4p_8 ‹_› | exact b4p_100 ‹_›) | omega) (by first | (with_reducible first | exact bN_0 | exact c4_0 | exact c4_n | exact c4_64 | exact cN_64 | assumption | exact And.left ‹_› | exact And.right ‹_› | exact b16_63 ‹_› | exact b6_63 ‹_› | exact b6_7 ‹_› | exact b6p_0 ‹_› | exact b6p_7 ‹_› | exact b6p_63 ‹_› | exact b4p_0 ‹_› | exact b4p_8 ‹_› | exact b4p_100 ‹_›) | omega) (snoc_get hlB) ?_ (by with_unfolding_all rfl))
  k_with "call builtin:max" => k_dflt (
    (rename Fr _ _ _ _ => lF'); (rename News _ _ _ _ => lN')
    refine' max3F (by rfl) lF' lN' ?_
    clear lF' lN'
    intro hM tkM tM F' N')
  k_with "call builtin:min" => k_dflt (
    (rename Fr _ _ _ _ => lF'); (rename News _ _ _ _ => lN')
    refine' min3F (by rfl) lF' lN' ?_
    clear lF' lN'
    intro hM tkM tM F' N')
  k_with "call builtin:list.append" => k_dflt (
    (with_reducible show wpAny _ _ (call (Value.builtin _) [Value.ref Da, _]) _ _ _)
    (rename Fr _ _ _ _ => lF'); (rename News _ _ _ _ => lN')
    refine' append_M (vs := cO.1.1) lF' lN' (by k_mem) ?zAa (fun v => (Db, listOf cO.2.1.toArray cO.2.2.2) :: (Da, listOf (cO.1.1 ++ [v]).toArray (cO.1.2.2 + 1)) :: (Dw, LCg.lst ys) :: (Dp, listOf vp.toArray ep) :: (L + 1, oc) :: ownO) (List.forall_mem_cons.mpr ⟨.inr ⟨by k_mem, Ne.symm hdab⟩, List.forall_mem_cons.mpr ⟨.inl rfl, List.forall_mem_cons.mpr ⟨.inr ⟨by k_mem, Ne.symm hdaw⟩, List.forall_mem_cons.mpr ⟨.inr ⟨by k_mem, Ne.symm hdap⟩, List.forall_mem_cons.mpr ⟨.inr ⟨by k_mem, Ne.symm hdal⟩, fun p hp => .inr ⟨by (repeat (first | exact hp | apply List.mem_cons_of_mem)), hoffO p hp _ (List.Mem.tail _ (List.Mem.head _))⟩⟩⟩⟩⟩⟩) ?_
    (case zAa => (have hz := hIA.length; rw [hz, hPO.1, List.length_map, rangeKs_length]; omega))
    clear lF' lN'
    intro h' F' N'
    (try dsimp only at N'))
  k_with "call builtin:list.append" => k_dflt (
    (with_reducible show wpAny _ _ (call (Value.builtin _) [Value.ref Db, _]) _ _ _)
    (rename Fr _ _ _ _ => lF'); (rename News _ _ _ _ => lN')
    refine' append_M (vs := cO.2.1) lF' lN' (by k_mem) ?zAb (fun v => (Db, listOf (cO.2.1 ++ [v]).toArray (cO.2.2.2 + 1)) :: (Da, _) :: (Dw, LCg.lst ys) :: (Dp, listOf vp.toArray ep) :: (L + 1, oc) :: ownO) (List.forall_mem_cons.mpr ⟨.inl rfl, List.forall_mem_cons.mpr ⟨.inr ⟨by k_mem, hdab⟩, List.forall_mem_cons.mpr ⟨.inr ⟨by k_mem, Ne.symm hdbw⟩, List.forall_mem_cons.mpr ⟨.inr ⟨by k_mem, Ne.symm hdbp⟩, List.forall_mem_cons.mpr ⟨.inr ⟨by k_mem, Ne.symm hdbl⟩, fun p hp => .inr ⟨by (repeat (first | exact hp | apply List.mem_cons_of_mem)), hoffO p hp _ (List.Mem.head _)⟩⟩⟩⟩⟩⟩) ?_
    (case zAb => (have hz := hIB.length; rw [hz, hPO.2, List.length_map, rangeKs_length]; omega))
    clear lF' lN'
    intro h' F' N'
    (try dsimp only at N'))
  k_steps
  all_goals (try dsimp +zetaDelta only)
  (refine hQ _ _ _ c.1.1 c.2.1 _ _ (by rw [← hPE.1]; exact hFa.1) (by rw [← hPE.2]; exact hFa.2) ?_ (by assumption) (by assumption); intro z h1 h2; exact (if_neg h1).trans (if_neg (by rw [h2]; exact Bool.false_ne_true)))
end Mine
end PartPlawn
section PartPlawdue
open PySem PySem.W PyProof.Rows PyProof.V
set_option maxHeartbeats 20000000
namespace Mine
theorem law_due : ∀ (w : World) (mean : ExcName → Option Value) (mg mb : Str → Option Value) (dp un : Nat) (gd : Option (List Code)) (a : Addr) (ccd : Value) (outer : List Env) (A₀ : Around) (base h₀ : Heap) (L : Addr) (s : Shared) (m₀ : Str → Option Value) (Q : Flow → Shared → Prop) (E : Value → Shared → Prop) (S Z W P : Int) (tS tW tk0 tp tq : Tok) (Dd Dw Ds : Addr) (ys vs : List Value) (so : List (Addr × Obj)) (e : Nat) (od : Obj),
    Below A₀ base outer h₀ → Fr h₀ L s.heap (fun y => if y = Str.ofString "due" then some (.ref Dd) else if y = Str.ofString "steps" then some (.ref Ds) else if y = Str.ofString "q" then some (.int (wayF S Z).2.2 tq) else if y = Str.ofString "p" then some (.int (wayF S Z).2.1 tp) else if y = Str.ofString "k" then some (.int (wayF S Z).1 tk0) else if y = Str.ofString "words" then some (.ref Dw) else if y = Str.ofString "start" then some (.int S tS) else if y = Str.ofString "weight" then some (.int W tW) else m₀ y) → Frag.In (hd.heap_39 w.params) h₀ → News h₀ L s.heap ((Dd, od) :: (Dw, LCg.lst ys) :: (Ds, listOf vs.toArray e) :: so) → Top hd.view_39 (looseW hd.view_39 []) mean mg mb h₀ → dp + 20 < recursionLimit → un + 200 < cLine → PassesOwn (model PySem.Challenge.rw_pm0039_01.row.prog w) (ktrTop dp un gd (Str.ofString "law") lawScope L a ccd (cellsFrom (L + 1) lawScope.names []) outer) (lawEnv L a ccd) E →
    (Dd ≠ Dw) → (Dd ≠ Ds) → (∀ p ∈ so, p.1 ≠ Dd) → (Dd == sysModules) = false → od.IsDictOf (strKind PySem.Challenge.rw_pm0039_01.row.prog w) [] → FlatPairs PyData.str [] (kdpD []) → WordsAre (ltr P) ys → StepsAre vs so → (0 ≤ S ∧ S < 16) → (0 ≤ Z ∧ Z < 16) → 
    (∀ h' tk' m' o' kvs', o'.IsDictOf (strKind PySem.Challenge.rw_pm0039_01.row.prog w) kvs' → FlatPairs PyData.str kvs' (kdpD (dueF (ltr P) W S Z)) → (∀ z, z ≠ Str.ofString "f" → [PySem.Str.ofString "g", PySem.Str.ofString "a", PySem.Str.ofString "b"].contains z = false → m' z = (fun y => if y = Str.ofString "due" then some (.ref Dd) else if y = Str.ofString "steps" then some (.ref Ds) else if y = Str.ofString "q" then some (.int (wayF S Z).2.2 tq) else if y = Str.ofString "p" then some (.int (wayF S Z).2.1 tp) else if y = Str.ofString "k" then some (.int (wayF S Z).1 tk0) else if y = Str.ofString "words" then some (.ref Dw) else if y = Str.ofString "start" then some (.int S tS) else if y = Str.ofString "weight" then some (.int W tW) else m₀ y) z) → Fr h₀ L h' m' → News h₀ L h' ((Dd, o') :: (Dw, LCg.lst ys) :: (Ds, listOf vs.toArray e) :: so) → Q .next { s with heap := h', toks := tk' }) →
    wpAny (model PySem.Challenge.rw_pm0039_01.row.prog w) (ktrTop dp un gd (Str.ofString "law") lawScope L a ccd (cellsFrom (L + 1) lawScope.names []) outer) (exec (lawStmt 21) (lawEnv L a ccd)) Q E s := by
  k_fill
  intro w mean mg mb dp un gd a ccd outer A₀ base h₀ L s m₀ Q E S Z W P tS tW tk0 tp tq Dd Dw Ds ys vs so e od B F KX N T hdp hun hE hdw hds hdso hlo hod hfd hW hSt hSb hZb hQ
  have X := KX
  obtain ⟨SC, hS⟩ : ∃ SC, SC = lawScope := ⟨_, rfl⟩
  conv at hS => rhs; whnf
  simp only [lawEnv] at hE ⊢
  simp only [show lawScope = SC from by rw [hS]; rfl] at hE ⊢
  subst hS
  first | (conv in List.drop _ lawBody => whnf) | (conv in lawStmt _ => whnf)
  refine fr_let F ?_; clear F; intro mF F
  w_top off
  k_with_none
  k_with "execs cons" => ((rename Fr _ _ _ _ => lF'); refine norm_st lF' s ?_; intro tkS; refine fr_let lF' ?_; intro mX F'; clear lF'; refine q_let ?_; intro qX; refine PySem.wpAny_execs_cons ?_)
  k_with "pyIter ref" => k_dflt (
    (with_reducible show wpAny _ _ (pyIter _) (fun it s₂ => LoopAtV _ _ _ _ _ (PySem.Str.ofString "g") _ _ _ it s₂) _ _)
    (rename IsRange _ _ _ _ _ _ _ _ => lR'); (rename Fr _ _ _ _ => lF'); (rename News _ _ _ _ => lN')
    refine' kst_range (σ := Obj × List (Str × Value) × List (Str × Int)) (n := ((wayF S Z).2.2 + 1).toNat) (fun c => (Dd, c.1) :: (Dw, LCg.lst ys) :: (Ds, listOf vs.toArray e) :: (so ++ ownO)) (fun _ => []) (fun c => c.1.IsDictOf (strKind PySem.Challenge.rw_pm0039_01.row.prog w) c.2.1 ∧ FlatPairs PyData.str c.2.1 (kdpD c.2.2)) [PySem.Str.ofString "a", PySem.Str.ofString "b"] (fun pre c => c.2.2 = dueIn (ltr P) W S Z preO.length cO.2.2 pre.length) (cO.1, cO.2.1, cO.2.2) (by rfl) lR' (rangeP (by first | (with_reducible first | exact bN_0 | exact c4_0 | exact c4_n | exact c4_64 | exact cN_64 | assumption | exact And.left ‹_› | exact And.right ‹_› | exact b16_63 ‹_› | exact b6_63 ‹_› | exact b6_7 ‹_› | exact b6p_0 ‹_› | exact b6p_7 ‹_› | exact b6p_63 ‹_› | exact b4p_0 ‹_› | exact b4p_8 ‹_› | exact b4p_100 ‹_›) | omega) (by first | (with_reducible first | exact bN_0 | exact c4_0 | exact c4_n | exact c4_64 | exact cN_64 | assumption | exact And.left ‹_› | exact And.right ‹_› | exact b16_63 ‹_› | exact b6_63 ‹_› | exact b6_7 ‹_› | exact b6p_0 ‹_› | exact b6p_7 ‹_› | exact b6p_63 ‹_› | exact b4p_0 ‹_› | exact b4p_8 ‹_› | exact b4p_100 ‹_›) | omega)).1 (rangeP (by first | (with_reducible first | exact bN_0 | exact c4_0 | exact c4_n | exact c4_64 | exact cN_64 | assumption | exact And.left ‹_› | exact And.right ‹_› | exact b16_63 ‹_› | exact b6_63 ‹_› | exact b6_7 ‹_› | exact b6p_0 ‹_› | exact b6p_7 ‹_› | exact b6p_63 ‹_› | exact b4p_0 ‹_› | exact b4p_8 ‹_› | exact b4p_100 ‹_›) | omega) (by first | (with_reducible first | exact bN_0 | exact c4_0 | exact c4_n | exact c4_64 | exact cN_64 | assumption | exact And.left ‹_› | exact And.right ‹_› | exact b16_63 ‹_› | exact b6_63 ‹_› | exact b6_7 ‹_› | exact b6p_0 ‹_› | exact b6p_7 ‹_› | exact b6p_63 ‹_› | exact b4p_0 ‹_› | exact b4p_8 ‹_› | exact b4p_100 ‹_›) | omega)).2 lF' lN' ⟨hdO, hfO⟩ (fun _ h => nomatch h) rfl ?_ ?_
    rotate_left
    clear lR' lF' lN'
    intro cG uG h tk hFaG hPG F' N'
    obtain ⟨hdG, hfG⟩ := hFaG
    rw [rangeKs_length] at hPG
    rotate_right
    clear lR' lF' lN'
    intro cI preI kI tI' uI h tk ownI hkI hltI hoffI hFaI hPI F' N'
    obtain ⟨hdI, hfI⟩ := hFaI
    simp only [List.cons_append, List.append_assoc] at N'
    obtain rfl : kI = (preI.length : Int) := hkI.trans (Int.zero_add _)
    have hgb : 0 ≤ (preI.length : Int) ∧ (preI.length : Int) ≤ (wayF S Z).2.2 := ⟨Int.natCast_nonneg _, by first | exact n_le (by with_reducible assumption) | omega⟩
    have hI8 := n_lt4 hgb.2 hbb3
    have hI64 := n_lt64 hgb.2 hbb3
    have hix := idx_facts hSb hZb hfb.2 hgb.2
    have hixe : idxF S Z preO.length preI.length = _ := rfl
    simp only [idxF] at hix
    have hsz : cI.2.2.length ≤ 1000 := by
      rw [hPI]
      have q1 := dueIn_len (l := ltr P) (W := W) (S := S) (Z := Z) (f := preO.length) (acc := cO.2.2) preI.length
      omega
    all_goals (try k_fold))
  k_with "pyIter ref" => k_dflt (
    (with_reducible show wpAny _ _ (pyIter _) (fun it s₂ => LoopAtV _ _ _ _ _ (PySem.Str.ofString "f") _ _ _ it s₂) _ _)
    (rename IsRange _ _ _ _ _ _ _ _ => lR'); (rename Fr _ _ _ _ => lF'); (rename News _ _ _ _ => lN')
    have hbb := way_bd hSb hZb
    obtain ⟨hbb1, hbb2, hbb3⟩ := id hbb
    refine' kst_range (σ := Obj × List (Str × Value) × List (Str × Int)) (n := ((wayF S Z).2.1 + 1).toNat) (fun c => (Dd, c.1) :: (Dw, LCg.lst ys) :: (Ds, listOf vs.toArray e) :: so) (fun _ => []) (fun c => c.1.IsDictOf (strKind PySem.Challenge.rw_pm0039_01.row.prog w) c.2.1 ∧ FlatPairs PyData.str c.2.1 (kdpD c.2.2)) [PySem.Str.ofString "g", PySem.Str.ofString "a", PySem.Str.ofString "b"] (fun pre c => c.2.2 = dueOut (ltr P) W S Z pre.length) (od, [], []) (by rfl) lR' (rangeP (by first | (with_reducible first | exact bN_0 | exact c4_0 | exact c4_n | exact c4_64 | exact cN_64 | assumption | exact And.left ‹_› | exact And.right ‹_› | exact b16_63 ‹_› | exact b6_63 ‹_› | exact b6_7 ‹_› | exact b6p_0 ‹_› | exact b6p_7 ‹_› | exact b6p_63 ‹_› | exact b4p_0 ‹_› | exact b4p_8 ‹_› | exact b4p_100 ‹_›) | omega) (by first | (with_reducible first | exact bN_0 | exact c4_0 | exact c4_n | exact c4_64 | exact cN_64 | assumption | exact And.left ‹_› | exact And.right ‹_› | exact b16_63 ‹_› | exact b6_63 ‹_› | exact b6_7 ‹_› | exact b6p_0 ‹_› | exact b6p_7 ‹_› | exact b6p_63 ‹_› | exact b4p_0 ‹_› | exact b4p_8 ‹_› | exact b4p_100 ‹_›) | omega)).1 (rangeP (by first | (with_reducible first | exact bN_0 | exact c4_0 | exact c4_n | exact c4_64 | exact cN_64 | assumption | exact And.left ‹_› | exact And.right ‹_› | exact b16_63 ‹_› | exact b6_63 ‹_› | exact b6_7 ‹_› | exact b6p_0 ‹_› | exact b6p_7 ‹_› | exact b6p_63 ‹_› | exact b4p_0 ‹_› | exact b4p_8 ‹_› | exact b4p_100 ‹_›) | omega) (by first | (with_reducible first | exact bN_0 | exact c4_0 | exact c4_n | exact c4_64 | exact cN_64 | assumption | exact And.left ‹_› | exact And.right ‹_› | exact b16_63 ‹_› | exact b6_63 ‹_› | exact b6_7 ‹_› | exact b6p_0 ‹_› | exact b6p_7 ‹_› | exact b6p_63 ‹_› | exact b4p_0 ‹_› | exact b4p_8 ‹_› | exact b4p_100 ‹_›) | omega)).2 lF' lN' ⟨hod, hfd⟩ (fun _ h => nomatch h) rfl ?_ ?_
    rotate_left
    clear lR' lF' lN'
    intro c u h tk hFa hPE F' N'
    rw [rangeKs_length] at hPE
    obtain ⟨hdE, hfE⟩ := hFa
    rotate_right
    clear lR' lF' lN'
    intro cO preO kO tO' u h tk ownO hkO hltO hoffO hFa hPO F' N'
    obtain ⟨hdO, hfO⟩ := hFa
    simp only [List.cons_append, List.append_assoc] at N'
    obtain rfl : kO = (preO.length : Int) := hkO.trans (Int.zero_add _)
    have hfb : 0 ≤ (preO.length : Int) ∧ (preO.length : Int) ≤ (wayF S Z).2.1 := ⟨Int.natCast_nonneg _, by first | exact n_le (by with_reducible assumption) | omega⟩
    have hO8 := n_lt4 hfb.2 hbb2
    have hO64 := n_lt64 hfb.2 hbb2
    have hszO : cO.2.2.length ≤ 16 := by
      have q1 := dueOut_len (l := ltr P) (W := W) (S := S) (Z := Z) (n_nat4 hbb3) preO.length
      rw [hPO]; omega
    all_goals (try k_fold))
  k_with "binaryOp Mult int int" => k_dflt (
    (with_reducible show wpAny _ _ (binaryOp _ (Value.int W _) _) _ _ _)
    have hos := ord_small (p := (preO.length : Int)) (q := (preI.length : Int)) ⟨hfb.1, hO8⟩ ⟨hgb.1, hI8⟩
    refine mul_int ?_ (mulOk_right (Nat.lt_trans hos (by decide))))
  k_with "call ref" => k_dflt (
    (with_reducible show wpAny _ _ (call (Value.ref 91) _) _ _ _)
    (rename Fr _ _ _ _ => lF'); (rename News _ _ _ _ => lN')
    refine' orders_call w mean mg mb _ _ _ _ _ (by first | (with_reducible first | exact bN_0 | exact c4_0 | exact c4_n | exact c4_64 | exact cN_64 | assumption | exact And.left ‹_› | exact And.right ‹_› | exact b16_63 ‹_› | exact b6_63 ‹_› | exact b6_7 ‹_› | exact b6p_0 ‹_› | exact b6p_7 ‹_› | exact b6p_63 ‹_› | exact b4p_0 ‹_› | exact b4p_8 ‹_› | exact b4p_100 ‹_›) | omega) (by first | (with_reducible first | exact bN_0 | exact c4_0 | exact c4_n | exact c4_64 | exact cN_64 | assumption | exact And.left ‹_› | exact And.right ‹_› | exact b16_63 ‹_› | exact b6_63 ‹_› | exact b6_7 ‹_› | exact b6p_0 ‹_› | exact b6p_7 ‹_› | exact b6p_63 ‹_› | exact b4p_0 ‹_› | exact b4p_8 ‹_› | exact b4p_100 ‹_›) | omega) (by first | (with_reducible first | exact bN_0 | exact c4_0 | exact c4_n | exact c4_64 | exact cN_64 | assumption | exact And.left ‹_› | exact And.right ‹_› | exact b16_63 ‹_› | exact b6_63 ‹_› | exact b6_7 ‹_› | exact b6p_0 ‹_› | exact b6p_7 ‹_› | exact b6p_63 ‹_› | exact b4p_0 ‹_› | exact b4p_8 ‹_› | exact b4p_100 ‹_›) | omega) (by first | (with_reducible first | exact bN_0 | exact c4_0 | exact c4_n | exact c4_64 | exact cN_64 | assumption | exact And.left ‹_› | exact And.right ‹_› | exact b16_63 ‹_› | exact b6_63 ‹_› | exact b6_7 ‹_› | exact b6p_0 ‹_› | exact b6p_7 ‹_› | exact b6p_63 ‹_› | exact b4p_0 ‹_› | exact b4p_8 ‹_› | exact b4p_100 ‹_›) | omega) _ _ _ _ _ _ _ _ _ _ _ _ _ _ _ _ _ B lF' X lN' T (by rfl) (le_room (k := 3) hdp rfl) (le_room (k := 24) hun rfl) ?_
    clear lF' lN'
    intro tV hpV9 tkV F' N')
  k_with "subscriptTail Name Name ref int" => k_dflt (
    (with_reducible show wpAny _ _ (subscriptTail _ _ (Value.ref Ds) (Value.int _ _)) _ _ _)
    (rename News _ _ _ _ => lN')
    obtain ⟨q9, t91, t92, n9, hq91, hq92⟩ := hSt ((wayF S Z).1) (by first | (with_reducible first | exact bN_0 | exact c4_0 | exact c4_n | exact c4_64 | exact cN_64 | assumption | exact And.left ‹_› | exact And.right ‹_› | exact b16_63 ‹_› | exact b6_63 ‹_› | exact b6_7 ‹_› | exact b6p_0 ‹_› | exact b6p_7 ‹_› | exact b6p_63 ‹_› | exact b4p_0 ‹_› | exact b4p_8 ‹_› | exact b4p_100 ‹_›) | omega) (by first | (with_reducible first | exact bN_0 | exact c4_0 | exact c4_n | exact c4_64 | exact cN_64 | assumption | exact And.left ‹_› | exact And.right ‹_› | exact b16_63 ‹_› | exact b6_63 ‹_› | exact b6_7 ‹_› | exact b6p_0 ‹_› | exact b6p_7 ‹_› | exact b6p_63 ‹_› | exact b4p_0 ‹_› | exact b4p_8 ‹_› | exact b4p_100 ‹_›) | omega)
    refine' item_listK lN' (by k_mem) (by first | (with_reducible first | exact bN_0 | exact c4_0 | exact c4_n | exact c4_64 | exact cN_64 | assumption | exact And.left ‹_› | exact And.right ‹_› | exact b16_63 ‹_› | exact b6_63 ‹_› | exact b6_7 ‹_› | exact b6p_0 ‹_› | exact b6p_7 ‹_› | exact b6p_63 ‹_› | exact b4p_0 ‹_› | exact b4p_8 ‹_› | exact b4p_100 ‹_›) | omega) (by first | (with_reducible first | exact bN_0 | exact c4_0 | exact c4_n | exact c4_64 | exact cN_64 | assumption | exact And.left ‹_› | exact And.right ‹_› | exact b16_63 ‹_› | exact b6_63 ‹_› | exact b6_7 ‹_› | exact b6p_0 ‹_› | exact b6p_7 ‹_› | exact b6p_63 ‹_› | exact b4p_0 ‹_› | exact b4p_8 ‹_› | exact b4p_100 ‹_›) | omega) hq91 ?_ (by with_unfolding_all rfl))
  k_with "subscriptTail Name BinOp ref int" => k_dflt (
    (with_reducible show wpAny _ _ (subscriptTail _ _ (Value.ref Ds) (Value.int _ _)) _ _ _)
    (rename News _ _ _ _ => lN')
    obtain ⟨q9, t91, t92, n9, hq91, hq92⟩ := hSt (((wayF S Z).1 + 1)) (by first | (with_reducible first | exact bN_0 | exact c4_0 | exact c4_n | exact c4_64 | exact cN_64 | assumption | exact And.left ‹_› | exact And.right ‹_› | exact b16_63 ‹_› | exact b6_63 ‹_› | exact b6_7 ‹_› | exact b6p_0 ‹_› | exact b6p_7 ‹_› | exact b6p_63 ‹_› | exact b4p_0 ‹_› | exact b4p_8 ‹_› | exact b4p_100 ‹_›) | omega) (by first | (with_reducible first | exact bN_0 | exact c4_0 | exact c4_n | exact c4_64 | exact cN_64 | assumption | exact And.left ‹_› | exact And.right ‹_› | exact b16_63 ‹_› | exact b6_63 ‹_› | exact b6_7 ‹_› | exact b6p_0 ‹_› | exact b6p_7 ‹_› | exact b6p_63 ‹_› | exact b4p_0 ‹_› | exact b4p_8 ‹_› | exact b4p_100 ‹_›) | omega)
    refine' item_listK lN' (by k_mem) (by first | (with_reducible first | exact bN_0 | exact c4_0 | exact c4_n | exact c4_64 | exact cN_64 | assumption | exact And.left ‹_› | exact And.right ‹_› | exact b16_63 ‹_› | exact b6_63 ‹_› | exact b6_7 ‹_› | exact b6p_0 ‹_› | exact b6p_7 ‹_› | exact b6p_63 ‹_› | exact b4p_0 ‹_› | exact b4p_8 ‹_› | exact b4p_100 ‹_›) | omega) (by first | (with_reducible first | exact bN_0 | exact c4_0 | exact c4_n | exact c4_64 | exact cN_64 | assumption | exact And.left ‹_› | exact And.right ‹_› | exact b16_63 ‹_› | exact b6_63 ‹_› | exact b6_7 ‹_› | exact b6p_0 ‹_› | exact b6p_7 ‹_› | exact b6p_63 ‹_› | exact b4p_0 ‹_› | exact b4p_8 ‹_› | exact b4p_100 ‹_›) | omega) hq91 ?_ (by with_unfolding_all rfl))
  k_with "subscriptTail Subscript" => k_dflt (
    (rename News _ _ _ _ => lN')
    refine' item_tupK lN' (by (repeat (first | (refine List.mem_append_left _ (by with_reducible assumption)) | apply List.mem_cons_of_mem))) (by decide) (by decide) (by rfl) ?_ (by with_unfolding_all rfl))
  k_with "subscriptTail Name BinOp ref int" => k_dflt (
    (with_reducible show wpAny _ _ (subscriptTail _ _ (Value.ref Dw) (Value.int _ _)) _ _ _)
    (rename News _ _ _ _ => lN')
    refine' item_someK (f := fun t => Value.str (wordS (ltr P) _) t) lN' (by k_mem) (by first | (with_reducible first | exact bN_0 | exact c4_0 | exact c4_n | exact c4_64 | exact cN_64 | assumption | exact And.left ‹_› | exact And.right ‹_› | exact b16_63 ‹_› | exact b6_63 ‹_› | exact b6_7 ‹_› | exact b6p_0 ‹_› | exact b6p_7 ‹_› | exact b6p_63 ‹_› | exact b4p_0 ‹_› | exact b4p_8 ‹_› | exact b4p_100 ‹_›) | omega) (by first | (with_reducible first | exact bN_0 | exact c4_0 | exact c4_n | exact c4_64 | exact cN_64 | assumption | exact And.left ‹_› | exact And.right ‹_› | exact b16_63 ‹_› | exact b6_63 ‹_› | exact b6_7 ‹_› | exact b6p_0 ‹_› | exact b6p_7 ‹_› | exact b6p_63 ‹_› | exact b4p_0 ‹_› | exact b4p_8 ‹_› | exact b4p_100 ‹_›) | omega) (hW _ (by first | (with_reducible first | exact bN_0 | exact c4_0 | exact c4_n | exact c4_64 | exact cN_64 | assumption | exact And.left ‹_› | exact And.right ‹_› | exact b16_63 ‹_› | exact b6_63 ‹_› | exact b6_7 ‹_› | exact b6p_0 ‹_› | exact b6p_7 ‹_› | exact b6p_63 ‹_› | exact b4p_0 ‹_› | exact b4p_8 ‹_› | exact b4p_100 ‹_›) | omega) (by first | (with_reducible first | exact bN_0 | exact c4_0 | exact c4_n | exact c4_64 | exact cN_64 | assumption | exact And.left ‹_› | exact And.right ‹_› | exact b16_63 ‹_› | exact b6_63 ‹_› | exact b6_7 ‹_› | exact b6p_0 ‹_› | exact b6p_7 ‹_› | exact b6p_63 ‹_› | exact b4p_0 ‹_› | exact b4p_8 ‹_› | exact b4p_100 ‹_›) | omega)) ?_ (by with_unfolding_all rfl)
    intro tW9)
  k_with "setItem ref str" => k_dflt (
    (rename Fr _ _ _ _ => lF'); (rename News _ _ _ _ => lN')
    refine' put_M (c := cI.2.2) lF' lN' (by k_mem) hdI hfI (by first | (with_reducible first | exact bN_0 | exact c4_0 | exact c4_n | exact c4_64 | exact cN_64 | assumption | exact And.left ‹_› | exact And.right ‹_› | exact b16_63 ‹_› | exact b6_63 ‹_› | exact b6_7 ‹_› | exact b6p_0 ‹_› | exact b6p_7 ‹_› | exact b6p_63 ‹_› | exact b4p_0 ‹_› | exact b4p_8 ‹_› | exact b4p_100 ‹_›) | omega) (fun o' => (Dd, o') :: (Dw, LCg.lst ys) :: (Ds, listOf vs.toArray e) :: (so ++ (ownO ++ ownI))) (fun o' => List.forall_mem_cons.mpr ⟨.inl rfl, List.forall_mem_cons.mpr ⟨.inr ⟨by k_mem, Ne.symm hdw⟩, List.forall_mem_cons.mpr ⟨.inr ⟨by k_mem, Ne.symm hds⟩, fun p hp => .inr ⟨by (repeat (first | exact hp | apply List.mem_cons_of_mem)), ?hneS⟩⟩⟩⟩) ?_
    (case hneS =>
      rcases List.mem_append.mp hp with hp | hp
      · exact hdso p hp
      · rcases List.mem_append.mp hp with hp | hp
        · exact hoffO p hp _ (List.Mem.head _)
        · exact hoffI p hp _ (List.Mem.head _))
    clear lF' lN'
    intro h' o9 kvs9 F' N' hd9 hf9
    (try dsimp only at N'))
  k_with "InvEndN" => k_dflt (
    have hGuard := hPG
    refine' kst_end (cG.1, cG.2.1, cG.2.2) (by assumption) (by assumption) ?hnO1 ?hoO1 (by rfl) ⟨hdG, hfG⟩ (fun _ h => nomatch h) ?hrO1 ?hpO1
    (case hnO1 => exact List.forall_mem_cons.mpr ⟨by k_mem, List.forall_mem_cons.mpr ⟨by k_mem, List.forall_mem_cons.mpr ⟨by k_mem, fun p hp => by (repeat (first | exact List.mem_append_left _ hp | apply List.mem_cons_of_mem))⟩⟩⟩)
    (case hoO1 => intro p hp; (repeat (first | exact List.mem_append_right _ hp | apply List.mem_cons_of_mem)))
    (case hrO1 =>
      intro z h1 h2 h3
      simp only [List.contains_cons, List.contains_nil, Bool.or_false, Bool.or_eq_false_iff, beq_eq_false_iff_ne, ne_eq] at h3
      simp +zetaDelta [h1, h3, kstB])
    (case hpO1 =>
      show cG.2.2 = _
      rw [List.length_append, List.length_cons, List.length_nil, dueOut_succ, ← hPO]
      exact hPG))
  k_with "InvEndN" => k_dflt (
    have hGuard := hd9
    refine' kst_end (o9, kvs9, _) (by assumption) (by assumption) ?hnI1 ?hoI1 (by rfl) ⟨hd9, hf9⟩ (fun _ h => nomatch h) ?hrI1 ?hpI1
    (case hnI1 => exact List.forall_mem_cons.mpr ⟨by k_mem, List.forall_mem_cons.mpr ⟨by k_mem, List.forall_mem_cons.mpr ⟨by k_mem, fun p hp => by (repeat (first | exact (List.append_assoc so ownO ownI) ▸ List.mem_append_left _ hp | apply List.mem_cons_of_mem))⟩⟩⟩)
    (case hoI1 => intro p hp; (repeat (first | exact List.mem_append_right _ (List.mem_append_right _ hp) | apply List.mem_cons_of_mem)))
    (case hrI1 =>
      intro z h1 h2 h3
      simp only [List.contains_cons, List.contains_nil, Bool.or_false, Bool.or_eq_false_iff, beq_eq_false_iff_ne, ne_eq] at h3
      simp +zetaDelta [h1, h3, kstB])
    (case hpI1 =>
      show kdpPut cI.2.2 _ _ = _
      rw [List.length_append, List.length_cons, List.length_nil, dueIn_succ, ← hPI]
      rfl))
  k_steps
  all_goals (try dsimp +zetaDelta only)
  (refine hQ _ _ _ _ _ hdE (by rw [hPE] at hfE; exact hfE) ?_ (by assumption) (by assumption); intro z h1 h2; exact (if_neg h1).trans (if_neg (by rw [h2]; exact Bool.false_ne_true)))
end Mine
end PartPlawdue
section PartPlawturn
open PySem PySem.W PyProof.Rows PyProof.V
set_option maxHeartbeats 20000000
namespace Mine
noncomputable def StopD (P : Prop) : Prop := P
theorem StopD.out {P : Prop} (h : StopD P) : P := h
theorem StopD.mk {P : Prop} (h : P) : StopD P := h
theorem law_turn : ∀ (w : World) (mean : ExcName → Option Value) (mg mb : Str → Option Value) (dp un : Nat) (gd : Option (List Code)) (a : Addr) (ccd : Value) (outer : List Env) (A₀ : Around) (base h₀ : Heap) (L : Addr) (s : Shared) (m₀ : Str → Option Value) (Q : Flow → Shared → Prop) (E : Value → Shared → Prop) (S Z W P : Int) (t1 t2 tE : Tok) (qT qM Dv Dw Da Db : Addr) (oT oM : Obj) (kT kM : List (Str × Value)) (vv ys va vb : List Value) (ev ea eb : Nat) (mo : List (Addr × Obj)),
    Below A₀ base outer h₀ → Fr h₀ L s.heap (fun y => if y = Str.ofString "met" then some (.ref qM) else if y = Str.ofString "table" then some (.ref qT) else if y = Str.ofString "moves" then some (.ref Dv) else if y = Str.ofString "value" then some (.float (hsvF (colR S Z) (colG S Z) colB).2.2 t1) else if y = Str.ofString "saturation" then some (.float (hsvF (colR S Z) (colG S Z) colB).2.1 t2) else if y = Str.ofString "behind" then some (.ref Db) else if y = Str.ofString "ahead" then some (.ref Da) else if y = Str.ofString "words" then some (.ref Dw) else if y = Str.ofString "end" then some (.int Z tE) else m₀ y) → Frag.In (hd.heap_39 w.params) h₀ → News h₀ L s.heap ((qT, oT) :: (qM, oM) :: (Dv, listOf vv.toArray ev) :: (Dw, LCg.lst ys) :: (Da, listOf va.toArray ea) :: (Db, listOf vb.toArray eb) :: mo) → Top hd.view_39 (looseW hd.view_39 []) mean mg mb h₀ → dp + 20 < recursionLimit → un + 200 < cLine → PassesOwn (model PySem.Challenge.rw_pm0039_01.row.prog w) (ktrTop dp un gd (Str.ofString "law") lawScope L a ccd (cellsFrom (L + 1) lawScope.names []) outer) (lawEnv L a ccd) E →
    (qT == sysModules) = false → (qM == sysModules) = false → oT.IsDictOf (strKind PySem.Challenge.rw_pm0039_01.row.prog w) kT → FlatPairs PyData.str kT (kdpD (tabS (ltr P) (runN P S Z (wayF S Z).1 W 0).1)) → oM.IsDictOf (strKind PySem.Challenge.rw_pm0039_01.row.prog w) kM → FlatPairs PyData.str kM (kdpD (tabS (ltr P) (runN P S Z (wayF S Z).1 W 0).2)) → MovesAre (wayF S Z).1 vv mo → (∀ p ∈ mo, ∀ a, p.2.data ≠ .fields a) → ys.length = 16 → WordsAre (ltr P) ys → NumsAre (fun n => priceF P S n) va → NumsAre (fun n => priceF P n Z) vb → (0 ≤ S ∧ S < 16) → (0 ≤ Z ∧ Z < 16) → (0 ≤ P ∧ P < 2) →
    (∀ h' tk' m' (qT qM : Addr) (oT oM : Obj) (kT kM : List (Str × Value)), (qM == sysModules) = false → oM.IsDictOf (strKind PySem.Challenge.rw_pm0039_01.row.prog w) kM → FlatPairs PyData.str kM (kdpD (tabS (ltr P) (runN P S Z (wayF S Z).1 W ((wayF S Z).2.1 + (wayF S Z).2.2).toNat).2)) → m' (Str.ofString "met") = some (.ref qM) → (∀ z, z ≠ Str.ofString "turn" → z ≠ Str.ofString "table" → z ≠ Str.ofString "met" → [PySem.Str.ofString "further", PySem.Str.ofString "word", PySem.Str.ofString "ways", PySem.Str.ofString "red", PySem.Str.ofString "green", PySem.Str.ofString "blue", PySem.Str.ofString "a", PySem.Str.ofString "b"].contains z = false → m' z = (fun y => if y = Str.ofString "met" then some (.ref qM) else if y = Str.ofString "table" then some (.ref qT) else if y = Str.ofString "moves" then some (.ref Dv) else if y = Str.ofString "value" then some (.float (hsvF (colR S Z) (colG S Z) colB).2.2 t1) else if y = Str.ofString "saturation" then some (.float (hsvF (colR S Z) (colG S Z) colB).2.1 t2) else if y = Str.ofString "behind" then some (.ref Db) else if y = Str.ofString "ahead" then some (.ref Da) else if y = Str.ofString "words" then some (.ref Dw) else if y = Str.ofString "end" then some (.int Z tE) else m₀ y) z) → Fr h₀ L h' m' → News h₀ L h' ((qT, oT) :: (qM, oM) :: (Dv, listOf vv.toArray ev) :: (Dw, LCg.lst ys) :: (Da, listOf va.toArray ea) :: (Db, listOf vb.toArray eb) :: mo) → Q .next { s with heap := h', toks := tk' }) →
    wpAny (model PySem.Challenge.rw_pm0039_01.row.prog w) (ktrTop dp un gd (Str.ofString "law") lawScope L a ccd (cellsFrom (L + 1) lawScope.names []) outer) (exec (lawStmt 17) (lawEnv L a ccd)) Q E s := by
  k_fill
  intro w mean mg mb dp un gd a ccd outer A₀ base h₀ L s m₀ Q E S Z W P t1 t2 tE qT qM Dv Dw Da Db oT oM kT kM vv ys va vb ev ea eb mo B F KX N T hdp hun hE hloT hloM hdT hfT hdM hfM hMv hmo hyl hW hNa hNb hSb hZb hPb hQ
  have X := KX
  obtain ⟨SC, hS⟩ : ∃ SC, SC = lawScope := ⟨_, rfl⟩
  conv at hS => rhs; whnf
  simp only [lawEnv] at hE ⊢
  simp only [show lawScope = SC from by rw [hS]; rfl] at hE ⊢
  subst hS
  first | (conv in List.drop _ lawBody => whnf) | (conv in lawStmt _ => whnf)
  obtain ⟨hTn1, hTn2, hTn3⟩ := (corn_facts hSb hZb).2
  simp only [turnF] at hTn1 hTn2 hTn3
  refine fr_let F ?_; clear F; intro mF F
  w_top off
  k_with_none
  k_with "execs cons" => (refine q_let ?_; intro qX; refine PySem.wpAny_execs_cons ?_)
  k_with "execs cons" => ((rename Fr _ _ _ _ => lF'); refine fr_let lF' ?_; intro mX F'; clear lF'; refine q_let ?_; intro qX; refine PySem.wpAny_execs_cons ?_)
  k_with "execs cons" => ((rename Fr _ _ _ _ => lF'); refine norm_st lF' s ?_; intro tkS; refine fr_let lF' ?_; intro mX F'; clear lF'; refine q_let ?_; intro qX; refine PySem.wpAny_execs_cons ?_)
  k_with "pyIter ref" => k_dflt (
    (with_reducible show wpAny _ _ (pyIter _) (fun it s₂ => LoopAtV _ _ _ _ _ (PySem.Str.ofString "turn") _ _ _ it s₂) _ _)
    (rename IsRange _ _ _ _ _ _ _ _ => lR'); (rename Fr _ _ _ _ => lF'); (rename News _ _ _ _ => lN')
    have hbb := way_bd hSb hZb
    rw [hTn3] at lR'
    refine' kst_rangeM (σ := (Addr × Obj × List (Str × Value)) × (Addr × Obj × List (Str × Value))) (n := ((wayF S Z).2.1 + (wayF S Z).2.2).toNat) (fun c => (c.1.1, c.1.2.1) :: (c.2.1, c.2.2.1) :: (Dv, listOf vv.toArray ev) :: (Dw, LCg.lst ys) :: (Da, listOf va.toArray ea) :: (Db, listOf vb.toArray eb) :: mo) (fun c => [(PySem.Str.ofString "table", .ref c.1.1), (PySem.Str.ofString "met", .ref c.2.1)]) (fun c => ((c.1.1 == sysModules) = false ∧ (c.2.1 == sysModules) = false) ∧ c.1.2.1.IsDictOf (strKind PySem.Challenge.rw_pm0039_01.row.prog w) c.1.2.2 ∧ c.2.2.1.IsDictOf (strKind PySem.Challenge.rw_pm0039_01.row.prog w) c.2.2.2) [PySem.Str.ofString "further", PySem.Str.ofString "word", PySem.Str.ofString "ways", PySem.Str.ofString "red", PySem.Str.ofString "green", PySem.Str.ofString "blue", PySem.Str.ofString "a", PySem.Str.ofString "b"] (fun i c => FlatPairs PyData.str c.1.2.2 (kdpD (tabS (ltr P) (runN P S Z (wayF S Z).1 W i).1)) ∧ FlatPairs PyData.str c.2.2.2 (kdpD (tabS (ltr P) (runN P S Z (wayF S Z).1 W i).2))) ((qT, oT, kT), (qM, oM, kM)) (by rfl) lR' (rangeP (by first | (with_reducible first | exact bN_0 | exact c4_0 | exact c4_n | exact c4_64 | exact cN_64 | assumption | exact And.left ‹_› | exact And.right ‹_› | exact b16_63 ‹_› | exact b6_63 ‹_› | exact b6_7 ‹_› | exact b6p_0 ‹_› | exact b6p_7 ‹_› | exact b6p_63 ‹_› | exact b4p_0 ‹_› | exact b4p_8 ‹_› | exact b4p_100 ‹_›) | omega) (by first | (with_reducible first | exact bN_0 | exact c4_0 | exact c4_n | exact c4_64 | exact cN_64 | assumption | exact And.left ‹_› | exact And.right ‹_› | exact b16_63 ‹_› | exact b6_63 ‹_› | exact b6_7 ‹_› | exact b6p_0 ‹_› | exact b6p_7 ‹_› | exact b6p_63 ‹_› | exact b4p_0 ‹_› | exact b4p_8 ‹_› | exact b4p_100 ‹_›) | omega)).1 (rangeP (by first | (with_reducible first | exact bN_0 | exact c4_0 | exact c4_n | exact c4_64 | exact cN_64 | assumption | exact And.left ‹_› | exact And.right ‹_› | exact b16_63 ‹_› | exact b6_63 ‹_› | exact b6_7 ‹_› | exact b6p_0 ‹_› | exact b6p_7 ‹_› | exact b6p_63 ‹_› | exact b4p_0 ‹_› | exact b4p_8 ‹_› | exact b4p_100 ‹_›) | omega) (by first | (with_reducible first | exact bN_0 | exact c4_0 | exact c4_n | exact c4_64 | exact cN_64 | assumption | exact And.left ‹_› | exact And.right ‹_› | exact b16_63 ‹_› | exact b6_63 ‹_› | exact b6_7 ‹_› | exact b6p_0 ‹_› | exact b6p_7 ‹_› | exact b6p_63 ‹_› | exact b4p_0 ‹_› | exact b4p_8 ‹_› | exact b4p_100 ‹_›) | omega)).2 lF' lN' ⟨⟨hloT, hloM⟩, hdT, hdM⟩ ?hkT ⟨hfT, hfM⟩ [] (fun _ h => nomatch h) ?hflT ?_ ?_
    (case hkT => exact List.forall_mem_cons.mpr ⟨rfl, List.forall_mem_cons.mpr ⟨rfl, fun _ h => nomatch h⟩⟩)
    (case hflT => exact fun c hf => List.forall_mem_cons.mpr ⟨.inr (dict_nf hf.2.1), List.forall_mem_cons.mpr ⟨.inr (dict_nf hf.2.2), List.forall_mem_cons.mpr ⟨.inr (fun _ h => nomatch h), List.forall_mem_cons.mpr ⟨.inr (fun _ h => nomatch h), List.forall_mem_cons.mpr ⟨.inr (fun _ h => nomatch h), List.forall_mem_cons.mpr ⟨.inr (fun _ h => nomatch h), fun p hp => .inr (hmo p hp)⟩⟩⟩⟩⟩⟩)
    rotate_left
    clear lR' lF' lN'
    intro cE uE h tk hFaE hPE F' N'
    rotate_right
    clear lR' lF' lN'
    intro cO iO tO uO h tk ownO hiO hFaO hPO F' N'
    obtain ⟨⟨hlo1, hlo2⟩, hd1, hd2⟩ := hFaO
    obtain ⟨hf1, hf2⟩ := hPO
    obtain ⟨hKT, hKM⟩ := runN_ok (Z := Z) (k := (wayF S Z).1) (W := W) hPb hSb iO
    have hLT := run_len (W := W) hPb hSb hZb (i := iO) (by first | exact Nat.le_of_lt (by with_reducible assumption) | omega)
    simp only [List.cons_append] at N'
    all_goals (try k_fold))
  k_with "exec For Tuple Call cons nil" => k_dflt (
    (rename Fr _ _ _ _ => lF'); (rename News _ _ _ _ => lN')
    have hTabT : TabAt (strKind PySem.Challenge.rw_pm0039_01.row.prog w) PyData.str _ cO.1.1 (kdpD (tabS (ltr P) (runN P S Z (wayF S Z).1 W iO).1)) := ⟨hlo1, cO.1.2.2, Heap.dictOf_iff.mpr ⟨cO.1.2.1, (lN' (cO.1.1, cO.1.2.1) (by k_mem)).1, hd1⟩, hf1⟩
    with_unfolding_all ((refine For_pair_inv h₀ ?_); (refine MethodCall_ ?_); (refine' nameX_L lF' ?v9 ?_ ?a9 ?b9; (case a9 => rfl); (case b9 => rfl); (case v9 => rfl)); (refine getMethod_tab (knd := strKind _ _) (enc := PyData.str) PySem.F.slot_dict_items PySem.F.type_dict_items hTabT ?_); (refine callWith_method0 ?_); (refine call_items_tab (knd := strKind _ _) (enc := PyData.str) hTabT lF' lN' ?_))
    clear hTabT lF' lN'
    intro h' o' hv' F' N'
    replace N' := kti_tail N'
    refine' kst_itemsM (σ := Addr × Obj × List (Str × Value)) (d := cO.1.1) (od := cO.1.2.1) (cc := tabS (ltr P) (runN P S Z (wayF S Z).1 W iO).1) (fun c => (c.1, c.2.1) :: ((cO.1.1, cO.1.2.1) :: (cO.2.1, cO.2.2.1) :: (Dv, listOf vv.toArray ev) :: (Dw, LCg.lst ys) :: (Da, listOf va.toArray ea) :: (Db, listOf vb.toArray eb) :: (mo ++ ownO))) (fun c => [(PySem.Str.ofString "further", .ref c.1)]) (fun c => (c.1 == sysModules) = false ∧ c.2.1.IsDictOf (strKind PySem.Challenge.rw_pm0039_01.row.prog w) c.2.2) [PySem.Str.ofString "red", PySem.Str.ofString "green", PySem.Str.ofString "blue", PySem.Str.ofString "a", PySem.Str.ofString "b"] (fun j c => FlatPairs PyData.str c.2.2 (kdpD (tabS (ltr P) (wordAcc P S Z (wayF S Z).1 (runN P S Z (wayF S Z).1 W iO).1 j)))) (_, _, []) (by rfl) (by rfl) (by rfl) (by rfl) hv' hd1 hf1 F' N' (fun c => by k_mem) ⟨by assumption, by assumption⟩ ?hkW (show FlatPairs PyData.str ([] : List (Str × Value)) [] from .nil) ((cO.1.1, cO.1.2.1) :: (cO.2.1, cO.2.2.1) :: (Dv, listOf vv.toArray ev) :: (Dw, LCg.lst ys) :: (Da, listOf va.toArray ea) :: (Db, listOf vb.toArray eb) :: (mo ++ ownO)) ?hfxW ?hflW ?_ ?_
    (case hkW => exact List.forall_mem_cons.mpr ⟨rfl, fun _ h => nomatch h⟩)
    (case hfxW => exact fun p hp => List.mem_cons_of_mem _ hp)
    (case hflW => exact fun c hf => List.forall_mem_cons.mpr ⟨.inr (dict_nf hf.2), fun p hp => .inl hp⟩)
    rotate_left
    clear F' N'
    intro cF uF h tk hFaF hPF F' N'
    obtain ⟨hloF, hdF⟩ := hFaF
    rw [tabS_len, show wordAcc P S Z (wayF S Z).1 (runN P S Z (wayF S Z).1 W iO).1 (runN P S Z (wayF S Z).1 W iO).1.length = (runN P S Z (wayF S Z).1 W (iO + 1)).1 from congrArg (List.foldl _ []) (List.take_length ..)] at hPF
    rotate_right
    clear F' N'
    intro cW jW kW nW tkW tnW uW h tk ownW hcW hFaW hPW F' N'
    obtain ⟨hloW, hdW⟩ := hFaW
    obtain ⟨mW, hTW, rfl⟩ := tabS_get hcW
    have hmW : mW < 16 := hKT _ (List.mem_of_getElem? hTW)
    have hjW : jW < (runN P S Z (wayF S Z).1 W iO).1.length := (List.getElem?_eq_some_iff.mp hTW).1
    obtain ⟨hKW, hLW⟩ := wordAcc_ok (S := S) (Z := Z) (k := (wayF S Z).1) (T := (runN P S Z (wayF S Z).1 W iO).1) hPb jW
    simp only [List.cons_append, List.append_assoc] at N'
    all_goals (try k_fold))
  k_with "subscriptTail Name Name ref int" => k_dflt (
    (with_reducible show wpAny _ _ (subscriptTail _ _ (Value.ref Dw) (Value.int _ _)) _ _ _)
    (rename News _ _ _ _ => lN')
    refine' item_someK (f := fun t => Value.str (wordS (ltr P) _) t) lN' (by k_mem) (by first | exact pl_0 (by with_reducible assumption) (by with_reducible assumption) | omega) (by first | exact pl_63 (by with_reducible assumption) (by with_reducible assumption) | omega) (hW _ (by first | exact pl_0 (by with_reducible assumption) (by with_reducible assumption) | omega) (by first | exact pl_16 (by with_reducible assumption) (by with_reducible assumption) | omega)) ?_ (by with_unfolding_all rfl)
    intro tW9)
  k_with "subscriptTail Name Name ref int" => k_dflt (
    (with_reducible show wpAny _ _ (subscriptTail _ _ (Value.ref Da) (Value.int _ _)) _ _ _)
    (rename News _ _ _ _ => lN')
    refine' item_someK (f := fun t => Value.int (priceF P S _) t) lN' (by k_mem) (by first | exact pl_0 (by with_reducible assumption) (by with_reducible assumption) | omega) (by first | exact pl_63 (by with_reducible assumption) (by with_reducible assumption) | omega) (hNa _ (by first | exact pl_0 (by with_reducible assumption) (by with_reducible assumption) | omega) (by first | exact pl_16 (by with_reducible assumption) (by with_reducible assumption) | omega)) ?_ (by with_unfolding_all rfl)
    intro tW9)
  k_with "subscriptTail Name Name ref int" => k_dflt (
    (with_reducible show wpAny _ _ (subscriptTail _ _ (Value.ref Db) (Value.int _ _)) _ _ _)
    (rename News _ _ _ _ => lN')
    refine' item_someK (f := fun t => Value.int (priceF P _ Z) t) lN' (by k_mem) (by first | exact pl_0 (by with_reducible assumption) (by with_reducible assumption) | omega) (by first | exact pl_63 (by with_reducible assumption) (by with_reducible assumption) | omega) (hNb _ (by first | exact pl_0 (by with_reducible assumption) (by with_reducible assumption) | omega) (by first | exact pl_16 (by with_reducible assumption) (by with_reducible assumption) | omega)) ?_ (by with_unfolding_all rfl)
    intro tW9)
  k_with "subscriptTail Name BinOp ref int" => k_dflt (
    (with_reducible show wpAny _ _ (subscriptTail _ _ (Value.ref Dw) (Value.int _ _)) _ _ _)
    (rename News _ _ _ _ => lN')
    refine' item_someK (f := fun t => Value.str (wordS (ltr P) _) t) lN' (by k_mem) (by first | exact pl_0 (by with_reducible assumption) (by with_reducible assumption) | omega) (by first | exact pl_63 (by with_reducible assumption) (by with_reducible assumption) | omega) (hW _ (by first | exact pl_0 (by with_reducible assumption) (by with_reducible assumption) | omega) (by first | exact pl_16 (by with_reducible assumption) (by with_reducible assumption) | omega)) ?_ (by with_unfolding_all rfl)
    intro tW9)
  k_with "subscriptTail Name BinOp ref int" => k_dflt (
    (with_reducible show wpAny _ _ (subscriptTail _ _ (Value.ref Da) (Value.int _ _)) _ _ _)
    (rename News _ _ _ _ => lN')
    refine' item_someK (f := fun t => Value.int (priceF P S _) t) lN' (by k_mem) (by first | exact pl_0 (by with_reducible assumption) (by with_reducible assumption) | omega) (by first | exact pl_63 (by with_reducible assumption) (by with_reducible assumption) | omega) (hNa _ (by first | exact pl_0 (by with_reducible assumption) (by with_reducible assumption) | omega) (by first | exact pl_16 (by with_reducible assumption) (by with_reducible assumption) | omega)) ?_ (by with_unfolding_all rfl)
    intro tW9)
  k_with "subscriptTail Name BinOp ref int" => k_dflt (
    (with_reducible show wpAny _ _ (subscriptTail _ _ (Value.ref Db) (Value.int _ _)) _ _ _)
    (rename News _ _ _ _ => lN')
    refine' item_someK (f := fun t => Value.int (priceF P _ Z) t) lN' (by k_mem) (by first | exact pl_0 (by with_reducible assumption) (by with_reducible assumption) | omega) (by first | exact pl_63 (by with_reducible assumption) (by with_reducible assumption) | omega) (hNb _ (by first | exact pl_0 (by with_reducible assumption) (by with_reducible assumption) | omega) (by first | exact pl_16 (by with_reducible assumption) (by with_reducible assumption) | omega)) ?_ (by with_unfolding_all rfl)
    intro tW9)
  k_with "exec For Tuple Name cons nil" => k_dflt (
    (rename Fr _ _ _ _ => lF')
    refine' For_invTF lF' ?_ (by intro _; with_unfolding_all rfl))
  k_with "pyIter ref" => k_dflt (
    (with_reducible show wpAny _ _ (pyIter _) (fun it s₂ => LoopAtT _ _ _ _ _ _ _ _ _ it s₂) _ _)
    (rename Fr _ _ _ _ => lF'); (rename News _ _ _ _ => lN')
    refine' kst_listM (xs := [PySem.Str.ofString "red", PySem.Str.ofString "green", PySem.Str.ofString "blue"]) (σ := Addr × Obj × List (Str × Value)) (l := Dv) (vs := vv) (nn := ev) (fun c => (c.1, c.2.1) :: ((cO.1.1, cO.1.2.1) :: (cO.2.1, cO.2.2.1) :: (Dv, listOf vv.toArray ev) :: (Dw, LCg.lst ys) :: (Da, listOf va.toArray ea) :: (Db, listOf vb.toArray eb) :: (mo ++ (ownO ++ ownW)))) (fun c => [(PySem.Str.ofString "further", .ref c.1)]) (fun c => (c.1 == sysModules) = false ∧ c.2.1.IsDictOf (strKind PySem.Challenge.rw_pm0039_01.row.prog w) c.2.2) [PySem.Str.ofString "a", PySem.Str.ofString "b"] (fun i c => FlatPairs PyData.str c.2.2 (kdpD (tabS (ltr P) (mvAcc P S Z (wayF S Z).1 (wordAcc P S Z (wayF S Z).1 (runN P S Z (wayF S Z).1 W iO).1 jW) (mW, nW) i)))) (cW.1, cW.2.1, cW.2.2) (by rfl) (fun c => by k_mem) lF' lN' ⟨hloW, hdW⟩ ?hkV hPW ((cO.1.1, cO.1.2.1) :: (cO.2.1, cO.2.2.1) :: (Dv, listOf vv.toArray ev) :: (Dw, LCg.lst ys) :: (Da, listOf va.toArray ea) :: (Db, listOf vb.toArray eb) :: (mo ++ (ownO ++ ownW))) ?hfxV ?hflV ?_ ?_
    (case hkV => exact List.forall_mem_cons.mpr ⟨rfl, fun _ h => nomatch h⟩)
    (case hfxV => exact fun p hp => List.mem_cons_of_mem _ hp)
    (case hflV => exact fun c hf => List.forall_mem_cons.mpr ⟨.inr (dict_nf hf.2), fun p hp => .inl hp⟩)
    rotate_left
    clear lF' lN'
    intro cG uG h tk hFaG hPG F' N'
    obtain ⟨hloG, hdG⟩ := hFaG
    rw [hMv.1] at hPG
    rotate_right
    clear lF' lN'
    intro cV iV vV uV sV ownV hvV hFaV hPV F' N'
    obtain ⟨hloV, hdV⟩ := hFaV
    have hiV : iV < 2 := Nat.lt_of_lt_of_eq (List.getElem?_eq_some_iff.mp hvV).1 hMv.1
    obtain ⟨q9, t91, t92, t93, n9, hq91, hq92⟩ := hMv.2 iV hiV
    obtain rfl : vV = .ref q9 := Option.some.inj (hvV.symm.trans hq91)
    obtain ⟨_, ⟨hn1, hn2, hn3, hn4⟩, hmx, hmy⟩ := mv_facts (c := (wayF S Z).1 + (iV : Int)) (w_0 (way_bd hSb hZb).1) (w_7 (way_bd hSb hZb).1 hiV)
    obtain ⟨dxV, hdxV⟩ : ∃ d, d = stX ((wayF S Z).1 + (iV : Int)) := ⟨_, rfl⟩
    obtain ⟨dyV, hdyV⟩ : ∃ d, d = stY ((wayF S Z).1 + (iV : Int)) := ⟨_, rfl⟩
    rw [← hdxV] at hmx
    rw [← hdyV] at hmy
    obtain ⟨hKV, hLV⟩ := mvAcc_ok (S := S) (Z := Z) (k := (wayF S Z).1) (q := (mW, nW)) hPb hKW iV (Nat.le_of_lt hiV)
    simp only [List.cons_append, List.append_assoc] at N'
    all_goals (try k_fold))
  k_with "assign Tuple" => k_dflt (
    (with_reducible show wpAny _ _ (assign _ _ (Value.ref q9)) _ _ _)
    (rename Fr _ _ _ _ => lF'); (rename News _ _ _ _ => lN')
    refine' unpackN_ lF' lN' (News.isTup lN' (by (repeat (first | (refine List.mem_append_left _ (by with_reducible assumption)) | apply List.mem_cons_of_mem)))) (by exact rfl) (by exact rfl) (by exact rfl) ?_
    clear lF' lN'
    intro h' F' N')
  k_with "call builtin:list.index" => k_dflt (
    (rename News _ _ _ _ => lN')
    refine' index_word (k := (mW : Int)) hPb (by first | exact ⟨Int.natCast_nonneg _, Int.ofNat_lt.mpr (by assumption)⟩ | omega) hyl hW lN' (by k_mem) ?_)
  k_with "call type:int" => k_dflt (
    (with_reducible show wpAny _ _ (call _ [Value.float (Float64.sub (Prod.fst (mvT _)) _) _]) _ _ _)
    (fail_if_success (with_reducible show wpAny _ _ _ (EJoin _ _ _ _) _ _))
    (rename Fr _ _ _ _ => lF'); (rename News _ _ _ _ => lN')
    refine' eJoinV (h₀ := h₀) (L := L) lF' lN' (fun t => .int dxV t) ?_ ?_
    rotate_left
    clear lF' lN'
    intro tJ hJ tkJ F' N'
    rotate_right)
  k_with "call type:int" => k_dflt (
    (with_reducible show wpAny _ _ (call _ [Value.float (Float64.sub (Prod.fst (Prod.snd (mvT _))) _) _]) _ _ _)
    (fail_if_success (with_reducible show wpAny _ _ _ (EJoin _ _ _ _) _ _))
    (rename Fr _ _ _ _ => lF'); (rename News _ _ _ _ => lN')
    refine' eJoinV (h₀ := h₀) (L := L) lF' lN' (fun t => .int dyV t) ?_ ?_
    rotate_left
    clear lF' lN'
    intro tJ hJ tkJ F' N'
    rotate_right)
  k_with "EJoin" => k_dflt (first
    | exact EJoin.intro (by assumption) (by assumption) ⟨rfl, rfl, _, congrArg (fun z => Value.int z _) hmx⟩
    | exact EJoin.intro (by assumption) (by assumption) ⟨rfl, rfl, _, congrArg (fun z => Value.int z _) hmy⟩)
  k_with "InvPostM" => k_dflt (refine InvPostM.next ?_)
  k_with "call ref" => k_dflt (
    (with_reducible show wpAny _ _ (call (Value.ref 56) [Value.ref (Prod.fst cV), _]) _ _ _)
    (rename Fr _ _ _ _ => lF'); (rename News _ _ _ _ => lN')
    refine' add_call w mean mg mb _ cV.1 cV.2.1 cV.2.2 (tabS (ltr P) (mvAcc P S Z (wayF S Z).1 (wordAcc P S Z (wayF S Z).1 (runN P S Z (wayF S Z).1 W iO).1 jW) (mW, nW) iV)) (by k_mem) hloV hdV hPV (by rw [tabS_len]; first | exact le_400 (And.left (by with_reducible assumption)) | exact le_400 (And.right (by with_reducible assumption)) | omega) dD9 oD8 _ [(wordS (ltr P) _, nW)] (by k_mem) lo9 hdD8 hfD8 (by show 1 ≤ 400; decide) _ _ _ _ _ _ _ _ _ _ _ _ _ _ _ _ _ B lF' X lN' T (by rfl) (le_room (k := 3) hdp rfl) (le_room (k := 24) hun rfl) ?_
    clear lF' lN'
    intro q9a o9a k9a h9a tk9a hd9a hf9a hlo9a F' N' hap9a
    clear hap9a)
  k_with "call ref" => k_dflt (
    (with_reducible show wpAny _ _ (call (Value.ref 56) [Value.ref (Prod.fst (Prod.snd cO)), Value.ref (Prod.fst cF)]) _ _ _)
    (rename Fr _ _ _ _ => lF'); (rename News _ _ _ _ => lN')
    have hLTn := run_len (W := W) hPb hSb hZb (i := iO + 1) (by first | exact Nat.succ_le_of_lt (by with_reducible assumption) | omega)
    refine' add_call w mean mg mb _ cO.2.1 cO.2.2.1 cO.2.2.2 (tabS (ltr P) (runN P S Z (wayF S Z).1 W iO).2) (by k_mem) hlo2 hd2 hf2 (by rw [tabS_len]; first | exact le_400 (And.left (by with_reducible assumption)) | exact le_400 (And.right (by with_reducible assumption)) | omega) cF.1 cF.2.1 cF.2.2 (tabS (ltr P) (runN P S Z (wayF S Z).1 W (iO + 1)).1) (by k_mem) hloF hdF hPF (by rw [tabS_len]; first | exact le_400 (And.left (by with_reducible assumption)) | exact le_400 (And.right (by with_reducible assumption)) | omega) _ _ _ _ _ _ _ _ _ _ _ _ _ _ _ _ _ B lF' X lN' T (by rfl) (le_room (k := 3) hdp rfl) (le_room (k := 24) hun rfl) ?_
    clear lF' lN'
    intro q9b o9b k9b h9b tk9b hd9b hf9b hlo9b F' N' hap9b
    clear hap9b)
  k_with "InvEndM" => k_dflt (
    have hGuard := hf9b
    refine' kstM_end ((cF.1, cF.2.1, cF.2.2), (q9b, o9b, k9b)) (by assumption) (by assumption) ?hnE3 ?hoE3 ⟨⟨hloF, hlo9b⟩, hdF, hd9b⟩ ?hkE3 ?hrE3 ?hpE3
    (case hnE3 => exact List.forall_mem_cons.mpr ⟨by k_mem, List.forall_mem_cons.mpr ⟨by k_mem, List.forall_mem_cons.mpr ⟨by k_mem, List.forall_mem_cons.mpr ⟨by k_mem, List.forall_mem_cons.mpr ⟨by k_mem, List.forall_mem_cons.mpr ⟨by k_mem, fun p hp => by (repeat (first | exact memA1 hp | apply List.mem_cons_of_mem))⟩⟩⟩⟩⟩⟩)
    (case hoE3 => exact fun p hp => by (repeat (first | exact memB1 hp | apply List.mem_cons_of_mem)))
    (case hkE3 => exact List.forall_mem_cons.mpr ⟨rfl, List.forall_mem_cons.mpr ⟨rfl, fun _ h => nomatch h⟩⟩)
    (case hrE3 =>
      intro z h1 h2 h3
      simp only [List.contains_cons, List.contains_nil, Bool.or_false, Bool.or_eq_false_iff, beq_eq_false_iff_ne, ne_eq] at h1 h3
      simp only [List.forall_mem_cons, List.not_mem_nil, false_implies, implies_true, and_true, ne_eq] at h2
      simp +zetaDelta [h1, h2, h3, kmB, kstB])
    (case hpE3 =>
      have e9 := (addF_tab hPb hKM (runN_ok (Z := Z) (k := (wayF S Z).1) (W := W) hPb hSb (iO + 1)).1).1
      rw [e9] at hf9b
      exact ⟨hPF, hf9b⟩))
  k_with "InvEndM" => k_dflt (
    have hGuard := hPG
    refine' kstM_end (cG.1, cG.2.1, cG.2.2) (by assumption) (by assumption) ?hnE2 ?hoE2 ⟨hloG, hdG⟩ ?hkE2 ?hrE2 ?hpE2
    (case hnE2 => exact List.forall_mem_cons.mpr ⟨by k_mem, List.forall_mem_cons.mpr ⟨by k_mem, List.forall_mem_cons.mpr ⟨by k_mem, List.forall_mem_cons.mpr ⟨by k_mem, List.forall_mem_cons.mpr ⟨by k_mem, List.forall_mem_cons.mpr ⟨by k_mem, List.forall_mem_cons.mpr ⟨by k_mem, fun p hp => by (repeat (first | exact memA2 hp | apply List.mem_cons_of_mem))⟩⟩⟩⟩⟩⟩⟩)
    (case hoE2 => exact fun p hp => by (repeat (first | exact memB1 (memB1 hp) | apply List.mem_cons_of_mem)))
    (case hkE2 => exact List.forall_mem_cons.mpr ⟨rfl, fun _ h => nomatch h⟩)
    (case hrE2 =>
      intro z h1 h2 h3
      simp only [List.contains_cons, List.contains_nil, Bool.or_false, Bool.or_eq_false_iff, beq_eq_false_iff_ne, ne_eq] at h1 h3
      simp only [List.forall_mem_cons, List.not_mem_nil, false_implies, implies_true, and_true, ne_eq] at h2
      simp +zetaDelta [h1, h2, h3, kmB, kstB])
    (case hpE2 => rw [wordAcc_succ hTW]; exact hPG))
  k_with "InvEndM" => k_dflt (
    have hGuard := hPV
    have hno : okMv P S Z mW (stX ((wayF S Z).1 + (iV : Int))) (stY ((wayF S Z).1 + (iV : Int))) = false := by
      rw [Bool.eq_false_iff]
      intro hc
      simp only [okMv, placeA, placeB, ← hdxV, ← hdyV, Bool.and_eq_true, decide_eq_true_eq] at hc
      first
      | exact absurd hc.1.1.1.1 (by with_reducible assumption)
      | exact absurd hc.1.1.1.2 (by with_reducible assumption)
      | exact absurd hc.1.1.2 (by with_reducible assumption)
      | exact absurd hc.1.2 (by with_reducible assumption)
      | exact absurd hc.2 (by with_reducible assumption)
      | omega
    refine' kstM_end (cV.1, cV.2.1, cV.2.2) (by assumption) (by assumption) ?_ ?_ ⟨hloV, hdV⟩ ?_ ?_ ?_
    · exact List.forall_mem_cons.mpr ⟨by k_mem, List.forall_mem_cons.mpr ⟨by k_mem, List.forall_mem_cons.mpr ⟨by k_mem, List.forall_mem_cons.mpr ⟨by k_mem, List.forall_mem_cons.mpr ⟨by k_mem, List.forall_mem_cons.mpr ⟨by k_mem, List.forall_mem_cons.mpr ⟨by k_mem, fun p hp => by (repeat (first | exact memA3 hp | apply List.mem_cons_of_mem))⟩⟩⟩⟩⟩⟩⟩
    · exact fun p hp => by (repeat (first | exact memB1 (memB1 (memB1 hp)) | apply List.mem_cons_of_mem))
    · exact List.forall_mem_cons.mpr ⟨rfl, fun _ h => nomatch h⟩
    ·
      intro z h1 h2 h3
      simp only [List.contains_cons, List.contains_nil, Bool.or_false, Bool.or_eq_false_iff, beq_eq_false_iff_ne, ne_eq] at h1 h3
      simp only [List.forall_mem_cons, List.not_mem_nil, false_implies, implies_true, and_true, ne_eq] at h2
      simp +zetaDelta [h1, h2, h3, kmB, kstB]
    · rw [mvAcc_succ hiV, mv_no hno]; exact hPV)
  k_with "InvEndM" => k_dflt (
    have hGuard := hf9a
    have hok : okMv P S Z mW (stX ((wayF S Z).1 + (iV : Int))) (stY ((wayF S Z).1 + (iV : Int))) = true := by
      simp only [okMv, placeA, placeB, ← hdxV, ← hdyV, Bool.and_eq_true, decide_eq_true_eq]
      exact ⟨⟨⟨⟨by omega, by omega⟩, by omega⟩, by omega⟩, by omega⟩
    have e9 := mv_yes (v := nW) hPb hKV hok
    simp only [placeA, placeB, ← hdxV, ← hdyV] at e9
    rw [e9] at hf9a
    refine' kstM_end (q9a, o9a, k9a) (by assumption) (by assumption) ?hnE1 ?hoE1 ⟨hlo9a, hd9a⟩ ?hkE1 ?hrE1 ?hpE1
    (case hnE1 => exact List.forall_mem_cons.mpr ⟨by k_mem, List.forall_mem_cons.mpr ⟨by k_mem, List.forall_mem_cons.mpr ⟨by k_mem, List.forall_mem_cons.mpr ⟨by k_mem, List.forall_mem_cons.mpr ⟨by k_mem, List.forall_mem_cons.mpr ⟨by k_mem, List.forall_mem_cons.mpr ⟨by k_mem, fun p hp => by (repeat (first | exact memA3 hp | apply List.mem_cons_of_mem))⟩⟩⟩⟩⟩⟩⟩)
    (case hoE1 => exact fun p hp => by (repeat (first | exact memB1 (memB1 (memB1 hp)) | apply List.mem_cons_of_mem)))
    (case hkE1 => exact List.forall_mem_cons.mpr ⟨rfl, fun _ h => nomatch h⟩)
    (case hrE1 =>
      intro z h1 h2 h3
      simp only [List.contains_cons, List.contains_nil, Bool.or_false, Bool.or_eq_false_iff, beq_eq_false_iff_ne, ne_eq] at h1 h3
      simp only [List.forall_mem_cons, List.not_mem_nil, false_implies, implies_true, and_true, ne_eq] at h2
      simp +zetaDelta [h1, h2, h3, kmB, kstB])
    (case hpE1 => rw [mvAcc_succ hiV, ← hdxV, ← hdyV]; exact hf9a))
  k_with "execs cons" => k_dflt ((with_reducible show wpAny _ _ (execs (Stmt.Assign [Expr.Name (PySem.Str.ofString "further") _] (Expr.Call _ _ _ _) _ :: _) _) _ _ _); refine wpAny_execs_cons ?_; refine wpAny_Assign_Name ?_)
  k_with "eval Dict" => (have hGuard := hPV; refine StopD.out ?_)
  k_with "KdnMade" => k_dflt (
    (rename Fr _ _ _ _ => lF'); (rename News _ _ _ _ => lN')
    refine' kdn_made_strF lF' lN' (UpdF.head (fun p hp => Nat.ne_of_lt (l1D p hp))) hd09 ?nD6 ?nD7 ?nD8 ?_
    (case nD6 => rfl)
    (case nD7 => exact List.nodup_cons.mpr ⟨List.not_mem_nil, List.nodup_nil⟩)
    (case nD8 => rfl)
    clear lF' lN'
    intro hD8 oD8 F' N' hdD8 hfD8
    (try dsimp only at N'))
  k_with "execs nil" => (have hGuard := hcM; k_dflt (refine wpAny_execs_nil ?_))
  k_with "ite" => (have hGuard := hPV; first | (with_reducible refine ite_decM (fun hcM => ?_) (fun hcM => ?_)) | (with_reducible refine ite_beqM (fun hcM => ?_) (fun hcM => ?_)))
  k_steps
  (all_goals (try (
    refine StopD.mk ?_
    (with_reducible show wpAny _ _ (eval (Expr.Dict _ _ _) _) _ _ _)
    (rename Fr _ _ _ _ => lF'); (rename News _ _ _ _ => lN')
    refine' kdn_eval (knd := strKind _ _) lF' lN' ?n1 ?n2 ?n3 ?n4 ?n5 ?_
    (case n1 => exact Top.nolimit T)
    (case n2 => rfl)
    (case n3 => rfl)
    (case n4 => exact List.cons_ne_nil _ _)
    (case n5 => decide)
    clear lF' lN'
    intro dD9 hD9 oD9 F' N' l1D lo9 hd09
    refine pairTrees_cons_walk ?_)))
  k_steps
  all_goals (try dsimp +zetaDelta only)
  (refine hQ _ _ _ cE.1.1 cE.2.1 cE.1.2.1 cE.2.2.1 cE.1.2.2 cE.2.2.2 hFaE.1.2 hFaE.2.2 hPE.2 (by with_unfolding_all rfl) ?_ F' N'
   intro z h1 h2 h3 h4
   have e : ([PySem.Str.ofString "turn"] ++ [PySem.Str.ofString "further", PySem.Str.ofString "word", PySem.Str.ofString "ways", PySem.Str.ofString "red", PySem.Str.ofString "green", PySem.Str.ofString "blue", PySem.Str.ofString "a", PySem.Str.ofString "b"]).contains z = false := by
     rw [List.cons_append, List.nil_append, List.contains_cons, h4]
     simp [h1]
   simp +zetaDelta only [kmB, kstB, h2, h3, if_false, e, Bool.false_eq_true])
end Mine
end PartPlawturn
section PartPlawrest
open PySem PySem.W PyProof.Rows PyProof.V
set_option maxHeartbeats 20000000
namespace Mine
theorem law_rest : ∀ (w : World) (mean : ExcName → Option Value) (mg mb : Str → Option Value) (dp un : Nat) (gd : Option (List Code)) (a : Addr) (ccd : Value) (outer : List Env) (A₀ : Around) (base h₀ : Heap) (L : Addr) (s : Shared) (m₀ : Str → Option Value) (Q : Flow → Shared → Prop) (E : Value → Shared → Prop) (S Z W P OV : Int) (tS tE tW tO tl : Tok) (Dw Dp : Addr) (ys vp : List Value) (ep : Nat) (oc : Obj),
    Below A₀ base outer h₀ → Fr h₀ L s.heap (fun y => if y = Str.ofString "words" then some (.ref Dw) else if y = Str.ofString "prices" then some (.ref Dp) else if y = Str.ofString "over" then some (.int OV tO) else if y = Str.ofString "end" then some (.int Z tE) else if y = Str.ofString "start" then some (.int S tS) else if y = Str.ofString "weight" then some (.int W tW) else m₀ y) → Frag.In (hd.heap_39 w.params) h₀ → News h₀ L s.heap [(Dw, LCg.lst ys), (Dp, listOf vp.toArray ep), (L + 1, oc)] → Top hd.view_39 (looseW hd.view_39 []) mean mg mb h₀ → dp + 20 < recursionLimit → un + 200 < cLine → PassesOwn (model PySem.Challenge.rw_pm0039_01.row.prog w) (ktrTop dp un gd (Str.ofString "law") lawScope L a ccd (cellsFrom (L + 1) lawScope.names []) outer) (lawEnv L a ccd) E →
    oc.data = .cell (some (.str (ltr P) tl)) → L + 1 < Dp → Dp ≠ Dw → L + 1 ≠ Dw → ys.length = 16 → WordsAre (ltr P) ys → PricesAre P vp → (0 ≤ S ∧ S < 16) → (0 ≤ Z ∧ Z < 16) → (0 ≤ P ∧ P < 2) →
    (∀ h' tk' m' news', Fr h₀ L h' m' → News h₀ L h' news' → Q (.ret (.bool true)) { s with heap := h', toks := tk' }) →
    wpAny (model PySem.Challenge.rw_pm0039_01.row.prog w) (ktrTop dp un gd (Str.ofString "law") lawScope L a ccd (cellsFrom (L + 1) lawScope.names []) outer) (execs (lawBody.drop 8) (lawEnv L a ccd)) Q E s := by
  k_fill
  intro w mean mg mb dp un gd a ccd outer A₀ base h₀ L s m₀ Q E S Z W P OV tS tE tW tO tl Dw Dp ys vp ep oc B F KX N T hdp hun hE hoc hl1 hl2 hl3 hyl hW hPr hSb hZb hPb hQ
  have X := KX
  obtain ⟨SC, hS⟩ : ∃ SC, SC = lawScope := ⟨_, rfl⟩
  conv at hS => rhs; whnf
  simp only [lawEnv] at hE ⊢
  simp only [show lawScope = SC from by rw [hS]; rfl] at hE ⊢
  subst hS
  first | (conv in List.drop _ lawBody => whnf) | (conv in lawStmt _ => whnf)
  replace hl1 := ltNat hl1
  obtain ⟨hTc1, hTc2, hTc3⟩ := (corn_facts hSb hZb).1
  simp only [cornF] at hTc1 hTc2 hTc3
  have hbk := (way_bd hSb hZb).1
  obtain ⟨⟨hM01, hM02, hM03⟩, _⟩ := mv_facts (c := (wayF S Z).1) (by first | (with_reducible first | exact bN_0 | exact c4_0 | exact c4_n | exact c4_64 | exact cN_64 | assumption | exact And.left ‹_› | exact And.right ‹_› | exact b16_63 ‹_› | exact b6_63 ‹_› | exact b6_7 ‹_› | exact b6p_0 ‹_› | exact b6p_7 ‹_› | exact b6p_63 ‹_› | exact b4p_0 ‹_› | exact b4p_8 ‹_› | exact b4p_100 ‹_›) | omega) (by first | (with_reducible first | exact bN_0 | exact c4_0 | exact c4_n | exact c4_64 | exact cN_64 | assumption | exact And.left ‹_› | exact And.right ‹_› | exact b16_63 ‹_› | exact b6_63 ‹_› | exact b6_7 ‹_› | exact b6p_0 ‹_› | exact b6p_7 ‹_› | exact b6p_63 ‹_› | exact b4p_0 ‹_› | exact b4p_8 ‹_› | exact b4p_100 ‹_›) | omega)
  obtain ⟨⟨hM11, hM12, hM13⟩, _⟩ := mv_facts (c := (wayF S Z).1 + 1) (by first | (with_reducible first | exact bN_0 | exact c4_0 | exact c4_n | exact c4_64 | exact cN_64 | assumption | exact And.left ‹_› | exact And.right ‹_› | exact b16_63 ‹_› | exact b6_63 ‹_› | exact b6_7 ‹_› | exact b6p_0 ‹_› | exact b6p_7 ‹_› | exact b6p_63 ‹_› | exact b4p_0 ‹_› | exact b4p_8 ‹_› | exact b4p_100 ‹_›) | omega) (by first | (with_reducible first | exact bN_0 | exact c4_0 | exact c4_n | exact c4_64 | exact cN_64 | assumption | exact And.left ‹_› | exact And.right ‹_› | exact b16_63 ‹_› | exact b6_63 ‹_› | exact b6_7 ‹_› | exact b6p_0 ‹_› | exact b6p_7 ‹_› | exact b6p_63 ‹_› | exact b4p_0 ‹_› | exact b4p_8 ‹_› | exact b4p_100 ‹_›) | omega)
  refine fr_let F ?_; clear F; intro mF F
  w_top off
  k_with_none
  k_with "execs cons" => ((rename Fr _ _ _ _ => lF'); refine norm_st lF' s ?_; intro tkS; refine fr_let lF' ?_; intro mX F'; clear lF'; refine q_let ?_; intro qX; refine PySem.wpAny_execs_cons ?_)
  k_with "exec For Name Call cons nil" => k_dflt (
    (with_reducible show wpAny _ _ (exec (Stmt.For (Expr.Name (PySem.Str.ofString "n") _) _ _ _ _) _) _ _ _)
    (rename Fr _ _ _ _ => lF'); (rename News _ _ _ _ => lN')
    refine' law_n w mean mg mb dp un gd a ccd outer A₀ base h₀ L _ _ _ E S Z P OV tS tE tO tl _ _ Dw Dp ys vp _ _ ep oc B (fr_pre lF' [(PySem.Str.ofString "behind", .ref _), (PySem.Str.ofString "ahead", .ref _), (PySem.Str.ofString "words", .ref Dw), (PySem.Str.ofString "prices", .ref Dp), (PySem.Str.ofString "over", .int OV tO), (PySem.Str.ofString "end", .int Z tE), (PySem.Str.ofString "start", .int S tS)] ?eN1) X (news_sub lN' ?eN2) T hdp hun hE ?eN3 ?eN4 ?eN5 ?eN6 ?eN7 ?eN8 ?eN9 hW hPr hoc hSb hZb hPb ?_
    (case eN1 => exact List.forall_mem_cons.mpr ⟨by with_unfolding_all rfl, List.forall_mem_cons.mpr ⟨by with_unfolding_all rfl, List.forall_mem_cons.mpr ⟨by with_unfolding_all rfl, List.forall_mem_cons.mpr ⟨by with_unfolding_all rfl, List.forall_mem_cons.mpr ⟨by with_unfolding_all rfl, List.forall_mem_cons.mpr ⟨by with_unfolding_all rfl, List.forall_mem_cons.mpr ⟨by with_unfolding_all rfl, fun _ h => nomatch h⟩⟩⟩⟩⟩⟩⟩)
    (case eN2 => exact List.forall_mem_cons.mpr ⟨by k_mem, List.forall_mem_cons.mpr ⟨by k_mem, List.forall_mem_cons.mpr ⟨by k_mem, List.forall_mem_cons.mpr ⟨by k_mem, List.forall_mem_cons.mpr ⟨by k_mem, fun _ h => nomatch h⟩⟩⟩⟩⟩)
    all_goals (try k_ne)
    clear lF' lN'
    intro hN1 tkN1 mN1 va vb ea1 eb1 hva hvb hmN FN N'
    have F' := fr_pre FN [(PySem.Str.ofString "behind", .ref _), (PySem.Str.ofString "ahead", .ref _), (PySem.Str.ofString "words", .ref Dw), (PySem.Str.ofString "end", .int Z tE), (PySem.Str.ofString "start", .int S tS), (PySem.Str.ofString "weight", .int W tW)] (List.forall_mem_cons.mpr ⟨(hmN (PySem.Str.ofString "behind") (by decide) (by decide)).trans (by with_unfolding_all rfl), List.forall_mem_cons.mpr ⟨(hmN (PySem.Str.ofString "ahead") (by decide) (by decide)).trans (by with_unfolding_all rfl), List.forall_mem_cons.mpr ⟨(hmN (PySem.Str.ofString "words") (by decide) (by decide)).trans (by with_unfolding_all rfl), List.forall_mem_cons.mpr ⟨(hmN (PySem.Str.ofString "end") (by decide) (by decide)).trans (by with_unfolding_all rfl), List.forall_mem_cons.mpr ⟨(hmN (PySem.Str.ofString "start") (by decide) (by decide)).trans (by with_unfolding_all rfl), List.forall_mem_cons.mpr ⟨(hmN (PySem.Str.ofString "weight") (by decide) (by decide)).trans (by with_unfolding_all rfl), fun _ h => nomatch h⟩⟩⟩⟩⟩⟩)
    have hNa := NumsAre.of hva
    have hNb := NumsAre.of hvb
    clear FN hmN hva hvb
    simp only [kstB] at F')
  k_with "subscriptTail Name Constant str int" => k_dflt (refine PySem.W.KXi.item (n := 2) (Mine.ltr_len _) (by decide) (by decide) (by decide) ?_; intro hit9; clear hit9)
  k_with "binaryOp Add str str" => k_dflt (
    refine' PySem.W.KXadd.add (K := 4) (L := 4) ?_ ?_ (Nat.le_of_ble_eq_true rfl) ?_
    · first | exact Nat.le_trans (Nat.le_of_eq (ltr_item _ _ (by decide) (by decide))) (by decide) | (rw [PySem.Str.length_append, ltr_item _ _ (by decide) (by decide), ltr_len]; decide)
    · first | exact Nat.le_trans (Nat.le_of_eq (ltr_len _)) (by decide) | exact Nat.le_trans (Nat.le_of_eq (ltr_item _ _ (by decide) (by decide))) (by decide)
    intro _ _ hl9
    clear hl9)
  k_with "call ref" => k_dflt (
    (with_reducible show wpAny _ _ (call (Value.ref 77) _) _ _ _)
    (rename Fr _ _ _ _ => lF'); (rename News _ _ _ _ => lN')
    refine' colour_call w mean mg mb _ _ _ _ _ (by first | (with_reducible first | exact bN_0 | exact c4_0 | exact c4_n | exact c4_64 | exact cN_64 | assumption | exact And.left ‹_› | exact And.right ‹_› | exact b16_63 ‹_› | exact b6_63 ‹_› | exact b6_7 ‹_› | exact b6p_0 ‹_› | exact b6p_7 ‹_› | exact b6p_63 ‹_› | exact b4p_0 ‹_› | exact b4p_8 ‹_› | exact b4p_100 ‹_›) | omega) (by first | (with_reducible first | exact bN_0 | exact c4_0 | exact c4_n | exact c4_64 | exact cN_64 | assumption | exact And.left ‹_› | exact And.right ‹_› | exact b16_63 ‹_› | exact b6_63 ‹_› | exact b6_7 ‹_› | exact b6p_0 ‹_› | exact b6p_7 ‹_› | exact b6p_63 ‹_› | exact b4p_0 ‹_› | exact b4p_8 ‹_› | exact b4p_100 ‹_›) | omega) (by first | (with_reducible first | exact bN_0 | exact c4_0 | exact c4_n | exact c4_64 | exact cN_64 | assumption | exact And.left ‹_› | exact And.right ‹_› | exact b16_63 ‹_› | exact b6_63 ‹_› | exact b6_7 ‹_› | exact b6p_0 ‹_› | exact b6p_7 ‹_› | exact b6p_63 ‹_› | exact b4p_0 ‹_› | exact b4p_8 ‹_› | exact b4p_100 ‹_›) | omega) (by first | (with_reducible first | exact bN_0 | exact c4_0 | exact c4_n | exact c4_64 | exact cN_64 | assumption | exact And.left ‹_› | exact And.right ‹_› | exact b16_63 ‹_› | exact b6_63 ‹_› | exact b6_7 ‹_› | exact b6p_0 ‹_› | exact b6p_7 ‹_› | exact b6p_63 ‹_› | exact b4p_0 ‹_› | exact b4p_8 ‹_› | exact b4p_100 ‹_›) | omega) _ _ _ _ _ _ _ _ _ _ _ _ _ _ _ _ _ B lF' X lN' T (by rfl) (le_room (k := 3) hdp rfl) (le_room (k := 24) hun rfl) ?_
    clear lF' lN'
    intro qC oC hpC9 tkC hOC F' N' hapC
    obtain ⟨u1C, u2C, u3C, nC, rfl⟩ := hOC
    clear hapC)
  k_with "call ref" => k_dflt (
    (with_reducible show wpAny _ _ (call (Value.ref 42) _) _ _ _)
    (rename Fr _ _ _ _ => lF'); (rename News _ _ _ _ => lN')
    refine' hsv_call w mean mg mb _ _ _ _ _ _ _ (hsv_facts (by assumption) (by assumption)).1 _ _ _ _ _ _ _ _ _ _ _ _ _ _ _ _ _ B lF' X lN' T (by rfl) (le_room (k := 3) hdp rfl) (le_room (k := 24) hun rfl) ?_
    clear lF' lN'
    intro qH oH hpH9 tkH hOH F' N' hapH
    obtain ⟨u1H, u2H, u3H, nH, rfl⟩ := hOH
    clear hapH)
  k_with "call ref" => k_dflt (
    (with_reducible show wpAny _ _ (call (Value.ref 70) _) _ _ _)
    (rename Fr _ _ _ _ => lF'); (rename News _ _ _ _ => lN')
    refine' way_call w mean mg mb _ _ _ _ _ _ _ _ _ _ _ _ _ _ _ _ _ _ _ _ _ _ B lF' X lN' T (by rfl) (le_room (k := 3) hdp rfl) (le_room (k := 24) hun rfl) ?_
    clear lF' lN'
    intro qW oW hpW9 tkW hOW F' N' hapW
    obtain ⟨u1W, u2W, u3W, nW, rfl⟩ := hOW
    clear hapW)
  k_with "call ref" => k_dflt (
    (with_reducible show wpAny _ _ (call (Value.ref 49) _) _ _ _)
    (rename Fr _ _ _ _ => lF'); (rename News _ _ _ _ => lN')
    refine' hsv2rgb_call w mean mg mb _ _ _ _ _ _ _ (by decide +kernel) hM11 hM12 hM13 _ _ _ _ _ _ _ _ _ _ _ _ _ _ _ _ _ B lF' X lN' T (by rfl) (le_room (k := 3) hdp rfl) (le_room (k := 24) hun rfl) ?_
    clear lF' lN'
    intro qRb oRb hpRb9 tkRb hORb F' N' hapRb
    obtain ⟨u1Rb, u2Rb, u3Rb, nRb, rfl⟩ := hORb
    clear hapRb)
  k_with "call ref" => k_dflt (
    (with_reducible show wpAny _ _ (call (Value.ref 49) _) _ _ _)
    (rename Fr _ _ _ _ => lF'); (rename News _ _ _ _ => lN')
    refine' hsv2rgb_call w mean mg mb _ _ _ _ _ _ _ (by decide +kernel) hM01 hM02 hM03 _ _ _ _ _ _ _ _ _ _ _ _ _ _ _ _ _ B lF' X lN' T (by rfl) (le_room (k := 3) hdp rfl) (le_room (k := 24) hun rfl) ?_
    clear lF' lN'
    intro qRa oRa hpRa9 tkRa hORa F' N' hapRa
    obtain ⟨u1Ra, u2Ra, u3Ra, nRa, rfl⟩ := hORa
    clear hapRa)
  k_with "call type:int" => k_dflt (
    (with_reducible show wpAny _ _ (call _ [Value.float (Float64.add (Float64.mul (Prod.fst (hsvF _ _ _)) _) _) _]) _ _ _)
    (fail_if_success (with_reducible show wpAny _ _ _ (EJoin _ _ _ _) _ _))
    (rename Fr _ _ _ _ => lF'); (rename News _ _ _ _ => lN')
    refine' eJoinV (h₀ := h₀) (L := L) lF' lN' (fun t => .int (wayF S Z).1 t) ?_ ?_
    rotate_left
    clear lF' lN'
    intro tJ hJ tkJ F' N'
    rotate_right)
  k_with "EJoin" => k_dflt (exact EJoin.intro (by assumption) (by assumption) ⟨rfl, rfl, _, congrArg (fun z => Value.int z _) hTc3⟩)
  k_with "call ref" => k_dflt (
    (with_reducible show wpAny _ _ (call (Value.ref 28) _) _ _ _)
    (rename Fr _ _ _ _ => lF'); (rename News _ _ _ _ => lN')
    refine' lev_call w mean mg mb _ _ _ _ _ _ _ (by rw [ltr_len]; decide) (by rw [PySem.Str.length_append, PySem.Str.length_append, ltr_item _ _ (by decide) (by decide), ltr_item _ _ (by decide) (by decide), ltr_len]; decide) _ _ _ _ _ _ _ _ _ _ _ _ _ _ _ _ _ B lF' X lN' T (by rfl) (le_room (k := 10) hdp rfl) (le_room (k := 60) hun rfl) ?_
    clear lF' lN'
    intro tV hpV9 tkV F' N'
    rw [lev_letters hPb])
  k_with "exec For Name Call cons nil" => k_dflt (
    (with_reducible show wpAny _ _ (exec (Stmt.For (Expr.Name (PySem.Str.ofString "turn") _) _ _ _ _) _) _ _ _)
    (rename Fr _ _ _ _ => lF'); (rename News _ _ _ _ => lN')
    refine' law_turn w mean mg mb dp un gd a ccd outer A₀ base h₀ L _ _ _ E S Z W P _ _ tE _ _ _ Dw _ _ _ _ _ _ [.ref qRa, .ref qRb] ys va vb _ _ _ [(qRa, mvO (wayF S Z).1 u1Ra u2Ra u3Ra nRa), (qRb, mvO ((wayF S Z).1 + 1) u1Rb u2Rb u3Rb nRb)] B (fr_pre lF' [(PySem.Str.ofString "met", .ref _), (PySem.Str.ofString "table", .ref _), (PySem.Str.ofString "moves", .ref _), (PySem.Str.ofString "value", .float _ _), (PySem.Str.ofString "saturation", .float _ _), (PySem.Str.ofString "behind", .ref _), (PySem.Str.ofString "ahead", .ref _), (PySem.Str.ofString "words", .ref Dw), (PySem.Str.ofString "end", .int Z tE)] ?tN1) X (news_sub lN' ?tN2) T hdp hun hE lo9 hloM9 hdD8 hfT hdM9 hfM9 moves_of ?tN3 hyl hW hNa hNb hSb hZb hPb ?_
    (case tN1 => exact List.forall_mem_cons.mpr ⟨by with_unfolding_all rfl, List.forall_mem_cons.mpr ⟨by with_unfolding_all rfl, List.forall_mem_cons.mpr ⟨by with_unfolding_all rfl, List.forall_mem_cons.mpr ⟨by with_unfolding_all rfl, List.forall_mem_cons.mpr ⟨by with_unfolding_all rfl, List.forall_mem_cons.mpr ⟨by with_unfolding_all rfl, List.forall_mem_cons.mpr ⟨by with_unfolding_all rfl, List.forall_mem_cons.mpr ⟨by with_unfolding_all rfl, List.forall_mem_cons.mpr ⟨by with_unfolding_all rfl, fun _ h => nomatch h⟩⟩⟩⟩⟩⟩⟩⟩⟩)
    (case tN2 => exact List.forall_mem_cons.mpr ⟨by k_mem, List.forall_mem_cons.mpr ⟨by k_mem, List.forall_mem_cons.mpr ⟨by k_mem, List.forall_mem_cons.mpr ⟨by k_mem, List.forall_mem_cons.mpr ⟨by k_mem, List.forall_mem_cons.mpr ⟨by k_mem, List.forall_mem_cons.mpr ⟨by k_mem, List.forall_mem_cons.mpr ⟨by k_mem, fun _ h => nomatch h⟩⟩⟩⟩⟩⟩⟩⟩)
    (case tN3 => intro p hp a hd; rcases List.mem_cons.mp hp with rfl | hp; (cases hd); (rw [List.mem_singleton.mp hp] at hd; cases hd))
    clear lF' lN'
    intro hT1 tkT1 mT1 qT1 qM1 oT1 oM1 kT1 kM1 hloE hdE hfE hmet hmT FT N'
    have F' := fr_pre FT [(PySem.Str.ofString "met", .ref qM1), (PySem.Str.ofString "words", .ref Dw), (PySem.Str.ofString "end", .int Z tE), (PySem.Str.ofString "start", .int S tS), (PySem.Str.ofString "weight", .int W tW)] (List.forall_mem_cons.mpr ⟨hmet, List.forall_mem_cons.mpr ⟨(hmT (PySem.Str.ofString "words") (by decide) (by decide) (by decide) (by decide)).trans (by with_unfolding_all rfl), List.forall_mem_cons.mpr ⟨(hmT (PySem.Str.ofString "end") (by decide) (by decide) (by decide) (by decide)).trans (by with_unfolding_all rfl), List.forall_mem_cons.mpr ⟨(hmT (PySem.Str.ofString "start") (by decide) (by decide) (by decide) (by decide)).trans (by with_unfolding_all rfl), List.forall_mem_cons.mpr ⟨(hmT (PySem.Str.ofString "weight") (by decide) (by decide) (by decide) (by decide)).trans (by with_unfolding_all rfl), fun _ h => nomatch h⟩⟩⟩⟩⟩)
    clear FT hmT hmet
    simp only [kstB] at F')
  k_with "exec For Name Call cons nil" => k_dflt (
    (with_reducible show wpAny _ _ (exec (Stmt.For (Expr.Name (PySem.Str.ofString "f") _) _ _ _ _) _) _ _ _)
    (rename Fr _ _ _ _ => lF'); (rename News _ _ _ _ => lN')
    (rename (_ == sysModules) = false => loU); (rename Obj.IsDictOf (strKind _ _) _ [] => hdU)
    refine' law_due w mean mg mb dp un gd a ccd outer A₀ base h₀ L _ _ _ E S Z W P tS tW _ _ _ _ Dw _ ys _ _ _ _ B (fr_pre lF' [(PySem.Str.ofString "due", .ref _), (PySem.Str.ofString "steps", .ref _), (PySem.Str.ofString "q", .int _ _), (PySem.Str.ofString "p", .int _ _), (PySem.Str.ofString "k", .int _ _), (PySem.Str.ofString "words", .ref Dw), (PySem.Str.ofString "start", .int S tS), (PySem.Str.ofString "weight", .int W tW)] ?dN1) X (steps_use (qM := qM1) (oM := oM1) (Dw := Dw) (ys := ys) lN' ?dN2 ?dN3) T hdp hun hE ?dN4 ?dN5 (steps_ne ?dM0 ?dM1 ?dM2 ?dM3 ?dM4 ?dM5 ?dM6 ?dM7) loU hdU (show FlatPairs PyData.str ([] : List (Str × Value)) (kdpD []) from .nil) hW steps_of hSb hZb ?_
    (case dN1 => exact List.forall_mem_cons.mpr ⟨by with_unfolding_all rfl, List.forall_mem_cons.mpr ⟨by with_unfolding_all rfl, List.forall_mem_cons.mpr ⟨by with_unfolding_all rfl, List.forall_mem_cons.mpr ⟨by with_unfolding_all rfl, List.forall_mem_cons.mpr ⟨by with_unfolding_all rfl, List.forall_mem_cons.mpr ⟨by with_unfolding_all rfl, List.forall_mem_cons.mpr ⟨by with_unfolding_all rfl, List.forall_mem_cons.mpr ⟨by with_unfolding_all rfl, fun _ h => nomatch h⟩⟩⟩⟩⟩⟩⟩⟩)
    (case dN2 => k_mem)
    (case dN3 => k_mem)
    all_goals (try k_ne)
    clear lF' lN'
    intro hU1 tkU1 mU1 oU kU hdU2 hfU2 hmU FU N'
    have F' := fr_pre FU [(PySem.Str.ofString "due", .ref _), (PySem.Str.ofString "met", .ref qM1), (PySem.Str.ofString "q", .int (wayF S Z).2.2 u3W), (PySem.Str.ofString "p", .int (wayF S Z).2.1 u2W), (PySem.Str.ofString "weight", .int W tW)] (List.forall_mem_cons.mpr ⟨(hmU (PySem.Str.ofString "due") (by decide) (by decide)).trans (by with_unfolding_all rfl), List.forall_mem_cons.mpr ⟨(hmU (PySem.Str.ofString "met") (by decide) (by decide)).trans (by with_unfolding_all rfl), List.forall_mem_cons.mpr ⟨(hmU (PySem.Str.ofString "q") (by decide) (by decide)).trans (by with_unfolding_all rfl), List.forall_mem_cons.mpr ⟨(hmU (PySem.Str.ofString "p") (by decide) (by decide)).trans (by with_unfolding_all rfl), List.forall_mem_cons.mpr ⟨(hmU (PySem.Str.ofString "weight") (by decide) (by decide)).trans (by with_unfolding_all rfl), fun _ h => nomatch h⟩⟩⟩⟩⟩)
    clear FU hmU
    simp only [kstB] at F')
  k_with "compareOp NotEq ref ref" => k_dflt (
    (with_reducible show wpAny _ _ (compareOp CmpOp.NotEq (Value.ref qM1) (Value.ref _)) _ _ _)
    (rename News _ _ _ _ => lN')
    obtain ⟨hEr, hEl, hEs⟩ := end_facts (W := W) hPb hSb hZb
    refine' same_tabs lN' ?xN1 ?xN2 hloE loU hdE hdU2 hfE hfU2 ?xN3 hEr hEl ?_
    (case xN1 => k_mem)
    (case xN2 => k_mem)
    (case xN3 => exact Nat.lt_of_le_of_lt (Nat.le_add_right un 200) hun)
    clear hEr hEl)
  k_with "call ref" => k_dflt (
    (with_reducible show wpAny _ _ (call (Value.ref 63) _) _ _ _)
    (rename Fr _ _ _ _ => lF'); (rename News _ _ _ _ => lN')
    refine' count_call w mean mg mb _ qM1 oM1 kM1 _ (by k_mem) hloE hdE hfE _ _ _ _ _ _ _ _ _ _ _ _ _ _ _ _ _ B lF' X lN' T (by rfl) (le_room (k := 3) hdp rfl) (le_room (k := 24) hun rfl) ?_
    clear lF' lN'
    intro tV hpV9 tkV F' N')
  k_with "call ref" => k_dflt (
    (with_reducible show wpAny _ _ (call (Value.ref 91) _) _ _ _)
    (rename Fr _ _ _ _ => lF'); (rename News _ _ _ _ => lN')
    obtain ⟨_, hb2, hb3⟩ := way_bd hSb hZb
    refine' orders_call w mean mg mb _ _ _ _ _ (by first | (with_reducible first | exact bN_0 | exact c4_0 | exact c4_n | exact c4_64 | exact cN_64 | assumption | exact And.left ‹_› | exact And.right ‹_› | exact b16_63 ‹_› | exact b6_63 ‹_› | exact b6_7 ‹_› | exact b6p_0 ‹_› | exact b6p_7 ‹_› | exact b6p_63 ‹_› | exact b4p_0 ‹_› | exact b4p_8 ‹_› | exact b4p_100 ‹_›) | omega) (by first | (with_reducible first | exact bN_0 | exact c4_0 | exact c4_n | exact c4_64 | exact cN_64 | assumption | exact And.left ‹_› | exact And.right ‹_› | exact b16_63 ‹_› | exact b6_63 ‹_› | exact b6_7 ‹_› | exact b6p_0 ‹_› | exact b6p_7 ‹_› | exact b6p_63 ‹_› | exact b4p_0 ‹_› | exact b4p_8 ‹_› | exact b4p_100 ‹_›) | omega) (by first | (with_reducible first | exact bN_0 | exact c4_0 | exact c4_n | exact c4_64 | exact cN_64 | assumption | exact And.left ‹_› | exact And.right ‹_› | exact b16_63 ‹_› | exact b6_63 ‹_› | exact b6_7 ‹_› | exact b6p_0 ‹_› | exact b6p_7 ‹_› | exact b6p_63 ‹_› | exact b4p_0 ‹_› | exact b4p_8 ‹_› | exact b4p_100 ‹_›) | omega) (by first | (with_reducible first | exact bN_0 | exact c4_0 | exact c4_n | exact c4_64 | exact cN_64 | assumption | exact And.left ‹_› | exact And.right ‹_› | exact b16_63 ‹_› | exact b6_63 ‹_› | exact b6_7 ‹_› | exact b6p_0 ‹_› | exact b6p_7 ‹_› | exact b6p_63 ‹_› | exact b4p_0 ‹_› | exact b4p_8 ‹_› | exact b4p_100 ‹_›) | omega) _ _ _ _ _ _ _ _ _ _ _ _ _ _ _ _ _ B lF' X lN' T (by rfl) (le_room (k := 3) hdp rfl) (le_room (k := 24) hun rfl) ?_
    clear lF' lN'
    intro tV hpV9 tkV F' N')
  k_with "binaryOp Mult int int" => k_dflt (
    (with_reducible show wpAny _ _ (binaryOp _ (Value.int W _) _) _ _ _)
    obtain ⟨_, hb2, hb3⟩ := way_bd hSb hZb
    have hos := ord_small (p := (wayF S Z).2.1 + 1) (q := (wayF S Z).2.2 + 1) ⟨b4p_0 hb2, b4p_8 hb2⟩ ⟨b4p_0 hb3, b4p_8 hb3⟩
    refine mul_int ?_ (mulOk_right (sub1_64 hos)))
  k_with "compareOp Eq int int" => k_dflt (
    (with_reducible show wpAny _ _ (compareOp _ (Value.int (sumF _) _) _) _ _ _)
    rw [hEs]
    refine eq_int ?_
    rw [beq_self_eq_true])
  k_with "eval Dict" => ((fail_if_success (with_reducible show wpAny _ _ (eval (Expr.Dict [] [] _) _) _ _ _)); (refine StopD.out ?_))
  k_with "subscriptTail Name Name ref int" => k_dflt (
    (with_reducible show wpAny _ _ (subscriptTail _ _ (Value.ref Dw) (Value.int _ _)) _ _ _)
    (rename News _ _ _ _ => lN')
    refine' item_someK (f := fun t => Value.str (wordS (ltr P) _) t) lN' (by k_mem) (by first | (with_reducible first | exact bN_0 | exact c4_0 | exact c4_n | exact c4_64 | exact cN_64 | assumption | exact And.left ‹_› | exact And.right ‹_› | exact b16_63 ‹_› | exact b6_63 ‹_› | exact b6_7 ‹_› | exact b6p_0 ‹_› | exact b6p_7 ‹_› | exact b6p_63 ‹_› | exact b4p_0 ‹_› | exact b4p_8 ‹_› | exact b4p_100 ‹_›) | omega) (by first | (with_reducible first | exact bN_0 | exact c4_0 | exact c4_n | exact c4_64 | exact cN_64 | assumption | exact And.left ‹_› | exact And.right ‹_› | exact b16_63 ‹_› | exact b6_63 ‹_› | exact b6_7 ‹_› | exact b6p_0 ‹_› | exact b6p_7 ‹_› | exact b6p_63 ‹_› | exact b4p_0 ‹_› | exact b4p_8 ‹_› | exact b4p_100 ‹_›) | omega) (hW _ (by first | (with_reducible first | exact bN_0 | exact c4_0 | exact c4_n | exact c4_64 | exact cN_64 | assumption | exact And.left ‹_› | exact And.right ‹_› | exact b16_63 ‹_› | exact b6_63 ‹_› | exact b6_7 ‹_› | exact b6p_0 ‹_› | exact b6p_7 ‹_› | exact b6p_63 ‹_› | exact b4p_0 ‹_› | exact b4p_8 ‹_› | exact b4p_100 ‹_›) | omega) (by first | (with_reducible first | exact bN_0 | exact c4_0 | exact c4_n | exact c4_64 | exact cN_64 | assumption | exact And.left ‹_› | exact And.right ‹_› | exact b16_63 ‹_› | exact b6_63 ‹_› | exact b6_7 ‹_› | exact b6p_0 ‹_› | exact b6p_7 ‹_› | exact b6p_63 ‹_› | exact b4p_0 ‹_› | exact b4p_8 ‹_› | exact b4p_100 ‹_›) | omega)) ?_ (by with_unfolding_all rfl)
    intro tW9)
  k_with "KdnMade" => k_dflt (
    (rename Fr _ _ _ _ => lF'); (rename News _ _ _ _ => lN')
    refine' kdn_made_strF lF' lN' (UpdF.head (fun p hp => Nat.ne_of_lt (l1D p hp))) hd09 ?nD6 ?nD7 ?nD8 ?_
    (case nD6 => rfl)
    (case nD7 => exact List.nodup_cons.mpr ⟨List.not_mem_nil, List.nodup_nil⟩)
    (case nD8 => rfl)
    clear lF' lN'
    intro hD8 oD8 F' N' hdD8 hfD8
    (try dsimp only at N'))
  k_with "call ref" => k_dflt (
    (with_reducible show wpAny _ _ (call (Value.ref 56) _) _ _ _)
    (rename Fr _ _ _ _ => lF'); (rename News _ _ _ _ => lN')
    have hfT := flat_tab0 P S Z (wayF S Z).1 W hSb hfD8
    refine' add_call w mean mg mb _ _ _ [] [] (by k_mem) (by assumption) (by assumption) (show FlatPairs PyData.str ([] : List (Str × Value)) (kdpD []) from .nil) (by show 0 ≤ 400; decide) dD9 oD8 _ [(wordS (ltr P) S, W)] (by k_mem) lo9 hdD8 hfD8 (by show 1 ≤ 400; decide) _ _ _ _ _ _ _ _ _ _ _ _ _ _ _ _ _ B lF' X lN' T (by rfl) (le_room (k := 3) hdp rfl) (le_room (k := 24) hun rfl) ?_
    clear lF' lN'
    intro qM9 oM9 kM9 hM9 tkM9 hdM9 hfM9 hloM9 F' N' hapM9
    rw [add_0 (Z := Z) (k := (wayF S Z).1) hPb hSb] at hfM9
    clear hapM9)
  k_steps
  refine StopD.mk ?_
  (rename Fr _ _ _ _ => lF'); (rename News _ _ _ _ => lN')
  refine' kdn_eval (knd := strKind _ _) lF' lN' ?n1 ?n2 ?n3 ?n4 ?n5 ?_
  (case n1 => exact Top.nolimit T)
  (case n2 => rfl)
  (case n3 => rfl)
  (case n4 => exact List.cons_ne_nil _ _)
  (case n5 => decide)
  clear lF' lN'
  intro dD9 hD9 oD9 F' N' l1D lo9 hd09
  refine pairTrees_cons_walk ?_
  k_steps
  all_goals (try dsimp +zetaDelta only)
  (rename Fr _ _ _ _ => lF'); (rename News _ _ _ _ => lN')
  exact hQ _ _ _ _ lF' lN'
end Mine
end PartPlawrest
section PartPlawmid
open PySem PySem.W PyProof.Rows PyProof.V
set_option maxHeartbeats 20000000
namespace Mine
theorem law_mid : ∀ (w : World) (mean : ExcName → Option Value) (mg mb : Str → Option Value) (dp un : Nat) (gd : Option (List Code)) (a : Addr) (ccd : Value) (outer : List Env) (A₀ : Around) (base h₀ : Heap) (L : Addr) (s : Shared) (m₀ : Str → Option Value) (Q : Flow → Shared → Prop) (E : Value → Shared → Prop) (dA dB dC W : Int) (tS tE tW u1 u2 u3 : Tok) (D : Addr) (oc : Obj) (vc : Option Value) (e : Nat),
    Below A₀ base outer h₀ → Fr h₀ L s.heap (fun y => if y = Str.ofString "end" then some (.int (dB.fmod 16) tE) else if y = Str.ofString "start" then some (.int (dA.fmod 16) tS) else if y = Str.ofString "weight" then some (.int W tW) else if y = Str.ofString "drawn" then some (.ref D) else m₀ y) → Frag.In (hd.heap_39 w.params) h₀ → News h₀ L s.heap [(D, listOf #[.int dA u1, .int dB u2, .int dC u3] e), (L + 1, oc)] → Top hd.view_39 (looseW hd.view_39 []) mean mg mb h₀ → dp + 20 < recursionLimit → un + 200 < cLine → PassesOwn (model PySem.Challenge.rw_pm0039_01.row.prog w) (ktrTop dp un gd (Str.ofString "law") lawScope L a ccd (cellsFrom (L + 1) lawScope.names []) outer) (lawEnv L a ccd) E →
    oc.data = .cell vc → L + 1 < D → (0 ≤ dA ∧ dA < 48) → (0 ≤ dB ∧ dB < 48) → (0 ≤ dC ∧ dC < 48) →
    (∀ h' tk' m' news', Fr h₀ L h' m' → News h₀ L h' news' → Q (.ret (.bool true)) { s with heap := h', toks := tk' }) →
    wpAny (model PySem.Challenge.rw_pm0039_01.row.prog w) (ktrTop dp un gd (Str.ofString "law") lawScope L a ccd (cellsFrom (L + 1) lawScope.names []) outer) (execs (lawBody.drop 4) (lawEnv L a ccd)) Q E s := by
  k_fill
  intro w mean mg mb dp un gd a ccd outer A₀ base h₀ L s m₀ Q E dA dB dC W tS tE tW u1 u2 u3 D oc vc e B F KX N T hdp hun hE hoc hLD hdA hdB hdC hQ
  have X := KX
  obtain ⟨S, hS⟩ : ∃ S, S = lawScope := ⟨_, rfl⟩
  conv at hS => rhs; whnf
  simp only [lawEnv] at hE ⊢
  simp only [show lawScope = S from by rw [hS]; rfl] at hE ⊢
  subst hS
  first | (conv in List.drop _ lawBody => whnf) | (conv in lawStmt _ => whnf)
  replace hLD := ltNat hLD
  refine fr_let F ?_; clear F; intro mF F
  w_top off
  k_with_none
  k_with "subscriptTail Name BinOp ref int" => k_dflt (
    (with_reducible show wpAny _ _ (subscriptTail _ _ (Value.ref _) (Value.int _ _)) _ _ _)
    (rename News _ _ _ _ => lN')
    first
    | (refine' Mine.item_listK lN' ?im01a ?ia01a ?ib01a ?ix01a ?_ ?ih01a; (case im01a => k_mem); (case ia01a => decide); (case ib01a => decide); (case ix01a => exact rfl); (case ih01a => with_unfolding_all rfl))
    | (refine' Mine.item_tupK lN' ?im01b ?ia01b ?ib01b ?ix01b ?_ ?ih01b; (case im01b => k_mem); (case ia01b => decide); (case ib01b => decide); (case ix01b => exact rfl); (case ih01b => with_unfolding_all rfl)))
  k_with "subscriptTail Name BinOp ref int" => k_dflt (
    (with_reducible show wpAny _ _ (subscriptTail _ _ (Value.ref _) (Value.int _ _)) _ _ _)
    (rename News _ _ _ _ => lN')
    first
    | (refine' Mine.item_listK lN' ?im02a ?ia02a ?ib02a ?ix02a ?_ ?ih02a; (case im02a => k_mem); (case ia02a => decide); (case ib02a => decide); (case ix02a => exact rfl); (case ih02a => with_unfolding_all rfl))
    | (refine' Mine.item_tupK lN' ?im02b ?ia02b ?ib02b ?ix02b ?_ ?ih02b; (case im02b => k_mem); (case ia02b => decide); (case ib02b => decide); (case ix02b => exact rfl); (case ih02b => with_unfolding_all rfl)))
  k_with "subscriptTail Name BinOp ref int" => k_dflt (
    (with_reducible show wpAny _ _ (subscriptTail _ _ (Value.ref _) (Value.int _ _)) _ _ _)
    (rename News _ _ _ _ => lN')
    first
    | (refine' Mine.item_listK lN' ?im03a ?ia03a ?ib03a ?ix03a ?_ ?ih03a; (case im03a => k_mem); (case ia03a => decide); (case ib03a => decide); (case ix03a => exact rfl); (case ih03a => with_unfolding_all rfl))
    | (refine' Mine.item_tupK lN' ?im03b ?ia03b ?ib03b ?ix03b ?_ ?ih03b; (case im03b => k_mem); (case ia03b => decide); (case ib03b => decide); (case ix03b => exact rfl); (case ih03b => with_unfolding_all rfl)))
  k_with "subscriptTail Name Constant ref int" => k_dflt (
    (with_reducible show wpAny _ _ (subscriptTail _ _ (Value.ref _) (Value.int _ _)) _ _ _)
    (rename News _ _ _ _ => lN')
    first
    | (refine' Mine.item_listK lN' ?im11a ?ia11a ?ib11a ?ix11a ?_ ?ih11a; (case im11a => k_mem); (case ia11a => decide); (case ib11a => decide); (case ix11a => exact rfl); (case ih11a => with_unfolding_all rfl))
    | (refine' Mine.item_tupK lN' ?im11b ?ia11b ?ib11b ?ix11b ?_ ?ih11b; (case im11b => k_mem); (case ia11b => decide); (case ib11b => decide); (case ix11b => exact rfl); (case ih11b => with_unfolding_all rfl)))
  k_with "subscriptTail Name Constant ref int" => k_dflt (
    (with_reducible show wpAny _ _ (subscriptTail _ _ (Value.ref _) (Value.int _ _)) _ _ _)
    (rename News _ _ _ _ => lN')
    first
    | (refine' Mine.item_listK lN' ?im12a ?ia12a ?ib12a ?ix12a ?_ ?ih12a; (case im12a => k_mem); (case ia12a => decide); (case ib12a => decide); (case ix12a => exact rfl); (case ih12a => with_unfolding_all rfl))
    | (refine' Mine.item_tupK lN' ?im12b ?ia12b ?ib12b ?ix12b ?_ ?ih12b; (case im12b => k_mem); (case ia12b => decide); (case ib12b => decide); (case ix12b => exact rfl); (case ih12b => with_unfolding_all rfl)))
  k_with "subscriptTail Name Constant ref int" => k_dflt (
    (with_reducible show wpAny _ _ (subscriptTail _ _ (Value.ref _) (Value.int _ _)) _ _ _)
    (rename News _ _ _ _ => lN')
    first
    | (refine' Mine.item_listK lN' ?im13a ?ia13a ?ib13a ?ix13a ?_ ?ih13a; (case im13a => k_mem); (case ia13a => decide); (case ib13a => decide); (case ix13a => exact rfl); (case ih13a => with_unfolding_all rfl))
    | (refine' Mine.item_tupK lN' ?im13b ?ia13b ?ib13b ?ix13b ?_ ?ih13b; (case im13b => k_mem); (case ia13b => decide); (case ib13b => decide); (case ix13b => exact rfl); (case ih13b => with_unfolding_all rfl)))
  k_with "execs cons" => ((rename Fr _ _ _ _ => lF'); refine norm_st lF' s ?_; intro tkS; refine fr_let lF' ?_; intro mX F'; clear lF'; refine q_let ?_; intro qX; refine PySem.wpAny_execs_cons ?_)
  k_with "execs cons" => ((with_reducible show wpAny _ _ (execs (Stmt.If _ _ _ _ :: _) _) _ _ _); refine StopD.out ?_)
  k_with "subscriptTail" => ((with_reducible show wpAny _ _ (subscriptTail (PySem.Expr.BinOp _ _ _ _) _ _ _) _ _ _); (rename IntsAre _ (_ ++ [1]) => hWt); obtain ⟨wt, tWt, rWt, eWt⟩ := Mine.weight1 hWt; subst eWt; clear hWt; refine PySem.W.kba_turn (value' := PySem.Expr.Name (PySem.Str.ofString "_") ⟨0, 0, 0, 0⟩) (fun _ => rfl) ?_)
  k_with "subscriptTail" => ((with_reducible show wpAny _ _ (subscriptTail (PySem.Expr.Tuple _ _ _) _ _ (Value.int (Int.fmod _ 2) _)) _ _ _); have hpb := Mine.fmod_bd dC (n := 2) (by decide); rcases (show dC.fmod 2 = 0 ∨ dC.fmod 2 = 1 by omega) with hpp | hpp; all_goals (rw [hpp]; refine PySem.W.kba_turn (value' := PySem.Expr.Name (PySem.Str.ofString "_") ⟨0, 0, 0, 0⟩) (fun _ => rfl) ?_))
  k_with "execs cons" => ((with_reducible show wpAny _ _ (execs (Stmt.Assign [Expr.Name (PySem.Str.ofString "weight") _] _ _ :: _) _) _ _ _); (rename IntsAre _ (List.map _ _ ++ List.drop _ _) => hDr); obtain ⟨dA, dB, dC, tdA, tdB, tdC, eDr, hdA, hdB, hdC⟩ := Mine.drawn3 hDr; subst eDr; clear hDr)
  k_with "eval Subscript Tuple" => k_dflt (
    (with_reducible show wpAny _ _ (eval (Expr.Subscript (Expr.Tuple _ _ _) _ _) _) _ _ _)
    (fail_if_success (with_reducible show wpAny _ _ _ (Mine.EJoin _ _ _ _) _ _))
    (rename Fr _ _ _ _ => lF'); (rename News _ _ _ _ => lN')
    (refine' Mine.eJoinV (h₀ := _) (L := _) lF' lN' (fun t => .str (Mine.ltr (dC.fmod 2)) t) ?_ ?_)
    rotate_left
    clear lF' lN'
    intro tJ hJ tkJ F' N'
    rotate_right)
  k_with "EJoin" => k_dflt (
    (rename News _ _ _ _ => lN')
    refine' Mine.EJoin.intro (by with_reducible assumption) (Mine.news_sub lN' ?hsubJ) ⟨rfl, rfl, _, rfl⟩
    (case hsubJ => intro p hp; first | exact hp | exact List.Mem.tail _ hp | exact List.Mem.tail _ (List.Mem.tail _ hp)))
  k_with "exec Assign cons ListComp" => (k_here; (with_reducible show wpAny _ _ (exec (Stmt.Assign [Expr.Name (PySem.Str.ofString "words") _] _ _) _) _ _ _); k_dflt (refine LCg.Assign_ListComp_U (F₀ := by k_asm) (by rfl) (by with_unfolding_all rfl) (by with_unfolding_all rfl) (by decide) (by rfl) (by decide) (by rfl) (by rfl) (by rfl) ?_))
  k_with "CompSrc" => (k_here; k_dflt (refine LCg.CompSrc.range (n := 16) (by rfl) (by k_asm) (by k_asm) (by assumption) (by decide) (by decide) (by exact Nat.le_of_ble_eq_true rfl) ?_; intro g'; (refine' kct_range (n := 16) (fun k => Mine.wordS (Mine.ltr (dC.fmod 2)) k) (fun k' t' I' oI' C' oC' D' m' ys' h' tk' E' hlo' hhi' hC' hx' F' N' off' ne' => ?_) ?_); (all_goals (try (simp only [LCg.Off3, and_true] at off'))); (all_goals (try (obtain ⟨⟨oo1, oo2, oo3⟩, ⟨oo4, oo5, oo6⟩, oo7, oo8, oo9⟩ := id off'))); (all_goals (try ((show KPfMark → _); intro hMark'))); kcf_last))
  k_with "KCtEl" => (k_dflt (exact kct_el rfl (by with_unfolding_all rfl) (by with_unfolding_all rfl)))
  k_with "binaryOp Mult str int" => k_dflt (first
    | ((with_reducible show wpAny _ _ (binaryOp _ _ (Value.int (Int.fdiv _ _) _)) _ _ _); refine PySem.W.KXi.mul (n := 1) (Mine.ltr_item _ _ (by decide) (by decide)) (by decide) (Mine.fd4_rng (by assumption) (by omega)).1 (Mine.fd4_rng (by assumption) (by omega)).2.1 ?_; intro _ _ _ hmul; replace hmul := Mine.mul_len hmul (Mine.fd4_rng (by assumption) (by omega)).2.2.1 (Mine.fd4_rng (by assumption) (by omega)).2.2.2)
    | ((with_reducible show wpAny _ _ (binaryOp _ _ (Value.int (Int.fmod _ _) _)) _ _ _); refine PySem.W.KXi.mul (n := 1) (Mine.ltr_item _ _ (by decide) (by decide)) (by decide) Mine.fm4_rng.1 Mine.fm4_rng.2.1 ?_; intro _ _ _ hmul; replace hmul := Mine.mul_len hmul Mine.fm4_rng.2.2.1 Mine.fm4_rng.2.2.2))
  k_with "binaryOp Add str str" => k_dflt (
    refine' PySem.W.KXadd.add (K := 16) (L := 16) ?aS1 ?aS2 ?aS3 ?_
    (case aS1 => with_reducible assumption)
    (case aS2 => with_reducible assumption)
    (case aS3 => exact Nat.le_of_ble_eq_true rfl)
    intro _ _ hl9
    clear hl9
    (try clear hmul)
    (try clear hmul)
    dsimp +zetaDelta only)
  k_with "subscriptTail Name Constant str int" => k_dflt (refine PySem.W.KXi.item (n := 2) (Mine.ltr_len _) (by decide) (by decide) (by decide) ?_; intro hit9; clear hit9)
  k_steps
  refine StopD.mk ?_
  (rename Fr _ _ _ _ => lF'); (rename News _ _ _ _ => lN'); (rename CarriedAll _ _ => hCA); (rename _ ≠ _ ∧ _ => o1'); (rename Obj.data _ = _ => hcl)
  have hlC := words_len hCA
  refine' law_rest w mean mg mb dp un gd a ccd outer A₀ base h₀ L _ _ _ E (dA.fmod 16) (dB.fmod 16) W (dC.fmod 2) (2 - dC.fmod 2) tS tE tW _ _ _ _ _ _ _ _ B (fr_pre lF' [(PySem.Str.ofString "words", .ref _), (PySem.Str.ofString "prices", .ref _), (PySem.Str.ofString "over", .int _ _), (PySem.Str.ofString "end", .int (dB.fmod 16) tE), (PySem.Str.ofString "start", .int (dA.fmod 16) tS), (PySem.Str.ofString "weight", .int W tW)] ?m1) X (news_sub lN' ?m2) T hdp hun hE hcl ?m3 o1'.1 o1'.2.2 hlC (WordsAre.of hCA) PricesAre.of ?m4 ?m5 ?m6 ?_
  (case m1 => exact List.forall_mem_cons.mpr ⟨by with_unfolding_all rfl, List.forall_mem_cons.mpr ⟨by with_unfolding_all rfl, List.forall_mem_cons.mpr ⟨by with_unfolding_all rfl, List.forall_mem_cons.mpr ⟨by with_unfolding_all rfl, List.forall_mem_cons.mpr ⟨by with_unfolding_all rfl, List.forall_mem_cons.mpr ⟨by with_unfolding_all rfl, fun _ h => nomatch h⟩⟩⟩⟩⟩⟩)
  (case m2 => exact List.forall_mem_cons.mpr ⟨by k_mem, List.forall_mem_cons.mpr ⟨by k_mem, List.forall_mem_cons.mpr ⟨by k_mem, fun _ h => nomatch h⟩⟩⟩)
  (case m3 => rename (_ < _ ∧ _ < _) => l1'; exact l1'.2)
  (case m4 => exact fmod_bd dA (by decide))
  (case m5 => exact fmod_bd dB (by decide))
  (case m6 => exact fmod_bd dC (by decide))
  exact fun h' tk' m' news' F2 N2 => hQ h' tk' m' news' F2 N2
end Mine
end PartPlawmid
section PartPhead
open PySem PySem.W PyProof.Rows PyProof.V Mine
set_option maxHeartbeats 20000000 in
theorem PySem.Challenge.cw_pm0039_01_holds : PySem.Challenge.rw_pm0039_01.Holds :=
  Mine.hd (by
  k_with_none
  k_with "subscriptTail Name Constant ref int" => k_dflt (
    (with_reducible show wpAny _ _ (subscriptTail _ _ (Value.ref _) (Value.int _ _)) _ _ _)
    (rename News _ _ _ _ => lN')
    first
    | (refine' Mine.item_listK lN' ?im01a ?ia01a ?ib01a ?ix01a ?_ ?ih01a; (case im01a => k_mem); (case ia01a => decide); (case ib01a => decide); (case ix01a => exact rfl); (case ih01a => with_unfolding_all rfl))
    | (refine' Mine.item_tupK lN' ?im01b ?ia01b ?ib01b ?ix01b ?_ ?ih01b; (case im01b => k_mem); (case ia01b => decide); (case ib01b => decide); (case ix01b => exact rfl); (case ih01b => with_unfolding_all rfl)))
  k_with "subscriptTail Name Constant ref int" => k_dflt (
    (with_reducible show wpAny _ _ (subscriptTail _ _ (Value.ref _) (Value.int _ _)) _ _ _)
    (rename News _ _ _ _ => lN')
    first
    | (refine' Mine.item_listK lN' ?im02a ?ia02a ?ib02a ?ix02a ?_ ?ih02a; (case im02a => k_mem); (case ia02a => decide); (case ib02a => decide); (case ix02a => exact rfl); (case ih02a => with_unfolding_all rfl))
    | (refine' Mine.item_tupK lN' ?im02b ?ia02b ?ib02b ?ix02b ?_ ?ih02b; (case im02b => k_mem); (case ia02b => decide); (case ib02b => decide); (case ix02b => exact rfl); (case ih02b => with_unfolding_all rfl)))
  k_with "subscriptTail Name Constant ref int" => k_dflt (
    (with_reducible show wpAny _ _ (subscriptTail _ _ (Value.ref _) (Value.int _ _)) _ _ _)
    (rename News _ _ _ _ => lN')
    first
    | (refine' Mine.item_listK lN' ?im03a ?ia03a ?ib03a ?ix03a ?_ ?ih03a; (case im03a => k_mem); (case ia03a => decide); (case ib03a => decide); (case ix03a => exact rfl); (case ih03a => with_unfolding_all rfl))
    | (refine' Mine.item_tupK lN' ?im03b ?ia03b ?ib03b ?ix03b ?_ ?ih03b; (case im03b => k_mem); (case ia03b => decide); (case ib03b => decide); (case ix03b => exact rfl); (case ih03b => with_unfolding_all rfl)))
  k_with "subscriptTail Name Slice ref ref" => (k_here; (with_reducible show wpAny _ _ (subscriptTail _ (PySem.Expr.Slice _ _ none _) (Value.ref _) (Value.ref _)) _ _ _); k_dflt (refine' PySem.W.kmk_slice_ints ?Fa ?Na ?la ?pa ?qa ?ia ?ma ?ca ?_ ?sa ?ta ?za; (case Fa => k_asm); (case Na => k_asm); (case la => kmk_list); (case pa => kmk_part); (case qa => kmk_part); (case ia => l_ints); (case ma => (first | exact PySem.W.kmk_from (by l_ints) (Int.natCast_nonneg _) | exact PySem.W.kmk_upto (by l_ints) (by decide) | exact PySem.W.kmk_run (by l_ints) (by decide) (by decide))); (case ca => kmk_len); (case sa => with_unfolding_all rfl); (case ta => kmk_pure); (case za => (refine PySem.W.kmk_sz (by l_ints) ?_; (simp only [sizeLine_eq, List.length_cons, List.length_nil]); omega))); intro D' ws' h' F' N' l1 hI' hC' hL'; (try simp only [Int.reduceNeg, Int.neg_neg, Int.reduceToNat] at hI' hC' hL'); (try k_lt l1); (try k_sweep))
  k_with "subscriptTail Name Slice ref ref" => (k_here; (with_reducible show wpAny _ _ (subscriptTail _ (PySem.Expr.Slice _ _ none _) (Value.ref _) (Value.ref _)) _ _ _); k_dflt (refine' PySem.W.kmk_slice_ints ?Fb ?Nb ?lb ?pb ?qb ?ib ?mb ?cb ?_ ?sb ?tb ?zb; (case Fb => k_asm); (case Nb => k_asm); (case lb => kmk_list); (case pb => kmk_part); (case qb => kmk_part); (case ib => l_ints); (case mb => (first | exact PySem.W.kmk_from (by l_ints) (Int.natCast_nonneg _) | exact PySem.W.kmk_upto (by l_ints) (by decide) | exact PySem.W.kmk_run (by l_ints) (by decide) (by decide))); (case cb => kmk_len); (case sb => with_unfolding_all rfl); (case tb => kmk_pure); (case zb => (refine PySem.W.kmk_sz (by l_ints) ?_; (simp only [sizeLine_eq, List.length_cons, List.length_nil]); omega))); intro D' ws' h' F' N' l1 hI' hC' hL'; (try simp only [Int.reduceNeg, Int.neg_neg, Int.reduceToNat] at hI' hC' hL'); (try k_lt l1); (try k_sweep))
  k_with "subscriptTail Name Slice ref ref" => (k_here; (with_reducible show wpAny _ _ (subscriptTail _ (PySem.Expr.Slice _ _ none _) (Value.ref _) (Value.ref _)) _ _ _); k_dflt (refine' PySem.W.kmk_slice_ints ?Fc ?Nc ?lc ?pc ?qc ?ic ?mc ?cc ?_ ?sc ?tc ?zc; (case Fc => k_asm); (case Nc => k_asm); (case lc => kmk_list); (case pc => kmk_part); (case qc => kmk_part); (case ic => l_ints); (case mc => (first | exact PySem.W.kmk_from (by l_ints) (Int.natCast_nonneg _) | exact PySem.W.kmk_upto (by l_ints) (by decide) | exact PySem.W.kmk_run (by l_ints) (by decide) (by decide))); (case cc => kmk_len); (case sc => with_unfolding_all rfl); (case tc => kmk_pure); (case zc => (refine PySem.W.kmk_sz (by l_ints) ?_; (simp only [sizeLine_eq, List.length_cons, List.length_nil]); omega))); intro D' ws' h' F' N' l1 hI' hC' hL'; (try simp only [Int.reduceNeg, Int.neg_neg, Int.reduceToNat] at hI' hC' hL'); (try k_lt l1); (try k_sweep))
  k_with "subscriptTail" => ((with_reducible show wpAny _ _ (subscriptTail (PySem.Expr.List _ _) _ _ _) _ _ _); (refine PySem.W.kba_turn (value' := PySem.Expr.Name (PySem.Str.ofString "_") ⟨0, 0, 0, 0⟩) (fun _ => rfl) ?_))
  k_with "subscriptTail" => ((with_reducible show wpAny _ _ (subscriptTail (PySem.Expr.BinOp _ _ _ _) _ _ _) _ _ _); (rename IntsAre _ (_ ++ [1]) => hWt); obtain ⟨wt, tWt, rWt, eWt⟩ := Mine.weight1 hWt; subst eWt; clear hWt; refine PySem.W.kba_turn (value' := PySem.Expr.Name (PySem.Str.ofString "_") ⟨0, 0, 0, 0⟩) (fun _ => rfl) ?_)
  k_with "subscriptTail" => ((with_reducible show wpAny _ _ (subscriptTail (PySem.Expr.Tuple _ _ _) _ _ (Value.int (Int.fmod _ 2) _)) _ _ _); have hpb := Mine.fmod_bd dC (n := 2) (by decide); rcases (show dC.fmod 2 = 0 ∨ dC.fmod 2 = 1 by omega) with hpp | hpp; all_goals (rw [hpp]; refine PySem.W.kba_turn (value' := PySem.Expr.Name (PySem.Str.ofString "_") ⟨0, 0, 0, 0⟩) (fun _ => rfl) ?_))
  k_with "execs cons" => ((with_reducible show wpAny _ _ (execs (Stmt.Assign [Expr.Name (PySem.Str.ofString "weight") _] _ _ :: _) _) _ _ _); (rename IntsAre _ (List.map _ _ ++ List.drop _ _) => hDr); obtain ⟨dA, dB, dC, tdA, tdB, tdC, eDr, hdA, hdB, hdC⟩ := Mine.drawn3 hDr; subst eDr; clear hDr)
  k_with "eval Subscript Tuple" => k_dflt (
    (with_reducible show wpAny _ _ (eval (Expr.Subscript (Expr.Tuple _ _ _) _ _) _) _ _ _)
    (fail_if_success (with_reducible show wpAny _ _ _ (Mine.EJoin _ _ _ _) _ _))
    (rename Fr _ _ _ _ => lF'); (rename News _ _ _ _ => lN')
    (refine' Mine.eJoinV (h₀ := _) (L := _) lF' lN' (fun t => .str (Mine.ltr (dC.fmod 2)) t) ?_ ?_)
    rotate_left
    clear lF' lN'
    intro tJ hJ tkJ F' N'
    rotate_right)
  k_with "EJoin" => k_dflt (
    (rename News _ _ _ _ => lN')
    refine' Mine.EJoin.intro (by with_reducible assumption) (Mine.news_sub lN' ?hsubJ) ⟨rfl, rfl, _, rfl⟩
    (case hsubJ => intro p hp; first | exact hp | exact List.Mem.tail _ hp | exact List.Mem.tail _ (List.Mem.tail _ hp)))
  k_with "exec Assign cons ListComp" => (k_here; (with_reducible show wpAny _ _ (exec (Stmt.Assign [Expr.Name (PySem.Str.ofString "words") _] _ _) _) _ _ _); k_dflt (refine LCg.Assign_ListComp_U (F₀ := by k_asm) (by rfl) (by with_unfolding_all rfl) (by with_unfolding_all rfl) (by decide) (by rfl) (by decide) (by rfl) (by rfl) (by rfl) ?_))
  k_with "CompSrc" => (k_here; k_dflt (refine LCg.CompSrc.range (n := 16) (by rfl) (by k_asm) (by k_asm) (by assumption) (by decide) (by decide) (by exact Nat.le_of_ble_eq_true rfl) ?_; intro g'; (refine' kct_range (n := 16) (fun k => Mine.wordS (Mine.ltr (dC.fmod 2)) k) (fun k' t' I' oI' C' oC' D' m' ys' h' tk' E' hlo' hhi' hC' hx' F' N' off' ne' => ?_) ?_); (all_goals (try (simp only [LCg.Off3, and_true] at off'))); (all_goals (try ((show KPfMark → _); intro hMark'))); kcf_last))
  k_with "KCtEl" => (k_dflt (exact kct_el rfl (by with_unfolding_all rfl) (by with_unfolding_all rfl)))
  k_with "binaryOp Mult str int" => k_dflt (first
    | ((with_reducible show wpAny _ _ (binaryOp _ _ (Value.int (Int.fdiv _ _) _)) _ _ _); refine PySem.W.KXi.mul (n := 1) (Mine.ltr_item _ _ (by decide) (by decide)) (by decide) (Mine.fd4_rng (by assumption) (by omega)).1 (Mine.fd4_rng (by assumption) (by omega)).2.1 ?_; intro _ _ _ hmul; replace hmul := Mine.mul_len hmul (Mine.fd4_rng (by assumption) (by omega)).2.2.1 (Mine.fd4_rng (by assumption) (by omega)).2.2.2)
    | ((with_reducible show wpAny _ _ (binaryOp _ _ (Value.int (Int.fmod _ _) _)) _ _ _); refine PySem.W.KXi.mul (n := 1) (Mine.ltr_item _ _ (by decide) (by decide)) (by decide) Mine.fm4_rng.1 Mine.fm4_rng.2.1 ?_; intro _ _ _ hmul; replace hmul := Mine.mul_len hmul Mine.fm4_rng.2.2.1 Mine.fm4_rng.2.2.2))
  k_with "binaryOp Add str str" => k_dflt (
    refine' PySem.W.KXadd.add (K := 16) (L := 16) ?aS1 ?aS2 ?aS3 ?_
    (case aS1 => with_reducible assumption)
    (case aS2 => with_reducible assumption)
    (case aS3 => exact Nat.le_of_ble_eq_true rfl)
    intro _ _ hl9
    clear hl9
    (try clear hmul)
    (try clear hmul)
    dsimp +zetaDelta only)
  k_with "subscriptTail Name Constant str int" => k_dflt (refine PySem.W.KXi.item (n := 2) (Mine.ltr_len _) (by decide) (by decide) (by decide) ?_; intro hit9; clear hit9)
  k_with "execs cons" => ((with_reducible show wpAny _ _ (execs (Stmt.Assign [Expr.Name (Str.ofString "letters") _] _ _ :: _) _) _ _ _); refine StopD.out ?_)
  w_strict (k_go0; (all_goals try k_fold))
  k_steps
  refine StopD.mk ?_
  (rename Fr _ _ _ _ => lF'); (rename News _ _ _ _ => lN'); (rename Top _ _ _ _ _ _ => T0); (rename Frag.In _ _ => KX0); (rename Below _ _ _ _ => K0); (rename Obj.data _ = _ => hcl)
  (rename _ < _ ∧ _ < _ ∧ _ < _ ∧ _ < _ ∧ _ < _ => l5)
  refine' Mine.law_mid _ _ _ _ (callerA.depth + 1) (callerA.units + 3) (some []) _ _ [] callerA _ _ _ _ _ _ _ dA dB dC wt _ _ _ _ _ _ _ _ _ _ K0 (Mine.fr_pre lF' [(PySem.Str.ofString "end", .int (dB.fmod 16) _), (PySem.Str.ofString "start", .int (dA.fmod 16) _), (PySem.Str.ofString "weight", .int wt _), (PySem.Str.ofString "drawn", .ref _)] ?h1) KX0 (Mine.news_sub lN' ?h2) T0 ?h3 ?h4 ?h5 hcl l5.2.2.2.2 hdA hdB hdC ?_
  (case h1 => exact List.forall_mem_cons.mpr ⟨by with_unfolding_all rfl, List.forall_mem_cons.mpr ⟨by with_unfolding_all rfl, List.forall_mem_cons.mpr ⟨by with_unfolding_all rfl, List.forall_mem_cons.mpr ⟨by with_unfolding_all rfl, fun _ h => nomatch h⟩⟩⟩⟩)
  (case h2 => exact List.forall_mem_cons.mpr ⟨by k_mem, List.forall_mem_cons.mpr ⟨by k_mem, fun _ h => nomatch h⟩⟩)
  (case h3 => decide)
  (case h4 => decide)
  (case h5 => with_unfolding_all passes_own)
  intro h' tk' m' news' F' N'
  k_steps)
end PartPhead
