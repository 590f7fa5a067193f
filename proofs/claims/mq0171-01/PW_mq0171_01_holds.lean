import PyProof.Rows.All
import Wide.All
import OpenK.AllK
import Wide.FinOn
import Lean
import PySem.Challenge.RW_mq0171_01
set_option Elab.async false
set_option linter.unusedVariables false
set_option linter.unusedSimpArgs false
namespace Mine
open PySem PySem.W PyProof.Rows
open_top hd for PySem.Challenge.rw_mq0171_01
end Mine
section
open PySem PySem.W PyProof.Rows PySem.Spec PySem.Calls
namespace Mine
abbrev KeepR (s : Shared) (R : Result → Shared → Prop) : Result → Shared → Prop := fun r s' => (∀ b o, s.heap.get? b = some o → s'.heap.get? b = some o) → R r s'
section
variable {prog : Program} {w : World} {A A₀ : Around} {s : Shared} {K : Frag} {L : Addr} {h₀ base : Heap} {m mg mb : Str → Option Value} {p : Program} {loose : List Str} {mean : ExcName → Option Value}
  {env : Env} {outer : List Env} {R : Result → Shared → Prop} {name qual : Str} {params : Arguments} {body : List Stmt} {scope : Scope} {dV kV doc pm cdv ct oc : Value} {an od : Option Addr} {osl : Array (Option Value)} {f : Addr} {args : Args} {binds : List (Str × Value)}
theorem leave_keep {v : Value} {s' : Shared} (h : LeaveK h₀ L m s.heap (KeepR s R) v s') : LeaveK h₀ L m s.heap R v s' := by
  obtain ⟨L', m', news', F', N', k⟩ := h
  exact ⟨L', m', news', F', N', fun a b => k a b F'.keep⟩
theorem code_keep (B : Below A₀ base outer h₀) (F : Fr h₀ L s.heap m) (X₀ : K.In h₀) (T : Top p loose mean mg mb h₀) (hA : A.frames = some (env :: outer)) (hf : env.frame = some L) (hke : env.scope.kind = .function)
    (ho : K.lookup f = some ⟨oc, od, .func (fnOf name qual params body scope dV kV doc pm an cdv ct), osl⟩) (hcd : codeIn K cdv qual = true) (hroom : A.depth < recursionLimit)
    (hbind : BindsTo s (fnOf name qual params body scope dV kV doc pm an cdv ct) args binds) (hloc : ∀ y ∈ binds, scope.names.lookup y.1 = some .local)
    (h : ∀ L' h₁, Fr s.heap L' h₁ (fun y => binds.reverse.lookup y) → News s.heap L' h₁ [] → Below A base (env :: outer) s.heap → K.In s.heap → Top p loose mean mg mb s.heap →
      wpAny (model prog w) (A.deeper (envOf qual scope L' f cdv)) (execs body (envOf qual scope L' f cdv))
        (fun fl s' => LeaveK h₀ L m s.heap (KeepR s R) (match fl with | .ret v => v | _ => .none) s')
        (fun e s' => wpAny (model prog w) (A.deeper (envOf qual scope L' f cdv)) (leaving (envOf qual scope L' f cdv) e) (fun _ s'' => R (.error e) s'') (fun e' s'' => R (.error e') s'') s')
        { s with heap := h₁, toks := s.toks + binds.length })
    (hco : scope.isCoroutine = false) (hgen : scope.isGenerator = false) (hk : scope.kind = .function)
    (hcell : ∀ x ∈ scope.names, x.2 ≠ .cell) : codeAny (model prog w) A (.call (.ref f) args) R s := by
  obtain ⟨FG, BG, st, lv⟩ := groundX (R := R) B F (News.nil : News h₀ L s.heap []) hA hf hke
  have X : K.In s.heap := X₀.keeps F.keep
  refine codeAny_call_def (fd := fnOf name qual params body scope dV kV doc pm an cdv ct) (body := body) (binds := binds) hroom (X _ _ ho) rfl (T.nolimit.keeps F.keep) (codeRec_of X hcd) rfl hbind hcell hloc (fun h₁ hns hk₁ => ?_) hco hgen hk
  exact wpAny_mono (h s.heap.objs.size h₁ ⟨hns, hk₁, Nat.le_refl _⟩ News.nil BG X (T.keeps F.keep)) (fun fl s' hl => lv _ _ (leave_keep hl)) fun _ _ y => y
theorem code_keepC (B : Below A₀ base outer h₀) (F : Fr h₀ L s.heap m) (X₀ : K.In h₀) (T : Top p loose mean mg mb h₀) (hA : A.frames = some (env :: outer)) (hf : env.frame = some L) (hke : env.scope.kind = .function)
    (ho : K.lookup f = some ⟨oc, od, .func (fnOf name qual params body scope dV kV doc pm an cdv ct), osl⟩) (hcd : codeIn K cdv qual = true) (hroom : A.depth < recursionLimit)
    (hbind : BindsTo s (fnOf name qual params body scope dV kV doc pm an cdv ct) args binds) (hkind : (binds.all fun y => scope.names.lookup y.1 == some .local || scope.names.lookup y.1 == some .cell) = true)
    (hnd : ((cellsFrom 0 scope.names []).map (·.1)).Nodup)
    (h : ∀ L' h₁ tk cells, Fr s.heap L' h₁ (bindL (envOfC qual scope L' f cdv).kindOf binds fun _ => none) → News s.heap L' h₁ (cells ++ []) →
      CellsAre (bindC (envOfC qual scope L' f cdv).kindOf binds fun _ => none) (cellsFrom (L' + 1) scope.names []) cells → Below A base (env :: outer) s.heap → K.In s.heap → Top p loose mean mg mb s.heap →
      wpAny (model prog w) (A.deeper (envOfC qual scope L' f cdv)) (execs body (envOfC qual scope L' f cdv))
        (fun fl s' => LeaveK h₀ L m s.heap (KeepR s R) (match fl with | .ret v => v | _ => .none) s')
        (fun e s' => wpAny (model prog w) (A.deeper (envOfC qual scope L' f cdv)) (leaving (envOfC qual scope L' f cdv) e) (fun _ s'' => R (.error e) s'') (fun e' s'' => R (.error e') s'') s')
        { s with heap := h₁, toks := tk })
    (hco : scope.isCoroutine = false) (hgen : scope.isGenerator = false) (hk : scope.kind = .function) : codeAny (model prog w) A (.call (.ref f) args) R s := by
  obtain ⟨FG, BG, st, lv⟩ := groundX (R := R) B F (News.nil : News h₀ L s.heap []) hA hf hke
  have X : K.In s.heap := X₀.keeps F.keep
  refine codeAny_call_function hroom (X _ _ ho) rfl hco hgen rfl (codeRec_of X hcd) (hbind _ _ _ _ ?_)
  refine wpAny_newFunctionEnv_cells hk (kindsX hkind _) fun env' he s' x => ?_
  subst he
  refine ⟨(T.nolimit.keeps F.keep).keeps x.toInCall.keep, codeAny_func ?_⟩
  obtain ⟨h₁, tk, rfl, _⟩ := x.done
  have hk₁ := x.toInCall.keep
  obtain ⟨cells, NC, Y⟩ := Cl.news (h₀ := s.heap) (Nat.le_refl _) fun n c hm => ⟨x.cell n c (lookup_of_mem_nodup (cellsFrom_names scope.names 0 (s.heap.objs.size + 1) [] [] rfl ▸ hnd) hm), x.above n c hm⟩
  refine wpAny_mono (h s.heap.objs.size h₁ tk cells ⟨x.toInCall.ns, hk₁, Nat.le_refl _⟩ (fun p hp => ?_) Y BG X (T.keeps F.keep)) (fun fl s' hl => lv _ _ (leave_keep hl)) fun _ _ y => y
  rw [List.append_nil] at hp
  exact NC p hp
end
end Mine
end
section
open PySem PySem.W PyProof.Rows
namespace Mine
abbrev Dbl := UInt64
/-- what `_v` reckons -/
def wF (m1 m2 h : Dbl) : Dbl :=
  if (Float64.cmp h 4595172819793696085 == some Ordering.lt) = true then Float64.add m1 (Float64.mul (Float64.mul (Float64.sub m2 m1) h) 4618441417868443648)
  else if (Float64.cmp h 4602678819172646912 == some Ordering.lt) = true then m2
  else if (Float64.cmp h 4604180019048437077 == some Ordering.lt) = true then Float64.add m1 (Float64.mul (Float64.mul (Float64.sub m2 m1) (Float64.sub 4604180019048437077 h)) 4618441417868443648)
  else m1
def vF (m1 m2 hue : Dbl) : Dbl := wF m1 m2 (Float64.divmod hue 4607182418800017408).snd

theorem retF {h₀ h' : Heap} {L : Addr} {m : Str → Option Value} {news : List (Addr × Obj)} {s : Shared} {Q : Value → Shared → Prop} {t : Tok} {tk' : Nat} {x y : Dbl}
    (hret : ∀ (t : Tok) (h' : Heap) (tk' : Nat), Fr h₀ L h' m → News h₀ L h' news → Q (.float x t) { s with heap := h', toks := tk' }) (e : y = x) (F : Fr h₀ L h' m) (N : News h₀ L h' news) : Q (.float y t) { s with heap := h', toks := tk' } := by
  subst e
  exact hret t h' tk' F N

set_option maxRecDepth 100000 in
set_option maxHeartbeats 8000000 in
theorem v_tells {w : World} {p : Program} {loose : List Str} {mean : ExcName → Option Value} {mg mb : Str → Option Value} {m1 m2 hue : Dbl} {t1 t2 t3 : Tok}
    {dp un : Nat} {gd : Option (List Code)} {cn : Str} {cs : Scope} {a : Addr} {ccd : Value} {cl : List (Str × Addr)} {outer : List Env} {A₀ : Around} {base h₀ : Heap} {L : Addr} {m : Str → Option Value} {news : List (Addr × Obj)} {s : Shared} {Q E : Value → Shared → Prop}
    (B : Below A₀ base outer h₀) (F : Fr h₀ L s.heap m) (X : (hd.heap_39 w.params).In h₀) (N : News h₀ L s.heap news) (T : Top p loose mean mg mb h₀) (hk : cs.kind = .function) (hdp : dp + 1 < recursionLimit) (hun : un + 8 < cLine)
    (hret : ∀ (t : Tok) (h' : Heap) (tk' : Nat), Fr h₀ L h' m → News h₀ L h' news → Q (.float (vF m1 m2 hue) t) { s with heap := h', toks := tk' }) :
    wpAny (model PySem.Challenge.rw_mq0171_01.row.prog w) (ktrTop dp un gd cn cs L a ccd cl outer) (call (.ref 42) [.float m1 t1, .float m2 t2, .float hue t3]) Q E s := by
  w_top off
  revert X; k_fill; intro X
  refine wpAny_call ?_
  k_dflt cell_enter
  k_steps
  all_goals (refine retF (Q := Q) hret ?e1 ?e2 ?e3; (case e2 => k_asm); (case e3 => k_asm); (case e1 => simp only [vF, wF, *, if_true, if_false, Bool.false_eq_true]))

local macro_rules | `(tactic| walk_at "call ref") => `(tactic| (k_here; (with_reducible show wpAny _ _ (call (Value.ref 42) [Value.float _ _, Value.float _ _, Value.float _ _]) _ _ _); k_dflt (refine' v_tells ?kB ?kF ?kX ?kN ?kT ?kk ?kd ?ku ?_; (case kB => k_asm); (case kF => k_asm); (case kX => k_asm); (case kN => k_asm); (case kT => k_asm); (case kk => first | exact rfl | assumption); (case kd => ktr_room); (case ku => ktr_units); k_whole; intro t9 h9 tk9 F9 N9; (try dsimp only); (try k_fold); (try k_sweep))))

abbrev tup3 (x y z : Dbl) (t1 t2 t3 : Tok) : Obj := { cls := .type "tuple", data := .seq #[.float x t1, .float y t2, .float z t3] }
theorem retT3 {h₀ h' : Heap} {L : Addr} {m : Str → Option Value} {news : List (Addr × Obj)} {s : Shared} {Q : Value → Shared → Prop} {T : Addr} {t1 t2 t3 : Tok} {tk' : Nat} {x y z x' y' z' : Dbl}
    (hret : ∀ (T : Addr) (t1 t2 t3 : Tok) (h' : Heap) (tk' : Nat), Fr h₀ L h' m → News h₀ L h' ((T, tup3 x y z t1 t2 t3) :: news) → (∀ p ∈ news, p.1 < T) → Q (.ref T) { s with heap := h', toks := tk' })
    (e1 : x' = x) (e2 : y' = y) (e3 : z' = z) (F : Fr h₀ L h' m) (N : News h₀ L h' ((T, tup3 x' y' z' t1 t2 t3) :: news)) (l1 : ∀ p ∈ news, p.1 < T) : Q (.ref T) { s with heap := h', toks := tk' } := by
  subst e1; subst e2; subst e3
  exact hret T t1 t2 t3 h' tk' F N l1
def m2F (l s : Dbl) : Dbl := if (Float64.cmp l 4602678819172646912 == some Ordering.lt || Float64.cmp l 4602678819172646912 == some Ordering.eq) = true then Float64.mul l (Float64.add 4607182418800017408 s) else Float64.sub (Float64.add l s) (Float64.mul l s)
def m1F (l s : Dbl) : Dbl := Float64.sub (Float64.mul 4611686018427387904 l) (m2F l s)

set_option maxRecDepth 100000 in
set_option maxHeartbeats 8000000 in
theorem hls_tells {w : World} {p : Program} {loose : List Str} {mean : ExcName → Option Value} {mg mb : Str → Option Value} {h l sh : Dbl} {t1 t2 t3 : Tok}
    {dp un : Nat} {gd : Option (List Code)} {cn : Str} {cs : Scope} {a : Addr} {ccd : Value} {cl : List (Str × Addr)} {outer : List Env} {A₀ : Around} {base h₀ : Heap} {L : Addr} {m : Str → Option Value} {news : List (Addr × Obj)} {s : Shared} {Q E : Value → Shared → Prop}
    (B : Below A₀ base outer h₀) (F : Fr h₀ L s.heap m) (X : (hd.heap_39 w.params).In h₀) (N : News h₀ L s.heap news) (T : Top p loose mean mg mb h₀) (hk : cs.kind = .function) (hdp : dp + 2 < recursionLimit) (hun : un + 16 < cLine)
    (hs : (Float64.cmp sh 0 == some Ordering.eq) = false)
    (hret : ∀ (T : Addr) (t1 t2 t3 : Tok) (h' : Heap) (tk' : Nat), Fr h₀ L h' m → News h₀ L h' ((T, tup3 (vF (m1F l sh) (m2F l sh) (Float64.add h 4599676419421066581)) (vF (m1F l sh) (m2F l sh) h) (vF (m1F l sh) (m2F l sh) (Float64.sub h 4599676419421066581)) t1 t2 t3) :: news) → (∀ p ∈ news, p.1 < T) → Q (.ref T) { s with heap := h', toks := tk' }) :
    wpAny (model PySem.Challenge.rw_mq0171_01.row.prog w) (ktrTop dp un gd cn cs L a ccd cl outer) (call (.ref 35) [.float h t1, .float l t2, .float sh t3]) Q E s := by
  w_top off
  revert X; k_fill; intro X
  refine wpAny_call ?_
  k_dflt cell_enter
  k_steps
  all_goals (
    refine' retT3 (Q := Q) hret ?e1 ?e2 ?e3 ?e4 ?e5 ?e6
    (case e4 => k_asm)
    (case e5 => k_asm)
    (case e6 => assumption)
    (case e1 => simp only [m1F, m2F, *, if_true, if_false, Bool.false_eq_true])
    (case e2 => simp only [m1F, m2F, *, if_true, if_false, Bool.false_eq_true])
    (case e3 => simp only [m1F, m2F, *, if_true, if_false, Bool.false_eq_true]))
end Mine
end
section
open PySem PySem.W PyProof.Rows
namespace Mine
def mx2 (a b : Dbl) : Dbl := if (Float64.cmp b a == some Ordering.gt) = true then b else a
def mn2 (a b : Dbl) : Dbl := if (Float64.cmp b a == some Ordering.lt) = true then b else a
def maxF (a b c : Dbl) : Dbl := mx2 (mx2 a b) c
def minF (a b c : Dbl) : Dbl := mn2 (mn2 a b) c
def fltAt (a b c : Dbl) : Nat → Dbl
  | 0 => a
  | 1 => b
  | _ => c
section
variable {prog : Program} {w : World} {A : Around} {E : Value → Shared → Prop} {s : Shared}
theorem flts_gt {P : Nat → Value → Prop} (val : Nat → Dbl) (hval : ∀ i v, P i v → ∃ t, v = .float (val i) t) : CmpOf prog w A .Gt P (fun i j => Float64.cmp (val i) (val j) == some Ordering.gt) := fun i j vi vj s Q E hi hj h => by
  obtain ⟨t, rfl⟩ := hval i vi hi
  obtain ⟨u, rfl⟩ := hval j vj hj
  exact AutoFloatOps.gt_0 h
theorem flts_lt {P : Nat → Value → Prop} (val : Nat → Dbl) (hval : ∀ i v, P i v → ∃ t, v = .float (val i) t) : CmpOf prog w A .Lt P (fun i j => Float64.cmp (val i) (val j) == some Ordering.lt) := fun i j vi vj s Q E hi hj h => by
  obtain ⟨t, rfl⟩ := hval i vi hi
  obtain ⟨u, rfl⟩ := hval j vj hj
  exact AutoFloatOps.lt_0 h
theorem flts_at {a b c : Dbl} {t u x : Tok} (i : Nat) (v : Value) (h : (#[Value.float a t, .float b u, .float c x] : Array Value)[i]? = some v) : ∃ t, v = .float (fltAt a b c i) t := by
  match i, h with
  | 0, h => exact ⟨t, by simpa [fltAt] using h.symm⟩
  | 1, h => exact ⟨u, by simpa [fltAt] using h.symm⟩
  | 2, h => exact ⟨x, by simpa [fltAt] using h.symm⟩
  | n + 3, h => simp at h
theorem best_gt (a b c : Dbl) : fltAt a b c (argBest (fun i j => Float64.cmp (fltAt a b c i) (fltAt a b c j) == some Ordering.gt) 2) = maxF a b c := by
  unfold maxF mx2
  have e1 : argBest (fun i j => Float64.cmp (fltAt a b c i) (fltAt a b c j) == some Ordering.gt) 1 = if (Float64.cmp b a == some Ordering.gt) = true then 1 else 0 := rfl
  have e2 : argBest (fun i j => Float64.cmp (fltAt a b c i) (fltAt a b c j) == some Ordering.gt) 2 = if (Float64.cmp c (fltAt a b c (argBest (fun i j => Float64.cmp (fltAt a b c i) (fltAt a b c j) == some Ordering.gt) 1)) == some Ordering.gt) = true then 2 else argBest (fun i j => Float64.cmp (fltAt a b c i) (fltAt a b c j) == some Ordering.gt) 1 := rfl
  rw [e2, e1]
  by_cases h1 : (Float64.cmp b a == some Ordering.gt) = true
  · rw [if_pos h1, if_pos h1]
    by_cases h2 : (Float64.cmp c b == some Ordering.gt) = true
    · rw [if_pos h2]; exact congrArg (fltAt a b c) (if_pos h2)
    · rw [if_neg h2]; exact congrArg (fltAt a b c) (if_neg h2)
  · rw [if_neg h1, if_neg h1]
    by_cases h2 : (Float64.cmp c a == some Ordering.gt) = true
    · rw [if_pos h2]; exact congrArg (fltAt a b c) (if_pos h2)
    · rw [if_neg h2]; exact congrArg (fltAt a b c) (if_neg h2)
theorem best_lt (a b c : Dbl) : fltAt a b c (argBest (fun i j => Float64.cmp (fltAt a b c i) (fltAt a b c j) == some Ordering.lt) 2) = minF a b c := by
  unfold minF mn2
  have e1 : argBest (fun i j => Float64.cmp (fltAt a b c i) (fltAt a b c j) == some Ordering.lt) 1 = if (Float64.cmp b a == some Ordering.lt) = true then 1 else 0 := rfl
  have e2 : argBest (fun i j => Float64.cmp (fltAt a b c i) (fltAt a b c j) == some Ordering.lt) 2 = if (Float64.cmp c (fltAt a b c (argBest (fun i j => Float64.cmp (fltAt a b c i) (fltAt a b c j) == some Ordering.lt) 1)) == some Ordering.lt) = true then 2 else argBest (fun i j => Float64.cmp (fltAt a b c i) (fltAt a b c j) == some Ordering.lt) 1 := rfl
  rw [e2, e1]
  by_cases h1 : (Float64.cmp b a == some Ordering.lt) = true
  · rw [if_pos h1, if_pos h1]
    by_cases h2 : (Float64.cmp c b == some Ordering.lt) = true
    · rw [if_pos h2]; exact congrArg (fltAt a b c) (if_pos h2)
    · rw [if_neg h2]; exact congrArg (fltAt a b c) (if_neg h2)
  · rw [if_neg h1, if_neg h1]
    by_cases h2 : (Float64.cmp c a == some Ordering.lt) = true
    · rw [if_pos h2]; exact congrArg (fltAt a b c) (if_pos h2)
    · rw [if_neg h2]; exact congrArg (fltAt a b c) (if_neg h2)
theorem max_three_floats {a b c : Dbl} {t u x : Tok} {Q : Value → Shared → Prop} (hh : A.handled = none)
    (h : ∀ h' (y : Tok) tk, (∀ d o, s.heap.get? d = some o → h'.get? d = some o) → Q (.float (maxF a b c) y) { s with heap := h', toks := tk }) :
    wpAny (model prog w) A (call (.builtin "max") [.float a t, .float b u, .float c x]) Q E s := by
  have hT : (s.heap.push { cls := .type "tuple", data := .seq #[.float a t, .float b u, .float c x] }).IsTuple s.heap.objs.size #[.float a t, .float b u, .float c x] := ⟨_, Heap.get?_push_size _ rfl, rfl, 0, rfl⟩
  refine call_max_three (wpAny_pyIter_tuple hT ?_)
  have hsz : (s.heap.push { cls := .type "tuple", data := .seq #[.float a t, .float b u, .float c x] }).objs.size = s.heap.objs.size + 1 := Heap.size_push ..
  refine ⟨_, [_, s.heap.objs.size], [_], _, _, _, _, rfl, Walks.tuple (A := A.in1) hh _ s.heap.objs.size (by rw [hsz]; exact Nat.ne_of_lt (Nat.lt_succ_self _)) #[.float a t, .float b u, .float c x],
    ⟨⟨_, Heap.get?_push_size _ rfl, rfl, rfl⟩, hT.push _⟩, fun d hd => ?_, Nat.zero_lt_succ 2, flts_gt (fltAt a b c) (fun _ _ => flts_at _ _), fun v h' tk hP hk => ?_⟩
  · show d < ((s.heap.push _).push _).objs.size
    rw [Heap.size_push, hsz]
    rcases List.mem_cons.mp hd with rfl | hd
    · rw [hsz]; exact Nat.lt_succ_self _
    · rcases List.mem_cons.mp hd with rfl | hd
      · exact Nat.lt_succ_of_lt (Nat.lt_succ_self _)
      · cases hd
  · have hold : ∀ d o, s.heap.get? d = some o → h'.get? d = some o := fun d o e => by
      refine hk d o (fun hm => ?_) (Heap.get?_push_of_some _ (Heap.get?_push_of_some _ e))
      rcases List.mem_cons.mp hm with e1 | hm
      · have := Heap.lt_size e; rw [e1, hsz] at this; exact Nat.lt_irrefl _ (Nat.lt_of_succ_lt this)
      · cases hm
    obtain ⟨y, rfl⟩ := flts_at _ _ hP
    have := h h' y tk hold
    rw [← best_gt] at this
    exact this
theorem min_three_floats {a b c : Dbl} {t u x : Tok} {Q : Value → Shared → Prop} (hh : A.handled = none)
    (h : ∀ h' (y : Tok) tk, (∀ d o, s.heap.get? d = some o → h'.get? d = some o) → Q (.float (minF a b c) y) { s with heap := h', toks := tk }) :
    wpAny (model prog w) A (call (.builtin "min") [.float a t, .float b u, .float c x]) Q E s := by
  have hT : (s.heap.push { cls := .type "tuple", data := .seq #[.float a t, .float b u, .float c x] }).IsTuple s.heap.objs.size #[.float a t, .float b u, .float c x] := ⟨_, Heap.get?_push_size _ rfl, rfl, 0, rfl⟩
  refine call_min_three (wpAny_pyIter_tuple hT ?_)
  have hsz : (s.heap.push { cls := .type "tuple", data := .seq #[.float a t, .float b u, .float c x] }).objs.size = s.heap.objs.size + 1 := Heap.size_push ..
  refine ⟨_, [_, s.heap.objs.size], [_], _, _, _, _, rfl, Walks.tuple (A := A.in1) hh _ s.heap.objs.size (by rw [hsz]; exact Nat.ne_of_lt (Nat.lt_succ_self _)) #[.float a t, .float b u, .float c x],
    ⟨⟨_, Heap.get?_push_size _ rfl, rfl, rfl⟩, hT.push _⟩, fun d hd => ?_, Nat.zero_lt_succ 2, flts_lt (fltAt a b c) (fun _ _ => flts_at _ _), fun v h' tk hP hk => ?_⟩
  · show d < ((s.heap.push _).push _).objs.size
    rw [Heap.size_push, hsz]
    rcases List.mem_cons.mp hd with rfl | hd
    · rw [hsz]; exact Nat.lt_succ_self _
    · rcases List.mem_cons.mp hd with rfl | hd
      · exact Nat.lt_succ_of_lt (Nat.lt_succ_self _)
      · cases hd
  · have hold : ∀ d o, s.heap.get? d = some o → h'.get? d = some o := fun d o e => by
      refine hk d o (fun hm => ?_) (Heap.get?_push_of_some _ (Heap.get?_push_of_some _ e))
      rcases List.mem_cons.mp hm with e1 | hm
      · have := Heap.lt_size e; rw [e1, hsz] at this; exact Nat.lt_irrefl _ (Nat.lt_of_succ_lt this)
      · cases hm
    obtain ⟨y, rfl⟩ := flts_at _ _ hP
    have := h h' y tk hold
    rw [← best_lt] at this
    exact this
variable {h₀ : Heap} {L : Addr} {m : Str → Option Value} {news : List (Addr × Obj)}
theorem max_three_N {a b c : Dbl} {t u x : Tok} {Q : Value → Shared → Prop} (hh : A.handled = none) (F : Fr h₀ L s.heap m) (N : News h₀ L s.heap news)
    (h : ∀ h' (y : Tok) tk, Fr h₀ L h' m → News h₀ L h' news → Q (.float (maxF a b c) y) { s with heap := h', toks := tk }) :
    wpAny (model prog w) A (call (.builtin "max") [.float a t, .float b u, .float c x]) Q E s := max_three_floats hh fun h' y tk hk => h h' y tk (F.grownK hk) (N.grown hk)
theorem min_three_N {a b c : Dbl} {t u x : Tok} {Q : Value → Shared → Prop} (hh : A.handled = none) (F : Fr h₀ L s.heap m) (N : News h₀ L s.heap news)
    (h : ∀ h' (y : Tok) tk, Fr h₀ L h' m → News h₀ L h' news → Q (.float (minF a b c) y) { s with heap := h', toks := tk }) :
    wpAny (model prog w) A (call (.builtin "min") [.float a t, .float b u, .float c x]) Q E s := min_three_floats hh fun h' y tk hk => h h' y tk (F.grownK hk) (N.grown hk)
end
local macro_rules | `(tactic| walk_at "call builtin:max") => `(tactic| (k_here; (with_reducible show wpAny _ _ (call (Value.builtin _) [Value.float _ _, Value.float _ _, Value.float _ _]) _ _ _); k_dflt (refine' max_three_N ?kh ?kF ?kN ?_; (case kh => exact rfl); (case kF => k_asm); (case kN => k_asm); k_whole; intro h9 t9 tk9 F9 N9; (try dsimp only); (try k_fold); (try k_sweep))))
local macro_rules | `(tactic| walk_at "call builtin:min") => `(tactic| (k_here; (with_reducible show wpAny _ _ (call (Value.builtin _) [Value.float _ _, Value.float _ _, Value.float _ _]) _ _ _); k_dflt (refine' min_three_N ?kh ?kF ?kN ?_; (case kh => exact rfl); (case kF => k_asm); (case kN => k_asm); k_whole; intro h9 t9 tk9 F9 N9; (try dsimp only); (try k_fold); (try k_sweep))))

def lF (r g b : Dbl) : Dbl := Float64.div (Float64.add (maxF r g b) (minF r g b)) 4611686018427387904
def sF (r g b : Dbl) : Dbl :=
  if (Float64.cmp (lF r g b) 4602678819172646912 == some Ordering.lt || Float64.cmp (lF r g b) 4602678819172646912 == some Ordering.eq) = true then Float64.div (Float64.sub (maxF r g b) (minF r g b)) (Float64.add (maxF r g b) (minF r g b))
  else Float64.div (Float64.sub (maxF r g b) (minF r g b)) (Float64.sub (Float64.sub 4611686018427387904 (maxF r g b)) (minF r g b))
def pF (mx mn x : Dbl) : Dbl := Float64.div (Float64.sub mx x) (Float64.sub mx mn)
def gF (r g b mx mn : Dbl) : Dbl :=
  if (Float64.cmp r mx == some Ordering.eq) = true then Float64.sub (pF mx mn b) (pF mx mn g)
  else if (Float64.cmp g mx == some Ordering.eq) = true then Float64.sub (Float64.add 4611686018427387904 (pF mx mn r)) (pF mx mn b)
  else Float64.sub (Float64.add 4616189618054758400 (pF mx mn g)) (pF mx mn r)
def hF (r g b : Dbl) : Dbl := (Float64.divmod (Float64.div (gF r g b (maxF r g b) (minF r g b)) 4618441417868443648) 4607182418800017408).snd

/-- the divisors are no noughts -/
structure Fit (r g b : Dbl) : Prop where
  ne : (Float64.cmp (minF r g b) (maxF r g b) == some Ordering.eq) = false
  z1 : ¬ Float64.isZero (Float64.sub (maxF r g b) (minF r g b)) = true
  z2 : ¬ Float64.isZero (Float64.add (maxF r g b) (minF r g b)) = true
  z3 : ¬ Float64.isZero (Float64.sub (Float64.sub 4611686018427387904 (maxF r g b)) (minF r g b)) = true

set_option maxRecDepth 100000 in
set_option maxHeartbeats 8000000 in
theorem rgb_tells {w : World} {p : Program} {loose : List Str} {mean : ExcName → Option Value} {mg mb : Str → Option Value} {r g b : Dbl} {t1 t2 t3 : Tok}
    {dp un : Nat} {gd : Option (List Code)} {cn : Str} {cs : Scope} {a : Addr} {ccd : Value} {cl : List (Str × Addr)} {outer : List Env} {A₀ : Around} {base h₀ : Heap} {L : Addr} {m : Str → Option Value} {news : List (Addr × Obj)} {s : Shared} {Q E : Value → Shared → Prop}
    (B : Below A₀ base outer h₀) (F : Fr h₀ L s.heap m) (X : (hd.heap_39 w.params).In h₀) (N : News h₀ L s.heap news) (T : Top p loose mean mg mb h₀) (hk : cs.kind = .function) (hdp : dp + 2 < recursionLimit) (hun : un + 16 < cLine) (hfit : Fit r g b)
    (hret : ∀ (T : Addr) (t1 t2 t3 : Tok) (h' : Heap) (tk' : Nat), Fr h₀ L h' m → News h₀ L h' ((T, tup3 (hF r g b) (lF r g b) (sF r g b) t1 t2 t3) :: news) → (∀ p ∈ news, p.1 < T) → Q (.ref T) { s with heap := h', toks := tk' }) :
    wpAny (model PySem.Challenge.rw_mq0171_01.row.prog w) (ktrTop dp un gd cn cs L a ccd cl outer) (call (.ref 28) [.float r t1, .float g t2, .float b t3]) Q E s := by
  w_top off
  revert X; k_fill; intro X
  obtain ⟨hne, hz1, hz2, hz3⟩ := hfit
  refine wpAny_call ?_
  k_dflt cell_enter
  k_steps
  all_goals first
    | exact absurd (by assumption) hz1
    | exact absurd (by assumption) hz2
    | exact absurd (by assumption) hz3
    | (refine' retT3 (Q := Q) hret ?e1 ?e2 ?e3 ?e4 ?e5 ?e6
       (case e4 => k_asm)
       (case e5 => k_asm)
       (case e6 => assumption)
       (case e1 => simp only [hF, gF, pF, *, if_true, if_false, Bool.false_eq_true])
       (case e2 => simp only [lF])
       (case e3 => simp only [sF, lF, *, if_true, if_false, Bool.false_eq_true]))
end Mine
end
section
open PySem PySem.W PyProof.Rows
namespace Mine
theorem unrEnd_any {h₀ : Heap} {L I : Addr} {o : Obj} {s₁ : Shared} {rest : (Str → Option Value) → List (Addr × Obj) → Prop} {h' : Heap} {tk : Nat} {m' : Str → Option Value} {news : List (Addr × Obj)}
    (F : Fr h₀ L h' m') (N : News h₀ L h' ((I, o) :: news)) (l1 : ∀ p ∈ news, p.1 < I) (r : rest m' news) : UnrEndW h₀ L s₁ [(I, o)] rest { s₁ with heap := h', toks := tk } :=
  ⟨h', tk, m', news, rfl, F, N, fun p hp q hq => by
    rw [List.mem_singleton.mp hq]
    exact Nat.ne_of_lt (l1 p hp), r⟩
local macro_rules | `(tactic| walk_at "exec For Name Name cons nil") => `(tactic| (k_here; (rename Fr _ _ _ _ => lF'); (with_unfolding_all refine' For_turns lF' ?_; k_whole)))
local macro_rules | `(tactic| walk_at "pyIter ref") => `(tactic| (k_here; (with_reducible show wpAny _ _ (pyIter (Value.ref _)) (fun it s₂ => TurnsAt _ _ _ _ _ _ _ _ _ it s₂) _ _); (rename Fr _ _ _ _ => lF'); (with_unfolding_all refine iter_tupTurns (lo := tup3 _ _ _ _ _ _) (vs := [_, _, _]) (by rfl) lF' (by assumption) (by assumption) (by rfl) (by rfl) ?_); clear lF'; intro i' l1))
local macro_rules | `(tactic| walk_at "UnrEndW") => `(tactic| (refine unrEnd_any (by assumption) (by assumption) (by assumption) ⟨⟨by assumption, trivial⟩, ?_⟩))
def pI (x : Dbl) : Int := Flt.toInt Float64.truncOf (Float64.add (Float64.mul x 4629700416936869888) 4602678819172646912)
def sgn (r g b : Dbl) : Str := ⟨#[(256 + (((0 * 33 + pI r) * 33 + pI g) * 33 + pI b)).toNat]⟩
/-- the parts are numbers of 0 to 32 -/
structure Parts (r g b : Dbl) : Prop where
  fr : Float64.isFinite (Float64.add (Float64.mul r 4629700416936869888) 4602678819172646912) = true
  fg : Float64.isFinite (Float64.add (Float64.mul g 4629700416936869888) 4602678819172646912) = true
  fb : Float64.isFinite (Float64.add (Float64.mul b 4629700416936869888) 4602678819172646912) = true
  r0 : 0 ≤ pI r
  r1 : pI r ≤ 32
  g0 : 0 ≤ pI g
  g1 : pI g ≤ 32
  b0 : 0 ≤ pI b
  b1 : pI b ≤ 32
set_option maxRecDepth 100000 in
set_option maxHeartbeats 1000000 in
theorem sign_tells {w : World} {p : Program} {loose : List Str} {mean : ExcName → Option Value} {mg mb : Str → Option Value} {r g b : Dbl} {t1 t2 t3 : Tok} {D : Addr}
    {dp un : Nat} {gd : Option (List Code)} {cn : Str} {cs : Scope} {a : Addr} {ccd : Value} {cl : List (Str × Addr)} {outer : List Env} {A₀ : Around} {base h₀ : Heap} {L : Addr} {m : Str → Option Value} {news : List (Addr × Obj)} {s : Shared} {Q E : Value → Shared → Prop}
    (B : Below A₀ base outer h₀) (F : Fr h₀ L s.heap m) (X : (hd.heap_39 w.params).In h₀) (N : News h₀ L s.heap news) (T : Top p loose mean mg mb h₀) (hk : cs.kind = .function) (hdp : dp + 2 < recursionLimit) (hun : un + 16 < cLine) (hm : (D, tup3 r g b t1 t2 t3) ∈ news) (hp : Parts r g b)
    (hret : ∀ (t : Tok) (h' : Heap) (tk' : Nat), Fr h₀ L h' m → News h₀ L h' news → Q (.str (sgn r g b) t) { s with heap := h', toks := tk' }) :
    wpAny (model PySem.Challenge.rw_mq0171_01.row.prog w) (ktrTop dp un gd cn cs L a ccd cl outer) (call (.ref 49) [.ref D]) Q E s := by
  w_top off
  revert X; k_fill; intro X
  obtain ⟨hfr, hfg, hfb, hr0, hr1, hg0, hg1, hb0, hb1⟩ := hp
  unfold pI at hr0 hr1 hg0 hg1 hb0 hb1
  refine wpAny_call ?_
  k_dflt cell_enter
  k_steps
  exact hret _ _ _ (by k_asm) (by k_asm)

local macro_rules | `(tactic| walk_at "call ref") => `(tactic| (k_here; (with_reducible show wpAny _ _ (call (Value.ref 28) [Value.float _ _, Value.float _ _, Value.float _ _]) _ _ _); k_dflt (refine' rgb_tells ?kB ?kF ?kX ?kN ?kT ?kk ?kd ?ku ?kf ?_; (case kB => k_asm); (case kF => k_asm); (case kX => k_asm); (case kN => k_asm); (case kT => k_asm); (case kk => first | exact rfl | assumption); (case kd => ktr_room); (case ku => ktr_units); (case kf => assumption); k_whole; intro T9 t91 t92 t93 h9 tk9 F9 N9 l9; (try dsimp only); (try k_fold); (try k_sweep))))

local macro_rules | `(tactic| walk_at "subscriptTail Name Constant ref int") => `(tactic| (k_here; (with_reducible show wpAny _ _ (subscriptTail _ _ (Value.ref _) (Value.int _ _)) _ _ _); k_dflt (refine' item_tupleT ?t ?a ?b ?c ?d ?_; (case t => exact News.isTup (by k_asm) (by with_reducible assumption)); (case a => decide); (case b => decide); (case c => rfl); (case d => rfl); k_whole)))
def qI (x k : Dbl) : Int := Flt.toInt Float64.truncOf (Float64.add (Float64.mul x k) 4602678819172646912)
abbrev lst3 (x y z : Int) (t1 t2 t3 : Tok) : Obj := W.listOf #[.int x t1, .int y t2, .int z t3] 0
theorem allLt_to {d : Nat} {l : List (Addr × Obj)} (h : AllLt d l) : ∀ p ∈ l, p.1 < d := by
  induction l with
  | nil => intro p hp; cases hp
  | cons a r ih =>
    intro p hp
    cases hp with
    | head => exact h.1
    | tail _ hp => exact ih h.2 p hp
theorem news_drop1 {h₀ h : Heap} {L : Addr} {a b : Addr × Obj} {news : List (Addr × Obj)} (N : News h₀ L h (a :: b :: news)) : News h₀ L h (a :: news) := fun p hp => by
  rcases List.mem_cons.mp hp with rfl | hp
  · exact N _ (List.mem_cons_self ..)
  · exact N p (List.mem_cons_of_mem _ (List.mem_cons_of_mem _ hp))
/-- the read numbers are finite -/
structure Reads (r g b : Dbl) : Prop where
  fit : Fit r g b
  fh : Float64.isFinite (Float64.add (Float64.mul (hF r g b) 4625196817309499392) 4602678819172646912) = true
  fl : Float64.isFinite (Float64.add (Float64.mul (lF r g b) 4620693217682128896) 4602678819172646912) = true
  fs : Float64.isFinite (Float64.add (Float64.mul (sF r g b) 4618441417868443648) 4602678819172646912) = true
set_option maxRecDepth 100000 in
set_option maxHeartbeats 1000000 in
theorem read_tells {w : World} {p : Program} {loose : List Str} {mean : ExcName → Option Value} {mg mb : Str → Option Value} {r g b : Dbl} {t1 t2 t3 : Tok} {D : Addr}
    {dp un : Nat} {gd : Option (List Code)} {cn : Str} {cs : Scope} {a : Addr} {ccd : Value} {cl : List (Str × Addr)} {outer : List Env} {A₀ : Around} {base h₀ : Heap} {L : Addr} {m : Str → Option Value} {news : List (Addr × Obj)} {s : Shared} {Q E : Value → Shared → Prop}
    (B : Below A₀ base outer h₀) (F : Fr h₀ L s.heap m) (X : (hd.heap_39 w.params).In h₀) (N : News h₀ L s.heap news) (T : Top p loose mean mg mb h₀) (hk : cs.kind = .function) (hdp : dp + 4 < recursionLimit) (hun : un + 32 < cLine) (hm : (D, tup3 r g b t1 t2 t3) ∈ news) (hp : Reads r g b)
    (hret : ∀ (T : Addr) (t1 t2 t3 : Tok) (h' : Heap) (tk' : Nat), Fr h₀ L h' m → News h₀ L h' ((T, lst3 ((qI (hF r g b) 4625196817309499392).fmod 16) (qI (lF r g b) 4620693217682128896) (qI (sF r g b) 4618441417868443648) t1 t2 t3) :: news) → (∀ p ∈ news, p.1 < T) → Q (.ref T) { s with heap := h', toks := tk' }) :
    wpAny (model PySem.Challenge.rw_mq0171_01.row.prog w) (ktrTop dp un gd cn cs L a ccd cl outer) (call (.ref 56) [.ref D]) Q E s := by
  w_top off
  revert X; k_fill; intro X
  obtain ⟨hfit, hfh, hfl, hfs⟩ := hp
  refine wpAny_call ?_
  k_dflt cell_enter
  k_steps
  rename_i l1 _ _ _ _
  refine hret _ _ _ _ _ _ (by k_asm) (news_drop1 (by k_asm)) (allLt_to l1.2)
end Mine
end
section
open PySem PySem.W PyProof.Rows
namespace Mine
local macro_rules | `(tactic| cell_enter) => `(tactic| first
  | (refine' code_keep ?k1 ?k2 ?k3 ?k5 ?kA ?kF ?kK ?k6 ?k7 ?k8 ?k9 ?kB ?_ ?c2 ?c3 ?c4 ?c5; (case kA => exact rfl); (case kF => exact rfl); (case kK => assumption); (case k1 => k_asm); (case k2 => k_asm); (case k3 => k_asm); (case k5 => k_asm); (case k6 => k_is); (case k7 => k_is); (case k8 => ktr_room); (case k9 => exact BindsTo.of_eq rfl); (case c5 => decide); (case kB => exact locs rfl); (case c2 => exact rfl); (case c3 => exact rfl); (case c4 => exact rfl); k_whole; intro L' h' F' N' B' X' T'; (try dsimp only); (try k_lift B'); (try k_fold))
  | (refine' code_keepC ?k1 ?k2 ?k3 ?k5 ?kA ?kF ?kK ?k6 ?k7 ?k8 ?k9 ?kB ?kD ?_ ?c2 ?c3 ?c4; (case kA => exact rfl); (case kF => exact rfl); (case kK => assumption); (case k1 => k_asm); (case k2 => k_asm); (case k3 => k_asm); (case k5 => k_asm); (case k6 => k_is); (case k7 => k_is); (case k8 => ktr_room); (case k9 => exact BindsTo.of_eq rfl); (case kB => exact rfl); (case kD => decide +kernel); (case c2 => exact rfl); (case c3 => exact rfl); (case c4 => exact rfl); k_whole; intro L' h' tk' cells' F' N' Y' B' X' T'; k_cells Y'; (try simp only [List.cons_append, List.nil_append] at N'); (try dsimp only); (try k_lift B'); (try k_fold)))
theorem fold_filter (P : Int → Prop) [DecidablePred P] (l : List Int) (acc : List Int) : l.foldl (fun l' k' => if P k' then l' ++ [k'] else l') acc = acc ++ l.filter (fun k => decide (P k)) := by
  induction l generalizing acc with
  | nil => simp
  | cons x r ih =>
    rw [List.foldl_cons, ih]
    by_cases h : P x <;> simp [h]
theorem again_ne (x : Int) : 0 < (List.foldl (fun l' k' => if (x * k').fmod 16 = 0 then l' ++ [k'] else l') [] (rangeKs 1 ((17 : Int) - 1).toNat)).length := by
  rw [fold_filter (fun k' => (x * k').fmod 16 = 0)]
  have h : (16 : Int) ∈ [] ++ (rangeKs 1 ((17 : Int) - 1).toNat).filter (fun k => decide ((x * k).fmod 16 = 0)) := by
    rw [List.nil_append, List.mem_filter]
    refine ⟨by decide, decide_eq_true ?_⟩
    exact Int.mul_fmod_left ..
  exact List.length_pos_of_mem h
local macro_rules | `(tactic| walk_at "call builtin:min") => `(tactic| (k_here; (with_reducible show wpAny _ _ (call (Value.builtin _) [Value.ref _]) _ _ _); k_dflt (refine' min_list_N ?kh ?kF ?kN ?kl ?ki ?kne ?_; (case kh => exact rfl); (case kF => k_asm); (case kN => k_asm); (case kl => is_list); (case ki => assumption); (case kne => exact again_ne _); k_whole; intro h9 M9 t9 tk9 F9 N9 hM9 hL9; (try dsimp only); (try k_fold); (try k_sweep))))
abbrev lst1 (fi st fn : Int) : List Int := List.foldl (fun l' k' => if (fi + st * k' - fn).fmod 16 = 0 then l' ++ [k'] else l') [] (rangeKs 0 ((16 : Int) - 0).toNat) ++ [16]
abbrev lst2 (st : Int) : List Int := List.foldl (fun l' k' => if (st * k').fmod 16 = 0 then l' ++ [k'] else l') [] (rangeKs 1 ((17 : Int) - 1).toNat)
def Least (M : Int) (l : List Int) : Prop := M ∈ l ∧ ∀ a, a ∈ l → M ≤ a
set_option maxRecDepth 100000 in
set_option maxHeartbeats 2000000 in
theorem gone_tells {w : World} {p : Program} {loose : List Str} {mean : ExcName → Option Value} {mg mb : Str → Option Value} {fi se fn me : Int} {t1 t2 t3 t4 : Tok}
    {dp un : Nat} {gd : Option (List Code)} {cn : Str} {cs : Scope} {a : Addr} {ccd : Value} {cl : List (Str × Addr)} {outer : List Env} {A₀ : Around} {base h₀ : Heap} {L : Addr} {m : Str → Option Value} {s : Shared} {Q E : Value → Shared → Prop}
    (B : Below A₀ base outer h₀) (F : Fr h₀ L s.heap m) (X : (hd.heap_39 w.params).In h₀) (T : Top p loose mean mg mb h₀) (hk : cs.kind = .function) (hdp : dp + 2 < recursionLimit) (hun : un + 16 < cLine)
    (hf0 : 0 ≤ fi) (hf1 : fi ≤ 15) (hs0 : 0 ≤ se) (hs1 : se ≤ 15) (hn0 : 0 ≤ fn) (hn1 : fn ≤ 15) (hm0 : 0 ≤ me) (hm1 : me ≤ 30)
    (hret : ∀ (t : Tok) (h' : Heap) (tk' : Nat) (M1 M2 : Int), Least M1 (lst1 fi ((se - fi).fmod 16) fn) → Least M2 (lst2 ((se - fi).fmod 16)) → (∀ b o, s.heap.get? b = some o → h'.get? b = some o) → Q (.int (M1 + (me - 1) * M2) t) { s with heap := h', toks := tk' }) :
    wpAny (model PySem.Challenge.rw_mq0171_01.row.prog w) (ktrTop dp un gd cn cs L a ccd cl outer) (call (.ref 68) [.int fi t1, .int se t2, .int fn t3, .int me t4]) Q E s := by
  w_top off
  revert X; k_fill; intro X
  refine wpAny_call ?_
  k_dflt cell_enter
  k_steps
  exact hret _ _ _ _ _ ⟨by assumption, by assumption⟩ ⟨by assumption, by assumption⟩ (by assumption)
end Mine
end
section
open PySem PySem.W PyProof.Rows PySem.Builtin
namespace Mine
local macro_rules | `(tactic| cell_enter) => `(tactic| first
  | (refine' code_keep ?k1 ?k2 ?k3 ?k5 ?kA ?kF ?kK ?k6 ?k7 ?k8 ?k9 ?kB ?_ ?c2 ?c3 ?c4 ?c5; (case kA => exact rfl); (case kF => exact rfl); (case kK => assumption); (case k1 => k_asm); (case k2 => k_asm); (case k3 => k_asm); (case k5 => k_asm); (case k6 => k_is); (case k7 => k_is); (case k8 => ktr_room); (case k9 => exact BindsTo.of_eq rfl); (case c5 => decide); (case kB => exact locs rfl); (case c2 => exact rfl); (case c3 => exact rfl); (case c4 => exact rfl); k_whole; intro L' h' F' N' B' X' T'; (try dsimp only); (try k_lift B'); (try k_fold))
  | (refine' code_keepC ?k1 ?k2 ?k3 ?k5 ?kA ?kF ?kK ?k6 ?k7 ?k8 ?k9 ?kB ?kD ?_ ?c2 ?c3 ?c4; (case kA => exact rfl); (case kF => exact rfl); (case kK => assumption); (case k1 => k_asm); (case k2 => k_asm); (case k3 => k_asm); (case k5 => k_asm); (case k6 => k_is); (case k7 => k_is); (case k8 => ktr_room); (case k9 => exact BindsTo.of_eq rfl); (case kB => exact rfl); (case kD => decide +kernel); (case c2 => exact rfl); (case c3 => exact rfl); (case c4 => exact rfl); k_whole; intro L' h' tk' cells' F' N' Y' B' X' T'; k_cells Y'; (try simp only [List.cons_append, List.nil_append] at N'); (try dsimp only); (try k_lift B'); (try k_fold)))
/-- a frame's map with two names stored -/
def cmap (y x : Str) (a b : Value) (m₀ : Str → Option Value) : Str → Option Value := fun z => if z = y then some a else if z = x then some b else m₀ z
theorem unrPost_mono {h₀ : Heap} {L : Addr} {s₁ : Shared} {its : List (Addr × Obj)} {R R' : (Str → Option Value) → List (Addr × Obj) → Prop} {Q : Flow → Shared → Prop} {f : Flow} {s₂ : Shared}
    (hR : ∀ m n, R m n → R' m n) (h : UnrPostW h₀ L s₁ its R Q f s₂) : UnrPostW h₀ L s₁ its R' Q f s₂ := by
  cases f with
  | ret v => exact h
  | brk => exact h
  | next => obtain ⟨h', tk, m', n', a, b, c, d, e⟩ := h; exact ⟨h', tk, m', n', a, b, c, d, hR _ _ e⟩
  | cont => obtain ⟨h', tk, m', n', a, b, c, d, e⟩ := h; exact ⟨h', tk, m', n', a, b, c, d, hR _ _ e⟩

/-- a loop over a list of texts that turns one int name -/
theorem items_strs {prog : Program} {w : World} {A : Around} {E : Value → Shared → Prop} {s : Shared} {env : Env} {h₀ : Heap} {target : Expr} {body : List Stmt} {Q : Flow → Shared → Prop}
    {I : Addr} {keep news : List (Addr × Obj)} {m₀ : Str → Option Value} {y x : Str} (hkeep : SubL keep news) (P : List (Str × Tok) → Int → Prop)
    (step : ∀ (c : Str) (tc : Tok) (r : List (Str × Tok)) (a : Int) (ta : Tok) (b : Value) (h : Heap) (tk : Nat) (o : Obj), P ((c, tc) :: r) a → Fr h₀ env.locals h (cmap y x (.int a ta) b m₀) → News h₀ env.locals h ((I, o) :: news) →
      wpAny (model prog w) A (assign target env (.str c tc)) (fun _ s₂ => wpAny (model prog w) A (execs body env) (UnrPostW h₀ env.locals { s with heap := h, toks := tk } [(I, o)] (fun m' n' => n' = news ∧ ∃ a' ta' b', m' = cmap y x (.int a' ta') b' m₀ ∧ P r a') Q) E s₂) E { s with heap := h, toks := tk })
    (done : ∀ (a : Int) (ta : Tok) (b : Value) (h : Heap) (tk : Nat), P [] a → Fr h₀ env.locals h (cmap y x (.int a ta) b m₀) → News h₀ env.locals h news → Q .next { s with heap := h, toks := tk })
    (l : List (Str × Tok)) : ∀ (a : Int) (ta : Tok) (b : Value), P l a → ItemsRest prog w A E h₀ env target body Q s [(I, "list_iterator")] keep ((strValues l).map .val) (cmap y x (.int a ta) b m₀) news := by
  induction l with
  | nil => intro a ta b hP; exact ItemsRest.zero fun h tk F N => done a ta b h tk hP F N
  | cons c r ih =>
    obtain ⟨c, tc⟩ := c
    intro a ta b hP
    refine ItemsRest.val fun h tk F => AllObj.cons fun o hc => AllObj.nil fun N => ?_
    refine wpAny_mono (step c tc r a ta b h tk o hP F N) (fun _ s₂ h₂ => wpAny_mono h₂ (fun f s₃ h₃ => unrPost_mono (fun m' n' q => ?_) h₃) fun _ _ e => e) fun _ _ e => e
    obtain ⟨rfl, a', ta', b', rfl, hP'⟩ := q
    exact ⟨hkeep, ih a' ta' b' hP'⟩

theorem cmap_self {y x : Str} {a b : Value} {m : Str → Option Value} (hy : m y = some a) (hx : m x = some b) : cmap y x a b m = m := by
  funext z
  unfold cmap
  split
  · rename_i h; rw [h, hy]
  · split
    · rename_i h; rw [h, hx]
    · rfl
theorem items_strsM {prog : Program} {w : World} {A : Around} {E : Value → Shared → Prop} {s : Shared} {env : Env} {h₀ : Heap} {target : Expr} {body : List Stmt} {Q : Flow → Shared → Prop}
    {I : Addr} {keep news : List (Addr × Obj)} {m₀ : Str → Option Value} (y x : Str) {a : Int} {ta : Tok} {b : Value} {l : List (Str × Tok)} (P : List (Str × Tok) → Int → Prop) (hkeep : SubL keep news) (hy : m₀ y = some (.int a ta)) (hx : m₀ x = some b) (hP : P l a)
    (step : ∀ (c : Str) (tc : Tok) (r : List (Str × Tok)) (a : Int) (ta : Tok) (b : Value) (h : Heap) (tk : Nat) (o : Obj), P ((c, tc) :: r) a → Fr h₀ env.locals h (cmap y x (.int a ta) b m₀) → News h₀ env.locals h ((I, o) :: news) →
      wpAny (model prog w) A (assign target env (.str c tc)) (fun _ s₂ => wpAny (model prog w) A (execs body env) (UnrPostW h₀ env.locals { s with heap := h, toks := tk } [(I, o)] (fun m' n' => n' = news ∧ ∃ a' ta' b', m' = cmap y x (.int a' ta') b' m₀ ∧ P r a') Q) E s₂) E { s with heap := h, toks := tk })
    (done : ∀ (a : Int) (ta : Tok) (b : Value) (h : Heap) (tk : Nat), P [] a → Fr h₀ env.locals h (cmap y x (.int a ta) b m₀) → News h₀ env.locals h news → Q .next { s with heap := h, toks := tk }) :
    ItemsRest prog w A E h₀ env target body Q s [(I, "list_iterator")] keep ((strValues l).map .val) m₀ news := by
  have := items_strs (prog := prog) (w := w) (A := A) (E := E) (s := s) (env := env) (target := target) (body := body) hkeep P step done l a ta b hP
  rw [cmap_self hy hx] at this
  exact this

def find4 (x y : Str) (i j : Int) : Int := match Builtin.Str.occurrences x y (fromIndex x.length i) (min (fromIndex x.length j) x.length) 1 with | k :: _ => (k : Int) | [] => -1
theorem gives_find4 (x y : Str) (i j : Int) (t u v v' : Tok) : Gives (Builtin.«str.find» ⟨[.str x t, .str y u, .int i v, .int j v'], []⟩) (.int (find4 x y i j)) := by
  unfold find4
  show Gives (match Builtin.Str.occurrences x y (fromIndex x.length i) (min (fromIndex x.length j) x.length) 1 with | k :: _ => retInt k | [] => (do rule "str.find.not-found"; retInt (-1))) _
  cases Builtin.Str.occurrences x y (fromIndex x.length i) (min (fromIndex x.length j) x.length) 1 with
  | nil => exact .rule (.of_eq rfl)
  | cons k _ => exact .of_eq rfl
theorem args_find4 (a b c d : Value) : argsOk "str.find" ⟨[a, b, c, d], []⟩ := by unfold argsOk; kernel_rfl
theorem call_find4 {prog : Program} {w : World} {A : Around} {E : Value → Shared → Prop} {s : Shared} {x y : Str} {t u v v' : Tok} {i j : Int} {Q : Value → Shared → Prop}
    (hq : Q (.int (find4 x y i j) s.toks) { s with toks := s.toks + 1 }) : wpAny (model prog w) A (call (.builtin "str.find") [.str x t, .str y u, .int i v, .int j v']) Q E s :=
  call_gives F.slot_str_find (typeIs_str _ _ _) F.entry_str_find (args_find4 _ _ _ _) (gives_find4 x y i j t u v v') hq

theorem call_find4r {prog : Program} {w : World} {A : Around} {E : Value → Shared → Prop} {s : Shared} {x y : Str} {t u v v' : Tok} {i j r : Int} {Q : Value → Shared → Prop} (e : find4 x y i j = r)
    (hq : Q (.int r s.toks) { s with toks := s.toks + 1 }) : wpAny (model prog w) A (call (.builtin "str.find") [.str x t, .str y u, .int i v, .int j v']) Q E s := by
  subst e; exact call_find4 hq
theorem from_nonneg {n : Nat} {i : Int} (h : 0 ≤ i) : fromIndex n i = i.toNat := by
  unfold fromIndex
  rw [if_neg (by omega)]
  congr 1
  omega
theorem hi_len (n : Nat) : min (fromIndex n (n : Int)) n = n := by
  rw [from_nonneg (by omega)]
  simp
theorem find4_empty {x : Str} {a : Int} (h0 : 0 ≤ a) (h1 : a ≤ x.length) : find4 x Str.empty a (x.length : Int) = a := by
  unfold find4
  rw [hi_len, from_nonneg h0]
  have hat : StrLaws.At x Str.empty x.length a.toNat := ⟨by show a.toNat + 0 ≤ x.length; omega, by rw [StrLaws.subAt_eq]; rfl⟩
  rcases StrLaws.occ_head_from x Str.empty a.toNat 1 (Nat.le_refl 1) with ⟨_, hn⟩ | ⟨i, r, h2, hlo, hi, hn⟩
  · exact absurd hat (hn _ (Nat.le_refl _))
  · rw [h2]
    have : i = a.toNat := by
      rcases Nat.lt_or_ge a.toNat i with h | h
      · exact absurd hat (hn _ (Nat.le_refl _) h)
      · omega
    subst this
    show ((a.toNat : Nat) : Int) = a
    omega
theorem count_skip {c : Nat} : ∀ (l : List Nat) (n i : Nat), n ≤ i → l[i]? = some c → (∀ v, n ≤ v → v < i → l[v]? ≠ some c) → (l.drop n).count c = (l.drop (i + 1)).count c + 1 := by
  intro l n i hni hi hn
  obtain ⟨d, rfl⟩ := Nat.exists_eq_add_of_le hni
  induction d generalizing n with
  | zero =>
    simp only [Nat.add_zero] at hi hn ⊢
    obtain ⟨hlt, he⟩ := List.getElem?_eq_some_iff.mp hi
    rw [List.drop_eq_getElem_cons hlt, he, List.count_cons_self]
  | succ d ih =>
    have hlt : n + (d + 1) < l.length := (List.getElem?_eq_some_iff.mp hi).1
    have hn' : n < l.length := by omega
    rw [List.drop_eq_getElem_cons hn']
    have hne : l[n] ≠ c := fun e => hn n (Nat.le_refl _) (by omega) (by rw [List.getElem?_eq_getElem hn', e])
    rw [List.count_cons_of_ne hne]
    have e : n + (d + 1) = (n + 1) + d := by omega
    rw [e] at hi hn ⊢
    exact ih (n + 1) (by omega) hi fun v h1 h2 => hn v (by omega) h2
theorem find4_one (x : Str) (c : Nat) {a : Int} (h0 : 0 ≤ a) :
    (find4 x ⟨#[c]⟩ a (x.length : Int) = -1 ∧ (x.cps.toList.drop a.toNat).count c = 0) ∨
    ∃ i : Nat, find4 x ⟨#[c]⟩ a (x.length : Int) = (i : Int) ∧ a ≤ i ∧ i < x.length ∧ (x.cps.toList.drop a.toNat).count c = (x.cps.toList.drop (i + 1)).count c + 1 := by
  unfold find4
  rw [hi_len, from_nonneg h0]
  rcases StrLaws.occ_head_from x ⟨#[c]⟩ a.toNat 1 (Nat.le_refl 1) with ⟨h2, hn⟩ | ⟨i, r, h2, hlo, hi, hn⟩
  · rw [h2]
    refine .inl ⟨rfl, ?_⟩
    rw [List.count_eq_zero]
    intro hm
    obtain ⟨j, hj⟩ := List.mem_iff_getElem?.mp hm
    rw [List.getElem?_drop] at hj
    exact hn (a.toNat + j) (by omega) ((StrLaws.subAt_one x c _).mpr hj)
  · rw [h2]
    have hi' := (StrLaws.subAt_one x c i).mp hi
    have hlt : i < x.length := by have := hi.1; have e : (⟨#[c]⟩ : Str).length = 1 := rfl; omega
    refine .inr ⟨i, rfl, by omega, hlt, count_skip _ _ _ hlo hi' fun v h1 h2 he => hn v h1 h2 ((StrLaws.subAt_one x c v).mpr he)⟩

/-- between the turns: what is left to be found is there if and only if all was there -/
def Left (got : Str) (c k : Nat) (l : List (Str × Tok)) (a : Int) : Prop :=
  0 ≤ a ∧ a ≤ got.length ∧ (∀ q ∈ l, q.1 = Str.empty ∨ q.1 = ⟨#[c]⟩) ∧ ((l.map (fun x => x.1)).count ⟨#[c]⟩ ≤ (got.cps.toList.drop a.toNat).count c ↔ k ≤ got.cps.toList.count c)
theorem empty_ne (c : Nat) : (Str.empty : Str) ≠ ⟨#[c]⟩ := by
  intro h
  have : (Str.empty : Str).cps.size = (⟨#[c]⟩ : Str).cps.size := by rw [h]
  cases this
theorem left_start {got : Str} {c k : Nat} {l : List (Str × Tok)} {ps : List Str} (hl : List.map (fun x => x.1) l = ps) (hs : ps = Str.empty :: (List.replicate k ⟨#[c]⟩ ++ [Str.empty])) : Left got c k l 0 := by
  refine ⟨Int.le_refl _, by omega, fun q hq => ?_, ?_⟩
  · have hm : q.1 ∈ List.map (fun x => x.1) l := List.mem_map_of_mem hq
    rw [hl, hs] at hm
    simp only [List.mem_cons, List.mem_append, List.mem_replicate, List.not_mem_nil, or_false] at hm
    rcases hm with h | ⟨_, h⟩ | h
    · exact .inl h
    · exact .inr h
    · exact .inl h
  · rw [hl, hs, List.count_cons_of_ne (empty_ne c), List.count_append, List.count_replicate_self, List.count_cons_of_ne (empty_ne c), List.count_nil]
    simp
theorem left_empty {got : Str} {c k : Nat} {t : Tok} {r : List (Str × Tok)} {a : Int} (h : Left got c k ((Str.empty, t) :: r) a) : Left got c k r a := by
  obtain ⟨h0, h1, h2, h3⟩ := h
  refine ⟨h0, h1, fun q hq => h2 q (List.mem_cons_of_mem _ hq), ?_⟩
  rw [List.map_cons, List.count_cons_of_ne (empty_ne c)] at h3
  exact h3
theorem left_found {got : Str} {c k : Nat} {t : Tok} {r : List (Str × Tok)} {a : Int} {i : Nat} (h : Left got c k ((⟨#[c]⟩, t) :: r) a) (hi : i < got.length) (hc : (got.cps.toList.drop a.toNat).count c = (got.cps.toList.drop (i + 1)).count c + 1) : Left got c k r ((i : Int) + 1) := by
  obtain ⟨h0, h1, h2, h3⟩ := h
  refine ⟨by omega, by omega, fun q hq => h2 q (List.mem_cons_of_mem _ hq), ?_⟩
  rw [List.map_cons, List.count_cons_self, hc] at h3
  have e : ((i : Int) + 1).toNat = i + 1 := by omega
  rw [e, ← h3]
  omega
theorem left_none {got : Str} {c k : Nat} {t : Tok} {r : List (Str × Tok)} {a : Int} (h : Left got c k ((⟨#[c]⟩, t) :: r) a) (hc : (got.cps.toList.drop a.toNat).count c = 0) : decide (k ≤ got.cps.toList.count c) = false := by
  obtain ⟨h0, h1, h2, h3⟩ := h
  rw [List.map_cons, List.count_cons_self, hc] at h3
  exact decide_eq_false fun hk => by have := h3.mpr hk; omega
theorem left_end {got : Str} {c k : Nat} {a : Int} (h : Left got c k [] a) : decide (k ≤ got.cps.toList.count c) = true := decide_eq_true (h.2.2.2.mp (by simp))
theorem truthy_empty {prog : Program} {w : World} {A : Around} {E : Value → Shared → Prop} {s : Shared} {x : Str} {t : Tok} {Q : Bool → Shared → Prop} (e : x = Str.empty) (h : ∀ k, Q false { s with toks := k }) : wpAny (model prog w) A (truthy (.str x t)) Q E s := by
  subst e
  exact KXt.truthy (by decide) (by decide) h
theorem at0 {l : List (Str × Tok)} {y : Str} {ps r : List Str} (hl : List.map (fun x => x.1) l = ps) (hs : ps = Str.empty :: r) (hy : (List.map (fun x => x.1) l)[Int.toNat 0]? = some y) : y = Str.empty := by
  rw [hl, hs] at hy
  exact (Option.some.inj hy).symm
theorem atLast {l : List (Str × Tok)} {ps r : List Str} (hl : List.map (fun x => x.1) l = ps) (hs : ps = Str.empty :: (r ++ [Str.empty])) : (List.map (fun x => x.1) l).getD (-1 + ((List.map (fun x => x.1) l).length : Int)).toNat Str.empty = Str.empty := by
  rw [hl, hs]
  have e : (-1 + ((Str.empty :: (r ++ [Str.empty])).length : Int)).toNat = r.length + 1 := by simp only [List.length_cons, List.length_append, List.length_nil]; omega
  rw [e, List.getD_eq_getElem?_getD, List.getElem?_cons_succ, List.getElem?_append_right (Nat.le_refl _), Nat.sub_self]
  rfl
local macro_rules | `(tactic| walk_at "truthy str") => `(tactic| (k_here; refine truthy_empty (by first | exact at0 (by assumption) (by assumption) (by assumption) | exact atLast (by assumption) (by assumption)) ?_; intro k9))
local macro_rules | `(tactic| walk_at "exec For Name Name cons nil") => `(tactic| (k_here; (rename Fr _ _ _ _ => lF'); (with_unfolding_all refine' For_turns lF' ?_; k_whole)))
local macro_rules | `(tactic| walk_at "pyIter ref") => `(tactic| (k_here; (with_reducible show wpAny _ _ (pyIter (Value.ref _)) (fun it s₂ => TurnsAt _ _ _ _ _ _ _ _ _ it s₂) _ _); (rename Fr _ _ _ _ => lF'); (with_unfolding_all refine iter_listTurns (lo := { cls := Value.type "list", data := Data.seq (strValues _).toArray }) (vs := strValues _) (by rfl) lF' (by assumption) (by k_mem) (by rfl) (by rfl) ?_); clear lF'; intro i' l1))
theorem no_short {l : List (Str × Tok)} {ps r : List Str} {C : Prop} (hn : ¬ (2 : Int) ≤ (l.length : Int)) (hl : List.map (fun x => x.1) l = ps) (hs : ps = Str.empty :: (r ++ [Str.empty])) : C := by
  have e : l.length = r.length + 2 := by
    have h := congrArg List.length hl
    rw [hs, List.length_map, List.length_cons, List.length_append] at h
    simpa using h
  exact absurd (show (2 : Int) ≤ (l.length : Int) by omega) hn
theorem len_r {prog : Program} {w : World} {A : Around} {E : Value → Shared → Prop} {s : Shared} {x : Str} {t : Tok} {n : Nat} {Q : Value → Shared → Prop} (e : x.length = n) (hn : (n : Int) < 9223372036854775808) (h : ∀ u k, Q (.int n u) { s with toks := k }) : wpAny (model prog w) A (call (.builtin "len") [.str x t]) Q E s := by
  subst e
  exact SBL.len hn (h _ _)
theorem turn_end {h₀ : Heap} {L I : Addr} {o : Obj} {s₁ : Shared} {h' : Heap} {tk : Nat} {m' m₀ : Str → Option Value} {news : List (Addr × Obj)} {y x : Str} {P : Int → Prop} {a : Int} {ta : Tok} {b : Value}
    (F : Fr h₀ L h' m') (N : News h₀ L h' ((I, o) :: news)) (l1 : ∀ p ∈ news, p.1 < I) (e : m' = cmap y x (.int a ta) b m₀) (hP : P a) :
    UnrEndW h₀ L s₁ [(I, o)] (fun m' n' => n' = news ∧ ∃ a' ta' b', m' = cmap y x (.int a' ta') b' m₀ ∧ P a') { s₁ with heap := h', toks := tk } :=
  ⟨h', tk, m', news, rfl, F, N, fun p hp q hq => by
    rw [List.mem_singleton.mp hq]
    exact Nat.ne_of_lt (l1 p hp), rfl, a, ta, b, e, hP⟩
theorem cmap_turn {y x : Str} {a1 a2 a b b0 : Value} {m₀ : Str → Option Value} (hyx : y ≠ x) :
    (fun z => if z = y then some a else if z = y then some a1 else if z = x then some b else cmap y x a2 b0 m₀ z) = cmap y x a b m₀ := by
  funext z
  unfold cmap
  by_cases h1 : z = y
  · simp only [h1, if_true]
  · by_cases h2 : z = x
    · simp only [h2, if_true, Ne.symm hyx, if_false]
    · simp only [h1, h2, if_false]
local macro_rules | `(tactic| walk_at "call builtin:str.find") => `(tactic| (k_here; refine call_find4r (by assumption) ?_))
local macro_rules | `(tactic| walk_at "call builtin:len") => `(tactic| (k_here; (with_reducible show wpAny _ _ (call (Value.builtin _) [Value.str _ _]) _ _ _); refine len_r (by assumption) (by decide) ?_; intro u9 k9))
set_option maxRecDepth 100000 in
set_option maxHeartbeats 1000000 in
theorem match_tells {w : World} {p : Program} {loose : List Str} {mean : ExcName → Option Value} {mg mb : Str → Option Value} {want got : Str} {t1 t2 : Tok} {c k : Nat}
    {dp un : Nat} {gd : Option (List Code)} {cn : Str} {cs : Scope} {a : Addr} {ccd : Value} {cl : List (Str × Addr)} {outer : List Env} {A₀ : Around} {base h₀ : Heap} {L : Addr} {m : Str → Option Value} {s : Shared} {Q E : Value → Shared → Prop}
    (B : Below A₀ base outer h₀) (F : Fr h₀ L s.heap m) (X : (hd.heap_39 w.params).In h₀) (T : Top p loose mean mg mb h₀) (hk : cs.kind = .function) (hdp : dp + 2 < recursionLimit) (hun : un + 16 < cLine)
    (hw : want.length ≤ 1000) (hg : got.length ≤ 30) (hoc : (Builtin.Str.occurrences want (Str.ofString "...") 0 want.length 1).isEmpty = false)
    (hsp : Txt.split want (Str.ofString "...") = Str.empty :: (List.replicate k ⟨#[c]⟩ ++ [Str.empty]))
    (hret : ∀ (h' : Heap) (tk' : Nat), (∀ b o, s.heap.get? b = some o → h'.get? b = some o) → Q (.bool (decide (k ≤ got.cps.toList.count c))) { s with heap := h', toks := tk' }) :
    wpAny (model PySem.Challenge.rw_mq0171_01.row.prog w) (ktrTop dp un gd cn cs L a ccd cl outer) (call (.ref 21) [.str want t1, .str got t2]) Q E s := by
  w_top off
  revert X; k_fill; intro X
  refine wpAny_call ?_
  k_dflt cell_enter
  k_steps
  · rename_i l1
    refine items_strsM (Str.ofString "startpos") (Str.ofString "w") (Left got c k) ⟨by k_mem, trivial⟩ rfl rfl (left_start (by assumption) (by assumption)) ?_ ?_
    · intro cc tc r a ta b h tk o hP F9 N9
      have ha0 : 0 ≤ a := hP.1
      rcases hP.2.2.1 _ (List.mem_cons_self ..) with hcc | hcc
      · dsimp only at hcc
        subst hcc
        have hfi := find4_empty hP.1 hP.2.1
        have hle : (Str.empty : Str).length = 0 := rfl
        k_steps
        exact turn_end (by assumption) (by assumption) l1 (cmap_turn (by decide)) (by simpa using left_empty hP)
      · dsimp only at hcc
        subst hcc
        have hle : (⟨#[c]⟩ : Str).length = 1 := rfl
        rcases find4_one got c hP.1 with ⟨hfi, hc⟩ | ⟨i, hfi, hai, hlt, hc⟩
        · k_steps
          have hb := left_none hP hc
          rw [hb] at hret
          exact hret _ _ (by assumption)
        · k_steps
          exact turn_end (by assumption) (by assumption) l1 (cmap_turn (by decide)) (left_found hP hlt hc)
    · intro a ta b h tk hP F9 N9
      k_steps
      have hb := left_end hP
      rw [hb] at hret
      exact hret _ _ (by assumption)
  · exact no_short (by assumption) (by assumption) (by assumption)
end Mine
end
section
open PySem PySem.W PyProof.Rows
namespace Mine
def wantR (c : Nat) : Nat → List Nat
  | 0 => [46, 46, 46]
  | n + 1 => 46 :: 46 :: 46 :: c :: wantR c n
theorem wantR_len (c : Nat) : ∀ n, (wantR c n).length = 4 * n + 3
  | 0 => rfl
  | n + 1 => by simp only [wantR, List.length_cons, wantR_len c n]; omega
theorem wantR_at (c : Nat) : ∀ n i, (wantR c n)[i]? = if i < 4 * n + 3 then some (if i % 4 = 3 then c else 46) else none
  | 0, 0 => rfl
  | 0, 1 => rfl
  | 0, 2 => rfl
  | 0, i + 3 => by
    rw [if_neg (by omega)]
    exact List.getElem?_eq_none (by show 3 ≤ i + 3; omega)
  | n + 1, 0 => by rw [if_pos (by omega)]; rfl
  | n + 1, 1 => by rw [if_pos (by omega)]; rfl
  | n + 1, 2 => by rw [if_pos (by omega)]; rfl
  | n + 1, 3 => by rw [if_pos (by omega)]; rfl
  | n + 1, i + 4 => by
    show (wantR c n)[i]? = _
    rw [wantR_at c n i]
    have e : (i + 4) % 4 = i % 4 := by omega
    rw [e]
    by_cases h : i < 4 * n + 3
    · have h' : i + 4 < 4 * (n + 1) + 3 := by omega
      simp only [h, h', if_true]
    · have h' : ¬ i + 4 < 4 * (n + 1) + 3 := by omega
      simp only [h, h', if_false]
abbrev dots : Str := Str.ofString "..."
theorem dots_cps : dots.cps.toList = [46, 46, 46] := by decide +kernel
theorem dots_len : dots.length = 3 := by decide +kernel
theorem take3 {l : List Nat} {i : Nat} : ((l.drop i).take 3 == [46, 46, 46]) = true ↔ l[i]? = some 46 ∧ l[i + 1]? = some 46 ∧ l[i + 2]? = some 46 := by
  have e : ∀ j, l[i + j]? = (l.drop i)[j]? := fun j => (List.getElem?_drop ..).symm
  have e0 := e 0
  rw [Nat.add_zero] at e0
  rw [e0, e 1, e 2]
  generalize l.drop i = d
  match d with
  | [] => simp
  | [a] => simp
  | [a, b] => simp
  | a :: b :: c :: r => simp
theorem want_at {x : Str} {c n : Nat} (hx : x.cps.toList = wantR c n) (hc : c ≠ 46) (i : Nat) : StrLaws.At x dots x.length i ↔ i % 4 = 0 ∧ i ≤ 4 * n := by
  have hlen : x.length = 4 * n + 3 := by
    show x.cps.size = _
    rw [← Array.length_toList, hx, wantR_len]
  unfold StrLaws.At
  rw [StrLaws.subAt_eq, dots_len, dots_cps, hx, take3, wantR_at, wantR_at, wantR_at, hlen]
  constructor
  · rintro ⟨h, h1, h2, h3⟩
    rw [if_pos (by omega)] at h1 h2 h3
    have f : ∀ j, (some (if j % 4 = 3 then c else 46) = some 46) → j % 4 ≠ 3 := fun j hj e => by
      rw [if_pos e] at hj; exact hc (Option.some.inj hj)
    have a1 := f _ h1
    have a2 := f _ h2
    have a3 := f _ h3
    omega
  · rintro ⟨h1, h2⟩
    refine ⟨by omega, ?_, ?_, ?_⟩
    · rw [if_pos (by omega), if_neg (by omega)]
    · rw [if_pos (by omega), if_neg (by omega)]
    · rw [if_pos (by omega), if_neg (by omega)]
theorem str_of_list {x : Str} {l : List Nat} (h : x.cps.toList = l) : x = ⟨l.toArray⟩ := by
  obtain ⟨⟨l'⟩⟩ := x
  exact congrArg (fun l => Str.mk (Array.mk l)) h
theorem sub_one {x : Str} {c n j : Nat} (hx : x.cps.toList = wantR c n) (h : j < n) : Builtin.Str.strSub x (4 * j + 3) (4 * j + 4) = ⟨#[c]⟩ := by
  refine str_of_list (l := [c]) ?_
  rw [StrLaws.strSub_toList, hx]
  have e : 4 * j + 4 - (4 * j + 3) = 1 := by omega
  have hlt : 4 * j + 3 < (wantR c n).length := by rw [wantR_len]; omega
  rw [e, List.drop_eq_getElem_cons hlt, List.take_succ_cons, List.take_zero]
  have h1 := wantR_at c n (4 * j + 3)
  rw [List.getElem?_eq_getElem hlt, if_pos (by omega), if_pos (by omega)] at h1
  rw [Option.some.inj h1]
theorem sub_none {x : Str} {i j : Nat} (h : x.length ≤ i ∨ j ≤ i) : Builtin.Str.strSub x i j = Str.empty := by
  refine str_of_list (l := []) ?_
  rw [StrLaws.strSub_toList]
  rcases h with h | h
  · rw [List.drop_eq_nil_of_le (by rw [Array.length_toList]; exact h)]; simp
  · have e : j - i = 0 := by omega
    rw [e, List.take_zero]
theorem parts_rest {x : Str} {c n : Nat} (hx : x.cps.toList = wantR c n) (hc : c ≠ 46) {f : Nat} (hf : ∀ k, f ≤ k → ¬ StrLaws.At x dots x.length k) :
    ∀ (d j : Nat) (cuts : List Nat), j + d = n → StrLaws.ChainG x dots x.length (4 * j + 3) cuts f → StrLaws.partsFrom x dots.length (4 * j + 3) cuts = List.replicate d ⟨#[c]⟩ ++ [Str.empty] := by
  have hlen : x.length = 4 * n + 3 := by
    show x.cps.size = _
    rw [← Array.length_toList, hx, wantR_len]
  intro d
  induction d with
  | zero =>
    intro j cuts hj hC
    cases cuts with
    | nil =>
      show [Builtin.Str.strSub x (4 * j + 3) x.length] = _
      rw [sub_none (.inl (by omega))]
      rfl
    | cons c0 r =>
      exfalso
      obtain ⟨h1, h2, _, _⟩ := hC
      have := (want_at hx hc c0).mp h2
      omega
  | succ d ih =>
    intro j cuts hj hC
    have hat : StrLaws.At x dots x.length (4 * j + 4) := (want_at hx hc _).mpr ⟨by omega, by omega⟩
    cases cuts with
    | nil =>
      exfalso
      have e : f = 4 * j + 3 := hC
      exact hf _ (by omega) hat
    | cons c0 r =>
      obtain ⟨h1, h2, h3, h4⟩ := hC
      have h5 := (want_at hx hc c0).mp h2
      have e : c0 = 4 * j + 4 := by
        rcases Nat.lt_or_ge (4 * j + 4) c0 with h | h
        · exact absurd hat (h3 _ (by omega) h)
        · omega
      subst e
      show Builtin.Str.strSub x (4 * j + 3) (4 * j + 4) :: StrLaws.partsFrom x dots.length (4 * j + 4 + dots.length) r = _
      rw [dots_len] at h4 ⊢
      have e2 : 4 * j + 4 + 3 = 4 * (j + 1) + 3 := by omega
      rw [e2] at h4 ⊢
      rw [sub_one hx (by omega)]
      have := ih (j + 1) r (by omega) h4
      rw [dots_len] at this
      rw [this]
      rfl
theorem want_split {x : Str} {c n : Nat} (hx : x.cps.toList = wantR c n) (hc : 256 ≤ c) : Txt.split x dots = Str.empty :: (List.replicate n ⟨#[c]⟩ ++ [Str.empty]) := by
  have hc' : c ≠ 46 := by omega
  have hlen : x.length = 4 * n + 3 := by
    show x.cps.size = _
    rw [← Array.length_toList, hx, wantR_len]
  have hat : StrLaws.At x dots x.length 0 := (want_at hx hc' _).mpr ⟨rfl, by omega⟩
  obtain ⟨f, hC, hf⟩ := StrLaws.occ_tight x dots (by rw [dots_len]; omega)
  unfold Txt.split
  rw [if_neg, if_neg]
  · rw [StrLaws.partsBetween_eq]
    revert hC
    cases Builtin.Str.occurrences x dots 0 x.length (x.length + 1) with
    | nil =>
      intro hC
      have e : f = 0 := hC
      exact absurd hat (hf 0 (by omega))
    | cons c0 r =>
      rintro ⟨h1, h2, h3, h4⟩
      have e : c0 = 0 := by
        rcases Nat.eq_zero_or_pos c0 with h | h
        · exact h
        · exact absurd hat (h3 0 (by omega) h)
      subst e
      show Builtin.Str.strSub x 0 0 :: StrLaws.partsFrom x dots.length (0 + dots.length) r = _
      rw [sub_none (.inr (Nat.le_refl _))]
      have := parts_rest hx hc' hf n 0 r (by omega) (by rw [dots_len] at h4; exact h4)
      rw [dots_len] at this ⊢
      rw [this]
  · revert hC
    cases Builtin.Str.occurrences x dots 0 x.length (x.length + 1) with
    | nil =>
      intro hC
      have e : f = 0 := hC
      exact absurd hat (hf 0 (by omega))
    | cons c0 r => intro _ h; cases h
  · simp only [Bool.or_eq_true, decide_eq_true_eq, not_or]
    rw [dots_len]
    refine ⟨by omega, ?_⟩
    have e : Builtin.Str.strKind dots = 1 := by decide +kernel
    rw [e]
    unfold Builtin.Str.strKind
    split
    · omega
    · split <;> omega
theorem want_occ {x : Str} {c n : Nat} (hx : x.cps.toList = wantR c n) (hc : 256 ≤ c) : (Builtin.Str.occurrences x dots 0 x.length 1).isEmpty = false := by
  have hat : StrLaws.At x dots x.length 0 := (want_at hx (by omega) _).mpr ⟨rfl, by omega⟩
  have h := (StrLaws.found_iff x dots).mpr ⟨0, hat⟩
  simpa using h
theorem mul_list (x : Str) : ∀ n : Nat, ((List.replicate n x.cps).foldl (· ++ ·) (#[] : Array Nat)).toList = (List.replicate n x.cps.toList).flatten := by
  have gen : ∀ (n : Nat) (a : Array Nat), ((List.replicate n x.cps).foldl (· ++ ·) a).toList = a.toList ++ (List.replicate n x.cps.toList).flatten := by
    intro n
    induction n with
    | zero => intro a; simp
    | succ n ih => intro a; rw [List.replicate_succ, List.foldl_cons, ih, List.replicate_succ, List.flatten_cons, Array.toList_append, List.append_assoc]
  intro n
  rw [gen]; rfl
theorem want_flat (c : Nat) : ∀ n, [46, 46, 46] ++ (List.replicate n [c, 46, 46, 46]).flatten = wantR c n
  | 0 => rfl
  | n + 1 => by
    rw [List.replicate_succ, List.flatten_cons, wantR, ← want_flat c n]
    rfl
theorem want_cps (c n : Nat) : (dots ++ Txt.mul (⟨#[c]⟩ ++ dots) ((n : Int) + 1)).cps.toList = wantR c (n + 1) := by
  have e1 : ((⟨#[c]⟩ : Str) ++ dots).cps.toList = [c, 46, 46, 46] := by
    show (#[c] ++ dots.cps).toList = _
    rw [Array.toList_append, dots_cps]; rfl
  have e2 : (Txt.mul (⟨#[c]⟩ ++ dots) ((n : Int) + 1)).cps.toList = (List.replicate (n + 1) [c, 46, 46, 46]).flatten := by
    unfold Txt.mul
    rw [if_neg (by omega)]
    split
    · rename_i h
      simp only [Bool.or_eq_true, beq_iff_eq] at h
      rcases h with h | h
      · have : n = 0 := by omega
        subst this
        rw [e1]; rfl
      · exfalso
        have : ((⟨#[c]⟩ : Str) ++ dots).cps.toList.length = 0 := h
        rw [e1] at this
        cases this
    · show ((List.replicate ((n : Int) + 1).toNat _).foldl (· ++ ·) #[]).toList = _
      rw [mul_list, e1]
      congr 2
  show (dots.cps ++ _).toList = _
  rw [Array.toList_append, dots_cps, e2, want_flat]
end Mine
end
section
open PySem PySem.W PyProof.Rows
namespace Mine
local macro_rules | `(tactic| cell_enter) => `(tactic| first
  | (refine' code_keep ?k1 ?k2 ?k3 ?k5 ?kA ?kF ?kK ?k6 ?k7 ?k8 ?k9 ?kB ?_ ?c2 ?c3 ?c4 ?c5; (case kA => exact rfl); (case kF => exact rfl); (case kK => assumption); (case k1 => k_asm); (case k2 => k_asm); (case k3 => k_asm); (case k5 => k_asm); (case k6 => k_is); (case k7 => k_is); (case k8 => ktr_room); (case k9 => exact BindsTo.of_eq rfl); (case c5 => decide); (case kB => exact locs rfl); (case c2 => exact rfl); (case c3 => exact rfl); (case c4 => exact rfl); k_whole; intro L' h' F' N' B' X' T'; (try dsimp only); (try k_lift B'); (try k_fold))
  | (refine' code_keepC ?k1 ?k2 ?k3 ?k5 ?kA ?kF ?kK ?k6 ?k7 ?k8 ?k9 ?kB ?kD ?_ ?c2 ?c3 ?c4; (case kA => exact rfl); (case kF => exact rfl); (case kK => assumption); (case k1 => k_asm); (case k2 => k_asm); (case k3 => k_asm); (case k5 => k_asm); (case k6 => k_is); (case k7 => k_is); (case k8 => ktr_room); (case k9 => exact BindsTo.of_eq rfl); (case kB => exact rfl); (case kD => decide +kernel); (case c2 => exact rfl); (case c3 => exact rfl); (case c4 => exact rfl); k_whole; intro L' h' tk' cells' F' N' Y' B' X' T'; k_cells Y'; (try simp only [List.cons_append, List.nil_append] at N'); (try dsimp only); (try k_lift B'); (try k_fold)))
def smap (y : Str) (a : Value) (m₀ : Str → Option Value) : Str → Option Value := fun z => if z = y then some a else m₀ z
theorem smap_self {y : Str} {a : Value} {m : Str → Option Value} (hy : m y = some a) : smap y a m = m := by
  funext z
  unfold smap
  split
  · rename_i h; rw [h, hy]
  · rfl
theorem smap_turn {y : Str} {a b : Value} {m₀ : Str → Option Value} : (fun z => if z = y then some a else smap y b m₀ z) = smap y a m₀ := by
  funext z
  unfold smap
  by_cases h : z = y
  · simp only [h, if_true]
  · simp only [h, if_false]
def CountStep (h₀ : Heap) (L : Addr) (s : Shared) (y : Str) (m₀ : Str → Option Value) (C k : Nat) (f : Flow) (s₃ : Shared) : Prop :=
  f = .next ∧ ∃ h' tk t, s₃ = { s with heap := h', toks := tk } ∧ k + 1 ≤ C ∧ Fr h₀ L h' (smap y (.int ((k : Int) + 1) t) m₀)
theorem count_step {h₀ h' : Heap} {L : Addr} {s : Shared} {y : Str} {m₀ : Str → Option Value} {C k : Nat} {tk : Nat} {t : Tok} {v : Value} (F : Fr h₀ L h' (fun z => if z = y then some (.int ((k : Int) + 1) t) else smap y v m₀ z)) (hk : k + 1 ≤ C) :
    CountStep h₀ L s y m₀ C k .next { s with heap := h', toks := tk } := by
  rw [smap_turn] at F
  exact ⟨rfl, h', tk, t, rfl, hk, F⟩
theorem retN {h' : Heap} {s : Shared} {Q : Value → Shared → Prop} {x y : Int} {t : Tok} {tk' : Nat}
    (hret : ∀ (t : Tok) (h' : Heap) (tk' : Nat), (∀ b o, s.heap.get? b = some o → h'.get? b = some o) → Q (.int x t) { s with heap := h', toks := tk' }) (e : y = x) (F : ∀ b o, s.heap.get? b = some o → h'.get? b = some o) : Q (.int y t) { s with heap := h', toks := tk' } := by
  subst e
  exact hret t h' tk' F
structure IsC (n : Nat) : Prop where
theorem While_count {prog : Program} {w : World} {A : Around} {E : Value → Shared → Prop} {Q : Flow → Shared → Prop} {s : Shared} {env : Env} {h₀ : Heap} {L : Addr} {test : Expr} {body : List Stmt} {pos : Pos} {m₀ : Str → Option Value} (y : Str) {C : Nat} (hC : IsC C) {t₀ : Tok}
    (F : Fr h₀ L s.heap m₀) (hy : m₀ y = some (.int 0 t₀))
    (turn : ∀ (k : Nat) (t : Tok) h₁ tk₁, k ≤ C → Fr h₀ L h₁ (smap y (.int k t) m₀) → News h₀ L h₁ [] →
      wpAny (model prog w) A (isTrue test env (eval test env)) (fun b s₂ =>
        if b = true then wpAny (model prog w) A (execs body env) (CountStep h₀ L s y m₀ C k) E s₂ else Q .next s₂) E { s with heap := h₁, toks := tk₁ })
    (hE : PassesOwn (model prog w) A env E := by passes_own) :
    wpAny (model prog w) A (exec (.While test body [] pos) env) Q E s := by
  refine While_inv (fun n m₁ news₁ => ∃ (k : Nat) (t : Tok), m₁ = smap y (.int k t) m₀ ∧ k ≤ C ∧ n = C + 1 - k ∧ news₁ = []) F News.nil ⟨0, t₀, (smap_self hy).symm, Nat.zero_le _, rfl, rfl⟩ ?_ hE
  rintro n m₁ news₁ h₁ tk₁ F₁ N₁ ⟨k, t, rfl, hk, rfl, rfl⟩
  refine wpAny_mono (turn k t h₁ tk₁ hk F₁ N₁) (fun b s₂ h₂ => ?_) fun _ _ e => e
  cases b with
  | false => exact h₂
  | true =>
    simp only [if_true] at h₂ ⊢
    refine wpAny_mono h₂ (fun f s₃ h₃ => ?_) fun _ _ e => e
    obtain ⟨rfl, h', tk, t', rfl, hk', F'⟩ := h₃
    exact ⟨rfl, h', tk, _, [], C + 1 - (k + 1), rfl, F', News.nil, by omega, k + 1, t', rfl, hk', rfl, rfl⟩
local macro_rules | `(tactic| walk_at "exec While BoolOp") => `(tactic| (k_here; (rename Fr _ _ _ _ => lF'); (with_unfolding_all refine While_count (Str.ofString "meets") (by assumption) lF' rfl ?_); intro k9 t9 h9 tk9 hk9 F9 N9; (try k_sweep)))
theorem sign_len (c : Nat) : ((⟨#[c]⟩ : Str) ++ Str.ofString "...").length ≤ 16 := by
  rw [Str.length_append]
  have e : (Str.ofString "...").length = 3 := dots_len
  rw [e]
  show 1 + 3 ≤ 16
  omega
theorem want_len (c n : Nat) : (dots ++ Txt.mul (⟨#[c]⟩ ++ dots) ((n : Int) + 1)).length = 4 * n + 7 := by
  show (dots ++ Txt.mul (⟨#[c]⟩ ++ dots) ((n : Int) + 1)).cps.size = _
  rw [← Array.length_toList, want_cps, wantR_len]
  omega
theorem add_str_want {prog : Program} {w : World} {A : Around} {E : Value → Shared → Prop} {s : Shared} {c n : Nat} {t u : Tok} {Q : Value → Shared → Prop} (hn : n ≤ 40)
    (h : ∀ t' k, Q (.str (dots ++ Txt.mul (⟨#[c]⟩ ++ dots) ((n : Int) + 1)) t') { s with toks := k }) : wpAny (model prog w) A (binaryOp .Add (.str dots t) (.str (Txt.mul (⟨#[c]⟩ ++ dots) ((n : Int) + 1)) u)) Q E s := by
  refine SB.add h ?_
  rw [← Str.length_append, want_len, sizeLine_eq]
  omega
local macro_rules | `(tactic| walk_at "binaryOp Mult str int") => `(tactic| (k_here; refine SB.mul (mulOk_of 16 1048576 (sign_len _) (by omega) (by omega) (by decide) (by decide)) ?_; intro _ _))
local macro_rules | `(tactic| walk_at "binaryOp Add str str") => `(tactic| (k_here; refine add_str_want (by omega) ?_; intro _ _))
theorem match_use {w : World} {p : Program} {loose : List Str} {mean : ExcName → Option Value} {mg mb : Str → Option Value} {way : Str} {t1 t2 : Tok} {c n : Nat}
    {dp un : Nat} {gd : Option (List Code)} {cn : Str} {cs : Scope} {a : Addr} {ccd : Value} {cl : List (Str × Addr)} {outer : List Env} {A₀ : Around} {base h₀ : Heap} {L : Addr} {m : Str → Option Value} {news : List (Addr × Obj)} {s : Shared} {Q E : Value → Shared → Prop}
    (B : Below A₀ base outer h₀) (F : Fr h₀ L s.heap m) (X : (hd.heap_39 w.params).In h₀) (N : News h₀ L s.heap news) (T : Top p loose mean mg mb h₀) (hk : cs.kind = .function) (hdp : dp + 2 < recursionLimit) (hun : un + 16 < cLine)
    (hn : n ≤ 40) (hg : way.length ≤ 30) (hc : 256 ≤ c)
    (hret : ∀ (h' : Heap) (tk' : Nat), Fr h₀ L h' m → News h₀ L h' news → Q (.bool (decide (n + 1 ≤ way.cps.toList.count c))) { s with heap := h', toks := tk' }) :
    wpAny (model PySem.Challenge.rw_mq0171_01.row.prog w) (ktrTop dp un gd cn cs L a ccd cl outer) (call (.ref 21) [.str (dots ++ Txt.mul (⟨#[c]⟩ ++ dots) ((n : Int) + 1)) t1, .str way t2]) Q E s :=
  match_tells B F X T hk hdp hun (by rw [want_len]; omega) hg (want_occ (want_cps _ _) hc) (want_split (want_cps _ _) hc) fun h' tk' hkp => hret h' tk' (F.grownK hkp) (N.grown hkp)
local macro_rules | `(tactic| walk_at "call ref") => `(tactic| (k_here; (with_reducible show wpAny _ _ (call (Value.ref 21) [Value.str _ _, Value.str _ _]) _ _ _); k_dflt (refine' match_use ?kB ?kF ?kX ?kN ?kT ?kk ?kd ?ku ?k1 ?k2 ?k3 ?_; (case kB => k_asm); (case kF => k_asm); (case kX => k_asm); (case kN => k_asm); (case kT => k_asm); (case kk => first | exact rfl | assumption); (case kd => ktr_room); (case ku => ktr_units); (case k1 => omega); (case k2 => assumption); (case k3 => assumption); k_whole; intro h9 tk9 F9 N9; (try dsimp only); (try k_fold); (try k_sweep))))
set_option maxRecDepth 100000 in
set_option maxHeartbeats 1000000 in
theorem meets_tells {w : World} {p : Program} {loose : List Str} {mean : ExcName → Option Value} {mg mb : Str → Option Value} {way : Str} {t1 t2 : Tok} {c : Nat}
    {dp un : Nat} {gd : Option (List Code)} {cn : Str} {cs : Scope} {a : Addr} {ccd : Value} {cl : List (Str × Addr)} {outer : List Env} {A₀ : Around} {base h₀ : Heap} {L : Addr} {m : Str → Option Value} {s : Shared} {Q E : Value → Shared → Prop}
    (B : Below A₀ base outer h₀) (F : Fr h₀ L s.heap m) (X : (hd.heap_39 w.params).In h₀) (T : Top p loose mean mg mb h₀) (hk : cs.kind = .function) (hdp : dp + 4 < recursionLimit) (hun : un + 32 < cLine)
    (hg : way.length ≤ 30) (hc : 256 ≤ c)
    (hret : ∀ (t : Tok) (h' : Heap) (tk' : Nat), (∀ b o, s.heap.get? b = some o → h'.get? b = some o) → Q (.int (way.cps.toList.count c : Nat) t) { s with heap := h', toks := tk' }) :
    wpAny (model PySem.Challenge.rw_mq0171_01.row.prog w) (ktrTop dp un gd cn cs L a ccd cl outer) (call (.ref 63) [.str ⟨#[c]⟩ t1, .str way t2]) Q E s := by
  w_top off
  revert X; k_fill; intro X
  have hC9 : IsC (way.cps.toList.count c) := ⟨⟩
  have hcl : way.cps.toList.count c ≤ way.length := by
    show _ ≤ way.cps.size
    rw [← Array.length_toList]; exact List.count_le_length ..
  refine wpAny_call ?_
  k_dflt cell_enter
  k_steps
  · exact count_step (by assumption) (by omega)
  · exact retN (Q := Q) hret (by omega) (by assumption)
end Mine
end
section
open PySem PySem.W PyProof.Rows PySem.Spec PySem.Calls
namespace Mine
/-- a place at which the walk is to stop -/
@[irreducible] def Halt (P : Prop) : Prop := P
theorem Halt.of {P : Prop} (h : P) : Halt P := by unfold Halt; exact h
theorem Halt.out {P : Prop} (h : Halt P) : P := by unfold Halt at h; exact h
theorem halt_post {α : Type} {M : Model} {A : Around} {t : Sem α} {Q : α → Shared → Prop} {E : Value → Shared → Prop} {s : Shared} (h : wpAny M A t (fun v s => Halt (Q v s)) E s) : wpAny M A t Q E s :=
  wpAny_mono h (fun _ _ h => h.out) fun _ _ e => e
section
variable {prog : Program} {w : World} {A : Around} {h₀ : Heap} {L : Addr} {m : Str → Option Value} {env : Env} {elt : Expr} {x : Str} {scope : Scope} {cl : List (Str × Addr)} {s : Shared} {S : List (Addr × Obj) → Prop} {P : Nat → Value → Prop} {Fin : List Value → List (Addr × Obj) → Prop} {news : List (Addr × Obj)}
/-- a turn of a comprehension that makes one object and keeps all else -/
def NewOne (h₀ : Heap) (L : Addr) (m : Str → Option Value) (s₁ : Shared) (led : List (Addr × Obj)) (G : Obj → Prop) (y : Value) (s₂ : Shared) : Prop :=
  ∃ h' tk' a o, s₂ = { s₁ with heap := h', toks := tk' } ∧ y = .ref a ∧ Fr h₀ L h' m ∧ News h₀ L h' ((a, o) :: led) ∧ (∀ q ∈ led, q.1 < a) ∧ G o
theorem NewOne.intro {s₁ : Shared} {led : List (Addr × Obj)} {G : Obj → Prop} {h' : Heap} {tk' : Nat} {a : Addr} {o : Obj} (F : Fr h₀ L h' m) (N : News h₀ L h' ((a, o) :: led)) (l : ∀ q ∈ led, q.1 < a) (g : G o) :
    NewOne h₀ L m s₁ led G (.ref a) { s₁ with heap := h', toks := tk' } := ⟨h', tk', a, o, rfl, rfl, F, N, l, g⟩
/-- the items of a made list, each an object of the ledger of which G is told -/
def Made (own : List (Addr × Obj)) (G : Nat → Obj → Prop) (ys : List Value) : Prop := ∀ i, i < ys.length → ∃ a o, ys[i]? = some (.ref a) ∧ (a, o) ∈ own ∧ G i o
theorem Made.snoc {own : List (Addr × Obj)} {G : Nat → Obj → Prop} {ys : List Value} {a : Addr} {o : Obj} (h : Made own G ys) (g : G ys.length o) : Made ((a, o) :: own) G (ys ++ [.ref a]) := by
  intro i hi
  rw [List.length_append, List.length_singleton] at hi
  rcases Nat.lt_or_ge i ys.length with h1 | h1
  · obtain ⟨b, ob, e, hm, hg⟩ := h i h1
    exact ⟨b, ob, by rw [List.getElem?_append_left h1]; exact e, List.mem_cons_of_mem _ hm, hg⟩
  · have e : i = ys.length := by omega
    subst e
    exact ⟨a, o, by rw [List.getElem?_append_right (Nat.le_refl _), Nat.sub_self]; rfl, List.mem_cons_self .., g⟩
theorem comp_new {n : Nat} (G : Nat → Obj → Prop) (hS : ∀ nw, (∀ p ∈ news, p ∈ nw) → S nw)
    (turn : ∀ (i : Nat) (v : Value) (own : List (Addr × Obj)) (ys : List Value) (I : Addr) (oI : Obj) (C : Addr) (oC : Obj) (D : Addr) (m₂ : Str → Option Value) (h : Heap) (tk : Nat) (E' : Value → Shared → Prop), i < n → P i v → LCg.NsObj oC m₂ → m₂ x = some v → Fr h₀ L h m →
      News h₀ L h ((I, oI) :: (C, oC) :: (D, LCg.lst ys) :: (news ++ own)) →
      wpAny (model prog w) A (eval elt (compEnvC scope cl C env)) (NewOne h₀ L m { s with heap := h, toks := tk } ((I, oI) :: (C, oC) :: (D, LCg.lst ys) :: (news ++ own)) (G i)) E' { s with heap := h, toks := tk })
    (fin : ∀ (ys : List Value) (own : List (Addr × Obj)), ys.length = n → Made own G ys → Fin ys (news ++ own)) :
    LCg.CompRest prog w A h₀ L m env elt x scope cl s S P Fin n 0 [] news := by
  have key : ∀ (j i : Nat) (ys : List Value) (own : List (Addr × Obj)), i + j = n → ys.length = i → Made own G ys → LCg.CompRest prog w A h₀ L m env elt x scope cl s S P Fin j i ys (news ++ own) := by
    intro j
    induction j with
    | zero => intro i ys own hi hy hM; exact LCg.CompRest.zero (fin ys own (by omega) hM)
    | succ j ih =>
      intro i ys own hi hy hM
      refine LCg.CompRest.succ ?_
      intro v I oI C oC D m₂ h tk E' hv hC hx F N off ne
      refine wpAny_mono (turn i v own ys I oI C oC D m₂ h tk E' (by omega) hv hC hx F N) (fun y s₂ hq => ?_) fun _ _ e => e
      obtain ⟨h', tk', a, o, rfl, rfl, F', N', l, g⟩ := hq
      have hmem : ∀ p, p ∈ (I, oI) :: (C, oC) :: (D, LCg.lst ys) :: (news ++ (a, o) :: own) → p ∈ (a, o) :: (I, oI) :: (C, oC) :: (D, LCg.lst ys) :: (news ++ own) := by
        intro p hp
        simp only [List.mem_cons, List.mem_append] at hp ⊢
        rcases hp with h1 | h1 | h1 | h1 | h1 | h1
        · exact .inr (.inl h1)
        · exact .inr (.inr (.inl h1))
        · exact .inr (.inr (.inr (.inl h1)))
        · exact .inr (.inr (.inr (.inr (.inl h1))))
        · exact .inl h1
        · exact .inr (.inr (.inr (.inr (.inr h1))))
      refine ⟨h', tk', news ++ (a, o) :: own, rfl, F', fun p hp => N' p (hmem p hp), LCg.Off3.of fun p hp => ?_, hS _ fun p hp => List.mem_append_left _ hp, ?_⟩
      · rcases List.mem_append.mp hp with h1 | h1
        · exact off.mem p (List.mem_append_left _ h1)
        · rcases List.mem_cons.mp h1 with rfl | h1
          · refine ⟨Nat.ne_of_gt (l (I, oI) ?_), Nat.ne_of_gt (l (C, oC) ?_), Nat.ne_of_gt (l (D, LCg.lst ys) ?_)⟩
            · exact List.mem_cons_self ..
            · exact List.mem_cons_of_mem _ (List.mem_cons_self ..)
            · exact List.mem_cons_of_mem _ (List.mem_cons_of_mem _ (List.mem_cons_self ..))
          · exact off.mem p (List.mem_append_right _ h1)
      · exact ih (i + 1) _ _ (by omega) (by rw [List.length_append, List.length_singleton, hy]) (hM.snoc (hy ▸ g))
  have := key n 0 [] [] (by omega) rfl (fun i hi => absurd hi (Nat.not_lt_zero _))
  rw [List.append_nil] at this
  exact this
/-- a turn of a comprehension that makes a text and keeps all else -/
def NewStr (h₀ : Heap) (L : Addr) (m : Str → Option Value) (s₁ : Shared) (led : List (Addr × Obj)) (g : Str) (y : Value) (s₂ : Shared) : Prop :=
  ∃ h' tk' t, s₂ = { s₁ with heap := h', toks := tk' } ∧ y = .str g t ∧ Fr h₀ L h' m ∧ News h₀ L h' led
theorem NewStr.intro {s₁ : Shared} {led : List (Addr × Obj)} {g : Str} {h' : Heap} {tk' : Nat} {t : Tok} (F : Fr h₀ L h' m) (N : News h₀ L h' led) :
    NewStr h₀ L m s₁ led g (.str g t) { s₁ with heap := h', toks := tk' } := ⟨h', tk', t, rfl, rfl, F, N⟩
theorem comp_strs {n : Nat} (g : Nat → Str) (hS : S news)
    (turn : ∀ (i : Nat) (v : Value) (ys : List Value) (I : Addr) (oI : Obj) (C : Addr) (oC : Obj) (D : Addr) (m₂ : Str → Option Value) (h : Heap) (tk : Nat) (E' : Value → Shared → Prop), i < n → P i v → LCg.NsObj oC m₂ → m₂ x = some v → Fr h₀ L h m →
      News h₀ L h ((I, oI) :: (C, oC) :: (D, LCg.lst ys) :: news) →
      wpAny (model prog w) A (eval elt (compEnvC scope cl C env)) (NewStr h₀ L m { s with heap := h, toks := tk } ((I, oI) :: (C, oC) :: (D, LCg.lst ys) :: news) (g i)) E' { s with heap := h, toks := tk })
    (fin : ∀ (l : List (Str × Tok)), l.map (fun x => x.1) = (List.range n).map g → Fin (strValues l) news) :
    LCg.CompRest prog w A h₀ L m env elt x scope cl s S P Fin n 0 [] news := by
  have key : ∀ (j i : Nat) (l : List (Str × Tok)), i + j = n → l.map (fun x => x.1) = (List.range i).map g → LCg.CompRest prog w A h₀ L m env elt x scope cl s S P Fin j i (strValues l) news := by
    intro j
    induction j with
    | zero =>
      intro i l hi hl
      have e : i = n := by omega
      subst e
      exact LCg.CompRest.zero (fin l hl)
    | succ j ih =>
      intro i l hi hl
      refine LCg.CompRest.succ ?_
      intro v I oI C oC D m₂ h tk E' hv hC hx F N off ne
      refine wpAny_mono (turn i v (strValues l) I oI C oC D m₂ h tk E' (by omega) hv hC hx F N) (fun y s₂ hq => ?_) fun _ _ e => e
      obtain ⟨h', tk', t, rfl, rfl, F', N'⟩ := hq
      refine ⟨h', tk', news, rfl, F', N', off, hS, ?_⟩
      have e : strValues l ++ [Value.str (g i) t] = strValues (l ++ [(g i, t)]) := by simp [strValues]
      dsimp only
      rw [e]
      exact ih (i + 1) _ (by omega) (by rw [List.map_append, hl, List.range_succ, List.map_append]; rfl)
  exact key n 0 [] (by omega) rfl
end
/-- a frame's map with one name, perhaps unbound -/
def omap (x : Str) (b : Option Value) (m₀ : Str → Option Value) : Str → Option Value := fun z => if z = x then b else m₀ z
theorem omap_self (x : Str) (m : Str → Option Value) : omap x (m x) m = m := by
  funext z
  unfold omap
  split
  · rename_i h; rw [h]
  · rfl
theorem omap_turn {x : Str} {b : Option Value} {v : Value} {m₀ : Str → Option Value} : (fun z => if z = x then some v else omap x b m₀ z) = omap x (some v) m₀ := by
  funext z
  unfold omap
  split <;> rfl
def TurnPost (h₀ : Heap) (L : Addr) (x : Str) (m₀ : Str → Option Value) (led : List (Addr × Obj)) (s₁ : Shared) (Q : Flow → Shared → Prop) (f : Flow) (s₂ : Shared) : Prop :=
  match f with
  | .ret v => Q (.ret v) s₂
  | .brk => Q .next s₂
  | _ => ∃ h' tk' b', s₂ = { s₁ with heap := h', toks := tk' } ∧ Fr h₀ L h' (omap x b' m₀) ∧ News h₀ L h' led
/-- a loop over a range whose turns change nothing but the loop's own name -/
theorem range_loop {prog : Program} {w : World} {A : Around} {E : Value → Shared → Prop} {s : Shared} {env : Env} {h₀ : Heap} {target : Expr} {body : List Stmt} {Q : Flow → Shared → Prop}
    {r : Addr} {b₁ : Int} {n : Nat} {t u v : Tok} {m₀ : Str → Option Value} {news : List (Addr × Obj)} (x : Str)
    (hh : A.handled = none) (F : Fr h₀ env.locals s.heap m₀) (N : News h₀ env.locals s.heap news) (hr : IsRange s.heap r 0 b₁ 1 t u v) (hsm : Builtin.Range.small 0 b₁ 1 = true) (hn : Builtin.Range.rangeSize 0 b₁ 1 = ((n : Nat) : Int))
    (hgo : ∀ (I : Addr) (v : Value) (s : Shared) (Q : Unit → Shared → Prop) (E : Value → Shared → Prop), Q () s → wpAny (model prog w) A (letOwnedTupleGo target (.ref I) v) Q E s)
    (turn : ∀ (i : Nat) (t : Tok) (b : Option Value) (h : Heap) (tk : Nat) (own : List (Addr × Obj)), i < n → Fr h₀ env.locals h (omap x b m₀) → News h₀ env.locals h (news ++ own) →
      wpAny (model prog w) A (assign target env (.int i t)) (fun _ s₂ => wpAny (model prog w) A (execs body env) (TurnPost h₀ env.locals x m₀ (news ++ own) { s with heap := h, toks := tk } Q) E s₂) E { s with heap := h, toks := tk })
    (done : ∀ (b : Option Value) (h : Heap) (tk : Nat), Fr h₀ env.locals h (omap x b m₀) → News h₀ env.locals h news → Q .next { s with heap := h, toks := tk }) :
    wpAny (model prog w) A (pyIter (.ref r)) (fun it s₂ => TurnsAt prog w A h₀ env target body Q E it s₂) E s := by
  refine wpAny_pyIter_range hr hsm ?_
  have up : ∀ (o : Obj) b o', s.heap.get? b = some o' → (s.heap.push o).get? b = some o' := fun o b o' e => Heap.get?_push_of_some _ e
  refine ⟨s.heap.objs.size, [s.heap.objs.size], [s.heap.objs.size], n, _, _, _, m₀, news, fun _ m₁ news₁ => news₁ = news ∧ ∃ b, m₁ = omap x b m₀, rfl,
    KTurns.ofWalks (LCg.range_walks hh 0 n) (fun i v s Q E _ q => hgo _ v s Q E q), ?_, ?_, ?_, ?_, F.push _, (fun p hp => ⟨up _ _ _ (N p hp).1, (N p hp).2⟩), ⟨rfl, m₀ x, (omap_self x m₀).symm⟩, ?_, ?_⟩
  · intro hI
    exact absurd F.ns.lt ((List.mem_singleton.mp hI) ▸ Nat.lt_irrefl _)
  · intro b hb
    rw [List.mem_singleton.mp hb]
    exact next_is_new F
  · intro p hp hI
    exact absurd (Heap.lt_size (N p hp).1) ((List.mem_singleton.mp hI) ▸ Nat.lt_irrefl _)
  · show IsRangeIter _ _ _ _ _
    rw [hn]
    simpa using Heap.get?_push_size _ rfl
  · rintro i v m₁ news₁ h₁ tk₁ own hin ⟨t', rfl⟩ ⟨rfl, b, rfl⟩ hoff hown hget hall hst F₁ N₁
    have N₂ : News h₀ env.locals h₁ (news₁ ++ own) := fun p hp => N₁ p (List.mem_append.mpr ((List.mem_append.mp hp).symm))
    have key := turn i t' b h₁ tk₁ own hin F₁ N₂
    rw [Int.zero_add]
    refine wpAny_mono key (fun _ s₂ h₂ => wpAny_mono h₂ (fun f s₃ h₃ => ?_) fun _ _ e => e) fun _ _ e => e
    cases f with
    | ret v => exact h₃
    | brk => exact h₃
    | next =>
      obtain ⟨h', tk', b', rfl, F', N'⟩ := h₃
      exact ⟨rfl, h', tk', _, news₁, rfl, F', fun p hp => N' p (List.mem_append.mpr ((List.mem_append.mp hp).symm)), hoff, rfl, b', rfl⟩
    | cont =>
      obtain ⟨h', tk', b', rfl, F', N'⟩ := h₃
      exact ⟨rfl, h', tk', _, news₁, rfl, F', fun p hp => N' p (List.mem_append.mpr ((List.mem_append.mp hp).symm)), hoff, rfl, b', rfl⟩
  · rintro h' tk m' news' F' N' _ ⟨rfl, b, rfl⟩
    exact done b h' tk F' N'
/-- an item of a written list of four objects at an unknown place -/
theorem pick4 {prog : Program} {w : World} {A : Around} {E : Value → Shared → Prop} {s : Shared} {value slice : Expr} {l a0 a1 a2 a3 : Addr} {k : Int} {u : Tok} {Q : Value → Shared → Prop}
    (hl : s.heap.IsList l #[.ref a0, .ref a1, .ref a2, .ref a3]) (h0 : 0 ≤ k) (h3 : k ≤ 3)
    (h : ∀ a, (k = 0 ∧ a = a0) ∨ (k = 1 ∧ a = a1) ∨ (k = 2 ∧ a = a2) ∨ (k = 3 ∧ a = a3) → Q (.ref a) s)
    (hs : subscripted slice false (.ref l) (.int k u) = operate [.ref l, .int k u] (getItem (.ref l) (.int k u)) := by with_unfolding_all rfl) :
    wpAny (model prog w) A (subscriptTail value slice (.ref l) (.int k u)) Q E s := by
  have hk : k = 0 ∨ k = 1 ∨ k = 2 ∨ k = 3 := by omega
  rcases hk with rfl | rfl | rfl | rfl
  · exact tail_any hl.typeIs slot_list_getitem.lookup (wpAny_getItem_list hl (by decide) (by decide) rfl (h a0 (.inl ⟨rfl, rfl⟩))) hs
  · exact tail_any hl.typeIs slot_list_getitem.lookup (wpAny_getItem_list hl (by decide) (by decide) rfl (h a1 (.inr (.inl ⟨rfl, rfl⟩)))) hs
  · exact tail_any hl.typeIs slot_list_getitem.lookup (wpAny_getItem_list hl (by decide) (by decide) rfl (h a2 (.inr (.inr (.inl ⟨rfl, rfl⟩))))) hs
  · exact tail_any hl.typeIs slot_list_getitem.lookup (wpAny_getItem_list hl (by decide) (by decide) rfl (h a3 (.inr (.inr (.inr ⟨rfl, rfl⟩))))) hs
theorem pick_obj {h : Heap} {a a0 a1 a2 a3 : Addr} {o0 o1 o2 o3 : Obj} {k : Int} {G : Int → Obj → Prop} (p : (k = 0 ∧ a = a0) ∨ (k = 1 ∧ a = a1) ∨ (k = 2 ∧ a = a2) ∨ (k = 3 ∧ a = a3))
    (m0 : h.get? a0 = some o0) (m1 : h.get? a1 = some o1) (m2 : h.get? a2 = some o2) (m3 : h.get? a3 = some o3) (g0 : G 0 o0) (g1 : G 1 o1) (g2 : G 2 o2) (g3 : G 3 o3) : ∃ o, h.get? a = some o ∧ G k o := by
  rcases p with ⟨rfl, rfl⟩ | ⟨rfl, rfl⟩ | ⟨rfl, rfl⟩ | ⟨rfl, rfl⟩
  · exact ⟨_, m0, g0⟩
  · exact ⟨_, m1, g1⟩
  · exact ⟨_, m2, g2⟩
  · exact ⟨_, m3, g3⟩
end Mine
end
section
open PySem PySem.W PyProof.Rows PySem.Spec PySem.Calls
namespace Mine
theorem join_single : ∀ l : List Nat, (Str.join (Str.ofString "") (l.map fun c => (⟨#[c]⟩ : Str))).cps.toList = l
  | [] => rfl
  | [c] => rfl
  | c :: d :: r => by
    have ih := join_single (d :: r)
    show ((⟨#[c]⟩ ++ Str.ofString "" ++ Str.join (Str.ofString "") ((d :: r).map fun c => (⟨#[c]⟩ : Str)) : Str)).cps.toList = _
    rw [Str.cps_append, Str.cps_append, Array.toList_append, Array.toList_append, ih]
    rfl
theorem join_codes {prog : Program} {w : World} {A : Around} {E : Value → Shared → Prop} {s : Shared} {h₀ : Heap} {L : Addr} {news : List (Addr × Obj)} {D : Addr} {l : List (Str × Tok)} {n : Nat} {f : Nat → Nat} {t : Tok} {Q : Value → Shared → Prop}
    (N : News h₀ L s.heap news) (hm : (D, LCg.lst (strValues l)) ∈ news) (hl : l.map (fun x => x.1) = (List.range n).map fun i => (⟨#[f i]⟩ : Str)) (hn : n ≤ 30)
    (h : ∀ t' k, Q (.str ⟨((List.range n).map f).toArray⟩ t') { s with toks := k }) : wpAny (model prog w) A (call (.builtin "str.join") [.str (Str.ofString "") t, .ref D]) Q E s := by
  have e : (List.range n).map (fun i => (⟨#[f i]⟩ : Str)) = ((List.range n).map f).map fun c => (⟨#[c]⟩ : Str) := by rw [List.map_map]; rfl
  refine SC.join (News.isList N hm) (hl.trans e) (joinOk_of ?_) fun t' k => ?_
  · rw [List.map_map]
    have h1 : ((((List.range n).map f).map ((fun x : Str => x.length) ∘ fun c => (⟨#[c]⟩ : Str))).sum) = n := by
      have e2 : ((fun x : Str => x.length) ∘ fun c => (⟨#[c]⟩ : Str)) = fun _ => 1 := rfl
      rw [e2, List.map_map]
      have e3 : ((fun _ => 1) ∘ f) = fun _ : Nat => 1 := rfl
      rw [e3, List.map_const', List.sum_replicate_nat, List.length_range]
      omega
    have h2 : (Str.ofString "").length = 0 := rfl
    rw [h1, h2]
    omega
  · have e3 : Txt.join (Str.ofString "") (((List.range n).map f).map fun c => (⟨#[c]⟩ : Str)) = ⟨((List.range n).map f).toArray⟩ := by
      have h4 := join_single ((List.range n).map f)
      show Builtin.Str.glued _ _ = _
      rw [StrLaws.glued_eq_join]
      generalize Str.join (Str.ofString "") (((List.range n).map f).map fun c => (⟨#[c]⟩ : Str)) = z at h4
      obtain ⟨⟨lz⟩⟩ := z
      exact congrArg (fun l => Str.mk (Array.mk l)) h4
    rw [e3]
    exact h t' k
theorem item_is {x : Str} {k : Int} {c : Nat} (h0 : 0 ≤ k) (hx : x.cps.toList[k.toNat]? = some c) : Txt.item x k = ⟨#[c]⟩ := by
  have h1 : x.cps[k.toNat]? = some c := by simpa using hx
  have h2 := StrLaws.at_nonneg h0 h1
  unfold Txt.item Txt.charAt
  rw [h2]
  rfl
theorem way_item {prog : Program} {w : World} {A : Around} {E : Value → Shared → Prop} {s : Shared} {value slice : PySem.Expr} {x : Str} {t u : Tok} {k : Int} {c : Nat} {Q : Value → Shared → Prop}
    (hx : x.cps.toList[k.toNat]? = some c) (h0 : 0 ≤ k) (hl : x.length ≤ 30) (h : ∀ t' tk, Q (.str ⟨#[c]⟩ t') { s with toks := tk })
    (hs : subscripted slice false (.str x t) (.int k u) = operate [.str x t, .int k u] (getItem (.str x t) (.int k u)) := by with_unfolding_all rfl)
    (ht : ∀ r, letTemporaryGo value (.str x t) r = pure () := by intro _; with_unfolding_all rfl) :
    wpAny (model prog w) A (subscriptTail value slice (.str x t) (.int k u)) Q E s := by
  have hlt : k.toNat < x.length := by
    have := (List.getElem?_eq_some_iff.mp hx).1
    rw [Array.length_toList] at this
    exact this
  refine KXi.item rfl (by omega) (by omega) (by omega) (fun _ => ?_) hs ht
  rw [item_is h0 hx]
  exact h _ _
theorem range_at {n : Nat} (f : Nat → Nat) {i : Nat} (h : i < n) : ((List.range n).map f)[i]? = some (f i) := by
  rw [List.getElem?_map, List.getElem?_range h]; rfl
end Mine
end
section
open PySem PySem.W PyProof.Rows
namespace Mine
/-- the codes of the signs of a ring -/
def codes (k : Int) : List Nat :=
  if k = 0 then [17952, 18051, 18150, 17127, 13860, 10593, 9506, 9509, 9512, 9413, 9314, 10337, 13604, 16871, 17958, 17955]
  else if k = 1 then [17680, 17878, 18076, 16030, 9496, 2962, 788, 794, 800, 602, 404, 2450, 8984, 15518, 17692, 17686]
  else if k = 2 then [35648, 35846, 36044, 33998, 27464, 20930, 18756, 18762, 18768, 18570, 18372, 20418, 26952, 33486, 35660, 35654]
  else [35104, 35500, 35896, 31804, 18736, 5668, 1320, 1332, 1344, 948, 552, 4644, 17712, 30780, 35128, 35116]
def code (k : Int) (x : Int) : Nat := (codes k).getD (x.fmod 16).toNat 0
theorem codes_inj {k : Int} (h0 : 0 ≤ k) (h3 : k ≤ 3) {i j : Nat} (hi : i < 16) (hj : j < 16) (h : (codes k).getD i 0 = (codes k).getD j 0) : i = j := by
  have hk : k = 0 ∨ k = 1 ∨ k = 2 ∨ k = 3 := by omega
  have key : ∀ k ∈ [(0 : Int), 1, 2, 3], ∀ i < 16, ∀ j < 16, (codes k).getD i 0 = (codes k).getD j 0 → i = j := by decide +kernel
  exact key k (by rcases hk with rfl | rfl | rfl | rfl <;> decide) i hi j hj h
theorem code_eq {k : Int} (h0 : 0 ≤ k) (h3 : k ≤ 3) (x y : Int) : code k x = code k y ↔ x.fmod 16 = y.fmod 16 := by
  have a1 := Int.fmod_nonneg_of_pos x (show (0 : Int) < 16 by decide)
  have a2 := Int.fmod_lt_of_pos x (show (0 : Int) < 16 by decide)
  have b1 := Int.fmod_nonneg_of_pos y (show (0 : Int) < 16 by decide)
  have b2 := Int.fmod_lt_of_pos y (show (0 : Int) < 16 by decide)
  constructor
  · intro h
    have := codes_inj h0 h3 (by omega) (by omega) h
    omega
  · intro h
    unfold code
    rw [h]
theorem fm (x : Int) : x.fmod 16 = x % 16 := Int.fmod_eq_emod_of_nonneg x (by decide)
/-- the step by 16 -/
theorem step16 (st sp : Int) : ((st + sp * ((1 : Nat) : Int)).fmod 16 - (st + sp * ((0 : Nat) : Int)).fmod 16).fmod 16 = sp % 16 := by
  rw [fm, fm, fm]
  simp only [Int.natCast_one, Int.natCast_zero, Int.mul_one, Int.mul_zero, Int.add_zero]
  omega
theorem mul16 (sp x : Int) : (sp % 16 * x) % 16 = (sp * x) % 16 := by rw [Int.mul_emod, Int.emod_emod, ← Int.mul_emod]
/-- where the last colour is met -/
def hit (q n : Nat) (g : Int) : Bool := (((q : Int) * (g - n)) % 16 == 0)
theorem same_hue (st sp : Int) (q n : Nat) (hq : sp % 16 = q) (g : Int) : ((st + sp * g).fmod 16 = (st + sp * (n : Int)).fmod 16) ↔ hit q n g = true := by
  unfold hit
  rw [beq_iff_eq, ← hq, mul16, Int.mul_sub, fm, fm]
  omega
def A1 (q n : Nat) : List Int := (rangeKs 0 16).filter (hit q n) ++ [16]
def A2 (q : Nat) : List Int := (rangeKs 1 16).filter fun g => (((q : Int) * g) % 16 == 0)
def cnt (q n : Nat) : Nat := (List.range (n + 1)).countP fun (i : Nat) => hit q n (i : Int)
theorem lst1_is (st sp : Int) (q n : Nat) (hq : sp % 16 = q) : lst1 ((st + sp * ((0 : Nat) : Int)).fmod 16) (sp % 16) ((st + sp * (n : Int)).fmod 16) = A1 q n := by
  unfold A1 lst1
  rw [fold_filter (fun k' => ((st + sp * ((0 : Nat) : Int)).fmod 16 + sp % 16 * k' - (st + sp * (n : Int)).fmod 16).fmod 16 = 0), List.nil_append]
  have e : (fun k => decide (((st + sp * ((0 : Nat) : Int)).fmod 16 + sp % 16 * k - (st + sp * (n : Int)).fmod 16).fmod 16 = 0)) = hit q n := by
    funext g
    rw [Bool.eq_iff_iff, decide_eq_true_eq]
    rw [← same_hue st sp q n hq g]
    simp only [fm]
    have e1 := mul16 sp g
    simp only [Int.natCast_zero, Int.mul_zero, Int.add_zero]
    omega
  rw [e]
  rfl
theorem lst2_is (sp : Int) (q : Nat) (hq : sp % 16 = q) : lst2 (sp % 16) = A2 q := by
  unfold A2 lst2
  rw [fold_filter (fun k' => (sp % 16 * k').fmod 16 = 0), List.nil_append]
  have e : (fun k => decide ((sp % 16 * k).fmod 16 = 0)) = fun g => (((q : Int) * g) % 16 == 0) := by
    funext g
    rw [Bool.eq_iff_iff, decide_eq_true_eq, beq_iff_eq, fm, hq]
  rw [e]
  rfl
theorem cnt_is {k st sp : Int} {q n N : Nat} (h0 : 0 ≤ k) (h3 : k ≤ 3) (hq : sp % 16 = q) (hN : N = n + 1) :
    (Str.mk (((List.range N).map fun (i : Nat) => code k (st + sp * i)).toArray)).cps.toList.count (code k (st + sp * (n : Int))) = cnt q n := by
  subst hN
  show ((List.range (n + 1)).map fun (i : Nat) => code k (st + sp * i)).count _ = _
  unfold cnt
  rw [List.count, List.countP_map]
  congr 1
  funext i
  show (code k (st + sp * i) == code k (st + sp * n)) = hit q n i
  rw [Bool.eq_iff_iff, beq_iff_eq, code_eq h0 h3, same_hue st sp q n hq]
def ok (q n : Nat) : Bool := (A1 q n).all fun M => !(A1 q n).all (fun a => decide (M ≤ a)) || (A2 q).all fun K => !(A2 q).all (fun a => decide (K ≤ a)) || (M + ((cnt q n : Int) - 1) * K == n)
theorem ok_all : ∀ q < 16, ∀ n < 21, n = 0 ∨ ok q n = true := by decide +kernel
theorem gone_law {st sp n k : Int} {N : Nat} {M K : Int} (h0 : 0 ≤ k) (h3 : k ≤ 3) (hn1 : 1 ≤ n) (hn2 : n ≤ 20) (hN : N = (n + 1).toNat)
    (h1 : Least M (lst1 ((st + sp * ((0 : Nat) : Int)).fmod 16) (((st + sp * ((1 : Nat) : Int)).fmod 16 - (st + sp * ((0 : Nat) : Int)).fmod 16).fmod 16) ((st + sp * (n.toNat : Int)).fmod 16)))
    (h2 : Least K (lst2 (((st + sp * ((1 : Nat) : Int)).fmod 16 - (st + sp * ((0 : Nat) : Int)).fmod 16).fmod 16))) :
    M + (((Str.mk (((List.range N).map fun (i : Nat) => code k (st + sp * i)).toArray)).cps.toList.count (code k (st + sp * (n.toNat : Int))) : Nat) - 1 : Int) * K = n := by
  obtain ⟨q, hq⟩ : ∃ q : Nat, sp % 16 = q := ⟨(sp % 16).toNat, by omega⟩
  rw [step16] at h1 h2
  rw [lst1_is st sp q n.toNat hq] at h1
  rw [lst2_is sp q hq] at h2
  rw [cnt_is h0 h3 hq (show N = n.toNat + 1 by omega)]
  have hok := (ok_all q (by omega) n.toNat (by omega)).resolve_left (by omega)
  unfold ok at hok
  have a := List.all_eq_true.mp hok M h1.1
  have a1 : (A1 q n.toNat).all (fun a => decide (M ≤ a)) = true := List.all_eq_true.mpr fun x hx => decide_eq_true (h1.2 x hx)
  rw [a1, Bool.not_true, Bool.false_or] at a
  have b := List.all_eq_true.mp a K h2.1
  have b1 : (A2 q).all (fun a => decide (K ≤ a)) = true := List.all_eq_true.mpr fun x hx => decide_eq_true (h2.2 x hx)
  rw [b1, Bool.not_true, Bool.false_or, beq_iff_eq] at b
  omega
end Mine
end
section
open PySem PySem.W PyProof.Rows
set_option maxRecDepth 100000
namespace Mine
abbrev hueF (x : Int) : Dbl := Float64.div (Float64.ofInt x) 4625196817309499392
abbrev rC (l s : Dbl) (x : Int) : Dbl := vF (m1F l s) (m2F l s) (Float64.add (hueF x) 4599676419421066581)
abbrev gC (l s : Dbl) (x : Int) : Dbl := vF (m1F l s) (m2F l s) (hueF x)
abbrev bC (l s : Dbl) (x : Int) : Dbl := vF (m1F l s) (m2F l s) (Float64.sub (hueF x) 4599676419421066581)
/-- the four rings: lightness, saturation -/
def Ring (k : Int) (l s : Dbl) : Prop :=
  (k = 0 ∧ l = 4600427019358961664 ∧ s = Float64.div 4607182418800017408 4613937818241073152) ∨ (k = 1 ∧ l = 4598175219545276416 ∧ s = 4607182418800017408) ∨ (k = 2 ∧ l = 4604930618986332160 ∧ s = 4607182418800017408) ∨ (k = 3 ∧ l = 4602678819172646912 ∧ s = 4607182418800017408)
def RingAB (k A B : Int) : Prop := (k = 0 ∧ A = 3 ∧ B = 2) ∨ (k = 1 ∧ A = 2 ∧ B = 6) ∨ (k = 2 ∧ A = 6 ∧ B = 6) ∨ (k = 3 ∧ A = 4 ∧ B = 6)
structure ColFacts (k : Int) (l s : Dbl) (x A B : Int) : Prop where
  parts : Parts (rC l s x) (gC l s x) (bC l s x)
  reads : Reads (rC l s x) (gC l s x) (bC l s x)
  hue : (qI (hF (rC l s x) (gC l s x) (bC l s x)) 4625196817309499392).fmod 16 = x.fmod 16
  light : qI (lF (rC l s x) (gC l s x) (bC l s x)) 4620693217682128896 = A
  share : qI (sF (rC l s x) (gC l s x) (bC l s x)) 4618441417868443648 = B
  sign : sgn (rC l s x) (gC l s x) (bC l s x) = ⟨#[code k x]⟩
def fr1 (x : Dbl) : Dbl := (Float64.divmod x 4607182418800017408).snd
def triF (x : Int) : Dbl × Dbl × Dbl := (fr1 (Float64.add (hueF x) 4599676419421066581), fr1 (hueF x), fr1 (Float64.sub (hueF x) 4599676419421066581))
def hues : List (List (Dbl × Dbl × Dbl)) := [[(4599676419421066560, 0, 4604180019048437088), (4599676419421066592, 0, 4604180019048437088), (4599676419421066592, 0, 4604180019048437072), (4599676419421066576, 0, 4604180019048437072), (4599676419421066576, 0, 4604180019048437080), (4599676419421066584, 0, 4604180019048437080), (4599676419421066584, 0, 4604180019048437076), (4599676419421066580, 0, 4604180019048437076), (4599676419421066580, 0, 4604180019048437078), (4599676419421066581, 0, 4604180019048437078), (4599676419421066584, 0, 4604180019048437078), (4599676419421066576, 0, 4604180019048437076), (4599676419421066592, 0, 4604180019048437080), (4599676419421066560, 0, 4604180019048437072)], [(4600802319327909184, 4589168020290535424, 4604742969001858400), (4600802319327909216, 4589168020290535424, 4604742969001858400), (4600802319327909216, 4589168020290535424, 4604742969001858384), (4600802319327909200, 4589168020290535424, 4604742969001858384), (4600802319327909200, 4589168020290535424, 4604742969001858392), (4600802319327909208, 4589168020290535424, 4604742969001858392), (4600802319327909208, 4589168020290535424, 4604742969001858388), (4600802319327909204, 4589168020290535424, 4604742969001858388), (4600802319327909204, 4589168020290535424, 4604742969001858390), (4600802319327909205, 4589168020290535424, 4604742969001858390), (4600802319327909208, 4589168020290535424, 4604742969001858390), (4600802319327909200, 4589168020290535424, 4604742969001858388), (4600802319327909216, 4589168020290535424, 4604742969001858392), (4600802319327909184, 4589168020290535424, 4604742969001858384)], [(4601928219234751808, 4593671619917905920, 4605305918955279712), (4601928219234751840, 4593671619917905920, 4605305918955279712), (4601928219234751840, 4593671619917905920, 4605305918955279696), (4601928219234751824, 4593671619917905920, 4605305918955279696), (4601928219234751824, 4593671619917905920, 4605305918955279704), (4601928219234751832, 4593671619917905920, 4605305918955279704), (4601928219234751832, 4593671619917905920, 4605305918955279700), (4601928219234751828, 4593671619917905920, 4605305918955279700), (4601928219234751828, 4593671619917905920, 4605305918955279702), (4601928219234751829, 4593671619917905920, 4605305918955279702), (4601928219234751832, 4593671619917905920, 4605305918955279702), (4601928219234751824, 4593671619917905920, 4605305918955279700), (4601928219234751840, 4593671619917905920, 4605305918955279704), (4601928219234751808, 4593671619917905920, 4605305918955279696)], [(4602866469157120672, 4595923419731591168, 4605868868908701024), (4602866469157120688, 4595923419731591168, 4605868868908701024), (4602866469157120688, 4595923419731591168, 4605868868908701008), (4602866469157120680, 4595923419731591168, 4605868868908701008), (4602866469157120680, 4595923419731591168, 4605868868908701016), (4602866469157120684, 4595923419731591168, 4605868868908701016), (4602866469157120684, 4595923419731591168, 4605868868908701012), (4602866469157120682, 4595923419731591168, 4605868868908701012), (4602866469157120682, 4595923419731591168, 4605868868908701014), (4602866469157120684, 4595923419731591168, 4605868868908701014), (4602866469157120680, 4595923419731591168, 4605868868908701012), (4602866469157120688, 4595923419731591168, 4605868868908701016), (4602866469157120672, 4595923419731591168, 4605868868908701008)], [(4603429419110541984, 4598175219545276416, 4606431818862122336), (4603429419110542000, 4598175219545276416, 4606431818862122336), (4603429419110542000, 4598175219545276416, 4606431818862122320), (4603429419110541992, 4598175219545276416, 4606431818862122320), (4603429419110541992, 4598175219545276416, 4606431818862122328), (4603429419110541996, 4598175219545276416, 4606431818862122328), (4603429419110541996, 4598175219545276416, 4606431818862122324), (4603429419110541994, 4598175219545276416, 4606431818862122324), (4603429419110541994, 4598175219545276416, 4606431818862122326), (4603429419110541996, 4598175219545276416, 4606431818862122326), (4603429419110541992, 4598175219545276416, 4606431818862122324), (4603429419110542000, 4598175219545276416, 4606431818862122328), (4603429419110541984, 4598175219545276416, 4606431818862122320)], [(4603992369063963296, 4599301119452119040, 4606994768815543648), (4603992369063963312, 4599301119452119040, 4606994768815543648), (4603992369063963312, 4599301119452119040, 4606994768815543632), (4603992369063963304, 4599301119452119040, 4606994768815543632), (4603992369063963304, 4599301119452119040, 4606994768815543640), (4603992369063963308, 4599301119452119040, 4606994768815543640), (4603992369063963308, 4599301119452119040, 4606994768815543636), (4603992369063963306, 4599301119452119040, 4606994768815543636), (4603992369063963306, 4599301119452119040, 4606994768815543638), (4603992369063963308, 4599301119452119040, 4606994768815543638), (4603992369063963304, 4599301119452119040, 4606994768815543636), (4603992369063963312, 4599301119452119040, 4606994768815543640), (4603992369063963296, 4599301119452119040, 4606994768815543632)], [(4604555319017384608, 4600427019358961664, 4586165620538955264), (4604555319017384624, 4600427019358961664, 4586165620538955008), (4604555319017384616, 4600427019358961664, 4586165620538955136), (4604555319017384620, 4600427019358961664, 4586165620538955072), (4604555319017384618, 4600427019358961664, 4586165620538955104), (4604555319017384618, 4600427019358961664, 4586165620538955096)], [(4605118268970805920, 4601552919265804288, 4592170420042115840), (4605118268970805936, 4601552919265804288, 4592170420042115712), (4605118268970805928, 4601552919265804288, 4592170420042115776), (4605118268970805932, 4601552919265804288, 4592170420042115744), (4605118268970805930, 4601552919265804288, 4592170420042115760), (4605118268970805930, 4601552919265804288, 4592170420042115756)], [(4605681218924227232, 4602678819172646912, 4595172819793696128), (4605681218924227248, 4602678819172646912, 4595172819793696064), (4605681218924227240, 4602678819172646912, 4595172819793696096), (4605681218924227244, 4602678819172646912, 4595172819793696080), (4605681218924227242, 4602678819172646912, 4595172819793696088), (4605681218924227242, 4602678819172646912, 4595172819793696086)], [(4606244168877648544, 4603241769126068224, 4597424619607381376), (4606244168877648560, 4603241769126068224, 4597424619607381312), (4606244168877648552, 4603241769126068224, 4597424619607381344), (4606244168877648556, 4603241769126068224, 4597424619607381328), (4606244168877648554, 4603241769126068224, 4597424619607381336), (4606244168877648554, 4603241769126068224, 4597424619607381334)], [(4606807118831069856, 4603804719079489536, 4598925819483171520), (4606807118831069872, 4603804719079489536, 4598925819483171488), (4606807118831069864, 4603804719079489536, 4598925819483171504), (4606807118831069868, 4603804719079489536, 4598925819483171496), (4606807118831069866, 4603804719079489536, 4598925819483171500), (4606807118831069866, 4603804719079489536, 4598925819483171499)], [(4581662020911584256, 4604367669032910848, 4600051719390014144), (4581662020911584768, 4604367669032910848, 4600051719390014144), (4581662020911584768, 4604367669032910848, 4600051719390014112), (4581662020911584512, 4604367669032910848, 4600051719390014112), (4581662020911584512, 4604367669032910848, 4600051719390014128), (4581662020911584640, 4604367669032910848, 4600051719390014128), (4581662020911584640, 4604367669032910848, 4600051719390014120), (4581662020911584576, 4604367669032910848, 4600051719390014120), (4581662020911584576, 4604367669032910848, 4600051719390014124), (4581662020911584592, 4604367669032910848, 4600051719390014124), (4581662020911584576, 4604367669032910848, 4600051719390014123), (4581662020911584640, 4604367669032910848, 4600051719390014124), (4581662020911584512, 4604367669032910848, 4600051719390014120), (4581662020911584768, 4604367669032910848, 4600051719390014128), (4581662020911584256, 4604367669032910848, 4600051719390014112)], [(4590669220166325504, 4604930618986332160, 4601177619296856768), (4590669220166325632, 4604930618986332160, 4601177619296856768), (4590669220166325632, 4604930618986332160, 4601177619296856736), (4590669220166325568, 4604930618986332160, 4601177619296856736), (4590669220166325568, 4604930618986332160, 4601177619296856752), (4590669220166325600, 4604930618986332160, 4601177619296856752), (4590669220166325600, 4604930618986332160, 4601177619296856744), (4590669220166325584, 4604930618986332160, 4601177619296856744), (4590669220166325584, 4604930618986332160, 4601177619296856748), (4590669220166325588, 4604930618986332160, 4601177619296856748), (4590669220166325584, 4604930618986332160, 4601177619296856747), (4590669220166325600, 4604930618986332160, 4601177619296856748), (4590669220166325568, 4604930618986332160, 4601177619296856744), (4590669220166325632, 4604930618986332160, 4601177619296856752), (4590669220166325504, 4604930618986332160, 4601177619296856736)], [(4594422219855800960, 4605493568939753472, 4602303519203699392), (4594422219855801024, 4605493568939753472, 4602303519203699392), (4594422219855801024, 4605493568939753472, 4602303519203699360), (4594422219855800992, 4605493568939753472, 4602303519203699360), (4594422219855800992, 4605493568939753472, 4602303519203699376), (4594422219855801008, 4605493568939753472, 4602303519203699376), (4594422219855801008, 4605493568939753472, 4602303519203699368), (4594422219855801000, 4605493568939753472, 4602303519203699368), (4594422219855801000, 4605493568939753472, 4602303519203699372), (4594422219855801002, 4605493568939753472, 4602303519203699372), (4594422219855801000, 4605493568939753472, 4602303519203699371), (4594422219855801008, 4605493568939753472, 4602303519203699372), (4594422219855800992, 4605493568939753472, 4602303519203699368), (4594422219855801024, 4605493568939753472, 4602303519203699376), (4594422219855800960, 4605493568939753472, 4602303519203699360)], [(4596674019669486208, 4606056518893174784, 4603054119141594464), (4596674019669486272, 4606056518893174784, 4603054119141594464), (4596674019669486272, 4606056518893174784, 4603054119141594448), (4596674019669486240, 4606056518893174784, 4603054119141594448), (4596674019669486240, 4606056518893174784, 4603054119141594456), (4596674019669486256, 4606056518893174784, 4603054119141594456), (4596674019669486256, 4606056518893174784, 4603054119141594452), (4596674019669486248, 4606056518893174784, 4603054119141594452), (4596674019669486248, 4606056518893174784, 4603054119141594454), (4596674019669486250, 4606056518893174784, 4603054119141594454), (4596674019669486256, 4606056518893174784, 4603054119141594454), (4596674019669486240, 4606056518893174784, 4603054119141594452), (4596674019669486272, 4606056518893174784, 4603054119141594456), (4596674019669486208, 4606056518893174784, 4603054119141594448)], [(4598550519514223936, 4606619468846596096, 4603617069095015776), (4598550519514223968, 4606619468846596096, 4603617069095015776), (4598550519514223968, 4606619468846596096, 4603617069095015760), (4598550519514223952, 4606619468846596096, 4603617069095015760), (4598550519514223952, 4606619468846596096, 4603617069095015768), (4598550519514223960, 4606619468846596096, 4603617069095015768), (4598550519514223960, 4606619468846596096, 4603617069095015764), (4598550519514223956, 4606619468846596096, 4603617069095015764), (4598550519514223956, 4606619468846596096, 4603617069095015766), (4598550519514223957, 4606619468846596096, 4603617069095015766), (4598550519514223960, 4606619468846596096, 4603617069095015766), (4598550519514223952, 4606619468846596096, 4603617069095015764), (4598550519514223968, 4606619468846596096, 4603617069095015768), (4598550519514223936, 4606619468846596096, 4603617069095015760)]]
def cols0 : List (List (Dbl × Dbl × Dbl)) := [[(4602678819172646912, 4598175219545276416, 4598175219545276416), (4602678819172646912, 4598175219545276416, 4598175219545276431), (4602678819172646912, 4598175219545276416, 4598175219545276419)], [(4602678819172646912, 4599864069405540352, 4598175219545276416)], [(4602678819172646912, 4601552919265804288, 4598175219545276416)], [(4602115869219225631, 4602678819172646912, 4598175219545276416), (4602115869219225583, 4602678819172646912, 4598175219545276416), (4602115869219225607, 4602678819172646912, 4598175219545276416), (4602115869219225595, 4602678819172646912, 4598175219545276416), (4602115869219225601, 4602678819172646912, 4598175219545276416)], [(4600427019358961695, 4602678819172646912, 4598175219545276416), (4600427019358961647, 4602678819172646912, 4598175219545276416), (4600427019358961671, 4602678819172646912, 4598175219545276416), (4600427019358961659, 4602678819172646912, 4598175219545276416), (4600427019358961665, 4602678819172646912, 4598175219545276416)], [(4598738169498697759, 4602678819172646912, 4598175219545276416), (4598738169498697711, 4602678819172646912, 4598175219545276416), (4598738169498697735, 4602678819172646912, 4598175219545276416), (4598738169498697723, 4602678819172646912, 4598175219545276416), (4598738169498697729, 4602678819172646912, 4598175219545276416)], [(4598175219545276416, 4602678819172646912, 4599301119452119072), (4598175219545276416, 4602678819172646912, 4599301119452119024), (4598175219545276416, 4602678819172646912, 4599301119452119048), (4598175219545276416, 4602678819172646912, 4599301119452119036), (4598175219545276416, 4602678819172646912, 4599301119452119042), (4598175219545276416, 4602678819172646912, 4599301119452119040)], [(4598175219545276416, 4602678819172646912, 4600989969312383008), (4598175219545276416, 4602678819172646912, 4600989969312382960), (4598175219545276416, 4602678819172646912, 4600989969312382984), (4598175219545276416, 4602678819172646912, 4600989969312382972), (4598175219545276416, 4602678819172646912, 4600989969312382978), (4598175219545276416, 4602678819172646912, 4600989969312382976)], [(4598175219545276416, 4602678819172646911, 4602678819172646912), (4598175219545276416, 4602678819172646911, 4602678819172646896), (4598175219545276416, 4602678819172646911, 4602678819172646908)], [(4598175219545276416, 4600989969312382975, 4602678819172646912)], [(4598175219545276416, 4599301119452119039, 4602678819172646912)], [(4598738169498697696, 4598175219545276416, 4602678819172646912), (4598738169498697744, 4598175219545276416, 4602678819172646912), (4598738169498697720, 4598175219545276416, 4602678819172646912), (4598738169498697732, 4598175219545276416, 4602678819172646912), (4598738169498697726, 4598175219545276416, 4602678819172646912), (4598738169498697728, 4598175219545276416, 4602678819172646912)], [(4600427019358961632, 4598175219545276416, 4602678819172646912), (4600427019358961680, 4598175219545276416, 4602678819172646912), (4600427019358961656, 4598175219545276416, 4602678819172646912), (4600427019358961668, 4598175219545276416, 4602678819172646912), (4600427019358961662, 4598175219545276416, 4602678819172646912), (4600427019358961664, 4598175219545276416, 4602678819172646912)], [(4602115869219225568, 4598175219545276416, 4602678819172646912), (4602115869219225616, 4598175219545276416, 4602678819172646912), (4602115869219225592, 4598175219545276416, 4602678819172646912), (4602115869219225604, 4598175219545276416, 4602678819172646912), (4602115869219225598, 4598175219545276416, 4602678819172646912), (4602115869219225600, 4598175219545276416, 4602678819172646912)], [(4602678819172646912, 4598175219545276416, 4601552919265804255), (4602678819172646912, 4598175219545276416, 4601552919265804303), (4602678819172646912, 4598175219545276416, 4601552919265804279), (4602678819172646912, 4598175219545276416, 4601552919265804291), (4602678819172646912, 4598175219545276416, 4601552919265804285)], [(4602678819172646912, 4598175219545276416, 4599864069405540319), (4602678819172646912, 4598175219545276416, 4599864069405540367), (4602678819172646912, 4598175219545276416, 4599864069405540343), (4602678819172646912, 4598175219545276416, 4599864069405540355), (4602678819172646912, 4598175219545276416, 4599864069405540349)]]
def cols1 : List (List (Dbl × Dbl × Dbl)) := [[(4602678819172646912, 0, 0), (4602678819172646912, 0, 4385943087105441792), (4602678819172646912, 0, 4375247037990436864)], [(4602678819172646912, 4595923419731591168, 0)], [(4602678819172646912, 4600427019358961664, 0)], [(4601552919265804350, 4602678819172646912, 0), (4601552919265804254, 4602678819172646912, 0), (4601552919265804302, 4602678819172646912, 0), (4601552919265804278, 4602678819172646912, 0), (4601552919265804290, 4602678819172646912, 0)], [(4598175219545276478, 4602678819172646912, 0), (4598175219545276348, 4602678819172646912, 0), (4598175219545276430, 4602678819172646912, 0), (4598175219545276396, 4602678819172646912, 0), (4598175219545276418, 4602678819172646912, 0)], [(4589168020290535672, 4602678819172646912, 0), (4589168020290535152, 4602678819172646912, 0), (4589168020290535480, 4602678819172646912, 0), (4589168020290535344, 4602678819172646912, 0), (4589168020290535432, 4602678819172646912, 0)], [(0, 4602678819172646912, 4593671619917906048), (0, 4602678819172646912, 4593671619917905792), (0, 4602678819172646912, 4593671619917905952), (0, 4602678819172646912, 4593671619917905888), (0, 4602678819172646912, 4593671619917905928), (0, 4602678819172646912, 4593671619917905922)], [(0, 4602678819172646912, 4599301119452119104), (0, 4602678819172646912, 4599301119452119008), (0, 4602678819172646912, 4599301119452119056), (0, 4602678819172646912, 4599301119452119032), (0, 4602678819172646912, 4599301119452119044), (0, 4602678819172646912, 4599301119452119041)], [(0, 4602678819172646910, 4602678819172646912), (0, 4602678819172646910, 4602678819172646880), (0, 4602678819172646910, 4602678819172646904)], [(0, 4599301119452119038, 4602678819172646912)], [(0, 4593671619917905912, 4602678819172646912)], [(4589168020290534912, 0, 4602678819172646912), (4589168020290535552, 0, 4602678819172646912), (4589168020290535296, 0, 4602678819172646912), (4589168020290535456, 0, 4602678819172646912), (4589168020290535392, 0, 4602678819172646912), (4589168020290535416, 0, 4602678819172646912)], [(4598175219545276288, 0, 4602678819172646912), (4598175219545276448, 0, 4602678819172646912), (4598175219545276384, 0, 4602678819172646912), (4598175219545276424, 0, 4602678819172646912), (4598175219545276408, 0, 4602678819172646912), (4598175219545276414, 0, 4602678819172646912)], [(4601552919265804224, 0, 4602678819172646912), (4601552919265804320, 0, 4602678819172646912), (4601552919265804272, 0, 4602678819172646912), (4601552919265804296, 0, 4602678819172646912), (4601552919265804284, 0, 4602678819172646912), (4601552919265804287, 0, 4602678819172646912)], [(4602678819172646912, 0, 4600427019358961598), (4602678819172646912, 0, 4600427019358961694), (4602678819172646912, 0, 4600427019358961646), (4602678819172646912, 0, 4600427019358961670), (4602678819172646912, 0, 4600427019358961658)], [(4602678819172646912, 0, 4595923419731591036), (4602678819172646912, 0, 4595923419731591228), (4602678819172646912, 0, 4595923419731591132), (4602678819172646912, 0, 4595923419731591180), (4602678819172646912, 0, 4595923419731591156)]]
def cols2 : List (List (Dbl × Dbl × Dbl)) := [[(4607182418800017408, 4602678819172646912, 4602678819172646912), (4607182418800017408, 4602678819172646912, 4602678819172646927), (4607182418800017408, 4602678819172646912, 4602678819172646915)], [(4607182418800017408, 4604367669032910848, 4602678819172646912)], [(4607182418800017408, 4606056518893174784, 4602678819172646912)], [(4606619468846596127, 4607182418800017408, 4602678819172646912), (4606619468846596079, 4607182418800017408, 4602678819172646912), (4606619468846596103, 4607182418800017408, 4602678819172646912), (4606619468846596091, 4607182418800017408, 4602678819172646912), (4606619468846596097, 4607182418800017408, 4602678819172646912)], [(4604930618986332191, 4607182418800017408, 4602678819172646912), (4604930618986332143, 4607182418800017408, 4602678819172646912), (4604930618986332167, 4607182418800017408, 4602678819172646912), (4604930618986332155, 4607182418800017408, 4602678819172646912), (4604930618986332161, 4607182418800017408, 4602678819172646912)], [(4603241769126068255, 4607182418800017408, 4602678819172646912), (4603241769126068207, 4607182418800017408, 4602678819172646912), (4603241769126068231, 4607182418800017408, 4602678819172646912), (4603241769126068219, 4607182418800017408, 4602678819172646912), (4603241769126068225, 4607182418800017408, 4602678819172646912)], [(4602678819172646912, 4607182418800017408, 4603804719079489568), (4602678819172646912, 4607182418800017408, 4603804719079489520), (4602678819172646912, 4607182418800017408, 4603804719079489544), (4602678819172646912, 4607182418800017408, 4603804719079489532), (4602678819172646912, 4607182418800017408, 4603804719079489538), (4602678819172646912, 4607182418800017408, 4603804719079489536)], [(4602678819172646912, 4607182418800017408, 4605493568939753504), (4602678819172646912, 4607182418800017408, 4605493568939753456), (4602678819172646912, 4607182418800017408, 4605493568939753480), (4602678819172646912, 4607182418800017408, 4605493568939753468), (4602678819172646912, 4607182418800017408, 4605493568939753474), (4602678819172646912, 4607182418800017408, 4605493568939753472)], [(4602678819172646912, 4607182418800017407, 4607182418800017408), (4602678819172646912, 4607182418800017407, 4607182418800017392), (4602678819172646912, 4607182418800017407, 4607182418800017404)], [(4602678819172646912, 4605493568939753471, 4607182418800017408)], [(4602678819172646912, 4603804719079489535, 4607182418800017408)], [(4603241769126068192, 4602678819172646912, 4607182418800017408), (4603241769126068240, 4602678819172646912, 4607182418800017408), (4603241769126068216, 4602678819172646912, 4607182418800017408), (4603241769126068228, 4602678819172646912, 4607182418800017408), (4603241769126068222, 4602678819172646912, 4607182418800017408), (4603241769126068224, 4602678819172646912, 4607182418800017408)], [(4604930618986332128, 4602678819172646912, 4607182418800017408), (4604930618986332176, 4602678819172646912, 4607182418800017408), (4604930618986332152, 4602678819172646912, 4607182418800017408), (4604930618986332164, 4602678819172646912, 4607182418800017408), (4604930618986332158, 4602678819172646912, 4607182418800017408), (4604930618986332160, 4602678819172646912, 4607182418800017408)], [(4606619468846596064, 4602678819172646912, 4607182418800017408), (4606619468846596112, 4602678819172646912, 4607182418800017408), (4606619468846596088, 4602678819172646912, 4607182418800017408), (4606619468846596100, 4602678819172646912, 4607182418800017408), (4606619468846596094, 4602678819172646912, 4607182418800017408), (4606619468846596096, 4602678819172646912, 4607182418800017408)], [(4607182418800017408, 4602678819172646912, 4606056518893174751), (4607182418800017408, 4602678819172646912, 4606056518893174799), (4607182418800017408, 4602678819172646912, 4606056518893174775), (4607182418800017408, 4602678819172646912, 4606056518893174787), (4607182418800017408, 4602678819172646912, 4606056518893174781)], [(4607182418800017408, 4602678819172646912, 4604367669032910815), (4607182418800017408, 4602678819172646912, 4604367669032910863), (4607182418800017408, 4602678819172646912, 4604367669032910839), (4607182418800017408, 4602678819172646912, 4604367669032910851), (4607182418800017408, 4602678819172646912, 4604367669032910845)]]
def cols3 : List (List (Dbl × Dbl × Dbl)) := [[(4607182418800017408, 0, 0), (4607182418800017408, 0, 4390446686732812288), (4607182418800017408, 0, 4379750637617807360)], [(4607182418800017408, 4600427019358961664, 0)], [(4607182418800017408, 4604930618986332160, 0)], [(4606056518893174846, 4607182418800017408, 0), (4606056518893174750, 4607182418800017408, 0), (4606056518893174798, 4607182418800017408, 0), (4606056518893174774, 4607182418800017408, 0), (4606056518893174786, 4607182418800017408, 0)], [(4602678819172646974, 4607182418800017408, 0), (4602678819172646844, 4607182418800017408, 0), (4602678819172646926, 4607182418800017408, 0), (4602678819172646892, 4607182418800017408, 0), (4602678819172646914, 4607182418800017408, 0)], [(4593671619917906168, 4607182418800017408, 0), (4593671619917905648, 4607182418800017408, 0), (4593671619917905976, 4607182418800017408, 0), (4593671619917905840, 4607182418800017408, 0), (4593671619917905928, 4607182418800017408, 0)], [(0, 4607182418800017408, 4598175219545276544), (0, 4607182418800017408, 4598175219545276288), (0, 4607182418800017408, 4598175219545276448), (0, 4607182418800017408, 4598175219545276384), (0, 4607182418800017408, 4598175219545276424), (0, 4607182418800017408, 4598175219545276418)], [(0, 4607182418800017408, 4603804719079489600), (0, 4607182418800017408, 4603804719079489504), (0, 4607182418800017408, 4603804719079489552), (0, 4607182418800017408, 4603804719079489528), (0, 4607182418800017408, 4603804719079489540), (0, 4607182418800017408, 4603804719079489537)], [(0, 4607182418800017406, 4607182418800017408), (0, 4607182418800017406, 4607182418800017376), (0, 4607182418800017406, 4607182418800017400)], [(0, 4603804719079489534, 4607182418800017408)], [(0, 4598175219545276408, 4607182418800017408)], [(4593671619917905408, 0, 4607182418800017408), (4593671619917906048, 0, 4607182418800017408), (4593671619917905792, 0, 4607182418800017408), (4593671619917905952, 0, 4607182418800017408), (4593671619917905888, 0, 4607182418800017408), (4593671619917905912, 0, 4607182418800017408)], [(4602678819172646784, 0, 4607182418800017408), (4602678819172646944, 0, 4607182418800017408), (4602678819172646880, 0, 4607182418800017408), (4602678819172646920, 0, 4607182418800017408), (4602678819172646904, 0, 4607182418800017408), (4602678819172646910, 0, 4607182418800017408)], [(4606056518893174720, 0, 4607182418800017408), (4606056518893174816, 0, 4607182418800017408), (4606056518893174768, 0, 4607182418800017408), (4606056518893174792, 0, 4607182418800017408), (4606056518893174780, 0, 4607182418800017408), (4606056518893174783, 0, 4607182418800017408)], [(4607182418800017408, 0, 4604930618986332094), (4607182418800017408, 0, 4604930618986332190), (4607182418800017408, 0, 4604930618986332142), (4607182418800017408, 0, 4604930618986332166), (4607182418800017408, 0, 4604930618986332154)], [(4607182418800017408, 0, 4600427019358961532), (4607182418800017408, 0, 4600427019358961724), (4607182418800017408, 0, 4600427019358961628), (4607182418800017408, 0, 4600427019358961676), (4607182418800017408, 0, 4600427019358961652)]]
def chkH (j : Nat) : Bool := (List.range 44).all fun (i : Nat) => (hues.getD j []).contains (triF ((j : Int) + 16 * (i : Int) - 352))
def chkC (m1 m2 : Dbl) (cs : List (List (Dbl × Dbl × Dbl))) (j : Nat) : Bool := (hues.getD j []).all fun q => (cs.getD j []).contains (wF m1 m2 q.1, wF m1 m2 q.2.1, wF m1 m2 q.2.2)
def good (A B : Int) (cd : Nat) (j : Nat) (r g b : Dbl) : Bool :=
  (Float64.isFinite (Float64.add (Float64.mul r 4629700416936869888) 4602678819172646912) && Float64.isFinite (Float64.add (Float64.mul g 4629700416936869888) 4602678819172646912) && Float64.isFinite (Float64.add (Float64.mul b 4629700416936869888) 4602678819172646912)) &&
  (decide (0 ≤ pI r) && decide (pI r ≤ 32) && decide (0 ≤ pI g) && decide (pI g ≤ 32) && decide (0 ≤ pI b) && decide (pI b ≤ 32)) &&
  (!(Float64.cmp (minF r g b) (maxF r g b) == some Ordering.eq) && !Float64.isZero (Float64.sub (maxF r g b) (minF r g b)) && !Float64.isZero (Float64.add (maxF r g b) (minF r g b)) && !Float64.isZero (Float64.sub (Float64.sub 4611686018427387904 (maxF r g b)) (minF r g b))) &&
  (Float64.isFinite (Float64.add (Float64.mul (hF r g b) 4625196817309499392) 4602678819172646912) && Float64.isFinite (Float64.add (Float64.mul (lF r g b) 4620693217682128896) 4602678819172646912) && Float64.isFinite (Float64.add (Float64.mul (sF r g b) 4618441417868443648) 4602678819172646912)) &&
  (decide ((qI (hF r g b) 4625196817309499392).fmod 16 = (j : Int)) && decide (qI (lF r g b) 4620693217682128896 = A) && decide (qI (sF r g b) 4618441417868443648 = B) && decide ((256 + (((0 * 33 + pI r) * 33 + pI g) * 33 + pI b)).toNat = cd))
def chkG (k A B : Int) (cs : List (List (Dbl × Dbl × Dbl))) (j : Nat) : Bool := (cs.getD j []).all fun q => good A B ((codes k).getD j 0) j q.1 q.2.1 q.2.2
theorem hues_ok_a : chkH 0 = true := by decide +kernel
theorem hues_ok_b : chkH 1 = true := by decide +kernel
theorem hues_ok_c : chkH 2 = true := by decide +kernel
theorem hues_ok_d : chkH 3 = true := by decide +kernel
theorem hues_ok_e : chkH 4 = true := by decide +kernel
theorem hues_ok_f : chkH 5 = true := by decide +kernel
theorem hues_ok_g : chkH 6 = true := by decide +kernel
theorem hues_ok_h : chkH 7 = true := by decide +kernel
theorem hues_ok_i : chkH 8 = true := by decide +kernel
theorem hues_ok_j : chkH 9 = true := by decide +kernel
theorem hues_ok_k : chkH 10 = true := by decide +kernel
theorem hues_ok_l : chkH 11 = true := by decide +kernel
theorem hues_ok_m : chkH 12 = true := by decide +kernel
theorem hues_ok_n : chkH 13 = true := by decide +kernel
theorem hues_ok_o : chkH 14 = true := by decide +kernel
theorem hues_ok_p : chkH 15 = true := by decide +kernel
theorem hues_ok_all : ∀ j, j < 16 → chkH j = true
  | 0, _ => hues_ok_a
  | 1, _ => hues_ok_b
  | 2, _ => hues_ok_c
  | 3, _ => hues_ok_d
  | 4, _ => hues_ok_e
  | 5, _ => hues_ok_f
  | 6, _ => hues_ok_g
  | 7, _ => hues_ok_h
  | 8, _ => hues_ok_i
  | 9, _ => hues_ok_j
  | 10, _ => hues_ok_k
  | 11, _ => hues_ok_l
  | 12, _ => hues_ok_m
  | 13, _ => hues_ok_n
  | 14, _ => hues_ok_o
  | 15, _ => hues_ok_p
  | j + 16, h => absurd h (by omega)
theorem cols0_ok_a : chkC 4598175219545276416 4602678819172646912 cols0 0 = true := by decide +kernel
theorem cols0_ok_b : chkC 4598175219545276416 4602678819172646912 cols0 1 = true := by decide +kernel
theorem cols0_ok_c : chkC 4598175219545276416 4602678819172646912 cols0 2 = true := by decide +kernel
theorem cols0_ok_d : chkC 4598175219545276416 4602678819172646912 cols0 3 = true := by decide +kernel
theorem cols0_ok_e : chkC 4598175219545276416 4602678819172646912 cols0 4 = true := by decide +kernel
theorem cols0_ok_f : chkC 4598175219545276416 4602678819172646912 cols0 5 = true := by decide +kernel
theorem cols0_ok_g : chkC 4598175219545276416 4602678819172646912 cols0 6 = true := by decide +kernel
theorem cols0_ok_h : chkC 4598175219545276416 4602678819172646912 cols0 7 = true := by decide +kernel
theorem cols0_ok_i : chkC 4598175219545276416 4602678819172646912 cols0 8 = true := by decide +kernel
theorem cols0_ok_j : chkC 4598175219545276416 4602678819172646912 cols0 9 = true := by decide +kernel
theorem cols0_ok_k : chkC 4598175219545276416 4602678819172646912 cols0 10 = true := by decide +kernel
theorem cols0_ok_l : chkC 4598175219545276416 4602678819172646912 cols0 11 = true := by decide +kernel
theorem cols0_ok_m : chkC 4598175219545276416 4602678819172646912 cols0 12 = true := by decide +kernel
theorem cols0_ok_n : chkC 4598175219545276416 4602678819172646912 cols0 13 = true := by decide +kernel
theorem cols0_ok_o : chkC 4598175219545276416 4602678819172646912 cols0 14 = true := by decide +kernel
theorem cols0_ok_p : chkC 4598175219545276416 4602678819172646912 cols0 15 = true := by decide +kernel
theorem cols0_ok_all : ∀ j, j < 16 → chkC 4598175219545276416 4602678819172646912 cols0 j = true
  | 0, _ => cols0_ok_a
  | 1, _ => cols0_ok_b
  | 2, _ => cols0_ok_c
  | 3, _ => cols0_ok_d
  | 4, _ => cols0_ok_e
  | 5, _ => cols0_ok_f
  | 6, _ => cols0_ok_g
  | 7, _ => cols0_ok_h
  | 8, _ => cols0_ok_i
  | 9, _ => cols0_ok_j
  | 10, _ => cols0_ok_k
  | 11, _ => cols0_ok_l
  | 12, _ => cols0_ok_m
  | 13, _ => cols0_ok_n
  | 14, _ => cols0_ok_o
  | 15, _ => cols0_ok_p
  | j + 16, h => absurd h (by omega)
theorem good0_ok_a : chkG 0 3 2 cols0 0 = true := by decide +kernel
theorem good0_ok_b : chkG 0 3 2 cols0 1 = true := by decide +kernel
theorem good0_ok_c : chkG 0 3 2 cols0 2 = true := by decide +kernel
theorem good0_ok_d : chkG 0 3 2 cols0 3 = true := by decide +kernel
theorem good0_ok_e : chkG 0 3 2 cols0 4 = true := by decide +kernel
theorem good0_ok_f : chkG 0 3 2 cols0 5 = true := by decide +kernel
theorem good0_ok_g : chkG 0 3 2 cols0 6 = true := by decide +kernel
theorem good0_ok_h : chkG 0 3 2 cols0 7 = true := by decide +kernel
theorem good0_ok_i : chkG 0 3 2 cols0 8 = true := by decide +kernel
theorem good0_ok_j : chkG 0 3 2 cols0 9 = true := by decide +kernel
theorem good0_ok_k : chkG 0 3 2 cols0 10 = true := by decide +kernel
theorem good0_ok_l : chkG 0 3 2 cols0 11 = true := by decide +kernel
theorem good0_ok_m : chkG 0 3 2 cols0 12 = true := by decide +kernel
theorem good0_ok_n : chkG 0 3 2 cols0 13 = true := by decide +kernel
theorem good0_ok_o : chkG 0 3 2 cols0 14 = true := by decide +kernel
theorem good0_ok_p : chkG 0 3 2 cols0 15 = true := by decide +kernel
theorem good0_ok_all : ∀ j, j < 16 → chkG 0 3 2 cols0 j = true
  | 0, _ => good0_ok_a
  | 1, _ => good0_ok_b
  | 2, _ => good0_ok_c
  | 3, _ => good0_ok_d
  | 4, _ => good0_ok_e
  | 5, _ => good0_ok_f
  | 6, _ => good0_ok_g
  | 7, _ => good0_ok_h
  | 8, _ => good0_ok_i
  | 9, _ => good0_ok_j
  | 10, _ => good0_ok_k
  | 11, _ => good0_ok_l
  | 12, _ => good0_ok_m
  | 13, _ => good0_ok_n
  | 14, _ => good0_ok_o
  | 15, _ => good0_ok_p
  | j + 16, h => absurd h (by omega)
theorem cols1_ok_a : chkC 0 4602678819172646912 cols1 0 = true := by decide +kernel
theorem cols1_ok_b : chkC 0 4602678819172646912 cols1 1 = true := by decide +kernel
theorem cols1_ok_c : chkC 0 4602678819172646912 cols1 2 = true := by decide +kernel
theorem cols1_ok_d : chkC 0 4602678819172646912 cols1 3 = true := by decide +kernel
theorem cols1_ok_e : chkC 0 4602678819172646912 cols1 4 = true := by decide +kernel
theorem cols1_ok_f : chkC 0 4602678819172646912 cols1 5 = true := by decide +kernel
theorem cols1_ok_g : chkC 0 4602678819172646912 cols1 6 = true := by decide +kernel
theorem cols1_ok_h : chkC 0 4602678819172646912 cols1 7 = true := by decide +kernel
theorem cols1_ok_i : chkC 0 4602678819172646912 cols1 8 = true := by decide +kernel
theorem cols1_ok_j : chkC 0 4602678819172646912 cols1 9 = true := by decide +kernel
theorem cols1_ok_k : chkC 0 4602678819172646912 cols1 10 = true := by decide +kernel
theorem cols1_ok_l : chkC 0 4602678819172646912 cols1 11 = true := by decide +kernel
theorem cols1_ok_m : chkC 0 4602678819172646912 cols1 12 = true := by decide +kernel
theorem cols1_ok_n : chkC 0 4602678819172646912 cols1 13 = true := by decide +kernel
theorem cols1_ok_o : chkC 0 4602678819172646912 cols1 14 = true := by decide +kernel
theorem cols1_ok_p : chkC 0 4602678819172646912 cols1 15 = true := by decide +kernel
theorem cols1_ok_all : ∀ j, j < 16 → chkC 0 4602678819172646912 cols1 j = true
  | 0, _ => cols1_ok_a
  | 1, _ => cols1_ok_b
  | 2, _ => cols1_ok_c
  | 3, _ => cols1_ok_d
  | 4, _ => cols1_ok_e
  | 5, _ => cols1_ok_f
  | 6, _ => cols1_ok_g
  | 7, _ => cols1_ok_h
  | 8, _ => cols1_ok_i
  | 9, _ => cols1_ok_j
  | 10, _ => cols1_ok_k
  | 11, _ => cols1_ok_l
  | 12, _ => cols1_ok_m
  | 13, _ => cols1_ok_n
  | 14, _ => cols1_ok_o
  | 15, _ => cols1_ok_p
  | j + 16, h => absurd h (by omega)
theorem good1_ok_a : chkG 1 2 6 cols1 0 = true := by decide +kernel
theorem good1_ok_b : chkG 1 2 6 cols1 1 = true := by decide +kernel
theorem good1_ok_c : chkG 1 2 6 cols1 2 = true := by decide +kernel
theorem good1_ok_d : chkG 1 2 6 cols1 3 = true := by decide +kernel
theorem good1_ok_e : chkG 1 2 6 cols1 4 = true := by decide +kernel
theorem good1_ok_f : chkG 1 2 6 cols1 5 = true := by decide +kernel
theorem good1_ok_g : chkG 1 2 6 cols1 6 = true := by decide +kernel
theorem good1_ok_h : chkG 1 2 6 cols1 7 = true := by decide +kernel
theorem good1_ok_i : chkG 1 2 6 cols1 8 = true := by decide +kernel
theorem good1_ok_j : chkG 1 2 6 cols1 9 = true := by decide +kernel
theorem good1_ok_k : chkG 1 2 6 cols1 10 = true := by decide +kernel
theorem good1_ok_l : chkG 1 2 6 cols1 11 = true := by decide +kernel
theorem good1_ok_m : chkG 1 2 6 cols1 12 = true := by decide +kernel
theorem good1_ok_n : chkG 1 2 6 cols1 13 = true := by decide +kernel
theorem good1_ok_o : chkG 1 2 6 cols1 14 = true := by decide +kernel
theorem good1_ok_p : chkG 1 2 6 cols1 15 = true := by decide +kernel
theorem good1_ok_all : ∀ j, j < 16 → chkG 1 2 6 cols1 j = true
  | 0, _ => good1_ok_a
  | 1, _ => good1_ok_b
  | 2, _ => good1_ok_c
  | 3, _ => good1_ok_d
  | 4, _ => good1_ok_e
  | 5, _ => good1_ok_f
  | 6, _ => good1_ok_g
  | 7, _ => good1_ok_h
  | 8, _ => good1_ok_i
  | 9, _ => good1_ok_j
  | 10, _ => good1_ok_k
  | 11, _ => good1_ok_l
  | 12, _ => good1_ok_m
  | 13, _ => good1_ok_n
  | 14, _ => good1_ok_o
  | 15, _ => good1_ok_p
  | j + 16, h => absurd h (by omega)
theorem cols2_ok_a : chkC 4602678819172646912 4607182418800017408 cols2 0 = true := by decide +kernel
theorem cols2_ok_b : chkC 4602678819172646912 4607182418800017408 cols2 1 = true := by decide +kernel
theorem cols2_ok_c : chkC 4602678819172646912 4607182418800017408 cols2 2 = true := by decide +kernel
theorem cols2_ok_d : chkC 4602678819172646912 4607182418800017408 cols2 3 = true := by decide +kernel
theorem cols2_ok_e : chkC 4602678819172646912 4607182418800017408 cols2 4 = true := by decide +kernel
theorem cols2_ok_f : chkC 4602678819172646912 4607182418800017408 cols2 5 = true := by decide +kernel
theorem cols2_ok_g : chkC 4602678819172646912 4607182418800017408 cols2 6 = true := by decide +kernel
theorem cols2_ok_h : chkC 4602678819172646912 4607182418800017408 cols2 7 = true := by decide +kernel
theorem cols2_ok_i : chkC 4602678819172646912 4607182418800017408 cols2 8 = true := by decide +kernel
theorem cols2_ok_j : chkC 4602678819172646912 4607182418800017408 cols2 9 = true := by decide +kernel
theorem cols2_ok_k : chkC 4602678819172646912 4607182418800017408 cols2 10 = true := by decide +kernel
theorem cols2_ok_l : chkC 4602678819172646912 4607182418800017408 cols2 11 = true := by decide +kernel
theorem cols2_ok_m : chkC 4602678819172646912 4607182418800017408 cols2 12 = true := by decide +kernel
theorem cols2_ok_n : chkC 4602678819172646912 4607182418800017408 cols2 13 = true := by decide +kernel
theorem cols2_ok_o : chkC 4602678819172646912 4607182418800017408 cols2 14 = true := by decide +kernel
theorem cols2_ok_p : chkC 4602678819172646912 4607182418800017408 cols2 15 = true := by decide +kernel
theorem cols2_ok_all : ∀ j, j < 16 → chkC 4602678819172646912 4607182418800017408 cols2 j = true
  | 0, _ => cols2_ok_a
  | 1, _ => cols2_ok_b
  | 2, _ => cols2_ok_c
  | 3, _ => cols2_ok_d
  | 4, _ => cols2_ok_e
  | 5, _ => cols2_ok_f
  | 6, _ => cols2_ok_g
  | 7, _ => cols2_ok_h
  | 8, _ => cols2_ok_i
  | 9, _ => cols2_ok_j
  | 10, _ => cols2_ok_k
  | 11, _ => cols2_ok_l
  | 12, _ => cols2_ok_m
  | 13, _ => cols2_ok_n
  | 14, _ => cols2_ok_o
  | 15, _ => cols2_ok_p
  | j + 16, h => absurd h (by omega)
theorem good2_ok_a : chkG 2 6 6 cols2 0 = true := by decide +kernel
theorem good2_ok_b : chkG 2 6 6 cols2 1 = true := by decide +kernel
theorem good2_ok_c : chkG 2 6 6 cols2 2 = true := by decide +kernel
theorem good2_ok_d : chkG 2 6 6 cols2 3 = true := by decide +kernel
theorem good2_ok_e : chkG 2 6 6 cols2 4 = true := by decide +kernel
theorem good2_ok_f : chkG 2 6 6 cols2 5 = true := by decide +kernel
theorem good2_ok_g : chkG 2 6 6 cols2 6 = true := by decide +kernel
theorem good2_ok_h : chkG 2 6 6 cols2 7 = true := by decide +kernel
theorem good2_ok_i : chkG 2 6 6 cols2 8 = true := by decide +kernel
theorem good2_ok_j : chkG 2 6 6 cols2 9 = true := by decide +kernel
theorem good2_ok_k : chkG 2 6 6 cols2 10 = true := by decide +kernel
theorem good2_ok_l : chkG 2 6 6 cols2 11 = true := by decide +kernel
theorem good2_ok_m : chkG 2 6 6 cols2 12 = true := by decide +kernel
theorem good2_ok_n : chkG 2 6 6 cols2 13 = true := by decide +kernel
theorem good2_ok_o : chkG 2 6 6 cols2 14 = true := by decide +kernel
theorem good2_ok_p : chkG 2 6 6 cols2 15 = true := by decide +kernel
theorem good2_ok_all : ∀ j, j < 16 → chkG 2 6 6 cols2 j = true
  | 0, _ => good2_ok_a
  | 1, _ => good2_ok_b
  | 2, _ => good2_ok_c
  | 3, _ => good2_ok_d
  | 4, _ => good2_ok_e
  | 5, _ => good2_ok_f
  | 6, _ => good2_ok_g
  | 7, _ => good2_ok_h
  | 8, _ => good2_ok_i
  | 9, _ => good2_ok_j
  | 10, _ => good2_ok_k
  | 11, _ => good2_ok_l
  | 12, _ => good2_ok_m
  | 13, _ => good2_ok_n
  | 14, _ => good2_ok_o
  | 15, _ => good2_ok_p
  | j + 16, h => absurd h (by omega)
theorem cols3_ok_a : chkC 0 4607182418800017408 cols3 0 = true := by decide +kernel
theorem cols3_ok_b : chkC 0 4607182418800017408 cols3 1 = true := by decide +kernel
theorem cols3_ok_c : chkC 0 4607182418800017408 cols3 2 = true := by decide +kernel
theorem cols3_ok_d : chkC 0 4607182418800017408 cols3 3 = true := by decide +kernel
theorem cols3_ok_e : chkC 0 4607182418800017408 cols3 4 = true := by decide +kernel
theorem cols3_ok_f : chkC 0 4607182418800017408 cols3 5 = true := by decide +kernel
theorem cols3_ok_g : chkC 0 4607182418800017408 cols3 6 = true := by decide +kernel
theorem cols3_ok_h : chkC 0 4607182418800017408 cols3 7 = true := by decide +kernel
theorem cols3_ok_i : chkC 0 4607182418800017408 cols3 8 = true := by decide +kernel
theorem cols3_ok_j : chkC 0 4607182418800017408 cols3 9 = true := by decide +kernel
theorem cols3_ok_k : chkC 0 4607182418800017408 cols3 10 = true := by decide +kernel
theorem cols3_ok_l : chkC 0 4607182418800017408 cols3 11 = true := by decide +kernel
theorem cols3_ok_m : chkC 0 4607182418800017408 cols3 12 = true := by decide +kernel
theorem cols3_ok_n : chkC 0 4607182418800017408 cols3 13 = true := by decide +kernel
theorem cols3_ok_o : chkC 0 4607182418800017408 cols3 14 = true := by decide +kernel
theorem cols3_ok_p : chkC 0 4607182418800017408 cols3 15 = true := by decide +kernel
theorem cols3_ok_all : ∀ j, j < 16 → chkC 0 4607182418800017408 cols3 j = true
  | 0, _ => cols3_ok_a
  | 1, _ => cols3_ok_b
  | 2, _ => cols3_ok_c
  | 3, _ => cols3_ok_d
  | 4, _ => cols3_ok_e
  | 5, _ => cols3_ok_f
  | 6, _ => cols3_ok_g
  | 7, _ => cols3_ok_h
  | 8, _ => cols3_ok_i
  | 9, _ => cols3_ok_j
  | 10, _ => cols3_ok_k
  | 11, _ => cols3_ok_l
  | 12, _ => cols3_ok_m
  | 13, _ => cols3_ok_n
  | 14, _ => cols3_ok_o
  | 15, _ => cols3_ok_p
  | j + 16, h => absurd h (by omega)
theorem good3_ok_a : chkG 3 4 6 cols3 0 = true := by decide +kernel
theorem good3_ok_b : chkG 3 4 6 cols3 1 = true := by decide +kernel
theorem good3_ok_c : chkG 3 4 6 cols3 2 = true := by decide +kernel
theorem good3_ok_d : chkG 3 4 6 cols3 3 = true := by decide +kernel
theorem good3_ok_e : chkG 3 4 6 cols3 4 = true := by decide +kernel
theorem good3_ok_f : chkG 3 4 6 cols3 5 = true := by decide +kernel
theorem good3_ok_g : chkG 3 4 6 cols3 6 = true := by decide +kernel
theorem good3_ok_h : chkG 3 4 6 cols3 7 = true := by decide +kernel
theorem good3_ok_i : chkG 3 4 6 cols3 8 = true := by decide +kernel
theorem good3_ok_j : chkG 3 4 6 cols3 9 = true := by decide +kernel
theorem good3_ok_k : chkG 3 4 6 cols3 10 = true := by decide +kernel
theorem good3_ok_l : chkG 3 4 6 cols3 11 = true := by decide +kernel
theorem good3_ok_m : chkG 3 4 6 cols3 12 = true := by decide +kernel
theorem good3_ok_n : chkG 3 4 6 cols3 13 = true := by decide +kernel
theorem good3_ok_o : chkG 3 4 6 cols3 14 = true := by decide +kernel
theorem good3_ok_p : chkG 3 4 6 cols3 15 = true := by decide +kernel
theorem good3_ok_all : ∀ j, j < 16 → chkG 3 4 6 cols3 j = true
  | 0, _ => good3_ok_a
  | 1, _ => good3_ok_b
  | 2, _ => good3_ok_c
  | 3, _ => good3_ok_d
  | 4, _ => good3_ok_e
  | 5, _ => good3_ok_f
  | 6, _ => good3_ok_g
  | 7, _ => good3_ok_h
  | 8, _ => good3_ok_i
  | 9, _ => good3_ok_j
  | 10, _ => good3_ok_k
  | 11, _ => good3_ok_l
  | 12, _ => good3_ok_m
  | 13, _ => good3_ok_n
  | 14, _ => good3_ok_o
  | 15, _ => good3_ok_p
  | j + 16, h => absurd h (by omega)
theorem hue_mem {x : Int} (h1 : -352 ≤ x) (h2 : x ≤ 351) : triF x ∈ hues.getD (x.fmod 16).toNat [] := by
  have a := Int.emod_nonneg x (show (16 : Int) ≠ 0 by decide)
  have b := Int.emod_lt_of_pos x (show (0 : Int) < 16 by decide)
  have e : x.fmod 16 = x % 16 := fm x
  have h := hues_ok_all (x.fmod 16).toNat (by omega)
  unfold chkH at h
  have h' := List.all_eq_true.mp h ((x + 352) / 16).toNat (List.mem_range.mpr (by omega))
  have e2 : (((x.fmod 16).toNat : Nat) : Int) + 16 * ((((x + 352) / 16).toNat : Nat) : Int) - 352 = x := by omega
  rw [e2] at h'
  exact List.contains_iff_mem.mp h'
theorem facts_of {k : Int} {l s : Dbl} {A B x : Int} {m1 m2 : Dbl} {cs : List (List (Dbl × Dbl × Dbl))} (e1 : m1F l s = m1) (e2 : m2F l s = m2) (hC : ∀ j, j < 16 → chkC m1 m2 cs j = true) (hG : ∀ j, j < 16 → chkG k A B cs j = true)
    (h1 : -352 ≤ x) (h2 : x ≤ 351) : ColFacts k l s x A B := by
  subst e1
  subst e2
  have a := Int.emod_nonneg x (show (16 : Int) ≠ 0 by decide)
  have b := Int.emod_lt_of_pos x (show (0 : Int) < 16 by decide)
  have e : x.fmod 16 = x % 16 := fm x
  have hj : (x.fmod 16).toNat < 16 := by omega
  have c1 := List.contains_iff_mem.mp (List.all_eq_true.mp (hC _ hj) _ (hue_mem h1 h2))
  have c2 : good A B ((codes k).getD (x.fmod 16).toNat 0) (x.fmod 16).toNat (rC l s x) (gC l s x) (bC l s x) = true := List.all_eq_true.mp (hG _ hj) _ c1
  unfold good at c2
  simp only [Bool.and_eq_true, decide_eq_true_eq, Bool.not_eq_true', Bool.not_eq_eq_eq_not, Bool.not_true] at c2
  obtain ⟨⟨⟨⟨⟨⟨f1, f2⟩, f3⟩, ⟨⟨⟨⟨p1, p2⟩, p3⟩, p4⟩, p5⟩, p6⟩, ⟨⟨n1, n2⟩, n3⟩, n4⟩, ⟨g1, g2⟩, g3⟩, ⟨⟨q1, q2⟩, q3⟩, q4⟩ := c2
  refine ⟨⟨f1, f2, f3, p1, p2, p3, p4, p5, p6⟩, ⟨⟨n1, ?_, ?_, ?_⟩, g1, g2, g3⟩, ?_, q2, q3, ?_⟩
  · rw [n2]; decide
  · rw [n3]; decide
  · rw [n4]; decide
  · rw [q1]; omega
  · unfold sgn code
    rw [q4]
theorem ring0_a : m1F 4600427019358961664 (Float64.div 4607182418800017408 4613937818241073152) = 4598175219545276416 := by decide +kernel
theorem ring0_b : m2F 4600427019358961664 (Float64.div 4607182418800017408 4613937818241073152) = 4602678819172646912 := by decide +kernel
theorem ring1_a : m1F 4598175219545276416 4607182418800017408 = 0 := by decide +kernel
theorem ring1_b : m2F 4598175219545276416 4607182418800017408 = 4602678819172646912 := by decide +kernel
theorem ring2_a : m1F 4604930618986332160 4607182418800017408 = 4602678819172646912 := by decide +kernel
theorem ring2_b : m2F 4604930618986332160 4607182418800017408 = 4607182418800017408 := by decide +kernel
theorem ring3_a : m1F 4602678819172646912 4607182418800017408 = 0 := by decide +kernel
theorem ring3_b : m2F 4602678819172646912 4607182418800017408 = 4607182418800017408 := by decide +kernel
theorem col_facts {k : Int} {l s : Dbl} {x A B : Int} (hR : Ring k l s) (hA : RingAB k A B) (h1 : -352 ≤ x) (h2 : x ≤ 351) : ColFacts k l s x A B := by
  unfold RingAB at hA
  rcases hR with ⟨rfl, rfl, rfl⟩ | ⟨rfl, rfl, rfl⟩ | ⟨rfl, rfl, rfl⟩ | ⟨rfl, rfl, rfl⟩
  · obtain ⟨rfl, rfl⟩ : A = 3 ∧ B = 2 := by omega
    exact facts_of ring0_a ring0_b cols0_ok_all good0_ok_all h1 h2
  · obtain ⟨rfl, rfl⟩ : A = 2 ∧ B = 6 := by omega
    exact facts_of ring1_a ring1_b cols1_ok_all good1_ok_all h1 h2
  · obtain ⟨rfl, rfl⟩ : A = 6 ∧ B = 6 := by omega
    exact facts_of ring2_a ring2_b cols2_ok_all good2_ok_all h1 h2
  · obtain ⟨rfl, rfl⟩ : A = 4 ∧ B = 6 := by omega
    exact facts_of ring3_a ring3_b cols3_ok_all good3_ok_all h1 h2
end Mine
end
section
open PySem PySem.W PyProof.Rows PySem.Spec PySem.Calls
namespace Mine
local macro_rules | `(tactic| cell_enter) => `(tactic| first
  | (refine' code_keepC ?k1 ?k2 ?k3 ?k5 ?kA ?kF ?kK ?k6 ?k7 ?k8 ?k9 ?kB ?kD ?_ ?c2 ?c3 ?c4; (case kA => exact rfl); (case kF => exact rfl); (case kK => assumption); (case k1 => k_asm); (case k2 => k_asm); (case k3 => k_asm); (case k5 => k_asm); (case k6 => k_is); (case k7 => k_is); (case k8 => ktr_room); (case k9 => exact BindsTo.of_eq rfl); (case kB => exact rfl); (case kD => decide +kernel); (case c2 => exact rfl); (case c3 => exact rfl); (case c4 => exact rfl); k_whole; intro L' h' tk' cells' F' N' Y' B' X' T'; k_cells Y'; (try simp only [List.cons_append, List.nil_append] at N'); (try dsimp only); (try k_lift B'); (try k_fold)))
abbrev tup2 (x y : Dbl) (t1 t2 : Tok) : Obj := { cls := .type "tuple", data := .seq #[.float x t1, .float y t2] }
abbrev lst2o (x y : Int) (t1 t2 : Tok) : Obj := W.listOf #[.int x t1, .int y t2] 0
theorem pick_ring {prog : Program} {w : World} {A : Around} {E : Value → Shared → Prop} {st : Shared} {h₀ : Heap} {L : Addr} {news : List (Addr × Obj)} {value slice : Expr} {l a0 a1 a2 a3 : Addr} {k : Int} {u : Tok} {n : Nat} {t0 u0 t1 u1 t2 u2 t3 u3 : Tok} {Q : Value → Shared → Prop}
    (N : News h₀ L st.heap news) (ml : (l, W.listOf #[.ref a0, .ref a1, .ref a2, .ref a3] n) ∈ news)
    (m0 : (a0, tup2 4600427019358961664 (Float64.div 4607182418800017408 4613937818241073152) t0 u0) ∈ news) (m1 : (a1, tup2 4598175219545276416 4607182418800017408 t1 u1) ∈ news)
    (m2 : (a2, tup2 4604930618986332160 4607182418800017408 t2 u2) ∈ news) (m3 : (a3, tup2 4602678819172646912 4607182418800017408 t3 u3) ∈ news) (h0 : 0 ≤ k) (h3 : k ≤ 3)
    (h : ∀ a l s t u, IsTup st.heap a #[.float l t, .float s u] → Ring k l s → Q (.ref a) st)
    (hs : subscripted slice false (.ref l) (.int k u) = operate [.ref l, .int k u] (getItem (.ref l) (.int k u)) := by with_unfolding_all rfl) :
    wpAny (model prog w) A (subscriptTail value slice (.ref l) (.int k u)) Q E st := by
  refine pick4 (News.isList N ml) h0 h3 (fun a p => ?_) hs
  obtain ⟨o, ho, l, s, t, u, rfl, hR⟩ := pick_obj (G := fun k o => ∃ l s t u, o = tup2 l s t u ∧ Ring k l s) p (N _ m0).1 (N _ m1).1 (N _ m2).1 (N _ m3).1
    ⟨_, _, _, _, rfl, .inl ⟨rfl, rfl, rfl⟩⟩ ⟨_, _, _, _, rfl, .inr (.inl ⟨rfl, rfl, rfl⟩)⟩ ⟨_, _, _, _, rfl, .inr (.inr (.inl ⟨rfl, rfl, rfl⟩))⟩ ⟨_, _, _, _, rfl, .inr (.inr (.inr ⟨rfl, rfl, rfl⟩))⟩
  exact h a l s t u ⟨_, ho, rfl, 0, rfl⟩ hR
local macro_rules | `(tactic| walk_at "subscriptTail List") => `(tactic| (k_here; (with_reducible show wpAny _ _ (subscriptTail _ _ (Value.ref _) (Value.int _ _)) _ _ _); k_dflt (refine' pick_ring ?kN ?kl ?k0 ?k1 ?k2 ?k3 ?ka ?kb ?_; (case kN => k_asm); (case kl => k_mem); (case k0 => k_mem); (case k1 => k_mem); (case k2 => k_mem); (case k3 => k_mem); (case ka => assumption); (case kb => assumption); k_whole; intro a9 l9 s9 t9 u9 hT9 hR9)))
local macro_rules | `(tactic| walk_at "exec Assign cons ListComp") => `(tactic| (k_here; k_dflt (refine LCg.Assign_ListComp_U (F₀ := by k_asm) (by rfl) (by with_unfolding_all rfl) (by with_unfolding_all rfl) (by decide) (by rfl) (by decide) (by rfl) (by rfl) (by rfl) ?_); refine halt_post ?_))
theorem ring_share {k : Int} {l s : Dbl} (h : Ring k l s) : (Float64.cmp s 0 == some Ordering.eq) = false := by
  rcases h with ⟨_, _, rfl⟩ | ⟨_, _, rfl⟩ | ⟨_, _, rfl⟩ | ⟨_, _, rfl⟩ <;> decide +kernel
theorem not_over {x : Int} (h1 : -1000 ≤ x) (h2 : x ≤ 1000) : ¬ Flt.Over x := by
  intro h
  have h' : (2 : Nat) ^ 1024 - 2 ^ 970 ≤ x.natAbs := h
  have : (1001 : Nat) ≤ 2 ^ 1024 - 2 ^ 970 := by decide +kernel
  omega
theorem range_size {n : Int} (h : 1 ≤ n) : Builtin.Range.rangeSize 0 (n + 1) 1 = (((n + 1).toNat : Nat) : Int) := by
  rw [rangeSize_one]; split <;> omega
theorem step_bound {st sp : Int} {i : Nat} (h1 : -32 ≤ st) (h2 : st ≤ 31) (h3 : -16 ≤ sp) (h4 : sp ≤ 16) (hi : i ≤ 20) : -352 ≤ st + sp * i ∧ st + sp * i ≤ 351 := by
  have a : sp * i ≤ 16 * 20 := by
    have : sp * i ≤ 16 * i := Int.mul_le_mul_of_nonneg_right h4 (by omega)
    omega
  have b : -(16 * 20) ≤ sp * i := by
    have : (-16) * (i : Int) ≤ sp * i := Int.mul_le_mul_of_nonneg_right h3 (by omega)
    omega
  omega
theorem news_tail5 {h₀ h : Heap} {L : Addr} {a b c d e : Addr × Obj} {r : List (Addr × Obj)} (N : News h₀ L h (a :: b :: c :: d :: e :: r)) : News h₀ L h r := fun q hq => N q (.tail _ (.tail _ (.tail _ (.tail _ (.tail _ hq)))))
def ColIs (l s : Dbl) (st sp : Int) (i : Nat) (o : Obj) : Prop := ∃ t1 t2 t3, o = tup3 (rC l s (st + sp * i)) (gC l s (st + sp * i)) (bC l s (st + sp * i)) t1 t2 t3
theorem ring_ab {k : Int} {l s : Dbl} (h : Ring k l s) : ∃ A B, RingAB k A B := by
  rcases h with ⟨h, _⟩ | ⟨h, _⟩ | ⟨h, _⟩ | ⟨h, _⟩
  · exact ⟨_, _, .inl ⟨h, rfl, rfl⟩⟩
  · exact ⟨_, _, .inr (.inl ⟨h, rfl, rfl⟩)⟩
  · exact ⟨_, _, .inr (.inr (.inl ⟨h, rfl, rfl⟩))⟩
  · exact ⟨_, _, .inr (.inr (.inr ⟨h, rfl, rfl⟩))⟩
theorem ringAB_one {k A B A' B' : Int} (h : RingAB k A B) (h' : RingAB k A' B') : A' = A ∧ B' = B := by
  unfold RingAB at h h'
  omega
theorem lst_item {prog : Program} {w : World} {A : Around} {E : Value → Shared → Prop} {s : Shared} {h₀ : Heap} {L : Addr} {news : List (Addr × Obj)} {value slice : Expr} {D : Addr} {ys : List Value} {k : Int} {u : Tok} {v : Value} {Q : Value → Shared → Prop}
    (N : News h₀ L s.heap news) (hm : (D, LCg.lst ys) ∈ news) (hx : ys[k.toNat]? = some v) (h0 : 0 ≤ k) (h1 : k < 2 ^ 63) (h : Q v s)
    (hs : subscripted slice false (.ref D) (.int k u) = operate [.ref D, .int k u] (getItem (.ref D) (.int k u)) := by with_unfolding_all rfl) :
    wpAny (model prog w) A (subscriptTail value slice (.ref D) (.int k u)) Q E s :=
  have hl := News.isList N hm
  tail_any hl.typeIs slot_list_getitem.lookup (wpAny_getItem_list hl h0 h1 (by simpa using hx) h) hs
theorem pick_ab {prog : Program} {w : World} {A : Around} {E : Value → Shared → Prop} {st : Shared} {h₀ : Heap} {L : Addr} {news : List (Addr × Obj)} {value slice : Expr} {l a0 a1 a2 a3 : Addr} {k : Int} {u : Tok} {n : Nat} {t0 u0 t1 u1 t2 u2 t3 u3 : Tok} {x y : Int} {Q : Value → Shared → Prop}
    (N : News h₀ L st.heap news) (ml : (l, W.listOf #[.ref a0, .ref a1, .ref a2, .ref a3] n) ∈ news)
    (m0 : (a0, lst2o 3 2 t0 u0) ∈ news) (m1 : (a1, lst2o 2 6 t1 u1) ∈ news) (m2 : (a2, lst2o 6 6 t2 u2) ∈ news) (m3 : (a3, lst2o 4 6 t3 u3) ∈ news) (h0 : 0 ≤ k) (h3 : k ≤ 3) (hAB : RingAB k x y)
    (h : ∀ a t u, st.heap.IsList a #[.int x t, .int y u] → Q (.ref a) st)
    (hs : subscripted slice false (.ref l) (.int k u) = operate [.ref l, .int k u] (getItem (.ref l) (.int k u)) := by with_unfolding_all rfl) :
    wpAny (model prog w) A (subscriptTail value slice (.ref l) (.int k u)) Q E st := by
  refine pick4 (News.isList N ml) h0 h3 (fun a p => ?_) hs
  obtain ⟨o, ho, x', y', t, u, rfl, hR⟩ := pick_obj (G := fun k o => ∃ x y t u, o = lst2o x y t u ∧ RingAB k x y) p (N _ m0).1 (N _ m1).1 (N _ m2).1 (N _ m3).1
    ⟨_, _, _, _, rfl, .inl ⟨rfl, rfl, rfl⟩⟩ ⟨_, _, _, _, rfl, .inr (.inl ⟨rfl, rfl, rfl⟩)⟩ ⟨_, _, _, _, rfl, .inr (.inr (.inl ⟨rfl, rfl, rfl⟩))⟩ ⟨_, _, _, _, rfl, .inr (.inr (.inr ⟨rfl, rfl, rfl⟩))⟩
  obtain ⟨rfl, rfl⟩ := ringAB_one hAB hR
  exact h a t u ⟨_, ho, rfl, 0, rfl⟩
theorem add3 {prog : Program} {w : World} {A : Around} {E : Value → Shared → Prop} {s : Shared} {h₀ : Heap} {L a b : Addr} {m : Str → Option Value} {news : List (Addr × Obj)} {x y z : Int} {t1 t2 t3 : Tok} {n : Nat} {Q : Value → Shared → Prop}
    (F : Fr h₀ L s.heap m) (N : News h₀ L s.heap news) (ha : (a, W.listOf #[.int x t1] n) ∈ news) (hb : s.heap.IsList b #[.int y t2, .int z t3])
    (h : ∀ D h', Fr h₀ L h' m → News h₀ L h' ((D, lst3 x y z t1 t2 t3) :: news) → Q (.ref D) { s with heap := h' }) : wpAny (model prog w) A (binaryOp .Add (.ref a) (.ref b)) Q E s :=
  kmk_add_lit F N (News.isList N ha) hb rfl (fun D h' F' N' _ => h D h' F' N') (by rw [sizeLine_eq]; show 1 + 2 ≤ _; omega)
theorem ne_lst3 {prog : Program} {w : World} {A : Around} {E : Value → Shared → Prop} {s : Shared} {h₀ : Heap} {L a b : Addr} {news : List (Addr × Obj)} {x y z : Int} {t1 t2 t3 u1 u2 u3 : Tok} {Q : Value → Shared → Prop}
    (N : News h₀ L s.heap news) (ha : (a, lst3 x y z t1 t2 t3) ∈ news) (hb : (b, lst3 x y z u1 u2 u3) ∈ news) (hu : A.units + 64 < cLine) (h : Q (.bool false) s) : wpAny (model prog w) A (compareOp .NotEq (.ref a) (.ref b)) Q E s := by
  refine ne_intsK (vs := [.int x t1, .int y t2, .int z t3]) (us := [.int x u1, .int y u2, .int z u3]) (ns := [x, y, z]) (ms := [x, y, z]) (News.isList N ha) ?_ (News.isList N hb) ?_ hu ?_
  · exact .cons x t1 (.cons y t2 (.cons z t3 .nil))
  · exact .cons x u1 (.cons y u2 (.cons z u3 .nil))
  · simpa using h
theorem news_drop7 {h₀ h : Heap} {L : Addr} {a b c d e f g : Addr × Obj} {r : List (Addr × Obj)} (N : News h₀ L h (a :: b :: c :: d :: e :: f :: g :: r)) : News h₀ L h r := fun q hq => N q (.tail _ (.tail _ (.tail _ (.tail _ (.tail _ (.tail _ (.tail _ hq)))))))
theorem turn_next {h₀ : Heap} {L : Addr} {x : Str} {m₀ : Str → Option Value} {led : List (Addr × Obj)} {s₁ : Shared} {Q : Flow → Shared → Prop} {h' : Heap} {tk : Nat} {b : Option Value} {v : Value} (F : Fr h₀ L h' (fun z => if z = x then some v else omap x b m₀ z)) (N : News h₀ L h' led) :
    TurnPost h₀ L x m₀ led s₁ Q .next { s₁ with heap := h', toks := tk } := by
  rw [omap_turn] at F
  exact ⟨h', tk, _, rfl, F, N⟩
local macro_rules | `(tactic| walk_at "exec For Name Call cons nil") => `(tactic| (k_here; (rename Fr _ _ _ _ => lF'); (with_unfolding_all refine' For_turns lF' ?_; k_whole)))
local macro_rules | `(tactic| walk_at "pyIter ref") => `(tactic| (k_here; (with_reducible show wpAny _ _ (pyIter (Value.ref _)) (fun it s₂ => TurnsAt _ _ _ _ _ _ _ _ _ it s₂) _ _); refine Halt.out ?_))
local macro_rules | `(tactic| walk_at "subscriptTail Name Name ref int") => `(tactic| (k_here; k_dflt (refine' lst_item ?kN ?km ?kx ?k0 ?k1 ?_; (case kN => k_asm); (case km => (repeat (first | exact List.mem_cons_self .. | refine List.mem_cons_of_mem _ ?_))); (case kx => with_reducible assumption); (case k0 => omega); (case k1 => omega); k_whole)))
local macro_rules | `(tactic| walk_at "subscriptTail List") => `(tactic| (k_here; (with_reducible show wpAny _ _ (subscriptTail _ _ (Value.ref _) (Value.int _ _)) _ _ _); k_dflt (refine' pick_ab ?kN ?kl ?k0 ?k1 ?k2 ?k3 ?ka ?kb ?kc ?_; (case kN => k_asm); (case kl => k_mem); (case k0 => k_mem); (case k1 => k_mem); (case k2 => k_mem); (case k3 => k_mem); (case ka => assumption); (case kb => assumption); (case kc => assumption); k_whole; intro a9 t9 u9 hL9)))
local macro_rules | `(tactic| walk_at "binaryOp Add ref ref") => `(tactic| (k_here; k_dflt (refine' add3 ?kF ?kN ?ka ?kb ?_; (case kF => k_asm); (case kN => k_asm); (case kb => assumption); (case ka => k_mem); k_whole; intro D9 h9 F9 N9; (try k_sweep))))
local macro_rules | `(tactic| walk_at "compareOp NotEq ref ref") => `(tactic| (k_here; k_dflt (refine' ne_lst3 ?kN ?ka ?kb ?ku ?_; (case kN => k_asm); (case kb => exact List.mem_cons_self ..); (case ka => (repeat (first | with_reducible assumption | refine List.mem_cons_of_mem _ ?_))); (case ku => ktr_units); k_whole)))
local macro_rules | `(tactic| walk_at "eval ListComp") => `(tactic| (k_here; k_dflt (refine LCg.ListComp_U (F₀ := by k_asm) (by with_unfolding_all rfl) (by decide) (by rfl) (by decide) (by rfl) ?_); refine halt_post ?_))
local macro_rules | `(tactic| walk_at "call ref") => `(tactic| (k_here; (with_reducible show wpAny _ _ (call (Value.ref 49) [Value.ref _]) _ _ _); k_dflt (refine' sign_tells ?kB ?kF ?kX ?kN ?kT ?kk ?kd ?ku ?km ?kp ?_; (case kB => k_asm); (case kF => k_asm); (case kX => k_asm); (case kN => k_asm); (case kT => k_asm); (case kk => first | exact rfl | assumption); (case kd => ktr_room); (case ku => ktr_units); (case km => (repeat (first | with_reducible assumption | refine List.mem_cons_of_mem _ ?_))); (case kp => assumption); k_whole; intro t9 h9 tk9 F9 N9; (try dsimp only); (try k_fold); (try k_sweep))))
local macro_rules | `(tactic| walk_at "call builtin:str.join") => `(tactic| (k_here; k_dflt (refine' join_codes ?kN ?km ?kl ?kn ?_; (case kN => k_asm); (case km => exact List.mem_cons_self ..); (case kl => assumption); (case kn => assumption); k_whole; intro t9 k9)))
theorem fm16_lo (x : Int) : 0 ≤ x.fmod 16 := Int.fmod_nonneg_of_pos x (by decide)
theorem fm16_hi (x : Int) : x.fmod 16 ≤ 15 := by have := Int.fmod_lt_of_pos x (show (0 : Int) < 16 by decide); omega
theorem count_30 {x : Str} {c : Nat} (h : x.length ≤ 30) : ((x.cps.toList.count c : Nat) : Int) ≤ 30 := by
  have h1 : x.cps.toList.count c ≤ x.cps.toList.length := List.count_le_length ..
  rw [Array.length_toList] at h1
  have h2 : x.cps.size ≤ 30 := h
  omega
theorem code_ge {k : Int} (h0 : 0 ≤ k) (h3 : k ≤ 3) (x : Int) : 256 ≤ code k x := by
  have h1 := Int.fmod_nonneg_of_pos x (show (0 : Int) < 16 by decide)
  have h2 := Int.fmod_lt_of_pos x (show (0 : Int) < 16 by decide)
  unfold code
  have hj' : (x.fmod 16).toNat < 16 := by omega
  generalize (x.fmod 16).toNat = j at hj'
  clear h1 h2
  have hk : k = 0 ∨ k = 1 ∨ k = 2 ∨ k = 3 := by omega
  rcases hk with rfl | rfl | rfl | rfl
  · revert j; decide
  · revert j; decide
  · revert j; decide
  · revert j; decide
theorem lst3_item0 {prog : Program} {w : World} {A : Around} {E : Value → Shared → Prop} {s : Shared} {h₀ : Heap} {L : Addr} {news : List (Addr × Obj)} {value slice : Expr} {a : Addr} {x y z : Int} {t1 t2 t3 u : Tok} {Q : Value → Shared → Prop}
    (N : News h₀ L s.heap news) (hm : (a, lst3 x y z t1 t2 t3) ∈ news) (h : Q (.int x t1) s)
    (hs : subscripted slice false (.ref a) (.int 0 u) = operate [.ref a, .int 0 u] (getItem (.ref a) (.int 0 u)) := by with_unfolding_all rfl) :
    wpAny (model prog w) A (subscriptTail value slice (.ref a) (.int 0 u)) Q E s :=
  have hl := News.isList N hm
  tail_any hl.typeIs slot_list_getitem.lookup (wpAny_getItem_list hl (by decide) (by decide) rfl h) hs
theorem meets_use {w : World} {p : Program} {loose : List Str} {mean : ExcName → Option Value} {mg mb : Str → Option Value} {way : Str} {t1 t2 : Tok} {c : Nat}
    {dp un : Nat} {gd : Option (List Code)} {cn : Str} {cs : Scope} {a : Addr} {ccd : Value} {cl : List (Str × Addr)} {outer : List Env} {A₀ : Around} {base h₀ : Heap} {L : Addr} {m : Str → Option Value} {news : List (Addr × Obj)} {s : Shared} {Q E : Value → Shared → Prop}
    (B : Below A₀ base outer h₀) (F : Fr h₀ L s.heap m) (X : (hd.heap_39 w.params).In h₀) (N : News h₀ L s.heap news) (T : Top p loose mean mg mb h₀) (hk : cs.kind = .function) (hdp : dp + 4 < recursionLimit) (hun : un + 32 < cLine)
    (hg : way.length ≤ 30) (hc : 256 ≤ c)
    (hret : ∀ (t : Tok) (h' : Heap) (tk' : Nat), Fr h₀ L h' m → News h₀ L h' news → Q (.int (way.cps.toList.count c : Nat) t) { s with heap := h', toks := tk' }) :
    wpAny (model PySem.Challenge.rw_mq0171_01.row.prog w) (ktrTop dp un gd cn cs L a ccd cl outer) (call (.ref 63) [.str ⟨#[c]⟩ t1, .str way t2]) Q E s :=
  meets_tells B F X T hk hdp hun hg hc fun t h' tk' hkp => hret t h' tk' (F.grownK hkp) (N.grown hkp)
theorem gone_use {w : World} {p : Program} {loose : List Str} {mean : ExcName → Option Value} {mg mb : Str → Option Value} {fi se fn me : Int} {t1 t2 t3 t4 : Tok}
    {dp un : Nat} {gd : Option (List Code)} {cn : Str} {cs : Scope} {a : Addr} {ccd : Value} {cl : List (Str × Addr)} {outer : List Env} {A₀ : Around} {base h₀ : Heap} {L : Addr} {m : Str → Option Value} {news : List (Addr × Obj)} {s : Shared} {Q E : Value → Shared → Prop}
    (B : Below A₀ base outer h₀) (F : Fr h₀ L s.heap m) (X : (hd.heap_39 w.params).In h₀) (N : News h₀ L s.heap news) (T : Top p loose mean mg mb h₀) (hk : cs.kind = .function) (hdp : dp + 2 < recursionLimit) (hun : un + 16 < cLine)
    (hf0 : 0 ≤ fi) (hf1 : fi ≤ 15) (hs0 : 0 ≤ se) (hs1 : se ≤ 15) (hn0 : 0 ≤ fn) (hn1 : fn ≤ 15) (hm0 : 0 ≤ me) (hm1 : me ≤ 30)
    (hret : ∀ (t : Tok) (h' : Heap) (tk' : Nat) (M1 M2 : Int), Least M1 (lst1 fi ((se - fi).fmod 16) fn) → Least M2 (lst2 ((se - fi).fmod 16)) → Fr h₀ L h' m → News h₀ L h' news → Q (.int (M1 + (me - 1) * M2) t) { s with heap := h', toks := tk' }) :
    wpAny (model PySem.Challenge.rw_mq0171_01.row.prog w) (ktrTop dp un gd cn cs L a ccd cl outer) (call (.ref 68) [.int fi t1, .int se t2, .int fn t3, .int me t4]) Q E s :=
  gone_tells B F X T hk hdp hun hf0 hf1 hs0 hs1 hn0 hn1 hm0 hm1 fun t h' tk' M1 M2 h1 h2 hkp => hret t h' tk' M1 M2 h1 h2 (F.grownK hkp) (N.grown hkp)
local macro_rules | `(tactic| walk_at "subscriptTail Name Constant ref int") => `(tactic| (k_here; k_dflt (refine' lst_item ?kN ?km ?kx ?k0 ?k1 ?_; (case kN => k_asm); (case km => (repeat (first | exact List.mem_cons_self .. | refine List.mem_cons_of_mem _ ?_))); (case kx => with_reducible assumption); (case k0 => decide); (case k1 => decide); k_whole)))
local macro_rules | `(tactic| walk_at "subscriptTail Subscript") => `(tactic| (k_here; (with_reducible show wpAny _ _ (subscriptTail _ _ (Value.ref _) (Value.int _ _)) _ _ _); k_dflt (refine' lst3_item0 ?kN ?km ?_; (case kN => k_asm); (case km => (repeat (first | with_reducible assumption | refine List.mem_cons_of_mem _ ?_))); k_whole)))
local macro_rules | `(tactic| walk_at "subscriptTail Name Name str int") => `(tactic| (k_here; k_dflt (refine' way_item ?kx ?k0 ?kl ?_; (case kx => assumption); (case k0 => omega); (case kl => assumption); k_whole; intro t9 k9)))
local macro_rules | `(tactic| walk_at "call ref") => `(tactic| (k_here; (with_reducible show wpAny _ _ (call (Value.ref 63) [Value.str _ _, Value.str _ _]) _ _ _); k_dflt (refine' meets_use ?kB ?kF ?kX ?kN ?kT ?kk ?kd ?ku ?k1 ?k2 ?_; (case kB => k_asm); (case kF => k_asm); (case kX => k_asm); (case kN => k_asm); (case kT => k_asm); (case kk => first | exact rfl | assumption); (case kd => ktr_room); (case ku => ktr_units); (case k1 => assumption); (case k2 => assumption); k_whole; intro t9 h9 tk9 F9 N9; (try dsimp only); (try k_fold); (try k_sweep))))
local macro_rules | `(tactic| walk_at "call ref") => `(tactic| (k_here; (with_reducible show wpAny _ _ (call (Value.ref 68) [Value.int _ _, Value.int _ _, Value.int _ _, Value.int _ _]) _ _ _); k_dflt (refine' gone_use ?kB ?kF ?kX ?kN ?kT ?kk ?kd ?ku ?k1 ?k2 ?k3 ?k4 ?k5 ?k6 ?k7 ?k8 ?_; (case kB => k_asm); (case kF => k_asm); (case kX => k_asm); (case kN => k_asm); (case kT => k_asm); (case kk => first | exact rfl | assumption); (case kd => ktr_room); (case ku => ktr_units); (case k1 => exact fm16_lo _); (case k2 => exact fm16_hi _); (case k3 => exact fm16_lo _); (case k4 => exact fm16_hi _); (case k5 => exact fm16_lo _); (case k6 => exact fm16_hi _); (case k7 => omega); (case k8 => exact count_30 (by assumption)); k_whole; intro t9 h9 tk9 M9 K9 hM9 hK9 F9 N9; (try dsimp only); (try k_fold); (try k_sweep))))
def ToldIs (st sp A B : Int) (i : Nat) (o : Obj) : Prop := ∃ t1 t2 t3, o = lst3 ((st + sp * i).fmod 16) A B t1 t2 t3
local macro_rules | `(tactic| walk_at "call ref") => `(tactic| (k_here; (with_reducible show wpAny _ _ (call (Value.ref 56) [Value.ref _]) _ _ _); k_dflt (refine' read_tells ?kB ?kF ?kX ?kN ?kT ?kk ?kd ?ku ?km ?kp ?_; (case kB => k_asm); (case kF => k_asm); (case kX => k_asm); (case kN => k_asm); (case kT => k_asm); (case kk => first | exact rfl | assumption); (case kd => ktr_room); (case ku => ktr_units); (case km => (repeat (first | with_reducible assumption | refine List.mem_cons_of_mem _ ?_))); (case kp => assumption); k_whole; intro T9 t91 t92 t93 h9 tk9 F9 N9 l9; (try dsimp only); (try k_fold); (try k_sweep))))
local macro_rules | `(tactic| walk_at "call ref") => `(tactic| (k_here; (with_reducible show wpAny _ _ (call (Value.ref 35) [Value.float _ _, Value.float _ _, Value.float _ _]) _ _ _); k_dflt (refine' hls_tells ?kB ?kF ?kX ?kN ?kT ?kk ?kd ?ku ?ks ?_; (case kB => k_asm); (case kF => k_asm); (case kX => k_asm); (case kN => k_asm); (case kT => k_asm); (case kk => first | exact rfl | assumption); (case kd => ktr_room); (case ku => ktr_units); (case ks => assumption); k_whole; intro T9 t91 t92 t93 h9 tk9 F9 N9 l9; (try dsimp only); (try k_fold); (try k_sweep))))
set_option maxRecDepth 100000 in
set_option maxHeartbeats 16000000 in
theorem journey_tells {w : World} {p : Program} {loose : List Str} {mean : ExcName → Option Value} {mg mb : Str → Option Value} {num : Int} {t1 : Tok}
    {dp un : Nat} {gd : Option (List Code)} {cn : Str} {cs : Scope} {a : Addr} {ccd : Value} {cl : List (Str × Addr)} {outer : List Env} {A₀ : Around} {base h₀ : Heap} {L : Addr} {m : Str → Option Value} {s : Shared} {Q E : Value → Shared → Prop}
    (B : Below A₀ base outer h₀) (F : Fr h₀ L s.heap m) (X : (hd.heap_39 w.params).In h₀) (T : Top p loose mean mg mb h₀) (hk : cs.kind = .function) (hdp : dp + 8 < recursionLimit) (hun : un + 128 < cLine)
    (hret : ∀ (h' : Heap) (tk' : Nat), (∀ b o, s.heap.get? b = some o → h'.get? b = some o) → Q (.bool true) { s with heap := h', toks := tk' }) :
    wpAny (model PySem.Challenge.rw_mq0171_01.row.prog w) (ktrTop dp un gd cn cs L a ccd cl outer) (call (.ref 73) [.int num t1]) Q E s := by
  w_top off
  revert X; k_fill; intro X
  have hf0 : 0 ≤ num.fmod 4 := Int.fmod_nonneg_of_pos _ (by decide)
  have hf3 : num.fmod 4 ≤ 3 := by have := Int.fmod_lt_of_pos num (show (0 : Int) < 4 by decide); omega
  refine wpAny_call ?_
  k_dflt cell_enter
  clear F B X T
  k_steps
  refine Halt.of ?_
  rename_i a9 l9 s9 t9 u9 hT9 hR9 hxx hx0 oL dL hx1 oS dS hx2 oSt dSt hx3 oSp dSp hx4 Fo No hx5 tkx ta tb tc hRg F2 N2 kp2
  clear Fo No kp2 hT9
  have hq1 : -32 ≤ (num.fdiv 4).fmod 64 - 32 ∧ (num.fdiv 4).fmod 64 - 32 ≤ 31 := by
    have a := Int.fmod_nonneg_of_pos (num.fdiv 4) (show (0 : Int) < 64 by decide)
    have b := Int.fmod_lt_of_pos (num.fdiv 4) (show (0 : Int) < 64 by decide)
    omega
  have hq2 : -16 ≤ (num.fdiv 256 + 3).fmod 33 - 16 ∧ (num.fdiv 256 + 3).fmod 33 - 16 ≤ 16 := by
    have a := Int.fmod_nonneg_of_pos (num.fdiv 256 + 3) (show (0 : Int) < 33 by decide)
    have b := Int.fmod_lt_of_pos (num.fdiv 256 + 3) (show (0 : Int) < 33 by decide)
    omega
  have hq3 : 1 ≤ 1 + (num.fdiv 8448 + 16).fmod 20 ∧ 1 + (num.fdiv 8448 + 16).fmod 20 ≤ 20 := by
    have a := Int.fmod_nonneg_of_pos (num.fdiv 8448 + 16) (show (0 : Int) < 20 by decide)
    have b := Int.fmod_lt_of_pos (num.fdiv 8448 + 16) (show (0 : Int) < 20 by decide)
    omega
  obtain ⟨tSt, dSt⟩ : ∃ t, oSt.data = .cell (some (.int ((num.fdiv 4).fmod 64 - 32) t)) := ⟨_, dSt⟩
  obtain ⟨tSp, dSp⟩ : ∃ t, oSp.data = .cell (some (.int ((num.fdiv 256 + 3).fmod 33 - 16) t)) := ⟨_, dSp⟩
  dsimp only at F2 hRg
  generalize (num.fdiv 4).fmod 64 - 32 = st at dSt hq1
  generalize (num.fdiv 256 + 3).fmod 33 - 16 = sp at dSp hq2
  generalize 1 + (num.fdiv 8448 + 16).fmod 20 = n at F2 hRg hq3 ⊢
  have hsh := ring_share hR9
  obtain ⟨A, B, hAB⟩ := ring_ab hR9
  have N3 := news_tail5 N2
  clear N2
  refine LCg.CompSrc.range rfl F2 N3 hRg (small_one (by omega) (by omega) (by omega) (by omega)) (range_size hq3.1) (by rw [sizeLine_eq]; omega) ?_
  intro g
  refine comp_new (ColIs l9 s9 st sp) (fun _ _ => trivial) ?_ ?_
  · intro i v own ys I oI C oC D m₂ h tk E' hi hv hC hx F9 N9
    obtain ⟨tv, rfl⟩ := hv
    simp only [List.cons_append, List.nil_append] at N9
    have hb := step_bound hq1.1 hq1.2 hq2.1 hq2.2 (i := i) (by omega)
    have hOv := not_over (x := st + sp * (0 + (i : Int))) (by rw [Int.zero_add]; omega) (by rw [Int.zero_add]; omega)
    k_steps
    exact NewOne.intro (by k_asm) (by k_asm) (by assumption) ⟨_, _, _, by rw [Int.zero_add]⟩
  · intro ys own hlen hMade
    simp only [List.cons_append, List.nil_append]
    intro D1 h1 tk1 F9 N9 off1
    clear F2 N3 hRg
    k_steps
    refine Halt.of ?_
    refine LCg.CompSrc.ledger (its := ys.toArray) (k := ys.length) rfl F9 N9 (List.mem_cons_self ..) (by rw [List.size_toArray, hlen, sizeLine_eq]; omega) ?_
    intro g
    refine comp_new (ToldIs st sp A B) (fun nw hnw => .inr ⟨_, hnw _ (List.mem_cons_self ..), rfl, _, rfl⟩) ?_ ?_
    · intro i v own2 ys2 I oI C oC D m₂ h tk E' hi hv hC hx F8 N8
      clear F9 N9
      rw [List.size_toArray] at hi
      obtain ⟨ai, oi, hyi, hmi, tt1, tt2, tt3, rfl⟩ := hMade i hi
      rw [List.getElem?_toArray, hyi] at hv
      obtain rfl := (Option.some.inj hv).symm
      simp only [List.cons_append, List.nil_append] at N8
      have hmi2 := List.mem_append_left own2 hmi
      have hb := step_bound hq1.1 hq1.2 hq2.1 hq2.2 (i := i) (by omega)
      have hcf := col_facts hR9 hAB hb.1 hb.2
      have hrd := hcf.reads
      k_steps
      exact NewOne.intro (by k_asm) (by k_asm) (by assumption) ⟨_, _, _, by rw [hcf.hue, hcf.light, hcf.share]⟩
    · intro ys2 own2 hlen2 hMade2
      simp only [List.cons_append, List.nil_append]
      intro D2 h2 tk2 F8 N8 off2
      clear F9 N9
      k_steps
      refine Halt.of ?_
      rename_i hx6 tkx2 ta2 tb2 tc2 hRg2 F7 N7 kp3
      clear kp3
      refine range_loop (Str.ofString "gone") rfl F7 N7 hRg2 (small_one (by omega) (by omega) (by omega) (by omega)) (range_size hq3.1) (fun _ _ _ _ _ q => by unfold letOwnedTupleGo; exact wpAny_pure q) ?_ ?_
      · intro i ti bi h tk own3 hi F6 N6
        clear F7 N7 hRg2
        simp only [List.cons_append, List.nil_append] at N6
        obtain ⟨ai, oi, hyi, hmi, tt1, tt2, tt3, rfl⟩ := hMade2 i (by rw [List.size_toArray] at hlen2; omega)
        have hmi2 := List.mem_append_left own3 (List.mem_append_right own hmi)
        have hyi2 : ys2[((i : Nat) : Int).toNat]? = some (.ref ai) := hyi
        have hb := step_bound hq1.1 hq1.2 hq2.1 hq2.2 (i := i) (by omega)
        k_steps
        exact turn_next (by assumption) (news_drop7 (by assumption))
      · intro bi h tk F6 N6
        clear F7 N7 hRg2
        k_steps
        refine Halt.of ?_
        refine LCg.CompSrc.ledger (its := ys.toArray) (k := ys.length) rfl F6 N6 (List.mem_cons_of_mem _ (List.mem_cons_self ..)) (by rw [List.size_toArray, hlen, sizeLine_eq]; omega) ?_
        intro g
        refine comp_strs (fun i => ⟨#[code (num.fmod 4) (st + sp * i)]⟩) (.inr ⟨_, List.mem_cons_of_mem _ (List.mem_cons_self ..), rfl, _, rfl⟩) ?_ ?_
        · intro i v ys3 I oI C oC D m₂ h tk E' hi hv hC hx F8 N8
          clear F6 N6
          rw [List.size_toArray] at hi
          obtain ⟨ai, oi, hyi, hmi, tt1, tt2, tt3, rfl⟩ := hMade i hi
          rw [List.getElem?_toArray, hyi] at hv
          obtain rfl := (Option.some.inj hv).symm
          have hmi2 := List.mem_append_left own2 hmi
          have hb := step_bound hq1.1 hq1.2 hq2.1 hq2.2 (i := i) (by omega)
          have hcf := col_facts hR9 hAB hb.1 hb.2
          have hpt := hcf.parts
          k_steps
          rw [← hcf.sign]
          exact NewStr.intro (by k_asm) (by k_asm)
        · intro lw hlw
          intro D3 h3 tk3 F8 N8 off3
          clear F6 N6
          rw [List.size_toArray] at hlw
          have hn30 : ys.length ≤ 30 := by omega
          rw [List.size_toArray] at hlen2
          obtain ⟨a0, o0, hy0, hm0, e01, e02, e03, rfl⟩ := hMade2 0 (by omega)
          obtain ⟨a1, o1, hy1, hm1, e11, e12, e13, rfl⟩ := hMade2 1 (by omega)
          obtain ⟨an, on, hyn, hmn, en1, en2, en3, rfl⟩ := hMade2 n.toNat (by omega)
          have hy0' : ys2[Int.toNat 0]? = some (.ref a0) := hy0
          have hy1' : ys2[Int.toNat 1]? = some (.ref a1) := hy1
          have hm0' := List.mem_append_right own hm0
          have hm1' := List.mem_append_right own hm1
          have hmn' := List.mem_append_right own hmn
          have hw0 : ((List.range ys.length).map fun (i : Nat) => code (num.fmod 4) (st + sp * i))[n.toNat]? = some (code (num.fmod 4) (st + sp * (n.toNat : Nat))) := range_at _ (by omega)
          have hw : (Str.mk (((List.range ys.length).map fun (i : Nat) => code (num.fmod 4) (st + sp * i)).toArray)).cps.toList[n.toNat]? = some (code (num.fmod 4) (st + sp * (n.toNat : Nat))) := hw0
          have hwl : (Str.mk (((List.range ys.length).map fun (i : Nat) => code (num.fmod 4) (st + sp * i)).toArray)).length ≤ 30 := by
            show Array.size _ ≤ 30
            rw [List.size_toArray, List.length_map, List.length_range]; exact hn30
          have hcode : 256 ≤ code (num.fmod 4) (st + sp * (n.toNat : Nat)) := code_ge hf0 hf3 _
          k_steps
          refine leaveK_ (by k_asm) (by k_asm) fun _ _ kp => ?_
          have hlaw := gone_law (k := num.fmod 4) (st := st) (sp := sp) (n := n) (N := ys.length) hf0 hf3 hq3.1 hq3.2 hlen (by assumption) (by assumption)
          show Q (.bool _) _
          rw [beq_iff_eq.mpr hlaw]
          exact hret _ _ kp
end Mine
end
section
open PySem PySem.W PyProof.Rows PySem.Spec PySem.Calls
namespace Mine
theorem unrPost_mono2 {h₀ : Heap} {L : Addr} {s₁ : Shared} {its : List (Addr × Obj)} {R R' : (Str → Option Value) → List (Addr × Obj) → Prop} {Q : Flow → Shared → Prop} {f : Flow} {s₂ : Shared}
    (hR : ∀ m n, R m n → R' m n) (h : UnrPostW h₀ L s₁ its R Q f s₂) : UnrPostW h₀ L s₁ its R' Q f s₂ := unrPost_mono hR h
/-- a loop over a list of ints whose turns change nothing but the loop's own name -/
theorem items_ints {prog : Program} {w : World} {A : Around} {E : Value → Shared → Prop} {s : Shared} {env : Env} {h₀ : Heap} {target : Expr} {body : List Stmt} {Q : Flow → Shared → Prop}
    {I : Addr} {keep news : List (Addr × Obj)} {m₀ : Str → Option Value} {x : Str} (hkeep : SubL keep news)
    (step : ∀ (i : Int) (t : Tok) (b : Option Value) (h : Heap) (tk : Nat) (o : Obj), Fr h₀ env.locals h (omap x b m₀) → News h₀ env.locals h ((I, o) :: news) →
      wpAny (model prog w) A (assign target env (.int i t)) (fun _ s₂ => wpAny (model prog w) A (execs body env) (UnrPostW h₀ env.locals { s with heap := h, toks := tk } [(I, o)] (fun m' n' => n' = news ∧ ∃ b', m' = omap x b' m₀) Q) E s₂) E { s with heap := h, toks := tk })
    (done : ∀ (b : Option Value) (h : Heap) (tk : Nat), Fr h₀ env.locals h (omap x b m₀) → News h₀ env.locals h news → Q .next { s with heap := h, toks := tk })
    {vs : List Value} {ns : List Int} (hi : IntsAre vs ns) : ∀ (b : Option Value), ItemsRest prog w A E h₀ env target body Q s [(I, "list_iterator")] keep (vs.map .val) (omap x b m₀) news := by
  induction hi with
  | nil => intro b; exact ItemsRest.zero fun h tk F N => done b h tk F N
  | cons i t _ ih =>
    intro b
    refine ItemsRest.val fun h tk F => AllObj.cons fun o hc => AllObj.nil fun N => ?_
    refine wpAny_mono (step i t b h tk o F N) (fun _ s₂ h₂ => wpAny_mono h₂ (fun f s₃ h₃ => unrPost_mono (fun m' n' q => ?_) h₃) fun _ _ e => e) fun _ _ e => e
    obtain ⟨rfl, b', rfl⟩ := q
    exact ⟨hkeep, ih b'⟩
theorem ints_loop {prog : Program} {w : World} {A : Around} {E : Value → Shared → Prop} {s : Shared} {env : Env} {h₀ : Heap} {target : Expr} {body : List Stmt} {Q : Flow → Shared → Prop}
    {ax : Addr} {vs : List Value} {ns : List Int} {k : Nat} {m₀ : Str → Option Value} {news : List (Addr × Obj)} (x : Str)
    (hh : A.handled = none) (F : Fr h₀ env.locals s.heap m₀) (N : News h₀ env.locals s.heap news) (hm : (ax, W.listOf vs.toArray k) ∈ news) (hi : IntsAre vs ns)
    (step : ∀ (I : Addr) (i : Int) (t : Tok) (b : Option Value) (h : Heap) (tk : Nat) (o : Obj), (∀ p ∈ news, p.1 < I) → Fr h₀ env.locals h (omap x b m₀) → News h₀ env.locals h ((I, o) :: news) →
      wpAny (model prog w) A (assign target env (.int i t)) (fun _ s₂ => wpAny (model prog w) A (execs body env) (UnrPostW h₀ env.locals { s with heap := h, toks := tk } [(I, o)] (fun m' n' => n' = news ∧ ∃ b', m' = omap x b' m₀) Q) E s₂) E { s with heap := h, toks := tk })
    (done : ∀ (b : Option Value) (h : Heap) (tk : Nat), Fr h₀ env.locals h (omap x b m₀) → News h₀ env.locals h news → Q .next { s with heap := h, toks := tk }) :
    wpAny (model prog w) A (pyIter (.ref ax)) (fun it s₂ => TurnsAt prog w A h₀ env target body Q E it s₂) E s := by
  refine iter_listTurns hh F N hm rfl rfl fun I hI => ?_
  have := items_ints (prog := prog) (w := w) (A := A) (E := E) (s := s) (env := env) (target := target) (body := body) (Q := Q) (m₀ := m₀) (x := x) (keep := [(ax, W.listOf vs.toArray k)]) (I := I) ⟨hm, trivial⟩ (fun i t b h tk o => step I i t b h tk o hI) done hi (m₀ x)
  rw [omap_self] at this
  exact this
theorem ints_end {h₀ : Heap} {L I : Addr} {o : Obj} {s₁ : Shared} {x : Str} {h' : Heap} {tk : Nat} {m₀ : Str → Option Value} {news : List (Addr × Obj)} {v : Value} {b : Option Value}
    (F : Fr h₀ L h' (fun z => if z = x then some v else omap x b m₀ z)) (N : News h₀ L h' ((I, o) :: news)) (l1 : ∀ p ∈ news, p.1 < I) :
    UnrEndW h₀ L s₁ [(I, o)] (fun m' n' => n' = news ∧ ∃ b', m' = omap x b' m₀) { s₁ with heap := h', toks := tk } := by
  rw [omap_turn] at F
  exact ⟨h', tk, _, news, rfl, F, N, fun p hp q hq => by
    rw [List.mem_singleton.mp hq]
    exact Nat.ne_of_lt (l1 p hp), rfl, _, rfl⟩
theorem journey_use {w : World} {p : Program} {loose : List Str} {mean : ExcName → Option Value} {mg mb : Str → Option Value} {num : Int} {t1 : Tok}
    {dp un : Nat} {gd : Option (List Code)} {cn : Str} {cs : Scope} {a : Addr} {ccd : Value} {cl : List (Str × Addr)} {outer : List Env} {A₀ : Around} {base h₀ : Heap} {L : Addr} {m : Str → Option Value} {news : List (Addr × Obj)} {s : Shared} {Q E : Value → Shared → Prop}
    (B : Below A₀ base outer h₀) (F : Fr h₀ L s.heap m) (X : (hd.heap_39 w.params).In h₀) (N : News h₀ L s.heap news) (T : Top p loose mean mg mb h₀) (hk : cs.kind = .function) (hdp : dp + 8 < recursionLimit) (hun : un + 128 < cLine)
    (hret : ∀ (h' : Heap) (tk' : Nat), Fr h₀ L h' m → News h₀ L h' news → Q (.bool true) { s with heap := h', toks := tk' }) :
    wpAny (model PySem.Challenge.rw_mq0171_01.row.prog w) (ktrTop dp un gd cn cs L a ccd cl outer) (call (.ref 73) [.int num t1]) Q E s :=
  journey_tells B F X T hk hdp hun fun h' tk' hkp => hret h' tk' (F.grownK hkp) (N.grown hkp)
theorem truthy_list {prog : Program} {w : World} {A : Around} {E : Value → Shared → Prop} {s : Shared} {h₀ : Heap} {L : Addr} {news : List (Addr × Obj)} {D : Addr} {vs : List Value} {ns : List Int} {k : Nat} {Q : Bool → Shared → Prop}
    (N : News h₀ L s.heap news) (hm : (D, W.listOf vs.toArray k) ∈ news) (hi : IntsAre vs ns) (hl : ns.length ≤ 100)
    (h : ∀ b tk, Q b { s with toks := tk }) : wpAny (model prog w) A (truthy (.ref D)) Q E s := by
  refine wpAny_truthy_list (News.isList N hm) ?_ (h _ _)
  have := hi.length
  simp only [List.size_toArray]
  omega
local macro_rules | `(tactic| walk_at "truthy ref") => `(tactic| (k_here; k_dflt (refine' truthy_list ?kN ?km ?ki ?kl ?_; (case kN => k_asm); (case km => k_mem); (case ki => assumption); (case kl => omega); k_whole; intro b9 tk9)))
local macro_rules | `(tactic| walk_at "exec For Name BoolOp cons nil") => `(tactic| (k_here; (rename Fr _ _ _ _ => lF'); (with_unfolding_all refine' For_turns lF' ?_; k_whole)))
local macro_rules | `(tactic| walk_at "pyIter ref") => `(tactic| (k_here; (with_reducible show wpAny _ _ (pyIter (Value.ref _)) (fun it s₂ => TurnsAt _ _ _ _ _ _ _ _ _ it s₂) _ _); refine Halt.out ?_))
local macro_rules | `(tactic| walk_at "call ref") => `(tactic| (k_here; (with_reducible show wpAny _ _ (call (Value.ref 73) [Value.int _ _]) _ _ _); k_dflt (refine' journey_use ?kB ?kF ?kX ?kN ?kT ?kk ?kd ?ku ?_; (case kB => k_asm); (case kF => k_asm); (case kX => k_asm); (case kN => k_asm); (case kT => k_asm); (case kk => first | exact rfl | assumption); (case kd => ktr_room); (case ku => ktr_units); k_whole; intro h9 tk9 F9 N9; (try dsimp only); (try k_fold); (try k_sweep))))
set_option maxRecDepth 100000 in
set_option maxHeartbeats 4000000 in
theorem law_holds : PySem.Challenge.rw_mq0171_01.Holds := hd (by
  k_go0; (all_goals try k_fold); k_steps
  · refine Halt.of ?_
    (rename Fr _ _ _ _ => lF')
    refine ints_loop (Str.ofString "drawn") rfl lF' (by k_asm) (by k_mem) (by assumption) ?_ ?_
    · intro I i t b h tk o l1 F9 N9
      clear lF'
      k_steps
      exact ints_end (by assumption) (by assumption) l1
    · intro b h tk F9 N9
      clear lF'
      k_steps
  · refine Halt.of ?_
    (rename Fr _ _ _ _ => lF')
    refine ints_loop (vs := [Value.int 12345 _]) (ns := [12345]) (Str.ofString "drawn") rfl lF' (by k_asm) (by k_mem) (.cons _ _ .nil) ?_ ?_
    · intro I i t b h tk o l1 F9 N9
      clear lF'
      k_steps
      exact ints_end (by assumption) (by assumption) l1
    · intro b h tk F9 N9
      clear lF'
      k_steps)
end Mine
end
theorem PySem.Challenge.cw_mq0171_01_holds : PySem.Challenge.rw_mq0171_01.Holds :=
  Mine.law_holds
