import PyProof.Rows.All
import Wide.All
import OpenK.AllK
import Wide.FinOn
import KE.KNestM
import PySem.Challenge.RW_tv0018_01
open PySem PySem.W PyProof.Rows
set_option Elab.async false
set_option maxRecDepth 100000
set_option maxHeartbeats 8000000
set_option linter.all false
set_option compiler.extract_closed false
namespace Mine
/-- the heap's written part alone, without the head -/
theorem hk_cut {r : RowW} {G : Prop} (_ : r.promised) (h : G) : G := h
theorem hk_law {l : OpenLaw} (_ : l.Holds → l.row.Holds) (h : l.Holds) : l.Holds := h
section
local macro_rules | `(tactic| o_law) => `(tactic| refine hk_law (fun H => ?_) ?_)
local macro_rules | `(tactic| o_head (kHook $K $as $p)) => `(tactic| (refine hk_cut (r := PySem.Challenge.rw_tv0018_01.row.toRowW) ?hw ?hc; (case hc => exact (by assumption : PySem.Challenge.rw_tv0018_01.Holds).2)))
open_top hk for PySem.Challenge.rw_tv0018_01
end
/-- the statements of the text that the head keeps -/
noncomputable def VW : Program := { PySem.Challenge.pw_tv0018_01 with main := { PySem.Challenge.pw_tv0018_01.main with body := (PySem.Challenge.pw_tv0018_01.main.body.zipIdx.filter fun p => [0, 2, 3, 5, 7, 8, 10, 11, 12, 13, 14, 15, 16, 17, 18, 19, 20].contains p.2).map (·.1) } }
end Mine
open PySem.Spec PySem.Calls
namespace Mine
theorem warm : PySem.Challenge.rw_tv0018_01 = PySem.Challenge.rw_tv0018_01 ∧ _root_.Mine.hk.heap_1 = _root_.Mine.hk.heap_1 := by
  w_top off
  k_fill
  exact ⟨rfl, rfl⟩
end Mine
-- part Base
namespace Mine
noncomputable abbrev PR := PySem.Challenge.pw_tv0018_01
noncomputable abbrev LO := looseW VW [Str.ofString "_Accumulator"]

theorem ne_tail {tail : List (Addr × Obj)} {D b : Nat} (h : AllLt D tail) (hd : D ≤ b) : ∀ p ∈ tail, p.1 ≠ b := by
  induction tail with
  | nil => intro p hp; cases hp
  | cons q r ih =>
    intro p hp
    rcases List.mem_cons.mp hp with rfl | hp
    · exact Nat.ne_of_lt (Nat.lt_of_lt_of_le h.1 hd)
    · exact ih h.2 p hp

/-- the greatest and the least of three floats, as the built-ins find them -/
def mx3 (a b c : UInt64) : UInt64 :=
  let y := if (Float64.cmp a b == some .lt) = true then b else a
  if (Float64.cmp y c == some .lt) = true then c else y
def mn3 (a b c : UInt64) : UInt64 :=
  let y := if (Float64.cmp b a == some .lt) = true then b else a
  if (Float64.cmp c y == some .lt) = true then c else y

section
variable {prog : Program} {w : World} {A : Around} {E : Value → Shared → Prop} {s : Shared} {Q : Value → Shared → Prop} {x y z : UInt64} {t u v : Tok} {h₀ : Heap} {L : Addr} {m : Str → Option Value} {news : List (Addr × Obj)}

theorem pushed_tup (a b c : Value) : (s.heap.push { cls := .type "tuple", data := .seq #[a, b, c] }).IsTuple s.heap.objs.size #[a, b, c] := ⟨_, Heap.get?_push_size _ rfl, rfl, 0, rfl⟩

theorem kept_behind {s : Shared} {a b c : Value} {o : Obj} {h' : Heap}
    (hk : ∀ d p, d ∉ [(s.heap.push { cls := .type "tuple", data := .seq #[a, b, c] }).objs.size] → ((s.heap.push { cls := .type "tuple", data := .seq #[a, b, c] }).push o).get? d = some p → h'.get? d = some p) :
    ∀ d p, s.heap.get? d = some p → h'.get? d = some p := fun d p e => by
  refine hk d p (fun hm => ?_) (Heap.get?_push_of_some _ (Heap.get?_push_of_some _ e))
  have h1 := List.mem_singleton.mp hm
  have h2 := Heap.lt_size e
  rw [h1, Heap.size_push] at h2
  exact Nat.lt_irrefl _ (Nat.lt_of_succ_lt h2)

theorem max3f (hh : A.handled = none) (F : Fr h₀ L s.heap m) (N : News h₀ L s.heap news)
    (h : ∀ h' tk t', Fr h₀ L h' m → News h₀ L h' news → Q (.float (mx3 x y z) t') { s with heap := h', toks := tk }) :
    wpAny (model prog w) A (call (.builtin "max") [.float x t, .float y u, .float z v]) Q E s := by
  have hT := pushed_tup (s := s) (.float x t) (.float y u) (.float z v)
  refine call_max_three (wpAny_pyIter_tuple hT ?_)
  refine ⟨_, [_, s.heap.objs.size], [_], _, _, _, _, rfl, Walks.tuple (A := A.in1) hh _ s.heap.objs.size (by rw [Heap.size_push]; exact Nat.ne_of_lt (Nat.lt_succ_self _)) #[.float x t, .float y u, .float z v],
    ⟨⟨_, Heap.get?_push_size _ rfl, rfl, rfl⟩, hT.push _⟩, ?_, by simp, PySem.Flt.cmpOf_gt #[.float x t, .float y u, .float z v] ?_, ?_⟩
  · intro d hd
    simp only [List.mem_cons, List.not_mem_nil, or_false] at hd
    rcases hd with rfl | rfl
    · show _ < ((s.heap.push _).push _).objs.size
      rw [Heap.size_push ((s.heap.push _))]; exact Nat.lt_succ_self _
    · show _ < ((s.heap.push _).push _).objs.size
      rw [Heap.size_push, Heap.size_push]; exact Nat.lt_succ_of_lt (Nat.lt_succ_self _)
  · intro q hq
    simp only [List.mem_toArray, List.mem_cons, List.not_mem_nil, or_false] at hq
    rcases hq with rfl | rfl | rfl <;> exact .float _ _
  · intro q h' tk hP hk
    have old := kept_behind hk
    have F' := F.grownK old
    have N' := N.grown old
    cases c1 : (Float64.cmp x y == some .lt) with
    | true =>
      cases c2 : (Float64.cmp y z == some .lt) with
      | true =>
        have hv : q = .float z v := by simpa [argBest, PySem.Flt.ltV, c1, c2] using hP.symm
        subst hv
        have r := h h' tk v F' N'
        simpa [mx3, c1, c2] using r
      | false =>
        have hv : q = .float y u := by simpa [argBest, PySem.Flt.ltV, c1, c2] using hP.symm
        subst hv
        have r := h h' tk u F' N'
        simpa [mx3, c1, c2] using r
    | false =>
      cases c2 : (Float64.cmp x z == some .lt) with
      | true =>
        have hv : q = .float z v := by simpa [argBest, PySem.Flt.ltV, c1, c2] using hP.symm
        subst hv
        have r := h h' tk v F' N'
        simpa [mx3, c1, c2] using r
      | false =>
        have hv : q = .float x t := by simpa [argBest, PySem.Flt.ltV, c1, c2] using hP.symm
        subst hv
        have r := h h' tk t F' N'
        simpa [mx3, c1, c2] using r

theorem min3f (hh : A.handled = none) (F : Fr h₀ L s.heap m) (N : News h₀ L s.heap news)
    (h : ∀ h' tk t', Fr h₀ L h' m → News h₀ L h' news → Q (.float (mn3 x y z) t') { s with heap := h', toks := tk }) :
    wpAny (model prog w) A (call (.builtin "min") [.float x t, .float y u, .float z v]) Q E s := by
  have hT := pushed_tup (s := s) (.float x t) (.float y u) (.float z v)
  refine call_min_three (wpAny_pyIter_tuple hT ?_)
  refine ⟨_, [_, s.heap.objs.size], [_], _, _, _, _, rfl, Walks.tuple (A := A.in1) hh _ s.heap.objs.size (by rw [Heap.size_push]; exact Nat.ne_of_lt (Nat.lt_succ_self _)) #[.float x t, .float y u, .float z v],
    ⟨⟨_, Heap.get?_push_size _ rfl, rfl, rfl⟩, hT.push _⟩, ?_, by simp, PySem.Flt.cmpOf_lt #[.float x t, .float y u, .float z v] ?_, ?_⟩
  · intro d hd
    simp only [List.mem_cons, List.not_mem_nil, or_false] at hd
    rcases hd with rfl | rfl
    · show _ < ((s.heap.push _).push _).objs.size
      rw [Heap.size_push ((s.heap.push _))]; exact Nat.lt_succ_self _
    · show _ < ((s.heap.push _).push _).objs.size
      rw [Heap.size_push, Heap.size_push]; exact Nat.lt_succ_of_lt (Nat.lt_succ_self _)
  · intro q hq
    simp only [List.mem_toArray, List.mem_cons, List.not_mem_nil, or_false] at hq
    rcases hq with rfl | rfl | rfl <;> exact .float _ _
  · intro q h' tk hP hk
    have old := kept_behind hk
    have F' := F.grownK old
    have N' := N.grown old
    cases c1 : (Float64.cmp y x == some .lt) with
    | true =>
      cases c2 : (Float64.cmp z y == some .lt) with
      | true =>
        have hv : q = .float z v := by simpa [argBest, PySem.Flt.ltV, c1, c2] using hP.symm
        subst hv
        have r := h h' tk v F' N'
        simpa [mn3, c1, c2] using r
      | false =>
        have hv : q = .float y u := by simpa [argBest, PySem.Flt.ltV, c1, c2] using hP.symm
        subst hv
        have r := h h' tk u F' N'
        simpa [mn3, c1, c2] using r
    | false =>
      cases c2 : (Float64.cmp z x == some .lt) with
      | true =>
        have hv : q = .float z v := by simpa [argBest, PySem.Flt.ltV, c1, c2] using hP.symm
        subst hv
        have r := h h' tk v F' N'
        simpa [mn3, c1, c2] using r
      | false =>
        have hv : q = .float x t := by simpa [argBest, PySem.Flt.ltV, c1, c2] using hP.symm
        subst hv
        have r := h h' tk t F' N'
        simpa [mn3, c1, c2] using r
end

section
variable {prog : Program} {w : World} {A₀ A : Around} {s : Shared} {base h₀ : Heap} {outer : List Env} {L : Addr} {m : Str → Option Value} {env : Env} {news : List (Addr × Obj)} {K : Frag}
/-- a def with cells is entered; what the caller's heap bore stands in the ground, but for the arguments' own objects -/
theorem enter_cells {p : Program} {loose : List Str} {mean : ExcName → Option Value} {mg mb : Str → Option Value} {R : Result → Shared → Prop} {name qual : Str} {params : Arguments} {body : List Stmt} {scope : Scope} {dV kV doc pm cdv ct oc : Value} {an od : Option Addr} {osl : Array (Option Value)} {f : Addr} {args : Args} {binds : List (Str × Value)}
    (B : Below A₀ base outer h₀) (F : Fr h₀ L s.heap m) (X₀ : K.In h₀) (N : News h₀ L s.heap news) (T : Top p loose mean mg mb h₀) (hA : A.frames = some (env :: outer)) (hf : env.frame = some L) (hke : env.scope.kind = .function)
    (ho : K.lookup f = some ⟨oc, od, .func (fnOf name qual params body scope dV kV doc pm an cdv ct), osl⟩) (hcd : codeIn K cdv qual = true) (hroom : A.depth < recursionLimit)
    (hbind : BindsTo s (fnOf name qual params body scope dV kV doc pm an cdv ct) args binds) (hkind : (binds.all fun y => scope.names.lookup y.1 == some .local || scope.names.lookup y.1 == some .cell) = true)
    (hnd : ((cellsFrom 0 scope.names []).map (·.1)).Nodup)
    (h : ∀ g L' h₁ tk cells, Fr h₀ L g m → Fr g L' h₁ (bindL (envOfC qual scope L' f cdv).kindOf binds fun _ => none) → News g L' h₁ (cells ++ news) →
      CellsAre (bindC (envOfC qual scope L' f cdv).kindOf binds fun _ => none) (cellsFrom (L' + 1) scope.names []) cells → Below A base (env :: outer) g → K.In g → Top p loose mean mg mb g → (∀ p ∈ news, p.1 < L') → GSub s.heap g (news.map (·.1)) →
      wpAny (model prog w) (A.deeper (envOfC qual scope L' f cdv)) (execs body (envOfC qual scope L' f cdv))
        (fun fl s' => LeaveK h₀ L m g R (match fl with | .ret v => v | _ => .none) s')
        (fun e s' => wpAny (model prog w) (A.deeper (envOfC qual scope L' f cdv)) (leaving (envOfC qual scope L' f cdv) e) (fun _ s'' => R (.error e) s'') (fun e' s'' => R (.error e') s'') s')
        { s with heap := h₁, toks := tk })
    (hco : scope.isCoroutine = false) (hgen : scope.isGenerator = false) (hk : scope.kind = .function) : codeAny (model prog w) A (.call (.ref f) args) R s := by
  obtain ⟨FG, BG, st, lv⟩ := groundX (R := R) B F N hA hf hke
  refine codeAny_call_function hroom ((X₀.keeps F.keep) _ _ ho) rfl hco hgen rfl (codeRec_of (X₀.keeps F.keep) hcd) (hbind _ _ _ _ ?_)
  refine wpAny_newFunctionEnv_cells hk (kindsX hkind _) fun env' he s' x => ?_
  subst he
  refine ⟨(T.nolimit.keeps F.keep).keeps x.toInCall.keep, codeAny_func ?_⟩
  obtain ⟨h₁, tk, rfl, _⟩ := x.done
  have keep := x.toInCall.keep
  obtain ⟨cells, NC, Y⟩ := Cl.news (h₀ := s.heap) (Nat.le_refl _) fun n c hm => ⟨x.cell n c (lookup_of_mem_nodup (cellsFrom_names scope.names 0 (s.heap.objs.size + 1) [] [] rfl ▸ hnd) hm), x.above n c hm⟩
  have F1 : Fr (hideAll s.heap (news.map (·.1))) s.heap.objs.size h₁ (bindL (envOfC qual scope s.heap.objs.size f cdv).kindOf binds fun _ => none) :=
    ⟨x.toInCall.ns, fun b o e => keep b o (of_hideAll _ e), Nat.le_of_eq (hideAll_size _ _)⟩
  have N1 : News (hideAll s.heap (news.map (·.1))) s.heap.objs.size h₁ (cells ++ news) := by
    intro p hp
    rcases List.mem_append.mp hp with hp | hp
    · refine ⟨(NC p hp).1, (NC p hp).2.1, ?_⟩
      cases q : (hideAll s.heap (news.map (·.1))).get? p.1 with
      | none => rfl
      | some o => have z := of_hideAll _ q; rw [(NC p hp).2.2] at z; cases z
    · exact ⟨keep _ _ (N p hp).1, Nat.ne_of_lt (Heap.lt_size (N p hp).1), hideAll_none _ (List.mem_map_of_mem hp)⟩
  exact wpAny_mono (h _ s.heap.objs.size h₁ tk cells FG F1 N1 Y BG (X₀.keeps st) (T.keeps st) (fun p hp => Heap.lt_size (N p hp).1) (fun b o e n => hideAll_get _ e n)) (fun fl s' hl => lv _ _ hl) fun _ _ y => y
end

/-- what stood ahead of a call stands behind it -/
theorem stood {h₀ g h h' : Heap} {L L' : Addr} {m' : Str → Option Value} {news news' : List (Addr × Obj)} (G : GSub h g (news.map (·.1))) (N : News h₀ L h news) (F' : Fr g L' h' m') (N' : News g L' h' news') (sub : ∀ p ∈ news, p ∈ news') :
    ∀ b o, h.get? b = some o → h'.get? b = some o := elt_after (InElt.start h) G N F' N' sub
/-- and a new object lies apart from all that stood -/
theorem apart_new {h₀ g h h' : Heap} {L L' D : Addr} {o' : Obj} {news news' : List (Addr × Obj)} (G : GSub h g (news.map (·.1))) (_N : News h₀ L h news) (N' : News g L' h' news') (hm : (D, o') ∈ news') (off : ∀ p ∈ news, p.1 ≠ D) :
    ∀ b o, h.get? b = some o → b ≠ D := by
  intro b o e q
  subst q
  have z := G b o e (fun hm' => by
    obtain ⟨p, hp, e1⟩ := List.mem_map.mp hm'
    exact off p hp e1)
  have y := (N' _ hm).2.2
  rw [z] at y
  cases y
theorem news_one {h₀ h : Heap} {L : Addr} {news : List (Addr × Obj)} {p : Addr × Obj} (N : News h₀ L h news) (hm : p ∈ news) : News h₀ L h [p] := fun q hq => by
  rw [List.mem_singleton.mp hq]; exact N p hm
theorem news_more {h₀ h h' : Heap} {L D : Addr} {o : Obj} {news : List (Addr × Obj)} (N : News h₀ L h news) (kp : ∀ b o, h.get? b = some o → h'.get? b = some o) (N' : News h₀ L h' [(D, o)]) : News h₀ L h' ((D, o) :: news) := fun q hq => by
  rcases List.mem_cons.mp hq with rfl | hq
  · exact N' _ (.head _)
  · exact N.grown kp q hq
theorem apart_all {h₀ h : Heap} {L D : Addr} {news : List (Addr × Obj)} (N : News h₀ L h news) (ap : ∀ b o, h.get? b = some o → b ≠ D) : GnNe D news := gnNe_of fun p hp => ap p.1 p.2 (N p hp).1

section
open PyProof.Rows.LCg PyProof.Rows.LCt
variable {prog : Program} {w : World} {A : Around} {s : Shared} {h₀ : Heap} {L : Addr} {m : Str → Option Value} {env : Env}
theorem end_mono {s₁ s₂ : Shared} {I C D : Addr} {oI oC oD : Obj} {S : List (Addr × Obj) → Prop} {r r' : Value → List (Addr × Obj) → Prop} {y : Value} (h : CompEnd h₀ L m s₁ I oI C oC D oD S r y s₂) (hr : ∀ nw, r y nw → r' y nw) : CompEnd h₀ L m s₁ I oI C oC D oD S r' y s₂ := by
  obtain ⟨h', tk, nw, e, F, N, off, hS, hx⟩ := h
  exact ⟨h', tk, nw, e, F, N, off, hS, hr nw hx⟩
/-- a list comprehension with one test, by what holds of the list so far -/
theorem compT_ind {ct elt : Expr} {x : Str} {scope : Scope} {cl : List (Str × Addr)} {S : List (Addr × Obj) → Prop} {P : Nat → Value → Prop} {Fin : List Value → List (Addr × Obj) → Prop} {news : List (Addr × Obj)} {n : Nat} (J : Nat → List Value → Prop)
    (turn : ∀ i ys, i < n → J i ys → ∀ v I oI C oC D m₂ h tk (E' : Value → Shared → Prop), P i v → NsObj oC m₂ → m₂ x = some v → Fr h₀ L h m → News h₀ L h ((I, oI) :: (C, oC) :: (D, lst ys) :: news) → Off3 I C D news → ((@Ne Nat I C) ∧ (@Ne Nat I D) ∧ (@Ne Nat C D)) →
      wpAny (model prog w) A (isTrue ct (compEnvC scope cl C env) (eval ct (compEnvC scope cl C env))) (fun ok s' => if ok = true then
        wpAny (model prog w) A (eval elt (compEnvC scope cl C env)) (CompEnd h₀ L m { s with heap := h, toks := tk } I oI C oC D (lst ys) S (fun y news' => news' = news ∧ J (i + 1) (ys ++ [y]))) E' s'
        else CompEnd h₀ L m { s with heap := h, toks := tk } I oI C oC D (lst ys) S (fun _ news' => news' = news ∧ J (i + 1) ys) Value.none s') E' { s with heap := h, toks := tk })
    (fin : ∀ ys, J n ys → Fin ys news) : ∀ k i ys, i + k = n → J i ys → CompRestT prog w A h₀ L m env ct elt x scope cl s S P Fin k i ys news := by
  intro k
  induction k with
  | zero => intro i ys e hJ; exact CompRestT.zero (fin ys (by rw [← e]; exact hJ))
  | succ k ih =>
    intro i ys e hJ
    refine CompRestT.succ ?_
    intro v I oI C oC D m₂ h tk E' hv hC hx F N off ne
    refine wpAny_mono (turn i ys (by omega) hJ v I oI C oC D m₂ h tk E' hv hC hx F N off ne) (fun ok s' hk => ?_) fun _ _ q => q
    cases ok with
    | true =>
      simp only [if_true] at hk ⊢
      refine wpAny_mono hk (fun y s'' hy => end_mono hy ?_) fun _ _ q => q
      rintro nw ⟨rfl, hJ'⟩
      exact ih (i + 1) _ (by omega) hJ'
    | false =>
      simp only [Bool.false_eq_true, if_false] at hk ⊢
      refine end_mono hk ?_
      rintro nw ⟨rfl, hJ'⟩
      exact ih (i + 1) _ (by omega) hJ'
/-- one without a test -/
theorem compU_ind {elt : Expr} {x : Str} {scope : Scope} {cl : List (Str × Addr)} {S : List (Addr × Obj) → Prop} {P : Nat → Value → Prop} {Fin : List Value → List (Addr × Obj) → Prop} {news : List (Addr × Obj)} {n : Nat} (J : Nat → List Value → Prop)
    (turn : ∀ i ys, i < n → J i ys → ∀ v I oI C oC D m₂ h tk (E' : Value → Shared → Prop), P i v → NsObj oC m₂ → m₂ x = some v → Fr h₀ L h m → News h₀ L h ((I, oI) :: (C, oC) :: (D, lst ys) :: news) → Off3 I C D news → ((@Ne Nat I C) ∧ (@Ne Nat I D) ∧ (@Ne Nat C D)) →
      wpAny (model prog w) A (eval elt (compEnvC scope cl C env)) (CompEnd h₀ L m { s with heap := h, toks := tk } I oI C oC D (lst ys) S (fun y news' => news' = news ∧ J (i + 1) (ys ++ [y]))) E' { s with heap := h, toks := tk })
    (fin : ∀ ys, J n ys → Fin ys news) : ∀ k i ys, i + k = n → J i ys → CompRest prog w A h₀ L m env elt x scope cl s S P Fin k i ys news := by
  intro k
  induction k with
  | zero => intro i ys e hJ; exact CompRest.zero (fin ys (by rw [← e]; exact hJ))
  | succ k ih =>
    intro i ys e hJ
    refine CompRest.succ ?_
    intro v I oI C oC D m₂ h tk E' hv hC hx F N off ne
    refine wpAny_mono (turn i ys (by omega) hJ v I oI C oC D m₂ h tk E' hv hC hx F N off ne) (fun y s' hy => end_mono hy ?_) fun _ _ q => q
    rintro nw ⟨rfl, hJ'⟩
    exact ih (i + 1) _ (by omega) hJ'
end

section
open PyProof.Rows.LCg
variable {prog : Program} {w : World} {A : Around} {E : Value → Shared → Prop} {s : Shared} {h₀ : Heap} {L D : Addr} {news : List (Addr × Obj)}
theorem len_of {ys : List Value} {c : Nat} {Q : Value → Shared → Prop} (N : News h₀ L s.heap news) (hm : (D, lst ys) ∈ news) (hl : ys.length = c) (hfit : c < 2 ^ 62)
    (h : Q (.int (c : Int) (s.toks + 1)) { s with toks := s.toks + 1 + 1 }) : wpAny (model prog w) A (call (.builtin "len") [.ref D]) Q E s := by
  have hL : s.heap.IsList D ys.toArray := ⟨_, N.get hm, rfl, _, rfl⟩
  have e : ys.toArray.size = c := by simp [hl]
  refine len_list hL (by rw [e]; omega) ?_
  rw [e]
  exact h
end

section
open PyProof.Rows.LCg
variable {prog : Program} {w : World} {A : Around} {E : Value → Shared → Prop} {s : Shared} {h₀ : Heap} {L : Addr} {m : Str → Option Value} {env : Env}
/-- the source of a comprehension that is a range downward -/
def SrcDown (prog : Program) (w : World) (A : Around) (h₀ : Heap) (L : Addr) (m : Str → Option Value) (env : Env) (elt : Expr) (x : Str) (scope : Scope) (cl : List (Str × Addr)) (Fin : Shared → List Value → List (Addr × Obj) → Prop) (xv : Value) (s₁ : Shared) : Prop :=
  ∃ r a b t u v n news, xv = .ref r ∧ A.handled = none ∧ Fr h₀ L s₁.heap m ∧ News h₀ L s₁.heap news ∧ IsRange s₁.heap r a b (-1) t u v ∧ Builtin.Range.small a b (-1) = true ∧ Builtin.Range.rangeSize a b (-1) = ((n : Nat) : Int) ∧ n ≤ sizeLine ∧
    ∀ g : Heap, CompRest prog w A h₀ L m env elt x scope cl { s₁ with heap := g } (fun _ => True) (fun i v => ∃ t, v = .int (a + (i : Int) * (-1)) t) (Fin { s₁ with heap := g }) n 0 [] news
theorem down_walks {I : Addr} (hh : A.handled = none) (a : Int) (n : Nat) : Walks prog w A I [I] [I] n (fun i v => ∃ t, v = .int (a + (i : Int) * (-1)) t) (fun i h => IsRangeIter h I (a + (i : Nat) * (-1)) ((n : Int) - (i : Nat)) (-1)) :=
  have W : Walks prog w A I [I] [I] n (fun i v => i < n ∧ ∃ t, v = .int (a + i * (-1)) t) (fun i h => IsRangeIter h I (a + (i : Nat) * (-1)) ((n : Int) - (i : Nat)) (-1)) := (Walks.range hh I a (-1) n).bound
  { sub := W.sub, frame := W.frame, done := W.done, self := W.self,
    item := fun i s Q E hi st hQ => W.item i s Q E hi st fun v h' tk hP => hQ v h' tk hP.2 }
theorem comp_down {elt iter : Expr} {x : Str} {px : Pos} {scope : Scope} {cl : List (Str × Addr)} {pos : Pos} {Q : Value → Shared → Prop} (_F₀ : Fr h₀ L s.heap m)
    (hclos : closureFor scope env = pure cl) (hcell : ∀ y ∈ scope.names, y.2 ≠ .cell) (hkind : scope.kind = .function)
    (hnames : ∀ y ∈ scope.names, y.2 = .local → scope.names.lookup y.1 = some .local) (hx : scope.names.lookup x = some .local)
    (h : wpAny (model prog w) A (eval iter env) (SrcDown prog w A h₀ L m env elt x scope cl (fun s₂ => FinE h₀ L m s₂ Q)) E s)
    (hs : ∀ x, foldedSetIterable iter env x = pure x := by intro _; rfl) :
    wpAny (model prog w) A (eval (.ListComp elt [⟨.Name x px, iter, [], 0⟩] scope pos) env) Q E s := by
  rw [eval_ListComp]
  refine wpAny_comprehension_free (use := none) rfl hs hclos hkind hnames (wpAny_mono h (fun xv s₁ h₁ => ?_) fun _ _ e => e)
  obtain ⟨r, a, b, t, u, v, n, news, rfl, hh, F, N, hr, hsm, hn, hsz, R⟩ := h₁
  refine wpAny_pyIter_range hr hsm ?_
  refine block_U (down_walks hh a n) hsz (fun i h st => ⟨_, st⟩) (fun i h h' o nw st e e' _ _ _ => ?_) hcell hkind hx (by show IsRangeIter _ _ _ _ _; rw [hn]; simpa using Heap.get?_push_size _ rfl) (fun b hb => ?_)
    (F.keeps fun _ _ e => Heap.get?_push_of_some _ e) (N.grown fun _ _ e => Heap.get?_push_of_some _ e) (Nat.ne_of_lt F.ns.lt) (next_is_new F) (fun p hp => Nat.ne_of_lt (Heap.lt_size (N p hp).1)) trivial (R _) ?_
  · have st' : h.get? s₁.heap.objs.size = some _ := st
    show h'.get? s₁.heap.objs.size = some _
    rw [e', ← e]; exact st'
  · rw [List.mem_singleton.mp hb]
    show s₁.heap.objs.size < (s₁.heap.push _).objs.size
    rw [Heap.size_push]; exact Nat.lt_succ_self _
  · intro D C h tk m' ys news' F' N' o1 hn hC₀ hD₀ hCL hDL hCD offC fin
    refine ⟨m', hn, fun h'' hs'' => fin D h'' tk (F'.change hs'' hCL hC₀) (fun p hp => ?_) o1⟩
    refine ⟨hs''.extBut _ _ ?_ (N' p hp).1, (N' p hp).2⟩
    rcases List.mem_cons.mp hp with rfl | hp
    · exact Ne.symm hCD
    · exact offC p hp
end

/-- where a walk is to stand still, and the mark that it has been there -/
def Halt (P : Prop) : Prop := P
theorem halt_intro {P : Prop} (h : Halt P) : P := h
structure Past (n : Nat) : Prop where
end Mine
-- part Flo
namespace Mine
/-- a figure's share of the wheel: the float that «figure / 64» makes -/
def hB (k : Int) : UInt64 := Float64.ofFrac (decide (k < 0) != decide ((64 : Int) < 0)) k.natAbs (Int.natAbs 64)
def one64 : UInt64 := 4607182418800017408
def six64 : UInt64 := 4618441417868443648
def hsvS (h : UInt64) : UInt64 × UInt64 × UInt64 :=
  let i := Flt.toInt Float64.truncOf (Float64.mul h six64)
  let f := Float64.sub (Float64.mul h six64) (Float64.ofInt i)
  let p := Float64.mul one64 (Float64.sub one64 one64)
  let q := Float64.mul one64 (Float64.sub one64 (Float64.mul one64 f))
  let t := Float64.mul one64 (Float64.sub one64 (Float64.mul one64 (Float64.sub one64 f)))
  if i.fmod 6 = 0 then (one64, t, p) else if i.fmod 6 = 1 then (q, one64, p) else if i.fmod 6 = 2 then (p, one64, t)
  else if i.fmod 6 = 3 then (p, q, one64) else if i.fmod 6 = 4 then (t, p, one64) else (one64, p, q)
theorem hsv_fit : ∀ n < 64, 1 ≤ n → (Float64.isNaN (Float64.mul (hB (n : Nat)) six64) = false ∧ Float64.isInf (Float64.mul (hB (n : Nat)) six64) = false) ∧
    (Flt.toInt Float64.truncOf (Float64.mul (hB (n : Nat)) six64)).natAbs < 6 ∧ 0 ≤ Flt.toInt Float64.truncOf (Float64.mul (hB (n : Nat)) six64) := by decide +kernel
theorem hsv_fits {k : Int} (h0 : 1 ≤ k) (h1 : k < 64) : (Float64.isNaN (Float64.mul (hB k) six64) = false ∧ Float64.isInf (Float64.mul (hB k) six64) = false) ∧
    (Flt.toInt Float64.truncOf (Float64.mul (hB k) six64)).natAbs < 6 ∧ 0 ≤ Flt.toInt Float64.truncOf (Float64.mul (hB k) six64) := by
  have h := hsv_fit k.toNat (by omega) (by omega)
  rwa [show ((k.toNat : Nat) : Int) = k by omega] at h
theorem cmp_one_nought : (Float64.cmp 4607182418800017408 0 == some Ordering.eq) = false := by decide +kernel

theorem c_hsv {w : World} {mean : ExcName → Option Value} {mg mb : Str → Option Value} {dp un : Nat} {gd : Option (List Code)} {cn : Str} {cs : Scope} {a : Addr} {ccd : Value} {cl : List (Str × Addr)} {outer : List Env} {A₀ : Around} {base h₀ : Heap} {L : Addr} {m : Str → Option Value} {s : Shared} {Q E : Value → Shared → Prop}
   {tail : List (Addr × Obj)} {k : Int} {t0 t1 t2 : Tok}
   (B : Below A₀ base outer h₀) (F : Fr h₀ L s.heap m) (X : (_root_.Mine.hk.heap_1 w.params).In h₀) (N : News h₀ L s.heap tail) (T : Top VW LO mean mg mb h₀) (hk : cs.kind = .function)
   (hd : dp + 1 < recursionLimit) (hk0 : 1 ≤ k) (hk1 : k < 64)
   (hret : ∀ D r g b t1 t2 t3 h' tk', (r, g, b) = hsvS (hB k) → (∀ p ∈ tail, p.1 < D) → Fr h₀ L h' m → News h₀ L h' ((D, { cls := .type "tuple", data := .seq #[.float r t1, .float g t2, .float b t3] }) :: tail) → Q (.ref D) { s with heap := h', toks := tk' }) :
   wpAny (model PR w) (ktrTop dp un gd cn cs L a ccd cl outer) (call (.ref 35) [.float (Float64.ofFrac (decide (k < 0) != decide ((64 : Int) < 0)) k.natAbs (Int.natAbs 64)) t0, .float 4607182418800017408 t1, .float 4607182418800017408 t2]) Q E s := by
  have fit := hsv_fits hk0 hk1
  unfold hB six64 at fit
  refine wpAny_call ?_
  k_dflt cell_enter
  k_steps
  all_goals first
    | (exfalso; have z := fit.1.1; (rename Float64.isNaN _ = true => z1); rw [z1] at z; cases z)
    | (exfalso; have z := fit.1.2; (rename Float64.isInf _ = true => z1); rw [z1] at z; cases z)
    | (exfalso; have z := cmp_one_nought; (rename (Float64.cmp 4607182418800017408 0 == some Ordering.eq) = true => z1); rw [z1] at z; cases z)
    | (refine hret _ _ _ _ _ _ _ _ _ ?_ (by assumption) (by assumption) (by assumption)
       unfold hsvS hB one64 six64
       dsimp only
       repeat (first | rw [if_pos (by assumption)] | rw [if_neg (by assumption)])
       done)
    | (exfalso; have z := fit.2.1; (rename _ ≤ Int.natAbs _ => z1); exact absurd (Nat.lt_of_le_of_lt z1 z) (by decide))
    | (exfalso; have z := fit.2; rename Fr _ _ _ _ => zz; clear zz; simp only [Int.fmod_eq_emod_of_nonneg _ (show (0:Int) ≤ 6 by decide)] at *; omega)
end Mine
-- part Rgb
namespace Mine
local macro_rules | `(tactic| walk_at "call builtin:max cons nil") => `(tactic| (k_here; (with_reducible show wpAny _ _ (call (Value.builtin "max") [Value.float _ _, Value.float _ _, Value.float _ _]) _ _ _); k_dflt (refine' max3f rfl ?k1 ?k2 ?_; (case k1 => k_asm); (case k2 => k_asm); k_whole); intro h' tk' t' F' N'))
local macro_rules | `(tactic| walk_at "call builtin:min cons nil") => `(tactic| (k_here; (with_reducible show wpAny _ _ (call (Value.builtin "min") [Value.float _ _, Value.float _ _, Value.float _ _]) _ _ _); k_dflt (refine' min3f rfl ?k1 ?k2 ?_; (case k1 => k_asm); (case k2 => k_asm); k_whole); intro h' tk' t' F' N'))

/-- the hue out of the three ways of rgb_to_hsv -/
def hueOf (x : UInt64) : UInt64 := (Float64.divmod (Float64.div x 4618441417868443648) 4607182418800017408).2
structure RgbFit (r g b h : UInt64) : Prop where
  apart : (Float64.cmp (mn3 r g b) (mx3 r g b) == some Ordering.eq) = false
  top : Float64.isZero (mx3 r g b) = false
  wide : Float64.isZero (Float64.sub (mx3 r g b) (mn3 r g b)) = false
  red : (Float64.cmp r (mx3 r g b) == some Ordering.eq) = true → hueOf (Float64.sub (Float64.div (Float64.sub (mx3 r g b) b) (Float64.sub (mx3 r g b) (mn3 r g b))) (Float64.div (Float64.sub (mx3 r g b) g) (Float64.sub (mx3 r g b) (mn3 r g b)))) = h
  green : (Float64.cmp r (mx3 r g b) == some Ordering.eq) = false → (Float64.cmp g (mx3 r g b) == some Ordering.eq) = true →
    hueOf (Float64.sub (Float64.add 4611686018427387904 (Float64.div (Float64.sub (mx3 r g b) r) (Float64.sub (mx3 r g b) (mn3 r g b)))) (Float64.div (Float64.sub (mx3 r g b) b) (Float64.sub (mx3 r g b) (mn3 r g b)))) = h
  blue : (Float64.cmp r (mx3 r g b) == some Ordering.eq) = false → (Float64.cmp g (mx3 r g b) == some Ordering.eq) = false →
    hueOf (Float64.sub (Float64.add 4616189618054758400 (Float64.div (Float64.sub (mx3 r g b) g) (Float64.sub (mx3 r g b) (mn3 r g b)))) (Float64.div (Float64.sub (mx3 r g b) r) (Float64.sub (mx3 r g b) (mn3 r g b)))) = h
theorem rgb_fit1 : ∀ n < 64, 1 ≤ n → let c := hsvS (hB (n : Nat)); let (r, g, b) := c
    (Float64.cmp (mn3 r g b) (mx3 r g b) == some Ordering.eq) = false ∧ Float64.isZero (mx3 r g b) = false ∧ Float64.isZero (Float64.sub (mx3 r g b) (mn3 r g b)) = false := by decide +kernel
theorem rgb_fit2 : ∀ n < 64, 1 ≤ n → let c := hsvS (hB (n : Nat)); let (r, g, b) := c
    ((Float64.cmp r (mx3 r g b) == some Ordering.eq) = true → hueOf (Float64.sub (Float64.div (Float64.sub (mx3 r g b) b) (Float64.sub (mx3 r g b) (mn3 r g b))) (Float64.div (Float64.sub (mx3 r g b) g) (Float64.sub (mx3 r g b) (mn3 r g b)))) = hB (n : Nat)) := by decide +kernel
theorem rgb_fit3 : ∀ n < 64, 1 ≤ n → let c := hsvS (hB (n : Nat)); let (r, g, b) := c
    ((Float64.cmp r (mx3 r g b) == some Ordering.eq) = false → (Float64.cmp g (mx3 r g b) == some Ordering.eq) = true →
    hueOf (Float64.sub (Float64.add 4611686018427387904 (Float64.div (Float64.sub (mx3 r g b) r) (Float64.sub (mx3 r g b) (mn3 r g b)))) (Float64.div (Float64.sub (mx3 r g b) b) (Float64.sub (mx3 r g b) (mn3 r g b)))) = hB (n : Nat)) := by decide +kernel
theorem rgb_fit4 : ∀ n < 64, 1 ≤ n → let c := hsvS (hB (n : Nat)); let (r, g, b) := c
    ((Float64.cmp r (mx3 r g b) == some Ordering.eq) = false → (Float64.cmp g (mx3 r g b) == some Ordering.eq) = false →
    hueOf (Float64.sub (Float64.add 4616189618054758400 (Float64.div (Float64.sub (mx3 r g b) g) (Float64.sub (mx3 r g b) (mn3 r g b)))) (Float64.div (Float64.sub (mx3 r g b) r) (Float64.sub (mx3 r g b) (mn3 r g b)))) = hB (n : Nat)) := by decide +kernel
theorem rgb_fits {k : Int} {r g b : UInt64} (h0 : 1 ≤ k) (h1 : k < 64) (e : (r, g, b) = hsvS (hB k)) : RgbFit r g b (hB k) := by
  have ek : ((k.toNat : Nat) : Int) = k := by omega
  have a1 := rgb_fit1 k.toNat (by omega) (by omega)
  have a2 := rgb_fit2 k.toNat (by omega) (by omega)
  have a3 := rgb_fit3 k.toNat (by omega) (by omega)
  have a4 := rgb_fit4 k.toNat (by omega) (by omega)
  rw [ek, ← e] at a1 a2 a3 a4
  exact ⟨a1.1, a1.2.1, a1.2.2, a2, a3, a4⟩

theorem c_rgb {w : World} {mean : ExcName → Option Value} {mg mb : Str → Option Value} {dp un : Nat} {gd : Option (List Code)} {cn : Str} {cs : Scope} {a : Addr} {ccd : Value} {cl : List (Str × Addr)} {outer : List Env} {A₀ : Around} {base h₀ : Heap} {L : Addr} {m : Str → Option Value} {s : Shared} {Q E : Value → Shared → Prop}
   {tail : List (Addr × Obj)} {k : Int} {r g b : UInt64} {t0 t1 t2 : Tok}
   (B : Below A₀ base outer h₀) (F : Fr h₀ L s.heap m) (X : (_root_.Mine.hk.heap_1 w.params).In h₀) (N : News h₀ L s.heap tail) (T : Top VW LO mean mg mb h₀) (hk : cs.kind = .function)
   (hd : dp + 1 < recursionLimit) (hk0 : 1 ≤ k) (hk1 : k < 64) (hrgb : (r, g, b) = hsvS (hB k))
   (hret : ∀ D u ss vv t1 t2 t3 h' tk', u = hB k → (∀ p ∈ tail, p.1 < D) → Fr h₀ L h' m → News h₀ L h' ((D, { cls := .type "tuple", data := .seq #[.float u t1, .float ss t2, .float vv t3] }) :: tail) → Q (.ref D) { s with heap := h', toks := tk' }) :
   wpAny (model PR w) (ktrTop dp un gd cn cs L a ccd cl outer) (call (.ref 28) [.float r t0, .float g t1, .float b t2]) Q E s := by
  have fit := rgb_fits hk0 hk1 hrgb
  obtain ⟨f1, f2, f3, f4, f5, f6⟩ := fit
  unfold hueOf at f4 f5 f6
  refine wpAny_call ?_
  k_dflt cell_enter
  k_steps
  all_goals first
    | (exfalso; (rename (Float64.cmp (mn3 _ _ _) _ == some Ordering.eq) = true => z1); rw [z1] at f1; cases f1)
    | (exfalso; (rename Float64.isZero (Float64.sub _ _) = true => z1); rw [z1] at f3; cases f3)
    | (exfalso; (rename Float64.isZero (mx3 _ _ _) = true => z1); rw [z1] at f2; cases f2)
    | (refine hret _ _ _ _ _ _ _ _ _ ?_ (by assumption) (by assumption) (by assumption)
       first | exact f4 (by assumption) | exact f5 (by assumption) (by assumption) | exact f6 (by assumption) (by assumption))
end Mine
-- part Wrd
namespace Mine

local macro_rules | `(tactic| walk_at "call ref cons nil") => `(tactic| (k_here; k_dflt (refine' c_hsv ?B ?F ?X ?N ?T ?kk ?hd ?h0 ?h1 ?_; (case B => k_asm); (case F => k_asm); (case X => k_asm); (case N => k_asm); (case T => k_asm); (case kk => rfl); (case hd => ktr_room); (case h0 => assumption); (case h1 => assumption); k_whole); intro D r g b t1 t2 t3 h' tk' hrgb l1 F' N'; (try k_lt l1)))
local macro_rules | `(tactic| walk_at "call ref cons nil") => `(tactic| (k_here; k_dflt (refine' c_rgb ?B ?F ?X ?N ?T ?kk ?hd ?h0 ?h1 ?e ?_; (case B => k_asm); (case F => k_asm); (case X => k_asm); (case N => k_asm); (case T => k_asm); (case kk => rfl); (case hd => ktr_room); (case e => assumption); (case h0 => assumption); (case h1 => assumption); k_whole); intro D u ss vv t1 t2 t3 h' tk' hu l1 F' N'; subst hu; (try k_lt l1)))
local macro_rules | `(tactic| walk_at "eval ListComp") => `(tactic| (k_here; lct_look; k_dflt (refine LCt.ListComp_T (F₀ := by k_asm) (by with_unfolding_all rfl) (by decide) (by rfl) (by decide) (by rfl) ?_)))

local macro_rules | `(tactic| walk_at "eval ListComp") => `(tactic| (k_here; (fail_if_success lct_look); k_dflt (refine comp_down (by k_asm) (by with_unfolding_all rfl) (by decide) (by rfl) (by decide) (by rfl) ?_)))
local macro_rules | `(tactic| walk_at "binaryOp Pow int int") => `(tactic| ((fail_if_success (rename Past 1 => q9)); refine halt_intro ?_))
local macro_rules | `(tactic| walk_at "call builtin:len") => `(tactic| (k_here; (with_reducible show wpAny _ _ (call (Value.builtin "len") [Value.ref _]) _ _ _); k_dflt (refine' len_of ?N ?m ?hl ?hf ?_; (case N => k_asm); (case m => k_mem); (case hl => assumption); (case hf => omega); k_whole)))
/-- the figure of a letter: the middle of its stretch, doubled -/
def figS (sh : List Int) (j : Nat) : Int := 2 * (sh.take j).sum + sh.getD j 0
theorem back_is : ∀ n < 64, 1 ≤ n → (Float64.cmpInt (Float64.mul (hB (n : Nat)) (Float64.ofInt 64)) (n : Nat) != some Ordering.eq) = false := by decide +kernel
theorem back_same {k : Int} (h0 : 1 ≤ k) (h1 : k < 64) : (Float64.cmpInt (Float64.mul (hB k) (Float64.ofInt 64)) k != some Ordering.eq) = false := by
  have h := back_is k.toNat (by omega) (by omega)
  rwa [show ((k.toNat : Nat) : Int) = k by omega] at h


theorem gt_is : ∀ n < 64, 1 ≤ n → ∀ S < 33, (Float64.cmpInt (Float64.mul (Float64.ofInt 32) (hB (n : Nat))) (S : Nat) == some Ordering.gt) = decide (2 * S < n) := by decide +kernel
theorem gt_same {k S : Int} (h0 : 1 ≤ k) (h1 : k < 64) (g0 : 0 ≤ S) (g1 : S ≤ 32) : (Float64.cmpInt (Float64.mul (Float64.ofInt 32) (hB k)) S == some Ordering.gt) = decide (2 * S < k) := by
  have h := gt_is k.toNat (by omega) (by omega) S.toNat (by omega)
  rw [show ((k.toNat : Nat) : Int) = k by omega, show ((S.toNat : Nat) : Int) = S by omega] at h
  rw [h]
  exact decide_eq_decide.mpr (by omega)
section
variable {s0 s1 s2 s3 s4 k : Int} {i j : Nat}
theorem take_turn (hi : i < 5) (p0 : 1 ≤ s0) (p1 : 1 ≤ s1) (p2 : 1 ≤ s2) (p3 : 1 ≤ s3) (p4 : 1 ≤ s4) (ps : s0 + s1 + s2 + s3 + s4 = 32) :
    0 ≤ (List.take (0 + (i : Int) + 1).toNat [s0, s1, s2, s3, s4]).sum ∧ (List.take (0 + (i : Int) + 1).toNat [s0, s1, s2, s3, s4]).sum ≤ 32 := by
  rcases (show i = 0 ∨ i = 1 ∨ i = 2 ∨ i = 3 ∨ i = 4 by omega) with rfl | rfl | rfl | rfl | rfl <;> simp <;> omega
theorem past_turn (hi : i < 5) (hj : j < 5) (hk : k = figS [s0, s1, s2, s3, s4] j) (p0 : 1 ≤ s0) (p1 : 1 ≤ s1) (p2 : 1 ≤ s2) (p3 : 1 ≤ s3) (p4 : 1 ≤ s4) :
    2 * (List.take (0 + (i : Int) + 1).toNat [s0, s1, s2, s3, s4]).sum < k ↔ i < j := by
  subst hk
  unfold figS
  rcases (show i = 0 ∨ i = 1 ∨ i = 2 ∨ i = 3 ∨ i = 4 by omega) with rfl | rfl | rfl | rfl | rfl <;>
  rcases (show j = 0 ∨ j = 1 ∨ j = 2 ∨ j = 3 ∨ j = 4 by omega) with rfl | rfl | rfl | rfl | rfl <;> simp <;> omega
theorem fig_low (hj : j < 5) (hk : k = figS [s0, s1, s2, s3, s4] j) (p0 : 1 ≤ s0) (p1 : 1 ≤ s1) (p2 : 1 ≤ s2) (p3 : 1 ≤ s3) (p4 : 1 ≤ s4) (ps : s0 + s1 + s2 + s3 + s4 = 32) : 1 ≤ k ∧ k < 64 := by
  subst hk
  unfold figS
  rcases (show j = 0 ∨ j = 1 ∨ j = 2 ∨ j = 3 ∨ j = 4 by omega) with rfl | rfl | rfl | rfl | rfl <;> simp <;> omega
end

/-- a share, its doublings and one more than their number -/
def Dbl (s sh sz : Int) : Prop := (sz = 1 ∧ sh = s) ∨ (sz = 2 ∧ sh = 2 * s ∧ s < 32) ∨ (sz = 3 ∧ sh = 4 * s ∧ 2 * s < 32) ∨ (sz = 4 ∧ sh = 8 * s ∧ 4 * s < 32) ∨ (sz = 5 ∧ sh = 16 * s ∧ 8 * s < 32) ∨ (sz = 6 ∧ sh = 32 * s ∧ 16 * s < 32)
theorem dbl_start (s : Int) : Dbl s s 1 := .inl ⟨rfl, rfl⟩
theorem dbl_step {s sh sz : Int} (h0 : 1 ≤ s) (h : Dbl s sh sz) (hl : sh < 32) : Dbl s (2 * sh) (sz + 1) := by
  have e : ∀ k j : Int, 2 * k = j → 2 * (k * s) = j * s := fun k j q => by rw [← Int.mul_assoc, q]
  rcases h with ⟨h1, h2⟩ | ⟨h1, h2, _⟩ | ⟨h1, h2, _⟩ | ⟨h1, h2, _⟩ | ⟨h1, h2, _⟩ | ⟨h1, h2, _⟩ <;> rw [h1, h2] <;> rw [h2] at hl
  · exact .inr (.inl ⟨rfl, rfl, hl⟩)
  · exact .inr (.inr (.inl ⟨rfl, e 2 4 rfl, hl⟩))
  · exact .inr (.inr (.inr (.inl ⟨rfl, e 4 8 rfl, hl⟩)))
  · exact .inr (.inr (.inr (.inr (.inl ⟨rfl, e 8 16 rfl, hl⟩))))
  · exact .inr (.inr (.inr (.inr (.inr ⟨rfl, e 16 32 rfl, hl⟩))))
  · exact absurd hl (by omega)
theorem dbl_fall {s sh sz : Int} (h0 : 1 ≤ s) (h : Dbl s sh sz) (hl : sh < 32) : (6 - (sz + 1)).toNat < (6 - sz).toNat := by
  unfold Dbl at *
  omega
/-- the length of a share's word -/
def lenW (s : Int) : Nat := if 32 ≤ 2 * s then 2 else if 32 ≤ 4 * s then 3 else if 32 ≤ 8 * s then 4 else if 32 ≤ 16 * s then 5 else 6
theorem dbl_end {s sh sz : Int} (h0 : 1 ≤ s) (h1 : s ≤ 28) (h : Dbl s sh sz) (hl : ¬ sh < 32) : sz = lenW s := by
  unfold Dbl lenW at *
  (repeat' split) <;> omega
theorem lenW_fit (s : Int) : 2 ≤ lenW s ∧ lenW s ≤ 6 := by
  unfold lenW
  (repeat' split) <;> omega
def leftS (k : Int) (c : Nat) : Int := Flt.toInt Float64.truncOf (Float64.mul (hB k) (Float64.ofInt (2 ^ c)))
theorem left_is : ∀ c < 7, ∀ n < 64, 1 ≤ n → (Float64.isNaN (Float64.mul (hB (n : Nat)) (Float64.ofInt (2 ^ c))) = false ∧ Float64.isInf (Float64.mul (hB (n : Nat)) (Float64.ofInt (2 ^ c))) = false) ∧
    leftS (n : Nat) c = ((n * 2 ^ c / 64 : Nat) : Int) := by decide +kernel
theorem left_same {k : Int} {c : Nat} (h0 : 1 ≤ k) (h1 : k < 64) (hc : c ≤ 6) : (Float64.isNaN (Float64.mul (hB k) (Float64.ofInt (2 ^ c))) = false ∧ Float64.isInf (Float64.mul (hB k) (Float64.ofInt (2 ^ c))) = false) ∧
    0 ≤ leftS k c ∧ leftS k c < 64 := by
  have h := left_is c (by omega) k.toNat (by omega) (by omega)
  rw [show ((k.toNat : Nat) : Int) = k by omega] at h
  refine ⟨h.1, ?_⟩
  rw [h.2]
  have hp : 2 ^ c ≤ 2 ^ 6 := Nat.pow_le_pow_right (by decide) hc
  have hm : k.toNat * 2 ^ c ≤ 63 * 2 ^ 6 := Nat.mul_le_mul (by omega) hp
  generalize k.toNat * 2 ^ c = y at hm
  omega
/-- a word's signs, the word -/
def bitT (k : Int) (c i : Nat) : Str := Str.ofString (toString (((leftS k (c : Int).toNat).fdiv (2 ^ ((c : Int) - 1 + (i : Int) * (-1)).toNat)).fmod 2))
def wordS (k : Int) (c : Nat) : Str := Txt.join (Str.ofString "") ((List.range c).map (bitT k c))
theorem bit_len (k : Int) (c i : Nat) : (bitT k c i).length = 1 := by
  unfold bitT
  generalize (leftS k (c : Int).toNat).fdiv (2 ^ ((c : Int) - 1 + (i : Int) * (-1)).toNat) = x
  have h : x.fmod 2 = 0 ∨ x.fmod 2 = 1 := by
    rw [Int.fmod_eq_emod_of_nonneg _ (by decide)]
    omega
  rcases h with h | h <;> (rw [h]; decide +kernel)
theorem bits_len (k : Int) (c n : Nat) : (((List.range n).map (bitT k c)).map (·.length)).sum = n := by
  induction n with
  | zero => rfl
  | succ n ih => rw [List.range_succ, List.map_append, List.map_append, List.sum_append, ih]; simp [bit_len]
theorem strsAre_snoc {vs : List Value} {ts : List Str} {x : Str} {t : Tok} (h : StrsAre vs ts) : StrsAre (vs ++ [.str x t]) (ts ++ [x]) := by
  induction h with
  | nil => exact .cons _ _ .nil
  | cons x t _ ih => exact .cons x t ih
theorem share_pos {s0 s1 s2 s3 s4 : Int} {j : Nat} (hj : j < 5) (p0 : 1 ≤ s0) (p1 : 1 ≤ s1) (p2 : 1 ≤ s2) (p3 : 1 ≤ s3) (p4 : 1 ≤ s4) (ps : s0 + s1 + s2 + s3 + s4 = 32) :
    1 ≤ [s0, s1, s2, s3, s4].getD (j : Int).toNat 0 ∧ [s0, s1, s2, s3, s4].getD (j : Int).toNat 0 ≤ 28 := by
  rcases (show j = 0 ∨ j = 1 ∨ j = 2 ∨ j = 3 ∨ j = 4 by omega) with rfl | rfl | rfl | rfl | rfl <;> simp <;> omega

theorem c_word {w : World} {mean : ExcName → Option Value} {mg mb : Str → Option Value} {dp un : Nat} {gd : Option (List Code)} {cn : Str} {cs : Scope} {a : Addr} {ccd : Value} {cl : List (Str × Addr)} {outer : List Env} {A₀ : Around} {base h₀ : Heap} {L : Addr} {m : Str → Option Value} {s : Shared} {Q E : Value → Shared → Prop} {l : Addr} {s0 s1 s2 s3 s4 : Int} {t0 t1 t2 t3 t4 : Tok} {n : Nat} {k : Int} {tk : Tok} {j : Nat}
   (B : Below A₀ base outer h₀) (F : Fr h₀ L s.heap m) (X : (_root_.Mine.hk.heap_1 w.params).In h₀) (N : News h₀ L s.heap [(l, listOf #[.int s0 t0, .int s1 t1, .int s2 t2, .int s3 t3, .int s4 t4] n)]) (T : Top VW LO mean mg mb h₀) (hk : cs.kind = .function)
   (hd : dp + 8 < recursionLimit) (hu : un + 64 < cLine) (hj : j < 5) (hkj : k = figS [s0, s1, s2, s3, s4] j) (p0 : 1 ≤ s0) (p1 : 1 ≤ s1) (p2 : 1 ≤ s2) (p3 : 1 ≤ s3) (p4 : 1 ≤ s4) (ps : s0 + s1 + s2 + s3 + s4 = 32)
   (hret : ∀ t h' tk', (∀ b o, s.heap.get? b = some o → h'.get? b = some o) → Fr h₀ L h' m → Q (.str (wordS k (lenW ([s0, s1, s2, s3, s4].getD (j : Int).toNat 0))) t) { s with heap := h', toks := tk' }) :
   wpAny (model PR w) (ktrTop dp un gd cn cs L a ccd cl outer) (call (.ref 154) [.ref l, .int k tk]) Q E s := by
  have hk0 : 1 ≤ k := (fig_low hj hkj p0 p1 p2 p3 p4 ps).1
  have hk1 : k < 64 := (fig_low hj hkj p0 p1 p2 p3 p4 ps).2
  refine wpAny_call ?_
  refine' enter_cells ?k1 ?k2 ?k3 ?k4 ?k5 ?kA ?kF ?kK ?k6 ?k7 ?k8 ?k9 ?kB ?kD ?_ ?c2 ?c3 ?c4
  (case kA => exact rfl); (case kF => exact rfl); (case kK => assumption); (case k1 => k_asm); (case k2 => k_asm); (case k3 => k_asm); (case k4 => k_asm); (case k5 => k_asm); (case k6 => k_is); (case k7 => k_is); (case k8 => ktr_room); (case k9 => exact BindsTo.of_eq rfl); (case kB => exact rfl); (case kD => decide +kernel); (case c2 => exact rfl); (case c3 => exact rfl); (case c4 => exact rfl); k_whole; intro g' L' h' tk' cells' FG' F' N' Y' B' X' T' l1 GS; (try k_lt l1); k_cells Y'; (try simp only [List.cons_append, List.nil_append] at N'); (try dsimp only); (try k_lift B'); (try k_fold)
  k_steps
  · exfalso
    have z := back_same hk0 hk1
    rename (_ != some Ordering.eq) = true => z1
    rw [z1] at z
    cases z
  refine LCt.CompSrcT.range (by rfl) (by k_asm) (by k_asm) (by assumption) (by decide) (by rfl) (by exact Nat.le_of_ble_eq_true rfl) ?_
  intro g'
  refine compT_ind (J := fun i ys => ys.length = min i j) ?_ ?_ 5 0 [] rfl rfl
  · intro i ys hi hJ v I oI C oC D m₂ h tk E' hv hC hx F' N' off ne
    obtain ⟨t9, hv9⟩ := hv
    subst hv9
    have gs := gt_same hk0 hk1 (take_turn hi p0 p1 p2 p3 p4 ps).1 (take_turn hi p0 p1 p2 p3 p4 ps).2
    have pt := past_turn hi hj hkj p0 p1 p2 p3 p4
    have hJ2 : ys.length = min i j := hJ
    clear hJ
    k_steps
    all_goals (
      refine LCg.CompEnd.intro (by assumption) (by assumption) _ ?_ off trivial ⟨rfl, ?_⟩
      · lcg_sub
      · rename (_ == some Ordering.gt) = _ => z
        rw [gs] at z
        simp only [decide_eq_true_eq, decide_eq_false_iff_not] at z
        rw [pt] at z
        first
          | (show (ys ++ [_]).length = min (i + 1) j; rw [List.length_append, hJ2, List.length_singleton]; omega)
          | (show ys.length = min (i + 1) j; rw [hJ2]; omega))
  · intro ys hJ
    have hJ2 : ys.length = j := by
      have z : ys.length = min 5 j := hJ
      rw [z]; omega
    clear hJ
    have sp := share_pos hj p0 p1 p2 p3 p4 ps
    k_with "exec While Compare cons nil" => k_while (fun _ sh sz => Dbl ([s0, s1, s2, s3, s4].getD (j : Int).toNat 0) sh sz) (fun _ _ sz => (6 - sz).toNat) "share" "size"
    k_with "state" => first | exact dbl_start _ | exact dbl_step sp.1 (by assumption) (by first | assumption | (simp only [decide_eq_true_eq] at *; assumption))
    k_with "measure" => exact dbl_fall sp.1 (by assumption) (by first | assumption | (simp only [decide_eq_true_eq] at *; assumption))
    k_steps
    have past := Past.mk (n := 1)
    unfold Halt
    have ez := dbl_end sp.1 sp.2 kInv (by assumption)
    subst ez
    have fz := lenW_fit ([s0, s1, s2, s3, s4].getD (j : Int).toNat 0)
    generalize hc : lenW ([s0, s1, s2, s3, s4].getD (j : Int).toNat 0) = c at *
    obtain ⟨fz1, fz2⟩ := fz
    have zz1 : (2 : Int) ≤ (c : Int) := by omega
    have zz2 : (c : Int) ≤ 6 := by omega
    have lf := left_same (c := (c : Int).toNat) hk0 hk1 (by omega)
    unfold leftS at lf
    obtain ⟨⟨lf1, lf2⟩, lf3, lf4⟩ := lf
    k_steps
    all_goals try (
      exfalso
      rename 2 ^ 1024 - 2 ^ 970 ≤ _ => z1
      rcases (show (c : Int).toNat = 2 ∨ (c : Int).toNat = 3 ∨ (c : Int).toNat = 4 ∨ (c : Int).toNat = 5 ∨ (c : Int).toNat = 6 by omega) with e | e | e | e | e <;> (rw [e] at z1; exact absurd z1 (by decide)))
    all_goals try (
      exfalso
      rename Float64.isNaN _ = true => z1
      rw [lf1] at z1
      cases z1)
    all_goals try (
      exfalso
      rename Float64.isInf _ = true => z1
      rw [lf2] at z1
      cases z1)
    refine ⟨_, _, _, _, _, _, c, _, rfl, rfl, (by k_asm), (by k_asm), (by assumption), ?_, ?_, ?_, ?_⟩
    · exact small_down (by omega) (by omega) (by omega) (by omega)
    · rw [rangeSize_downNat]; omega
    · rw [sizeLine_eq]; omega
    intro g''
    refine compU_ind (J := fun i ys => StrsAre ys ((List.range i).map (bitT k c))) ?_ ?_ c 0 [] (Nat.zero_add c) .nil
    · intro i ys hi hJ v I oI C oC D m₂ h tk E' hv hC hx F' N' off ne
      obtain ⟨t9, hv9⟩ := hv
      subst hv9
      have e0 : (0 : Int) ≤ (c : Int) - 1 + (i : Int) * (-1) := by omega
      have e1 : (c : Int) - 1 + (i : Int) * (-1) ≤ 5 := by omega
      k_steps
      refine LCg.CompEnd.intro (by assumption) (by assumption) _ ?_ off trivial ⟨rfl, ?_⟩
      · lcg_sub
      · show StrsAre (ys ++ [Value.str (bitT k c i) _]) ((List.range (i + 1)).map (bitT k c))
        rw [List.range_succ, List.map_append]
        exact strsAre_snoc hJ
    · intro ys hJ
      have hJ2 : StrsAre ys ((List.range c).map (bitT k c)) := hJ
      clear hJ
      k_steps
      refine join_list (items := ys.toArray) ⟨_, News.get (by assumption) (.head _), rfl, _, rfl⟩ hJ2 ?_ ?_
      · rw [bits_len]
        have e : (Str.ofString "").length = 0 := by decide +kernel
        rw [e]
        omega
      intro t' k'
      k_steps
      refine hret _ _ _ (stood GS N (by assumption) (by assumption) ?_) (by assumption)
      intro p hp
      rw [List.mem_singleton.mp hp]
      k_mem
end Mine
-- part Loops
namespace Mine
section
variable {prog : Program} {w : World} {A : Around} {E : Value → Shared → Prop} {s : Shared} {env : Env} {h₀ : Heap} {target : Expr} {body : List Stmt} {Q : Flow → Shared → Prop}
/-- the end of a loop's turn: the state goes on from c to some c' -/
def TEnd {σ : Type} (h₀ : Heap) (L : Addr) (s₁ : Shared) (Led : σ → List (Addr × Obj)) (J : σ → Prop) (stored : List Str) (m₀ : Str → Option Value) (wr : List Addr) (own : List (Addr × Obj)) (Q : Flow → Shared → Prop) (f : Flow) (s₂ : Shared) : Prop :=
  match f with
  | .ret v => Q (.ret v) s₂
  | .brk => Q .next s₂
  | _ => ∃ (c' : σ) (h' : Heap) (tk : Nat) (m' : Str → Option Value) (news' : List (Addr × Obj)), s₂ = { s₁ with heap := h', toks := tk } ∧ Fr h₀ L h' m' ∧ News h₀ L h' news' ∧ (∀ p ∈ own, p ∈ news') ∧ (∀ p ∈ Led c', p ∈ news') ∧
      (∀ z, stored.contains z = false → m' z = m₀ z) ∧ (∀ p ∈ Led c', p.1 ∉ wr) ∧ J c'
theorem tend {σ : Type} {L : Addr} {s₁ : Shared} {Led : σ → List (Addr × Obj)} {J : σ → Prop} {stored : List Str} {m₀ m' : Str → Option Value} {wr : List Addr} {own news' : List (Addr × Obj)} {h' : Heap} {tk : Nat} (c' : σ)
    (F : Fr h₀ L h' m') (N : News h₀ L h' news') (ho : ∀ p ∈ own, p ∈ news') (hl : ∀ p ∈ Led c', p ∈ news') (hm : ∀ z, stored.contains z = false → m' z = m₀ z) (hw : ∀ p ∈ Led c', p.1 ∉ wr) (hJ : J c') :
    TEnd h₀ L s₁ Led J stored m₀ wr own Q .next { s₁ with heap := h', toks := tk } := ⟨c', h', tk, m', news', rfl, F, N, ho, hl, hm, hw, hJ⟩
theorem off_wr {wr : List Addr} {own : List (Addr × Obj)} {D : Addr} (hw : ∀ b ∈ wr, ∃ o, (b, o) ∈ own) (h : ∀ p ∈ own, p.1 ≠ D) : D ∉ wr := fun hm => by
  obtain ⟨o, ho⟩ := hw D hm
  exact h _ ho rfl
theorem turns_inv {σ : Type} {I : Addr} {fp wr : List Addr} {n : Nat} {P Md : Nat → Value → Heap → Prop} {St : Nat → Heap → Prop} {m₀ : Str → Option Value} {hp : Heap} {tk0 : Nat}
    (W : KTurns prog w A target I fp wr n P Md St) (Led : σ → List (Addr × Obj)) (J : Nat → σ → Prop) (stored : List Str) (c₀ : σ)
    (hL : env.locals ∉ fp) (hwr : ∀ b ∈ wr, h₀.get? b = none) (hlive : ∀ i h, St i h → ∀ b ∈ wr, ∃ o, h.get? b = some o) (hnw : ∀ p ∈ Led c₀, p.1 ∉ wr) (hst : St 0 hp)
    (F : Fr h₀ env.locals hp m₀) (N : News h₀ env.locals hp (Led c₀)) (h0 : J 0 c₀)
    (turn : ∀ i c v (u : Str → Option Value) h tk own, i < n → J i c → P i v h → (∀ p ∈ Led c, p.1 ∉ wr) → (∀ b ∈ wr, ∃ o, (b, o) ∈ own) → (∀ p ∈ own, p.1 ∈ fp) → Fr h₀ env.locals h (fun z => if stored.contains z = true then u z else m₀ z) → News h₀ env.locals h (Led c ++ own) →
      wpAny (model prog w) A (assign target env v) (fun _ s₃ => wpAny (model prog w) A (execs body env) (TEnd h₀ env.locals { s with heap := h, toks := tk } Led (J (i + 1)) stored m₀ wr own Q) E s₃) E { s with heap := h, toks := tk })
    (done : ∀ c (u : Str → Option Value) h tk, J n c → Fr h₀ env.locals h (fun z => if stored.contains z = true then u z else m₀ z) → News h₀ env.locals h (Led c) → Q .next { s with heap := h, toks := tk }) :
    TurnsAt prog w A h₀ env target body Q E (.ref I) { s with heap := hp, toks := tk0 } := by
  have form : ∀ {m₁ : Str → Option Value} {h : Heap}, (∀ z, stored.contains z = false → m₁ z = m₀ z) → Fr h₀ env.locals h m₁ → Fr h₀ env.locals h (fun z => if stored.contains z = true then m₁ z else m₀ z) := by
    intro m₁ h e F₁
    have z : (fun z => if stored.contains z = true then m₁ z else m₀ z) = m₁ := by
      funext z
      cases q : stored.contains z with
      | true => simp
      | false => simp [e z q]
    rw [z]; exact F₁
  refine ⟨I, fp, wr, n, P, Md, St, m₀, Led c₀, fun i m₁ nw => ∃ c, nw = Led c ∧ J i c ∧ ∀ z, stored.contains z = false → m₁ z = m₀ z, rfl, W, hL, hwr, hnw, hst, F, N, ⟨c₀, rfl, h0, fun _ _ => rfl⟩, ?_, ?_⟩
  · rintro i v m₁ nw h₁ tk₁ own hin hP ⟨c, rfl, hJ, hm⟩ hoff hown hget hall hst₁ F₁ N₁
    have hw : ∀ b ∈ wr, ∃ o, (b, o) ∈ own := fun b hb => by
      obtain ⟨o, ho⟩ := hlive _ _ hst₁ b hb
      exact ⟨o, hall b (W.sub b hb) (hwr b hb) o ho⟩
    have N₂ : News h₀ env.locals h₁ (Led c ++ own) := fun p hp => N₁ p ((List.mem_append.mp hp).elim (fun h => List.mem_append.mpr (.inr h)) fun h => List.mem_append.mpr (.inl h))
    refine wpAny_mono (turn i c v m₁ h₁ tk₁ own hin hJ hP hoff hw hown (form hm F₁) N₂) (fun _ s₃ h₃ => wpAny_mono h₃ (fun f s₄ p => ?_) fun _ _ e => e) fun _ _ e => e
    have up : TEnd h₀ env.locals { s with heap := h₁, toks := tk₁ } Led (J (i + 1)) stored m₀ wr own Q .next s₄ →
        LoopStepU h₀ env.locals wr own (fun m₁ nw => ∃ c, nw = Led c ∧ J (i + 1) c ∧ ∀ z, stored.contains z = false → m₁ z = m₀ z) { s with heap := h₁, toks := tk₁ } .next s₄ := by
      rintro ⟨c', h', tk, m', news', rfl, F', N', ho, hl, hm', hw', hJ'⟩
      exact ⟨rfl, h', tk, m', Led c', rfl, F', fun p hp => N' p ((List.mem_append.mp hp).elim (ho p) (hl p)), hw', c', rfl, hJ', hm'⟩
    cases f with
    | ret v => exact .ret p
    | brk => exact .brk p
    | next => exact .next (up p)
    | cont => exact .cont (up p)
  · rintro h' tk m' nw F' N' _ ⟨c, rfl, hJ, hm⟩
    exact done c m' h' tk hJ (form hm F') N'

theorem fm7 (z : Int) : 0 ≤ z.fmod 7 ∧ z.fmod 7 < 7 := by
  rw [Int.fmod_eq_emod_of_nonneg _ (by decide)]; omega
theorem off3 {a I l : Nat} (h : a < I) (hl : a ≠ l) : a ∉ [I + 1, I, l] := by simp; omega
theorem off2 {a I l : Nat} (h : a < I) (hl : a ≠ l) : a ∉ [I, l] := by simp; omega
theorem off1 {a I : Nat} (h : a < I) : a ∉ [I] := by simp; omega
theorem offE {a I : Nat} (h : a < I) : a ∉ [I + 1, I] := by simp; omega
theorem own_off {own : List (Addr × Obj)} {fp adr : List Addr} (ho : ∀ p ∈ own, p.1 ∈ fp) (h : ∀ a ∈ adr, a ∉ fp) : OwnOff own adr := fun p hp b hb e => h b hb (e ▸ ho p hp)

/-- a loop over a list of the ledger -/
theorem list_inv {σ : Type} {l : Addr} {vs : List Value} {k : Nat} {m₀ : Str → Option Value} (Led : σ → List (Addr × Obj)) (J : Nat → σ → Prop) (stored : List Str) (c₀ : σ)
    (hh : A.handled = none) (F : Fr h₀ env.locals s.heap m₀) (N : News h₀ env.locals s.heap (Led c₀)) (hm : (l, listOf vs.toArray k) ∈ Led c₀) (h0 : J 0 c₀)
    (turn : ∀ I i c v (u : Str → Option Value) h tk own, (∀ p ∈ Led c₀, p.1 < I) → i < vs.length → J i c → vs[i]? = some v → (∀ p ∈ Led c, p.1 ∉ [I]) → (∀ b ∈ [I], ∃ o, (b, o) ∈ own) → (∀ p ∈ own, p.1 ∈ [I, l]) → Fr h₀ env.locals h (fun z => if stored.contains z = true then u z else m₀ z) → News h₀ env.locals h (Led c ++ own) →
      wpAny (model prog w) A (assign target env v) (fun _ s₃ => wpAny (model prog w) A (execs body env) (TEnd h₀ env.locals { s with heap := h, toks := tk } Led (J (i + 1)) stored m₀ [I] own Q) E s₃) E { s with heap := h, toks := tk })
    (done : ∀ c (u : Str → Option Value) h tk, J vs.length c → Fr h₀ env.locals h (fun z => if stored.contains z = true then u z else m₀ z) → News h₀ env.locals h (Led c) → Q .next { s with heap := h, toks := tk }) :
    wpAny (model prog w) A (pyIter (.ref l)) (fun it s₂ => TurnsAt prog w A h₀ env target body Q E it s₂) E s := by
  have hax := N _ hm
  have hl : s.heap.IsList l vs.toArray := ⟨_, hax.1, rfl, k, rfl⟩
  have hlt : l < s.heap.objs.size := Heap.lt_size hax.1
  refine wpAny_pyIter_list hl ?_
  refine turns_inv (tk0 := s.toks) (KTurns.ofWalks (Walks.list hh s.heap.objs.size l (Nat.ne_of_lt hlt) vs.toArray) fun i v s Q E st q => letGo_listiter st.1 q) Led J stored c₀ ?_ ?_ ?_ ?_ ?_ (F.push _) (fun p hp => ⟨Heap.get?_push_of_some _ (N p hp).1, (N p hp).2⟩) h0 ?_ ?_
  · intro hI
    rcases List.mem_cons.mp hI with e | hI
    · exact absurd F.ns.lt (e ▸ Nat.lt_irrefl _)
    · exact hax.2.1 (List.mem_singleton.mp hI).symm
  · intro b hb
    rw [List.mem_singleton.mp hb]
    exact next_is_new F
  · intro i h st b hb
    obtain ⟨it, hit, _⟩ := st.1
    rw [List.mem_singleton.mp hb]
    exact ⟨it, hit⟩
  · intro p hp hI
    exact absurd (Heap.lt_size (N p hp).1) ((List.mem_singleton.mp hI) ▸ Nat.lt_irrefl _)
  · exact ⟨⟨_, Heap.get?_push_size _ rfl, rfl, rfl⟩, hl.at fun o e => Heap.get?_push_of_some _ e⟩
  · intro i c v u h tk own hi hJ hP hoff hw ho F' N'
    have hP' : vs.toArray[i]? = some v := hP
    exact turn _ i c v u h tk own (fun p hp => Heap.lt_size (N p hp).1) (by simpa using hi) hJ (by simpa using hP') hoff hw ho F' N'
  · intro c u h tk hJ F' N'
    exact done c u h tk (by simpa using hJ) F' N'

/-- one over its pairs with their numbers -/
theorem enum_inv {σ : Type} {elts : List Expr} {kk : Nat} {pos : Pos} {l : Addr} {vs : List Value} {k : Nat} {m₀ : Str → Option Value} (Led : σ → List (Addr × Obj)) (J : Nat → σ → Prop) (stored : List Str) (c₀ : σ)
    (hh : A.handled = none) (F : Fr h₀ env.locals s.heap m₀) (N : News h₀ env.locals s.heap (Led c₀)) (hm : (l, listOf vs.toArray k) ∈ Led c₀) (h0 : J 0 c₀)
    (turn : ∀ I i c T t x (u : Str → Option Value) h tk own, (∀ p ∈ Led c₀, p.1 < I) → i < vs.length → J i c → vs[i]? = some x → IsTup h T #[.int (i : Int) t, x] → (∀ p ∈ Led c, p.1 ∉ [I + 1, I]) → (∀ b ∈ [I + 1, I], ∃ o, (b, o) ∈ own) → (∀ p ∈ own, p.1 ∈ [I + 1, I, l]) →
      Fr h₀ env.locals h (fun z => if stored.contains z = true then u z else m₀ z) → News h₀ env.locals h (Led c ++ own) →
      wpAny (model prog w) A (assign (.Tuple elts kk pos) env (.ref T)) (fun _ s₃ => wpAny (model prog w) A (execs body env) (TEnd h₀ env.locals { s with heap := h, toks := tk } Led (J (i + 1)) stored m₀ [I + 1, I] own Q) E s₃) E { s with heap := h, toks := tk })
    (done : ∀ c (u : Str → Option Value) h tk, J vs.length c → Fr h₀ env.locals h (fun z => if stored.contains z = true then u z else m₀ z) → News h₀ env.locals h (Led c) → Q .next { s with heap := h, toks := tk }) :
    wpAny (model prog w) A (call (.type "enumerate") [.ref l]) (fun xv s₁ => wpAny (model prog w) A (pyIter xv) (fun it s₂ => TurnsAt prog w A h₀ env (.Tuple elts kk pos) body Q E it s₂) E s₁) E s := by
  have hax := N _ hm
  have hl : s.heap.IsList l vs.toArray := ⟨_, hax.1, rfl, k, rfl⟩
  have hlt : l < s.heap.objs.size := Heap.lt_size hax.1
  have hLs : env.locals < s.heap.objs.size := F.ns.lt
  refine call_enumerate_list hl fun h' hE hI hsz hk => ?_
  refine wpAny_pyIter_enum hE ?_
  refine turns_inv (tk0 := s.toks) (KTurns.ofWalksU (WalksT.enumerate hh (s.heap.objs.size + 1) s.heap.objs.size l (Nat.succ_ne_self _) (ktu_ne 1 hlt) (Nat.ne_of_lt hlt) vs.toArray).toU) Led J stored c₀ ?_ ?_ ?_ ?_ ?_ (F.keeps hk) (N.grown hk) h0 ?_ ?_
  · intro hI'
    have hb' : env.locals = s.heap.objs.size + 1 ∨ env.locals = s.heap.objs.size ∨ env.locals = l := by simpa using hI'
    rcases hb' with e | e | e
    · exact ktu_ne 1 hLs e
    · exact Nat.ne_of_lt hLs e
    · exact hax.2.1 e.symm
  · intro b hb
    have hb' : b = s.heap.objs.size + 1 ∨ b = s.heap.objs.size := by simpa using hb
    rcases hb' with rfl | rfl
    · exact ktu_new F (Nat.le_add_right _ _)
    · exact ktu_new F (Nat.le_refl _)
  · rintro i h ⟨⟨old, he⟩, ⟨oi, hoi, _⟩, _⟩ b hb
    have hb' : b = s.heap.objs.size + 1 ∨ b = s.heap.objs.size := by simpa using hb
    rcases hb' with rfl | rfl
    · exact ⟨_, he⟩
    · exact ⟨_, hoi⟩
  · intro p hp hI'
    have hb' : p.1 = s.heap.objs.size + 1 ∨ p.1 = s.heap.objs.size := by simpa using hI'
    have hlp := Heap.lt_size (N p hp).1
    rcases hb' with e | e
    · exact ktu_ne 1 hlp e
    · exact Nat.ne_of_lt hlp e
  · exact ⟨⟨.none, hE⟩, hI, hl.at fun o e => hk l o e⟩
  · rintro i c v u h tk own hi hJ ⟨T, vals, rfl, ⟨t, x, hx, rfl⟩, hT⟩ hoff hw ho F' N'
    exact turn _ i c T t x u h tk own (fun p hp => Heap.lt_size (N p hp).1) (by simpa using hi) hJ (by simpa using hx) hT hoff hw ho F' N'
  · intro c u h tk hJ F' N'
    exact done c u h tk (by simpa using hJ) F' N'

/-- one over a range by ones -/
theorem range_inv {σ : Type} {r : Addr} {a b : Int} {t₀ u₀ v₀ : Tok} {n : Nat} {x : Str} {px : Pos} {m₀ : Str → Option Value} (Led : σ → List (Addr × Obj)) (J : Nat → σ → Prop) (stored : List Str) (c₀ : σ)
    (hh : A.handled = none) (hr : IsRange s.heap r a b 1 t₀ u₀ v₀) (hsm : Builtin.Range.small a b 1 = true) (hn : Builtin.Range.rangeSize a b 1 = ((n : Nat) : Int)) (F : Fr h₀ env.locals s.heap m₀) (N : News h₀ env.locals s.heap (Led c₀)) (h0 : J 0 c₀)
    (turn : ∀ I i c t (u : Str → Option Value) h tk own, (∀ p ∈ Led c₀, p.1 < I) → i < n → J i c → (∀ p ∈ Led c, p.1 ∉ [I]) → (∀ b ∈ [I], ∃ o, (b, o) ∈ own) → (∀ p ∈ own, p.1 ∈ [I]) → Fr h₀ env.locals h (fun z => if stored.contains z = true then u z else m₀ z) → News h₀ env.locals h (Led c ++ own) →
      wpAny (model prog w) A (assign (.Name x px) env (.int (a + (i : Int)) t)) (fun _ s₃ => wpAny (model prog w) A (execs body env) (TEnd h₀ env.locals { s with heap := h, toks := tk } Led (J (i + 1)) stored m₀ [I] own Q) E s₃) E { s with heap := h, toks := tk })
    (done : ∀ c (u : Str → Option Value) h tk, J n c → Fr h₀ env.locals h (fun z => if stored.contains z = true then u z else m₀ z) → News h₀ env.locals h (Led c) → Q .next { s with heap := h, toks := tk }) :
    wpAny (model prog w) A (pyIter (.ref r)) (fun it s₂ => TurnsAt prog w A h₀ env (.Name x px) body Q E it s₂) E s := by
  refine wpAny_pyIter_range hr hsm ?_
  refine turns_inv (tk0 := s.toks) (KTurns.ofWalks (LCg.range_walks hh a n) fun i v s Q E st q => wpAny_pure q) Led J stored c₀ ?_ ?_ ?_ ?_ ?_ (F.push _) (fun p hp => ⟨Heap.get?_push_of_some _ (N p hp).1, (N p hp).2⟩) h0 ?_ ?_
  · intro hI
    exact absurd F.ns.lt ((List.mem_singleton.mp hI) ▸ Nat.lt_irrefl _)
  · intro b hb
    rw [List.mem_singleton.mp hb]
    exact next_is_new F
  · intro i h st b hb
    rw [List.mem_singleton.mp hb]
    exact ⟨_, st⟩
  · intro p hp hI
    exact absurd (Heap.lt_size (N p hp).1) ((List.mem_singleton.mp hI) ▸ Nat.lt_irrefl _)
  · show IsRangeIter _ _ _ _ _
    rw [hn]
    simpa using Heap.get?_push_size _ rfl
  · rintro i c v u h tk own hi hJ ⟨t, rfl⟩ hoff hw ho F' N'
    exact turn _ i c t u h tk own (fun p hp => Heap.lt_size (N p hp).1) hi hJ hoff hw ho F' N'
  · intro c u h tk hJ F' N'
    exact done c u h tk hJ F' N'
end
end Mine
-- part Shr
namespace Mine

local macro_rules | `(tactic| walk_at "exec For Tuple Call") => `(tactic| (k_here; k_dflt (refine For_turns (by k_asm) ?_)))
/-- the shares that the law can meet -/
def ShOk (S : List Int) : Prop := ∃ a b c d : Int, (0 ≤ a ∧ a < 7) ∧ (0 ≤ b ∧ b < 7) ∧ (0 ≤ c ∧ c < 7) ∧ (0 ≤ d ∧ d < 7) ∧
  S = List.take ((a + 1 + 2 * (b + 1)).fmod 5).toNat [a + 1, b + 1, c + 1, d + 1] ++ [32 - (a + 1 + (b + 1 + (c + 1 + (d + 1 + 0))))] ++ List.drop ((a + 1 + 2 * (b + 1)).fmod 5).toNat [a + 1, b + 1, c + 1, d + 1]
theorem five_list {S : List Int} (h : S.length = 5) : ∃ a b c d e, S = [a, b, c, d, e] := by
  obtain ⟨a, S, rfl⟩ := List.exists_cons_of_length_eq_add_one h
  obtain ⟨b, S, rfl⟩ := List.exists_cons_of_length_eq_add_one (Nat.succ.inj h)
  obtain ⟨c, S, rfl⟩ := List.exists_cons_of_length_eq_add_one (Nat.succ.inj (Nat.succ.inj h))
  obtain ⟨d, S, rfl⟩ := List.exists_cons_of_length_eq_add_one (Nat.succ.inj (Nat.succ.inj (Nat.succ.inj h)))
  obtain ⟨e, S, rfl⟩ := List.exists_cons_of_length_eq_add_one (Nat.succ.inj (Nat.succ.inj (Nat.succ.inj (Nat.succ.inj h))))
  obtain rfl := List.length_eq_zero_iff.mp (Nat.succ.inj (Nat.succ.inj (Nat.succ.inj (Nat.succ.inj (Nat.succ.inj h)))))
  exact ⟨_, _, _, _, _, rfl⟩
theorem ints_first {vs : List Value} {x : Int} {r : List Int} (h : IntsAre vs (x :: r)) : ∃ t vs', vs = .int x t :: vs' ∧ IntsAre vs' r := by
  cases h with
  | cons _ t h => exact ⟨t, _, rfl, h⟩
theorem ints_none {vs : List Value} (h : IntsAre vs []) : vs = [] := by
  cases h
  rfl
theorem five {ws : List Value} {S : List Int} (h : IntsAre ws S) (k : ShOk S) : ∃ s0 s1 s2 s3 s4 t0 t1 t2 t3 t4, S = [s0, s1, s2, s3, s4] ∧ ws = [.int s0 t0, .int s1 t1, .int s2 t2, .int s3 t3, .int s4 t4] := by
  obtain ⟨a, b, c, d, _, _, _, _, rfl⟩ := k
  obtain ⟨s0, s1, s2, s3, s4, e⟩ := five_list (S := List.take ((a + 1 + 2 * (b + 1)).fmod 5).toNat [a + 1, b + 1, c + 1, d + 1] ++ [32 - (a + 1 + (b + 1 + (c + 1 + (d + 1 + 0))))] ++ List.drop ((a + 1 + 2 * (b + 1)).fmod 5).toNat [a + 1, b + 1, c + 1, d + 1]) (by
    simp only [List.length_append, List.length_take, List.length_drop, List.length_cons, List.length_nil]; omega)
  rw [e] at h
  obtain ⟨t0, v0, e0, h0⟩ := ints_first h
  obtain ⟨t1, v1, e1, h1⟩ := ints_first h0
  obtain ⟨t2, v2, e2, h2⟩ := ints_first h1
  obtain ⟨t3, v3, e3, h3⟩ := ints_first h2
  obtain ⟨t4, v4, e4, h4⟩ := ints_first h3
  rw [ints_none h4] at e4
  rw [e4] at e3
  rw [e3] at e2
  rw [e2] at e1
  rw [e1] at e0
  exact ⟨_, _, _, _, _, _, _, _, _, _, e, e0⟩
structure Q4 where
  a : Int
  b : Int
  c : Int
  d : Int
  ta : Tok
  tb : Tok
  tc : Tok
  td : Tok
  n : Nat
def Q4.Ok (q : Q4) : Prop := (0 ≤ q.a ∧ q.a < 7) ∧ (0 ≤ q.b ∧ q.b < 7) ∧ (0 ≤ q.c ∧ q.c < 7) ∧ (0 ≤ q.d ∧ q.d < 7)

theorem kif4 (k x : Int) (u : Tok) (a b c d : Int) (ta tb tc td : Tok) : ∃ a' b' c' d' ta' tb' tc' td', kifSet k x u 0 [(a, ta), (b, tb), (c, tc), (d, td)] = [.int a' ta', .int b' tb', .int c' tc', .int d' td'] ∧ (a' = x ∨ a' = a) ∧ (b' = x ∨ b' = b) ∧ (c' = x ∨ c' = c) ∧ (d' = x ∨ d' = d) := by
  refine ⟨_, _, _, _, _, _, _, _, rfl, ?_, ?_, ?_, ?_⟩ <;> dsimp only <;> split <;> simp

theorem set4 {prog : Program} {w : World} {A : Around} {E : Value → Shared → Prop} {s : Shared} {h₀ : Heap} {L D : Addr} {m : Str → Option Value} {p : Addr × Obj} {own : List (Addr × Obj)} {Q : Unit → Shared → Prop} {k x : Int} {t u : Tok} {a b c d : Int} {ta tb tc td : Tok} {n : Nat}
    (F : Fr h₀ L s.heap m) (N : News h₀ L s.heap (p :: (D, listOf #[.int a ta, .int b tb, .int c tc, .int d td] n) :: own)) (hp : p.1 ≠ D) (off : ∀ q ∈ own, q.1 ≠ D) (h0 : 0 ≤ k) (h1 : k < 4)
    (h : ∀ h' a' b' c' d' ta' tb' tc' td', (a' = x ∨ a' = a) → (b' = x ∨ b' = b) → (c' = x ∨ c' = c) → (d' = x ∨ d' = d) → Fr h₀ L h' m → News h₀ L h' (p :: (D, listOf #[.int a' ta', .int b' tb', .int c' tc', .int d' td'] n) :: own) → Q () { s with heap := h' }) :
    wpAny (model prog w) A (setItem (.ref D) (.int k t) (.int x u)) Q E s := by
  obtain ⟨a', b', c', d', ta', tb', tc', td', ek, ea, eb, ec, ed⟩ := kif4 k x u a b c d ta tb tc td
  exact kif_setItem (l := [(a, ta), (b, tb), (c, tc), (d, td)]) (N := 4) F N (.tail hp (.head off)) rfl ek rfl (by decide) h0 h1 fun h' F' N' => h h' a' b' c' d' ta' tb' tc' td' ea eb ec ed F' N'

theorem c_shares {w : World} {mean : ExcName → Option Value} {mg mb : Str → Option Value} {dp un : Nat} {gd : Option (List Code)} {cn : Str} {cs : Scope} {a : Addr} {ccd : Value} {cl : List (Str × Addr)} {outer : List Env} {A₀ : Around} {base h₀ : Heap} {L : Addr} {m : Str → Option Value} {s : Shared} {Q E : Value → Shared → Prop} {l : Addr} {vs : List Value} {ns : List Int}
   (B : Below A₀ base outer h₀) (F : Fr h₀ L s.heap m) (X : (_root_.Mine.hk.heap_1 w.params).In h₀) (N : News h₀ L s.heap []) (T : Top VW LO mean mg mb h₀) (hk : cs.kind = .function)
   (hd : dp + 1 < recursionLimit) (hu : un + 64 < cLine) (hL : s.heap.IsList l vs.toArray) (hI : IntsAre vs ns) (hb : ns.length ≤ 63)
   (hret : ∀ D h' tk' s0 s1 s2 s3 s4 t0 t1 t2 t3 t4, ShOk [s0, s1, s2, s3, s4] → (∀ b o, s.heap.get? b = some o → h'.get? b = some o) → (∀ b o, s.heap.get? b = some o → b ≠ D) → Fr h₀ L h' m → News h₀ L h' [(D, listOf #[.int s0 t0, .int s1 t1, .int s2 t2, .int s3 t3, .int s4 t4] 0)] → Q (.ref D) { s with heap := h', toks := tk' }) :
   wpAny (model PR w) (ktrTop dp un gd cn cs L a ccd cl outer) (call (.ref 130) [.ref l]) Q E s := by
  refine wpAny_call ?_
  refine' code_defG ?k1 ?k2 ?k3 ?k4 ?k5 ?kA ?kF ?kK ?k6 ?k7 ?k8 ?k9 ?kB ?_ ?c2 ?c3 ?c4 ?c5
  (case kA => exact rfl); (case kF => exact rfl); (case kK => assumption); (case k1 => k_asm); (case k2 => k_asm); (case k3 => k_asm); (case k4 => k_asm); (case k5 => k_asm); (case k6 => k_is); (case k7 => k_is); (case k8 => ktr_room); (case k9 => exact BindsTo.of_eq rfl); (case kB => exact locs rfl); (case c2 => exact rfl); (case c3 => exact rfl); (case c4 => exact rfl); (case c5 => decide); k_whole; intro g' L' h' FG' F' N' B' X' T' GS; (try dsimp only); (try k_lift B'); (try k_fold)
  have hLg : g'.IsList l vs.toArray := by
    obtain ⟨o, ho, r⟩ := hL
    exact ⟨o, GS l o ho (by simp), r⟩
  k_steps

  rename_i lS h1 e1 h2 D ws h3 F2 N2 hI2 hC2 hL2 l2
  have l3 : @LT.lt Nat _ lS D := l2
  refine enum_inv (σ := Q4) (vs := ws) (k := 0) (fun q => [(D, listOf ws.toArray 0), (lS, listOf #[.int q.a q.ta, .int q.b q.tb, .int q.c q.tc, .int q.d q.td] q.n)]) (fun _ q => q.Ok) [Str.ofString "k", Str.ofString "x"] ⟨4, 0, 6, 2, _, _, _, _, _⟩ rfl F2 N2 (.head _) (by unfold Q4.Ok; dsimp only; omega) ?_ ?_
  · intro I i q T t x u h tk own hlt hi hJ hx hT hoff hw ho F3 N3
    have hi' : i < (List.take 16 ns).length := by rw [← hI2.length]; exact hi
    obtain ⟨y, ty, rfl⟩ : ∃ y ty, x = Value.int y ty := by
      obtain ⟨ty, e⟩ := hI2.get i (List.take 16 ns)[i] (List.getElem?_eq_getElem hi')
      rw [hx] at e
      exact ⟨_, ty, Option.some.inj e⟩
    have lI : @LT.lt Nat _ lS I := hlt _ (.tail _ (.head _))
    have off : OwnOff own [lS] := own_off ho (by
      intro a ha
      rw [List.mem_singleton.mp ha]
      exact off3 lI (Nat.ne_of_lt l3))
    simp only [List.cons_append, List.nil_append] at N3
    k_steps
    refine set4 (by assumption) (by assumption) (Ne.symm (Nat.ne_of_lt l3)) (fun q hq => off q hq _ (.head _)) ?_ ?_ ?_
    · rw [Int.fmod_eq_emod_of_nonneg _ (by decide)]; omega
    · rw [Int.fmod_eq_emod_of_nonneg _ (by decide)]; omega
    intro h' a' b' c' d' ta' tb' tc' td' ea eb ec ed F4 N4
    dsimp only
    k_steps
    refine tend (σ := Q4) (⟨a', b', c', d', ta', tb', tc', td', q.n⟩ : Q4) F4 N4 (fun p hp => .tail _ (.tail _ hp)) (List.forall_mem_cons.mpr ⟨.head _, List.forall_mem_cons.mpr ⟨?_, fun _ h => nomatch h⟩⟩) ?_
      (List.forall_mem_cons.mpr ⟨hoff _ (.head _), List.forall_mem_cons.mpr ⟨?_, fun _ h => nomatch h⟩⟩) ?_
    · exact .tail _ (.head _)
    rotate_left
    · show lS ∉ _; exact hoff (lS, _) (.tail _ (.head _))
    rotate_right
    · intro z hz
      have h2 := hz
      simp only [List.contains_cons, List.contains_nil, Bool.or_false, Bool.or_eq_false_iff, beq_eq_false_iff_ne, ne_eq] at h2
      simp [h2]
    · have Z := fm7 ([q.a, q.b, q.c, q.d].getD ((i : Int).fmod 4).toNat 0 + y)
      obtain ⟨j1, j2, j3, j4⟩ := hJ
      refine ⟨?_, ?_, ?_, ?_⟩ <;> dsimp only
      · rcases ea with rfl | rfl <;> assumption
      · rcases eb with rfl | rfl <;> assumption
      · rcases ec with rfl | rfl <;> assumption
      · rcases ed with rfl | rfl <;> assumption
  · rintro ⟨qa, qb, qc, qd, ta, tb, tc, td, n⟩ u h tk hJ F3 N3
    obtain ⟨⟨a0, a1⟩, ⟨b0, b1⟩, ⟨c0, c1⟩, ⟨d0, d1⟩⟩ := hJ
    dsimp only at a0 a1 b0 b1 c0 c1 d0 d1
    dsimp only at N3
    k_steps
    have ok : ShOk (List.take ((qa + 1 + 2 * (qb + 1)).fmod 5).toNat [qa + 1, qb + 1, qc + 1, qd + 1] ++ [32 - (qa + 1 + (qb + 1 + (qc + 1 + (qd + 1 + 0))))] ++ List.drop ((qa + 1 + 2 * (qb + 1)).fmod 5).toNat [qa + 1, qb + 1, qc + 1, qd + 1]) := ⟨qa, qb, qc, qd, ⟨a0, a1⟩, ⟨b0, b1⟩, ⟨c0, c1⟩, ⟨d0, d1⟩, rfl⟩
    rename_i D5 ws5 h5 F5 N5 I5 lt5 F6 N6 T6 X6
    obtain ⟨s0, s1, s2, s3, s4, t0, t1, t2, t3, t4, eS, eW⟩ := five I5 ok
    have ok5 : ShOk [s0, s1, s2, s3, s4] := eS ▸ (show ShOk _ from ok)
    subst eW
    refine hret D5 _ _ s0 s1 s2 s3 s4 t0 t1 t2 t3 t4 ok5 (stood GS N (by assumption) (by assumption) (fun p hp => nomatch hp)) (apart_new GS N N5 (.head _) (fun p hp => nomatch hp)) (by assumption) (news_one N6 (.head _))
end Mine
-- part Fig
namespace Mine

theorem c_fig {w : World} {mean : ExcName → Option Value} {mg mb : Str → Option Value} {dp un : Nat} {gd : Option (List Code)} {cn : Str} {cs : Scope} {a : Addr} {ccd : Value} {cl : List (Str × Addr)} {outer : List Env} {A₀ : Around} {base h₀ : Heap} {L : Addr} {m : Str → Option Value} {s : Shared} {Q E : Value → Shared → Prop} {l : Addr} {s0 s1 s2 s3 s4 : Int} {t0 t1 t2 t3 t4 : Tok} {n : Nat} {k : Int} {tk : Tok}
   (B : Below A₀ base outer h₀) (F : Fr h₀ L s.heap m) (X : (_root_.Mine.hk.heap_1 w.params).In h₀) (N : News h₀ L s.heap [(l, listOf #[.int s0 t0, .int s1 t1, .int s2 t2, .int s3 t3, .int s4 t4] n)]) (T : Top VW LO mean mg mb h₀) (hk : cs.kind = .function)
   (hd : dp + 1 < recursionLimit) (hk0 : 0 ≤ k) (hk1 : k < 5)
   (hret : ∀ t h' tk', (∀ b o, s.heap.get? b = some o → h'.get? b = some o) → Fr h₀ L h' m → Q (.int (2 * (List.take k.toNat [s0, s1, s2, s3, s4]).sum + [s0, s1, s2, s3, s4].getD k.toNat 0) t) { s with heap := h', toks := tk' }) :
   wpAny (model PR w) (ktrTop dp un gd cn cs L a ccd cl outer) (call (.ref 142) [.ref l, .int k tk]) Q E s := by
  refine wpAny_call ?_
  refine' code_defG ?k1 ?k2 ?k3 ?k4 ?k5 ?kA ?kF ?kK ?k6 ?k7 ?k8 ?k9 ?kB ?_ ?c2 ?c3 ?c4 ?c5
  (case kA => exact rfl); (case kF => exact rfl); (case kK => assumption); (case k1 => k_asm); (case k2 => k_asm); (case k3 => k_asm); (case k4 => k_asm); (case k5 => k_asm); (case k6 => k_is); (case k7 => k_is); (case k8 => ktr_room); (case k9 => exact BindsTo.of_eq rfl); (case kB => exact locs rfl); (case c2 => exact rfl); (case c3 => exact rfl); (case c4 => exact rfl); (case c5 => decide); k_whole; intro g' L' h' FG' F' N' B' X' T' GS; (try dsimp only); (try k_lift B'); (try k_fold)
  k_steps
  refine hret _ _ _ (stood GS N (by assumption) (by assumption) ?_) (by assumption)
  intro p hp
  rw [List.mem_singleton.mp hp]
  k_mem
end Mine
-- part Let
namespace Mine

local macro_rules | `(tactic| walk_at "eval ListComp") => `(tactic| (k_here; k_dflt (refine LCg.ListComp_U (F₀ := by k_asm) (by with_unfolding_all rfl) (by decide) (by rfl) (by decide) (by rfl) ?_)))
def LetOk (ls : List Int) : Prop := (∀ x ∈ ls, 0 ≤ x ∧ x < 5) ∧ 6 ≤ ls.length ∧ ls.length ≤ 14 ∧ ls.length % 2 = 0
theorem rep_len (n : Nat) (x : Int) : (List.replicate n [x]).flatten.length = n := by simp
theorem let_ok {ns : List Int} : LetOk (([1, 4, 0, 2, 3] ++ List.map (fun k' : Int => (k'.fdiv 7).fmod 5) (List.take 8 ns)) ++ (List.replicate (((1 + 1 + 1 + 1 + 1 + (List.map (fun k' : Int => (k'.fdiv 7).fmod 5) (List.take 8 ns)).length : Nat) : Int).fmod 2).toNat [(1 : Int)]).flatten) := by
  have hn : (List.map (fun k' : Int => (k'.fdiv 7).fmod 5) (List.take 8 ns)).length ≤ 8 := by simp; omega
  have hx : ∀ x ∈ List.map (fun k' : Int => (k'.fdiv 7).fmod 5) (List.take 8 ns), 0 ≤ x ∧ x < 5 := by
    intro x hx
    obtain ⟨y, _, rfl⟩ := List.mem_map.mp hx
    rw [Int.fmod_eq_emod_of_nonneg _ (by decide)]; omega
  revert hn hx
  generalize List.map (fun k' : Int => (k'.fdiv 7).fmod 5) (List.take 8 ns) = zs
  intro hn hx
  have e : ((((1 + 1 + 1 + 1 + 1 + zs.length : Nat) : Int)).fmod 2).toNat = (5 + zs.length) % 2 := by
    rw [Int.fmod_eq_emod_of_nonneg _ (by decide)]; omega
  rw [e]
  refine ⟨?_, ?_⟩
  · intro x hm
    rcases List.mem_append.mp hm with hm | hm
    · rcases List.mem_append.mp hm with hm | hm
      · exact (show ∀ x ∈ [(1 : Int), 4, 0, 2, 3], 0 ≤ x ∧ x < 5 by decide) x hm
      · exact hx x hm
    · obtain ⟨l, hl, hm⟩ := List.mem_flatten.mp hm
      rw [(List.mem_replicate.mp hl).2] at hm
      rw [List.mem_singleton.mp hm]; decide
  · simp only [List.length_append, rep_len, List.length_cons, List.length_nil]
    omega
theorem c_letters {w : World} {mean : ExcName → Option Value} {mg mb : Str → Option Value} {dp un : Nat} {gd : Option (List Code)} {cn : Str} {cs : Scope} {a : Addr} {ccd : Value} {cl : List (Str × Addr)} {outer : List Env} {A₀ : Around} {base h₀ : Heap} {L : Addr} {m : Str → Option Value} {s : Shared} {Q E : Value → Shared → Prop} {l : Addr} {vs : List Value} {ns : List Int}
   (B : Below A₀ base outer h₀) (F : Fr h₀ L s.heap m) (X : (_root_.Mine.hk.heap_1 w.params).In h₀) (N : News h₀ L s.heap []) (T : Top VW LO mean mg mb h₀) (hk : cs.kind = .function)
   (hd : dp + 1 < recursionLimit) (hu : un + 64 < cLine) (hL : s.heap.IsList l vs.toArray) (hI : IntsAre vs ns) (hb : ns.length ≤ 63)
   (hret : ∀ D h' tk' ls ws, LetOk ls → IntsAre ws ls → (∀ b o, s.heap.get? b = some o → h'.get? b = some o) → (∀ b o, s.heap.get? b = some o → b ≠ D) → Fr h₀ L h' m → News h₀ L h' [(D, listOf ws.toArray 0)] → Q (.ref D) { s with heap := h', toks := tk' }) :
   wpAny (model PR w) (ktrTop dp un gd cn cs L a ccd cl outer) (call (.ref 135) [.ref l]) Q E s := by
  refine wpAny_call ?_
  refine' code_defG ?k1 ?k2 ?k3 ?k4 ?k5 ?kA ?kF ?kK ?k6 ?k7 ?k8 ?k9 ?kB ?_ ?c2 ?c3 ?c4 ?c5
  (case kA => exact rfl); (case kF => exact rfl); (case kK => assumption); (case k1 => k_asm); (case k2 => k_asm); (case k3 => k_asm); (case k4 => k_asm); (case k5 => k_asm); (case k6 => k_is); (case k7 => k_is); (case k8 => ktr_room); (case k9 => exact BindsTo.of_eq rfl); (case kB => exact locs rfl); (case c2 => exact rfl); (case c3 => exact rfl); (case c4 => exact rfl); (case c5 => decide); k_whole; intro g' L' h' FG' F' N' B' X' T' GS; (try dsimp only); (try k_lift B'); (try k_fold)
  have hLg : g'.IsList l vs.toArray := by
    obtain ⟨o, ho, r⟩ := hL
    exact ⟨o, GS l o ho (by simp), r⟩
  k_steps
  rename_i D5 ws5 h5 I5 lt4 l4 h4 h3 F3 N3 lt3 D3 h2 F2 N2 i1 n1 s1 e1 e2 e3 lt2
  have hn : (List.map (fun k' : Int => (k'.fdiv 7).fmod 5) (List.take 8 ns)).length ≤ 8 := by simp; omega
  refine kmk_add_ints (hi := by assumption) (hj := i1) (by k_asm) (by k_asm) (by kmk_list) (by kmk_list) ?_ ?_
  · intro D us h' F' N' lt hI
    k_steps
    rename_i F6 N6 T6 X6
    exact hret D _ _ _ us let_ok hI (stood GS N (by assumption) N' (fun p hp => nomatch hp)) (apart_new GS N N' (.head _) (fun p hp => nomatch hp)) (by assumption) (news_one N6 (.head _))
  · have z := (let_ok (ns := ns)).2.2.1
    rw [List.length_append] at z
    exact Nat.le_trans z (Nat.le_of_ble_eq_true rfl)
end Mine
-- part Ord
namespace Mine

/-- none begins another one, each stands ahead of the next ones, none is empty -/
def OrdOk (ts : List Str) : Prop := ts.length = 5 ∧ (∀ j k : Nat, j < k → k < 5 → decide ((ts.getD j Str.empty).cps.toList < (ts.getD k Str.empty).cps.toList) = true ∧ Txt.startswith (ts.getD k Str.empty) (ts.getD j Str.empty) = false ∧ Txt.startswith (ts.getD j Str.empty) (ts.getD k Str.empty) = false) ∧ (ts.any fun x => x == Str.ofString "") = false
section
variable {prog : Program} {w : World} {A : Around} {E : Value → Shared → Prop} {s : Shared} {x y : Str} {t u : Tok} {Q : Value → Shared → Prop}
theorem ge_no (h : decide (x.cps.toList < y.cps.toList) = true) (k : Q (.bool false) s) : wpAny (model prog w) A (compareOp .GtE (.str x t) (.str y u)) Q E s := P.ge_str (by rw [h]; exact k)
theorem starts_no (h : Txt.startswith x y = false) (k : Q (.bool false) s) : wpAny (model prog w) A (call (.builtin "str.startswith") [.str x t, .str y u]) Q E s := SC.startswith (by rw [h]; exact k)
end
theorem rng5 : ∀ i < 5, Builtin.Range.small 0 (0 + ((i : Nat) : Int)) 1 = true ∧ Builtin.Range.rangeSize 0 (0 + ((i : Nat) : Int)) 1 = ((i : Nat) : Int) := by decide
local macro_rules | `(tactic| walk_at "exec For Name Call cons nil") => `(tactic| (k_here; k_dflt (refine For_turns (by k_asm) ?_)))
local macro_rules | `(tactic| walk_at "compareOp GtE str str") => `(tactic| (refine ge_no (by assumption) ?_))
local macro_rules | `(tactic| walk_at "call builtin:str.startswith") => `(tactic| (refine starts_no (by assumption) ?_))
local macro_rules | `(tactic| walk_at "pyIter ref") => `(tactic| (k_here; (refine halt_intro ?_)))
theorem c_ord {w : World} {mean : ExcName → Option Value} {mg mb : Str → Option Value} {dp un : Nat} {gd : Option (List Code)} {cn : Str} {cs : Scope} {a : Addr} {ccd : Value} {cl : List (Str × Addr)} {outer : List Env} {A₀ : Around} {base h₀ : Heap} {L : Addr} {m : Str → Option Value} {s : Shared} {Q E : Value → Shared → Prop} {l : Addr} {w0 w1 w2 w3 w4 : Str} {t0 t1 t2 t3 t4 : Tok} {n : Nat}
   (B : Below A₀ base outer h₀) (F : Fr h₀ L s.heap m) (X : (_root_.Mine.hk.heap_1 w.params).In h₀) (N : News h₀ L s.heap [(l, listOf #[.str w0 t0, .str w1 t1, .str w2 t2, .str w3 t3, .str w4 t4] n)]) (T : Top VW LO mean mg mb h₀) (hk : cs.kind = .function)
   (hd : dp + 1 < recursionLimit) (ok : OrdOk [w0, w1, w2, w3, w4])
   (hret : ∀ h' tk', (∀ b o, s.heap.get? b = some o → h'.get? b = some o) → Fr h₀ L h' m → Q (.bool true) { s with heap := h', toks := tk' }) :
   wpAny (model PR w) (ktrTop dp un gd cn cs L a ccd cl outer) (call (.ref 161) [.ref l]) Q E s := by
  refine wpAny_call ?_
  refine' code_defG ?k1 ?k2 ?k3 ?k4 ?k5 ?kA ?kF ?kK ?k6 ?k7 ?k8 ?k9 ?kB ?_ ?c2 ?c3 ?c4 ?c5
  (case kA => exact rfl); (case kF => exact rfl); (case kK => assumption); (case k1 => k_asm); (case k2 => k_asm); (case k3 => k_asm); (case k4 => k_asm); (case k5 => k_asm); (case k6 => k_is); (case k7 => k_is); (case k8 => ktr_room); (case k9 => exact BindsTo.of_eq rfl); (case kB => exact locs rfl); (case c2 => exact rfl); (case c3 => exact rfl); (case c4 => exact rfl); (case c5 => decide); k_whole; intro g' L' h' FG' F' N' B' X' T' GS; (try dsimp only); (try k_lift B'); (try k_fold)
  have hS : StrsAre [Value.str w0 t0, .str w1 t1, .str w2 t2, .str w3 t3, .str w4 t4] [w0, w1, w2, w3, w4] := .cons _ _ (.cons _ _ (.cons _ _ (.cons _ _ (.cons _ _ .nil))))
  k_steps
  unfold Halt
  refine range_inv (σ := Unit) (n := 5) (fun _ => [(l, listOf #[.str w0 t0, .str w1 t1, .str w2 t2, .str w3 t3, .str w4 t4] n)]) (fun _ _ => True) [Str.ofString "k", Str.ofString "j"] () rfl (by assumption) (by decide) (by decide) (by assumption) (by assumption) trivial ?_ ?_
  · intro I i c t u h tk own hlt hi hJ hoff hw ho F3 N3
    have off : OwnOff own [l] := own_off ho (by
      intro a ha
      rw [List.mem_singleton.mp ha]
      exact off1 (hlt _ (.head _)))
    simp only [List.cons_append, List.nil_append] at N3
    k_steps
    unfold Halt
    have sm := rng5 i hi
    refine range_inv (σ := Unit) (n := i) (fun _ => (l, listOf #[.str w0 t0, .str w1 t1, .str w2 t2, .str w3 t3, .str w4 t4] n) :: own) (fun _ _ => True) [Str.ofString "j"] () rfl (by assumption) sm.1 sm.2 (by assumption) (by assumption) trivial ?_ ?_
    · intro I2 i2 c2 t2 u2 h2 tk2 own2 hlt2 hi2 hJ2 hoff2 hw2 ho2 F4 N4
      have off2 : OwnOff own2 [l] := own_off ho2 (by
        intro a ha
        rw [List.mem_singleton.mp ha]
        exact off1 (hlt2 _ (.head _)))
      simp only [List.cons_append, List.nil_append] at N4
      obtain ⟨q1, q2, q3⟩ := ok.2.1 i2 i hi2 hi
      have e1 : (0 + (i : Int)).toNat = i := by omega
      have e2 : (0 + (i2 : Int)).toNat = i2 := by omega
      rw [← e1, ← e2] at q1 q2 q3
      have g1 : (0 : Int) ≤ 0 + (i : Int) := by omega
      have g2 : (0 : Int) ≤ 0 + (i2 : Int) := by omega
      have g3 : 0 + (i : Int) < 5 := by omega
      have g4 : 0 + (i2 : Int) < 5 := by omega
      k_steps
      refine tend (σ := Unit) () (by assumption) (by assumption) (fun p hp => .tail _ (List.mem_append.mpr (.inr hp))) ?_ ?_ hoff2 trivial
      · intro p hp
        rcases List.mem_cons.mp hp with rfl | hp
        · exact .head _
        · exact .tail _ (List.mem_append.mpr (.inl hp))
      · intro z hz
        have z1 : z ≠ Str.ofString "j" := by simpa using hz
        have z2 : [Str.ofString "j"].contains z = false := hz
        exact (if_neg z1).trans (if_neg (by rw [z2]; decide))
    · intro c2 u2 h2 tk2 hJ2 F4 N4
      k_steps
      refine tend (σ := Unit) () (by assumption) (by assumption) (fun p hp => .tail _ hp) (List.forall_mem_cons.mpr ⟨.head _, fun _ h => nomatch h⟩) ?_ hoff trivial
      intro z hz
      have z1 : z ≠ Str.ofString "k" ∧ z ≠ Str.ofString "j" := by simpa using hz
      have z2 : [Str.ofString "j"].contains z = false := by simpa using z1.2
      have z3 : ([Str.ofString "k", Str.ofString "j"]).contains z = false := hz
      exact (if_neg (by rw [z2]; decide)).trans ((if_neg z1.1).trans (if_neg (by rw [z3]; decide)))
  · intro c u h tk hJ F3 N3
    k_steps
    have e : (!([w0, w1, w2, w3, w4].any fun x => x == Str.ofString "")) = true := by
      rw [ok.2.2]; rfl
    rw [e]
    refine hret _ _ (stood GS N (by assumption) N3 ?_) (by assumption)
    intro p hp
    rw [List.mem_singleton.mp hp]
    k_mem
end Mine
-- part Joi
namespace Mine

local macro_rules | `(tactic| walk_at "exec While Compare cons nil") => `(tactic| ((fail_if_success (rename Past 1 => q9)); refine halt_intro ?_))
/-- insertion, and the sorted list -/
def ins (x : Int) : List Int → List Int
  | [] => [x]
  | y :: r => if x ≤ y then x :: y :: r else y :: ins x r
def isort : List Int → List Int
  | [] => []
  | x :: r => ins x (isort r)
theorem ins_perm (x : Int) : ∀ l, (ins x l).Perm (x :: l)
  | [] => .refl _
  | y :: r => by
    unfold ins
    split
    · exact .refl _
    · exact (((ins_perm x r).cons y).trans (.swap x y r))
theorem isort_perm : ∀ l, (isort l).Perm l
  | [] => .refl _
  | x :: r => (ins_perm x _).trans ((isort_perm r).cons x)
theorem ins_sorted {x : Int} : ∀ {l : List Int}, List.Pairwise (fun a b => a ≤ b) l → List.Pairwise (fun a b => a ≤ b) (ins x l)
  | [], _ => List.pairwise_singleton _ _
  | y :: r, h => by
    have h1 := List.pairwise_cons.mp h
    unfold ins
    split
    · rename_i q
      refine List.pairwise_cons.mpr ⟨fun z hz => ?_, h⟩
      rcases List.mem_cons.mp hz with rfl | hz
      · exact q
      · exact Int.le_trans q (h1.1 z hz)
    · rename_i q
      refine List.pairwise_cons.mpr ⟨fun z hz => ?_, ins_sorted h1.2⟩
      rcases List.mem_cons.mp ((ins_perm x r).mem_iff.mp hz) with rfl | hz
      · omega
      · exact h1.1 z hz
theorem isort_sorted : ∀ l, List.Pairwise (fun a b => a ≤ b) (isort l)
  | [] => .nil
  | x :: r => ins_sorted (isort_sorted r)
theorem sort_is {n l : List Int} (p : n.Perm l) (o : List.Pairwise (fun a b => a ≤ b) n) : n = isort l :=
  (p.trans (isort_perm l).symm).eq_of_pairwise (fun a b _ _ h1 h2 => Int.le_antisymm h1 h2) o (isort_sorted l)
/-- what the two least joined again and again cost -/
def joinF : Nat → Int → List Int → Int
  | 0, c, _ => c
  | n + 1, c, l => if l.length ≤ 1 then c else joinF n (c + (l.getD 0 0 + l.getD 1 0)) (isort (l.drop 2 ++ [l.getD 0 0 + l.getD 1 0]))
structure WJ where
  cost : Int
  tc : Tok
  P : Addr
  k : Nat
  v : List Value
  ns : List Int
theorem c_joined {w : World} {mean : ExcName → Option Value} {mg mb : Str → Option Value} {dp un : Nat} {gd : Option (List Code)} {cn : Str} {cs : Scope} {a : Addr} {ccd : Value} {cl : List (Str × Addr)} {outer : List Env} {A₀ : Around} {base h₀ : Heap} {L : Addr} {m : Str → Option Value} {s : Shared} {Q E : Value → Shared → Prop} {l : Addr} {s0 s1 s2 s3 s4 : Int} {t0 t1 t2 t3 t4 : Tok} {n : Nat}
   (B : Below A₀ base outer h₀) (F : Fr h₀ L s.heap m) (X : (_root_.Mine.hk.heap_1 w.params).In h₀) (N : News h₀ L s.heap [(l, listOf #[.int s0 t0, .int s1 t1, .int s2 t2, .int s3 t3, .int s4 t4] n)]) (T : Top VW LO mean mg mb h₀) (hk : cs.kind = .function)
   (hd : dp + 1 < recursionLimit) (hu : un + 64 < cLine)
   (hret : ∀ t h' tk', (∀ b o, s.heap.get? b = some o → h'.get? b = some o) → Fr h₀ L h' m → Q (.int (joinF 5 0 (isort [s0, s1, s2, s3, s4])) t) { s with heap := h', toks := tk' }) :
   wpAny (model PR w) (ktrTop dp un gd cn cs L a ccd cl outer) (call (.ref 178) [.ref l]) Q E s := by
  refine wpAny_call ?_
  refine' code_defG ?k1 ?k2 ?k3 ?k4 ?k5 ?kA ?kF ?kK ?k6 ?k7 ?k8 ?k9 ?kB ?_ ?c2 ?c3 ?c4 ?c5
  (case kA => exact rfl); (case kF => exact rfl); (case kK => assumption); (case k1 => k_asm); (case k2 => k_asm); (case k3 => k_asm); (case k4 => k_asm); (case k5 => k_asm); (case k6 => k_is); (case k7 => k_is); (case k8 => ktr_room); (case k9 => exact BindsTo.of_eq rfl); (case kB => exact locs rfl); (case c2 => exact rfl); (case c3 => exact rfl); (case c4 => exact rfl); (case c5 => decide); k_whole; intro g' L' h' FG' F' N' B' X' T' GS; (try dsimp only); (try k_lift B'); (try k_fold)
  k_steps
  have past := Past.mk (n := 1)
  rename_i D5 v5 n5 c5 h5 I5 ln5 p5 o5 p6 l5 b5 s1 s2 s3 T5 h6 l6 h7 h8 h9 F9 N9
  have e5 := sort_is p5 o5
  clear b5 s1 s2 s3 p6 o5
  unfold Halt

  refine ksw_while (σ := WJ) (fun c => [(c.P, listOf c.v.toArray c.k), (l, listOf #[.int s0 t0, .int s1 t1, .int s2 t2, .int s3 t3, .int s4 t4] n)]) (fun c => [(Str.ofString "cost", .int c.cost c.tc), (Str.ofString "parts", .ref c.P)]) (fun c => IntsAre c.v c.ns) [Str.ofString "pair"]
    (fun c => c.ns.length ≤ 5 ∧ joinF c.ns.length c.cost c.ns = joinF 5 0 (isort [s0, s1, s2, s3, s4])) (fun c => c.ns.length) ⟨0, _, D5, c5, v5, n5⟩ F9 (fun p hp => N9 p (List.Mem.tail _ hp)) I5 (List.forall_mem_cons.mpr ⟨rfl, List.forall_mem_cons.mpr ⟨rfl, fun _ h => nomatch h⟩⟩) ?_ ?_
  · refine ⟨?_, ?_⟩
    · rw [p5.length_eq]; exact Nat.le_refl _
    · show joinF n5.length 0 n5 = _
      rw [p5.length_eq, e5]; rfl
  · rintro ⟨cost, tc, P, k, v, ns⟩ u h tk hf hp F6 N6
    dsimp only at hf hp F6 N6
    obtain ⟨hp1, hp2⟩ := hp
    k_steps
    · rename_i a5 d7 h7 lt7 d8 l8 h8 lt8 d9 ws9 h9 I9 lt9 D5' v5' n5' c5' h5' I5' ln5' p5' o5' b5' p6' lt6 h6' F7 N7
      have e7 := sort_is p5' o5'
      have hl : ns.length ≥ 2 := by omega
      have en : n5'.length + 1 = ns.length := by rw [ln5', List.length_append, List.length_drop, List.length_singleton]; omega
      refine ksw_end (⟨_, _, D5', c5', v5', n5'⟩ : WJ) F7 N7 (List.forall_mem_cons.mpr ⟨.head _, List.forall_mem_cons.mpr ⟨by k_mem, fun _ h => nomatch h⟩⟩) I5' (List.forall_mem_cons.mpr ⟨rfl, List.forall_mem_cons.mpr ⟨rfl, fun _ h => nomatch h⟩⟩) ?_ ⟨?_, ?_⟩ ?_
      · intro z hz hs
        have z1 : z ≠ Str.ofString "cost" := hz _ (.head _)
        have z2 : z ≠ Str.ofString "parts" := hz _ (.tail _ (.head _))
        have z3 : z ≠ Str.ofString "pair" := by
          simpa using hs
        simp [z1, z2, z3, kstB]
      · show n5'.length ≤ 5
        omega
      · rw [← hp2]
        show joinF n5'.length _ n5' = _
        have e8 : n5' = isort (List.drop 2 ns ++ [ns.getD 0 0 + ns.getD 1 0]) := e7
        rw [← en, joinF, if_neg (by omega), ← e8]
        rfl
      · show n5'.length < ns.length
        omega
    · rename_i a5 kF kN kT kX
      have e : joinF ns.length cost ns = cost := by
        cases q : ns.length with
        | zero => rfl
        | succ k => rw [joinF, if_pos (by omega)]
      rw [e] at hp2
      subst hp2
      refine hret _ _ _ (stood GS N (by assumption) N6 ?_) (by assumption)
      intro p hp
      rw [List.mem_singleton.mp hp]
      k_mem
end Mine
-- part Tld
namespace Mine

theorem sw_iff (x y : Str) : Txt.startswith x y = true ↔ y.cps.toList <+: x.cps.toList := by
  have ly : y.cps.toList.length = y.length := Array.length_toList
  have lx : x.cps.toList.length = x.length := Array.length_toList
  unfold Txt.startswith
  rw [Bool.and_eq_true, StrLaws.subAt_eq, List.drop_zero, decide_eq_true_eq, beq_iff_eq, ← ly, List.prefix_iff_eq_take]
  constructor
  · rintro ⟨_, h⟩
    exact h.symm
  · intro h
    refine ⟨?_, h.symm⟩
    have e := congrArg List.length h
    rw [List.length_take] at e
    omega
/-- the text of some letters -/
def catW (ts : List Str) : List Int → Str
  | [] => Str.ofString ""
  | x :: r => ts.getD x.toNat Str.empty ++ catW ts r
theorem ord_ne {ts : List Str} (ok : OrdOk ts) {i : Nat} (hi : i < 5) : (ts.getD i Str.empty).cps.toList ≠ [] := by
  intro e
  by_cases q : i < 4
  · have h := (ok.2.1 i (i + 1) (by omega) (by omega)).2.1
    have z : Txt.startswith (ts.getD (i + 1) Str.empty) (ts.getD i Str.empty) = true := (sw_iff _ _).mpr (by rw [e]; exact List.nil_prefix)
    rw [z] at h; cases h
  · have h := (ok.2.1 (i - 1) i (by omega) (by omega)).2.2
    have z : Txt.startswith (ts.getD (i - 1) Str.empty) (ts.getD i Str.empty) = true := (sw_iff _ _).mpr (by rw [e]; exact List.nil_prefix)
    rw [z] at h; cases h
theorem cat_ne {ts : List Str} (ok : OrdOk ts) {x : Int} {r : List Int} (h0 : 0 ≤ x) (h1 : x < 5) : ((catW ts (x :: r)).cps.toList == (Str.ofString "").cps.toList) = false := by
  rw [beq_eq_false_iff_ne]
  intro e
  have e2 : (catW ts (x :: r)).cps.toList = [] := e
  unfold catW at e2
  rw [KT.app_list] at e2
  exact ord_ne ok (i := x.toNat) (by omega) (List.append_eq_nil_iff.mp e2).1
theorem cat_starts {ts : List Str} (ok : OrdOk ts) {x : Int} {r : List Int} (h0 : 0 ≤ x) (h1 : x < 5) {i : Nat} (hi : i < 5) : Txt.startswith (catW ts (x :: r)) (ts.getD (0 + (i : Int)).toNat Str.empty) = decide (x = (i : Int)) := by
  rw [show (0 + (i : Int)).toNat = i by omega, Bool.eq_iff_iff, sw_iff, decide_eq_true_eq]
  unfold catW
  rw [KT.app_list]
  constructor
  · intro h
    rcases Nat.lt_trichotomy x.toNat i with q | q | q
    · have z := ok.2.1 _ _ q hi
      rcases List.prefix_or_prefix_of_prefix h (List.prefix_append _ _) with p | p
      · rw [(sw_iff _ _).mpr p] at z; exact absurd z.2.2 (by decide)
      · rw [(sw_iff _ _).mpr p] at z; exact absurd z.2.1 (by decide)
    · omega
    · have z := ok.2.1 _ _ q (by omega)
      rcases List.prefix_or_prefix_of_prefix h (List.prefix_append _ _) with p | p
      · rw [(sw_iff _ _).mpr p] at z; exact absurd z.2.1 (by decide)
      · rw [(sw_iff _ _).mpr p] at z; exact absurd z.2.2 (by decide)
  · intro h
    rw [show x.toNat = i by omega]
    exact List.prefix_append _ _
theorem cat_slice {ts : List Str} {x : Int} {r : List Int} : Txt.slice (catW ts (x :: r)) (some ((ts.getD x.toNat Str.empty).length : Int)) none = catW ts r := by
  have la : (ts.getD x.toNat Str.empty).cps.toList.length = (ts.getD x.toNat Str.empty).length := Array.length_toList
  have lb : (catW ts r).cps.toList.length = (catW ts r).length := Array.length_toList
  have lc : (catW ts (x :: r)).length = (ts.getD x.toNat Str.empty).length + (catW ts r).length := by
    show (_ ++ _ : Str).length = _
    rw [PySem.Str.length_append]
  rw [slice_from_eq (b := ((catW ts (x :: r)).length : Int)) (by omega) (by omega) rfl]
  have e : (catW ts (x :: r)).cps.toList = (ts.getD x.toNat Str.empty).cps.toList ++ (catW ts r).cps.toList := KT.app_list _ _
  rw [e, show ((ts.getD x.toNat Str.empty).length : Int).toNat = (ts.getD x.toNat Str.empty).cps.toList.length by omega, List.drop_left, List.take_of_length_le (by omega)]
theorem cat_len {ts : List Str} (h : ∀ i, (ts.getD i Str.empty).length ≤ 6) : ∀ ls : List Int, (catW ts ls).length ≤ 6 * ls.length
  | [] => Nat.le_refl _
  | x :: r => by
    have z := cat_len h r
    have y := h x.toNat
    show (_ ++ _ : Str).length ≤ _
    rw [PySem.Str.length_append, List.length_cons]
    omega

local macro_rules | `(tactic| walk_at "exec While Compare cons nil") => `(tactic| ((fail_if_success (rename Past 1 => q9)); refine halt_intro ?_))
local macro_rules | `(tactic| walk_at "eval ListComp") => `(tactic| (k_here; lct_look; k_dflt (refine LCt.ListComp_T (F₀ := by k_asm) (by with_unfolding_all rfl) (by decide) (by rfl) (by decide) (by rfl) ?_)))
theorem turn_yes {x : Int} {i : Nat} {ys : List Value} {t : Tok} (h : IntsAre ys (if x < (i : Int) then [x] else [])) (e : true = decide (x = (i : Int))) : IntsAre (ys ++ [.int (0 + (i : Int)) t]) (if x < ((i + 1 : Nat) : Int) then [x] else []) := by
  have e1 : x = i := of_decide_eq_true e.symm
  rw [if_neg (by omega)] at h
  cases h
  rw [if_pos (by omega), show 0 + (i : Int) = x by omega]
  exact .cons _ _ .nil
theorem turn_no {x : Int} {i : Nat} {ys : List Value} (h : IntsAre ys (if x < (i : Int) then [x] else [])) (e : false = decide (x = (i : Int))) : IntsAre ys (if x < ((i + 1 : Nat) : Int) then [x] else []) := by
  have e1 : ¬ x = i := of_decide_eq_false e.symm
  by_cases q : x < (i : Int)
  · rw [if_pos q] at h
    rwa [if_pos (by omega)]
  · rw [if_neg q] at h
    rwa [if_neg (by omega)]
theorem ints_snoc {vs : List Value} {ts : List Int} {x : Int} {t : Tok} (h : IntsAre vs ts) : IntsAre (vs ++ [.int x t]) (ts ++ [x]) := by
  induction h with
  | nil => exact .cons _ _ .nil
  | cons x t _ ih => exact .cons x t ih
structure WT where
  k : Nat
  v : List Value
  ds : List Int
  rs : List Int
  tt : Tok
  oT : Obj
section
variable {prog : Program} {w : World} {A : Around} {E : Value → Shared → Prop} {s : Shared} {x y : Str} {t u : Tok} {Q : Value → Shared → Prop}
theorem keptFN {h₀ : Heap} {L : Addr} {m : Str → Option Value} {news : List (Addr × Obj)} : KeptH (fun h => Fr h₀ L h m ∧ News h₀ L h news) := fun _ ob F => ⟨Fr.pushS F.1 ob, F.2.grown fun _ _ e => Heap.get?_push_of_some _ e⟩
theorem slice_sn_FN {h₀ : Heap} {L : Addr} {m : Str → Option Value} {news : List (Addr × Obj)} {value slice : PySem.Expr} {i : Int} {ui : Tok} (F : Fr h₀ L s.heap m) (N : News h₀ L s.heap news) (e : Txt.slice x (some i) none = y) (h : ∀ h' t' k, Fr h₀ L h' m → News h₀ L h' news → Q (.str y t') { s with heap := h', toks := k })
    (hs : subscripted slice false (.str x t) (.ref s.heap.objs.size) = operate [.ref s.heap.objs.size, .str x t] (getItem (.str x t) (.ref s.heap.objs.size)) := by with_unfolding_all rfl)
    (ht : ∀ r, letTemporaryGo value (.str x t) r = pure () := by intro _; with_unfolding_all rfl) (hsz : x.length ≤ sizeLine) :
    wpAny (model prog w) A (subscriptTail value slice (.str x t) (.ref s.heap.objs.size)) Q E { s with heap := s.heap.push { cls := .type "slice", data := .fields #[.int i ui, .none, .none] } } :=
  tail_of_ItemOn (SBH.sliceItem_sn keptFN ⟨F, N⟩ (fun h' t' k p => e ▸ h h' t' k p.1 p.2) hsz) hs ht
theorem ne_known {b : Bool} (h : (x.cps.toList == y.cps.toList) = b) (k : Q (.bool (!b)) s) : wpAny (model prog w) A (compareOp .NotEq (.str x t) (.str y u)) Q E s := P.ne_str (by show Q (.bool (!(x.cps.toList == y.cps.toList))) s; rw [h]; exact k)
end
local macro_rules | `(tactic| walk_at $k:str) => do if (["call builtin:list.append", "CompSrcT"] : List String).contains k.getString then `(tactic| (refine halt_intro ?_)) else Lean.Macro.throwUnsupported
local macro_rules | `(tactic| walk_at "exec Assign cons ListComp") => `(tactic| (k_dflt (refine wpAny_Assign_Name (hs := by with_unfolding_all rfl) ?_)))
local macro_rules | `(tactic| walk_at "subscriptTail Name Slice str ref") => `(tactic| (refine halt_intro ?_))
local macro_rules | `(tactic| walk_at "compareOp NotEq str str") => `(tactic| (refine ne_known (by assumption) ?_))
theorem c_told {w : World} {mean : ExcName → Option Value} {mg mb : Str → Option Value} {dp un : Nat} {gd : Option (List Code)} {cn : Str} {cs : Scope} {a : Addr} {ccd : Value} {cl : List (Str × Addr)} {outer : List Env} {A₀ : Around} {base h₀ : Heap} {L : Addr} {m : Str → Option Value} {s : Shared} {Q E : Value → Shared → Prop} {l : Addr} {w0 w1 w2 w3 w4 : Str} {t0 t1 t2 t3 t4 tx : Tok} {n : Nat} {ls : List Int}
   (B : Below A₀ base outer h₀) (F : Fr h₀ L s.heap m) (X : (_root_.Mine.hk.heap_1 w.params).In h₀) (N : News h₀ L s.heap [(l, listOf #[.str w0 t0, .str w1 t1, .str w2 t2, .str w3 t3, .str w4 t4] n)]) (T : Top VW LO mean mg mb h₀) (hk : cs.kind = .function)
   (hd : dp + 1 < recursionLimit) (ok : OrdOk [w0, w1, w2, w3, w4]) (q0 : w0.length ≤ 6) (q1 : w1.length ≤ 6) (q2 : w2.length ≤ 6) (q3 : w3.length ≤ 6) (q4 : w4.length ≤ 6) (hls : ∀ x ∈ ls, 0 ≤ x ∧ x < 5) (hln : ls.length ≤ 14)
   (hret : ∀ D h' tk' ws k, IntsAre ws ls → (∀ b o, s.heap.get? b = some o → h'.get? b = some o) → (∀ b o, s.heap.get? b = some o → b ≠ D) → Fr h₀ L h' m → News h₀ L h' [(D, listOf ws.toArray k)] → Q (.ref D) { s with heap := h', toks := tk' }) :
   wpAny (model PR w) (ktrTop dp un gd cn cs L a ccd cl outer) (call (.ref 166) [.ref l, .str (catW [w0, w1, w2, w3, w4] ls) tx]) Q E s := by
  refine wpAny_call ?_
  refine' enter_cells ?k1 ?k2 ?k3 ?k4 ?k5 ?kA ?kF ?kK ?k6 ?k7 ?k8 ?k9 ?kB ?kD ?_ ?c2 ?c3 ?c4
  (case kA => exact rfl); (case kF => exact rfl); (case kK => assumption); (case k1 => k_asm); (case k2 => k_asm); (case k3 => k_asm); (case k4 => k_asm); (case k5 => k_asm); (case k6 => k_is); (case k7 => k_is); (case k8 => ktr_room); (case k9 => exact BindsTo.of_eq rfl); (case kB => exact rfl); (case kD => decide +kernel); (case c2 => exact rfl); (case c3 => exact rfl); (case c4 => exact rfl); k_whole; intro g' L' h' tk' cells' FG' F' N' Y' B' X' T' l1 GS; (try k_lt l1); k_cells Y'; (try simp only [List.cons_append, List.nil_append] at N'); (try dsimp only); (try k_lift B'); (try k_fold)
  have hS : StrsAre [Value.str w0 t0, .str w1 t1, .str w2 t2, .str w3 t3, .str w4 t4] [w0, w1, w2, w3, w4] := .cons _ _ (.cons _ _ (.cons _ _ (.cons _ _ (.cons _ _ .nil))))
  k_steps
  have past := Past.mk (n := 1)
  unfold Halt
  rename_i oT oW d1 d2 lD h6 l6 h7 F7 N7
  have d1' : oT.data = Data.cell (some (.str (catW [w0, w1, w2, w3, w4] ls) tx)) := d1
  have d2' : oW.data = Data.cell (some (.ref l)) := d2
  clear d1 d2
  refine ksw_while (σ := WT) (fun c => [(lD, listOf c.v.toArray c.k), (L' + 1 + 1, c.oT), (L' + 1, oW), (l, listOf #[.str w0 t0, .str w1 t1, .str w2 t2, .str w3 t3, .str w4 t4] n)]) (fun _ => []) (fun c => IntsAre c.v c.ds ∧ c.oT.data = Data.cell (some (.str (catW [w0, w1, w2, w3, w4] c.rs) c.tt))) [Str.ofString "fits"]
    (fun c => c.ds ++ c.rs = ls) (fun c => c.rs.length) ⟨0, [], [], ls, tx, oT⟩ F7 N7 ⟨.nil, d1'⟩ (fun _ h => nomatch h) rfl ?_
  rintro ⟨k, v, ds, rs, tt, o⟩ u h tk ⟨hf, ho⟩ hp F6 N6
  dsimp only at hf hp F6 N6 ho
  cases rs with
  | nil =>
    have hne : ((catW [w0, w1, w2, w3, w4] []).cps.toList == (Str.ofString "").cps.toList) = true := rfl
    k_steps
    rename_i kF kN kT kX
    rw [List.append_nil] at hp
    subst hp
    have lt6 : @LT.lt Nat _ l lD := l6.2.2
    exact hret lD _ _ v k hf (stood GS N F6 N6 (fun p hp => by rw [List.mem_singleton.mp hp]; k_mem)) (apart_new GS N N6 (.head _) (fun p hp => by rw [List.mem_singleton.mp hp]; exact Nat.ne_of_lt lt6)) kF (news_one kN (.head _))
  | cons x r =>
    have hxx : 0 ≤ x ∧ x < 5 := hls x (by rw [← hp]; simp)
    have hne := cat_ne (r := r) ok hxx.1 hxx.2
    k_steps
    unfold Halt
    refine LCt.CompSrcT.range (by rfl) (by k_asm) (by k_asm) (by assumption) (by decide) (by rfl) (by exact Nat.le_of_ble_eq_true rfl) ?_
    intro g'
    refine compT_ind (J := fun i ys => IntsAre ys (if x < (i : Int) then [x] else [])) ?_ ?_ 5 0 [] rfl ?_
    · intro i ys hi hJ v I oI C oC D m₂ h tk E' hv hC hx F' N' off ne
      obtain ⟨t9, hv9⟩ := hv
      subst hv9
      have cs := cat_starts (r := r) ok hxx.1 hxx.2 hi
      have g1 : (0 : Int) ≤ 0 + (i : Int) := by omega
      have g3 : 0 + (i : Int) < 5 := by omega
      k_steps
      all_goals (
        refine LCg.CompEnd.intro (by assumption) (by assumption) _ ?_ off trivial ⟨rfl, ?_⟩
        · lcg_sub
        · rename (0 + (i : Int) = _) => ke
          rename (Txt.startswith _ _ = _) => kz
          rw [ke] at cs
          first
            | exact turn_yes hJ (kz.symm.trans cs)
            | exact turn_no hJ (kz.symm.trans cs))
    · intro ys hJ
      have hJ2 : IntsAre ys [x] := by
        have z : IntsAre ys (if x < 5 then [x] else []) := hJ
        rwa [if_pos hxx.2] at z
      clear hJ
      k_steps
      unfold Halt
      rename_i D9 h9 tk9 F9 N9 o9 t9
      have lt6 : (@LT.lt Nat _ (L' + 1 + 1) lD) ∧ (@LT.lt Nat _ (L' + 1) lD) ∧ (@LT.lt Nat _ l lD) := l6
      have vl : v.length + 1 ≤ 14 := by
        have e := congrArg List.length hp
        rw [List.length_append, List.length_cons] at e
        rw [hf.length]; omega
      refine append_K F9 N9 (.tail (Ne.symm o9.1) (.head ?_)) ?_ ?_
      · refine List.forall_mem_cons.mpr ⟨Nat.ne_of_lt lt6.1, List.forall_mem_cons.mpr ⟨Nat.ne_of_lt lt6.2.1, List.forall_mem_cons.mpr ⟨Nat.ne_of_lt lt6.2.2, fun _ h => nomatch h⟩⟩⟩
      · intro h10 F10 N10
        have e1 : ([x].getD (Int.toNat 0) 0) = x := rfl
        rw [e1] at N10
        obtain ⟨x0, x1⟩ := hxx
        have cl : (catW [w0, w1, w2, w3, w4] (x :: r)).length ≤ sizeLine := by
          refine Nat.le_trans (cat_len (fun i => ?_) (x :: r)) (Nat.le_trans (show 6 * (x :: r).length ≤ 84 from ?_) (Nat.le_of_ble_eq_true rfl))
          · match i with
            | 0 => exact q0
            | 1 => exact q1
            | 2 => exact q2
            | 3 => exact q3
            | 4 => exact q4
            | i + 5 => exact Nat.zero_le _
          · have e := congrArg List.length hp
            rw [List.length_append] at e
            omega
        have cs := cat_slice (ts := [w0, w1, w2, w3, w4]) (x := x) (r := r)
        k_steps
        all_goals (
          unfold Halt
          rename ([x].getD (Int.toNat 0) 0 = _) => xe
          have xe2 := xe
          rw [e1] at xe2
          subst xe2
          refine slice_sn_FN (s := ⟨_, _, _, _, _⟩) (by assumption) (by assumption) cs ?_ (hsz := cl)
          intro h11 t11 k11 F11 N11
          k_steps)
        all_goals (
          rename_i h12 o12 F12 N12 d12
          rw [List.push_toArray] at N12
          refine ksw_end (⟨_, _, ds ++ [_], r, _, o12⟩ : WT) F12 N12 (fun p hp => List.Mem.tail _ hp) ⟨ints_snoc hf, d12⟩ (fun _ h => nomatch h) ?_ ?_ (Nat.lt_succ_self _)
          · intro z _ hs
            have z1 : z ≠ Str.ofString "fits" := by simpa using hs
            exact (if_neg z1).trans (if_neg (by rw [hs]; decide))
          · show (ds ++ [_]) ++ r = ls
            rw [List.append_assoc]; exact hp)
      · rw [List.size_toArray]; exact Nat.le_trans (show v.length ≤ 14 by omega) (Nat.le_of_ble_eq_true rfl)
    · show IntsAre [] (if x < 0 then [x] else [])
      rw [if_neg (by omega)]
      exact .nil
end Mine
-- part Itr
namespace Mine
def LItr (o : Obj) (l : Addr) (i : Nat) : Prop := o.cls = .type "list_iterator" ∧ o.data = .fields #[.ref l, .int i 0]
section
variable {prog : Program} {w : World} {A : Around} {E : Value → Shared → Prop} {s : Shared} {h₀ : Heap} {L l I : Addr} {m : Str → Option Value} {news rest : List (Addr × Obj)} {g : Obj → List (Addr × Obj)} {io : Obj} {its : Array Value} {n i : Nat} {x : Value}
theorem LItr.at {h : Heap} (a : LItr io l i) (ho : h.get? I = some io) : h.IsListIter I l i := ⟨io, ho, a.1, a.2⟩
theorem kli_iter {Q : Value → Shared → Prop} (F : Fr h₀ L s.heap m) (N : News h₀ L s.heap news) (hp : (l, listOf its n) ∈ news)
    (h : ∀ (I : Addr) h' oI, Fr h₀ L h' m → News h₀ L h' ((I, oI) :: news) → (∀ p ∈ news, p.1 < I) → LItr oI l 0 → Q (.ref I) { s with heap := h' }) :
    wpAny (model prog w) A (call (.builtin "iter") [.ref l]) Q E s := by
  refine call_function_entry (by decide +kernel) (by decide +kernel) kdk_entry_iter (kdk_args_iter _) ?_
  unfold Builtin.«iter»
  refine wpAny_bind (m := someArgs "iter" 1 2 _) (wpAny_of_eq (a := [Value.ref l]) (by first | rfl | kernel_rfl!) ?_)
  show wpAny _ _ (pyIter (.ref l) >>= _) _ _ _
  refine wpAny_bind (wpAny_pyIter_list (N.isList hp) ?_)
  exact wpAny_pure ⟨_, rfl, h _ _ _ (F.push _) (News.push F N _ rfl) (fun q hq => Heap.lt_size (N q hq).1) ⟨rfl, rfl⟩⟩
theorem kli_special {Q : Option Value → Shared → Prop} (hit : s.heap.IsListIter I l i) (hl : s.heap.IsList l its) (hx : its[i]? = some x)
    (hQ : ∀ h', h'.IsListIter I l (i + 1) → Heap.SameBut I s.heap h' → Q (some x) { s with heap := h' }) :
    wpAny (model prog w) A (callSpecial? (.ref I) (Str.ofString "__next__")) Q E s := by
  obtain ⟨o, ho, hc, hd⟩ := id hit
  obtain ⟨ol, hol, _, nl, hdl⟩ := hl
  refine wpAny_callSpecial?_slot (name := Str.ofString "__next__") hit.typeIs slot_listiter_next
    (wpAny_call_entry slot_listiter_next hit.typeIs entry_listiter_next ?_ (args_listiter_next _))
  show wpAny _ _ (field (.ref I) 0 >>= _) _ _ s
  refine wpAny_bind (wpAny_field ho hd (x := .ref l) rfl ?_)
  show wpAny _ _ (if (Value.ref l == Value.none) = true then _ else _) _ _ s
  rw [if_neg (show ¬ ((Value.ref l == Value.none) = true) from Bool.false_ne_true)]
  show wpAny _ _ (field (.ref I) 1 >>= _) _ _ s
  refine wpAny_bind (wpAny_field ho hd (x := .int i 0) rfl ?_)
  show wpAny _ _ (seqItems? (.ref l) >>= _) _ _ s
  refine wpAny_bind (wpAny_seqItems hol hdl ?_)
  simp only [Int.toNat_natCast, hx]
  refine wpAny_bind (wpAny_setField ho hd (by simp) (wpAny_pure ⟨x, rfl, hQ _ ?_ (Heap.SameBut.update ..)⟩))
  exact ⟨_, Heap.get?_update_self _ ho (Obj.isFreed_of_fields (Obj.data_mapFields hd _)), (Obj.cls_mapFields ..).trans hc, by
    rw [Obj.data_mapFields hd]; simp [rawInt]⟩
theorem kli_next {Q : Value → Shared → Prop} (F : Fr h₀ L s.heap m) (N : News h₀ L s.heap news) (U : UpdF I io news g) (hi : LItr io l i) (hp : (l, listOf its n) ∈ news) (hx : its[i]? = some x)
    (h : ∀ h' o', Fr h₀ L h' m → News h₀ L h' (g o') → LItr o' l (i + 1) → Q x { s with heap := h' }) :
    wpAny (model prog w) A (call (.builtin "next") [.ref I]) Q E s := by
  obtain ⟨pre, post, hl, hg, a, b⟩ := U.split
  have hmem : (I, io) ∈ news := by rw [hl]; exact List.mem_append_right _ (.head _)
  have hm := N (I, io) hmem
  have hit := hi.at hm.1
  refine call_function_entry (by decide +kernel) (by decide +kernel) kdk_entry_next (kdk_args_next _) ?_
  unfold Builtin.«next»
  refine wpAny_bind (m := someArgs "next" 1 2 _) (wpAny_of_eq (a := [Value.ref I]) (by first | rfl | kernel_rfl!) ?_)
  dsimp only
  refine wpAny_bind (wpAny_specialOf (name := Str.ofString "__next__") hit.typeIs slot_listiter_next.lookup ?_)
  refine wpAny_ite_split (fun hab => absurd hab (by decide)) (fun _ => ?_)
  refine wpAny_bind (kli_special hit (N.isList hp) hx fun h' hit' hs => ?_)
  obtain ⟨o', ho', hc', hd'⟩ := hit'
  exact wpAny_pure ⟨_, rfl, h h' o' (F.change hs hm.2.1 hm.2.2) (hg o' ▸ (show News h₀ L s.heap (pre ++ (I, io) :: post) from hl ▸ N).setIn a b hs ho') ⟨hc', hd'⟩⟩
theorem kli_extend {R : Result → Shared → Prop} (hh : A.handled = none) (S : Addr) (res : Value) (hSI : S ≠ I) (hit : s.heap.IsListIter I l its.size) (hl : s.heap.IsList l its)
    (hR : ∀ h', Heap.ExtBut I s.heap h' → R (.ok (.ret res)) { s with heap := h' }) :
    wpAny (model prog w) A.in1 (Builtin.List.listExtendWith (.ref S) (.ref I) res)
      (fun fin s' => match fin with | .done f => R (.ok f) s' | .again c' => c'.quiet = true ∧ codeAny (model prog w) A c' R s') (fun e s' => R (.error e) s') s := by
  unfold Builtin.List.listExtendWith
  refine wpAny_bind (wpAny_typeOf hit.typeIs ?_)
  have h1 : (Builtin.List.listSameRef (.ref S) (.ref I) || Value.type "list_iterator" == Value.type "list" || Value.type "list_iterator" == Value.type "tuple") = false := by
    simp [Builtin.List.listSameRef, hSI]
  rw [if_neg (by rw [h1]; decide)]
  refine wpAny_bind (wpAny_pyIter_listiter hit ?_)
  refine wpAny_bind (wpAny_holding ?_)
  unfold Builtin.List.listLengthHint
  refine wpAny_bind (wpAny_specialOf hit.typeIs F.nolen_li ?_)
  show wpAny _ A.in1 (specialOf (Value.ref I) (Str.ofString "__length_hint__") >>= _) _ _ _
  refine wpAny_bind (wpAny_specialOf hit.typeIs F.hint_li ?_)
  generalize hid : ("list_iterator.__length_hint__" : String) = id0
  wp_delta
  rw [show splitId id0 = some ("list_iterator", "__length_hint__") from by subst hid; decide +kernel]
  subst hid
  refine wpAny_bind (wpAny_isInstance (b := true) hit.typeIs (by rw [isSubtype_type]; kernel_rfl) ?_)
  refine wpAny_pure ?_
  rw [if_neg (by decide)]
  refine wpAny_pure ⟨plainId_quiet F.plain_extend_loop _, ?_⟩
  refine codeAny_builtin F.entry_extend_loop ?_
  rw [Around.under_plainId F.plain_extend_loop _]
  show wpAny _ A.in1 (pyNext (.ref I) >>= _) _ _ s
  refine wpAny_bind (wpAny_pyNext_list_end (items := its) hh hit hl (by simp) fun h' he => ?_)
  exact wpAny_pure (hR h' he)
theorem kli_list {Q : Value → Shared → Prop} (hh : A.handled = none) (F : Fr h₀ L s.heap m) (N : News h₀ L s.heap news) (hit : (I, io) ∈ news) (hi : LItr io l its.size) (hp : (l, listOf its n) ∈ news) (hr : ∀ p ∈ rest, p ∈ news ∧ p.1 ≠ I)
    (h : ∀ D c h', Fr h₀ L h' m → News h₀ L h' ((D, listOf (List.toArray []) c) :: rest) → (∀ p ∈ news, p.1 < D) → Q (.ref D) { s with heap := h' }) :
    wpAny (model prog w) A (call (.type "list") [.ref I]) Q E s := by
  have lI := Heap.lt_size (N _ hit).1
  have ll := Heap.lt_size (N _ hp).1
  refine callType_codes (Q₁ := fun obj s₁ => obj = .ref s.heap.objs.size ∧ s₁ = { s with heap := s.heap.push { cls := .type "list", data := .seq #[] } }) PySem.F.called_list (PySem.F.typeCall_list_1 _) PySem.F.entry_list_init
    (code_list_new _ ⟨rfl, rfl⟩) fun obj s₁ h₁ => ?_
  obtain ⟨rfl, rfl⟩ := h₁
  have hS : (s.heap.push { cls := .type "list", data := .seq #[] }).get? s.heap.objs.size = some { cls := .type "list", data := .seq #[] } := Heap.get?_push_size _ rfl
  refine ⟨⟨_, hS, rfl⟩, PySem.F.args_list_init_2 _ _, ?_⟩
  show wpAny _ _ (do let old ← Builtin.List.listItems (.ref _); Builtin.List.listUpdate (.ref _) (fun _ => #[]); letGo old.toList.reverse; Builtin.List.listExtendWith (.ref _) (.ref I) .none) _ _ _
  refine wpAny_bind ?_
  unfold Builtin.List.listItems
  refine wpAny_bind (wpAny_seqItems hS rfl (wpAny_pure ?_))
  show wpAny _ _ (updateSeq s.heap.objs.size (fun _ => #[]) >>= fun _ => letGo (#[] : Array Value).toList.reverse >>= fun _ => Builtin.List.listExtendWith (.ref s.heap.objs.size) (.ref I) .none) _ _ _
  refine wpAny_bind (wpAny_updateSeq hS rfl ?_)
  have hS₂ := Heap.get?_update_self (Obj.mapSeq (fun _ => (#[] : Array Value))) hS rfl
  have oth : ∀ b o, b ≠ s.heap.objs.size → s.heap.get? b = some o → ((s.heap.push { cls := .type "list", data := .seq #[] }).update s.heap.objs.size (Obj.mapSeq (fun _ => (#[] : Array Value)))).get? b = some o :=
    fun b o hb e => (Heap.get?_update_other _ _ (Ne.symm hb)).trans (Heap.get?_push_of_some _ e)
  have hl2 := N.isList hp
  obtain ⟨ol, hol, cl, nl, dl⟩ := hl2
  refine wpAny_bind (wpAny_letGo ?_)
  refine kli_extend (A := A.in1) (l := l) (its := its) hh _ _ (Nat.ne_of_gt lI) (hi.at (oth _ _ (Nat.ne_of_lt lI) (N _ hit).1)) ⟨ol, oth _ _ (Nat.ne_of_lt ll) hol, cl, nl, dl⟩ fun h' he => ?_
  refine ⟨rfl, ?_⟩
  have key : ∀ b o, b ≠ I → s.heap.get? b = some o → h'.get? b = some o := fun b o hb e => he b o hb (oth b o (Nat.ne_of_lt (Heap.lt_size e)) e)
  have hI := N _ hit
  obtain ⟨c, hS₃⟩ : ∃ c, h'.get? s.heap.objs.size = some (listOf (List.toArray []) c) := by
    first | exact ⟨0, he _ _ (Nat.ne_of_gt lI) hS₂⟩ | exact ⟨1, he _ _ (Nat.ne_of_gt lI) hS₂⟩
  refine h _ c h' ?_ ?_ (fun p hp => Heap.lt_size (N p hp).1)
  · refine ⟨(((F.push _).ns).sameBut (b := s.heap.objs.size) (Heap.SameBut.update ..) ?_).extBut he ?_, fun b o e => key b o ?_ (F.keep b o e), F.above⟩
    · exact Nat.ne_of_lt F.ns.lt
    · exact Ne.symm hI.2.1
    · intro e'; subst e'; rw [hI.2.2] at e; exact nomatch e
  · refine List.forall_mem_cons.mpr ⟨⟨hS₃, Nat.ne_of_gt F.ns.lt, F.fresh⟩, fun p hp => ?_⟩
    obtain ⟨h1, h2⟩ := hr p hp
    exact ⟨key _ _ h2 (N p h1).1, (N p h1).2⟩
end
end Mine
-- part Var
namespace Mine

local macro_rules | `(tactic| walk_at "call builtin:next") => `(tactic| (k_here; k_dflt (refine' kli_next ?v1 ?v2 ?v3 ?v4 ?v5 ?v6 ?_; (case v1 => k_asm); (case v2 => k_asm); (case v4 => assumption); (case v5 => k_mem); (case v6 => assumption); (case v3 => exact UpdF.head (by assumption))); intro h' o' F' N' hi'; (try dsimp only at N')))
local macro_rules | `(tactic| walk_at "exec While BinOp cons nil") => `(tactic| ((fail_if_success (rename Past 1 => q9)); refine halt_intro ?_))
theorem stoodX {h₀ g h h' : Heap} {L L' X : Addr} {m' : Str → Option Value} {news news' : List (Addr × Obj)} (G : GSub h g (news.map (·.1))) (N : News h₀ L h news) (F' : Fr g L' h' m') (N' : News g L' h' news') (sub : ∀ p ∈ news, p ∈ news' ∨ p.1 = X) :
    ∀ b o, b ≠ X → h.get? b = some o → h'.get? b = some o := by
  intro b o hb e
  by_cases hm : b ∈ news.map (·.1)
  · obtain ⟨p, hp, rfl⟩ := List.mem_map.mp hm
    rcases sub p hp with q | q
    · have z := (N p hp).1
      rw [e] at z
      rw [Option.some.inj z]
      exact (N' p q).1
    · exact absurd q hb
  · exact F'.keep b o (G b o e hm)
structure WV where
  ph : Nat
  b : Int
  tb : Tok
  v : Int
  tv : Tok
  o : Obj
theorem and0 (z y : Int) (h0 : 0 ≤ y) (h1 : y < 64) : Builtin.bitAnd (z * 64) y = 0 := by
  have e : ∀ a b : Int, Builtin.bitAnd (a * 2) b = 2 * Builtin.bitAnd a (b / 2) := by
    intro a b
    rw [kbt_halves, if_neg (by omega), show a * 2 / 2 = a by omega]; omega
  have q : z * 64 = z * 2 * 2 * 2 * 2 * 2 * 2 := by omega
  rw [q, e, e, e, e, e, e, show y / 2 / 2 / 2 / 2 / 2 / 2 = 0 by omega]
  have r := bitAnd_range z (y := 0) (by decide)
  omega
theorem or64 (z y : Int) (h0 : 0 ≤ y) (h1 : y < 64) : Builtin.bitOr (z * 64) (Builtin.bitAnd y 63) = z * 64 + y := by
  rw [bitOr_and, bitAnd_m6, show y % 64 = y by omega, and0 z y h0 h1]; omega
theorem bit64 (y : Int) : Builtin.bitAnd y 64 = y / 64 % 2 * 64 := kbt_bit y 6
theorem c_var {w : World} {mean : ExcName → Option Value} {mg mb : Str → Option Value} {dp un : Nat} {gd : Option (List Code)} {cn : Str} {cs : Scope} {a : Addr} {ccd : Value} {cl : List (Str × Addr)} {outer : List Env} {A₀ : Around} {base h₀ : Heap} {L : Addr} {m : Str → Option Value} {s : Shared} {Q E : Value → Shared → Prop} {I lT : Addr} {io : Obj} {its : Array Value} {n i : Nat} {x y : Int} {t1 t2 : Tok}
   (B : Below A₀ base outer h₀) (F : Fr h₀ L s.heap m) (X : (_root_.Mine.hk.heap_1 w.params).In h₀) (N : News h₀ L s.heap [(I, io), (lT, listOf its n)]) (T : Top VW LO mean mg mb h₀) (hk : cs.kind = .function)
   (hd : dp + 1 < recursionLimit) (hi : LItr io lT i) (h1 : its[i]? = some (.int x t1)) (h2 : its[i + 1]? = some (.int y t2)) (hIl : I ≠ lT)
   (x0 : 64 ≤ x) (x1 : x < 128) (y0 : 0 ≤ y) (y1 : y < 64)
   (hret : ∀ t h' tk' o', (∀ b o, b ≠ I → s.heap.get? b = some o → h'.get? b = some o) → News h₀ L h' [(I, o'), (lT, listOf its n)] → LItr o' lT (i + 2) → Fr h₀ L h' m → Q (.int ((x - 64) * 64 + y) t) { s with heap := h', toks := tk' }) :
   wpAny (model PR w) (ktrTop dp un gd cn cs L a ccd cl outer) (call (.ref 42) [.ref I]) Q E s := by
  refine wpAny_call ?_
  refine' code_defG ?k1 ?k2 ?k3 ?k4 ?k5 ?kA ?kF ?kK ?k6 ?k7 ?k8 ?k9 ?kB ?_ ?c2 ?c3 ?c4 ?c5
  (case kA => exact rfl); (case kF => exact rfl); (case kK => assumption); (case k1 => k_asm); (case k2 => k_asm); (case k3 => k_asm); (case k4 => k_asm); (case k5 => k_asm); (case k6 => k_is); (case k7 => k_is); (case k8 => ktr_room); (case k9 => exact BindsTo.of_eq rfl); (case kB => exact locs rfl); (case c2 => exact rfl); (case c3 => exact rfl); (case c4 => exact rfl); (case c5 => decide); k_whole; intro g' L' h' FG' F' N' B' X' T' GS; (try dsimp only); (try k_lift B'); (try k_fold)
  have hap : ∀ p ∈ [(lT, listOf its n)], p.1 ≠ I := List.forall_mem_cons.mpr ⟨Ne.symm hIl, fun _ h => nomatch h⟩
  k_steps
  unfold Halt
  have past := Past.mk (n := 1)
  rename_i h7 o5 i5 h4 h3 F5 N5
  refine ksw_while (σ := WV) (fun c => [(I, c.o), (lT, listOf its n)]) (fun c => [(Str.ofString "b", .int c.b c.tb), (Str.ofString "val", .int c.v c.tv)]) (fun c => (c.ph = 0 ∧ LItr c.o lT (i + 1)) ∨ (c.ph = 1 ∧ LItr c.o lT (i + 2))) []
    (fun c => (c.ph = 0 ∧ c.b = x ∧ c.v = x - 64) ∨ (c.ph = 1 ∧ c.b = y ∧ c.v = (x - 64) * 64 + y)) (fun c => 1 - c.ph) ⟨0, x, t1, Builtin.bitAnd x 63, _, o5⟩ F5 N5 (.inl ⟨rfl, i5⟩) (List.forall_mem_cons.mpr ⟨rfl, List.forall_mem_cons.mpr ⟨rfl, fun _ h => nomatch h⟩⟩) (.inl ⟨rfl, rfl, ?_⟩) ?_
  · show Builtin.bitAnd x 63 = _
    rw [bitAnd_m6]; omega
  · rintro ⟨ph, b, tb, v, tv, o⟩ u h tk hf hp F6 N6
    dsimp only at hf hp F6 N6
    rcases hp with ⟨rfl, rfl, rfl⟩ | ⟨rfl, rfl, rfl⟩
    · have i6 : LItr o lT (i + 1) := hf.elim (fun q => q.2) (fun q => absurd q.1 (by decide))
      k_steps
      · rename_i q7 h8 h9 o9 i9 h10 h11 F7 N7
        rw [show Builtin.bitOr ((b - 64) * 2 ^ Int.toNat 6) (Builtin.bitAnd y 63) = (b - 64) * 64 + y from or64 (b - 64) y y0 y1] at F7
        refine ksw_end (⟨1, y, t2, (b - 64) * 64 + y, _, o9⟩ : WV) F7 N7 (fun p hp => hp) (.inr ⟨rfl, i9⟩) (List.forall_mem_cons.mpr ⟨rfl, List.forall_mem_cons.mpr ⟨rfl, fun _ h => nomatch h⟩⟩) ?_ (.inr ⟨rfl, rfl, rfl⟩) Nat.zero_lt_one
        · intro z hz _
          have z1 : z ≠ Str.ofString "b" := hz _ (.head _)
          have z2 : z ≠ Str.ofString "val" := hz _ (.tail _ (.head _))
          simp [z1, z2, kstB]
      · rename_i q7 k1 k2 k3 k4
        rw [bit64] at q7
        exfalso; omega
    · have i6 : LItr o lT (i + 2) := hf.elim (fun q => absurd q.1 (by decide)) (fun q => q.2)
      k_steps
      · rename_i q7 k1 k2 k3
        rw [bit64] at q7
        exfalso; omega
      · rename_i q7 kF kN kT kX
        exact hret _ _ _ o (stoodX GS N (by assumption) N6 (List.forall_mem_cons.mpr ⟨.inr rfl, List.forall_mem_cons.mpr ⟨.inl (.tail _ (.head _)), fun _ h => nomatch h⟩⟩)) (by assumption) i6 (by assumption)
end Mine
-- part Rcv
namespace Mine

local macro_rules | `(tactic| walk_at "exec For Tuple Call") => `(tactic| (k_here; k_dflt (refine For_turns (by k_asm) ?_)))
local macro_rules | `(tactic| walk_at "call ref cons nil") => `(tactic| (k_here; k_dflt (refine' c_fig ?B ?F ?X (news_one ?N ?mm) ?T ?kk ?hd ?h0 ?h1 ?_; (case B => k_asm); (case F => k_asm); (case X => k_asm); (case N => k_asm); (case mm => k_mem); (case T => k_asm); (case kk => rfl); (case hd => ktr_room); (case h0 => assumption); (case h1 => assumption); k_whole); intro t' h' tk' kp' F'; have N' := News.grown (by k_asm) kp'))
local macro_rules | `(tactic| walk_at "call builtin:iter") => `(tactic| (k_here; k_dflt (refine' kli_iter ?v1 ?v2 ?v3 ?_; (case v1 => k_asm); (case v2 => k_asm); (case v3 => k_mem)); intro I' h' o' F' N' l1 hi'; (try k_lt l1)))
local macro_rules | `(tactic| walk_at "exec For Name Call cons nil") => `(tactic| (k_here; k_dflt (refine For_turns (by k_asm) ?_)))
local macro_rules | `(tactic| walk_at "pyIter ref") => `(tactic| ((fail_if_success (rename Past 1 => q9)); refine halt_intro ?_))
theorem news_upd {h₀ h h' : Heap} {L I : Addr} {io o' : Obj} {news rest : List (Addr × Obj)} {g : Obj → List (Addr × Obj)} (N : News h₀ L h news) (U : UpdF I io news g) (kp : ∀ b o, b ≠ I → h.get? b = some o → h'.get? b = some o) (N' : News h₀ L h' ((I, o') :: rest)) : News h₀ L h' (g o') := by
  obtain ⟨pre, post, rfl, hg, a, b⟩ := U.split
  rw [hg]
  intro p hp
  rcases List.mem_append.mp hp with q | q
  · exact ⟨kp _ _ (a p q) (N p (List.mem_append.mpr (.inl q))).1, (N p (List.mem_append.mpr (.inl q))).2⟩
  · rcases List.mem_cons.mp q with rfl | q
    · exact N' _ (.head _)
    · exact ⟨kp _ _ (b p q) (N p (List.mem_append.mpr (.inr (.tail _ q)))).1, (N p (List.mem_append.mpr (.inr (.tail _ q)))).2⟩
theorem news_two {h₀ h : Heap} {L : Addr} {news : List (Addr × Obj)} {p q : Addr × Obj} (N : News h₀ L h news) (hp : p ∈ news) (hq : q ∈ news) : News h₀ L h [p, q] := List.forall_mem_cons.mpr ⟨N p hp, List.forall_mem_cons.mpr ⟨N q hq, fun _ h => nomatch h⟩⟩
theorem rngH : ∀ n : Nat, n ≤ 14 → Builtin.Range.small 0 (n : Int) 1 = true ∧ Builtin.Range.rangeSize 0 (n : Int) 1 = (n : Int) := by decide +kernel
theorem fig_b {s0 s1 s2 s3 s4 : Int} (p0 : 1 ≤ s0) (p1 : 1 ≤ s1) (p2 : 1 ≤ s2) (p3 : 1 ≤ s3) (p4 : 1 ≤ s4) (ps : s0 + s1 + s2 + s3 + s4 = 32) (z : Int) (z0 : 0 ≤ z) (z1 : z < 5) : 0 ≤ figS [s0, s1, s2, s3, s4] z.toNat ∧ figS [s0, s1, s2, s3, s4] z.toNat < 64 := by
  have q : z = 0 ∨ z = 1 ∨ z = 2 ∨ z = 3 ∨ z = 4 := by omega
  rcases q with rfl | rfl | rfl | rfl | rfl <;> simp [figS] <;> omega
theorem twice_map (f : Nat → Int) (i : Nat) : (List.range (2 * (i + 1))).map f = (List.range (2 * i)).map f ++ [f (2 * i), f (2 * i + 1)] := by
  rw [show 2 * (i + 1) = 2 * i + 1 + 1 by omega, List.range_succ, List.range_succ, List.map_append, List.map_append, List.append_assoc]; rfl
local macro_rules | `(tactic| walk_at "call builtin:list.append") => `(tactic| (refine halt_intro ?_))
theorem len_any {prog : Program} {w : World} {A : Around} {E : Value → Shared → Prop} {s : Shared} {h₀ : Heap} {L D : Addr} {news : List (Addr × Obj)} {ys : List Value} {c k : Nat} {Q : Value → Shared → Prop} (N : News h₀ L s.heap news) (hm : (D, listOf ys.toArray k) ∈ news) (hl : ys.length = c) (hfit : c < 2 ^ 62)
    (h : Q (.int (c : Int) (s.toks + 1)) { s with toks := s.toks + 1 + 1 }) : wpAny (model prog w) A (call (.builtin "len") [.ref D]) Q E s := by
  have hL : s.heap.IsList D ys.toArray := ⟨_, N.get hm, rfl, _, rfl⟩
  have e : ys.toArray.size = c := by simp [hl]
  refine len_list hL (by rw [e]; omega) ?_
  rw [e]
  exact h
local macro_rules | `(tactic| walk_at "call builtin:len") => `(tactic| (k_here; k_dflt (refine' len_any ?v1 ?v2 ?v3 ?v4 ?_; (case v1 => k_asm); (case v2 => k_mem); (case v3 => assumption); (case v4 => omega))))
structure WS where
  k : Nat
  v : List Value
  o : Obj
structure WR where
  k : Nat
  v : List Value
def tpS (S ls : List Int) (i : Nat) : Int := figS S (ls.getD i 0).toNat + 64 * (1 - (i : Int).fmod 2)
theorem c_rcv {w : World} {mean : ExcName → Option Value} {mg mb : Str → Option Value} {dp un : Nat} {gd : Option (List Code)} {cn : Str} {cs : Scope} {a : Addr} {ccd : Value} {cl : List (Str × Addr)} {outer : List Env} {A₀ : Around} {base h₀ : Heap} {L : Addr} {m : Str → Option Value} {s : Shared} {Q E : Value → Shared → Prop} {l : Addr} {s0 s1 s2 s3 s4 : Int} {t0 t1 t2 t3 t4 : Tok} {n : Nat} {d : Addr} {dn : Nat} {ls : List Int} {ws : List Value}
   (B : Below A₀ base outer h₀) (F : Fr h₀ L s.heap m) (X : (_root_.Mine.hk.heap_1 w.params).In h₀) (N : News h₀ L s.heap [(l, listOf #[.int s0 t0, .int s1 t1, .int s2 t2, .int s3 t3, .int s4 t4] n), (d, listOf ws.toArray dn)]) (T : Top VW LO mean mg mb h₀) (hk : cs.kind = .function)
   (hd : dp + 8 < recursionLimit) (hu : un + 64 < cLine) (hls : LetOk ls) (hI : IntsAre ws ls) (p0 : 1 ≤ s0) (p1 : 1 ≤ s1) (p2 : 1 ≤ s2) (p3 : 1 ≤ s3) (p4 : 1 ≤ s4) (ps : s0 + s1 + s2 + s3 + s4 = 32) (hne : l ≠ d)
   (hret : ∀ D h' tk' ws', IntsAre ws' (ls.map (fun x => figS [s0, s1, s2, s3, s4] x.toNat)) → (∀ b o, s.heap.get? b = some o → h'.get? b = some o) → (∀ b o, s.heap.get? b = some o → b ≠ D) → Fr h₀ L h' m → News h₀ L h' [(D, listOf ws'.toArray 0)] → Q (.ref D) { s with heap := h', toks := tk' }) :
   wpAny (model PR w) (ktrTop dp un gd cn cs L a ccd cl outer) (call (.ref 149) [.ref l, .ref d]) Q E s := by
  refine wpAny_call ?_
  refine' code_defG ?k1 ?k2 ?k3 ?k4 ?k5 ?kA ?kF ?kK ?k6 ?k7 ?k8 ?k9 ?kB ?_ ?c2 ?c3 ?c4 ?c5
  (case kA => exact rfl); (case kF => exact rfl); (case kK => assumption); (case k1 => k_asm); (case k2 => k_asm); (case k3 => k_asm); (case k4 => k_asm); (case k5 => k_asm); (case k6 => k_is); (case k7 => k_is); (case k8 => ktr_room); (case k9 => exact BindsTo.of_eq rfl); (case kB => exact locs rfl); (case c2 => exact rfl); (case c3 => exact rfl); (case c4 => exact rfl); (case c5 => decide); k_whole; intro g' L' h' FG' F' N' B' X' T' GS; (try dsimp only); (try k_lift B'); (try k_fold)
  k_steps
  rename_i lT h5 l5 h6 F6 N6
  have eL : ws.length = ls.length := hI.length
  have h14 : ls.length ≤ 14 := hls.2.2.1
  have lt5 : (@LT.lt Nat _ l lT) ∧ (@LT.lt Nat _ d lT) := l5
  refine enum_inv (σ := WR) (vs := ws) (k := dn) (fun c => [(lT, listOf c.v.toArray c.k), (l, listOf #[.int s0 t0, .int s1 t1, .int s2 t2, .int s3 t3, .int s4 t4] n), (d, listOf ws.toArray dn)]) (fun i c => IntsAre c.v ((List.range i).map (tpS [s0, s1, s2, s3, s4] ls))) [Str.ofString "k", Str.ofString "letter"] ⟨0, []⟩ rfl F6 N6 (.tail _ (.tail _ (.head _))) .nil ?_ ?_
  · intro I i c T t x u h tk own hlt hi hJ hx hT hoff hw ho F7 N7
    have hi' : i < ls.length := by rw [← hI.length]; exact hi
    obtain ⟨y, ty, rfl, ey⟩ : ∃ y ty, x = Value.int y ty ∧ ls[i]'hi' = y := by
      obtain ⟨ty, e⟩ := hI.get i ls[i] (List.getElem?_eq_getElem hi')
      rw [hx] at e
      exact ⟨_, ty, Option.some.inj e, rfl⟩
    obtain ⟨y0, y1⟩ := hls.1 y (ey ▸ List.getElem_mem hi')
    have lI : @LT.lt Nat _ lT I := hlt _ (.head _)
    have off : OwnOff own [lT, l] := own_off ho (by
      intro a ha
      rcases List.mem_cons.mp ha with rfl | ha
      · exact off3 lI (Nat.ne_of_gt lt5.2)
      · rw [List.mem_singleton.mp ha]; exact off3 (Nat.lt_trans lt5.1 lI) hne)
    simp only [List.cons_append, List.nil_append] at N7
    k_steps
    unfold Halt
    rename_i t8 h8 tk8 kp8 F8 N8
    refine append_K F8 N8 (.head ?_) ?_ ?_
    · refine List.forall_mem_cons.mpr ⟨Nat.ne_of_lt lt5.1, List.forall_mem_cons.mpr ⟨Nat.ne_of_lt lt5.2, fun p hp => off p hp _ (.head _)⟩⟩
    · intro h9 F9 N9
      rw [List.push_toArray] at N9
      k_steps
      refine tend (σ := WR) (⟨_, _⟩ : WR) F9 N9 (fun p hp => .tail _ (.tail _ (.tail _ hp))) (List.forall_mem_cons.mpr ⟨.head _, List.forall_mem_cons.mpr ⟨.tail _ (.head _), List.forall_mem_cons.mpr ⟨.tail _ (.tail _ (.head _)), fun _ h => nomatch h⟩⟩⟩) ?_
        (List.forall_mem_cons.mpr ⟨hoff (lT, listOf c.v.toArray c.k) (.head _), List.forall_mem_cons.mpr ⟨hoff (l, _) (.tail _ (.head _)), List.forall_mem_cons.mpr ⟨hoff (d, _) (.tail _ (.tail _ (.head _))), fun _ h => nomatch h⟩⟩⟩) ?_
      · intro z hz
        have z1 : z ≠ Str.ofString "k" ∧ z ≠ Str.ofString "letter" := by simpa using hz
        exact (if_neg z1.2).trans ((if_neg z1.1).trans (if_neg (by rw [hz]; decide)))
      · show IntsAre (c.v ++ [_]) ((List.range (i + 1)).map (tpS [s0, s1, s2, s3, s4] ls))
        rw [List.range_succ, List.map_append]
        refine IntsAre.append hJ ?_
        have e : tpS [s0, s1, s2, s3, s4] ls i = 2 * (List.take y.toNat [s0, s1, s2, s3, s4]).sum + ([s0, s1, s2, s3, s4]).getD y.toNat 0 + 64 * (1 - (i : Int).fmod 2) := by
          unfold tpS figS
          rw [show ls.getD i 0 = y by rw [List.getD_eq_getElem?_getD, List.getElem?_eq_getElem hi']; exact ey]
        rw [List.map_singleton, e]
        exact .cons _ _ .nil
    · have e := IntsAre.length hJ
      rw [List.length_map, List.length_range] at e
      rw [List.size_toArray, e]
      exact Nat.le_trans (show i ≤ 14 from Nat.le_of_lt (Nat.lt_of_lt_of_le hi' hls.2.2.1)) (Nat.le_of_ble_eq_true rfl)
  · intro c u h tk hJ F7 N7
    k_steps
    have past := Past.mk (n := 1)
    rename_i I6 h6 o6 i6 lI6 G6 h7 lG6 D6 h8 lD6 h9 F9 N9 h10 h11 F11 N11 h12 tk12 t12 u12 v12 R12 F12 N12 kp12
    unfold Halt
    obtain ⟨hf, ehf⟩ : ∃ hf, ls.length = 2 * hf := ⟨ls.length / 2, by have := hls.2.2.2; omega⟩
    have e2 : ((ls.length : Int)).fdiv 2 = (hf : Int) := by rw [Int.fdiv_eq_ediv_of_nonneg _ (by decide)]; omega
    rw [e2] at R12
    have sm := rngH hf (by omega)
    refine range_inv (σ := WS) (n := hf) (fun c' => [(G6, listOf c'.v.toArray c'.k), (I6, c'.o), (lT, listOf c.v.toArray c.k), (l, listOf #[.int s0 t0, .int s1 t1, .int s2 t2, .int s3 t3, .int s4 t4] n), (d, listOf ws.toArray dn)]) (fun i c' => LItr c'.o lT (2 * i) ∧ IntsAre c'.v ((List.range (2 * i)).map (fun j => figS [s0, s1, s2, s3, s4] (ls.getD j 0).toNat))) [Str.ofString "pair"] ⟨0, [], o6⟩ rfl R12 sm.1 sm.2 F12 (fun p hp => N12 p (.tail _ hp)) ⟨i6, .nil⟩ ?_ ?_
    · intro I i c2 t u2 h2 tk2 own hlt hi hJ2 hoff hw ho F13 N13
      obtain ⟨J1, J2⟩ := hJ2
      have lA : @LT.lt Nat _ G6 I ∧ @LT.lt Nat _ I6 I ∧ @LT.lt Nat _ lT I := ⟨hlt _ (.head _), hlt _ (.tail _ (.head _)), hlt _ (.tail _ (.tail _ (.head _)))⟩
      have off : OwnOff own [G6, I6] := own_off ho (by
        intro a ha
        rcases List.mem_cons.mp ha with rfl | ha
        · exact off1 lA.1
        · rw [List.mem_singleton.mp ha]; exact off1 lA.2.1)
      simp only [List.cons_append, List.nil_append] at N13
      have nI : I6 ≠ lT := Nat.ne_of_gt lI6.1
      have i2 : 2 * i + 1 < ls.length := by omega
      have gl : ∀ j, j < ls.length → 0 ≤ ls.getD j 0 ∧ ls.getD j 0 < 5 := by
        intro j hj
        rw [List.getD_eq_getElem?_getD, List.getElem?_eq_getElem hj]
        exact hls.1 _ (List.getElem_mem hj)
      have b1 := fig_b p0 p1 p2 p3 p4 ps _ (gl (2 * i) (by omega)).1 (gl (2 * i) (by omega)).2
      have b2 := fig_b p0 p1 p2 p3 p4 ps _ (gl (2 * i + 1) i2).1 (gl (2 * i + 1) i2).2
      obtain ⟨ta, ea⟩ := hJ.get (2 * i) (figS [s0, s1, s2, s3, s4] (ls.getD (2 * i) 0).toNat + 64) (by
        rw [List.getElem?_map, List.getElem?_range (by rw [eL]; omega)]
        refine congrArg some ?_
        unfold tpS
        have : ((2 * i : Nat) : Int).fmod 2 = 0 := by rw [Int.fmod_eq_emod_of_nonneg _ (by decide)]; omega
        rw [this]; rfl)
      obtain ⟨tb, eb⟩ := hJ.get (2 * i + 1) (figS [s0, s1, s2, s3, s4] (ls.getD (2 * i + 1) 0).toNat) (by
        rw [List.getElem?_map, List.getElem?_range (by rw [eL]; omega)]
        refine congrArg some ?_
        unfold tpS
        have : ((2 * i + 1 : Nat) : Int).fmod 2 = 1 := by rw [Int.fmod_eq_emod_of_nonneg _ (by decide)]; omega
        rw [this]; show _ + 64 * (1 - 1) = _; omega)
      have ft := twice_map (fun j => figS [s0, s1, s2, s3, s4] (ls.getD j 0).toNat) i
      (try dsimp only at ft)
      generalize figS [s0, s1, s2, s3, s4] (ls.getD (2 * i) 0).toNat = fa at b1 ea ft
      generalize figS [s0, s1, s2, s3, s4] (ls.getD (2 * i + 1) 0).toNat = fb at b2 eb ft
      have ea' : c.v.toArray[2 * i]? = some (.int (fa + 64) ta) := by simpa using ea
      have eb' : c.v.toArray[2 * i + 1]? = some (.int fb tb) := by simpa using eb
      k_steps
      refine c_var (by k_asm) (by k_asm) (by k_asm) (news_two (by k_asm) (p := (I6, c2.o)) (q := (lT, listOf c.v.toArray c.k)) (by k_mem) (by k_mem)) (by k_asm) rfl (by ktr_room) J1 ea' eb' nI (by omega) (by omega) b2.1 b2.2 ?_
      intro t14 h14' tk14 o14 kp14 M14 i14 F14
      rename_i h15 F15 N15
      have N14 := news_upd N15 (UpdF.tail (Ne.symm (Nat.ne_of_lt lG6.1)) (UpdF.head (List.forall_mem_cons.mpr ⟨Nat.ne_of_lt lI6.1, List.forall_mem_cons.mpr ⟨Nat.ne_of_lt lI6.2.1, List.forall_mem_cons.mpr ⟨Nat.ne_of_lt lI6.2.2, fun p hp => off p hp _ (.tail _ (.head _))⟩⟩⟩))) kp14 M14
      (try dsimp only at N14)
      k_steps
      rename_i h16 F16 N16
      have l2 : c2.v.length = 2 * i := by rw [J2.length, List.length_map, List.length_range]
      have lD : @LT.lt Nat _ G6 h14'.objs.size := Heap.lt_size (N14 _ (.head _)).1
      have sz : (c2.v.toArray.size + 2) ≤ sizeLine := by rw [List.size_toArray, l2, sizeLine_eq]; omega
      refine kup_extend (its := c2.v.toArray) (l := c2.v ++ [_, _]) F16 N16 (.head _) rfl (show (2 : Nat) ≠ 0 by decide) (Upd.tail (Nat.ne_of_gt lD) (Upd.head ?_)) ?_ ?_ ?_ ?_
      · refine List.forall_mem_cons.mpr ⟨Nat.ne_of_lt lG6.1, List.forall_mem_cons.mpr ⟨Nat.ne_of_lt lG6.2.1, List.forall_mem_cons.mpr ⟨Nat.ne_of_lt lG6.2.2.1, List.forall_mem_cons.mpr ⟨Nat.ne_of_lt lG6.2.2.2, fun p hp => off p hp _ (.head _)⟩⟩⟩⟩
      · have : Builtin.List.listTooLong (c2.v.toArray.size + 2) = false := by simp [Builtin.List.listTooLong]; simpa using sz
        intro h
        simp only [Bool.and_eq_true] at h
        exact absurd h.2 (by show ¬ Builtin.List.listTooLong (c2.v.toArray.size + 2) = true; rw [this]; decide)
      · exact Nat.le_trans (by simp) sz
      · exact Nat.le_trans sz (Nat.le_succ _)
      intro h17 F17 N17
      k_steps
      refine tend (σ := WS) (⟨c2.k + 1, c2.v ++ [.int (((fa + 64 - 64) * 64 + fb).fdiv 64) (tk14 + 1), .int (((fa + 64 - 64) * 64 + fb).fmod 64) (tk14 + 1 + 1)], o14⟩ : WS) F17 N17 ?_ ?_ ?_ ?_ ?_
      rotate_left 1
      · exact List.forall_mem_cons.mpr ⟨.tail _ (.head _), List.forall_mem_cons.mpr ⟨.tail _ (.tail _ (.head _)), List.forall_mem_cons.mpr ⟨.tail _ (.tail _ (.tail _ (.head _))), List.forall_mem_cons.mpr ⟨.tail _ (.tail _ (.tail _ (.tail _ (.head _)))), List.forall_mem_cons.mpr ⟨.tail _ (.tail _ (.tail _ (.tail _ (.tail _ (.head _))))), fun _ h => nomatch h⟩⟩⟩⟩⟩
      rotate_right 1
      · exact fun p hp => .tail _ (.tail _ (.tail _ (.tail _ (.tail _ (.tail _ hp)))))
      · intro z hz
        have z1 : z ≠ Str.ofString "pair" := by simpa using hz
        exact (if_neg z1).trans (if_neg (by rw [hz]; decide))
      · exact List.forall_mem_cons.mpr ⟨hoff (G6, listOf c2.v.toArray c2.k) (.head _), List.forall_mem_cons.mpr ⟨hoff (I6, c2.o) (.tail _ (.head _)), fun p hp => hoff p (.tail _ (.tail _ hp))⟩⟩
      · refine ⟨i14, ?_⟩
        show IntsAre (c2.v ++ [_, _]) ((List.range (2 * (i + 1))).map _)
        rw [ft]
        have q1 : ((fa + 64 - 64) * 64 + fb).fdiv 64 = fa := by rw [Int.fdiv_eq_ediv_of_nonneg _ (by decide)]; omega
        have q2 : ((fa + 64 - 64) * 64 + fb).fmod 64 = fb := by rw [Int.fmod_eq_emod_of_nonneg _ (by decide)]; omega
        rw [q1, q2]
        exact IntsAre.append J2 (.cons _ _ (.cons _ _ .nil))
    · intro c2 u2 h2 tk2 hJ2 F13 N13
      obtain ⟨J1, J2⟩ := hJ2
      have lz : c.v.toArray.size = 2 * hf := by rw [List.size_toArray, hJ.length, List.length_map, List.length_range, eL, ehf]
      rw [← lz] at J1
      have lr : (List.range (2 * hf)).map (fun j => figS [s0, s1, s2, s3, s4] (ls.getD j 0).toNat) = ls.map (fun x => figS [s0, s1, s2, s3, s4] x.toNat) := by
        rw [← ehf]
        refine List.ext_getElem (by simp) fun j h1 h2 => ?_
        have h3 : j < ls.length := by simpa using h1
        rw [List.getElem_map, List.getElem_map, List.getElem_range, List.getD_eq_getElem?_getD, List.getElem?_eq_getElem h3]; rfl
      rw [lr] at J2
      have i0 : IntsAre [] [] := .nil
      have k14 : (ls.map (fun x => figS [s0, s1, s2, s3, s4] x.toNat)).length ≤ 14 := by rw [List.length_map]; exact h14
      k_steps
      refine kli_list (rest := [(G6, listOf c2.v.toArray c2.k), (l, listOf #[.int s0 t0, .int s1 t1, .int s2 t2, .int s3 t3, .int s4 t4] n), (d, listOf ws.toArray dn)]) rfl F13 N13 (.tail _ (.head _)) J1 (.tail _ (.tail _ (.head _))) ?_ ?_
      · exact List.forall_mem_cons.mpr ⟨⟨.head _, Nat.ne_of_gt lG6.1⟩, List.forall_mem_cons.mpr ⟨⟨.tail _ (.tail _ (.tail _ (.head _))), Nat.ne_of_lt lI6.2.1⟩, List.forall_mem_cons.mpr ⟨⟨.tail _ (.tail _ (.tail _ (.tail _ (.head _)))), Nat.ne_of_lt lI6.2.2⟩, fun _ h => nomatch h⟩⟩⟩
      · intro D8 c8 h8 F8 N8 l8
        k_steps
        rename_i D9 ws9 h9 F9 N9 I9 lD9 kF kN Tc kX
        rw [List.append_nil] at I9
        refine hret D9 _ _ ws9 I9 (stood GS N (by assumption) N9 ?_) (apart_new GS N N9 (.head _) ?_) (by assumption) (news_one (by assumption) (by k_mem))
        · exact List.forall_mem_cons.mpr ⟨by k_mem, List.forall_mem_cons.mpr ⟨by k_mem, fun _ h => nomatch h⟩⟩
        · exact List.forall_mem_cons.mpr ⟨Nat.ne_of_lt lD9.2.2.1, List.forall_mem_cons.mpr ⟨Nat.ne_of_lt lD9.2.2.2, fun _ h => nomatch h⟩⟩
end Mine
-- part Chp
namespace Mine

local macro_rules | `(tactic| walk_at "exec For Name Call cons nil") => `(tactic| (k_here; k_dflt (refine For_turns (by k_asm) ?_)))
local macro_rules | `(tactic| walk_at "exec For Name Call") => `(tactic| (k_here; k_dflt (refine For_turns (by k_asm) ?_)))
local macro_rules | `(tactic| walk_at $k:str) => do if (["pyIter ref", "CompSrc"] : List String).contains k.getString then `(tactic| (refine halt_intro ?_)) else Lean.Macro.throwUnsupported
local macro_rules | `(tactic| walk_at "subscriptTail") => `(tactic| (k_here; k_dflt (refine kda_item (knd := intKind PR _) (by k_asm) (by k_mem) (by k_asm) (intKind_is _ _ _ _) (by assumption) ?_)))
local macro_rules | `(tactic| walk_at "setItem ref int") => `(tactic| (k_here; (refine halt_intro ?_)))
structure WC where
  o : Obj
  kvs : List (Int × Value)
  o2 : Obj
  o3 : Obj
def minL : List Int → Int
  | [] => 0
  | [x] => x
  | x :: r => if x ≤ minL r then x else minL r
/-- the least cost of a tree over sz letters from first on (fuel ahead) -/
def cst (S : List Int) : Nat → Nat → Nat → Int
  | 0, _, _ => 0
  | f + 1, sz, a => if sz ≤ 1 then 0 else minL ((List.range (sz - 1)).map (fun c => cst S f (c + 1) a + cst S f (sz - 1 - c) (a + 1 + c))) + ((S.drop a).take sz).sum
def Filled (S : List Int) (kvs : List (Int × Value)) (sz a : Nat) : Prop := ∃ v t, valueAt kvs (10 * (a : Int) + ((a : Int) + (sz : Int))) = some (.int v t) ∧ ∀ f, sz ≤ f → v ≤ cst S f sz a
def TabOk (S : List Int) (kvs : List (Int × Value)) (i j : Nat) : Prop := kvs.length ≤ 10 * i + j ∧ (∀ sz a, 1 ≤ sz → sz ≤ i → a + sz ≤ 5 → Filled S kvs sz a) ∧ (∀ a, a < j → Filled S kvs (i + 1) a)
theorem rngO : Builtin.Range.small 1 6 1 = true ∧ Builtin.Range.rangeSize 1 6 1 = ((5 : Nat) : Int) := by decide
theorem rngI : ∀ i : Nat, i < 5 → Builtin.Range.small 0 (6 - (1 + (i : Int))) 1 = true ∧ Builtin.Range.rangeSize 0 (6 - (1 + (i : Int))) 1 = ((5 - i : Nat) : Int) := by decide
theorem rngC : ∀ j : Nat, j < 5 → ∀ i : Nat, i < 5 → Builtin.Range.small (0 + (j : Int) + 1) (0 + (j : Int) + (1 + (i : Int))) 1 = true ∧ Builtin.Range.rangeSize (0 + (j : Int) + 1) (0 + (j : Int) + (1 + (i : Int))) 1 = ((i : Nat) : Int) := by decide
def WaysOk (S : List Int) (i j k : Nat) (ys : List Value) : Prop := ∃ ns, IntsAre ys ns ∧ ns.length = k ∧ ∀ c, c < k → ∃ x, ns[c]? = some x ∧ ∀ f, i ≤ f → x ≤ cst S f (c + 1) j + cst S f (i - c) (j + 1 + c)
theorem ways_more {S : List Int} {i j k : Nat} {ys : List Value} {v1 v2 : Int} {t : Tok} (h : WaysOk S i j k ys) (h1 : ∀ f, k + 1 ≤ f → v1 ≤ cst S f (k + 1) j) (h2 : ∀ f, i - k ≤ f → v2 ≤ cst S f (i - k) (j + 1 + k)) (hk : k < i) : WaysOk S i j (k + 1) (ys ++ [.int (v1 + v2) t]) := by
  obtain ⟨ns, hI, hl, hb⟩ := h
  refine ⟨ns ++ [v1 + v2], IntsAre.append hI (.cons _ _ .nil), by rw [List.length_append, hl]; rfl, fun c hc => ?_⟩
  rcases Nat.lt_or_ge c k with q | q
  · obtain ⟨x, e, b⟩ := hb c q
    exact ⟨x, by rw [List.getElem?_append_left (by omega)]; exact e, b⟩
  · have e : c = k := by omega
    subst e
    refine ⟨v1 + v2, by rw [List.getElem?_append_right (by omega), hl]; simp, fun f hf => ?_⟩
    have a1 := h1 f (by omega)
    have a2 := h2 f (by omega)
    omega
theorem minL_mem : ∀ l : List Int, l ≠ [] → minL l ∈ l
  | [], h => absurd rfl h
  | [x], _ => .head _
  | x :: y :: r, _ => by
    show (if x ≤ minL (y :: r) then x else minL (y :: r)) ∈ _
    split
    · exact .head _
    · exact .tail _ (minL_mem (y :: r) (List.cons_ne_nil _ _))
theorem find_map (v : Value) (key k : Int) : ∀ kvs : List (Int × Value), valueAt (kvs.map (fun kv => if kv.1 = key then (kv.1, v) else kv)) k = if k = key then (if kvs.any (fun kv => kv.1 = key) then some v else none) else valueAt kvs k
  | [] => by simp [valueAt]
  | (a, b) :: r => by
    have ih := find_map v key k r
    unfold valueAt at ih ⊢
    by_cases h1 : a = key
    · subst h1
      by_cases h2 : k = a
      · subst h2; simp
      · simp [h2, Ne.symm h2]
        simp [h2] at ih
        exact ih
    · by_cases h3 : a = k
      · subst h3; simp [h1]
      · rw [List.any_cons, show decide ((a, b).1 = key) = false from decide_eq_false h1, Bool.false_or]
        simp [h1, h3]
        simpa using ih
theorem find_stored (v : Value) (key k : Int) (kvs : List (Int × Value)) : valueAt (stored kvs key v) k = if k = key then some v else valueAt kvs k := by
  unfold stored
  split
  · rename_i h
    rw [find_map, h]; rfl
  · rename_i h
    unfold valueAt
    rw [List.find?_append]
    by_cases h2 : k = key
    · subst h2
      have : kvs.find? (fun kv => decide (kv.1 = k)) = none := by
        rw [List.find?_eq_none]
        intro x hx hq
        exact h (List.any_eq_true.mpr ⟨x, hx, hq⟩)
      rw [this]; simp
    · rw [if_neg h2]
      cases q : kvs.find? (fun kv => decide (kv.1 = k)) with
      | none => simp [Ne.symm h2]
      | some y => simp
theorem filled_more {S : List Int} {kvs : List (Int × Value)} {key : Int} {v : Value} {sz a : Nat} (h : Filled S kvs sz a) (hk : 10 * (a : Int) + ((a : Int) + (sz : Int)) ≠ key) : Filled S (stored kvs key v) sz a := by
  obtain ⟨v1, t1, e, b⟩ := h
  exact ⟨v1, t1, by rw [find_stored, if_neg hk]; exact e, b⟩
theorem tab_more {S : List Int} {kvs : List (Int × Value)} {i j : Nat} {key v : Int} {t : Tok} (h : TabOk S kvs i j) (hij : i + j < 5) (hk : key = 10 * (j : Int) + ((j : Int) + ((i + 1 : Nat) : Int))) (hv : ∀ f, i + 1 ≤ f → v ≤ cst S f (i + 1) j) : TabOk S (stored kvs key (.int v t)) i (j + 1) := by
  subst hk
  refine ⟨Nat.le_trans (stored_length_le _ _ _) (by have := h.1; omega), fun sz a h1 h2 h3 => filled_more (h.2.1 sz a h1 h2 h3) (by omega), fun a ha => ?_⟩
  rcases Nat.lt_or_ge a j with q | q
  · exact filled_more (h.2.2 a q) (by omega)
  · have e : a = j := by omega
    subst e
    exact ⟨v, t, by rw [find_stored, if_pos rfl], hv⟩
theorem tab_next {S : List Int} {kvs : List (Int × Value)} {i : Nat} (h : TabOk S kvs i (5 - i)) : TabOk S kvs (i + 1) 0 := by
  refine ⟨by have := h.1; omega, fun sz a h1 h2 h3 => ?_, fun a ha => absurd ha (Nat.not_lt_zero _)⟩
  rcases Nat.lt_or_ge sz (i + 1) with q | q
  · exact h.2.1 sz a h1 (by omega) h3
  · have e : sz = i + 1 := by omega
    subst e
    exact h.2.2 a (by omega)
theorem new_le {s0 s1 s2 s3 s4 : Int} {i j : Nat} {ns : List Int} {M : Int} (hb : ∀ c, c < i → ∃ x, ns[c]? = some x ∧ ∀ f, i ≤ f → x ≤ cst [s0, s1, s2, s3, s4] f (c + 1) j + cst [s0, s1, s2, s3, s4] f (i - c) (j + 1 + c)) (hM : ∀ a ∈ ns, M ≤ a) (hi : 1 ≤ i) (hij : i + j < 5) :
    ∀ f, i + 1 ≤ f → M + (List.take (min (0 + (j : Int) + (1 + (i : Int))).toNat [s0, s1, s2, s3, s4].length - (0 + (j : Int)).toNat) (List.drop (0 + (j : Int)).toNat [s0, s1, s2, s3, s4])).sum ≤ cst [s0, s1, s2, s3, s4] f (i + 1) j := by
  intro f hf
  obtain ⟨f, rfl⟩ : ∃ g, f = g + 1 := ⟨f - 1, by omega⟩
  have e1 : (0 + (j : Int)).toNat = j := by omega
  have e2 : (0 + (j : Int) + (1 + (i : Int))).toNat = j + 1 + i := by omega
  have e3 : min (j + 1 + i) [s0, s1, s2, s3, s4].length - j = i + 1 := by
    show min (j + 1 + i) 5 - j = i + 1
    omega
  rw [e1, e2, e3, cst, if_neg (by omega)]
  have m1 := minL_mem ((List.range (i + 1 - 1)).map (fun c => cst [s0, s1, s2, s3, s4] f (c + 1) j + cst [s0, s1, s2, s3, s4] f (i + 1 - 1 - c) (j + 1 + c))) (by
    intro h
    have := congrArg List.length h
    rw [List.length_map, List.length_range] at this
    simp at this; omega)
  obtain ⟨c, hc, ec⟩ := List.mem_map.mp m1
  have hc' : c < i := by have := List.mem_range.mp hc; omega
  obtain ⟨x, ex, bx⟩ := hb c hc'
  have b1 := bx f (by omega)
  have b2 := hM x (List.mem_of_getElem? ex)
  rw [← ec, show i + 1 - 1 - c = i - c by omega]
  omega
theorem key_is (i j : Nat) : 10 * (0 + (j : Int)) + (0 + (j : Int) + (1 + (i : Int))) = 10 * (j : Int) + ((j : Int) + ((i + 1 : Nat) : Int)) := by omega
theorem c_chp {w : World} {mean : ExcName → Option Value} {mg mb : Str → Option Value} {dp un : Nat} {gd : Option (List Code)} {cn : Str} {cs : Scope} {a : Addr} {ccd : Value} {cl : List (Str × Addr)} {outer : List Env} {A₀ : Around} {base h₀ : Heap} {L : Addr} {m : Str → Option Value} {s : Shared} {Q E : Value → Shared → Prop} {l : Addr} {s0 s1 s2 s3 s4 : Int} {t0 t1 t2 t3 t4 : Tok} {n : Nat}
   (B : Below A₀ base outer h₀) (F : Fr h₀ L s.heap m) (X : (_root_.Mine.hk.heap_1 w.params).In h₀) (N : News h₀ L s.heap [(l, listOf #[.int s0 t0, .int s1 t1, .int s2 t2, .int s3 t3, .int s4 t4] n)]) (T : Top VW LO mean mg mb h₀) (hk : cs.kind = .function)
   (hd : dp + 1 < recursionLimit)
   (hret : ∀ t v h' tk', v ≤ cst [s0, s1, s2, s3, s4] 5 5 0 → (∀ b o, s.heap.get? b = some o → h'.get? b = some o) → Fr h₀ L h' m → Q (.int v t) { s with heap := h', toks := tk' }) :
   wpAny (model PR w) (ktrTop dp un gd cn cs L a ccd cl outer) (call (.ref 171) [.ref l]) Q E s := by
  refine wpAny_call ?_
  refine' enter_cells ?k1 ?k2 ?k3 ?k4 ?k5 ?kA ?kF ?kK ?k6 ?k7 ?k8 ?k9 ?kB ?kD ?_ ?c2 ?c3 ?c4
  (case kA => exact rfl); (case kF => exact rfl); (case kK => assumption); (case k1 => k_asm); (case k2 => k_asm); (case k3 => k_asm); (case k4 => k_asm); (case k5 => k_asm); (case k6 => k_is); (case k7 => k_is); (case k8 => ktr_room); (case k9 => exact BindsTo.of_eq rfl); (case kB => exact rfl); (case kD => decide +kernel); (case c2 => exact rfl); (case c3 => exact rfl); (case c4 => exact rfl); k_whole; intro g' L' h' tk' cells' FG' F' N' Y' B' X' T' l1 GS; (try k_lt l1); k_cells Y'; (try simp only [List.cons_append, List.nil_append] at N'); (try dsimp only); (try k_lift B'); (try k_fold)
  k_steps
  unfold Halt
  rename_i o3 d3 D5 h5 oD lo5 hs5 fs5 hi5 fi5 l5 h6 oC F6 N6 dC h7 tk7 t7 u7 v7 R7 F7 N7 kp7
  clear hs5 fs5 fi5
  have lt5 : (@LT.lt Nat _ (L' + 1 + 1 + 1) D5) ∧ (@LT.lt Nat _ (L' + 1 + 1) D5) ∧ (@LT.lt Nat _ (L' + 1) D5) ∧ (@LT.lt Nat _ l D5) := l5
  have ll' : @LT.lt Nat _ l L' := l1
  refine range_inv (σ := WC) (n := 5) (fun c => [(D5, c.o), (L' + 1 + 1 + 1, c.o3), (L' + 1 + 1, c.o2), (L' + 1, oC), (l, listOf #[.int s0 t0, .int s1 t1, .int s2 t2, .int s3 t3, .int s4 t4] n)]) (fun i c => Obj.IsDictOf (intKind PR w) c.o c.kvs ∧ (∃ v, c.o2.data = .cell v) ∧ (∃ v, c.o3.data = .cell v) ∧ TabOk [s0, s1, s2, s3, s4] c.kvs i 0) [Str.ofString "size", Str.ofString "ways"] ⟨oD, [], _, _⟩ rfl R7 rngO.1 rngO.2 F7 N7 ⟨hi5, ⟨_, by assumption⟩, ⟨_, by assumption⟩, ?_⟩ ?_ ?_
  · refine ⟨Nat.le_refl _, fun sz a h1 h2 => absurd (Nat.le_trans h1 h2) (by decide), fun a h => absurd h (Nat.not_lt_zero _)⟩
  · intro I i c t u h tk own hlt hi hJ hoff hw ho F8 N8
    obtain ⟨hD, ⟨w2, e2⟩, ⟨w3, e3⟩, tab⟩ := hJ
    have lI : @LT.lt Nat _ D5 I := hlt _ (.head _)
    have off : OwnOff own [D5, L' + 1 + 1 + 1, L' + 1 + 1, L' + 1, l] := own_off ho (by
      intro a ha
      refine off1 (?_ : @LT.lt Nat _ a I)
      simp only [List.mem_cons, List.not_mem_nil, or_false] at ha
      rcases ha with rfl | rfl | rfl | rfl | rfl
      · exact lI
      · exact Nat.lt_trans lt5.1 lI
      · exact Nat.lt_trans lt5.2.1 lI
      · exact Nat.lt_trans lt5.2.2.1 lI
      · exact Nat.lt_trans lt5.2.2.2 lI)
    simp only [List.cons_append, List.nil_append] at N8
    k_steps
    unfold Halt
    rename_i h9 F9 N9 h10 tk10 t10 u10 v10 R10 F10 N10 kp10
    have sm := rngI i hi
    refine range_inv (σ := WC) (n := 5 - i) (fun c => (D5, c.o) :: (L' + 1 + 1 + 1, c.o3) :: (L' + 1 + 1, c.o2) :: (L' + 1, oC) :: (l, listOf #[.int s0 t0, .int s1 t1, .int s2 t2, .int s3 t3, .int s4 t4] n) :: own) (fun j c => Obj.IsDictOf (intKind PR w) c.o c.kvs ∧ (∃ v, c.o2.data = .cell v) ∧ (∃ v, c.o3.data = .cell v) ∧ TabOk [s0, s1, s2, s3, s4] c.kvs i j) [Str.ofString "ways"] ⟨c.o, c.kvs, c.o2, c.o3⟩ rfl R10 sm.1 sm.2 F10 N10 ⟨hD, ⟨w2, e2⟩, ⟨w3, e3⟩, tab⟩ ?_ ?_
    · clear hD e2 e3 tab N8 F8 N9 F9 N10 F10 R10 kp10 w2 w3
      intro I2 j c2 tj u2 h2 tk2 own2 hlt2 hj hJ2 hoff2 hw2 ho2 F11 N11
      obtain ⟨hD, ⟨w2, e2⟩, ⟨w3, e3⟩, tab⟩ := hJ2
      have lI2 : @LT.lt Nat _ D5 I2 := hlt2 _ (.head _)
      have off2 : OwnOff own2 [D5, L' + 1 + 1 + 1, L' + 1 + 1, L' + 1, l] := own_off ho2 (by
        intro a ha
        refine off1 (?_ : @LT.lt Nat _ a I2)
        simp only [List.mem_cons, List.not_mem_nil, or_false] at ha
        rcases ha with rfl | rfl | rfl | rfl | rfl
        · exact lI2
        · exact Nat.lt_trans lt5.1 lI2
        · exact Nat.lt_trans lt5.2.1 lI2
        · exact Nat.lt_trans lt5.2.2.1 lI2
        · exact Nat.lt_trans lt5.2.2.2 lI2)
      simp only [List.cons_append] at N11
      have off3 : OwnOff (own ++ own2) [D5, L' + 1 + 1 + 1, L' + 1 + 1, L' + 1, l] := fun p hp => (List.mem_append.mp hp).elim (off p) (off2 p)
      generalize hq : own ++ own2 = own3 at N11 off3
      have hj5 : i + j < 5 := by omega
      have hz : c2.kvs.length ≤ sizeLine := by have := tab.1; rw [sizeLine_eq]; omega
      k_steps
      unfold Halt
      rename_i oFi eFi h12 oLa F12 N12 eLa h13 tk13 t13 u13 v13 R13 F13 N13 kp13
      have sm2 := rngC j (by omega) i (by omega)
      refine LCg.CompSrc.range rfl F13 N13 R13 sm2.1 sm2.2 (by rw [sizeLine_eq]; omega) ?_
      intro g14
      refine compU_ind (J := WaysOk [s0, s1, s2, s3, s4] i j) ?_ ?_ i 0 [] (Nat.zero_add i) ⟨[], .nil, rfl, fun c h => absurd h (Nat.not_lt_zero _)⟩
      · intro k ys hk hJk v I15 oI15 C15 oC15 D15 m15 h15 tk15 E15 hv hC hx F15 N15 off15 ne15
        obtain ⟨t9, hv9⟩ := hv
        subst hv9
        obtain ⟨v1, w1, z1, b1⟩ := tab.2.1 (k + 1) j (by omega) (by omega) (by omega)
        obtain ⟨v2, w2', z2, b2⟩ := tab.2.1 (i - k) (j + 1 + k) (by omega) (by omega) (by omega)
        have y1 : valueAt c2.kvs (10 * (0 + (j : Int)) + (0 + (j : Int) + 1 + (k : Int))) = some (.int v1 w1) := by
          rw [← z1]; congr 1; omega
        have y2 : valueAt c2.kvs (10 * (0 + (j : Int) + 1 + (k : Int)) + (0 + (j : Int) + (1 + (i : Int)))) = some (.int v2 w2') := by
          rw [← z2]; congr 1; omega
        clear z1 z2
        k_steps
        refine LCg.CompEnd.intro (by assumption) (by assumption) _ ?_ off15 trivial ⟨rfl, ?_⟩
        · first | exact fun p hp => hp | lcg_sub
        · exact ways_more hJk b1 b2 hk
      · intro ys hJk
        obtain ⟨ns, hIn, hln, hbn⟩ := hJk
        k_steps
        · unfold Halt
          rename_i D16 q16 i16 h16 M16 t16 k16 m16 b16 D17 ws17 h17 F17 N17 I17 C17 L17 l17 h18 tk18 t18 F18 N18
          have hv := new_le hbn b16 (by omega) hj5
          refine kda_set (knd := intKind PR w) (by k_asm) (by k_asm) (by k_updF) hD (intKind_is _ _ _ _) hz ?_
          intro h19 o19 F19 N19 hD19
          k_steps
          refine tend (σ := WC) (⟨o19, _, oFi, oLa⟩ : WC) F19 N19 ?_ ?_ ?_ ?_ ⟨hD19, ⟨_, eFi⟩, ⟨_, eLa⟩, tab_more tab hj5 (key_is i j) hv⟩
          · intro p hp
            exact .tail _ (.tail _ (.tail _ (.tail _ (.tail _ (.tail _ (.tail _ (hq ▸ List.mem_append.mpr (.inr hp))))))))
          · intro p hp
            refine .tail _ (.tail _ (?_))
            have q : ∀ {p : Addr × Obj}, p ∈ own → p ∈ own3 := fun h => hq ▸ List.mem_append.mpr (.inl h)
            rcases List.mem_cons.mp hp with rfl | hp
            · exact .head _
            rcases List.mem_cons.mp hp with rfl | hp
            · exact .tail _ (.head _)
            rcases List.mem_cons.mp hp with rfl | hp
            · exact .tail _ (.tail _ (.head _))
            rcases List.mem_cons.mp hp with rfl | hp
            · exact .tail _ (.tail _ (.tail _ (.head _)))
            rcases List.mem_cons.mp hp with rfl | hp
            · exact .tail _ (.tail _ (.tail _ (.tail _ (.head _))))
            · exact .tail _ (.tail _ (.tail _ (.tail _ (.tail _ (q hp)))))
          · intro z hz
            have z1 : z ≠ Str.ofString "ways" := by simpa using hz
            exact (if_neg z1).trans (if_neg (by rw [hz]; decide))
          · exact List.forall_mem_cons.mpr ⟨hoff2 (D5, c2.o) (.head _), List.forall_mem_cons.mpr ⟨hoff2 (L' + 1 + 1 + 1, c2.o3) (.tail _ (.head _)), List.forall_mem_cons.mpr ⟨hoff2 (L' + 1 + 1, c2.o2) (.tail _ (.tail _ (.head _))), fun p hp => hoff2 p (.tail _ (.tail _ (.tail _ hp)))⟩⟩⟩
        · unfold Halt
          refine kda_set (knd := intKind PR w) (by k_asm) (by k_asm) (by k_updF) hD (intKind_is _ _ _ _) hz ?_
          intro h19 o19 F19 N19 hD19
          rename_i h16 D16 h17 tk17 F17 N17 q16 i0
          have i0' : i = 0 := by omega
          have hv : ∀ f, i + 1 ≤ f → (0 : Int) ≤ cst [s0, s1, s2, s3, s4] f (i + 1) j := by
            intro f hf
            obtain ⟨f, rfl⟩ : ∃ g, f = g + 1 := ⟨f - 1, by omega⟩
            rw [cst, if_pos (by omega)]; exact Int.le_refl _
          k_steps
          refine tend (σ := WC) (⟨o19, _, oFi, oLa⟩ : WC) F19 N19 ?_ ?_ ?_ ?_ ⟨hD19, ⟨_, eFi⟩, ⟨_, eLa⟩, tab_more tab hj5 (key_is i j) hv⟩
          · intro p hp
            exact .tail _ (.tail _ (.tail _ (.tail _ (.tail _ (.tail _ (hq ▸ List.mem_append.mpr (.inr hp)))))))
          · intro p hp
            refine .tail _ (?_)
            have q : ∀ {p : Addr × Obj}, p ∈ own → p ∈ own3 := fun h => hq ▸ List.mem_append.mpr (.inl h)
            rcases List.mem_cons.mp hp with rfl | hp
            · exact .head _
            rcases List.mem_cons.mp hp with rfl | hp
            · exact .tail _ (.head _)
            rcases List.mem_cons.mp hp with rfl | hp
            · exact .tail _ (.tail _ (.head _))
            rcases List.mem_cons.mp hp with rfl | hp
            · exact .tail _ (.tail _ (.tail _ (.head _)))
            rcases List.mem_cons.mp hp with rfl | hp
            · exact .tail _ (.tail _ (.tail _ (.tail _ (.head _))))
            · exact .tail _ (.tail _ (.tail _ (.tail _ (.tail _ (q hp)))))
          · intro z hz
            have z1 : z ≠ Str.ofString "ways" := by simpa using hz
            exact (if_neg z1).trans (if_neg (by rw [hz]; decide))
          · exact List.forall_mem_cons.mpr ⟨hoff2 (D5, c2.o) (.head _), List.forall_mem_cons.mpr ⟨hoff2 (L' + 1 + 1 + 1, c2.o3) (.tail _ (.head _)), List.forall_mem_cons.mpr ⟨hoff2 (L' + 1 + 1, c2.o2) (.tail _ (.tail _ (.head _))), fun p hp => hoff2 p (.tail _ (.tail _ (.tail _ hp)))⟩⟩⟩
    · intro c2 u2 h2 tk2 hJ2 F11 N11
      obtain ⟨hD, ⟨w2, e2⟩, ⟨w3, e3⟩, tab⟩ := hJ2
      k_steps
      refine tend (σ := WC) c2 F11 N11 (fun p hp => .tail _ (.tail _ (.tail _ (.tail _ (.tail _ hp))))) ?_ ?_ ?_ ⟨hD, ⟨_, e2⟩, ⟨_, e3⟩, tab_next tab⟩
      · intro p hp
        rcases List.mem_cons.mp hp with rfl | hp
        · exact .head _
        rcases List.mem_cons.mp hp with rfl | hp
        · exact .tail _ (.head _)
        rcases List.mem_cons.mp hp with rfl | hp
        · exact .tail _ (.tail _ (.head _))
        rcases List.mem_cons.mp hp with rfl | hp
        · exact .tail _ (.tail _ (.tail _ (.head _)))
        rcases List.mem_cons.mp hp with rfl | hp
        · exact .tail _ (.tail _ (.tail _ (.tail _ (.head _))))
        · exact nomatch hp
      · intro z hz
        have z1 : z ≠ Str.ofString "size" ∧ z ≠ Str.ofString "ways" := by simpa using hz
        have z2 : [Str.ofString "ways"].contains z = false := by simpa using z1.2
        exact (if_neg (by rw [z2]; decide)).trans ((if_neg z1.1).trans (if_neg (by rw [hz]; decide)))
      · exact List.forall_mem_cons.mpr ⟨hoff (D5, c.o) (.head _), List.forall_mem_cons.mpr ⟨hoff (L' + 1 + 1 + 1, c.o3) (.tail _ (.head _)), List.forall_mem_cons.mpr ⟨hoff (L' + 1 + 1, c.o2) (.tail _ (.tail _ (.head _))), fun p hp => hoff p (.tail _ (.tail _ (.tail _ hp)))⟩⟩⟩
  · intro c u h tk hJ F8 N8
    obtain ⟨hD, ⟨w2, e2⟩, ⟨w3, e3⟩, tab⟩ := hJ
    obtain ⟨v5, t5, y5, b5⟩ := tab.2.1 5 0 (by decide) (by decide) (by decide)
    have y6 : valueAt c.kvs 5 = some (.int v5 t5) := y5
    k_steps
    refine hret _ _ _ _ (b5 5 (Nat.le_refl _)) (stood GS N (by assumption) N8 ?_) (by assumption)
    intro p hp
    rw [List.mem_singleton.mp hp]
    k_mem
end Mine
-- part Acc
namespace Mine
/-- a class whose instances are lists, made by list's own make -/
def makesL (K : Frag) (C : Addr) : Bool := match K.lookup C with
  | some ⟨_, _, .cls cd, sl⟩ => !cd.hasDel && (sl.toList[4]?).join == some (.builtin "list.__new__") && !cd.mro.isEmpty && cd.mro.contains (.ref C) && cd.mro.contains (.type "list") &&
      specialIn K (.ref C) "__call__" == some (some (.builtin "type.__call__")) && instIn K (.ref C) (.type "type") == some true
  | _ => false
structure MakesL (M : Model) (h : Heap) (C : Addr) : Prop where
  obj : ∃ oc od cd sl, h.get? C = some ⟨oc, od, .cls cd, sl⟩ ∧ cd.hasDel = false ∧ cd.mro.isEmpty = false
  made : Looks M h (Bind.madeBy (.ref C)) (some "list.__new__")
  base : Looks M h (Bind.staticBase (.ref C)) (.ref C)
  self : Looks M h (isSubtype (.ref C) (.ref C)) true
  top : Looks M h (isSubtype (.ref C) (.type "list")) true
  call : Looks M h (specialOf (.ref C) "__call__") (some (.builtin "type.__call__"))
  typ : Looks M h (isInstance (.ref C) (.type "type")) true
theorem makesL_of {K : Frag} {M : Model} {h : Heap} (X : K.In h) {C : Addr} (e : makesL K C = true) : MakesL M h C := by
  unfold makesL at e
  split at e
  · rename_i oc od cd sl ho
    simp only [Bool.and_eq_true, Bool.not_eq_true', beq_iff_eq] at e
    obtain ⟨⟨⟨⟨⟨⟨e2, e3⟩, e4⟩, e5⟩, e6⟩, e7⟩, e8⟩ := e
    have hc : clsIn K C = some cd := by unfold clsIn; rw [ho]
    have hm : Looks M h (mroOf (.ref C)) cd.mro := (looks_clsIn X hc).andThen .now
    obtain ⟨c, l, hl⟩ : ∃ c l, cd.mro = c :: l := by cases q : cd.mro with | nil => rw [q] at e4; cases e4 | cons c l => exact ⟨c, l, rfl⟩
    have made : Looks M h (Bind.madeBy (.ref C)) (some "list.__new__") := by
      intro A Q E s k q
      unfold Bind.madeBy
      refine wpAny_bind (hm A _ E s k ?_)
      rw [hl, List.forIn_cons]
      refine wpAny_bind (wpAny_bind (wpAny_bind (wpAny_bind (wpAny_loadPart (k _ _ (X _ _ ho)) (wpAny_pure ?_)))))
      dsimp only
      rw [← Array.getElem?_toList, e3]
      exact wpAny_pure (wpAny_pure (wpAny_pure q))
    refine ⟨⟨oc, od, cd, sl, X _ _ ho, e2, e4⟩, made, ?_, looks_mroIn X ?_, looks_mroIn X ?_, looks_specialIn X e7, looks_instIn X e8⟩
    · intro A Q E s k q
      unfold Bind.staticBase
      refine wpAny_bind (hm A _ E s k ?_)
      rw [hl, List.forIn_cons]
      exact wpAny_bind (wpAny_bind (wpAny_bind (made A _ E s k (wpAny_pure (wpAny_pure (wpAny_pure q))))))
    · unfold mroIn; rw [hc, Option.bind_some, if_neg (by rw [e4]; decide), e5]
    · unfold mroIn; rw [hc, Option.bind_some, if_neg (by rw [e4]; decide), e6]
  · cases e
abbrev lstObj (C dx : Addr) (its : Array Value) (n : Nat) : Obj := { cls := .ref C, dict := some dx, data := .seq its n }
abbrev noDict : Obj := { cls := .type "dict", data := .dict #[] }
theorem ln_kind : builtinKind "list.__new__" = some .builtinFn := by decide +kernel
theorem ln_split : splitId "list.__new__" = some ("list", "__new__") := by decide +kernel
section
variable {prog : Program} {w : World} {A : Around} {K : Frag} {C : Addr} {R : Result → Shared → Prop} {h : Heap} {g : Array GenState} {d : Drawn} {t : Nat} {os : OsState}
theorem ln_sig : Manifest.signature? "list.__new__" = some ⟨.any, "list", "list", .cls, [⟨"args", .varPos, false⟩, ⟨"kwargs", .varKw, false⟩]⟩ := by kernel_rfl
theorem ln_args (C : Addr) : Bind.checkArgs "list.__new__" ⟨.any, "list", "list", .cls, [⟨"args", .varPos, false⟩, ⟨"kwargs", .varKw, false⟩]⟩ ⟨[.ref C], []⟩ = pure () := by kernel_rfl
theorem newL (Y : MakesL (model prog w) h C)
    (hq : R (.ok (.ret (.ref (h.objs.size + 1)))) ⟨(h.push noDict).push (lstObj C h.objs.size #[] 0), g, d, t, os⟩) :
    codeAny (model prog w) A (.call (.builtin "list.__new__") ⟨[.ref C], []⟩) R ⟨h, g, d, t, os⟩ := by
  obtain ⟨⟨oc, od, cd, sl, hC, e2, e4⟩, made, base, self, top, call, typ⟩ := Y
  refine codeAny_call_builtin_code (Code.quiet_builtin _ (by decide +kernel)) ?_
  simp only [checkBuiltinCall, ln_kind, ln_split, ln_sig]
  rw [ln_args]
  have hC' : ((h.push noDict).push (lstObj C h.objs.size #[] 0)).get? C = some ⟨oc, od, .cls cd, sl⟩ := Heap.get?_push_of_some _ (Heap.get?_push_of_some _ hC)
  repeat (first | simp only [bne_self_eq_false, Bool.false_eq_true, if_false] | lk)
  refine codeAny_builtin_stack F.entry_list_new rfl fun p st => ?_
  rw [Around.under_plainId F.plain_list_new _]
  have hown := owner_list_new
  simp only [hown]
  repeat (first | simp only [bne_self_eq_false, Bool.false_eq_true, if_false, Bool.not_true, e2] | lk)
  rw [Heap.size_push]
  exact hq
theorem makeL {init : Value} (Y : MakesL (model prog w) h C) (hi : Looks (model prog w) h (typeLookup (.ref C) "__init__") (some init))
    (hb : ∀ self, Looks (model prog w) h (bindSpecial init self) (init, [self]))
    (hq : codeAny (model prog w) (A.under (.builtin "type.__call__" ⟨[.ref C], []⟩)) (.call init ⟨[.ref (h.objs.size + 1)], []⟩) (InitBack (h.objs.size + 1) R) ⟨(h.push noDict).push (lstObj C h.objs.size #[] 0), g, d, t, os⟩) :
    codeAny (model prog w) A (.call (.ref C) ⟨[], []⟩) R ⟨h, g, d, t, os⟩ := by
  have Y' := Y
  obtain ⟨⟨oc, od, cd, sl, hC, e2, e4⟩, made, base, self, top, call, typ⟩ := Y
  refine codeAny_of_tree ?_
  show wpAny _ _ (callAny (.ref C) _) _ _ _
  refine nd_load hC ?_
  show wpAny _ _ (callAny.viaDunder (.ref C) _) _ _ _
  unfold callAny.viaDunder
  refine wpAny_bind (call.at ?_)
  dsimp only
  rw [tc_bind]
  refine wpAny_bind (wpAny_pure (wpAny_bind (wpAny_pure ?_)))
  refine wpAny_pure (a := Fin.again (.call (.builtin "type.__call__") ⟨[.ref C], []⟩)) (And.intro rfl ?_)
  refine codeAny_call_builtin_at (Code.quiet_builtin _ (by decide +kernel)) entry_typeCall (check_slot tc_kind tc_split typ (tc_args _ _ _) ?_)
  unfold Builtin.«type.__call__»
  have hm : Looks (model prog w) h (mroOf (.ref C)) cd.mro := ((Looks.ld (part := none) hC).andThen .now).andThen .now
  repeat (first | simp only [e4, Bool.false_eq_true, if_false] | with_reducible refine wpAny_call ?_ | lk)
  refine newL Y' ?_
  have k : ∀ b o, h.get? b = some o → ((h.push noDict).push (lstObj C h.objs.size #[] 0)).get? b = some o := fun b o e => Heap.get?_push_of_some _ (Heap.get?_push_of_some _ e)
  have hx : ((h.push noDict).push (lstObj C h.objs.size #[] 0)).get? (h.objs.size + 1) = some (lstObj C h.objs.size #[] 0) := by heap_get
  have t1 : Looks (model prog w) ((h.push noDict).push (lstObj C h.objs.size #[] 0)) (typeOf (.ref (h.objs.size + 1))) (.ref C) := (Looks.ld hx).andThen .now
  have s1 := self.keeps k
  have i1 := hi.keeps k
  have b1 := (hb (.ref (h.objs.size + 1))).keeps k
  unfold isInstance callSpecial? specialOf
  repeat (first | with_reducible refine wpAny_call ?_ | lk)
  refine codeAny_mono hq fun r s' z => ?_
  rcases r with e | (v | _ | _ | _) <;> first | exact z | exact z.elim | skip
  obtain ⟨rfl, z⟩ := z
  exact wpAny_pure (wpAny_pure z)
end
section
variable {prog : Program} {w : World} {A : Around} {E : Value → Shared → Prop} {s : Shared} {K : Frag} {C L : Addr} {h₀ : Heap} {m : Str → Option Value} {news : List (Addr × Obj)} {Q : Value → Shared → Prop}
theorem call_lst {fI : Addr} (F : Fr h₀ L s.heap m) (X₀ : K.In h₀) (N : News h₀ L s.heap news) (hm : makesL K C = true) (hi : findIn K (.ref C) "__init__" = some (some (.ref fI))) (hf : isFn K (.ref fI) = true)
    (h : ∀ x dx h', Fr h₀ L h' m → News h₀ L h' ((x, lstObj C dx #[] 0) :: (dx, dictOf [] 0) :: news) → (∀ p ∈ news, p.1 < dx) → dx < x →
      codeAny (model prog w) (A.under (.builtin "type.__call__" ⟨[.ref C], []⟩)) (.call (.ref fI) ⟨[.ref x], []⟩) (InitBack x fun r s' => match r with | .ok (.ret v) => Q v s' | .ok _ => False | .error e => E e s') { s with heap := h' }) :
    wpAny (model prog w) A (call (.ref C) [] []) Q E s := by
  refine wpAny_call ?_
  obtain ⟨hh, g, d, t, os⟩ := s
  have X := X₀.keeps F.keep
  refine makeL (makesL_of X hm) (looks_findIn X hi) (fun self => bind_fn X self (beq_iff_eq.mp hf)) (h _ hh.objs.size _ ((F.push _).push _) ?_ (fun p hp => Heap.lt_size (N p hp).1) (Nat.lt_succ_self _))
  have := (N.push F noDict).push (F.push _) (lstObj C hh.objs.size #[] 0)
  rwa [Heap.size_push] at this
end
def lstOver (K : Frag) (C : Addr) : Bool := (clsIn K C).any fun cd => cd.mro == [.ref C, .type "list", .type "object"]
theorem refuse_list (self : Value) : refuseLoop self "__setattr__" [.type "list", .type "object"] = pure () := by kernel_rfl
section
variable {prog : Program} {w : World} {A : Around} {E : Value → Shared → Prop} {s : Shared} {K : Frag} {C L x dx : Addr} {h₀ : Heap} {m : Str → Option Value} {news news' : List (Addr × Obj)} {its : Array Value} {n : Nat} {od : Obj} {name : Str} {v : Value}
theorem instL (N : News h₀ L s.heap news) (h1 : (x, lstObj C dx its n) ∈ news) (h2 : (dx, od) ∈ news) : InstAt s.heap x (lstObj C dx its n) C (some od) := ⟨(N _ h1).1, rfl, rfl, (N _ h2).1⟩
theorem method_L {f : Value} {T : String} {pl : Sem Bool} {Q : Value × List Value → Shared → Prop} (F : Fr h₀ L s.heap m) (X₀ : K.In h₀) (I : InstAt s.heap x (lstObj C dx its n) C (some od))
    (hga : findIn K (.ref C) "__getattribute__" = some (some (.builtin "list.__getattribute__"))) (hk : findIn K (.ref C) "__getattr__" = some none)
    (hf : findIn K (.ref C) name = some (some f)) (ht : typeIn K f = some (.type T)) (hT : (T == "function" || T == "method_descriptor") = true) (hs : lookIn name od = some none) (h : Q (f, [.ref x]) s) :
    wpAny (model prog w) A (getMethod (.ref x) name pl) Q E s := by
  have X := X₀.keeps F.keep
  have hcan := canon_list_getattribute
  unfold getMethod specialOf
  refine wpAny_bind (wpAny_bind (I.type.here ((looks_findIn X hga).here ?_)))
  dsimp only
  rw [hcan, if_neg (by decide)]
  refine wpAny_bind (wpAny_bind (I.type.here ((looks_findIn X hk).here ?_)))
  refine wpAny_bind (wpAny_bind (I.type.here ((looks_findIn X hf).here (wpAny_bind ((looks_typeIn X ht).here ?_)))))
  have hT' : ¬ ((Value.type T != .type "function" && Value.type T != .type "method_descriptor" && Value.type T != .type "wrapper_descriptor") = true) := by
    rcases Bool.or_eq_true_iff.mp hT with q | q <;> (rw [beq_iff_eq.mp q]; decide +kernel)
  rw [if_neg hT']
  refine wpAny_bind (wpAny_loadPart I.at_ ?_)
  refine wpAny_bind (wpAny_bind (wpAny_loadPart I.dict ?_))
  rw [nsLook_of hs]
  exact wpAny_pure (wpAny_bind (wpAny_rule (wpAny_pure h)))
theorem osaL {R : Result → Shared → Prop} {es es' : List DictEntry} {k k' : Nat} {tk : Tok} {pre post : List (Addr × Obj)} (F : Fr h₀ L s.heap m) (X : K.In s.heap) (N : News h₀ L s.heap (pre ++ (dx, dictOf es k) :: post)) (I : InstAt s.heap x (lstObj C dx its n) C (some (dictOf es k)))
    (hp : lstOver K C = true) (ht : findIn K (.ref C) name = some none) (hh : (clsIn K C).any (·.hasDict) = true) (hl : (lookIn name (dictOf es k)).isSome = true) (h1 : ∀ p ∈ pre, p.1 ≠ dx) (h2 : ∀ p ∈ post, p.1 ≠ dx)
    (e : Obj.putName name (PyData.keyHash w.params name) (.str name s.toks) v (dictOf es k) = dictOf es' k') (hz : es'.length ≤ 1000)
    (h : ∀ h', Fr h₀ L h' m → News h₀ L h' (pre ++ (dx, dictOf es' k') :: post) → R (.ok (.ret .none)) { s with heap := h', toks := s.toks + 1 }) :
    codeAny (model prog w) A (.call (.builtin "object.__setattr__") ⟨[.ref x, .str name tk, v], []⟩) R s := by
  have SF := PySem.F.store_object
  obtain ⟨cd, hc, ho⟩ := any_some hp
  obtain ⟨cd2, hc2, hd'⟩ := any_some hh
  rw [hc] at hc2
  obtain rfl := Option.some.inj hc2
  have ho' : cd.mro = [.ref C, .type "list", .type "object"] := beq_iff_eq.mp ho
  have sub : Looks (model prog w) s.heap (isInstance (.ref x) (.type "object")) true := I.type.andThen (looks_mroIn X (by unfold mroIn; rw [hc, Option.bind_some, ho']; simp))
  refine codeAny_call_builtin SF.slot.plain SF.entry (@check_slot (model prog w) _ _ s "object.__setattr__" "object" "__setattr__" (.ref x) [.str name tk, v] [] _ SF.kind SF.split sub (SF.args (.ref x) (.str name tk) v) ?_)
  have hm : Looks (model prog w) s.heap (mroOf (.ref C)) cd.mro := (looks_clsIn X hc).andThen .now
  have ha := looks_findIn (M := model prog w) X ht
  rw [osa_eq, refuse_eq]
  refine wpAny_bind (wpAny_bind (I.type.here (wpAny_bind (hm.here ?_))))
  rw [ho', refuseLoop_ref, refuse_list]
  refine wpAny_pure (wpAny_bind (I.type.here (wpAny_bind (ha.here (wpAny_bind (wpAny_pure ?_))))))
  obtain ⟨U1, U2⟩ := PySem.W.news_upd (f := Obj.putName name (PyData.keyHash w.params name) (.str name s.toks) v) F N h1 h2 e rfl
  have D := (N (dx, dictOf es k) (by simp)).1
  have D' := (U2 (dx, dictOf es' k') (by simp)).1
  refine wpAny_bind (wpAny_pure (wpAny_bind (wpAny_bind (wpAny_loadPart I.at_ (wpAny_bind ((looks_clsIn X hc).here ?_))))))
  rw [hd']
  refine wpAny_pure (a := some dx) (wpAny_bind (wpAny_pure (wpAny_bind ?_)))
  unfold nsSet
  refine wpAny_bind (wpAny_bind (wpAny_askSetting (wpAny_pure (wpAny_bind (wpAny_mkText (wpAny_bind (wpAny_loadPart D ?_)))))))
  unfold lookIn at hl
  dsimp only at hl ⊢
  have c : (!(es.toArray).any (·.key.isStr name) && (es.toArray).any (·.refKey)) = false := by
    rw [← Array.any_toList, ← Array.any_toList]
    split at hl
    · rename_i en he
      rw [List.any_eq_true.mpr ⟨en, List.mem_of_find?_eq_some he, List.find?_some he⟩]; rfl
    · split at hl
      · cases hl
      · rename_i z; rw [Bool.not_eq_true] at z; rw [z, Bool.and_false]
  rw [aRefKeyMayBeTheName_at, c]
  refine wpAny_updatePart D ?_
  refine wpAny_bind (wpAny_lookBehind D' (pastItsLine_dict (by rw [List.size_toArray, sizeLine_eq]; omega)) ?_)
  exact wpAny_pure (h _ U1 U2)
theorem set_L {Q : Unit → Shared → Prop} {es es' : List DictEntry} {k k' : Nat} (F : Fr h₀ L s.heap m) (X₀ : K.In h₀) (N : News h₀ L s.heap news) (I : InstAt s.heap x (lstObj C dx its n) C (some (dictOf es k)))
    (hs : findIn K (.ref C) "__setattr__" = some (some (.builtin "object.__setattr__"))) (hp : lstOver K C = true) (ht : findIn K (.ref C) name = some none) (hh : hasDictIn K C = true) (hl : (getL name es).isSome = true)
    (e : (putL name (PyData.keyHash w.params name) (.str name (s.toks + 1)) v es, putN name es k) = (es', k')) (U : Upd dx (dictOf es k) (dictOf es' k') news news') (hz : es'.length ≤ 1000)
    (h : ∀ h', Fr h₀ L h' m → News h₀ L h' news' → Q () { s with heap := h', toks := s.toks + 2 }) :
    wpAny (model prog w) A (setAttr (.ref x) name v) Q E s := by
  obtain ⟨pre, post, rfl, rfl, h1, h2⟩ := U.split
  obtain ⟨e1, e2⟩ := Prod.mk.inj e
  exact set_plain (X₀.keeps F.keep) I hs (osaL (s := { s with toks := s.toks + 1 }) F (X₀.keeps F.keep) N I hp ht hh (by rw [lookIn_dict]; exact hl) h1 h2 (by rw [putName_dict, e1, e2]) hz fun h' F' N' => h h' F' N')
end
end Mine
-- part Sup
section
set_option linter.unusedSimpArgs false
set_option linter.unusedVariables false
namespace Mine
abbrev wrapObj (id : String) (x : Addr) : Obj := { cls := .type "method-wrapper", data := .fields #[.builtin id, .ref x] }
theorem wd_slot : Slot "wrapper_descriptor" "__get__" "wrapper_descriptor.__get__" := .of (owner := "wrapper_descriptor") (n := "__get__") (by rw [typeLookup_type, builtinLookup_eq_fast]; kernel_rfl) (by decide +kernel) (by decide +kernel) (by decide +kernel)
  (by first | exact .inl (by decide +kernel) | exact .inr (by decide +kernel)) (by rw [isSubtype_type]; kernel_rfl)
theorem wd_entry : entryFor table "wrapper_descriptor.__get__" = some Builtin.«wrapper_descriptor.__get__» := entryFor_of_tree (by kernel_rfl)
theorem wd_args (a b c : Value) : argsOk "wrapper_descriptor.__get__" ⟨[a, b, c], []⟩ := by unfold argsOk; kernel_rfl
theorem wd_type (id : String) (h : fastBuiltinType id = pure (.type "wrapper_descriptor")) : typeOf (.builtin id) = pure (.type "wrapper_descriptor") := by show builtinType id = _; rw [builtinType_eq_fast]; exact h
section
variable {prog : Program} {w : World} {A : Around} {E : Value → Shared → Prop} {h : Heap} {g : Array GenState} {d : Drawn} {tk : Nat} {os : OsState}
structure LstCls (h : Heap) (x C dx : Addr) (its : Array Value) (n : Nat) : Prop where
  x_ : h.get? x = some (lstObj C dx its n)
  c_ : ∃ oc od cd sl, h.get? C = some ⟨oc, od, .cls cd, sl⟩ ∧ cd.mro = [.ref C, .type "list", .type "object"]
theorem wd_init {x C dx : Addr} {Q : Value → Shared → Prop} {its : Array Value} {n : Nat} (I : LstCls h x C dx its n)
    (hq : Q (.ref h.objs.size) ⟨h.push (wrapObj "list.__init__" x), g, d, tk, os⟩) :
    wpAny (model prog w) A (call (.builtin "wrapper_descriptor.__get__") [.builtin "list.__init__", .ref x, .ref C]) Q E ⟨h, g, d, tk, os⟩ := by
  obtain ⟨hx, oc, od, cd, sl, hC, hm⟩ := I
  refine wpAny_call_entry wd_slot (wd_type _ (by kernel_rfl)) wd_entry ?_ (wd_args _ _ _)
  unfold Builtin.«wrapper_descriptor.__get__»
  repeat (first | simp only [Bool.false_eq_true, if_false, Bool.not_true, hm] | lk)
  exact ⟨_, rfl, hq⟩
theorem wd_len {x C dx : Addr} {Q : Value → Shared → Prop} {its : Array Value} {n : Nat} (I : LstCls h x C dx its n)
    (hq : Q (.ref h.objs.size) ⟨h.push (wrapObj "list.__len__" x), g, d, tk, os⟩) :
    wpAny (model prog w) A (call (.builtin "wrapper_descriptor.__get__") [.builtin "list.__len__", .ref x, .ref C]) Q E ⟨h, g, d, tk, os⟩ := by
  obtain ⟨hx, oc, od, cd, sl, hC, hm⟩ := I
  refine wpAny_call_entry wd_slot (wd_type _ (by kernel_rfl)) wd_entry ?_ (wd_args _ _ _)
  unfold Builtin.«wrapper_descriptor.__get__»
  repeat (first | simp only [Bool.false_eq_true, if_false, Bool.not_true, hm] | lk)
  exact ⟨_, rfl, hq⟩
theorem super_core {so x C dx : Addr} {K : Frag} {name : Str} {id : String} {its : Array Value} {n : Nat} {tk' : Tok} {Q : Fin → Shared → Prop} (I : LstCls h x C dx its n)
    (hso : h.get? so = some (ks_superObj C x C)) (hno : Looks (model prog w) h (opaqueClassAbove (.ref C)) none) (X : K.In h)
    (hf : alongIn K name [.type "list", .type "object"] = some (some (.builtin id))) (ht : fastBuiltinType id = pure (.type "wrapper_descriptor")) (hn : (name == ("__class__" : Str)) = false) (hxC : x ≠ C)
    (hw : ∀ A E (Q : Value → Shared → Prop), Q (.ref h.objs.size) ⟨h.push (wrapObj id x), g, d, tk, os⟩ → wpAny (model prog w) A (call (.builtin "wrapper_descriptor.__get__") [.builtin id, .ref x, .ref C]) Q E ⟨h, g, d, tk, os⟩)
    (hq : Q (.done (.ret (.ref h.objs.size))) ⟨h.push (wrapObj id x), g, d, tk, os⟩) :
    wpAny (model prog w) A (Builtin.«super.__getattribute__» ⟨[.ref so, .str name tk'], []⟩) Q E ⟨h, g, d, tk, os⟩ := by
  obtain ⟨hx, oc, od, cd, sl, hC, hm⟩ := I
  have hne : (Value.ref x == Value.ref C) = false := by simp [hxC]
  have hC' : Looks (model prog w) h (mroOf (.ref C)) [.ref C, .type "list", .type "object"] := hm ▸ ((Looks.ld (part := none) hC).andThen .now).andThen .now
  have hl : (([.ref C, .type "list", .type "object"] : List Value).dropWhile (· != .ref C)).drop 1 = [.type "list", .type "object"] := by simp
  have f0 : (#[.ref C, .ref x, .ref C] : Array Value)[0]? = some (.ref C) := rfl
  have f1 : (#[.ref C, .ref x, .ref C] : Array Value)[1]? = some (.ref x) := rfl
  have f2 : (#[.ref C, .ref x, .ref C] : Array Value)[2]? = some (.ref C) := rfl
  have hdt : (ks_superObj C x C).data = .fields #[.ref C, .ref x, .ref C] := rfl
  have hg := wd_slot.lookup
  have hty := wd_type id ht
  unfold Builtin.«super.__getattribute__»
  repeat (first
    | (with_reducible refine wpAny_field hso hdt f0 ?_) | (with_reducible refine wpAny_field hso hdt f1 ?_) | (with_reducible refine wpAny_field hso hdt f2 ?_)
    | (with_reducible refine ks_wpAny_notOpaque hno ?_)
    | (with_reducible refine Looks.at hC' ?_; rw [hl])
    | (refine ks_forIn_along X (fun _ _ => rfl) rfl ?_ hf)
    | (rw [hty])
    | (with_reducible refine hw _ _ _ ?_)
    | (simp only [hn, hne, Bool.or_false, Bool.false_eq_true, if_false])
    | wp_step
    | dsimp only)
  exact hq
theorem super_meth {so x C dx : Addr} {K : Frag} {name : Str} {id : String} {its : Array Value} {n : Nat} {pl : Sem Bool} {Q : Value × List Value → Shared → Prop} (I : LstCls h x C dx its n)
    (hso : h.get? so = some (ks_superObj C x C)) (hno : Looks (model prog w) h (opaqueClassAbove (.ref C)) none) (X : K.In h)
    (hf : alongIn K name [.type "list", .type "object"] = some (some (.builtin id))) (ht : fastBuiltinType id = pure (.type "wrapper_descriptor")) (hn : (name == ("__class__" : Str)) = false) (hxC : x ≠ C)
    (hw : ∀ A E (Q : Value → Shared → Prop), Q (.ref h.objs.size) ⟨h.push (wrapObj id x), g, d, tk + 1, os⟩ → wpAny (model prog w) A (call (.builtin "wrapper_descriptor.__get__") [.builtin id, .ref x, .ref C]) Q E ⟨h, g, d, tk + 1, os⟩)
    (hq : Q (.ref h.objs.size, []) ⟨h.push (wrapObj id x), g, d, tk + 1, os⟩) :
    wpAny (model prog w) A (getMethod (.ref so) name pl) Q E ⟨h, g, d, tk, os⟩ := by
  have hlk := PySem.F.ks_slot_super_ga.lookup
  have hcan := PySem.F.ks_canon_super_ga
  have hT : ∀ t', (⟨h, g, d, t', os⟩ : Shared).TypeIs (.ref so) "super" := fun _ => ⟨_, hso, rfl⟩
  unfold getMethod
  refine wpAny_bind (wpAny_specialOf (hT _) hlk ?_)
  show wpAny _ _ (if (Manifest.canonical "super.__getattribute__" != "object.__getattribute__") = true then _ else _) _ _ _
  rw [if_pos hcan]
  unfold getAttr getAttrBy
  refine wpAny_bind (wpAny_bind (wpAny_mkText (wpAny_holding (wpAny_bind (wpAny_typeOf (hT _) (wpAny_bind (wpAny_of_eq hlk ?_)))))))
  show wpAny _ _ (getAttrByItsOwn (.ref so) (.str name tk) (.type "super") (.builtin "super.__getattribute__") true false) _ _ _
  unfold getAttrByItsOwn hookBefore callGetattribute boundAndCalled
  refine wpAny_bind (wpAny_of_eq (show (if onTheHeap (.type "super") then typeLookup (.type "super") "__getattr__" else pure none) = pure none from rfl) ?_)
  refine wpAny_bind (wpAny_attempt (wpAny_holding ?_))
  show wpAny _ _ (bindSpecial (.builtin "super.__getattribute__") (.ref so) >>= _) _ _ _
  refine wpAny_bind (wpAny_of_eq (PySem.F.ks_slot_super_ga.bind _) ?_)
  refine wpAny_mono (Q := fun v s' => v = .ref h.objs.size ∧ s' = ⟨h.push (wrapObj id x), g, d, tk + 1, os⟩) (E := fun _ _ => False)
    (wpAny_call_entry PySem.F.ks_slot_super_ga (hT _) PySem.F.ks_entry_super_ga (super_core I hso hno X hf ht hn hxC hw ⟨_, rfl, rfl, rfl⟩) (PySem.F.ks_gaArgs_super _ _)) (fun v s' hv => ?_) fun _ _ z => z.elim
  obtain ⟨rfl, rfl⟩ := hv
  exact wpAny_pure (wpAny_pure hq)
theorem bound_ok {M : Model} {id : String} {x : Addr} {args : List Value} (hk : builtinKind id = some .slot) (ha : argsOk id ⟨.ref x :: args, []⟩) {Q : Unit → Shared → Prop} {s : Shared} (q : Q () s) :
    wpAny M A (checkBoundCall id ⟨.ref x :: args, []⟩) Q E s := by
  unfold checkBoundCall
  cases hsig : Manifest.signature? id with
  | none => exact wpAny_pure q
  | some sig =>
    simp only [argsOk, hsig] at ha
    have h2 : Bind.checkArgs id sig ⟨.ref x :: args, []⟩ = pure () := ha
    simp only [hk, h2]
    exact wpAny_pure q
/-- a bound slot wrapper is called -/
theorem wrap_call {q x : Addr} {id : String} {b : Builtin} {args : List Value} {Q : Value → Shared → Prop} {s : Shared} (hq : s.heap.get? q = some (wrapObj id x)) (hk : builtinKind id = some .slot) (ha : argsOk id ⟨.ref x :: args, []⟩)
    (hp : plainId id = true) (hb : entryFor table id = some b) (h : wpAny (model prog w) A.in1 (b ⟨.ref x :: args, []⟩) (fun fin s' => ∃ v, fin = .done (.ret v) ∧ Q v s') E s) : wpAny (model prog w) A (call (.ref q) args) Q E s := by
  refine wpAny_call (codeAny_of_tree ?_)
  show wpAny _ _ (callAny (.ref q) _) _ _ _
  refine nd_load hq ?_
  refine wpAny_bind (wpAny_pure ?_)
  refine wpAny_bind (bound_ok hk ha ?_)
  refine wpAny_pure ⟨plainId_quiet hp _, codeAny_builtin hb ?_⟩
  rw [Around.under_plainId hp _]
  refine wpAny_mono h (fun fin s' z => ?_) fun _ _ z => z
  obtain ⟨v, rfl, z⟩ := z
  exact z
theorem li_kind : builtinKind "list.__init__" = some .slot := by decide +kernel
theorem li_plain : plainId "list.__init__" = true := by decide +kernel
theorem li_args (a : Value) : argsOk "list.__init__" ⟨[a], []⟩ := by unfold argsOk; kernel_rfl
theorem ll_kind : builtinKind "list.__len__" = some .slot := by decide +kernel
theorem ll_plain : plainId "list.__len__" = true := by decide +kernel
theorem ll_args (a : Value) : argsOk "list.__len__" ⟨[a], []⟩ := by unfold argsOk; kernel_rfl
theorem li_run {x C dx : Addr} {c : Nat} {Q : Value → Shared → Prop} {s : Shared} (hx : s.heap.get? x = some (lstObj C dx #[] c))
    (h : ∀ h' c', Heap.SameBut x s.heap h' → h'.get? x = some (lstObj C dx #[] c') → Q .none { s with heap := h' }) :
    wpAny (model prog w) A (Builtin.«list.__init__» ⟨[.ref x], []⟩) (fun fin s' => ∃ v, fin = .done (.ret v) ∧ Q v s') E s := by
  show wpAny _ _ (do let old ← Builtin.List.listItems (.ref x); Builtin.List.listUpdate (.ref x) (fun _ => #[]); letGo old.toList.reverse; ret .none) _ _ s
  refine wpAny_bind ?_
  unfold Builtin.List.listItems
  refine wpAny_bind (wpAny_seqItems hx rfl (wpAny_pure ?_))
  show wpAny _ _ (updateSeq x (fun _ => #[]) >>= fun _ => letGo (#[] : Array Value).toList.reverse >>= fun _ => ret .none) _ _ s
  refine wpAny_bind (wpAny_updateSeq hx rfl ?_)
  have hS₂ := Heap.get?_update_self (Obj.mapSeq (fun _ => (#[] : Array Value))) hx rfl
  refine wpAny_bind (wpAny_letGo ?_)
  exact wpAny_pure ⟨_, rfl, h _ _ (Heap.SameBut.update ..) hS₂⟩
theorem lstInst {x C dx : Addr} {its : Array Value} {n : Nat} {M : Model} (I : LstCls h x C dx its n) : Looks M h (isInstance (.ref x) (.type "list")) true := by
  obtain ⟨hx, oc, od, cd, sl, hC, hm⟩ := I
  have t : Looks M h (typeOf (.ref x)) (.ref C) := (Looks.ld hx).andThen .now
  have mr : Looks M h (mroOf (.ref C)) cd.mro := ((Looks.ld (part := none) hC).andThen .now).andThen .now
  refine t.andThen ?_
  unfold isSubtype
  refine mr.andThen ?_
  dsimp only
  rw [if_neg (by rw [hm]; exact Bool.false_ne_true), hm]
  exact Looks.of_pure (by simp)
theorem la_kind : builtinKind "list.append" = some .method := by decide +kernel
theorem la_split : splitId "list.append" = some ("list", "append") := by decide +kernel
theorem la_plain : plainId "list.append" = true := by decide +kernel
theorem ls_split : splitId "list.__len__" = some ("list", "__len__") := by decide +kernel
theorem append_L {x C dx : Addr} {its : Array Value} {n : Nat} {v : Value} {Q : Value → Shared → Prop} {s : Shared} (I : LstCls s.heap x C dx its n) (hz : its.size ≤ sizeLine)
    (h : ∀ h' c', Heap.SameBut x s.heap h' → h'.get? x = some (lstObj C dx (its.push v) c') → Q .none { s with heap := h' }) :
    wpAny (model prog w) A (call (.builtin "list.append") [.ref x, v]) Q E s := by
  have hi := lstInst (M := model prog w) I
  have ha := args_list_append (.ref x) v
  refine wpAny_call (codeAny_call_builtin la_plain entry_list_append ?_ )
  simp only [checkBuiltinCall, la_kind, la_split]
  refine wpAny_bind (hi.here ?_)
  simp only [Bool.not_true, Bool.false_eq_true, if_false]
  have fin : wpAny (model prog w) A.in1 (Builtin.«list.append» ⟨[.ref x, v], []⟩) (fun fin s' => match fin with | .done f => (match (.ok f : Result) with | .ok (.ret r) => Q r s' | .ok _ => False | .error e => E e s') | .again c' => c'.quiet = true ∧ codeAny (model prog w) A c' (fun r s' => match r with | .ok (.ret r) => Q r s' | .ok _ => False | .error e => E e s') s') (fun e s' => E e s') s := by
    show wpAny _ _ (updateSeq x (·.push v) >>= fun _ => ret .none) _ _ s
    refine wpAny_bind (wpAny_updateSeq I.x_ rfl ?_)
    have hS := Heap.get?_update_self (Obj.mapSeq (·.push v)) I.x_ rfl
    exact wpAny_pure (h _ _ (Heap.SameBut.update ..) hS)
  cases hsig : Manifest.signature? "list.append" with
  | none => exact wpAny_pure fin
  | some sig =>
    simp only [argsOk, hsig] at ha
    have h2 : Bind.checkArgs "list.append" sig ⟨[.ref x, v], []⟩ = pure () := ha
    show wpAny _ _ (Bind.checkArgs "list.append" sig ⟨[.ref x, v], []⟩) _ _ s
    rw [h2]
    exact wpAny_pure fin
theorem len_L {x C dx : Addr} {its : Array Value} {n : Nat} {Q : Value → Shared → Prop} {s : Shared} (I : LstCls s.heap x C dx its n)
    (h : Q (.int its.size s.toks) { s with toks := s.toks + 1 }) :
    wpAny (model prog w) A (Builtin.«list.__len__» ⟨[.ref x], []⟩) (fun fin s' => ∃ v, fin = .done (.ret v) ∧ Q v s') E s := by
  have hx := I.x_
  obtain ⟨h', g', d', t', os'⟩ := s
  unfold Builtin.«list.__len__»
  repeat (first | lk)
  exact ⟨_, rfl, h⟩
end
end Mine
end
-- part Sug
section
set_option linter.unusedSimpArgs false
set_option linter.unusedVariables false
namespace Mine
section
variable {prog : Program} {w : World} {A : Around} {E : Value → Shared → Prop} {s : Shared} {K : Frag} {C L x dx so q : Addr} {h₀ : Heap} {m : Str → Option Value} {news news' : List (Addr × Obj)} {its : Array Value} {n : Nat} {od : Obj} {name : Str} {id : String} {v : Value} {g : Obj → List (Addr × Obj)}
theorem lstCls_of (F : Fr h₀ L s.heap m) (X₀ : K.In h₀) (N : News h₀ L s.heap news) (hx : (x, lstObj C dx its n) ∈ news) (hp : lstOver K C = true) : LstCls s.heap x C dx its n := by
  have X := X₀.keeps F.keep
  refine ⟨(N _ hx).1, ?_⟩
  unfold lstOver clsIn at hp
  split at hp
  · rename_i o d cd sl ho
    exact ⟨o, d, cd, sl, X _ _ ho, beq_iff_eq.mp hp⟩
  · cases hp
theorem super_N {pl : Sem Bool} {Q : Value × List Value → Shared → Prop} (F : Fr h₀ L s.heap m) (X₀ : K.In h₀) (N : News h₀ L s.heap news) (hx : (x, lstObj C dx its n) ∈ news) (hp : lstOver K C = true) (hso : (so, ks_superObj C x C) ∈ news) (ho : nsIn K cStatics "thirdparty.any" = some none)
    (hf : alongIn K name [.type "list", .type "object"] = some (some (.builtin id))) (ht : fastBuiltinType id = pure (.type "wrapper_descriptor")) (hn : (name == ("__class__" : Str)) = false) (hid : id = "list.__init__" ∨ id = "list.__len__")
    (h : ∀ q h', Fr h₀ L h' m → News h₀ L h' ((q, wrapObj id x) :: news) → (∀ p ∈ news, p.1 < q) → Q (.ref q, []) { s with heap := h', toks := s.toks + 1 }) :
    wpAny (model prog w) A (getMethod (.ref so) name pl) Q E s := by
  have X := X₀.keeps F.keep
  have I := lstCls_of F X₀ N hx hp
  have hxC : x ≠ C := by
    rintro rfl
    obtain ⟨h1, oc, o2, cd, sl, h2, _⟩ := I
    rw [h1] at h2; cases h2
  obtain ⟨hh, g, d, t, os⟩ := s
  refine super_meth I (N _ hso).1 (looks_opaque X ho) X hf ht hn hxC (fun A E Q hq => ?_) (h _ _ (F.push _) (News.push F N _) fun p hp => Heap.lt_size (N p hp).1)
  rcases hid with rfl | rfl
  · exact wd_init I hq
  · exact wd_len I hq
theorem callWith_wrap {M : Model} {env : Env} {pos : Pos} {Q : Value → Shared → Prop} (hq : s.heap.get? q = some (wrapObj id x)) (h : wpAny M A (call (.ref q) []) Q E s) : wpAny M A (callWith pos (.ref q) [] (backTo pos (starEach [] env)) []) Q E s := by
  refine callWith_of (P := fun h => h.get? q = some (wrapObj id x)) rfl (fun h hh => ⟨.machine, .inr (.inl rfl), (Looks.ld (part := none) hh).andThen .now⟩) (evalArgs_nil3 ⟨hq, h⟩)
/-- super().__init__() of a list's subclass, behind the look-up -/
theorem init_N {Q : Value → Shared → Prop} {c : Nat} (F : Fr h₀ L s.heap m) (N : News h₀ L s.heap news) (hq : (q, wrapObj "list.__init__" x) ∈ news) (hx : (x, lstObj C dx #[] c) ∈ news) (U : UpdF x (lstObj C dx #[] c) news g)
    (h : ∀ h' c', Fr h₀ L h' m → News h₀ L h' (g (lstObj C dx #[] c')) → Q .none { s with heap := h' }) : wpAny (model prog w) A (call (.ref q) []) Q E s := by
  obtain ⟨pre, post, rfl, hg, h1, h2⟩ := U.split
  have hm := N (x, lstObj C dx #[] c) (by simp)
  refine wrap_call (N _ hq).1 li_kind (li_args _) li_plain PySem.F.entry_list_init (li_run hm.1 fun h' c' hs ho => ?_)
  exact h h' c' (F.change hs hm.2.1 hm.2.2) (hg _ ▸ N.setIn h1 h2 hs ho)
theorem slen_N {Q : Value → Shared → Prop} (F : Fr h₀ L s.heap m) (X₀ : K.In h₀) (N : News h₀ L s.heap news) (hq : (q, wrapObj "list.__len__" x) ∈ news) (hx : (x, lstObj C dx its n) ∈ news) (hp : lstOver K C = true)
    (h : Q (.int its.size s.toks) { s with toks := s.toks + 1 }) : wpAny (model prog w) A (call (.ref q) []) Q E s :=
  wrap_call (N _ hq).1 ll_kind (ll_args _) ll_plain PySem.F.entry_list_len (len_L (lstCls_of F X₀ N hx hp) h)
theorem append_N {Q : Value → Shared → Prop} (F : Fr h₀ L s.heap m) (X₀ : K.In h₀) (N : News h₀ L s.heap news) (hx : (x, lstObj C dx its n) ∈ news) (hp : lstOver K C = true) (U : UpdF x (lstObj C dx its n) news g) (hz : its.size ≤ sizeLine)
    (h : ∀ h' c', Fr h₀ L h' m → News h₀ L h' (g (lstObj C dx (its.push v) c')) → Q .none { s with heap := h' }) : wpAny (model prog w) A (call (.builtin "list.append") [.ref x, v]) Q E s := by
  have I := lstCls_of F X₀ N hx hp
  obtain ⟨pre, post, rfl, hg, h1, h2⟩ := U.split
  have hm := N (x, lstObj C dx its n) (by simp)
  refine append_L I hz fun h' c' hs ho => ?_
  exact h h' c' (F.change hs hm.2.1 hm.2.2) (hg _ ▸ N.setIn h1 h2 hs ho)
theorem acc_makes {w : World} : makesL (_root_.Mine.hk.heap_1 w.params) 121 = true := by kernel_rfl
theorem acc_over {w : World} : lstOver (_root_.Mine.hk.heap_1 w.params) 121 = true := by kernel_rfl
theorem acc_any {w : World} : nsIn (_root_.Mine.hk.heap_1 w.params) cStatics "thirdparty.any" = some none := by kernel_rfl
end
end Mine
end
-- part Slc
section
set_option linter.unusedSimpArgs false
set_option linter.unusedVariables false
namespace Mine
section
variable {prog : Program} {w : World} {A : Around} {E : Value → Shared → Prop} {K : Frag} {C x dx sl : Addr} {its : Array Value} {n : Nat} {h : Heap} {g : Array GenState} {d : Drawn} {tk : Nat} {os : OsState}
theorem code_inst {id nm : String} {b : Builtin} {args : List Value} {R : Result → Shared → Prop} {s : Shared} (hk : builtinKind id = some .method ∨ builtinKind id = some .slot) (hs : splitId id = some ("list", nm)) (hi : Looks (model prog w) s.heap (isInstance (.ref x) (.type "list")) true)
    (ha : argsOk id ⟨.ref x :: args, []⟩) (hp : plainId id = true) (hb : entryFor table id = some b) (hc : wpAny (model prog w) A.in1 (b ⟨.ref x :: args, []⟩) (fun fin s' => ∃ v, fin = .done (.ret v) ∧ R (.ok (.ret v)) s') (fun e s' => R (.error e) s') s) :
    codeAny (model prog w) A (.call (.builtin id) ⟨.ref x :: args, []⟩) R s := by
  refine codeAny_call_builtin hp hb ?_
  have fin : wpAny (model prog w) A.in1 (b ⟨.ref x :: args, []⟩) (fun fin s' => match fin with | .done f => R (.ok f) s' | .again c' => c'.quiet = true ∧ codeAny (model prog w) A c' R s') (fun e s' => R (.error e) s') s := by
    refine wpAny_mono hc (fun fin s' z => ?_) fun _ _ z => z
    obtain ⟨v, rfl, z⟩ := z
    exact z
  rcases hk with hk | hk <;>
    (simp only [checkBuiltinCall, hk, hs]
     refine wpAny_bind (hi.here ?_)
     simp only [Bool.not_true, Bool.false_eq_true, if_false]
     cases hsig : Manifest.signature? id with
     | none => exact wpAny_pure fin
     | some sig =>
       simp only [argsOk, hsig] at ha
       have h2 : Bind.checkArgs id sig ⟨.ref x :: args, []⟩ = pure () := ha
       show wpAny _ _ (Bind.checkArgs id sig ⟨.ref x :: args, []⟩) _ _ s
       rw [h2]
       exact wpAny_pure fin)
theorem lg_kind : builtinKind "list.__getitem__" = some .method ∨ builtinKind "list.__getitem__" = some .slot := by first | exact .inl (by decide +kernel) | exact .inr (by decide +kernel)
theorem lg_split : splitId "list.__getitem__" = some ("list", "__getitem__") := by decide +kernel
theorem lg_plain : plainId "list.__getitem__" = true := by decide +kernel
theorem ls_kind : builtinKind "list.__setitem__" = some .method ∨ builtinKind "list.__setitem__" = some .slot := by first | exact .inl (by decide +kernel) | exact .inr (by decide +kernel)
theorem lst_split : splitId "list.__setitem__" = some ("list", "__setitem__") := by decide +kernel
theorem lst_plain : plainId "list.__setitem__" = true := by decide +kernel
theorem lst_args (a b c : Value) : argsOk "list.__setitem__" ⟨[a, b, c], []⟩ := by unfold argsOk; kernel_rfl
theorem lst_entry : entryFor table "list.__setitem__" = some Builtin.«list.__setitem__» := entryFor_of_tree (by kernel_rfl)
theorem getItem_L {vl : Int} {tl : Tok} {Q : Value → Shared → Prop} (I : LstCls h x C dx its n) (hsl : h.get? sl = some { cls := .type "slice", data := .fields #[.int vl tl, .none, .none] }) (hf : Looks (model prog w) h (typeLookup (.ref C) "__getitem__") (some (.builtin "list.__getitem__")))
    (hz : its.size ≤ sizeLine)
    (hq : Q (.ref h.objs.size) ⟨h.push { cls := .type "list", data := .seq (slicePick its (some vl) none none) }, g, d, tk, os⟩) :
    wpAny (model prog w) A (getItem (.ref x) (.ref sl)) Q E ⟨h, g, d, tk, os⟩ := by
  have hi := lstInst (M := model prog w) I
  have hx := I.x_
  have t1 : Looks (model prog w) h (typeOf (.ref x)) (.ref C) := (Looks.ld hx).andThen .now
  obtain ⟨hx2, oc, od, cd, sl', hC, hm⟩ := I
  unfold getItem sequenceKey callSpecial? specialOf
  repeat (first | simp only [hm] | (with_reducible refine wpAny_call ?_) | lk)
  refine code_inst (prog := prog) (w := w) (s := ⟨h, g, d, tk, os⟩) (x := x) (args := [.ref sl]) lg_kind lg_split hi (args_list_getitem _ _) lg_plain entry_list_getitem ?_
  have hT : (⟨h, g, d, tk, os⟩ : Shared).TypeIs (.ref sl) "slice" := ⟨_, hsl, rfl⟩
  show wpAny _ _ (Builtin.List.listSubscript? (.ref sl) >>= _) _ _ _
  refine wpAny_bind ?_
  unfold Builtin.List.listSubscript?
  refine wpAny_bind (wpAny_specialOf hT slice_no_index ?_)
  simp only [Option.isNone_none, if_true]
  refine wpAny_pure ?_
  show wpAny _ _ (typeOf (.ref sl) >>= _) _ _ _
  refine wpAny_bind (wpAny_typeOf hT ?_)
  rw [if_neg (by decide)]
  rw [listSliceParts_eq]
  refine wpAny_bind (wpAny_bind (wpAny_field hsl rfl (x := .none) rfl (wpAny_bind (wpAny_listPart .none ?_))))
  rw [if_neg (show ¬ ((rawPart none == rawInt 0) = true) from Bool.false_ne_true)]
  refine wpAny_bind (wpAny_field hsl rfl (x := .int vl tl) rfl (wpAny_bind (wpAny_listPart (.int vl tl) ?_)))
  refine wpAny_bind (wpAny_field hsl rfl (x := .none) rfl (wpAny_bind (wpAny_listPart .none (wpAny_pure ?_))))
  refine wpAny_bind (m := Builtin.List.listItems (.ref x)) ?_
  unfold Builtin.List.listItems
  refine wpAny_bind (wpAny_seqItems hx rfl (wpAny_pure ?_))
  refine wpAny_bind (wpAny_of_eq (sliceIndices_raw (some vl) none none its.size (fun e => nomatch e)) ?_)
  refine wpAny_bind (wpAny_newObj_type (wpAny_pure ⟨_, rfl, ?_⟩) (Nat.le_trans (slicePick_size_le its (some vl) none none) hz))
  exact wpAny_pure (wpAny_pure hq)
theorem sub_L {L : Addr} {h₀ : Heap} {m : Str → Option Value} {news : List (Addr × Obj)} {s : Shared} {vl : Int} {tl : Tok} {value : PySem.Expr} {lo hi : Option PySem.Expr} {pp : Pos} {Q : Value → Shared → Prop} (F : Fr h₀ L s.heap m) (X₀ : K.In h₀) (N : News h₀ L s.heap news) (hx : (x, lstObj C dx its n) ∈ news) (hp : lstOver K C = true)
    (hg : findIn K (.ref C) "__getitem__" = some (some (.builtin "list.__getitem__"))) (hsl : s.heap.get? sl = some { cls := .type "slice", data := .fields #[.int vl tl, .none, .none] }) (hz : its.size ≤ sizeLine)
    (h : ∀ D h', Fr h₀ L h' m → News h₀ L h' ((D, listOf (slicePick its (some vl) none none) 0) :: news) → (∀ p ∈ news, p.1 < D) → Q (.ref D) { s with heap := h' })
    (ht : ∀ r, letTemporaryGo value (.ref x) r = pure () := by intro _; rfl) : wpAny (model prog w) A (subscriptTail value (.Slice lo hi none pp) (.ref x) (.ref sl)) Q E s := by
  have I := lstCls_of F X₀ N hx hp
  have hf : Looks (model prog w) s.heap (typeLookup (.ref C) "__getitem__") (some (.builtin "list.__getitem__")) := looks_findIn (X₀.keeps F.keep) hg
  have t1 : Looks (model prog w) s.heap (typeOf (.ref x)) (.ref C) := (Looks.ld I.x_).andThen .now
  obtain ⟨hh, g, d, tk, os⟩ := s
  unfold subscriptTail getitemInPython specialOf
  refine wpAny_bind (wpAny_bind (wpAny_bind (t1.here (hf.here ?_))))
  refine wpAny_pure ?_
  show wpAny _ _ (operate [.ref sl, .ref x] (getItem (.ref x) (.ref sl)) >>= _) _ _ _
  refine wpAny_bind (wpAny_operate' (getItem_L I hsl hf hz ?_))
  rw [ht]
  exact wpAny_bind (wpAny_pure (wpAny_pure (h _ _ (F.push _) (News.push F N _) fun p hp => Heap.lt_size (N p hp).1)))
def sliceRest (its : Array Value) (vl : Int) : Array Value := its.extract 0 (sliceBounds (some vl) none none its.size).1.toNat ++ #[] ++ its.extract (max (sliceBounds (some vl) none none its.size).1 (sliceBounds (some vl) none none its.size).2.1).toNat its.size
theorem setItem_L {D : Addr} {k : Nat} {vl : Int} {tl : Tok} {Q : Unit → Shared → Prop} (I : LstCls h x C dx its n) (hsl : h.get? sl = some { cls := .type "slice", data := .fields #[.int vl tl, .none, .none] }) (hD : h.get? D = some (listOf #[] k)) (hf : Looks (model prog w) h (typeLookup (.ref C) "__setitem__") (some (.builtin "list.__setitem__")))
    (hz : its.size ≤ sizeLine)
    (hq : ∀ h' n', Heap.SameBut x h h' → h'.get? x = some (lstObj C dx (sliceRest its vl) n') → Q () ⟨h', g, d, tk, os⟩) :
    wpAny (model prog w) A (setItem (.ref x) (.ref sl) (.ref D)) Q E ⟨h, g, d, tk, os⟩ := by
  have hi := lstInst (M := model prog w) I
  have hx := I.x_
  have t1 : Looks (model prog w) h (typeOf (.ref x)) (.ref C) := (Looks.ld hx).andThen .now
  have hxD : x ≠ D := by
    rintro rfl
    rw [hx] at hD; cases hD
  obtain ⟨hx2, oc, od, cd, sl', hC, hm⟩ := I
  unfold setItem sequenceKey callSpecial? specialOf
  repeat (first | simp only [hm] | (with_reducible refine wpAny_call ?_) | lk)
  refine code_inst (prog := prog) (w := w) (s := ⟨h, g, d, tk, os⟩) (x := x) (args := [.ref sl, .ref D]) ls_kind lst_split hi (lst_args _ _ _) lst_plain lst_entry ?_
  have hT : (⟨h, g, d, tk, os⟩ : Shared).TypeIs (.ref sl) "slice" := ⟨_, hsl, rfl⟩
  show wpAny _ _ (Builtin.List.listSubscript? (.ref sl) >>= _) _ _ _
  refine wpAny_bind ?_
  unfold Builtin.List.listSubscript?
  refine wpAny_bind (wpAny_specialOf hT slice_no_index ?_)
  simp only [Option.isNone_none, if_true]
  refine wpAny_pure ?_
  show wpAny _ _ (typeOf (.ref sl) >>= _) _ _ _
  refine wpAny_bind (wpAny_typeOf hT ?_)
  rw [if_neg (by decide)]
  rw [listSliceParts_eq]
  refine wpAny_bind (wpAny_bind (wpAny_field hsl rfl (x := .none) rfl (wpAny_bind (wpAny_listPart .none ?_))))
  rw [if_neg (show ¬ ((rawPart none == rawInt 0) = true) from Bool.false_ne_true)]
  refine wpAny_bind (wpAny_field hsl rfl (x := .int vl tl) rfl (wpAny_bind (wpAny_listPart (.int vl tl) ?_)))
  refine wpAny_bind (wpAny_field hsl rfl (x := .none) rfl (wpAny_bind (wpAny_listPart .none (wpAny_pure ?_))))
  rw [if_neg (show ¬ (Builtin.List.listSameRef (.ref x) (.ref D) = true) from by simp [Builtin.List.listSameRef, hxD])]
  refine wpAny_bind ?_
  unfold Builtin.List.listAllItems
  refine wpAny_bind (wpAny_typeOf (T := "list") ⟨_, hD, rfl⟩ ?_)
  rw [if_pos (by decide)]
  unfold Builtin.List.listItems
  refine wpAny_bind (wpAny_seqItems hD rfl (wpAny_pure ?_))
  refine wpAny_bind ?_
  refine wpAny_bind (wpAny_seqItems hx rfl (wpAny_pure ?_))
  refine wpAny_bind (wpAny_of_eq (sliceIndices_raw (some vl) none none its.size (fun e => nomatch e)) ?_)
  rw [if_pos (show (((sliceBounds (some vl) none none its.size).2.2 == 1) = true) from rfl)]
  refine wpAny_bind (wpAny_rule ?_)
  rw [if_neg (show ¬ (Builtin.List.listTooLong (its.size + (#[] : Array Value).size) = true) from by simp [Builtin.List.listTooLong]; exact hz)]
  show wpAny _ _ (updateSeq x (fun xs => xs.extract 0 (sliceBounds (some vl) none none its.size).1.toNat ++ #[] ++ xs.extract (max (sliceBounds (some vl) none none its.size).1 (sliceBounds (some vl) none none its.size).2.1).toNat xs.size) >>= _) _ _ _
  refine wpAny_bind (wpAny_updateSeq hx rfl ?_)
  have hS := Heap.get?_update_self (Obj.mapSeq (fun xs : Array Value => xs.extract 0 (sliceBounds (some vl) none none its.size).1.toNat ++ #[] ++ xs.extract (max (sliceBounds (some vl) none none its.size).1 (sliceBounds (some vl) none none its.size).2.1).toNat xs.size)) hx rfl
  refine wpAny_bind (wpAny_letGo ?_)
  refine wpAny_pure ⟨_, rfl, ?_⟩
  exact wpAny_pure (wpAny_pure (hq _ _ (Heap.SameBut.update ..) hS))
theorem set_slice_L {L D : Addr} {k : Nat} {h₀ : Heap} {m : Str → Option Value} {news : List (Addr × Obj)} {s : Shared} {vl : Int} {tl : Tok} {o' : Obj → List (Addr × Obj)} {Q : Unit → Shared → Prop} (F : Fr h₀ L s.heap m) (X₀ : K.In h₀) (N : News h₀ L s.heap news) (hx : (x, lstObj C dx its n) ∈ news) (hp : lstOver K C = true) (U : UpdF x (lstObj C dx its n) news o')
    (hg : findIn K (.ref C) "__setitem__" = some (some (.builtin "list.__setitem__"))) (hsl : s.heap.get? sl = some { cls := .type "slice", data := .fields #[.int vl tl, .none, .none] }) (hD : (D, listOf #[] k) ∈ news) (hz : its.size ≤ sizeLine)
    (h : ∀ h' n', Fr h₀ L h' m → News h₀ L h' (o' (lstObj C dx (sliceRest its vl) n')) → Q () { s with heap := h' }) : wpAny (model prog w) A (setItem (.ref x) (.ref sl) (.ref D)) Q E s := by
  have I := lstCls_of F X₀ N hx hp
  have hf : Looks (model prog w) s.heap (typeLookup (.ref C) "__setitem__") (some (.builtin "list.__setitem__")) := looks_findIn (X₀.keeps F.keep) hg
  obtain ⟨pre, post, rfl, hgg, h1, h2⟩ := U.split
  have hm := N (x, lstObj C dx its n) (by simp)
  have hd := (N _ hD).1
  obtain ⟨hh, g, d, tk, os⟩ := s
  exact setItem_L I hsl hd hf hz fun h' n' hs ho => h h' n' (F.change hs hm.2.1 hm.2.2) (hgg _ ▸ N.setIn h1 h2 hs ho)
/-- the two halves of a cut -/
theorem pick_from (its : Array Value) (c : Nat) (hc : c ≤ its.size) : slicePick its (some (c : Int)) none none = (its.toList.drop c).toArray := by
  have e := slicePick_run its c its.size (Nat.le_refl _) hc
  have q : slicePick its (some (c : Int)) none none = slicePick its (some (c : Int)) (some ((its.size : Nat) : Int)) none := by
    unfold slicePick sliceBounds
    simp
    have z : max (0 : Int) (min (if ((its.size : Nat) : Int) < 0 then (its.size : Int) + (its.size : Int) else (its.size : Int)) (its.size : Int)) = (its.size : Int) := by
      rw [if_neg (by omega)]; omega
    rw [z]
  rw [q, e]
  congr 1
  rw [List.take_of_length_le]
  rw [List.length_drop, Array.length_toList]
  exact Nat.le_refl _
theorem rest_to (its : Array Value) (c : Nat) (hc : c ≤ its.size) : sliceRest its (c : Int) = (its.toList.take c).toArray := by
  have e1 : (sliceBounds (some (c : Int)) none none its.size).1 = (c : Int) := by
    simp only [sliceBounds, Option.getD_none]
    simp; omega
  have e2 : (sliceBounds (some (c : Int)) none none its.size).2.1 = (its.size : Int) := by
    simp [sliceBounds]
  unfold sliceRest
  rw [e1, e2, show max (c : Int) (its.size : Int) = (its.size : Int) by omega]
  apply Array.toList_inj.mp
  simp
end
end Mine
end
-- part Gnr
section
set_option linter.unusedSimpArgs false
set_option linter.unusedVariables false
namespace Mine
def IsSeqO (h : Heap) (x : Addr) (items : Array Value) : Prop := ∃ o n, h.get? x = some o ∧ o.data = .seq items n
section
variable {prog : Program} {w : World} {A : Around} {E : Value → Shared → Prop} {s : Shared} {I x : Addr} {i : Nat} {items : Array Value}
theorem IsSeqO.but {h h' : Heap} {b : Addr} (a : IsSeqO h x items) (hs : Heap.ExtBut b h h') (hx : x ≠ b) : IsSeqO h' x items := let ⟨o, n, ho, hd⟩ := a; ⟨o, n, hs x o hx ho, hd⟩
theorem seqNext {v : Value} {Q : Option Value → Shared → Prop} (hit : s.heap.IsListIter I x i) (hl : IsSeqO s.heap x items) (hv : items[i]? = some v)
    (hQ : ∀ h', h'.IsListIter I x (i + 1) → Heap.SameBut I s.heap h' → Q (some v) { s with heap := h' }) : wpAny (model prog w) A (pyNext (.ref I)) Q E s := by
  obtain ⟨o, ho, hc, hd⟩ := id hit
  obtain ⟨ol, nl, hol, hdl⟩ := hl
  unfold pyNext
  refine wpAny_bind (wpAny_attempt (wpAny_callSpecial?_slot (name := Str.ofString "__next__") hit.typeIs slot_listiter_next
    (wpAny_call_entry slot_listiter_next hit.typeIs entry_listiter_next ?_ (args_listiter_next _))))
  show wpAny _ _ (field (.ref I) 0 >>= _) _ _ s
  refine wpAny_bind (wpAny_field ho hd (x := .ref x) rfl ?_)
  show wpAny _ _ (if (Value.ref x == Value.none) = true then _ else _) _ _ s
  rw [if_neg (show ¬ ((Value.ref x == Value.none) = true) from Bool.false_ne_true)]
  show wpAny _ _ (field (.ref I) 1 >>= _) _ _ s
  refine wpAny_bind (wpAny_field ho hd (x := .int i 0) rfl ?_)
  show wpAny _ _ (seqItems? (.ref x) >>= _) _ _ s
  refine wpAny_bind (wpAny_seqItems hol hdl ?_)
  simp only [Int.toNat_natCast, hv]
  refine wpAny_bind (wpAny_setField ho hd (by simp) (wpAny_pure ⟨v, rfl, wpAny_pure (hQ _ ?_ (Heap.SameBut.update ..))⟩))
  exact ⟨_, Heap.get?_update_self _ ho (Obj.isFreed_of_fields (Obj.data_mapFields hd _)), (Obj.cls_mapFields ..).trans hc, by
    rw [Obj.data_mapFields hd]; simp [rawInt]⟩
theorem seqEnd {Q : Option Value → Shared → Prop} (hh : A.handled = none) (hit : s.heap.IsListIter I x i) (hl : IsSeqO s.heap x items) (hv : items[i]? = none)
    (hQ : ∀ h', Heap.ExtBut I s.heap h' → Q none { s with heap := h' }) : wpAny (model prog w) A (pyNext (.ref I)) Q E s := by
  obtain ⟨o, ho, hc, hd⟩ := id hit
  obtain ⟨ol, nl, hol, hdl⟩ := hl
  unfold pyNext
  refine wpAny_bind (wpAny_attempt (wpAny_callSpecial?_slot (name := Str.ofString "__next__") hit.typeIs slot_listiter_next
    (wpAny_call_entry slot_listiter_next hit.typeIs entry_listiter_next ?_ (args_listiter_next _))))
  show wpAny _ _ (field (.ref I) 0 >>= _) _ _ s
  refine wpAny_bind (wpAny_field ho hd (x := .ref x) rfl ?_)
  show wpAny _ _ (if (Value.ref x == Value.none) = true then _ else _) _ _ s
  rw [if_neg (show ¬ ((Value.ref x == Value.none) = true) from Bool.false_ne_true)]
  show wpAny _ _ (field (.ref I) 1 >>= _) _ _ s
  refine wpAny_bind (wpAny_field ho hd (x := .int i 0) rfl ?_)
  show wpAny _ _ (seqItems? (.ref x) >>= _) _ _ s
  refine wpAny_bind (wpAny_seqItems hol hdl ?_)
  simp only [Int.toNat_natCast, hv]
  refine wpAny_bind (wpAny_rule (wpAny_bind (wpAny_setField ho hd (by simp) ?_)))
  show wpAny _ _ (newExc (.type "StopIteration") [] >>= _) _ _ _
  refine wpAny_bind ?_
  simp only [newExc, newTuple]
  refine wpAny_bind (wpAny_newObj_type ?_ (by size_fits))
  refine wpAny_bind (m := firstArgMember _ _) (wpAny_of_eq (a := Value.none) (by first | rfl | (simp only [firstArgMember]; rfl)) ?_)
  refine wpAny_newObj_type ?_ (by size_fits)
  simp only [raiseNew]
  refine wpAny_bind (wpAny_handled ?_)
  rw [show A.in1.handled = none from hh]
  refine wpAny_bind (wpAny_pure (wpAny_throw ?_))
  refine wpAny_bind (wpAny_isInstance (T := "StopIteration") (b := true) ⟨_, Heap.get?_push_size _ rfl, rfl⟩ isSubtype_stop ?_)
  exact wpAny_pure (hQ _ (((Heap.SameBut.update ..).extBut.push _).push _))
/-- a walk over the tuples that an object of a list's subclass holds -/
theorem walksL (hh : A.handled = none) (I x : Addr) (hne : x ≠ I) (items : Array Value) (Ts : Nat → Addr) (vals : Nat → Array Value)
    (hit : ∀ j, j < items.size → items[j]? = some (.ref (Ts j))) (hTI : ∀ j, j < items.size → Ts j ≠ I) :
    WalksU prog w A I (I :: x :: (List.range items.size).map Ts) [I] items.size (fun j v => j < items.size ∧ v = vals j)
      (fun j h => h.IsListIter I x j ∧ IsSeqO h x items ∧ ∀ k, k < items.size → h.IsTuple (Ts k) (vals k))
      (fun j T h => (j < items.size ∧ T = Ts j) ∧ h.IsListIter I x (j + 1) ∧ IsSeqO h x items ∧ ∀ k, k < items.size → h.IsTuple (Ts k) (vals k)) where
  sub := fun b hb => by simp at hb; simp [hb]
  frame := fun _ _ _ st hk => ⟨st.1.at fun o e => hk I (by simp) o e, (let ⟨o, n, ho, hd⟩ := st.2.1; ⟨o, n, hk x (by simp) o ho, hd⟩),
    fun k hk' => (st.2.2 k hk').at fun o e => hk (Ts k) (List.mem_cons_of_mem _ (List.mem_cons_of_mem _ (List.mem_map.mpr ⟨k, List.mem_range.mpr hk', rfl⟩))) o e⟩
  item := fun i s Q E hi st hQ => by
    refine seqNext st.1 st.2.1 (v := .ref (Ts i)) (hit i hi) fun h' hit' hs' => ?_
    have tup : ∀ k, k < items.size → h'.IsTuple (Ts k) (vals k) := fun k hk' => (st.2.2 k hk').extBut hs'.extBut (hTI k hk')
    exact hQ (Ts i) (vals i) h' s.toks ⟨hi, rfl⟩ (tup i hi) ⟨⟨hi, rfl⟩, hit', st.2.1.but hs'.extBut hne, tup⟩ fun b o hb e => hs'.extBut b o (fun h => hb (by simp [h])) e
  go := fun _ _ _ _ _ s Q _ hm hQ => wpAny_letOwnedTupleGo_listiter hm.2.1 (hQ s.heap hm.2 fun _ _ _ e => e)
  apart := fun j T _ hm hmem => by
    rcases List.mem_cons.mp hmem with e | e
    · exact hTI j hm.1.1 (hm.1.2 ▸ e)
    · cases e
  done := fun s Q E st hQ => seqEnd hh st.1 st.2.1 (by simp) fun h' he' => hQ h' s.toks fun b o hb e => he' b o (fun h => hb (by simp [h])) e
  self := fun _ _ _ _ st hQ => wpAny_pyIter_listiter st.1 hQ
end
section
variable {prog : Program} {w : World} {A : Around} {E : Value → Shared → Prop} {C x dx : Addr} {its : Array Value} {n : Nat} {h : Heap} {g : Array GenState} {d : Drawn} {tk : Nat} {os : OsState}
theorem lit_kind : builtinKind "list.__iter__" = some .method ∨ builtinKind "list.__iter__" = some .slot := by first | exact .inl (by decide +kernel) | exact .inr (by decide +kernel)
theorem lit_split : splitId "list.__iter__" = some ("list", "__iter__") := by decide +kernel
theorem lit_plain : plainId "list.__iter__" = true := by decide +kernel
theorem iter_L {Q : Value → Shared → Prop} (I : LstCls h x C dx its n) (hf : Looks (model prog w) h (typeLookup (.ref C) "__iter__") (some (.builtin "list.__iter__")))
    (hq : Q (.ref h.objs.size) ⟨h.push { cls := .type "list_iterator", data := .fields #[.ref x, .int 0 0] }, g, d, tk, os⟩) : wpAny (model prog w) A (pyIter (.ref x)) Q E ⟨h, g, d, tk, os⟩ := by
  have hi := lstInst (M := model prog w) I
  have hx := I.x_
  have t1 : Looks (model prog w) h (typeOf (.ref x)) (.ref C) := (Looks.ld hx).andThen .now
  have hb := slot_list_iter.bind (.ref x)
  unfold pyIter callSpecialIfBoundUnlessNone? specialOf
  repeat (first | (with_reducible refine wpAny_call ?_) | lk)
  have nx : typeLookup (.type "list_iterator") "__next__" = pure (some (.builtin "list_iterator.__next__")) := slot_listiter_next.lookup
  have fin : ∀ (Q' : Value → Shared → Prop), (Q' (.ref h.objs.size) ⟨h.push { cls := .type "list_iterator", data := .fields #[.ref x, .int 0 0] }, g, d, tk, os⟩) → wpAny (model prog w) A (call (.builtin "list.__iter__") [.ref x]) Q' E ⟨h, g, d, tk, os⟩ := fun Q' hq' => by
    refine wpAny_call (code_inst (prog := prog) (w := w) (s := ⟨h, g, d, tk, os⟩) (x := x) (args := []) lit_kind lit_split hi (args_list_iter _) lit_plain entry_list_iter ?_)
    show wpAny _ _ (do ret (← newFields "list_iterator" [.ref x, rawInt 0])) _ _ _
    exact wpAny_bind (wpAny_newObj_type (wpAny_pure ⟨_, rfl, hq'⟩))
  have hI : (h.push { cls := .type "list_iterator", data := .fields #[.ref x, .int 0 0] }).get? h.objs.size = some { cls := .type "list_iterator", data := .fields #[.ref x, .int 0 0] } := Heap.get?_push_size _ rfl
  split
  · rw [hb]
    refine wpAny_bind (wpAny_pure (wpAny_pure ?_))
    dsimp only
    rw [if_neg (by decide)]
    refine wpAny_bind (fin _ (wpAny_pure ?_))
    dsimp only
    refine wpAny_bind (wpAny_specialOf (T := "list_iterator") ⟨_, hI, rfl⟩ nx ?_)
    exact wpAny_pure hq
  · rw [hb]
    refine wpAny_tryCatch ?_
    refine wpAny_bind (wpAny_pure (wpAny_pure ?_))
    dsimp only
    rw [if_neg (by decide)]
    refine wpAny_bind (fin _ (wpAny_pure ?_))
    dsimp only
    refine wpAny_bind (wpAny_specialOf (T := "list_iterator") ⟨_, hI, rfl⟩ nx ?_)
    exact wpAny_pure hq
end
/-- the empty table of a code object, and one grown by a nested code -/
abbrev tabO (ps : Array Value) : Obj := { cls := .none, data := .fields ps }
def codeOk (K : Frag) (c P : Addr) : Bool := match K.lookup c with
  | some ⟨.type t, _, .fields vs, _⟩ => t == "code" && vs[11]? == some (.ref P) && (match vs.getD 18 .none with | .str _ _ => true | _ => false) && (match vs.getD 7 .none with | .int _ _ => true | _ => false) &&
      (match vs.getD 9 .none with | .bool _ => true | _ => false) && (match vs.getD 10 .none with | .int _ _ => true | _ => false) && c != P
  | _ => false
theorem codeOk_is {K : Frag} {h : Heap} {c P : Addr} (X : K.In h) (e : codeOk K c P = true) (hP : h.get? P = some (tabO #[])) : h.IsCode c P #[] ∧ h.TableAt c P #[] := by
  unfold codeOk at e
  split at e
  · rename_i t d vs sl ho
    simp only [Bool.and_eq_true, beq_iff_eq, bne_iff_ne] at e
    obtain ⟨⟨⟨⟨⟨⟨e1, e2⟩, e3⟩, e4⟩, e5⟩, e6⟩, e7⟩ := e
    subst e1
    have hc := X _ _ ho
    have g11 : vs.getD 11 .none = .ref P := by rw [Array.getD_eq_getD_getElem?, e2]; rfl
    obtain ⟨file, tf, h18⟩ : ∃ a b, vs.getD 18 .none = .str a b := by split at e3; exact ⟨_, _, by assumption⟩; cases e3
    obtain ⟨fl, tg, h7⟩ : ∃ a b, vs.getD 7 .none = .int a b := by split at e4; exact ⟨_, _, by assumption⟩; cases e4
    obtain ⟨inF, h9⟩ : ∃ a, vs.getD 9 .none = .bool a := by split at e5; exact ⟨_, by assumption⟩; cases e5
    obtain ⟨tx, tt, h10⟩ : ∃ a b, vs.getD 10 .none = .int a b := by split at e6; exact ⟨_, _, by assumption⟩; cases e6
    exact ⟨⟨_, vs, file, tf, fl, tg, inF, tx, tt, _, hc, rfl, g11, h18, h7, h9, h10, hP, rfl, trivial, e7⟩, ⟨_, vs, hc, rfl, rfl, e2⟩, hP⟩
  · cases e
section
variable {prog : Program} {w : World} {A : Around} {E : Value → Shared → Prop} {s : Shared} {K : Frag} {C x dx c P : Addr} {h₀ : Heap} {m mg : Str → Option Value} {bm : Addr} {ob : Obj} {news : List (Addr × Obj)} {n : Nat}
abbrev pairE (a b : Value) : Obj := { cls := .type "tuple", data := .seq #[a, b] }
/-- a generator expression over the pairs that an object of a list's subclass holds; the code's table lies in the ledger -/
theorem gen_L {env : Env} {elt iter : PySem.Expr} {xa xb : Str} {pa pb pt : Pos} {kt : Nat} {scope : Scope} {pos : Pos} {ps : List (Addr × Value × Value)} {Fv : Nat → Value → Prop} {Q : Value → Shared → Prop}
    (F : Fr h₀ env.locals s.heap m) (X₀ : K.In h₀) (N : News h₀ env.locals s.heap news) (hP : (P, tabO #[]) ∈ news) (hx : (x, lstObj C dx (ps.map fun p => Value.ref p.1).toArray n) ∈ news) (hps : ∀ p ∈ ps, (p.1, pairE p.2.1 p.2.2) ∈ news)
    (hov : lstOver K C = true) (hit : findIn K (.ref C) "__iter__" = some (some (.builtin "list.__iter__"))) (hcok : codeOk K c P = true) (hcode : env.code = .ref c) (M : BMod h₀ env.globals mg bm ob) (hl : h₀.NoLimit) (hG : AllBare s.gens)
    (hh : A.handled = none) (hco : scope.isCoroutine = false) (hclos : closureFor scope env = pure []) (hcell : ∀ y ∈ scope.names, y.2 ≠ .cell) (h0 : scope.names.lookup (".0" : Str) = some NameKind.local)
    (hxa : scope.names.lookup xa = some .local) (hxb : scope.names.lookup xb = some .local) (hab : xa ≠ xb) (hkind : scope.kind = .function) (hroom : A.depth < recursionLimit)
    (hev : ∀ Q' : Value → Shared → Prop, Q' (.ref x) s → wpAny (model prog w) A (eval iter env) Q' E s) (hs : ∀ x, genFold iter env x = pure x)
    (helt : ∀ (C' : Addr) (code : Value) (A' : Around) (E' : Value → Shared → Prop) i (p : Addr × Value × Value) (u : Shared) m₂, A'.handled = none → ps[i]? = some p → u.heap.Ns C' m₂ → m₂ xa = some p.2.1 → m₂ xb = some p.2.2 → (∀ b o, h₀.get? b = some o → u.heap.get? b = some o) →
      wpAny (model prog w) A' (eval elt (genEnv scope [] C' code builtinsNs env)) (fun y s₃ => Fv i y ∧ Keeps u s₃) E' u)
    (h : ∀ a h' tk' gs' ps', Fr h₀ env.locals h' m → News h₀ env.locals h' [(P, tabO ps')] → (∀ p ∈ news, p.1 ≠ P → h'.get? p.1 = some p.2) → AllBare gs' → TriplesOk ps'.toList → Gen prog w A env.locals a ps.length (fun j y => j < ps.length ∧ Fv j y) { s with heap := h', gens := gs', toks := tk' } → Q (.ref a) { s with heap := h', gens := gs', toks := tk' }) :
    wpAny (model prog w) A (eval (.GeneratorExp elt [⟨.Tuple [.Name xa pa, .Name xb pb] kt pt, iter, [], 0⟩] scope pos) env) Q E s := by
  have nP := N _ hP
  have hsP : s.heap.get? P = some (tabO #[]) := nP.1
  have X := X₀.keeps F.keep
  have I := lstCls_of F X₀ N hx hov
  obtain ⟨ic, tab⟩ := codeOk_is X hcok hsP
  have hlk : Looks (model prog w) s.heap (typeLookup (.ref C) "__iter__") (some (.builtin "list.__iter__")) := looks_findIn X hit
  refine wpAny_GeneratorExp_walksQT hh hco hclos hcell h0 hxa hxb hab hkind hroom (hev _ ?_) hs
  obtain ⟨hp, g, d, tk, os⟩ := s
  refine iter_L I hlk ?_
  have hL := F.ns.lt
  have hP0 : h₀.get? P = none := nP.2.2
  have PL : P ≠ env.locals := nP.2.1
  have ltP : P < hp.objs.size := Heap.lt_size hsP
  have ltx : x < hp.objs.size := Heap.lt_size (N _ hx).1
  have xP : x ≠ P := by
    rintro rfl
    have := (N _ hx).1
    rw [hsP] at this; cases this
  have hl1 : hp.NoLimit := hl.keeps F.keep
  have hc1 : cStatics < hp.objs.size := let ⟨_, hn, _⟩ := hl1; hn.lt
  have kp2 : ∀ b o, hp.get? b = some o → (hp.push { cls := .type "list_iterator", data := .fields #[.ref x, .int 0 0] }).get? b = some o := fun b o e => Heap.get?_push_of_some _ e
  have hI2 : (hp.push { cls := .type "list_iterator", data := .fields #[.ref x, .int 0 0] }).get? hp.objs.size = some { cls := .type "list_iterator", data := .fields #[.ref x, .int 0 0] } := Heap.get?_push_size _ rfl
  refine ⟨hl1.push _, wpAny_genexprCodeX hcode (ic.push _) (tab.push _) rfl fun c' h₃ tk₃ hx₃ hge hlt hcode₃ _ htab₃ _ => ?_⟩
  have hsz₃ : hp.objs.size < h₃.objs.size := by
    have z : hp.objs.size + 1 ≤ c' := by
      have q : (hp.push { cls := .type "list_iterator", data := .fields #[.ref x, .int 0 0] }).objs.size ≤ c' := hge
      rwa [Heap.size_push] at q
    exact Nat.lt_trans (Nat.lt_of_succ_le z) hlt
  have M₃ : BMod h₃ env.globals mg bm ob := ((M.keeps F.keep).keeps kp2).extBut (tab.push _) hx₃
  have k13 : ∀ b o, b ≠ P → hp.get? b = some o → h₃.get? b = some o := fun b o hb e => hx₃ b o hb (kp2 b o e)
  have k03 : ∀ b o, h₀.get? b = some o → h₃.get? b = some o := fun b o e => k13 b o (by rintro rfl; rw [hP0] at e; cases e) (F.keep b o e)
  have tP : ∀ p ∈ ps, p.1 ≠ P := fun p hp' e => by
    have := (N _ (hps p hp')).1
    rw [e, hsP] at this; cases this
  have tI : ∀ p ∈ ps, p.1 < hp.objs.size := fun p hp' => Heap.lt_size (N _ (hps p hp')).1
  refine wpAny_builtinsFor M₃.ns M₃.name M₃.ne M₃.obj M₃.cls M₃.dict M₃.data ?_
  let items : Array Value := (ps.map fun p => Value.ref p.1).toArray
  let Ts : Nat → Addr := fun j => (ps[j]?.map (·.1)).getD 0
  let vals : Nat → Array Value := fun j => (ps[j]?.map fun p => (#[p.2.1, p.2.2] : Array Value)).getD #[]
  have isz : items.size = ps.length := by simp [items]
  have at' : ∀ j, j < items.size → ∃ p, ps[j]? = some p ∧ p ∈ ps := fun j hj => ⟨ps[j]'(isz ▸ hj), List.getElem?_eq_getElem (isz ▸ hj), List.getElem_mem _⟩
  have hit' : ∀ j, j < items.size → items[j]? = some (.ref (Ts j)) := fun j hj => by
    obtain ⟨p, e, _⟩ := at' j hj
    simp [items, Ts, e]
  have hTI : ∀ j, j < items.size → Ts j ≠ hp.objs.size := fun j hj => by
    obtain ⟨p, e, m⟩ := at' j hj
    simp only [Ts, e, Option.map_some, Option.getD_some]
    exact Nat.ne_of_lt (tI p m)
  have W := fun (A' : Around) (hA : A'.handled = none) => walksL (prog := prog) (w := w) hA hp.objs.size x (Nat.ne_of_lt ltx) items Ts vals hit' hTI
  have st0 : h₃.IsListIter hp.objs.size x 0 ∧ IsSeqO h₃ x items ∧ ∀ k, k < items.size → h₃.IsTuple (Ts k) (vals k) := by
    refine ⟨⟨_, hx₃ _ _ (Nat.ne_of_gt ltP) hI2, rfl, rfl⟩, ⟨_, _, k13 _ _ xP (N _ hx).1, rfl⟩, fun k hk => ?_⟩
    obtain ⟨p, e, m⟩ := at' k hk
    simp only [Ts, vals, e, Option.map_some, Option.getD_some]
    exact ⟨_, k13 _ _ (tP p m) (N _ (hps p m)).1, rfl, _, rfl⟩
  refine ⟨hp.objs.size, _, _, items.size, _, _, _, fun _ => true, Fv, rfl, W, ?_, st0, ?_, ?_, ?_, ?_, ?_⟩
  · rintro i v ⟨hi, rfl⟩
    obtain ⟨p, e, _⟩ := at' i hi
    exact ⟨p.2.1, p.2.2, by simp [vals, e]⟩
  · intro b hb
    rcases List.mem_cons.mp hb with rfl | hb
    · exact hsz₃
    rcases List.mem_cons.mp hb with rfl | hb
    · exact Nat.lt_trans ltx hsz₃
    obtain ⟨k, hk, rfl⟩ := List.mem_map.mp hb
    obtain ⟨p, e, m⟩ := at' k (List.mem_range.mp hk)
    simp only [Ts, e, Option.map_some, Option.getD_some]
    exact Nat.lt_trans (tI p m) hsz₃
  · exact hl.keeps k03
  · intro hm
    rw [List.mem_singleton.mp hm] at hc1
    exact Nat.lt_irrefl _ hc1
  · intro href hhref
    refine ⟨fun A' E' i va vb u m₂ _ _ _ _ _ _ => wpAny_pure ⟨rfl, _, _, rfl, fun _ _ e => e⟩, fun A' E' i va vb u m₂ hA hPt _ hn ha hb hkp => ?_⟩
    obtain ⟨hi, ev⟩ := hPt
    obtain ⟨p, e, _⟩ := at' i hi
    simp only [vals, e, Option.map_some, Option.getD_some] at ev
    obtain ⟨rfl, rfl⟩ : va = p.2.1 ∧ vb = p.2.2 := by simpa using congrArg Array.toList ev
    refine helt h₃.objs.size (.ref c') A' E' i p u m₂ hA e hn ha hb fun b o eb => ?_
    have lb : b < hp.objs.size := Heap.lt_size (F.keep b o eb)
    exact hkp b (List.mem_range.mpr (Nat.lt_trans lb hsz₃)) (fun hm => by rw [List.mem_singleton.mp hm] at lb; exact Nat.lt_irrefl _ lb) o (hhref b o (k03 b o eb))
  · intro a h₅ tk₅ gs hb hag hsz₅ hk₅ WS hat
    have k15 : ∀ b o, b ≠ P → hp.get? b = some o → h₅.get? b = some o := fun b o hb e => hk₅ b o (k13 b o hb e)
    have F₅ : Fr h₀ env.locals h₅ m := ⟨F.ns.at' fun o e => k15 _ o (Ne.symm PL) e, fun b o e => hk₅ b o (k03 b o e), F.above⟩
    have pass : passing (fun _ => true) items.size 0 = List.range items.size := by simp [passing]
    have hF : (fun (j : Nat) (y : Value) => ∃ i, (passing (fun _ => true) items.size 0)[j]? = some i ∧ Fv i y) = fun j y => j < ps.length ∧ Fv j y := by
      funext j y
      rw [pass, isz]
      refine propext ⟨?_, ?_⟩
      · rintro ⟨i, e, r⟩
        obtain ⟨hj, rfl⟩ := List.getElem?_eq_some_iff.mp e
        rw [List.getElem_range] at r
        exact ⟨by simpa using hj, r⟩
      · rintro ⟨hj, r⟩
        exact ⟨j, List.getElem?_range hj, r⟩
    have hn : (passing (fun _ => true) items.size 0).length = ps.length := by rw [pass, List.length_range, isz]
    obtain ⟨_, _, _, _, _, _, _, _, _, _, _, _, _, _, _, _, _, _, _, htr, _⟩ := hcode₃
    refine h a h₅ tk₅ _ _ F₅ (fun p hp' => ?_) (fun p hp' hne => k15 _ _ hne (N p hp').1) (hG.push hb) htr ?_
    · rw [List.mem_singleton.mp hp']
      exact ⟨hk₅ _ _ htab₃.2, PL, hP0⟩
    · rw [← hF, ← hn]
      refine ⟨_, _, _, _, WS, hat, (fun i s' st => st.1.typeIs), List.mem_cons_self, ?_, ?_⟩
      · intro b hb
        show b < h₅.objs.size
        rw [hsz₅]
        rcases List.mem_cons.mp hb with rfl | hb
        · exact Nat.lt_succ_self _
        · rcases List.mem_cons.mp hb with rfl | hb
          · exact Nat.lt_succ_of_lt hag
          · exact Nat.lt_succ_of_lt (Nat.lt_trans (List.mem_range.mp hb) hag)
      · intro b hb
        rcases List.mem_cons.mp hb with rfl | hb
        · exact Nat.lt_trans hL hsz₃
        · rw [List.mem_singleton.mp hb]; exact hL
end
end Mine
end
-- part Gnu
section
set_option linter.unusedSimpArgs false
set_option linter.unusedVariables false
namespace Mine
theorem args_sum2 (a b : Value) : argsOk "sum" ⟨[a, b], []⟩ := by unfold argsOk; kernel_rfl
section
variable {prog : Program} {w : World} {A : Around} {E : Value → Shared → Prop} {s : Shared} {h₀ : Heap} {L a : Addr} {m : Str → Option Value} {n : Nat} {Fv : Nat → Value → Prop} {Q : Value → Shared → Prop}
theorem sum_start {t₀ : Tok} (Fh : Fr h₀ L s.heap m) (G : AllBare s.gens) (X : Gen prog w A L a n Fv s) (val : Nat → Int) (hval : ∀ j v, Fv j v → ∃ t, v = .int (val j) t) (hfit : ∀ j, j < n → InLong (val j) ∧ InLong (preSum val (j + 1)))
    (hQ : ∀ h' gs' tk' t', Fr h₀ L h' m → AllBare gs' → (∀ b o, b ≤ L → s.heap.get? b = some o → h'.get? b = some o) → Q (.int (preSum val n) t') { s with heap := h', gens := gs', toks := tk' }) :
    wpAny (model prog w) A (call (.builtin "sum") [.ref a, .int 0 t₀]) Q E s := by
  obtain ⟨fp, wr, g, St, W, hst, _, _, hfp, hwr⟩ := X
  have W := W.in4_1
  refine call_function_tree F.kind_sum F.plain_sum F.entry_sum (args_sum2 _ _) ?_
  unfold Builtin.«sum»
  simp only [List.length_cons, List.length_nil]
  rw [if_neg (by decide)]
  refine wpAny_bind (wpAny_of_eq (show Builtin.Builtins.bindParams "sum" ["start"] 0 ⟨[.int 0 t₀], []⟩ = pure [some (.int 0 t₀)] from rfl) ?_)
  refine wpAny_bind (W.self 0 _ _ _ hst ?_)
  dsimp only
  rw [if_pos (by decide)]
  refine wpAny_bind (wpAny_rule ?_)
  refine wpAny_bind (wpAny_mkInt ?_)
  refine wpAny_bind (wpAny_pure ?_)
  simp only [List.forIn_cons, List.forIn_nil]
  refine wpAny_bind (wpAny_bind (wpAny_bind (wpAny_isInstance (T := "int") (b := false) (typeIs_int _ _ _) PySem.sub_int_str ?_)))
  simp only [Bool.false_eq_true, if_false]
  refine wpAny_pure (wpAny_bind (wpAny_bind (wpAny_isInstance (T := "int") (b := false) (typeIs_int _ _ _) PySem.sub_int_bytes ?_)))
  simp only [Bool.false_eq_true, if_false]
  refine wpAny_pure (wpAny_bind (wpAny_bind (wpAny_isInstance (T := "int") (b := false) (typeIs_int _ _ _) PySem.sub_int_bytearray ?_)))
  simp only [Bool.false_eq_true, if_false]
  refine wpAny_pure (wpAny_pure ?_)
  refine wpAny_bind (wpAny_newObj_type ?_)
  have hSf : s.heap.objs.size ∉ fp := fun hm => Nat.lt_irrefl _ (hfp _ hm)
  refine wpAny_pure ⟨plainId_quiet F.plain_sum_loop _, codeAny_sum_loopS W val hval hfit s.heap.objs.size hSf n 0 _ s.toks 0 rfl (Nat.zero_le _)
    (W.frame 0 s _ _ hst (by first | exact Nat.le_refl _ | exact Nat.le_succ _ | omega) fun b _ o e => Heap.get?_push_of_some _ e) (Heap.get?_push_size _ rfl) fun s' t' hm => ?_⟩
  have hm' := hm.drop_new (by first | exact Nat.le_refl _ | exact Nat.le_succ _ | omega)
  obtain ⟨hh', gg', dd', tt', oo'⟩ := s'
  have e1 : dd' = s.drawn := hm'.drawn
  have e2 : oo' = s.os := hm'.os
  subst e1 e2
  exact hQ hh' gg' tt' t' (Fh.moved hm' fun b hb => hwr b hb) (G.movedS hm') fun b o hb e => hm'.heap b o (fun hmem => Nat.lt_irrefl _ (Nat.lt_of_lt_of_le (hwr b hmem) hb)) e
theorem join_gen {sep : Str} {t : Tok} (Fh : Fr h₀ L s.heap m) (G : AllBare s.gens) (X : Gen prog w A L a n Fv s) (tx : Nat → Str) (htx : ∀ j v, Fv j v → ∃ u, v = .str (tx j) u)
    (hok : JoinOk sep ((List.range n).map tx) = true) (hsz : n ≤ sizeLine)
    (hQ : ∀ h' gs' tk' t', Fr h₀ L h' m → AllBare gs' → (∀ b o, b ≤ L → s.heap.get? b = some o → h'.get? b = some o) → Q (.str (Txt.join sep ((List.range n).map tx)) t') { s with heap := h', gens := gs', toks := tk' }) :
    wpAny (model prog w) A (call (.builtin "str.join") [.str sep t, .ref a]) Q E s := by
  obtain ⟨fp, wr, g, St, W, hst, hT, ha, hfp, hwr⟩ := X
  have W := W.in4_2
  refine SC.joinGen W hT hst hfp ha (fun j v hv => let ⟨u, e⟩ := htx j v hv; ⟨_, u, e⟩) (fun s' lt hm hacc => ?_) hsz
  have hl : lt.map (·.1) = (List.range n).map tx := by
    apply List.ext_getElem?
    intro j
    have hsz : lt.length = n := by simpa [PySem.strValues] using hacc.1
    by_cases hj : j < n
    · have hj' : j < lt.length := hsz ▸ hj
      obtain ⟨u, hv⟩ := htx j _ (hacc.2 j (.str lt[j].1 lt[j].2) (by simp [PySem.strValues, List.getElem?_eq_getElem hj']))
      injection hv with h1 _
      simp [List.getElem?_eq_getElem hj', hj, h1]
    · rw [List.getElem?_eq_none (by simpa [hsz] using Nat.le_of_not_lt hj), List.getElem?_eq_none (by simpa using Nat.le_of_not_lt hj)]
  rw [hl]
  obtain ⟨hh', gg', dd', tt', oo'⟩ := s'
  have e1 : dd' = s.drawn := hm.drawn
  have e2 : oo' = s.os := hm.os
  subst e1 e2
  exact ⟨hok, fun t' k => hQ hh' gg' k t' (Fh.moved hm fun b hb => hwr b hb) (G.movedS hm) fun b o hb e => hm.heap b o (fun hmem => Nat.lt_irrefl _ (Nat.lt_of_lt_of_le (hwr b hmem) hb)) e⟩
end
section
variable {prog : Program} {w : World} {A₀ A : Around} {s : Shared} {base h₀ : Heap} {outer : List Env} {L : Addr} {m mg mb : Str → Option Value} {env : Env} {news : List (Addr × Obj)} {K : Frag} {p : Program} {loose : List Str} {mean : ExcName → Option Value}
  {R : Result → Shared → Prop} {name qual : Str} {params : Arguments} {body : List Stmt} {scope : Scope} {dV kV doc pm cdv ct oc : Value} {an od : Option Addr} {osl : Array (Option Value)} {f : Addr} {args : Args} {binds : List (Str × Value)}
/-- a def is entered; what the ledger bears lies under the frame's locals -/
theorem code_defL (B : Below A₀ base outer h₀) (F : Fr h₀ L s.heap m) (X₀ : K.In h₀) (N : News h₀ L s.heap news) (T : Top p loose mean mg mb h₀) (hA : A.frames = some (env :: outer)) (hf : env.frame = some L) (hke : env.scope.kind = .function)
    (ho : K.lookup f = some ⟨oc, od, .func (fnOf name qual params body scope dV kV doc pm an cdv ct), osl⟩) (hcd : codeIn K cdv qual = true) (hroom : A.depth < recursionLimit)
    (hbind : BindsTo s (fnOf name qual params body scope dV kV doc pm an cdv ct) args binds) (hloc : ∀ y ∈ binds, scope.names.lookup y.1 = some .local)
    (h : ∀ g L' h₁, Fr h₀ L g m → Fr g L' h₁ (fun y => binds.reverse.lookup y) → News g L' h₁ news → Below A base (env :: outer) g → K.In g → Top p loose mean mg mb g → (∀ p ∈ news, p.1 < L') → GSub s.heap g (news.map (·.1)) →
      wpAny (model prog w) (A.deeper (envOf qual scope L' f cdv)) (execs body (envOf qual scope L' f cdv))
        (fun fl s' => LeaveK h₀ L m g R (match fl with | .ret v => v | _ => .none) s')
        (fun e s' => wpAny (model prog w) (A.deeper (envOf qual scope L' f cdv)) (leaving (envOf qual scope L' f cdv) e) (fun _ s'' => R (.error e) s'') (fun e' s'' => R (.error e') s'') s')
        { s with heap := h₁, toks := s.toks + binds.length })
    (hco : scope.isCoroutine = false) (hgen : scope.isGenerator = false) (hk : scope.kind = .function)
    (hcell : ∀ x ∈ scope.names, x.2 ≠ .cell) : codeAny (model prog w) A (.call (.ref f) args) R s := by
  obtain ⟨FG, BG, st, lv⟩ := groundX (R := R) B F N hA hf hke
  refine codeAny_call_def (fd := fnX name qual params body scope [] dV kV doc pm an cdv ct) (body := body) (binds := binds) hroom ((X₀.keeps F.keep) _ _ ho) rfl (T.nolimit.keeps F.keep) (codeRec_of (X₀.keeps F.keep) hcd) rfl hbind hcell hloc (fun h₁ hns hk₁ => ?_) hco hgen hk
  exact wpAny_mono (h _ s.heap.objs.size h₁ FG ⟨hns, fun b o e => hk₁ b o (of_hideAll _ e), Nat.le_of_eq (hideAll_size _ _)⟩
    (fun p hp => ⟨hk₁ _ _ (N p hp).1, Nat.ne_of_lt (Heap.lt_size (N p hp).1), hideAll_none _ (List.mem_map_of_mem hp)⟩) BG (X₀.keeps st) (T.keeps st) (fun p hp => Heap.lt_size (N p hp).1) (fun b o e n => hideAll_get _ e n)) (fun fl s' hl => lv _ _ hl) fun _ _ y => y
end
theorem lga_kind : builtinKind "list.__getattribute__" = some .method ∨ builtinKind "list.__getattribute__" = some .slot := by first | exact .inl (by decide +kernel) | exact .inr (by decide +kernel)
theorem lga_split : splitId "list.__getattribute__" = some ("list", "__getattribute__") := by decide +kernel
theorem lga_plain : plainId "list.__getattribute__" = true := by decide +kernel
section
variable {prog : Program} {w : World} {A : Around} {E : Value → Shared → Prop} {s : Shared} {K : Frag} {C L x dx : Addr} {h₀ : Heap} {m : Str → Option Value} {news : List (Addr × Obj)} {its : Array Value} {n k : Nat} {es : List DictEntry} {name : Str} {v : Value}
theorem get_L {expr : Bool} {Q : Value → Shared → Prop} (F : Fr h₀ L s.heap m) (X₀ : K.In h₀) (N : News h₀ L s.heap news) (hx : (x, lstObj C dx its n) ∈ news) (I : InstAt s.heap x (lstObj C dx its n) C (some (dictOf es k))) (hov : lstOver K C = true)
    (hga : findIn K (.ref C) "__getattribute__" = some (some (.builtin "list.__getattribute__"))) (hk : findIn K (.ref C) "__getattr__" = some none) (hh : hasDictIn K C = true)
    (ha : findIn K (.ref C) name = some none) (hl : getL name es = some (some v)) (hv : handedIn v = true) (h : Q v { s with toks := s.toks + 1 }) : wpAny (model prog w) A (getAttr (.ref x) name expr) Q E s := by
  have X := X₀.keeps F.keep
  have IL := lstCls_of F X₀ N hx hov
  have hf : findObj K C (some (dictOf es k)) name = some (.value v) := findObj_own hh ha rfl (by rw [lookIn_dict]; exact hl)
  obtain ⟨hp, g, d, t, os⟩ := s
  have L0 := I.type (M := model prog w)
  have L1 := looks_findIn (M := model prog w) X hga
  have L2 := looks_findIn (M := model prog w) X hk
  have L3 := looks_find (M := model prog w) X I hf
  have hi := lstInst (M := model prog w) IL
  unfold getAttr getAttrBy
  refine wpAny_bind (wpAny_mkText (wpAny_holding (wpAny_bind (L0.at (wpAny_bind (L1.at ?_))))))
  dsimp only
  rw [if_neg (by simp)]
  unfold getAttrByItsOwn hookBefore callGetattribute boundAndCalled
  refine wpAny_bind ?_
  rw [if_pos (by rfl)]
  refine L2.at ?_
  refine wpAny_bind (wpAny_attempt (wpAny_holding ?_))
  rw [if_neg (by simp [onTheHeap])]
  rw [PySem.F.slot_list_getattribute.bind]
  refine wpAny_bind (wpAny_pure ?_)
  refine wpAny_call (code_inst (prog := prog) (w := w) (s := ⟨hp, g, d, t + 1, os⟩) (x := x) (args := [.str name t]) lga_kind lga_split hi (PySem.F.args_list_getattribute_2 _ _) lga_plain am_entry_list_getattribute ?_)
  unfold Builtin.«object.__getattribute__»
  repeat lk
  refine ⟨_, rfl, ?_⟩
  show wpAny _ _ (handedOut v) _ _ _
  rw [handedOut_of hv]
  exact wpAny_pure h
end
end Mine
end
namespace Mine
local macro_rules | `(tactic| k_inst) => `(tactic| (refine instL (by k_asm) (by k_mem) (by k_mem)))
local macro_rules | `(tactic| walk_at "setAttr ref") => `(tactic| (k_here; k_dflt (refine' set_L ?v1 ?v2 ?v3 ?v4 ?v5 acc_over ?v7 ?v8 ?v9 ?va ?vb ?vc ?_; (case v1 => k_asm); (case v2 => k_asm); (case v3 => k_asm); (case v4 => k_inst); (case v5 => k_is); (case v7 => k_is); (case v8 => k_is); (case v9 => k_get); (case va => k_put); (case vb => k_upd); (case vc => exact Nat.le_of_ble_eq_true rfl)); intro h' F' N'; (try k_sweep); (try dsimp only)))
local macro_rules | `(tactic| walk_at "getMethod ref") => `(tactic| (k_here; k_dflt (refine' method_L ?v1 ?v2 ?v3 ?v4 ?v5 ?v6 ?v7 ?v8 ?v9 ?_; (case v1 => k_asm); (case v2 => k_asm); (case v3 => k_inst); (case v4 => k_is); (case v5 => k_is); (case v6 => k_is); (case v7 => first | k_is | kernel_rfl); (case v8 => decide); (case v9 => rfl))))
local macro_rules | `(tactic| walk_at "getMethod ref") => `(tactic| (k_here; (with_reducible show wpAny _ _ (getMethod _ (Str.ofString "__len__") _) _ _ _); k_dflt (refine' super_N (id := "list.__len__") ?v1 ?v2 ?v3 ?v4 acc_over ?v5 acc_any ?v6 ?v7 ?v8 (.inr rfl) ?_; (case v1 => k_asm); (case v2 => k_asm); (case v3 => k_asm); (case v5 => k_mem); (case v4 => k_mem); (case v6 => first | rfl | kernel_rfl); (case v7 => kernel_rfl); (case v8 => decide)); intro q' h' F' N' l1; (try k_lt l1)))
local macro_rules | `(tactic| walk_at "getMethod ref") => `(tactic| (k_here; (with_reducible show wpAny _ _ (getMethod _ (Str.ofString "__init__") _) _ _ _); k_dflt (refine' super_N (id := "list.__init__") ?v1 ?v2 ?v3 ?v4 acc_over ?v5 acc_any ?v6 ?v7 ?v8 (.inl rfl) ?_; (case v1 => k_asm); (case v2 => k_asm); (case v3 => k_asm); (case v5 => k_mem); (case v4 => k_mem); (case v6 => first | rfl | kernel_rfl); (case v7 => kernel_rfl); (case v8 => decide)); intro q' h' F' N' l1; (try k_lt l1)))
local macro_rules | `(tactic| walk_at "callWith ref") => `(tactic| (k_here; k_dflt (refine' callWith_wrap ?v1 ?_; (case v1 => exact News.get (by k_asm) (by k_mem)))))
local macro_rules | `(tactic| walk_at "call ref") => `(tactic| (k_here; k_dflt (first
  | (refine' init_N ?v1 ?v2 ?v3 ?v4 ?v5 ?_; (case v1 => k_asm); (case v2 => k_asm); (case v3 => k_mem); (case v4 => k_mem); (case v5 => k_updF)); intro h' c' F' N'; (try dsimp only at N'); (try dsimp only))))
-- part Acn
section


local macro_rules | `(tactic| walk_at "wpAt") => `(tactic| ((rename Past 1 => q9); refine halt_intro ?_))
local macro_rules | `(tactic| walk_at "setAttr ref") => `(tactic| ((fail_if_success (rename Past 1 => q9)); (fail_if_success (rename Past 2 => q9)); refine halt_intro ?_))
abbrev accD (p : Params) (a b : Tok) : List DictEntry := [{ hash := PyData.keyHash p (Str.ofString "_initial_size"), key := .str (Str.ofString "_initial_size") a, val := .int 0 b }]
theorem c_acc {w : World} {mean : ExcName → Option Value} {mg mb : Str → Option Value} {dp un : Nat} {gd : Option (List Code)} {cn : Str} {cs : Scope} {a : Addr} {ccd : Value} {cl : List (Str × Addr)} {outer : List Env} {A₀ : Around} {base h₀ : Heap} {L : Addr} {m : Str → Option Value} {s : Shared} {Q E : Value → Shared → Prop} {l d : Addr} {ol od : Obj}
   (B : Below A₀ base outer h₀) (F : Fr h₀ L s.heap m) (X : (_root_.Mine.hk.heap_1 w.params).In h₀) (N : News h₀ L s.heap [(l, ol), (d, od)]) (T : Top VW LO mean mg mb h₀) (hk : cs.kind = .function)
   (hd : dp + 2 < recursionLimit)
   (hret : ∀ x dx h' tk' c a b k, @LT.lt Nat _ dx x → @LT.lt Nat _ l dx → @LT.lt Nat _ d dx → Fr h₀ L h' m → News h₀ L h' [(x, lstObj 121 dx #[] c), (dx, dictOf (accD w.params a b) k), (l, ol), (d, od)] → Q (.ref x) { s with heap := h', toks := tk' }) :
   wpAny (model PR w) (ktrTop dp un gd cn cs L a ccd cl outer) (call (.ref 121) [] []) Q E s := by
  refine' call_lst (C := 121) F X N acc_makes ?v4 ?v5 ?_; (case v4 => k_is); (case v5 => k_is)
  intro x' d' h' F' N' l1 l2; (try k_lt l1); (try k_lt2 l2)
  refine' ks_code_super ?k1 ?k2 ?k3 ?k4 ?k5 ?kA ?kF ?kK ?k6 ?k7 ?k8 ?k9 ?kB ?_ ?c1 ?c2 ?c3 ?c4; (case kA => exact rfl); (case kF => exact rfl); (case kK => assumption); (case k1 => k_asm); (case k2 => k_asm); (case k3 => k_asm); (case k4 => k_asm); (case k5 => k_asm); (case k6 => k_is); (case k7 => k_is); (case k8 => ktr_room); (case k9 => exact binds_K (X.keeps F'.keep) rfl (by k_is) rfl rfl rfl); (case kB => exact locs rfl); (case c1 => decide); (case c2 => exact rfl); (case c3 => exact rfl); (case c4 => exact rfl)
  intro g2 L2 h2 FG2 F2 N2 B2 X2 T2 l3; (try k_lt l3); (try dsimp only); (try k_lift B2)
  k_steps
  unfold Halt
  have past := Past.mk (n := 1)
  k_steps
  unfold Halt
  try dsimp only
  ks_step "execs cons"
  refine ks_wpAt_execs_cons ?_
  ks_step "exec Expr"
  refine ks_wpAt_Expr_any ?_
  rename Past 1 => pq
  clear pq
  have past := Past.mk (n := 2)
  ks_step "eval Call"
  refine ks_wpAt_MethodCall ?_
  k_steps
  exact hret _ _ _ _ _ _ _ _ l2 l1.1 l1.2 (by assumption) (fun p hp => (by assumption : News h₀ L _ _) p (.tail _ (.tail _ hp)))
end
-- part Psh
section


local macro_rules | `(tactic| walk_at "call builtin:list.append") => `(tactic| (k_here; k_dflt (refine' append_N ?v1 ?v2 ?v3 ?v4 acc_over ?v5 ?v6 ?_; (case v1 => k_asm); (case v2 => k_asm); (case v3 => k_asm); (case v4 => k_mem); (case v5 => k_updF); (case v6 => assumption)); intro h' c' F' N'; (try dsimp only at N'); (try dsimp only)))
abbrev pairO (e w : Str) (a b : Tok) : Obj := { cls := .type "tuple", data := .seq #[.str e a, .str w b] }
theorem c_push {w : World} {mean : ExcName → Option Value} {mg mb : Str → Option Value} {dp un : Nat} {gd : Option (List Code)} {cn : Str} {cs : Scope} {a : Addr} {ccd : Value} {cl : List (Str × Addr)} {outer : List Env} {A₀ : Around} {base h₀ : Heap} {L : Addr} {m : Str → Option Value} {s : Shared} {Q E : Value → Shared → Prop} {x dx : Addr} {its : Array Value} {n k : Nat} {ai bi : Tok} {e w1 : Str} {ta tb : Tok}
   (B : Below A₀ base outer h₀) (F : Fr h₀ L s.heap m) (X : (_root_.Mine.hk.heap_1 w.params).In h₀) (N : News h₀ L s.heap [(x, lstObj 121 dx its n), (dx, dictOf (accD w.params ai bi) k)]) (T : Top VW LO mean mg mb h₀) (hk : cs.kind = .function)
   (hd : dp + 2 < recursionLimit) (hlt : @LT.lt Nat _ dx x) (hz : its.size ≤ sizeLine)
   (hret : ∀ t h' tk' n', (∀ b o, b ≠ x → s.heap.get? b = some o → h'.get? b = some o) → (∀ b o, s.heap.get? b = some o → b ≠ t) → Fr h₀ L h' m → News h₀ L h' [(x, lstObj 121 dx (its.push (.ref t)) n'), (t, pairO e w1 ta tb)] → Q .none { s with heap := h', toks := tk' }) :
   wpAny (model PR w) (ktrTop dp un gd cn cs L a ccd cl outer) (call (.ref 66) [.ref x, .str e ta, .str w1 tb]) Q E s := by
  refine wpAny_call ?_
  refine' code_defG ?k1 ?k2 ?k3 ?k4 ?k5 ?kA ?kF ?kK ?k6 ?k7 ?k8 ?k9 ?kB ?_ ?c2 ?c3 ?c4 ?c5
  (case kA => exact rfl); (case kF => exact rfl); (case kK => assumption); (case k1 => k_asm); (case k2 => k_asm); (case k3 => k_asm); (case k4 => k_asm); (case k5 => k_asm); (case k6 => k_is); (case k7 => k_is); (case k8 => ktr_room); (case k9 => exact BindsTo.of_eq rfl); (case kB => exact locs rfl); (case c2 => exact rfl); (case c3 => exact rfl); (case c4 => exact rfl); (case c5 => decide); k_whole; intro g' L' h' FG' F' N' B' X' T' GS; (try dsimp only); (try k_lift B'); (try k_fold)
  k_steps
  rename_i D5 h5 F5 N5 l5 h6 c6 F6 N6 kF kN Tc kX
  refine hret D5 _ _ c6 (stoodX GS N F6 N6 ?_) (apart_new GS N N6 (.head _) ?_) kF (fun p hp => kN p ?_)
  · exact List.forall_mem_cons.mpr ⟨.inr rfl, List.forall_mem_cons.mpr ⟨.inl (.tail _ (.tail _ (.head _))), fun _ h => nomatch h⟩⟩
  · exact List.forall_mem_cons.mpr ⟨Nat.ne_of_lt l5.1, List.forall_mem_cons.mpr ⟨Nat.ne_of_lt l5.2, fun _ h => nomatch h⟩⟩
  · rcases List.mem_cons.mp hp with rfl | hp
    · exact .tail _ (.head _)
    · rw [List.mem_singleton.mp hp]; exact .head _
end
-- part Lin
section


local macro_rules | `(tactic| walk_at "exec For Name Name cons nil") => `(tactic| (k_here; k_dflt (refine For_turns (by k_asm) ?_)))
local macro_rules | `(tactic| walk_at "pyIter ref") => `(tactic| (k_here; (refine halt_intro ?_)))
local macro_rules | `(tactic| walk_at "call ref") => `(tactic| (k_here; k_dflt (refine' c_acc ?v1 ?v2 ?v3 ?v4 ?v5 ?v6 ?v7 ?_; (case v1 => k_asm); (case v2 => k_asm); (case v3 => k_asm); (case v4 => k_asm); (case v5 => k_asm); (case v6 => rfl); (case v7 => ktr_room)); intro x' dx' h' tk' c' a' b' k' l1 l2 l3 F' N'))
structure WL where
  its : Array Value
  n : Nat
  tups : List (Addr × Obj)
/-- what a line holds: pairs of a blank text and a word -/
def PartsAre (its : Array Value) (tups : List (Addr × Obj)) (wds : List Str) : Prop := ∃ ps : List (Addr × Str × Tok × Tok), its = (ps.map fun p => Value.ref p.1).toArray ∧ tups = ps.map (fun p => (p.1, pairO (Str.ofString "") p.2.1 p.2.2.1 p.2.2.2)) ∧ ps.map (fun p => p.2.1) = wds
theorem parts_push {its : Array Value} {tups : List (Addr × Obj)} {wds : List Str} {t : Addr} {w1 : Str} {a b : Tok} (h : PartsAre its tups wds) : PartsAre (its.push (.ref t)) (tups ++ [(t, pairO (Str.ofString "") w1 a b)]) (wds ++ [w1]) := by
  obtain ⟨ps, rfl, rfl, rfl⟩ := h
  exact ⟨ps ++ [(t, w1, a, b)], by simp, by simp, by simp⟩
theorem parts_size {its : Array Value} {tups : List (Addr × Obj)} {wds : List Str} (h : PartsAre its tups wds) : its.size = wds.length := by
  obtain ⟨ps, rfl, rfl, rfl⟩ := h; simp
def wordF (S : List Int) (x : Int) : Str := wordS (figS S x.toNat) (lenW (S.getD x.toNat 0))
theorem c_lin {w : World} {mean : ExcName → Option Value} {mg mb : Str → Option Value} {dp un : Nat} {gd : Option (List Code)} {cn : Str} {cs : Scope} {a : Addr} {ccd : Value} {cl : List (Str × Addr)} {outer : List Env} {A₀ : Around} {base h₀ : Heap} {L : Addr} {m : Str → Option Value} {s : Shared} {Q E : Value → Shared → Prop} {l : Addr} {s0 s1 s2 s3 s4 : Int} {t0 t1 t2 t3 t4 : Tok} {n : Nat} {d : Addr} {dn : Nat} {ls : List Int} {ws : List Value}
   (B : Below A₀ base outer h₀) (F : Fr h₀ L s.heap m) (X : (_root_.Mine.hk.heap_1 w.params).In h₀) (N : News h₀ L s.heap [(l, listOf #[.int s0 t0, .int s1 t1, .int s2 t2, .int s3 t3, .int s4 t4] n), (d, listOf ws.toArray dn)]) (T : Top VW LO mean mg mb h₀) (hk : cs.kind = .function)
   (hd : dp + 12 < recursionLimit) (hu : un + 80 < cLine) (hls : LetOk ls) (hI : IntsAre ws (ls.map (fun x => figS [s0, s1, s2, s3, s4] x.toNat))) (p0 : 1 ≤ s0) (p1 : 1 ≤ s1) (p2 : 1 ≤ s2) (p3 : 1 ≤ s3) (p4 : 1 ≤ s4) (ps : s0 + s1 + s2 + s3 + s4 = 32) (hne : l ≠ d)
   (hret : ∀ x dx h' tk' its tups n a b k, PartsAre its tups (ls.map (wordF [s0, s1, s2, s3, s4])) → @LT.lt Nat _ dx x → (∀ b o, s.heap.get? b = some o → h'.get? b = some o) → (∀ b o, s.heap.get? b = some o → b ≠ x ∧ b ≠ dx ∧ ∀ p ∈ tups, b ≠ p.1) → Fr h₀ L h' m → News h₀ L h' ((x, lstObj 121 dx its n) :: (dx, dictOf (accD w.params a b) k) :: tups) → Q (.ref x) { s with heap := h', toks := tk' }) :
   wpAny (model PR w) (ktrTop dp un gd cn cs L a ccd cl outer) (call (.ref 185) [.ref l, .ref d]) Q E s := by
  refine wpAny_call ?_
  refine' code_defG ?k1 ?k2 ?k3 ?k4 ?k5 ?kA ?kF ?kK ?k6 ?k7 ?k8 ?k9 ?kB ?_ ?c2 ?c3 ?c4 ?c5
  (case kA => exact rfl); (case kF => exact rfl); (case kK => assumption); (case k1 => k_asm); (case k2 => k_asm); (case k3 => k_asm); (case k4 => k_asm); (case k5 => k_asm); (case k6 => k_is); (case k7 => k_is); (case k8 => ktr_room); (case k9 => exact BindsTo.of_eq rfl); (case kB => exact locs rfl); (case c2 => exact rfl); (case c3 => exact rfl); (case c4 => exact rfl); (case c5 => decide); k_whole; intro g' L' h' FG' F' N' B' X' T' GS; (try dsimp only); (try k_lift B'); (try k_fold)
  k_steps
  unfold Halt
  rename_i x5 dx5 h5 tk5 c5 a5 b5 k5 l51 l52 l53 h6 F6 N6
  have eW : ws.length = ls.length := by rw [hI.length, List.length_map]
  refine list_inv (σ := WL) (vs := ws) (k := dn) (fun c => (x5, lstObj 121 dx5 c.its c.n) :: (dx5, dictOf (accD w.params a5 b5) k5) :: (l, listOf #[.int s0 t0, .int s1 t1, .int s2 t2, .int s3 t3, .int s4 t4] n) :: (d, listOf ws.toArray dn) :: c.tups) (fun i c => PartsAre c.its c.tups ((ls.take i).map (wordF [s0, s1, s2, s3, s4]))) [Str.ofString "figure"] ⟨#[], c5, []⟩ rfl F6 N6 (.tail _ (.tail _ (.tail _ (.head _)))) ⟨[], rfl, rfl, rfl⟩ ?_ ?_
  · intro I i c v u h tk own hlt hi hJ hv hoff hw ho F7 N7
    have hi' : i < ls.length := by rw [← eW]; exact hi
    obtain ⟨ty, ev⟩ : ∃ ty, v = Value.int (figS [s0, s1, s2, s3, s4] (ls[i]'hi').toNat) ty := by
      obtain ⟨ty, e⟩ := hI.get i (figS [s0, s1, s2, s3, s4] (ls[i]'hi').toNat) (by rw [List.getElem?_map, List.getElem?_eq_getElem hi']; rfl)
      rw [hv] at e
      exact ⟨ty, Option.some.inj e⟩
    obtain ⟨y0, y1⟩ := hls.1 _ (List.getElem_mem hi')
    subst ev
    have hj : (ls[i]'hi').toNat < 5 := by omega
    simp only [List.cons_append] at N7
    k_steps
    refine c_word (by k_asm) (by k_asm) (by k_asm) (news_one (by k_asm) (p := (l, listOf #[.int s0 t0, .int s1 t1, .int s2 t2, .int s3 t3, .int s4 t4] n)) (by k_mem)) (by k_asm) rfl (by ktr_room) (by show un + 3 + 64 < cLine; omega) hj rfl p0 p1 p2 p3 p4 ps ?_
    intro t9 h9 tk9 kp9 F9
    rename_i h8 F8 N8
    have N9 := News.grown N8 kp9
    k_steps
    have pc : ∀ p ∈ c.tups, p.2.cls = .type "tuple" := by
      obtain ⟨qs, _, et, _⟩ := hJ
      intro p hp
      rw [et] at hp
      obtain ⟨q, _, rfl⟩ := List.mem_map.mp hp
      rfl
    have lx : @LT.lt Nat _ l x5 ∧ @LT.lt Nat _ d x5 := ⟨Nat.lt_trans l52 l51, Nat.lt_trans l53 l51⟩
    have xI : @LT.lt Nat _ x5 I := hlt _ (.head _)
    have offx : ∀ p ∈ (dx5, dictOf (accD w.params a5 b5) k5) :: (l, listOf #[.int s0 t0, .int s1 t1, .int s2 t2, .int s3 t3, .int s4 t4] n) :: (d, listOf ws.toArray dn) :: (c.tups ++ own), p.1 ≠ x5 := by
      refine List.forall_mem_cons.mpr ⟨Nat.ne_of_lt l51, List.forall_mem_cons.mpr ⟨Nat.ne_of_lt lx.1, List.forall_mem_cons.mpr ⟨Nat.ne_of_lt lx.2, fun p hp => ?_⟩⟩⟩
      rcases List.mem_append.mp hp with q | q
      · exact News.ne_of_cls N9 (q := p) (p := (x5, lstObj 121 dx5 c.its c.n)) (.tail _ (.tail _ (.tail _ (.tail _ hp)))) (.head _) (by rw [pc p q]; exact fun h => nomatch h)
      · have z := ho p q
        rcases List.mem_cons.mp z with z | z
        · rw [z]; exact Nat.ne_of_gt xI
        · rw [List.mem_singleton.mp z]; exact Nat.ne_of_lt lx.2
    have sz : c.its.size = i := by rw [parts_size hJ, List.length_map, List.length_take]; omega
    refine c_push (by k_asm) (by k_asm) (by k_asm) (news_two N9 (.head _) (.tail _ (.head _))) (by k_asm) rfl (by ktr_room) l51 (by rw [sz, sizeLine_eq]; have := hls.2.2.1; omega) ?_
    intro t10 h10 tk10 n10 kp10 ap10 F10 M10
    have N10 : News g' L' h10 ((x5, lstObj 121 dx5 (c.its.push (.ref t10)) n10) :: (dx5, dictOf (accD w.params a5 b5) k5) :: (l, listOf #[.int s0 t0, .int s1 t1, .int s2 t2, .int s3 t3, .int s4 t4] n) :: (d, listOf ws.toArray dn) :: ((c.tups ++ [(t10, pairO (Str.ofString "") (wordS (figS [s0, s1, s2, s3, s4] (ls[i]'hi').toNat) (lenW ([s0, s1, s2, s3, s4].getD (((ls[i]'hi').toNat : Nat) : Int).toNat 0))) tk t9)]) ++ own)) := by
      have kk : ∀ p ∈ (dx5, dictOf (accD w.params a5 b5) k5) :: (l, listOf #[.int s0 t0, .int s1 t1, .int s2 t2, .int s3 t3, .int s4 t4] n) :: (d, listOf ws.toArray dn) :: (c.tups ++ own), h10.get? p.1 = some p.2 ∧ p.1 ≠ L' ∧ g'.get? p.1 = none := fun p hp => ⟨kp10 _ _ (offx p hp) (N9 p (.tail _ hp)).1, (N9 p (.tail _ hp)).2⟩
      refine List.forall_mem_cons.mpr ⟨M10 _ (.head _), List.forall_mem_cons.mpr ⟨kk _ (.head _), List.forall_mem_cons.mpr ⟨kk _ (.tail _ (.head _)), List.forall_mem_cons.mpr ⟨kk _ (.tail _ (.tail _ (.head _))), fun p hp => ?_⟩⟩⟩⟩
      rcases List.mem_append.mp hp with q | q
      · rcases List.mem_append.mp q with q | q
        · exact kk p (.tail _ (.tail _ (.tail _ (List.mem_append.mpr (.inl q)))))
        · rw [List.mem_singleton.mp q]; exact M10 _ (.tail _ (.head _))
      · exact kk p (.tail _ (.tail _ (.tail _ (List.mem_append.mpr (.inr q)))))
    k_steps
    refine tend (σ := WL) (⟨c.its.push (.ref t10), n10, c.tups ++ [(t10, pairO (Str.ofString "") (wordS (figS [s0, s1, s2, s3, s4] (ls[i]'hi').toNat) (lenW ([s0, s1, s2, s3, s4].getD (((ls[i]'hi').toNat : Nat) : Int).toNat 0))) tk t9)]⟩ : WL) F10 N10 (fun p hp => .tail _ (.tail _ (.tail _ (.tail _ (List.mem_append.mpr (.inr hp)))))) ?_ ?_ ?_ ?_
    · intro p hp
      rcases List.mem_cons.mp hp with rfl | hp
      · exact .head _
      rcases List.mem_cons.mp hp with rfl | hp
      · exact .tail _ (.head _)
      rcases List.mem_cons.mp hp with rfl | hp
      · exact .tail _ (.tail _ (.head _))
      rcases List.mem_cons.mp hp with rfl | hp
      · exact .tail _ (.tail _ (.tail _ (.head _)))
      · exact .tail _ (.tail _ (.tail _ (.tail _ (List.mem_append.mpr (.inl hp)))))
    · intro z hz
      have z1 : z ≠ Str.ofString "figure" := by simpa using hz
      exact (if_neg z1).trans (if_neg (by rw [hz]; decide))
    · refine List.forall_mem_cons.mpr ⟨hoff (x5, lstObj 121 dx5 c.its c.n) (.head _), List.forall_mem_cons.mpr ⟨hoff _ (.tail _ (.head _)), List.forall_mem_cons.mpr ⟨hoff _ (.tail _ (.tail _ (.head _))), List.forall_mem_cons.mpr ⟨hoff _ (.tail _ (.tail _ (.tail _ (.head _)))), fun p hp => ?_⟩⟩⟩⟩
      rcases List.mem_append.mp hp with q | q
      · exact hoff p (.tail _ (.tail _ (.tail _ (.tail _ q))))
      · rw [List.mem_singleton.mp q]
        obtain ⟨oI, hoI⟩ := hw I (.head _)
        intro q2
        exact ap10 I oI (N9 (I, oI) (.tail _ (.tail _ (.tail _ (.tail _ (List.mem_append.mpr (.inr hoI))))))).1 (List.mem_singleton.mp q2).symm
    · have e : ls.take (i + 1) = ls.take i ++ [ls[i]'hi'] := List.take_succ_eq_append_getElem hi'
      show PartsAre _ _ ((ls.take (i + 1)).map _)
      rw [e, List.map_append]
      exact parts_push hJ
  · intro c u h tk hJ F7 N7
    have eT : ls.take ws.length = ls := by rw [eW]; exact List.take_length
    rw [eT] at hJ
    have pc : ∀ p ∈ c.tups, p.2.cls = .type "tuple" := by
      obtain ⟨qs, _, et, _⟩ := hJ
      intro p hp
      rw [et] at hp
      obtain ⟨q, _, rfl⟩ := List.mem_map.mp hp
      rfl
    k_steps
    have lx : @LT.lt Nat _ l x5 ∧ @LT.lt Nat _ d x5 := ⟨Nat.lt_trans l52 l51, Nat.lt_trans l53 l51⟩
    refine hret x5 dx5 _ _ c.its c.tups c.n a5 b5 k5 hJ l51 (stood GS N F7 N7 ?_) (fun b o e => ⟨?_, ?_, ?_⟩) (by assumption) (fun p hp => (by assumption : News h₀ L h _) p ?_)
    · exact List.forall_mem_cons.mpr ⟨.tail _ (.tail _ (.head _)), List.forall_mem_cons.mpr ⟨.tail _ (.tail _ (.tail _ (.head _))), fun _ h => nomatch h⟩⟩
    · exact apart_new GS N N7 (.head _) (List.forall_mem_cons.mpr ⟨Nat.ne_of_lt lx.1, List.forall_mem_cons.mpr ⟨Nat.ne_of_lt lx.2, fun _ h => nomatch h⟩⟩) b o e
    · exact apart_new GS N N7 (.tail _ (.head _)) (List.forall_mem_cons.mpr ⟨Nat.ne_of_lt l52, List.forall_mem_cons.mpr ⟨Nat.ne_of_lt l53, fun _ h => nomatch h⟩⟩) b o e
    · intro p hp
      have mp : p ∈ (x5, lstObj 121 dx5 c.its c.n) :: (dx5, dictOf (accD w.params a5 b5) k5) :: (l, listOf #[.int s0 t0, .int s1 t1, .int s2 t2, .int s3 t3, .int s4 t4] n) :: (d, listOf ws.toArray dn) :: c.tups := .tail _ (.tail _ (.tail _ (.tail _ hp)))
      refine apart_new GS N N7 (D := p.1) (o' := p.2) mp (List.forall_mem_cons.mpr ⟨?_, List.forall_mem_cons.mpr ⟨?_, fun _ h => nomatch h⟩⟩) b o e
      · exact News.ne_of_cls N7 (q := (l, listOf #[.int s0 t0, .int s1 t1, .int s2 t2, .int s3 t3, .int s4 t4] n)) (p := p) (.tail _ (.tail _ (.head _))) mp (by rw [pc p hp]; show Value.type "list" ≠ Value.type "tuple"; decide)
      · exact News.ne_of_cls N7 (q := (d, listOf ws.toArray dn)) (p := p) (.tail _ (.tail _ (.tail _ (.head _)))) mp (by rw [pc p hp]; show Value.type "list" ≠ Value.type "tuple"; decide)
    · rcases List.mem_cons.mp hp with rfl | hp
      · exact .head _
      rcases List.mem_cons.mp hp with rfl | hp
      · exact .tail _ (.head _)
      · exact .tail _ (.tail _ (.tail _ (.tail _ hp)))
end
-- part Cnt
section

section
variable {prog : Program} {w : World} {A₀ A : Around} {s : Shared} {base h₀ : Heap} {outer : List Env} {L : Addr} {m mg mb : Str → Option Value} {env : Env} {news : List (Addr × Obj)} {K : Frag} {p : Program} {loose : List Str} {mean : ExcName → Option Value}
  {R : Result → Shared → Prop} {name qual : Str} {params : Arguments} {body : List Stmt} {scope : Scope} {dV kV doc pm cdv ct oc : Value} {an od : Option Addr} {osl : Array (Option Value)} {f cc : Addr} {args : Args} {binds : List (Str × Value)}
/-- a def that speaks of super() is entered; what the caller's heap bore stands in the ground -/
theorem code_superG (B : Below A₀ base outer h₀) (F : Fr h₀ L s.heap m) (X₀ : K.In h₀) (N : News h₀ L s.heap news) (T : Top p loose mean mg mb h₀) (hA : A.frames = some (env :: outer)) (hf : env.frame = some L) (hke : env.scope.kind = .function)
    (ho : K.lookup f = some ⟨oc, od, .func (ksFn name qual params body scope dV kV doc pm an cdv ct cc), osl⟩) (hcd : codeIn K cdv qual = true) (hroom : A.depth < recursionLimit)
    (hbind : BindsTo s (ksFn name qual params body scope dV kV doc pm an cdv ct cc) args binds) (hloc : ∀ y ∈ binds, scope.names.lookup y.1 = some .local)
    (h : ∀ g L' h₁, Fr h₀ L g m → Fr g L' h₁ (fun y => binds.reverse.lookup y) → News g L' h₁ news → Below A base (env :: outer) g → K.In g → Top p loose mean mg mb g → (∀ p ∈ news, p.1 < L') → GSub s.heap g (news.map (·.1)) →
      _root_.PySem.wpAt (model prog w) (A.deeper (ksEnv qual scope L' f cdv cc)) (.func body (ksEnv qual scope L' f cdv cc)) (execs body (ksEnv qual scope L' f cdv cc))
        (fun fl s' => LeaveK h₀ L m g R (match fl with | .ret v => v | _ => .none) s')
        (fun e s' => wpAny (model prog w) (A.deeper (ksEnv qual scope L' f cdv cc)) (leaving (ksEnv qual scope L' f cdv cc) e) (fun _ s'' => R (.error e) s'') (fun e' s'' => R (.error e') s'') s')
        { s with heap := h₁, toks := s.toks + binds.length })
    (hcell : ∀ x ∈ scope.names, x.2 ≠ .cell := by decide) (hco : scope.isCoroutine = false := by rfl) (hgen : scope.isGenerator = false := by rfl) (hk : scope.kind = .function := by rfl) : codeAny (model prog w) A (.call (.ref f) args) R s := by
  obtain ⟨FG, BG, st, lv⟩ := groundX (R := R) B F N hA hf hke
  refine ks_codeAny_call_defAt (fd := ksFn name qual params body scope dV kV doc pm an cdv ct cc) (body := body) (binds := binds) hroom ((X₀.keeps F.keep) _ _ ho) rfl (T.nolimit.keeps F.keep) (codeRec_of (X₀.keeps F.keep) hcd) rfl hbind hcell hloc (fun h₁ hns hk₁ => ?_) hco hgen hk
  exact ks_wpAt_mono (h _ s.heap.objs.size h₁ FG ⟨hns, fun b o e => hk₁ b o (of_hideAll _ e), Nat.le_of_eq (hideAll_size _ _)⟩
    (fun p hp => ⟨hk₁ _ _ (N p hp).1, Nat.ne_of_lt (Heap.lt_size (N p hp).1), hideAll_none _ (List.mem_map_of_mem hp)⟩) BG (X₀.keeps st) (T.keeps st) (fun p hp => Heap.lt_size (N p hp).1) (fun b o e n => hideAll_get _ e n)) (fun fl s' hl => lv _ _ hl) fun _ _ y => y
end


local macro_rules | `(tactic| walk_at "wpAt") => `(tactic| ((rename Past 1 => q9); refine halt_intro ?_))
local macro_rules | `(tactic| walk_at "call ref") => `(tactic| (k_here; k_dflt (refine' slen_N ?v1 ?v2 ?v3 ?v4 ?v5 acc_over ?_; (case v1 => k_asm); (case v2 => k_asm); (case v3 => k_asm); (case v4 => k_mem); (case v5 => k_mem))))
theorem c_cnt {w : World} {mean : ExcName → Option Value} {mg mb : Str → Option Value} {dp un : Nat} {gd : Option (List Code)} {cn : Str} {cs : Scope} {a : Addr} {ccd : Value} {cl : List (Str × Addr)} {outer : List Env} {A₀ : Around} {base h₀ : Heap} {L : Addr} {m : Str → Option Value} {s : Shared} {Q E : Value → Shared → Prop} {x dx : Addr} {its : Array Value} {n k : Nat} {ai bi : Tok}
   (B : Below A₀ base outer h₀) (F : Fr h₀ L s.heap m) (X : (_root_.Mine.hk.heap_1 w.params).In h₀) (N : News h₀ L s.heap [(x, lstObj 121 dx its n), (dx, dictOf (accD w.params ai bi) k)]) (T : Top VW LO mean mg mb h₀) (hk : cs.kind = .function)
   (hd : dp + 2 < recursionLimit) (hlt : @LT.lt Nat _ dx x)
   (hret : ∀ t h' tk', (∀ b o, s.heap.get? b = some o → h'.get? b = some o) → Fr h₀ L h' m → Q (.int its.size t) { s with heap := h', toks := tk' }) :
   wpAny (model PR w) (ktrTop dp un gd cn cs L a ccd cl outer) (call (.ref 118) [.ref x]) Q E s := by
  refine wpAny_call ?_
  refine' code_superG ?k1 ?k2 ?k3 ?k4 ?k5 ?kA ?kF ?kK ?k6 ?k7 ?k8 ?k9 ?kB ?_ ?c1 ?c2 ?c3 ?c4; (case kA => exact rfl); (case kF => exact rfl); (case kK => assumption); (case k1 => k_asm); (case k2 => k_asm); (case k3 => k_asm); (case k4 => k_asm); (case k5 => k_asm); (case k6 => k_is); (case k7 => k_is); (case k8 => ktr_room); (case k9 => exact BindsTo.of_eq rfl); (case kB => exact locs rfl); (case c1 => decide); (case c2 => exact rfl); (case c3 => exact rfl); (case c4 => exact rfl)
  intro g' L' h' FG' F' N' B' X' T' l1 GS; (try k_lt l1); (try dsimp only); (try k_lift B')
  have past := Past.mk (n := 1)
  k_steps
  unfold Halt
  try dsimp only
  ks_step "execs cons"
  refine ks_wpAt_execs_cons ?_
  ks_step "exec Return"
  refine ks_wpAt_Return_some ?_
  rename Past 1 => pq
  clear pq
  ks_step "eval Call"
  refine ks_wpAt_MethodCall ?_
  k_steps
  rename_i so5 h5 F5 N5 l5 q6 h6 F6 N6 l6 kF kN Tc kX
  refine hret _ _ _ (stood GS N F6 N6 ?_) kF
  exact List.forall_mem_cons.mpr ⟨by k_mem, List.forall_mem_cons.mpr ⟨by k_mem, fun _ h => nomatch h⟩⟩
end
-- part Pop
section


theorem c_pop {w : World} {mean : ExcName → Option Value} {mg mb : Str → Option Value} {dp un : Nat} {gd : Option (List Code)} {cn : Str} {cs : Scope} {a : Addr} {ccd : Value} {cl : List (Str × Addr)} {outer : List Env} {A₀ : Around} {base h₀ : Heap} {L : Addr} {m : Str → Option Value} {s : Shared} {Q E : Value → Shared → Prop} {x dx : Addr} {its : Array Value} {n k : Nat} {ai bi tc : Tok} {c : Nat}
   (B : Below A₀ base outer h₀) (F : Fr h₀ L s.heap m) (X : (_root_.Mine.hk.heap_1 w.params).In h₀) (N : News h₀ L s.heap [(x, lstObj 121 dx its n), (dx, dictOf (accD w.params ai bi) k)]) (T : Top VW LO mean mg mb h₀) (hk : cs.kind = .function)
   (hd : dp + 2 < recursionLimit) (hlt : @LT.lt Nat _ dx x) (hz : its.size ≤ 14) (hc : c ≤ its.size)
   (hret : ∀ D h' tk' n', (∀ b o, b ≠ x → s.heap.get? b = some o → h'.get? b = some o) → (∀ b o, s.heap.get? b = some o → b ≠ D) → Fr h₀ L h' m → News h₀ L h' [(D, listOf (its.toList.drop c).toArray 0), (x, lstObj 121 dx (its.toList.take c).toArray n')] → Q (.ref D) { s with heap := h', toks := tk' }) :
   wpAny (model PR w) (ktrTop dp un gd cn cs L a ccd cl outer) (call (.ref 74) [.ref x, .int (c : Int) tc]) Q E s := by
  refine wpAny_call ?_
  refine' code_defG ?k1 ?k2 ?k3 ?k4 ?k5 ?kA ?kF ?kK ?k6 ?k7 ?k8 ?k9 ?kB ?_ ?c2 ?c3 ?c4 ?c5
  (case kA => exact rfl); (case kF => exact rfl); (case kK => assumption); (case k1 => k_asm); (case k2 => k_asm); (case k3 => k_asm); (case k4 => k_asm); (case k5 => k_asm); (case k6 => k_is); (case k7 => k_is); (case k8 => ktr_room); (case k9 => exact binds_K (X.keeps F.keep) rfl (by k_is) rfl rfl rfl); (case kB => exact locs rfl); (case c2 => exact rfl); (case c3 => exact rfl); (case c4 => exact rfl); (case c5 => decide); k_whole; intro g' L' h' FG' F' N' B' X' T' GS; (try dsimp only); (try k_lift B'); (try k_fold)
  k_steps
  have Fp := F'.push ({ cls := .type "slice", data := .fields #[.int (c : Int) tc, .none, .none] } : Obj)
  have Np := News.pushKeep N' ({ cls := .type "slice", data := .fields #[.int (c : Int) tc, .none, .none] } : Obj)
  refine sub_L Fp X' Np (.head _) acc_over (by k_is) (Heap.get?_push_size _ rfl) (by rw [sizeLine_eq]; omega) ?_
  intro D5 h5 F5 N5 l5
  clear Fp Np
  k_lt l5
  k_steps
  rename_i h6 E7 h7 F7 N7 l7
  have Fp := F7.push ({ cls := .type "slice", data := .fields #[.int (c : Int) tc, .none, .none] } : Obj)
  have Np := News.pushKeep N7 ({ cls := .type "slice", data := .fields #[.int (c : Int) tc, .none, .none] } : Obj)
  refine set_slice_L Fp X' Np (.tail _ (.tail _ (.head _))) acc_over (UpdF.tail (Nat.ne_of_gt l7.2.1) (UpdF.tail (Nat.ne_of_gt l5.1) (UpdF.head (List.forall_mem_cons.mpr ⟨Nat.ne_of_lt hlt, fun _ h => nomatch h⟩)))) (by k_is) (Heap.get?_push_size _ rfl) (.head _) (by rw [sizeLine_eq]; omega) ?_
  intro h8 n8 F8 N8
  clear Fp Np
  rw [pick_from its c hc, rest_to its c hc] at N8
  k_steps
  rename_i kF kN Tc kX
  refine hret D5 _ _ n8 (stoodX GS N F8 N8 ?_) (apart_new GS N N8 (.tail _ (.head _)) ?_) kF (fun p hp => kN p ?_)
  · exact List.forall_mem_cons.mpr ⟨.inr rfl, List.forall_mem_cons.mpr ⟨.inl (.tail _ (.tail _ (.tail _ (.head _)))), fun _ h => nomatch h⟩⟩
  · exact List.forall_mem_cons.mpr ⟨Nat.ne_of_lt l5.1, List.forall_mem_cons.mpr ⟨Nat.ne_of_lt l5.2, fun _ h => nomatch h⟩⟩
  · rcases List.mem_cons.mp hp with rfl | hp
    · exact .tail _ (.head _)
    · rw [List.mem_singleton.mp hp]; exact .tail _ (.tail _ (.head _))
end
-- part Len
section

section
variable {prog : Program} {w : World} {A : Around} {E : Value → Shared → Prop} {s : Shared} {K : Frag} {h₀ : Heap} {C : Addr} {m mg mb : Str → Option Value} {p : Program} {loose : List Str} {mean : ExcName → Option Value} {env : Env} {Q : Value → Shared → Prop} {x : Str} {pos : Pos} {v : Value}
theorem g_local (hn : s.heap.Ns env.locals m) (hk : env.scope.kind = .function) (hl : env.kindOf x = some .local) (hv : m x = some v) (h : Q v s) (hd : (x == ("__debug__" : Str)) = false := by decide) : wpAny (model prog w) A (eval (.Name x pos) env) Q E s :=
  wpAny_Name (wpAny_loadName_local hk hl hn hv h) hd
theorem g_builtin (kp : ∀ b o, h₀.get? b = some o → s.heap.get? b = some o) (X₀ : K.In h₀) (T : Top p loose mean mg mb h₀) (hg : env.globals = mainGlobals) (hb : env.builtins = builtinsNs) (hk : env.scope.kind = .function) (hx : env.kindOf x = some .globalImplicit)
    (e : nsIn K mainGlobals x = some none) (hv : bootBuiltins x = some v) (hne : x ≠ "__name__") (h : Q v s) (hd : (x == ("__debug__" : Str)) = false := by decide) : wpAny (model prog w) A (eval (.Name x pos) env) Q E s :=
  Name_function_global hk hx (loadGlobal_builtin (env := env) (by rw [hg]; exact T.g.keeps kp) (mg_none_of X₀ T.g e) (by rw [hb]; exact T.b.keeps kp) ((T.builtins _ hne).trans hv) h) hd
theorem g_global (kp : ∀ b o, h₀.get? b = some o → s.heap.get? b = some o) (X₀ : K.In h₀) (T : Top p loose mean mg mb h₀) (hg : env.globals = mainGlobals) (hk : env.scope.kind = .function) (hx : env.kindOf x = some .globalImplicit)
    (e : nsIn K mainGlobals x = some (some v)) (h : Q v s) (hd : (x == ("__debug__" : Str)) = false := by decide) : wpAny (model prog w) A (eval (.Name x pos) env) Q E s :=
  Name_function_global hk hx (loadGlobal_global (env := env) (by rw [hg]; exact T.g.keeps kp) (mg_of X₀ T.g e) h) hd
end


theorem gen_tok {prog : Program} {w : World} {A : Around} {L a : Addr} {n : Nat} {Fv : Nat → Value → Prop} {s : Shared} {tk : Nat} (X : Gen prog w A L a n Fv s) (h : s.toks ≤ tk) : Gen prog w A L a n Fv { s with toks := tk } := by
  obtain ⟨fp, wr, g, St, W, hst, hT, ha, hfp, hwr⟩ := X
  exact ⟨fp, wr, g, St, W, W.frame 0 s s.heap tk hst h (fun b _ o e => e), hT, ha, hfp, hwr⟩
theorem tabs_off {h₀ h : Heap} {L P x dx : Addr} {its : Array Value} {n k : Nat} {es : List DictEntry} {ps : Array Value} {qs : List (Addr × Str × Tok × Tok)} (N : News h₀ L h ((P, tabO ps) :: (x, lstObj 121 dx its n) :: (dx, dictOf es k) :: qs.map (fun p => (p.1, pairO (Str.ofString "") p.2.1 p.2.2.1 p.2.2.2)))) :
    ∀ p ∈ (x, lstObj 121 dx its n) :: (dx, dictOf es k) :: qs.map (fun p => (p.1, pairO (Str.ofString "") p.2.1 p.2.2.1 p.2.2.2)), p.1 ≠ P := by
  intro p hp
  refine News.ne_of_cls N (q := p) (p := (P, tabO ps)) (.tail _ hp) (.head _) ?_
  rcases List.mem_cons.mp hp with rfl | hp
  · exact fun h => nomatch h
  rcases List.mem_cons.mp hp with rfl | hp
  · exact fun h => nomatch h
  obtain ⟨q, _, rfl⟩ := List.mem_map.mp hp
  exact fun h => nomatch h
theorem tabs_on {h₀ h h' : Heap} {L P : Addr} {ps ps' : Array Value} {rest : List (Addr × Obj)} (N : News h₀ L h ((P, tabO ps) :: rest)) (N' : News h₀ L h' [(P, tabO ps')]) (off : ∀ p ∈ rest, p.1 ≠ P) (kp : ∀ p ∈ (P, tabO ps) :: rest, p.1 ≠ P → h'.get? p.1 = some p.2) : News h₀ L h' ((P, tabO ps') :: rest) :=
  List.forall_mem_cons.mpr ⟨N' _ (.head _), fun p hp => ⟨kp p (.tail _ hp) (off p hp), (N p (.tail _ hp)).2⟩⟩
local macro_rules | `(tactic| walk_at "getAttr ref") => `(tactic| (k_here; k_dflt (refine' get_L ?v1 ?v2 ?v3 ?v4 ?v5 acc_over ?v6 ?v7 ?v8 ?v9 ?va ?vb ?_; (case v1 => k_asm); (case v2 => k_asm); (case v3 => k_asm); (case v4 => k_mem); (case v5 => k_inst); (case v6 => k_is); (case v7 => k_is); (case v8 => k_is); (case v9 => k_is); (case va => rfl); (case vb => rfl))))
local macro_rules | `(tactic| walk_at "eval GeneratorExp") => `(tactic| (refine halt_intro ?_))
theorem c_len {w : World} {mean : ExcName → Option Value} {mg mb : Str → Option Value} {dp un : Nat} {gd : Option (List Code)} {cn : Str} {cs : Scope} {a : Addr} {ccd : Value} {cl : List (Str × Addr)} {outer : List Env} {A₀ : Around} {base h₀ : Heap} {L : Addr} {m : Str → Option Value} {s : Shared} {Q E : Value → Shared → Prop} {x dx : Addr} {its : Array Value} {n k : Nat} {ai bi : Tok} {tups : List (Addr × Obj)} {wds : List Str}
   (B : Below A₀ base outer h₀) (F : Fr h₀ L s.heap m) (X : (_root_.Mine.hk.heap_1 w.params).In h₀) (N : News h₀ L s.heap ((83, tabO #[]) :: (x, lstObj 121 dx its n) :: (dx, dictOf (accD w.params ai bi) k) :: tups)) (T : Top VW LO mean mg mb h₀) (hk : cs.kind = .function)
   (hd : dp + 12 < recursionLimit) (hu : un + 80 < cLine) (hp : PartsAre its tups wds) (hG : AllBare s.gens) (hw : ∀ y ∈ wds, y.length ≤ 6) (hn : wds.length ≤ 14)
   (hret : ∀ t h' gs' tk' ps', AllBare gs' → TriplesOk ps'.toList → Fr h₀ L h' m → (∀ b o, b ≠ 83 → s.heap.get? b = some o → h'.get? b = some o) → News h₀ L h' [(83, tabO ps')] → Q (.int (((wds.map Str.length).sum : Nat) : Int) t) { s with heap := h', gens := gs', toks := tk' }) :
   wpAny (model PR w) (ktrTop dp un gd cn cs L a ccd cl outer) (call (.ref 88) [.ref x]) Q E s := by
  obtain ⟨qs, rfl, rfl, rfl⟩ := hp
  refine wpAny_call ?_
  refine' code_defL ?k1 ?k2 ?k3 ?k4 ?k5 ?kA ?kF ?kK ?k6 ?k7 ?k8 ?k9 ?kB ?_ ?c2 ?c3 ?c4 ?c5
  (case kA => exact rfl); (case kF => exact rfl); (case kK => assumption); (case k1 => k_asm); (case k2 => k_asm); (case k3 => k_asm); (case k4 => k_asm); (case k5 => k_asm); (case k6 => k_is); (case k7 => k_is); (case k8 => ktr_room); (case k9 => exact BindsTo.of_eq rfl); (case kB => exact locs rfl); (case c2 => exact rfl); (case c3 => exact rfl); (case c4 => exact rfl); (case c5 => decide); intro g' L' h' FG' F' N' B' X' T' l1 GS; (try dsimp only); (try k_lift B'); (try k_fold)
  k_steps
  unfold Halt
  have off := tabs_off N'
  have eI : (qs.map fun p => Value.ref p.1).toArray = ((qs.map fun q => ((q.1, Value.str (Str.ofString "") q.2.2.1, Value.str q.2.1 q.2.2.2) : Addr × Value × Value)).map fun p => Value.ref p.1).toArray := by rw [List.map_map]; rfl
  obtain ⟨bm, ob, M⟩ := bmod_of_top T'
  refine gen_L (K := _root_.Mine.hk.heap_1 w.params) (C := 121) (c := 87) (P := 83) (x := x) (dx := dx) (n := n) (ps := qs.map fun q => ((q.1, Value.str (Str.ofString "") q.2.2.1, Value.str q.2.1 q.2.2.2) : Addr × Value × Value)) (Fv := fun j y => ∃ t, y = Value.int (((qs[j]?.map fun q => q.2.1.length).getD 0 : Nat) : Int) t)
    F' X' N' (.head _) (by rw [← eI]; exact .tail _ (.head _)) ?_ acc_over (by k_is) (by kernel_rfl) rfl M T'.nolimit hG rfl rfl rfl (by decide) (by rfl) (by rfl) (by rfl) (by decide) rfl (by ktr_room) (fun Q' h => g_local (F'.ns) rfl rfl rfl h) (by intro _; rfl) ?_ ?_
  · intro p hp
    obtain ⟨q, hq, rfl⟩ := List.mem_map.mp hp
    exact .tail _ (.tail _ (.tail _ (List.mem_map.mpr ⟨q, hq, rfl⟩)))
  · intro C' code A' E' i p u m₂ hA hpi hn2 ha hb kp
    rw [List.getElem?_map] at hpi
    obtain ⟨q, hq, rfl⟩ := Option.map_eq_some_iff.mp hpi
    dsimp only at ha hb
    have lq : q.2.1.length ≤ 6 := hw _ (List.mem_map.mpr ⟨q, List.mem_of_getElem? hq, rfl⟩)
    have z0 : (Str.ofString "").length = 0 := by decide
    refine wpAny_BinOp ?_
    refine Call_ ?_
    refine g_builtin kp X' T' rfl rfl rfl rfl (by kernel_rfl) (by first | boot_by_name | rfl | kernel_rfl) (by decide) ?_
    refine PyProof.Rows.callWith_builtin1 ?_
    refine PyProof.Rows.spliced_more ?_
    refine g_local hn2 rfl rfl ha ?_
    refine PyProof.Rows.spliced_none ?_
    refine len_str (by rw [z0]; decide) ?_
    refine Call_ ?_
    refine g_builtin kp X' T' rfl rfl rfl rfl (by kernel_rfl) (by first | boot_by_name | rfl | kernel_rfl) (by decide) ?_
    refine PyProof.Rows.callWith_builtin1 ?_
    refine PyProof.Rows.spliced_more ?_
    refine g_local hn2 rfl rfl hb ?_
    refine PyProof.Rows.spliced_none ?_
    refine len_str (by omega) ?_
    refine PyProof.Rows.add_int ⟨⟨_, congrArg (fun z => Value.int z _) ?_⟩, _, _, rfl, fun _ _ e => e⟩
    rw [z0, hq]
    simp
  · intro a5 h5 tk5 gs5 ps5 F5 N5 kp5 hG5 htr5 X5
    have N6 := tabs_on N' N5 off kp5
    clear N5 kp5 N'
    k_steps
    have sp : ∀ j, j ≤ qs.length → preSum (fun j => (((qs[j]?.map fun q => q.2.1.length).getD 0 : Nat) : Int)) j = (((qs.map fun q => q.2.1.length).take j).sum : Nat) := by
      intro j
      induction j with
      | zero => intro _; rfl
      | succ j ih =>
        intro hj
        have hj' : j < qs.length := hj
        rw [preSum, ih (Nat.le_of_lt hj'), List.take_succ_eq_append_getElem (by rw [List.length_map]; exact hj'), List.sum_append, List.getElem_map, List.getElem?_eq_getElem hj']
        simp
    have sb : ∀ j, j ≤ 14 → ((qs.map fun q => q.2.1.length).take j).sum ≤ 6 * j := by
      intro j
      induction j with
      | zero => intro _; simp
      | succ j ih =>
        intro hj
        rcases Nat.lt_or_ge j (qs.map fun q => q.2.1.length).length with q | q
        · rw [List.take_succ_eq_append_getElem q, List.sum_append, List.getElem_map]
          have l6 : (qs[j]'(by simpa using q)).2.1.length ≤ 6 := hw _ (List.mem_map.mpr ⟨_, List.getElem_mem _, rfl⟩)
          have := ih (by omega)
          simp
          omega
        · rw [List.take_of_length_le (by omega)]
          have := ih (by omega)
          rw [List.take_of_length_le q] at this
          omega
    have lq : qs.length ≤ 14 := by simpa using hn
    have X6 := gen_tok X5 (tk := tk5 + 1) (Nat.le_succ _)
    rw [List.length_map] at X6
    refine sum_start F5 hG5 X6 (fun j => (((qs[j]?.map fun q => q.2.1.length).getD 0 : Nat) : Int)) (fun j v h => h.2) ?_ ?_
    · intro j hj
      rw [sp (j + 1) hj]
      have b1 := sb (j + 1) (by omega)
      have b2 : ((qs[j]?.map fun q => q.2.1.length).getD 0) ≤ 6 := by
        rw [List.getElem?_eq_getElem hj]
        exact hw _ (List.mem_map.mpr ⟨_, List.getElem_mem _, rfl⟩)
      unfold InLong
      constructor <;> constructor <;> omega
    · intro h7 gs7 tk7 t7 F7 hG7 kp7
      have N7 : News g' L' h7 ((83, tabO ps5) :: (x, lstObj 121 dx (qs.map fun p => Value.ref p.1).toArray n) :: (dx, dictOf (accD w.params ai bi) k) :: qs.map (fun p => (p.1, pairO (Str.ofString "") p.2.1 p.2.2.1 p.2.2.2))) := fun p hp => by
        refine ⟨kp7 _ _ ?_ (N6 p hp).1, (N6 p hp).2⟩
        rcases List.mem_cons.mp hp with rfl | hp'
        · exact Nat.le_of_lt (l1 (83, tabO #[]) (.head _))
        · exact Nat.le_of_lt (l1 p (.tail _ hp'))
      clear N6 kp7 X6 X5
      k_steps
      rename_i kF kN Tc kX
      rw [sp qs.length (Nat.le_refl _), List.take_of_length_le (by rw [List.length_map]; exact Nat.le_refl _)]
      have eS : ((qs.map fun p => p.2.1).map Str.length).sum = (qs.map fun q => q.2.1.length).sum := by rw [List.map_map]; rfl
      rw [← eS]
      refine hret _ _ _ _ ps5 hG7 htr5 kF ?_ (news_one kN (.head _))
      exact stoodX GS N F7 N7 (List.forall_mem_cons.mpr ⟨.inr rfl, fun p hp => .inl (.tail _ hp)⟩)
end
-- part Stl
section

theorem join_blank (y : Str) : Txt.join (Str.ofString "") [Str.ofString "", y] = y := by
  have z : (Str.ofString "").cps = #[] := by decide
  show (⟨(#[] : Array Nat) |> fun _ => ((Str.ofString "").cps ++ (Str.ofString "").cps ++ y.cps)⟩ : Str) = y
  rw [z]
  simp
theorem callWith_bF {M : Model} {A : Around} {E : Value → Shared → Prop} {s : Shared} {env : Env} {pos : Pos} {id : String} {first : List Value} {e : PySem.Expr} {rest : List PySem.Expr} {Q : Value → Shared → Prop}
    (h : wpAny M A (spliced (backTo pos (starEach (e :: rest) env))) (fun vs s₁ => wpAny M A (call (.builtin id) (first ++ vs)) Q E s₁) E s)
    (he : starEach (e :: rest) env = (false, eval e env) :: starEach rest env := by rfl) (hplain : (backTo pos (starEach rest env)).any (·.1) = false := by rfl) :
    wpAny M A (callWith pos (.builtin id) first (backTo pos (starEach (e :: rest) env)) []) Q E s := by
  rw [he] at h ⊢
  exact Calls.callWith_builtin (by show (false || (backTo pos (starEach rest env)).any (·.1)) = false; rw [hplain]; rfl) (Calls.evalArgs_plain h)


local macro_rules | `(tactic| walk_at "eval GeneratorExp") => `(tactic| (refine halt_intro ?_))
theorem c_str {w : World} {mean : ExcName → Option Value} {mg mb : Str → Option Value} {dp un : Nat} {gd : Option (List Code)} {cn : Str} {cs : Scope} {a : Addr} {ccd : Value} {cl : List (Str × Addr)} {outer : List Env} {A₀ : Around} {base h₀ : Heap} {L : Addr} {m : Str → Option Value} {s : Shared} {Q E : Value → Shared → Prop} {x dx : Addr} {its : Array Value} {n k : Nat} {ai bi : Tok} {tups : List (Addr × Obj)} {wds : List Str}
   (B : Below A₀ base outer h₀) (F : Fr h₀ L s.heap m) (X : (_root_.Mine.hk.heap_1 w.params).In h₀) (N : News h₀ L s.heap ((90, tabO #[]) :: (x, lstObj 121 dx its n) :: (dx, dictOf (accD w.params ai bi) k) :: tups)) (T : Top VW LO mean mg mb h₀) (hk : cs.kind = .function)
   (hd : dp + 12 < recursionLimit) (hp : PartsAre its tups wds) (hG : AllBare s.gens) (hw : ∀ y ∈ wds, y.length ≤ 6) (hn : wds.length ≤ 14)
   (hret : ∀ t h' gs' tk' ps', AllBare gs' → TriplesOk ps'.toList → Fr h₀ L h' m → (∀ b o, b ≠ 90 → s.heap.get? b = some o → h'.get? b = some o) → News h₀ L h' [(90, tabO ps')] → Q (.str (Txt.join (Str.ofString "") wds) t) { s with heap := h', gens := gs', toks := tk' }) :
   wpAny (model PR w) (ktrTop dp un gd cn cs L a ccd cl outer) (call (.ref 95) [.ref x]) Q E s := by
  obtain ⟨qs, rfl, rfl, rfl⟩ := hp
  refine wpAny_call ?_
  refine' code_defL ?k1 ?k2 ?k3 ?k4 ?k5 ?kA ?kF ?kK ?k6 ?k7 ?k8 ?k9 ?kB ?_ ?c2 ?c3 ?c4 ?c5
  (case kA => exact rfl); (case kF => exact rfl); (case kK => assumption); (case k1 => k_asm); (case k2 => k_asm); (case k3 => k_asm); (case k4 => k_asm); (case k5 => k_asm); (case k6 => k_is); (case k7 => k_is); (case k8 => ktr_room); (case k9 => exact BindsTo.of_eq rfl); (case kB => exact locs rfl); (case c2 => exact rfl); (case c3 => exact rfl); (case c4 => exact rfl); (case c5 => decide); intro g' L' h' FG' F' N' B' X' T' l1 GS; (try dsimp only); (try k_lift B'); (try k_fold)
  k_steps
  unfold Halt
  have off := tabs_off N'
  have eI : (qs.map fun p => Value.ref p.1).toArray = ((qs.map fun q => ((q.1, Value.str (Str.ofString "") q.2.2.1, Value.str q.2.1 q.2.2.2) : Addr × Value × Value)).map fun p => Value.ref p.1).toArray := by rw [List.map_map]; rfl
  obtain ⟨bm, ob, M⟩ := bmod_of_top T'
  refine gen_L (K := _root_.Mine.hk.heap_1 w.params) (C := 121) (c := 94) (P := 90) (x := x) (dx := dx) (n := n) (ps := qs.map fun q => ((q.1, Value.str (Str.ofString "") q.2.2.1, Value.str q.2.1 q.2.2.2) : Addr × Value × Value)) (Fv := fun j y => ∃ t, y = Value.str ((qs[j]?.map fun q => q.2.1).getD (Str.ofString "")) t)
    F' X' N' (.head _) (by rw [← eI]; exact .tail _ (.head _)) ?_ acc_over (by k_is) (by kernel_rfl) rfl M T'.nolimit hG rfl rfl rfl (by decide) (by rfl) (by rfl) (by rfl) (by decide) rfl (by ktr_room) (fun Q' h => g_local (F'.ns) rfl rfl rfl h) (by intro _; rfl) ?_ ?_
  · intro p hp
    obtain ⟨q, hq, rfl⟩ := List.mem_map.mp hp
    exact .tail _ (.tail _ (.tail _ (List.mem_map.mpr ⟨q, hq, rfl⟩)))
  · intro C' code A' E' i p u m₂ hA hpi hn2 ha hb kp
    rw [List.getElem?_map] at hpi
    obtain ⟨q, hq, rfl⟩ := Option.map_eq_some_iff.mp hpi
    dsimp only at ha hb
    have lq : q.2.1.length ≤ 6 := hw _ (List.mem_map.mpr ⟨q, List.mem_of_getElem? hq, rfl⟩)
    have z0 : (Str.ofString "").length = 0 := by decide
    refine MethodCall_ ?_
    refine g_global kp X' T' rfl rfl rfl (by k_is) ?_
    refine GM.join ?_
    refine callWith_bF ?_
    refine PyProof.Rows.spliced_more ?_
    refine Tuple_ ?_
    refine PyProof.Rows.spliced_more ?_
    refine g_local hn2 rfl rfl ha ?_
    refine PyProof.Rows.spliced_more ?_
    refine g_local hn2 rfl rfl hb ?_
    refine PyProof.Rows.spliced_none ?_
    refine wpAny_newTuple ?_
    refine PyProof.Rows.spliced_none ?_
    refine join_tuple (ys := [Str.ofString "", q.2.1]) ⟨_, Heap.get?_push_size _ rfl, rfl, _, rfl⟩ ?_ ?_ ?_
    · exact .cons _ _ (.cons _ _ .nil)
    · simp only [List.map_cons, List.map_nil, List.sum_cons, List.sum_nil, List.length_cons, List.length_nil, z0]
      omega
    · intro t' k'
      refine ⟨⟨t', congrArg (fun z => Value.str z t') ?_⟩, _, _, rfl, fun b o e => Heap.get?_push_of_some _ e⟩
      rw [hq]
      exact join_blank _
  · intro a5 h5 tk5 gs5 ps5 F5 N5 kp5 hG5 htr5 X5
    have N6 := tabs_on N' N5 off kp5
    clear N5 kp5 N'
    k_steps
    have lq : qs.length ≤ 14 := by simpa using hn
    rw [List.length_map] at X5
    have eT : (List.range qs.length).map (fun j => (qs[j]?.map fun q => q.2.1).getD (Str.ofString "")) = qs.map (fun q => q.2.1) := by
      refine List.ext_getElem (by simp) fun j h1 h2 => ?_
      have h3 : j < qs.length := by simpa using h1
      rw [List.getElem_map, List.getElem_map, List.getElem_range, List.getElem?_eq_getElem h3]
      rfl
    have z0 : (Str.ofString "").length = 0 := by decide
    have sb : ∀ l : List Str, (∀ y ∈ l, y.length ≤ 6) → (l.map (·.length)).sum ≤ 6 * l.length := by
      intro l
      induction l with
      | nil => intro _; exact Nat.le_refl _
      | cons y r ih =>
        intro h
        have b1 := h y (.head _)
        have b2 := ih fun z hz => h z (.tail _ hz)
        simp only [List.map_cons, List.sum_cons, List.length_cons]
        omega
    refine join_gen F5 hG5 X5 (fun j => (qs[j]?.map fun q => q.2.1).getD (Str.ofString "")) (fun j v h => h.2) ?_ (by rw [sizeLine_eq]; omega) ?_
    · rw [eT]
      refine joinOk_of ?_
      have b := sb _ hw
      rw [z0, List.length_map]
      rw [List.length_map] at b
      omega
    · intro h7 gs7 tk7 t7 F7 hG7 kp7
      rw [eT]
      have N7 : News g' L' h7 ((90, tabO ps5) :: (x, lstObj 121 dx (qs.map fun p => Value.ref p.1).toArray n) :: (dx, dictOf (accD w.params ai bi) k) :: qs.map (fun p => (p.1, pairO (Str.ofString "") p.2.1 p.2.2.1 p.2.2.2))) := fun p hp => by
        refine ⟨kp7 _ _ ?_ (N6 p hp).1, (N6 p hp).2⟩
        rcases List.mem_cons.mp hp with rfl | hp'
        · exact Nat.le_of_lt (l1 (90, tabO #[]) (.head _))
        · exact Nat.le_of_lt (l1 p (.tail _ hp'))
      clear N6 kp7 X5
      k_steps
      rename_i kF kN Tc kX
      refine hret _ _ _ _ ps5 hG7 htr5 kF ?_ (news_one kN (.head _))
      exact stoodX GS N F7 N7 (List.forall_mem_cons.mpr ⟨.inr rfl, fun p hp => .inl (.tail _ hp)⟩)
end
-- part Pla
section

/-- the digits of a word, as code points -/
def codeN (n c : Nat) : List Nat := (List.range c).map (fun i => 48 + n / 2 ^ (c - 1 - i) % 2)
def wordT (x : Int) (c : Nat) : Str := Txt.join (Str.ofString "") ((List.range c).map (fun i : Nat => Str.ofString (toString ((x.fdiv (2 ^ ((c : Int) - 1 + (i : Int) * (-1)).toNat)).fmod 2))))
theorem wordT_is : ∀ c < 7, ∀ n < 2 ^ c, (wordT (n : Nat) c).cps.toList = codeN n c := by decide +kernel
theorem word_code {k : Int} {c : Nat} (h0 : 1 ≤ k) (h1 : k < 64) (hc : c ≤ 6) : (wordS k c).cps.toList = codeN (k.toNat * 2 ^ c / 64) c := by
  have h := (left_is c (by omega) k.toNat (by omega) (by omega)).2
  rw [show ((k.toNat : Nat) : Int) = k by omega] at h
  have e : wordS k c = wordT (leftS k c) c := rfl
  rw [e, h]
  refine wordT_is c (by omega) _ ?_
  have hp : 0 < 2 ^ c := Nat.pow_pos (by decide)
  have hm : k.toNat * 2 ^ c ≤ 63 * 2 ^ c := Nat.mul_le_mul_right _ (by omega)
  rw [Nat.div_lt_iff_lt_mul (by decide)]
  generalize 2 ^ c = y at *
  omega
def chk (c1 n1 c2 n2 : Nat) : Bool := !(Nat.ble ((n1 + 1) * 2 ^ (6 - c1)) (n2 * 2 ^ (6 - c2))) || (decide (codeN n1 c1 < codeN n2 c2) && !(codeN n1 c1).isPrefixOf (codeN n2 c2) && !(codeN n2 c2).isPrefixOf (codeN n1 c1))
theorem chk_0 : ∀ n1 < 2 ^ 0, ∀ c2 < 7, ∀ n2 < 2 ^ c2, chk 0 n1 c2 n2 = true := by decide +kernel
theorem chk_1 : ∀ n1 < 2 ^ 1, ∀ c2 < 7, ∀ n2 < 2 ^ c2, chk 1 n1 c2 n2 = true := by decide +kernel
theorem chk_2 : ∀ n1 < 2 ^ 2, ∀ c2 < 7, ∀ n2 < 2 ^ c2, chk 2 n1 c2 n2 = true := by decide +kernel
theorem chk_3 : ∀ n1 < 2 ^ 3, ∀ c2 < 7, ∀ n2 < 2 ^ c2, chk 3 n1 c2 n2 = true := by decide +kernel
theorem chk_4 : ∀ n1 < 2 ^ 4, ∀ c2 < 7, ∀ n2 < 2 ^ c2, chk 4 n1 c2 n2 = true := by decide +kernel
theorem chk_5 : ∀ n1 < 2 ^ 5, ∀ c2 < 7, ∀ n2 < 2 ^ c2, chk 5 n1 c2 n2 = true := by decide +kernel
theorem chk_6 : ∀ n1 < 2 ^ 6, ∀ c2 < 7, ∀ n2 < 2 ^ c2, chk 6 n1 c2 n2 = true := by decide +kernel
theorem chk_all : ∀ c1 < 7, ∀ n1 < 2 ^ c1, ∀ c2 < 7, ∀ n2 < 2 ^ c2, chk c1 n1 c2 n2 = true := by
  intro a ha
  rcases (show a = 0 ∨ a = 1 ∨ a = 2 ∨ a = 3 ∨ a = 4 ∨ a = 5 ∨ a = 6 by omega) with rfl | rfl | rfl | rfl | rfl | rfl | rfl
  · exact chk_0
  · exact chk_1
  · exact chk_2
  · exact chk_3
  · exact chk_4
  · exact chk_5
  · exact chk_6
theorem pw64 : ∀ c < 7, 2 ^ c * 2 ^ (6 - c) = 64 := by decide
theorem lenW_pw {s : Int} (h : 1 ≤ s) : ((2 ^ (6 - lenW s) : Nat) : Int) ≤ s := by
  unfold lenW
  (repeat' split) <;> simp only [Nat.reducePow, Nat.reduceSub] <;> omega
theorem less_shift {k c : Nat} (h : c ≤ 6) : k * 2 ^ c / 64 = k / 2 ^ (6 - c) := by
  rw [← pw64 c (Nat.lt_succ_of_le h), Nat.mul_comm (2 ^ c) (2 ^ (6 - c))]
  exact Nat.mul_div_mul_right _ _ (Nat.pow_pos (by decide))
theorem words_apart {k1 k2 s1 s2 : Int} (a1 : 1 ≤ s1) (a2 : 1 ≤ s2) (b1 : 1 ≤ k1) (b3 : 1 ≤ k2) (h : k1 + s1 + s2 ≤ k2) :
    (k1.toNat * 2 ^ lenW s1 / 64 + 1) * 2 ^ (6 - lenW s1) ≤ k2.toNat * 2 ^ lenW s2 / 64 * 2 ^ (6 - lenW s2) := by
  rw [less_shift (lenW_fit s1).2, less_shift (lenW_fit s2).2, Nat.add_mul, Nat.one_mul]
  have w1 := lenW_pw a1
  have w2 := lenW_pw a2
  have x1 : k1.toNat / 2 ^ (6 - lenW s1) * 2 ^ (6 - lenW s1) ≤ k1.toNat := Nat.div_mul_le_self _ _
  have x2 : k2.toNat < k2.toNat / 2 ^ (6 - lenW s2) * 2 ^ (6 - lenW s2) + 2 ^ (6 - lenW s2) := Nat.lt_div_mul_add (Nat.pow_pos (by decide))
  generalize k1.toNat / 2 ^ (6 - lenW s1) * 2 ^ (6 - lenW s1) = y1 at *
  generalize k2.toNat / 2 ^ (6 - lenW s2) * 2 ^ (6 - lenW s2) = y2 at *
  generalize 2 ^ (6 - lenW s1) = q1 at *
  generalize 2 ^ (6 - lenW s2) = q2 at *
  omega
theorem ord_pair {k1 k2 s1 s2 : Int} (a1 : 1 ≤ s1) (a2 : 1 ≤ s2) (b1 : 1 ≤ k1) (b2 : k2 < 64) (h : k1 + s1 + s2 ≤ k2) :
    decide ((wordS k1 (lenW s1)).cps.toList < (wordS k2 (lenW s2)).cps.toList) = true ∧ Txt.startswith (wordS k2 (lenW s2)) (wordS k1 (lenW s1)) = false ∧ Txt.startswith (wordS k1 (lenW s1)) (wordS k2 (lenW s2)) = false := by
  have l1 := lenW_fit s1
  have l2 := lenW_fit s2
  have hx := words_apart a1 a2 b1 (by omega) h
  have e1 := word_code (k := k1) (c := lenW s1) b1 (by omega) l1.2
  have e2 := word_code (k := k2) (c := lenW s2) (by omega) b2 l2.2
  have lt : ∀ (k : Int) (c : Nat), k < 64 → c ≤ 6 → k.toNat * 2 ^ c / 64 < 2 ^ c := by
    intro k c hk _
    have hp : 0 < 2 ^ c := Nat.pow_pos (by decide)
    have hm : k.toNat * 2 ^ c ≤ 63 * 2 ^ c := Nat.mul_le_mul_right _ (by omega)
    rw [Nat.div_lt_iff_lt_mul (by decide)]
    generalize 2 ^ c = y at *
    omega
  have z := chk_all (lenW s1) (by omega) _ (lt k1 _ (by omega) l1.2) (lenW s2) (by omega) _ (lt k2 _ b2 l2.2)
  unfold chk at z
  rw [Nat.ble_eq_true_of_le hx] at z
  simp only [Bool.not_true, Bool.false_or, Bool.and_eq_true] at z
  obtain ⟨⟨z1, z2⟩, z3⟩ := z
  have pf : ∀ x y : Str, (!(List.isPrefixOf y.cps.toList x.cps.toList)) = true → Txt.startswith x y = false := by
    intro x y h
    rw [Bool.eq_false_iff]
    intro q
    have := (sw_iff x y).mp q
    rw [List.isPrefixOf_iff_prefix.mpr this] at h
    cases h
  refine ⟨?_, pf _ _ ?_, pf _ _ ?_⟩
  · rw [e1, e2]; exact z1
  · rw [e1, e2]; exact z2
  · rw [e1, e2]; exact z3
theorem word_len {k s : Int} (b1 : 1 ≤ k) (b2 : k < 64) : (wordS k (lenW s)).length = lenW s := by
  have e : (wordS k (lenW s)).cps.toList.length = (wordS k (lenW s)).length := Array.length_toList
  rw [← e, word_code b1 b2 (lenW_fit s).2]
  simp [codeN]
def mi (x y : Int) : Int := if x ≤ y then x else y
def m2 (a b : Int) : Int := (0 + 0) + (a + (b + 0))
def m3 (a b c : Int) : Int := mi (0 + m2 b c) (m2 a b + 0) + (a + (b + (c + 0)))
def m4 (a b c d : Int) : Int := mi (0 + m3 b c d) (mi (m2 a b + m2 c d) (m3 a b c + 0)) + (a + (b + (c + (d + 0))))
def m5 (a b c d e : Int) : Int := mi (0 + m4 b c d e) (mi (m2 a b + m3 c d e) (mi (m3 a b c + m2 d e) (m4 a b c d + 0))) + (a + (b + (c + (d + (e + 0)))))
theorem cst_m5 (a b c d e : Int) : cst [a, b, c, d, e] 5 5 0 = m5 a b c d e := by kernel_rfl
def costI (a b c d e : Int) : Int := a * lenW a + b * lenW b + c * lenW c + d * lenW d + e * lenW e
def okc (a b c d e : Int) : Bool := (decide (m5 a b c d e ≤ costI a b c d e) && decide (costI a b c d e < joinF 5 0 (isort [a, b, c, d, e]) + 64)) && (decide (1 ≤ a) && (decide (1 ≤ b) && (decide (1 ≤ c) && (decide (1 ≤ d) && (decide (1 ≤ e) && decide (a + b + c + d + e = 32))))))
theorem okc_is {a b c d e : Int} (h : okc a b c d e = true) : (m5 a b c d e ≤ costI a b c d e ∧ costI a b c d e < joinF 5 0 (isort [a, b, c, d, e]) + 64) ∧ 1 ≤ a ∧ 1 ≤ b ∧ 1 ≤ c ∧ 1 ≤ d ∧ 1 ≤ e ∧ a + b + c + d + e = 32 := by
  unfold okc at h
  simpa only [Bool.and_eq_true, decide_eq_true_eq] using h
theorem five_inj {a0 a1 a2 a3 a4 b0 b1 b2 b3 b4 : Int} (e : [a0, a1, a2, a3, a4] = [b0, b1, b2, b3, b4]) : a0 = b0 ∧ a1 = b1 ∧ a2 = b2 ∧ a3 = b3 ∧ a4 = b4 := by simpa using e
def cs5 (a b c d : Nat) : Bool :=
  let A : Int := a + 1; let B : Int := b + 1; let C : Int := c + 1; let D : Int := d + 1
  let e := 32 - (A + B + C + D)
  match (a + 1 + 2 * (b + 1)) % 5 with
  | 0 => okc e A B C D
  | 1 => okc A e B C D
  | 2 => okc A B e C D
  | 3 => okc A B C e D
  | _ => okc A B C D e
theorem cs5_0 : ∀ b < 7, ∀ c < 7, ∀ d < 7, cs5 0 b c d = true := by decide +kernel
theorem cs5_1 : ∀ b < 7, ∀ c < 7, ∀ d < 7, cs5 1 b c d = true := by decide +kernel
theorem cs5_2 : ∀ b < 7, ∀ c < 7, ∀ d < 7, cs5 2 b c d = true := by decide +kernel
theorem cs5_3 : ∀ b < 7, ∀ c < 7, ∀ d < 7, cs5 3 b c d = true := by decide +kernel
theorem cs5_4 : ∀ b < 7, ∀ c < 7, ∀ d < 7, cs5 4 b c d = true := by decide +kernel
theorem cs5_5 : ∀ b < 7, ∀ c < 7, ∀ d < 7, cs5 5 b c d = true := by decide +kernel
theorem cs5_6 : ∀ b < 7, ∀ c < 7, ∀ d < 7, cs5 6 b c d = true := by decide +kernel
theorem cs5_all : ∀ a < 7, ∀ b < 7, ∀ c < 7, ∀ d < 7, cs5 a b c d = true := by
  intro a ha
  rcases (show a = 0 ∨ a = 1 ∨ a = 2 ∨ a = 3 ∨ a = 4 ∨ a = 5 ∨ a = 6 by omega) with rfl | rfl | rfl | rfl | rfl | rfl | rfl
  · exact cs5_0
  · exact cs5_1
  · exact cs5_2
  · exact cs5_3
  · exact cs5_4
  · exact cs5_5
  · exact cs5_6
theorem sh_both {s0 s1 s2 s3 s4 : Int} (h : ShOk [s0, s1, s2, s3, s4]) : (m5 s0 s1 s2 s3 s4 ≤ costI s0 s1 s2 s3 s4 ∧ costI s0 s1 s2 s3 s4 < joinF 5 0 (isort [s0, s1, s2, s3, s4]) + 64) ∧ 1 ≤ s0 ∧ 1 ≤ s1 ∧ 1 ≤ s2 ∧ 1 ≤ s3 ∧ 1 ≤ s4 ∧ s0 + s1 + s2 + s3 + s4 = 32 := by
  obtain ⟨a, b, c, d, ha, hb, hc, hd, e⟩ := h
  have z := cs5_all a.toNat (by omega) b.toNat (by omega) c.toNat (by omega) d.toNat (by omega)
  have ht : ((a + 1 + 2 * (b + 1)).fmod 5).toNat = (a.toNat + 1 + 2 * (b.toNat + 1)) % 5 := by rw [Int.fmod_eq_emod_of_nonneg _ (by decide)]; omega
  rw [ht] at e
  unfold cs5 at z
  rw [Int.toNat_of_nonneg ha.1, Int.toNat_of_nonneg hb.1, Int.toNat_of_nonneg hc.1, Int.toNat_of_nonneg hd.1] at z
  have h5 : (a.toNat + 1 + 2 * (b.toNat + 1)) % 5 < 5 := Nat.mod_lt _ (by decide)
  generalize (a.toNat + 1 + 2 * (b.toNat + 1)) % 5 = t at e h5 z
  rw [show 32 - (a + 1 + (b + 1 + (c + 1 + (d + 1 + 0)))) = 32 - (a + 1 + (b + 1) + (c + 1) + (d + 1)) by omega] at e
  clear ht ha hb hc hd
  rcases (show t = 0 ∨ t = 1 ∨ t = 2 ∨ t = 3 ∨ t = 4 by omega) with rfl | rfl | rfl | rfl | rfl
  all_goals
    obtain ⟨rfl, rfl, rfl, rfl, rfl⟩ := five_inj e
    exact okc_is z
theorem sh_cost {s0 s1 s2 s3 s4 : Int} (h : ShOk [s0, s1, s2, s3, s4]) : cst [s0, s1, s2, s3, s4] 5 5 0 ≤ costI s0 s1 s2 s3 s4 ∧ costI s0 s1 s2 s3 s4 < joinF 5 0 (isort [s0, s1, s2, s3, s4]) + 64 := by
  rw [cst_m5]
  exact (sh_both h).1
theorem sh_pos {s0 s1 s2 s3 s4 : Int} (h : ShOk [s0, s1, s2, s3, s4]) : 1 ≤ s0 ∧ 1 ≤ s1 ∧ 1 ≤ s2 ∧ 1 ≤ s3 ∧ 1 ≤ s4 ∧ s0 + s1 + s2 + s3 + s4 = 32 := (sh_both h).2
/-- the figures lie between the ends -/
theorem fig_in {s0 s1 s2 s3 s4 : Int} (h : 1 ≤ s0 ∧ 1 ≤ s1 ∧ 1 ≤ s2 ∧ 1 ≤ s3 ∧ 1 ≤ s4 ∧ s0 + s1 + s2 + s3 + s4 = 32) : (1 ≤ figS [s0, s1, s2, s3, s4] 0 ∧ figS [s0, s1, s2, s3, s4] 0 < 64) ∧ (1 ≤ figS [s0, s1, s2, s3, s4] 1 ∧ figS [s0, s1, s2, s3, s4] 1 < 64) ∧ (1 ≤ figS [s0, s1, s2, s3, s4] 2 ∧ figS [s0, s1, s2, s3, s4] 2 < 64) ∧ (1 ≤ figS [s0, s1, s2, s3, s4] 3 ∧ figS [s0, s1, s2, s3, s4] 3 < 64) ∧ (1 ≤ figS [s0, s1, s2, s3, s4] 4 ∧ figS [s0, s1, s2, s3, s4] 4 < 64) := by
  show (1 ≤ 2 * 0 + s0 ∧ 2 * 0 + s0 < 64) ∧ (1 ≤ 2 * (s0 + 0) + s1 ∧ 2 * (s0 + 0) + s1 < 64) ∧ (1 ≤ 2 * (s0 + (s1 + 0)) + s2 ∧ 2 * (s0 + (s1 + 0)) + s2 < 64) ∧ (1 ≤ 2 * (s0 + (s1 + (s2 + 0))) + s3 ∧ 2 * (s0 + (s1 + (s2 + 0))) + s3 < 64) ∧ (1 ≤ 2 * (s0 + (s1 + (s2 + (s3 + 0)))) + s4 ∧ 2 * (s0 + (s1 + (s2 + (s3 + 0)))) + s4 < 64)
  omega
abbrev WDS (S : List Int) : List Str := [wordF S 0, wordF S 1, wordF S 2, wordF S 3, wordF S 4]
theorem sh_ord {s0 s1 s2 s3 s4 : Int} (h : ShOk [s0, s1, s2, s3, s4]) : OrdOk (WDS [s0, s1, s2, s3, s4]) := by
  obtain ⟨b0, b1, b2, b3, b4⟩ := fig_in (sh_pos h)
  obtain ⟨p0, p1, p2, p3, p4, ps⟩ := sh_pos h
  refine ⟨rfl, fun j k hjk hk => ?_, ?_⟩
  · have hk' : k = 1 ∨ k = 2 ∨ k = 3 ∨ k = 4 := by omega
    have hj' : j = 0 ∨ j = 1 ∨ j = 2 ∨ j = 3 := by omega
    have h01 : 2 * 0 + s0 + s0 + s1 ≤ 2 * (s0 + 0) + s1 := by omega
    have h02 : 2 * 0 + s0 + s0 + s2 ≤ 2 * (s0 + (s1 + 0)) + s2 := by omega
    have h12 : 2 * (s0 + 0) + s1 + s1 + s2 ≤ 2 * (s0 + (s1 + 0)) + s2 := by omega
    have h03 : 2 * 0 + s0 + s0 + s3 ≤ 2 * (s0 + (s1 + (s2 + 0))) + s3 := by omega
    have h13 : 2 * (s0 + 0) + s1 + s1 + s3 ≤ 2 * (s0 + (s1 + (s2 + 0))) + s3 := by omega
    have h23 : 2 * (s0 + (s1 + 0)) + s2 + s2 + s3 ≤ 2 * (s0 + (s1 + (s2 + 0))) + s3 := by omega
    have h04 : 2 * 0 + s0 + s0 + s4 ≤ 2 * (s0 + (s1 + (s2 + (s3 + 0)))) + s4 := by omega
    have h14 : 2 * (s0 + 0) + s1 + s1 + s4 ≤ 2 * (s0 + (s1 + (s2 + (s3 + 0)))) + s4 := by omega
    have h24 : 2 * (s0 + (s1 + 0)) + s2 + s2 + s4 ≤ 2 * (s0 + (s1 + (s2 + (s3 + 0)))) + s4 := by omega
    have h34 : 2 * (s0 + (s1 + (s2 + 0))) + s3 + s3 + s4 ≤ 2 * (s0 + (s1 + (s2 + (s3 + 0)))) + s4 := by omega
    rcases hk' with rfl | rfl | rfl | rfl <;> rcases hj' with rfl | rfl | rfl | rfl
    · exact ord_pair (s1 := s0) (s2 := s1) p0 p1 b0.1 b1.2 h01
    · exact absurd hjk (by decide)
    · exact absurd hjk (by decide)
    · exact absurd hjk (by decide)
    · exact ord_pair (s1 := s0) (s2 := s2) p0 p2 b0.1 b2.2 h02
    · exact ord_pair (s1 := s1) (s2 := s2) p1 p2 b1.1 b2.2 h12
    · exact absurd hjk (by decide)
    · exact absurd hjk (by decide)
    · exact ord_pair (s1 := s0) (s2 := s3) p0 p3 b0.1 b3.2 h03
    · exact ord_pair (s1 := s1) (s2 := s3) p1 p3 b1.1 b3.2 h13
    · exact ord_pair (s1 := s2) (s2 := s3) p2 p3 b2.1 b3.2 h23
    · exact absurd hjk (by decide)
    · exact ord_pair (s1 := s0) (s2 := s4) p0 p4 b0.1 b4.2 h04
    · exact ord_pair (s1 := s1) (s2 := s4) p1 p4 b1.1 b4.2 h14
    · exact ord_pair (s1 := s2) (s2 := s4) p2 p4 b2.1 b4.2 h24
    · exact ord_pair (s1 := s3) (s2 := s4) p3 p4 b3.1 b4.2 h34
  · have ne : ∀ k s : Int, 1 ≤ k ∧ k < 64 → (wordS k (lenW s) == Str.ofString "") = false := by
      intro k s b1
      rw [beq_eq_false_iff_ne]
      intro q
      have l : (wordS k (lenW s)).length = 0 := by rw [q]; decide +kernel
      rw [word_len b1.1 b1.2] at l
      have := (lenW_fit s).1
      omega
    show ((_ == _) || ((_ == _) || ((_ == _) || ((_ == _) || ((_ == _) || false))))) = false
    exact Bool.or_eq_false_iff.mpr ⟨ne _ s0 b0, Bool.or_eq_false_iff.mpr ⟨ne _ s1 b1, Bool.or_eq_false_iff.mpr ⟨ne _ s2 b2, Bool.or_eq_false_iff.mpr ⟨ne _ s3 b3, Bool.or_eq_false_iff.mpr ⟨ne _ s4 b4, rfl⟩⟩⟩⟩⟩
theorem sh_len {s0 s1 s2 s3 s4 : Int} (h : ShOk [s0, s1, s2, s3, s4]) : (wordF [s0, s1, s2, s3, s4] 0).length = lenW s0 ∧ (wordF [s0, s1, s2, s3, s4] 1).length = lenW s1 ∧ (wordF [s0, s1, s2, s3, s4] 2).length = lenW s2 ∧ (wordF [s0, s1, s2, s3, s4] 3).length = lenW s3 ∧ (wordF [s0, s1, s2, s3, s4] 4).length = lenW s4 := by
  obtain ⟨b0, b1, b2, b3, b4⟩ := fig_in (sh_pos h)
  exact ⟨word_len b0.1 b0.2, word_len b1.1 b1.2, word_len b2.1 b2.2, word_len b3.1 b3.2, word_len b4.1 b4.2⟩
/-- the letters' words, one behind the other -/
theorem join_cons (x : Str) (r : List Str) : Txt.join (Str.ofString "") (x :: r) = x ++ Txt.join (Str.ofString "") r := by
  have e0 : (Str.ofString "").cps = #[] := by decide
  have z : ∀ x : Str, x ++ Str.ofString "" = x := by
    intro x
    show (⟨x.cps ++ (Str.ofString "").cps⟩ : Str) = x
    rw [e0, Array.append_empty]
  show Builtin.Str.glued (Str.ofString "") (x :: r) = x ++ Builtin.Str.glued (Str.ofString "") r
  rw [StrLaws.glued_eq_join, StrLaws.glued_eq_join]
  cases r with
  | nil => exact (z x).symm
  | cons y r =>
    show (x ++ Str.ofString "") ++ _ = _
    rw [z]
theorem join_cat {S : List Int} : ∀ {ls : List Int}, (∀ x ∈ ls, 0 ≤ x ∧ x < 5) → Txt.join (Str.ofString "") (ls.map (wordF S)) = catW (WDS S) ls := by
  intro ls
  induction ls with
  | nil => intro _; rfl
  | cons x r ih =>
    intro h
    rw [List.map_cons, join_cons, ih fun y hy => h y (.tail _ hy)]
    obtain ⟨h0, h1⟩ := h x (.head _)
    have e : (WDS S).getD x.toNat Str.empty = wordF S x := by
      rcases (show x = 0 ∨ x = 1 ∨ x = 2 ∨ x = 3 ∨ x = 4 by omega) with rfl | rfl | rfl | rfl | rfl <;> rfl
    show _ = (WDS S).getD x.toNat Str.empty ++ _
    rw [e]
end
-- part Gho
section
abbrev TBS : List (Addr × Addr) := [(87, 83), (94, 90)]
def tabsApart (K : Frag) (p : Program) : Bool := (recsOf p).all fun d => match tabIn K d.name with
  | some (_, P) => P != 83 && P != 90
  | none => false
section
variable {h₁ h : Heap} {L : Addr} {m mg mb : Str → Option Value} {news : List (Addr × Obj)} {K : Frag} {p : Program} {loose : List Str} {mean : ExcName → Option Value}
theorem tab_is {d : DefRec} {c P c₁ P₁ a : Addr} {o : Obj} {fd : FuncData} (G : h.Ns mainGlobals mg) (X : K.In h) (ht : tabIn K d.name = some (c, P)) (h1 : mg d.name = some (.ref a)) (h2 : h.get? a = some o) (h3 : o.data = .func fd) (h4 : fd.code = .ref c₁) (h6 : h.TableAt c₁ P₁ #[]) : P₁ = P := by
  unfold tabIn at ht
  split at ht
  · rename_i f hf
    have e1 := mg_of X G hf
    rw [e1] at h1
    cases h1
    split at ht
    · rename_i hfo
      have e2 := X _ _ hfo
      rw [h2] at e2
      cases e2
      cases h3
      split at ht
      · rename_i c₂ hc
        rw [h4] at hc
        cases hc
        split at ht
        · rename_i hco
          have e3 := X _ _ hco
          obtain ⟨⟨oc, vs, g1, g2, g3, g4⟩, g5⟩ := h6
          rw [e3] at g1
          cases g1
          cases g3
          split at ht
          · rename_i P₂ hv
            rw [g4] at hv
            cases hv
            cases ht
            rfl
          · cases ht
        · cases ht
      · cases ht
    · cases ht
  · cases ht
theorem ghost_seer (hT : TabsAt TBS h₁) (x : h₁.NoSeer) : (ghostOf h₁ TBS).NoSeer where
  statics := let ⟨mc, a, b⟩ := x.statics; ⟨mc, ghost_ns hT a, b⟩
  mods := let ⟨mc, a, b⟩ := x.mods; ⟨mc, ghost_ns hT a, b⟩
  imp := let ⟨mc, a, b⟩ := x.imp; ⟨mc, ghost_ns hT a, b⟩
  main := let ⟨mg, bm, ob, a, b, c, d, e⟩ := x.main; ⟨mg, bm, ob, ghost_ns hT a, b, ghost_get hT c (fun q => by rw [q] at d; cases d), d, e⟩
theorem ghost_rec {cd : Value} {q : Str} (hT : TabsAt TBS h₁) (x : h₁.CodeRec cd q) : (ghostOf h₁ TBS).CodeRec cd q := by
  obtain ⟨c, o, vs, t, e, e1, e2, e3⟩ := x
  exact ⟨c, o, vs, t, e, ghost_get hT e1 (fun z => by rw [z] at e2; cases e2; simp at e3), e2, e3⟩
theorem ghost_isCode {c P : Addr} (hT : TabsAt TBS h₁) (hP : P ∉ TBS.map (·.2)) (x : h₁.IsCode c P #[]) : (ghostOf h₁ TBS).IsCode c P #[] := by
  obtain ⟨o, vs, file, tf, flags, tg, inF, text, tt, op, a, r1, r2, r3, r4, r5, r6, b, r⟩ := x
  exact ⟨o, vs, file, tf, flags, tg, inF, text, tt, op, ghost_get hT a (fun z => by rw [z] at r1; cases r1; simp at r2), r1, r2, r3, r4, r5, r6, ghost_ne b hP, r⟩
theorem ghost_tableAt {c P : Addr} (hT : TabsAt TBS h₁) (hP : P ∉ TBS.map (·.2)) (x : h₁.TableAt c P #[]) : (ghostOf h₁ TBS).TableAt c P #[] := by
  obtain ⟨⟨o, vs, a, r1, r2, r3⟩, b⟩ := x
  exact ⟨⟨o, vs, ghost_get hT a (fun z => by rw [z] at r1; cases r1), r1, r2, r3⟩, ghost_ne b hP⟩
theorem ghost_topX (hT : TabsAt TBS h₁) (T : Top p loose mean mg mb h₁) (X : K.In h₁) (e : tabsApart K p = true) (ho : ownsOf p = []) : Top p loose mean mg mb (ghostOf h₁ TBS) where
  g := ghost_ns hT T.g
  b := ghost_ns hT T.b
  nolimit := let ⟨mc, a, r⟩ := T.nolimit; ⟨mc, ghost_ns hT a, r⟩
  nodigits := let ⟨mc, a, r⟩ := T.nodigits; ⟨mc, ghost_ns hT a, r⟩
  fn := fun d hd => let ⟨a, o, pm, code, doc, h1, h2, h3, h4⟩ := T.fn d hd
    ⟨a, o, pm, code, doc, h1, ghost_get hT h2 (fun z => by rw [z] at h3; cases h3), h3, ghost_rec hT h4⟩
  own := fun o h => by rw [ho] at h; cases h
  const := T.const
  free := T.free
  builtins := T.builtins
  tab := fun d hd => by
    obtain ⟨a, o, fd, c, P, h1, h2, h3, h4, h5, h6⟩ := T.tab d hd
    have z := List.all_eq_true.mp e d hd
    cases ht : tabIn K d.name with
    | none => rw [ht] at z; cases z
    | some q =>
      obtain ⟨c', P'⟩ := q
      rw [ht] at z
      have z : (P' != 83 && P' != 90) = true := z
      have e1 := tab_is T.g X ht h1 h2 h3 h4 h6
      subst e1
      have hP : P ∉ TBS.map (·.2) := fun hm => by
        rcases List.mem_cons.mp hm with q | hm
        · rw [q] at z; cases z
        · rcases List.mem_cons.mp hm with q | hm
          · rw [q] at z; cases z
          · cases hm
      exact ⟨a, o, fd, c, P, h1, ghost_get hT h2 (fun y => by rw [y] at h3; cases h3), h3, h4, ghost_isCode hT hP h5, ghost_tableAt hT hP h6⟩
  bmain := let ⟨bm, ob, a1, a2, a3, a4, r⟩ := T.bmain; ⟨bm, ob, a1, a2, ghost_get hT a3 (fun q => by rw [q] at a4; cases a4), a4, r⟩
  seer := fun e => ghost_seer hT (T.seer e)
end

theorem tbs_ok {P : Params} {h : Heap} (X : (_root_.Mine.hk.heap_1 P).In h) (k : ∀ Q ∈ [83, 90], h.get? Q = some (tabObj #[])) : TabsAt TBS h :=
  List.forall_mem_cons.mpr ⟨⟨codeHd_of_K (c := 87) (P := 83) X (by kernel_rfl), k 83 (.head _)⟩, List.forall_mem_cons.mpr ⟨⟨codeHd_of_K (c := 94) (P := 90) X (by kernel_rfl), k 90 (.tail _ (.head _))⟩, fun _ h => nomatch h⟩⟩
theorem ghost_TOP {P : Params} {h : Heap} {mean : ExcName → Option Value} {mg mb : Str → Option Value} (hT : TabsAt TBS h) (X : (_root_.Mine.hk.heap_1 P).In h) (T : Top VW LO mean mg mb h) : Top VW LO mean mg mb (ghostOf h TBS) :=
  ghost_topX hT T X (by kernel_rfl) (by kernel_rfl)
theorem ghost_X {P : Params} {h : Heap} (hT : TabsAt TBS h) (X : (_root_.Mine.hk.heap_1 P).In h) : (_root_.Mine.hk.heap_1 P).In (ghostOf h TBS) := ghost_K hT X (by kernel_rfl)

/-- what the law's end shows -/
def LawEnd (h : Heap) (os : OsState) (r : Result) (s' : Shared) : Prop :=
  r = .ok (.ret (.bool true)) ∧ (∀ b o, (ghostOf h TBS).get? b = some o → s'.heap.get? b = some o) ∧ (∃ ps, s'.heap.get? 83 = some (tabObj ps)) ∧ (∃ ps, s'.heap.get? 90 = some (tabObj ps)) ∧ s'.os = os ∧ AllBare s'.gens
theorem law_post {cw : ClaimW} {cl : Str → Option Addr} {mean : ExcName → Option Value} {args : List WData} {s₁ s' : Shared} {r : Result} (hT : TabsAt TBS s₁.heap) (hr : ∀ cls, cw.raises args cls = false) (hp : cw.post args (.bool true) args = true)
    (g : LawEnd s₁.heap s₁.os r s') : GoodWG cw cl mean args s₁ r s' := by
  obtain ⟨rfl, k, g1, g2, hos, hg⟩ := g
  have grown : ∀ b o, b ∈ TBS.map (·.2) → s₁.heap.get? b = some o → isCodeTable s₁.heap b ∧ o = tabObj #[] ∧ ∃ ps, s'.heap.get? b = some (tabObj ps) := fun b o hb e => by
    obtain ⟨q, hq, rfl⟩ := List.mem_map.mp hb
    have e2 := (hT q hq).2
    rw [e] at e2
    refine ⟨((hT q hq).1.tab (hT q hq).2).isCodeTable, Option.some.inj e2, ?_⟩
    rcases List.mem_cons.mp hq with rfl | hq
    · exact g1
    · rcases List.mem_cons.mp hq with rfl | hq
      · exact g2
      · cases hq
  refine ⟨.inl ⟨_, _, [], rfl, hr, ReadsW.bool true, hp, fun _ => ⟨List.nodup_nil, fun _ hm => (nomatch hm)⟩⟩, ⟨fun b o e => ?_, fun b o e => ?_⟩, hos, hg⟩
  · by_cases hb : b ∈ TBS.map (·.2)
    · obtain ⟨ht, rfl, ps, hP⟩ := grown b o hb e
      exact .inr (.inl ⟨ht, rfl, #[], ps, rfl, by rw [Array.empty_append]; exact hP⟩)
    · exact .inl (k _ _ (ghost_ne e hb))
  · by_cases hb : b ∈ TBS.map (·.2)
    · obtain ⟨_, _, ps, hP⟩ := grown b o hb e
      exact ⟨_, hP⟩
    · exact ⟨o, k _ _ (ghost_ne e hb)⟩
end
-- part Lah
section

section
open PyProof.Rows.LCg PyProof.Rows.LCp
variable {prog : Program} {w : World} {A : Around} {s : Shared} {h₀ : Heap} {L : Addr} {m : Str → Option Value} {env : Env}
/-- a list comprehension whose target is a pair, by what holds of the list so far -/
theorem compP_ind {elt : PySem.Expr} {x x₂ : Str} {scope : Scope} {cl : List (Str × Addr)} {S : List (Addr × Obj) → Prop} {P : Nat → Value → Prop} {Fin : List Value → List (Addr × Obj) → Prop} {news : List (Addr × Obj)} {n : Nat} (J : Nat → List Value → Prop)
    (turn : ∀ i ys, i < n → J i ys → ∀ v, P i v → ∃ (t : Addr) (ot : Obj) (v₁ v₂ : Value) (nt : Nat), v = .ref t ∧ (t, ot) ∈ news ∧ ot.cls = .type "tuple" ∧ ot.data = .seq #[v₁, v₂] nt ∧
      ∀ I oI C oC D m₂ h tk (E' : Value → Shared → Prop), NsObj oC m₂ → m₂ x = some v₁ → m₂ x₂ = some v₂ → Fr h₀ L h m → News h₀ L h ((I, oI) :: (C, oC) :: (D, lst ys) :: news) → Off3 I C D news → ((@Ne Nat I C) ∧ (@Ne Nat I D) ∧ (@Ne Nat C D)) →
      wpAny (model prog w) A (eval elt (compEnvC scope cl C env)) (CompEnd h₀ L m { s with heap := h, toks := tk } I oI C oC D (lst ys) S (fun y news' => news' = news ∧ J (i + 1) (ys ++ [y]))) E' { s with heap := h, toks := tk })
    (fin : ∀ ys, J n ys → Fin ys news) : ∀ k i ys, i + k = n → J i ys → CompRestP prog w A h₀ L m env elt x x₂ scope cl s S P Fin k i ys news := by
  intro k
  induction k with
  | zero => intro i ys e hJ; exact CompRestP.zero (fin ys (by rw [← e]; exact hJ))
  | succ k ih =>
    intro i ys e hJ
    refine CompRestP.succ ?_
    intro v hv
    obtain ⟨t, ot, v₁, v₂, nt, e1, e2, e3, e4, h5⟩ := turn i ys (by omega) hJ v hv
    refine ⟨t, ot, v₁, v₂, nt, e1, e2, e3, e4, ?_⟩
    intro I oI C oC D m₂ h tk E' hC hx hx2 F N off ne
    refine wpAny_mono (h5 I oI C oC D m₂ h tk E' hC hx hx2 F N off ne) (fun y s' hy => end_mono hy ?_) fun _ _ q => q
    rintro nw ⟨rfl, hJ'⟩
    exact ih (i + 1) _ (by omega) hJ'
end
theorem parts_take {its : Array Value} {tups : List (Addr × Obj)} {wds : List Str} (h : PartsAre its tups wds) (c : Nat) : PartsAre (its.toList.take c).toArray (tups.take c) (wds.take c) := by
  obtain ⟨ps, rfl, rfl, rfl⟩ := h
  exact ⟨ps.take c, by rw [List.map_take], by rw [List.map_take], by rw [List.map_take]⟩
theorem parts_item {its : Array Value} {tups : List (Addr × Obj)} {wds : List Str} (h : PartsAre its tups wds) {i : Nat} (hi : i < wds.length) : ∃ t a b, its.toList[i]? = some (Value.ref t) ∧ (t, pairO (Str.ofString "") (wds[i]'hi) a b) ∈ tups := by
  obtain ⟨ps, rfl, rfl, rfl⟩ := h
  have hi' : i < ps.length := by simpa using hi
  refine ⟨ps[i].1, ps[i].2.2.1, ps[i].2.2.2, ?_, ?_⟩
  · rw [List.getElem?_map, List.getElem?_eq_getElem hi']
    rfl
  · rw [List.getElem_map]
    exact List.mem_map.mpr ⟨ps[i], List.getElem_mem hi', rfl⟩
theorem offA_of {h₀ h : Heap} {L x : Addr} {news : List (Addr × Obj)} (N : News h₀ L h news) (ap : ∀ b o, h.get? b = some o → b ≠ x) : ∀ b ∈ news.map (·.1), b ≠ x := fun b hb => by
  obtain ⟨p, hp, rfl⟩ := List.mem_map.mp hb
  exact ap p.1 p.2 (N p hp).1
theorem news_pop {h₀ h h' : Heap} {L x D : Addr} {o o' oD : Obj} {rest : List (Addr × Obj)} (N : News h₀ L h ((x, o) :: rest)) (off : ∀ b ∈ rest.map (·.1), b ≠ x) (kp : ∀ b o, b ≠ x → h.get? b = some o → h'.get? b = some o) (M : News h₀ L h' [(D, oD), (x, o')]) : News h₀ L h' ((D, oD) :: (x, o') :: rest) :=
  List.forall_mem_cons.mpr ⟨M _ (.head _), List.forall_mem_cons.mpr ⟨M _ (.tail _ (.head _)), fun p hp => ⟨kp _ _ (off _ (List.mem_map.mpr ⟨p, hp, rfl⟩)) (N p (.tail _ hp)).1, (N p (.tail _ hp)).2⟩⟩⟩
theorem off_pop {x dx : Addr} {l9 : List Addr} {tups : List (Addr × Obj)} (h : dx ≠ x) (a : ∀ b ∈ l9, b ≠ x) (t : ∀ p ∈ tups, p.1 ≠ x) : ∀ b ∈ dx :: (l9 ++ tups.map (·.1)), b ≠ x := fun b hb => by
  rcases List.mem_cons.mp hb with rfl | hb
  · exact h
  rcases List.mem_append.mp hb with hb | hb
  · exact a b hb
  · obtain ⟨p, hp, rfl⟩ := List.mem_map.mp hb
    exact t p hp
theorem blank_cat (x : Str) : Str.ofString "" ++ x = x := by
  have e0 : (Str.ofString "").cps = #[] := by decide
  show (⟨(Str.ofString "").cps ++ x.cps⟩ : Str) = x
  rw [e0, Array.empty_append]
theorem strs_snoc {ys : List Value} {ws : List Str} {w1 : Str} {t : Tok} (h : StrsAre ys ws) : StrsAre (ys ++ [.str w1 t]) (ws ++ [w1]) := by
  induction h with
  | nil => exact .cons _ _ .nil
  | cons _ _ _ ih => exact .cons _ _ ih
theorem drop_at {α : Type} {l : List α} {c i : Nat} (h : c + i < l.length) : (l.drop c).take (i + 1) = (l.drop c).take i ++ [l[c + i]'h] := by
  have h2 : i < (l.drop c).length := by rw [List.length_drop]; omega
  rw [List.take_succ_eq_append_getElem h2, List.getElem_drop]
end
-- part Law
section


local macro_rules | `(tactic| walk_at "call builtin:len") => `(tactic| (k_here; k_dflt (refine' len_any ?v1 ?v2 ?v3 ?v4 ?_; (case v1 => k_asm); (case v2 => k_mem); (case v3 => assumption); (case v4 => omega))))
local macro_rules | `(tactic| walk_at $k:str) => do if (["subscriptTail Name Name ref int", "call builtin:sum", "CompSrc", "call ref"] : List String).contains k.getString then `(tactic| (refine halt_intro ?_)) else Lean.Macro.throwUnsupported
local macro_rules | `(tactic| walk_at "eval ListComp") => `(tactic| (k_here; lcp_look; lcg_calm; k_dflt (refine LCp.ListComp_P (F₀ := by k_asm) (by with_unfolding_all rfl) (by decide) (by rfl) (by decide) (by rfl) (by rfl) (by decide) ?_)))
local macro_rules | `(tactic| walk_at $k:str) => do if (["SrcLP", "call builtin:str.join", "compareOp NotEq ref ref", "subscriptTail Name Slice ref ref"] : List String).contains k.getString then `(tactic| (refine halt_intro ?_)) else Lean.Macro.throwUnsupported
theorem five_strs {ys : List Value} {w0 w1 w2 w3 w4 : Str} (h : StrsAre ys [w0, w1, w2, w3, w4]) : ∃ u0 u1 u2 u3 u4, ys = [.str w0 u0, .str w1 u1, .str w2 u2, .str w3 u3, .str w4 u4] := by
  cases h with
  | cons _ t0 h =>
    cases h with
    | cons _ t1 h =>
      cases h with
      | cons _ t2 h =>
        cases h with
        | cons _ t3 h =>
          cases h with
          | cons _ t4 h =>
            cases h
            exact ⟨_, _, _, _, _, rfl⟩
/-- a fact laid aside (out of omega's sight) -/
structure Kp (P : Prop) : Prop where
  out : P
theorem sum_six : ∀ {wds : List Str}, (∀ y ∈ wds, y.length ≤ 6) → (wds.map Str.length).sum ≤ 6 * wds.length
  | [], _ => Nat.le_refl _
  | a :: r, h => by
    have z := sum_six fun y hy => h y (.tail _ hy)
    have y := h a (.head _)
    rw [List.map_cons, List.sum_cons, List.length_cons]
    omega
theorem fit6 {n : Nat} (h : n ≤ 6) : ¬ ((n : Int) ≥ 2 ^ 63) := by omega
theorem sum_cast {f : Int → Str} : ∀ ls : List Int, ((((ls.map f).map Str.length).sum : Nat) : Int) = (ls.map (fun x => ((f x).length : Int))).sum
  | [] => rfl
  | a :: r => by
    have z := sum_cast (f := f) r
    simp only [List.map_cons, List.sum_cons] at z ⊢
    rw [← z]
    exact Int.natCast_add _ _
theorem parts_cls {its : Array Value} {tups : List (Addr × Obj)} {wds : List Str} (h : PartsAre its tups wds) : ∀ p ∈ tups, p.2.cls = .type "tuple" := by
  obtain ⟨qs, _, et, _⟩ := h
  intro p hp
  rw [et] at hp
  obtain ⟨q, _, rfl⟩ := List.mem_map.mp hp
  rfl
theorem word_six {s0 s1 s2 s3 s4 : Int} (h : ShOk [s0, s1, s2, s3, s4]) {z : Int} (hz : 0 ≤ z ∧ z < 5) : (wordF [s0, s1, s2, s3, s4] z).length ≤ 6 := by
  obtain ⟨q0, q1, q2, q3, q4⟩ := sh_len h
  rcases (show z = 0 ∨ z = 1 ∨ z = 2 ∨ z = 3 ∨ z = 4 by omega) with rfl | rfl | rfl | rfl | rfl
  · rw [q0]; exact (lenW_fit _).2
  · rw [q1]; exact (lenW_fit _).2
  · rw [q2]; exact (lenW_fit _).2
  · rw [q3]; exact (lenW_fit _).2
  · rw [q4]; exact (lenW_fit _).2
theorem news_pick3 {h₀ h : Heap} {L : Addr} {a b c : Addr × Obj} {news tups : List (Addr × Obj)} (N : News h₀ L h news) (ha : a ∈ news) (hb : b ∈ news) (hc : c ∈ news) (ht : ∀ p ∈ tups, p ∈ news) : News h₀ L h (a :: b :: c :: tups) :=
  List.forall_mem_cons.mpr ⟨N a ha, List.forall_mem_cons.mpr ⟨N b hb, List.forall_mem_cons.mpr ⟨N c hc, fun p hp => N p (ht p hp)⟩⟩⟩
theorem off_tups {h₀ h : Heap} {L x dx : Addr} {news tups : List (Addr × Obj)} (N : News h₀ L h news) (ap : ∀ b o, h.get? b = some o → b ≠ x ∧ b ≠ dx ∧ ∀ p ∈ tups, b ≠ p.1) : ∀ q ∈ news, ∀ p ∈ tups, q.1 ≠ p.1 := fun q hq p hp => (ap q.1 q.2 (N q hq).1).2.2 p hp
theorem news_tail {h₀ h h' : Heap} {L : Addr} {p q : Addr × Obj} {news tups : List (Addr × Obj)} (N : News h₀ L h news) (kp : ∀ b o, h.get? b = some o → h'.get? b = some o) (M : News h₀ L h' (p :: q :: tups)) : News h₀ L h' (p :: q :: (news ++ tups)) := fun r hr => by
  rcases List.mem_cons.mp hr with rfl | hr
  · exact M _ (.head _)
  rcases List.mem_cons.mp hr with rfl | hr
  · exact M _ (.tail _ (.head _))
  rcases List.mem_append.mp hr with hr | hr
  · exact N.grown kp _ hr
  · exact M _ (.tail _ (.tail _ hr))
-- names kept, so that no spelt-out copy of the text is laid beside the head
theorem law0.tw17699125900338286826 : True := trivial
theorem law0.tw1180745028364193655 : True := trivial
theorem law0.tw12666896737911198247 : True := trivial
theorem law0.tw7773622664132644887 : True := trivial
theorem law0.tw12546218557812443753 : True := trivial
theorem law0.tw18445791051447577936 : True := trivial
theorem law0.tw6385131295830114584 : True := trivial
theorem law0.tw118659336403805346 : True := trivial
theorem law0.tw12346181934254485148 : True := trivial
theorem law0.tw4461244602327236999 : True := trivial
theorem law0.tw2918002824730279690 : True := trivial
theorem law0.tw4350571009898500681 : True := trivial
theorem law0.tw1301087600333278179 : True := trivial
theorem law0.tw6393542445638457130 : True := trivial
theorem law0.tw3925605507518493404 : True := trivial
theorem law0.tw11743516832410986192 : True := trivial
theorem law0.tw11244846509269613564 : True := trivial
theorem law0.tw14200610244241395743 : True := trivial
theorem law0.tw4612160342394651920 : True := trivial
theorem law0.tw9018901224244890181 : True := trivial
theorem law0.tw3469058355537598690 : True := trivial
theorem law0.tw11781440929437947442 : True := trivial
theorem law0.tw7639406124816373305 : True := trivial
theorem law0.tw4433332402273300775 : True := trivial
theorem law0.tw11523264951361498799 : True := trivial
theorem law0.tw6613000564315775730 : True := trivial
theorem law0.tw1610760908340044523 : True := trivial
theorem law0.tw15400320650452073477 : True := trivial
theorem law0.tw11959361041871765522 : True := trivial
theorem law0.tw16737582776677827082 : True := trivial
theorem law0.tw97011327422333217 : True := trivial
theorem law0.tw2345004794090384986 : True := trivial
theorem law0.tw6357754386109894475 : True := trivial
theorem law0.tw3582954245757958440 : True := trivial
theorem law0.tw17510720145201880253 : True := trivial
theorem law0.tw5518365810387356747 : True := trivial
theorem law0.tw1620366084565181 : True := trivial
theorem law0.tw4003093422367203626 : True := trivial
theorem law0.tw8356385577724382480 : True := trivial
theorem law0.tw18367183321457360210 : True := trivial
theorem law0.tw17475498791739800603 : True := trivial
theorem law0.tw2361512705433084800 : True := trivial
theorem law0.tw14138812305841297094 : True := trivial
theorem law0.tw7975160994723591189 : True := trivial
theorem law0.tw4878174255723778311 : True := trivial
theorem law0.tw6012819776628231351 : True := trivial
theorem law0.tw6315476539618263395 : True := trivial
theorem law0.tw334938984278594083 : True := trivial
theorem law0.tw13845880746551851130 : True := trivial
theorem law0.tw17428989414929986597 : True := trivial
theorem law0.tw8386381093137330377 : True := trivial
theorem law0.tw2666381876535079507 : True := trivial
theorem law0.tw2475944077219576648 : True := trivial
theorem law0.tw10095480883494231459 : True := trivial
theorem law0.tw406732618581100268 : True := trivial
theorem law0.tw12417697683833045658 : True := trivial
theorem law0.tw8993865214624504486 : True := trivial
theorem law0.tw8061300883978502320 : True := trivial
theorem law0.tw4777488686911143438 : True := trivial
theorem law0.tw13398523139639869546 : True := trivial
theorem law0.tw6623399549322444180 : True := trivial
theorem law0.tw8668630876662886431 : True := trivial
theorem law0.tw2744046844789289277 : True := trivial
theorem law0.tw8581138001695752568 : True := trivial
theorem law0.tw13661154312628583589 : True := trivial
theorem law0.tw12121318249026566611 : True := trivial
theorem law0.tw4777423316363239594 : True := trivial
theorem law0.tw18423069317951216678 : True := trivial
theorem law0.tw937520463590543270 : True := trivial
theorem law0.tw10509397538588029826 : True := trivial
theorem law0.tw8811285888202015372 : True := trivial
theorem law0.tw11235163905024454578 : True := trivial
theorem law0.tw6045903549345957425 : True := trivial
theorem law0.tw4537617650091704950 : True := trivial
theorem law0.tw242830475430967187 : True := trivial
set_option Elab.async true
set_option maxHeartbeats 80000000 in
theorem law0 : PySem.Challenge.rw_tv0018_01.Holds := by
  w_on
  o_law
  o_head (kmHook _root_.Mine.hk.heap_1 [2, 3, 15, 17, 18, 20, 21, 22, 24, 25, 27, 28, 29, 31, 32, 34, 35, 36, 38, 39, 41, 42, 43, 46, 51, 52, 53, 55, 56, 58, 59, 60, 62, 63, 65, 66, 67, 68, 70, 71, 73, 74, 75, 77, 78, 80, 81, 82, 84, 85, 87, 88, 89, 91, 92, 94, 95, 96, 97, 99, 100, 102, 103, 104, 106, 107, 109, 110, 111, 112, 114, 115, 117, 118, 119, 120, 121, 122, 123, 126, 129, 130, 131, 134, 135, 136, 138, 139, 141, 142, 143, 145, 146, 148, 149, 150, 153, 154, 155, 157, 158, 160, 161, 162, 165, 166, 167, 170, 171, 172, 174, 175, 177, 178, 179, 181, 182, 184, 185, 186, 189, 190] (fun _ => by kernel_rfl) [83, 90])
  (case hw => w_witness2)
  
  k_fill
  intro w s₀ s₁ mg mb G Y fa o pm cd doc dV kV ho hd hcd hD hmg hg args vals as hpre hlay hrd hwl hlo
  have KX := km_in_of Y
  have KT := km_tabs_of Y
  have X := (Ground.X G).1
  have V := (Ground.X G).2
  refine Ground.open G ?_
  intro T B D TE TW
  try (refine guard_noD D (by decide +kernel) ?_; clear D)
  obtain ⟨_, _, M⟩ := bmod_of_top T
  have TA := at_of_top T
  try (obtain ⟨_, _, he, B0⟩ := based_of_top T rfl hmg ho hd; have he' : cd = _ := he; subst he'; clear he)
  clear hmg
  wrow_args hpre hlay hrd hwl hlo
  refine enter_call ?_
  w_top on
  have hT9 := tbs_ok KX KT
  refine codeAny_mono ?_ (fun _ _ g => law_post hT9 (fun _ => rfl) (by first | rfl | wrow_post) g)
  have T9 := ghost_TOP hT9 KX T
  have X9 := ghost_X hT9 KX
  have B9 := ghost_below hT9
  w_call any ho hd hcd hD T F

  rename_i hLl hr1 hl2 wA wB l vs wE hL ra w1 r0 hI hr hc1 hc2 h₁ tk₁ oA oB left right N0 X0
  have F9 := ghost_fr hT9 F
  have N9 := ghost_news hT9 F N0
  have l0 := ghost_lt hT9 F
  simp only [tabNews, TBS, List.map_cons, List.map_nil, List.cons_append, List.nil_append] at N9 l0
  k_lt l0
  have cl : Kp ((s₁.heap.objs.size + 1 + 1 ≠ 83) ∧ (s₁.heap.objs.size + 1 ≠ 83) ∧ (s₁.heap.objs.size + 1 + 1 ≠ 90) ∧ (s₁.heap.objs.size + 1 ≠ 90)) := by
    have z : @LT.lt Nat _ 83 s₁.heap.objs.size ∧ @LT.lt Nat _ 90 s₁.heap.objs.size := l0
    exact ⟨by omega, by omega, by omega, by omega⟩
  have dA : oA.data = .cell none := left
  have dB : oB.data = .cell none := right
  have hL1 := hL.at fun o e => F.keep _ _ e
  clear X0 left right N0 F
  (try clear ho); (try clear hcd); (try clear hd); (try clear TA); (try clear T); (try clear B); (try clear KX); (try clear KT); (try clear Y); (try clear M); (try clear B0)
  change wpAny _ _ _ _ _ _
  k_fold
  k_steps
  unfold Halt
  refine c_shares (by k_asm) (by k_asm) (by k_asm) (fun _ h => nomatch h) (by k_asm) rfl (by ktr_room) (by ktr_room) hL1 hI (by omega) ?_
  intro D h2 tk2 s0 s1 s2 s3 s4 t0 t1 t2 t3 t4 shOk kp2 ap2 F2 M2
  have a2 := apart_all N9 ap2
  simp only [GnNe, and_true] at a2
  have N2 := news_more N9 kp2 M2
  have hL2 := hL1.at fun o e => kp2 _ _ e
  have hG := ghost_list hT9 hL
  clear N9 F9 M2 hL1 hL
  k_steps
  unfold Halt
  rename_i h3 oB2 F3 N3 dB2
  refine c_letters (by k_asm) (by k_asm) (by k_asm) (fun _ h => nomatch h) (by k_asm) rfl (by ktr_room) (by ktr_room) (hG.at fun o e => F3.keep _ _ e) hI (by omega) ?_
  intro Dl h4 tk4 ls ws hls hw4 kp4 ap4 F4 M4
  have a4 := apart_all N3 ap4
  simp only [GnNe, and_true] at a4
  have N4 := news_more N3 kp4 M4
  clear N3 F3 M4
  k_steps
  unfold Halt
  rename_i h5 F5' N5' h6 tk6 t6 u6 v6 R6 F6 N6 kp6
  obtain ⟨p0, p1, p2, p3, p4, psum⟩ := sh_pos shOk
  refine LCg.CompSrc.range rfl F6 N6 R6 (by decide) (n := 5) (by decide) (by decide) ?_
  intro g7
  refine compU_ind (J := fun i ys => StrsAre ys ((List.range i).map (fun j : Nat => wordF [s0, s1, s2, s3, s4] (j : Int)))) ?_ ?_ 5 0 [] rfl .nil
  · intro i ys hi hJ v I8 oI8 C8 oC8 D8 m8 h8 tk8 E8 hv hC hx F8 N8 off8 ne8
    obtain ⟨t9, hv9⟩ := hv
    subst hv9
    k_steps
    unfold Halt
    have e0 : (0 + (i : Int)).toNat = i := by omega
    refine c_fig (by k_asm) (by k_asm) (by k_asm) (news_one (by k_asm) (p := (D, listOf #[.int s0 t0, .int s1 t1, .int s2 t2, .int s3 t3, .int s4 t4] 0)) (by k_mem)) (by k_asm) rfl (by ktr_room) (by omega) (by omega) ?_
    intro t10 h10 tk10 kp10 F10
    have N10 := News.grown (by k_asm) kp10
    k_steps
    unfold Halt
    refine c_word (j := i) (by k_asm) (by k_asm) (by k_asm) (news_one (by k_asm) (p := (D, listOf #[.int s0 t0, .int s1 t1, .int s2 t2, .int s3 t3, .int s4 t4] 0)) (by k_mem)) (by k_asm) rfl (by ktr_room) (by ktr_room) hi (by rw [e0]; rfl) p0 p1 p2 p3 p4 psum ?_
    intro t11 h11 tk11 kp11 F11
    have N11 := News.grown (by k_asm) kp11
    k_steps
    refine LCg.CompEnd.intro (by assumption) N11 _ ?_ off8 trivial ⟨rfl, ?_⟩
    · first | exact fun p hp => hp | lcg_sub
    · rw [e0]
      show StrsAre (ys ++ [Value.str (wordF [s0, s1, s2, s3, s4] (i : Int)) _]) ((List.range (i + 1)).map (fun j : Nat => wordF [s0, s1, s2, s3, s4] (j : Int)))
      rw [List.range_succ, List.map_append]
      exact strsAre_snoc hJ
  · intro ys hJ
    obtain ⟨u0, u1, u2, u3, u4, eys⟩ := five_strs (show StrsAre ys (WDS [s0, s1, s2, s3, s4]) from hJ)
    have ordOk := sh_ord shOk
    obtain ⟨q0, q1, q2, q3, q4⟩ := sh_len shOk
    subst eys
    clear hJ N6 F6 kp6 R6
    k_steps
    unfold Halt
    rename_i D7 h7' tk7' o71 h7 oA7 F7 N7 dA7
    have eD : LCg.lst [.str (wordF [s0, s1, s2, s3, s4] 0) u0, .str (wordF [s0, s1, s2, s3, s4] 1) u1, .str (wordF [s0, s1, s2, s3, s4] 2) u2, .str (wordF [s0, s1, s2, s3, s4] 3) u3, .str (wordF [s0, s1, s2, s3, s4] 4) u4] = listOf #[.str (wordF [s0, s1, s2, s3, s4] 0) u0, .str (wordF [s0, s1, s2, s3, s4] 1) u1, .str (wordF [s0, s1, s2, s3, s4] 2) u2, .str (wordF [s0, s1, s2, s3, s4] 3) u3, .str (wordF [s0, s1, s2, s3, s4] 4) u4] 5 := rfl
    rw [eD] at N7
    refine c_ord (by k_asm) (by k_asm) (by k_asm) (news_one N7 (.head _)) (by k_asm) rfl (by ktr_room) ordOk ?_
    intro h8 tk8 kp8 F8
    have N8 := News.grown N7 kp8
    clear N7 F7
    replace a2 := Kp.mk a2
    replace a4 := Kp.mk a4
    replace o71 := Kp.mk o71
    k_steps
    unfold Halt
    refine c_rcv (by k_asm) (by k_asm) (by k_asm) (news_two (by k_asm) (p := (D, listOf #[.int s0 t0, .int s1 t1, .int s2 t2, .int s3 t3, .int s4 t4] 0)) (q := (Dl, listOf ws.toArray 0)) (by k_mem) (by k_mem)) (by k_asm) rfl (by ktr_room) (by ktr_room) hls hw4 p0 p1 p2 p3 p4 psum a4.out.1 ?_
    intro Dr h9 tk9 fs hfs kp9 ap9 F9 M9
    have a9 := apart_all N8 ap9
    simp only [GnNe, and_true] at a9
    replace a9 := Kp.mk a9
    have N9 := news_more N8 kp9 M9
    clear N8 F8 M9
    k_steps
    unfold Halt
    refine c_lin (by k_asm) (by k_asm) (by k_asm) (news_two (by k_asm) (p := (D, listOf #[.int s0 t0, .int s1 t1, .int s2 t2, .int s3 t3, .int s4 t4] 0)) (q := (Dr, listOf fs.toArray 0)) (by k_mem) (by k_mem)) (by k_asm) rfl (by ktr_room) (by ktr_room) hls hfs p0 p1 p2 p3 p4 psum a9.out.2.2.1 ?_
    intro x dx h10 tk10 its tups nn ai bi kk parts ltx kp10 ap10 F10 M10
    have ax := apart_all N9 (fun b o e => (ap10 b o e).1)
    have adx := apart_all N9 (fun b o e => (ap10 b o e).2.1)
    simp only [GnNe, and_true] at ax adx
    replace ax := Kp.mk ax
    replace adx := Kp.mk adx
    have offT := off_tups N9 ap10
    have offX : x ≠ dx ∧ (∀ p ∈ tups, p.1 ≠ x) ∧ ∀ p ∈ tups, p.1 ≠ dx := by
      have pc := parts_cls parts
      exact ⟨Nat.ne_of_gt ltx, fun p hp => News.ne_of_cls M10 (q := p) (p := (x, lstObj 121 dx its nn)) (.tail _ (.tail _ hp)) (.head _) (by rw [pc p hp]; exact fun h => nomatch h),
        fun p hp => News.ne_of_cls M10 (q := p) (p := (dx, dictOf (accD w.params ai bi) kk)) (.tail _ (.tail _ hp)) (.tail _ (.head _)) (by rw [pc p hp]; show Value.type "tuple" ≠ Value.type "dict"; decide)⟩
    have offA := offA_of N9 (fun b o e => (ap10 b o e).1)
    have N10 := news_tail N9 kp10 M10
    simp only [List.cons_append, List.nil_append] at N10
    clear N9 F9 M10
    k_steps
    unfold Halt
    have hz : its.size = ls.length := by rw [parts_size parts, List.length_map]
    have ew : ws.length = ls.length := hw4.length
    have h14 : ls.length ≤ 14 := hls.2.2.1
    refine c_cnt (by k_asm) (by k_asm) (by k_asm) (news_two (by k_asm) (p := (x, lstObj 121 dx its nn)) (q := (dx, dictOf (accD w.params ai bi) kk)) (by k_mem) (by k_mem)) (by k_asm) rfl (by ktr_room) ltx ?_
    intro t11 h11 tk11 kp11 F11
    have N11 := News.grown (by k_asm) kp11
    rw [hz]
    k_steps
    · rename _ ≠ _ => z1
      exact absurd rfl z1
    unfold Halt
    have hG0 : AllBare s₁.gens := .of_eq hg
    have hw6 : ∀ y ∈ ls.map (wordF [s0, s1, s2, s3, s4]), y.length ≤ 6 := by
      intro y hy
      obtain ⟨z, hz, rfl⟩ := List.mem_map.mp hy
      exact word_six shOk (hls.1 z hz)
    have hn14 : (ls.map (wordF [s0, s1, s2, s3, s4])).length ≤ 14 := by rw [List.length_map]; exact h14
    rename_i h11' F11' N11' a11
    refine c_len (by k_asm) (by k_asm) (by k_asm) (news_pick3 N11 (.tail _ (.tail _ (.tail _ (.tail _ (.tail _ (.tail _ (.tail _ (.tail _ (.head _))))))))) (.head _) (.tail _ (.head _)) (fun p hp => .tail _ (.tail _ (.tail _ (.tail _ (.tail _ (.tail _ (.tail _ (.tail _ (.tail _ (.tail _ hp))))))))))) (by k_asm) rfl (by ktr_room) (Nat.le_of_ble_eq_true rfl) parts hG0 hw6 hn14 ?_
    intro t12 h12 gs12 tk12 ps12 hG12 htr12 F12 kp12 M12
    have N12 := news_upd N11 (.tail (Ne.symm ax.out.2.2.2.2.2.2.1) (.tail (Ne.symm adx.out.2.2.2.2.2.2.1) (.tail (Ne.symm a9.out.2.2.2.2.2.1) (.tail (Ne.symm o71.out.2.2.2.2.1) (.tail (Ne.symm a4.out.2.2.2.1) (.tail (Ne.symm a2.out.2.2.1) (.tail cl.out.1 (.tail cl.out.2.1 (.head (List.forall_mem_cons.mpr ⟨by show (90 : Nat) ≠ 83; decide, fun p hp => Ne.symm (offT (83, tabObj #[]) (.tail _ (.tail _ (.tail _ (.tail _ (.tail _ (.tail _ (.head _))))))) p hp)⟩)))))))))) kp12 M12
    (try dsimp only at N12)
    refine ⟨⟨Int.natCast_nonneg _, ?_⟩, ?_⟩
    · have := sum_six hw6
      rw [List.length_map] at this
      omega
    have hS : StrsAre [.str (wordF [s0, s1, s2, s3, s4] 0) u0, .str (wordF [s0, s1, s2, s3, s4] 1) u1, .str (wordF [s0, s1, s2, s3, s4] 2) u2, .str (wordF [s0, s1, s2, s3, s4] 3) u3, .str (wordF [s0, s1, s2, s3, s4] 4) u4] (WDS [s0, s1, s2, s3, s4]) := .cons _ _ (.cons _ _ (.cons _ _ (.cons _ _ (.cons _ _ .nil))))
    clear N11
    k_steps
    unfold Halt
    refine LCg.CompSrc.ledger rfl F12 N12 (ax := Dl) (its := ws.toArray) (k := 0) (by k_mem) (by rw [List.size_toArray, ew, sizeLine_eq]; omega) ?_
    intro g13
    refine compU_ind (J := fun i ys => IntsAre ys ((ls.take i).map (fun x => ((wordF [s0, s1, s2, s3, s4] x).length : Int)))) ?_ ?_ _ 0 [] (Nat.zero_add _) .nil
    · intro i ys hi hJ v I14 oI14 C14 oC14 D14 m14 h14' tk14 E14 hv hC hx F14 N14 off14 ne14
      have hi' : i < ls.length := by rw [List.size_toArray, ew] at hi; exact hi
      obtain ⟨y, ty, ev, ey⟩ : ∃ y ty, v = Value.int y ty ∧ ls[i]'hi' = y := by
        obtain ⟨ty, e⟩ := hw4.get i (ls[i]'hi') (List.getElem?_eq_getElem hi')
        rw [List.getElem?_toArray] at hv
        rw [hv] at e
        exact ⟨_, ty, Option.some.inj e, rfl⟩
      obtain ⟨y0, y1⟩ := hls.1 y (ey ▸ List.getElem_mem hi')
      subst ev
      have et : ls.take (i + 1) = ls.take i ++ [y] := by rw [← ey]; exact List.take_succ_eq_append_getElem hi'
      k_steps
      unfold Halt
      refine item_strsA (l := [.str (wordF [s0, s1, s2, s3, s4] 0) u0, .str (wordF [s0, s1, s2, s3, s4] 1) u1, .str (wordF [s0, s1, s2, s3, s4] 2) u2, .str (wordF [s0, s1, s2, s3, s4] 3) u3, .str (wordF [s0, s1, s2, s3, s4] 4) u4]) ⟨_, News.get (by k_asm) (by k_mem), rfl, 5, rfl⟩ hS y0 y1 (by omega) ?_
      intro t15
      rw [show (WDS [s0, s1, s2, s3, s4]).getD y.toNat Str.empty = wordF [s0, s1, s2, s3, s4] y by rcases (show y = 0 ∨ y = 1 ∨ y = 2 ∨ y = 3 ∨ y = 4 by omega) with rfl | rfl | rfl | rfl | rfl <;> rfl]
      have l6 := fit6 (word_six shOk ⟨y0, y1⟩)
      k_steps
      refine LCg.CompEnd.intro F14 N14 _ ?_ off14 (.inr ⟨_, by k_mem, rfl, _, rfl⟩) ⟨rfl, ?_⟩
      · first | exact fun p hp => hp | lcg_sub
      · rw [et, List.map_append]
        exact IntsAre.append hJ (.cons _ _ .nil)
    · intro ys hJ
      rw [List.size_toArray, ew, List.take_length] at hJ
      have ly : ys.length = ls.length := by rw [hJ.length, List.length_map]
      clear N12 F12
      k_steps
      unfold Halt
      rename_i DL h15 tk15 F15 N15 oL
      have eS := sum_cast (f := wordF [s0, s1, s2, s3, s4]) ls
      have hl0 : ¬ (ls.length : Int) = 0 := by have := hls.2.1; omega
      refine LSm.sum_ints F15 N15 rfl ⟨_, News.get N15 (.head _), rfl, _, rfl⟩ hJ ?_
      intro h16 tk16 t16 F16 N16
      replace N16 : News _ _ _ _ := fun p hp => N16 p (.tail _ hp)
      rw [← eS]
      clear F15 N15 oL hJ
      k_steps
      · (rename _ ≠ _ => z1)
        exact absurd rfl z1
      obtain ⟨c, ec, lc⟩ : ∃ c : Nat, Int.fmod s0 (ls.length : Int) = (c : Int) ∧ c < ls.length := by
        have h6 := hls.2.1
        have a0 : (0 : Int) < ls.length := by omega
        have b0 := Int.fmod_nonneg_of_pos s0 a0
        have b1 := Int.fmod_lt_of_pos s0 a0
        exact ⟨(Int.fmod s0 (ls.length : Int)).toNat, by omega, by omega⟩
      k_steps
      unfold Halt
      rename_i t17 h17 F17 N17
      have ec2 : ([s0, s1, s2, s3, s4].getD (Int.toNat 0) 0).fmod (ls.length : Int) = (c : Int) := ec
      rw [ec2] at F17 ⊢
      clear ec2
      have offP : ∀ b ∈ ((x, lstObj 121 dx its nn) :: (dx, dictOf (accD w.params ai bi) kk) :: (Dr, listOf fs.toArray 0) :: (D7, listOf #[.str (wordF [s0, s1, s2, s3, s4] 0) u0, .str (wordF [s0, s1, s2, s3, s4] 1) u1, .str (wordF [s0, s1, s2, s3, s4] 2) u2, .str (wordF [s0, s1, s2, s3, s4] 3) u3, .str (wordF [s0, s1, s2, s3, s4] 4) u4] 5) :: (Dl, listOf ws.toArray 0) :: (D, listOf #[.int s0 t0, .int s1 t1, .int s2 t2, .int s3 t3, .int s4 t4] 0) :: (s₁.heap.objs.size + 1 + 1, oA7) :: (s₁.heap.objs.size + 1, oB2) :: (83, tabO ps12) :: (90, tabO #[]) :: tups).tail.map (·.1), b ≠ x := off_pop (Nat.ne_of_lt ltx) offA offX.2.1
      refine c_pop (c := c) (by k_asm) F17 (by k_asm) (news_two N17 (p := (x, lstObj 121 dx its nn)) (q := (dx, dictOf (accD w.params ai bi) kk)) (.head _) (.tail _ (.head _))) (by k_asm) rfl (by ktr_room) ltx (by rw [hz]; exact h14) (by rw [hz]; exact Nat.le_of_lt lc) ?_
      intro D5 h18 tk18 n18 kp18 ap18 F18 M18
      have N18 := news_pop N17 offP kp18 M18
      clear N17 F17 M18
      k_steps
      unfold Halt
      refine LCp.SrcLP.ledger rfl F18 N18 (ax := D5) (its := (its.toList.drop c).toArray) (k := 0) (by k_mem) (by rw [List.size_toArray, List.length_drop, Array.length_toList, hz, sizeLine_eq]; omega) ?_
      intro g19
      have zd : (its.toList.drop c).toArray.size = ls.length - c := by rw [List.size_toArray, List.length_drop, Array.length_toList, hz]
      refine compP_ind (J := fun i ys => StrsAre ys (((ls.map (wordF [s0, s1, s2, s3, s4])).drop c).take i)) ?_ ?_ _ 0 [] (Nat.zero_add _) .nil
      · intro i ys hi hJ v hv
        have hi2 : c + i < (ls.map (wordF [s0, s1, s2, s3, s4])).length := by
          rw [zd] at hi
          rw [List.length_map]; omega
        obtain ⟨t, ta, tb, e1, e2⟩ := parts_item parts hi2
        obtain ⟨wd, hwd⟩ : ∃ wd, (ls.map (wordF [s0, s1, s2, s3, s4]))[c + i]'hi2 = wd := ⟨_, rfl⟩
        have w6 : wd.length ≤ 6 := hwd ▸ hw6 _ (List.getElem_mem hi2)
        rw [hwd] at e2
        rw [List.getElem?_toArray, List.getElem?_drop, e1] at hv
        refine ⟨t, pairO (Str.ofString "") wd ta tb, .str (Str.ofString "") ta, .str wd tb, 0, (Option.some.inj hv).symm, (by repeat (first | exact e2 | refine List.mem_cons_of_mem _ ?_)), rfl, rfl, ?_⟩
        intro I20 oI20 C20 oC20 D20 m20 h20 tk20 E20 hC hx1 hx2 F20 N20 off20 ne20
        have z0 : (Str.ofString "").length = 0 := by decide
        k_steps
        refine LCg.CompEnd.intro F20 N20 _ ?_ off20 (.inr ⟨_, by k_mem, rfl, _, rfl⟩) ⟨rfl, ?_⟩
        · first | exact fun p hp => hp | lcg_sub
        · rw [drop_at hi2, hwd, blank_cat]
          exact strs_snoc hJ
      · intro ys hJ
        rw [zd, show ls.length - c = ((ls.map (wordF [s0, s1, s2, s3, s4])).drop c).length by rw [List.length_drop, List.length_map], List.take_length] at hJ
        clear N18 F18
        k_steps
        unfold Halt
        rename_i D20 h20 tk20 F20 N20 o20
        have z0 : (Str.ofString "").length = 0 := by decide
        refine join_list (D := D20) (items := ys.toArray) (ys := (ls.map (wordF [s0, s1, s2, s3, s4])).drop c) ⟨_, News.get N20 (.head _), rfl, _, rfl⟩ hJ ?_ ?_
        · have b := sum_six (wds := (ls.map (wordF [s0, s1, s2, s3, s4])).drop c) (fun y hy => hw6 y (List.mem_of_mem_drop hy))
          rw [List.length_drop, List.length_map] at b
          show (List.map Str.length ((ls.map (wordF [s0, s1, s2, s3, s4])).drop c)).sum + _ ≤ _
          rw [z0, Nat.mul_zero, Nat.add_zero]
          omega
        intro t21 k21
        have eR : Txt.join (Str.ofString "") ((ls.map (wordF [s0, s1, s2, s3, s4])).drop c) = catW (WDS [s0, s1, s2, s3, s4]) (ls.drop c) := by rw [← List.map_drop]; exact join_cat (fun x hx => hls.1 x (List.mem_of_mem_drop hx))
        rw [eR]
        replace N20 : News _ _ _ _ := fun p hp => N20 p (.tail _ (.tail _ hp))
        clear o20 hJ eR
        k_steps
        unfold Halt
        rename_i h21 F21 N21
        refine c_str (wds := (ls.map (wordF [s0, s1, s2, s3, s4])).take c) (tups := tups.take c) (by k_asm) (by k_asm) (by k_asm) (news_pick3 N21 (.tail _ (.tail _ (.tail _ (.tail _ (.tail _ (.tail _ (.tail _ (.tail _ (.tail _ (.head _)))))))))) (.head _) (.tail _ (.head _)) (fun p hp => (.tail _ (.tail _ (.tail _ (.tail _ (.tail _ (.tail _ (.tail _ (.tail _ (.tail _ (.tail _ (List.mem_of_mem_take hp))))))))))))) (by k_asm) rfl (by ktr_room) (parts_take parts c) hG12 (fun y hy => hw6 y (List.mem_of_mem_take hy)) (Nat.le_trans (List.length_take_le' _ _) hn14) ?_
        intro t22 h22 gs22 tk22 ps22 hG22 htr22 F22 kp22 M22
        have N22 := news_upd N21 (.tail (Ne.symm ax.out.2.2.2.2.2.2.2) (.tail (Ne.symm adx.out.2.2.2.2.2.2.2) (.tail (Ne.symm a9.out.2.2.2.2.2.2) (.tail (Ne.symm o71.out.2.2.2.2.2) (.tail (Ne.symm a4.out.2.2.2.2) (.tail (Ne.symm a2.out.2.2.2) (.tail cl.out.2.2.1 (.tail cl.out.2.2.2 (.tail (by show (83 : Nat) ≠ 90; decide) (.head (fun p hp => Ne.symm (offT (90, tabObj #[]) (.tail _ (.tail _ (.tail _ (.tail _ (.tail _ (.tail _ (.tail _ (.head _)))))))) p hp)))))))))))) kp22 M22
        (try dsimp only at N22)
        clear N21 F21 M22
        dsimp only [StrBack]
        have eT : Txt.join (Str.ofString "") ((ls.map (wordF [s0, s1, s2, s3, s4])).take c) = catW (WDS [s0, s1, s2, s3, s4]) (ls.take c) := by rw [← List.map_take]; exact join_cat (fun x hx => hls.1 x (List.mem_of_mem_take hx))
        rw [eT]
        clear eT
        k_steps
        unfold Halt
        refine c_told (ls := ls.take c) (by k_asm) (by k_asm) (by k_asm) (news_one N22 (p := (D7, listOf #[.str (wordF [s0, s1, s2, s3, s4] 0) u0, .str (wordF [s0, s1, s2, s3, s4] 1) u1, .str (wordF [s0, s1, s2, s3, s4] 2) u2, .str (wordF [s0, s1, s2, s3, s4] 3) u3, .str (wordF [s0, s1, s2, s3, s4] 4) u4] 5)) (by k_mem)) (by k_asm) rfl (by ktr_room) ordOk (word_six shOk ⟨by decide, by decide⟩) (word_six shOk ⟨by decide, by decide⟩) (word_six shOk ⟨by decide, by decide⟩) (word_six shOk ⟨by decide, by decide⟩) (word_six shOk ⟨by decide, by decide⟩) (fun x hx => hls.1 x (List.mem_of_mem_take hx)) (Nat.le_trans (List.length_take_le' _ _) h14) ?_
        intro D23 h23 tk23 w23 k23 I23 kp23 ap23 F23 M23
        have N23 := news_more N22 kp23 M23
        clear N22 F22 M23 ap23
        k_steps
        unfold Halt
        refine kmk_slice_ints (ns := ls) (ms := ls.take c) F23 N23 (vs := ws) (News.isList N23 (show (Dl, listOf ws.toArray 0) ∈ _ by k_mem)) .none (.int _ _) hw4 (kmk_upto hw4 (Int.natCast_nonneg _)) rfl ?_ (by with_unfolding_all rfl) (by intro _; with_unfolding_all rfl) (by rw [List.size_toArray, ew, sizeLine_eq]; omega)
        intro D24 w24 h24 F24 N24 _ I24 _ _
        clear N23 F23
        k_steps
        unfold Halt
        refine ke_ne_ints (by is_list) (by is_list) I23 I24 (by ke_room) ?_
        rw [decide_eq_true rfl]
        replace N24 : News _ _ _ _ := fun p hp => N24 p (.tail _ (.tail _ hp))
        k_steps
        unfold Halt
        refine c_told (ls := ls.drop c) (by k_asm) (by k_asm) (by k_asm) (news_one N24 (p := (D7, listOf #[.str (wordF [s0, s1, s2, s3, s4] 0) u0, .str (wordF [s0, s1, s2, s3, s4] 1) u1, .str (wordF [s0, s1, s2, s3, s4] 2) u2, .str (wordF [s0, s1, s2, s3, s4] 3) u3, .str (wordF [s0, s1, s2, s3, s4] 4) u4] 5)) (by k_mem)) (by k_asm) rfl (by ktr_room) ordOk (word_six shOk ⟨by decide, by decide⟩) (word_six shOk ⟨by decide, by decide⟩) (word_six shOk ⟨by decide, by decide⟩) (word_six shOk ⟨by decide, by decide⟩) (word_six shOk ⟨by decide, by decide⟩) (fun x hx => hls.1 x (List.mem_of_mem_drop hx)) (by rw [List.length_drop]; omega) ?_
        intro D25 h25 tk25 w25 k25 I25 kp25 ap25 F25 M25
        have N25 := news_more N24 kp25 M25
        clear N24 F24 M25 ap25
        k_steps
        unfold Halt
        refine kmk_slice_ints (ns := ls) (ms := ls.drop c) F25 N25 (vs := ws) (News.isList N25 (show (Dl, listOf ws.toArray 0) ∈ _ by k_mem)) (.int _ _) .none hw4 (kmk_from hw4 (Int.natCast_nonneg _)) rfl ?_ (by with_unfolding_all rfl) (by intro _; with_unfolding_all rfl) (by rw [List.size_toArray, ew, sizeLine_eq]; omega)
        intro D26 w26 h26 F26 N26 _ I26 _ _
        clear N25 F25
        k_steps
        unfold Halt
        refine ke_ne_ints (by is_list) (by is_list) I25 I26 (by ke_room) ?_
        rw [decide_eq_true rfl]
        replace N26 : News _ _ _ _ := fun p hp => N26 p (.tail _ (.tail _ hp))
        clear I23 I24 I25 I26 hw6 hn14 parts
        k_steps
        unfold Halt
        rename_i h27 tk27 t27 u27 v27 R27 F27 N27 kp27
        refine LCg.CompSrc.range rfl F27 N27 R27 (by decide) (n := 5) (by decide) (by decide) ?_
        intro g28
        have hI5 : IntsAre [.int s0 t0, .int s1 t1, .int s2 t2, .int s3 t3, .int s4 t4] [s0, s1, s2, s3, s4] := .cons _ _ (.cons _ _ (.cons _ _ (.cons _ _ (.cons _ _ .nil))))
        refine compU_ind (J := fun i ys => IntsAre ys ((List.range i).map (fun j : Nat => [s0, s1, s2, s3, s4].getD j 0 * ((wordF [s0, s1, s2, s3, s4] (j : Int)).length : Int)))) ?_ ?_ 5 0 [] rfl .nil
        · intro i ys hi hJ v I29 oI29 C29 oC29 D29 m29 h29 tk29 E29 hv hC hx F29 N29 off29 ne29
          obtain ⟨t30, hv30⟩ := hv
          subst hv30
          k_steps
          unfold Halt
          refine item_list_ints (News.isList N29 (show (D, listOf #[.int s0 t0, .int s1 t1, .int s2 t2, .int s3 t3, .int s4 t4] 0) ∈ _ by k_mem)) hI5 (by omega) (by show 0 + (i : Int) < 5; omega) (by omega) ?_
          intro t31
          k_steps
          unfold Halt
          refine item_strsA (News.isList N29 (show (D7, listOf #[.str (wordF [s0, s1, s2, s3, s4] 0) u0, .str (wordF [s0, s1, s2, s3, s4] 1) u1, .str (wordF [s0, s1, s2, s3, s4] 2) u2, .str (wordF [s0, s1, s2, s3, s4] 3) u3, .str (wordF [s0, s1, s2, s3, s4] 4) u4] 5) ∈ _ by k_mem)) hS (by omega) (by show 0 + (i : Int) < 5; omega) (by omega) ?_
          intro t32
          have e0 : (0 + (i : Int)).toNat = i := by omega
          rw [e0]
          rw [show (WDS [s0, s1, s2, s3, s4]).getD i Str.empty = wordF [s0, s1, s2, s3, s4] (i : Int) by rcases (show i = 0 ∨ i = 1 ∨ i = 2 ∨ i = 3 ∨ i = 4 by omega) with rfl | rfl | rfl | rfl | rfl <;> rfl]
          have l6 := fit6 (word_six shOk (z := (i : Int)) ⟨by omega, by omega⟩)
          k_steps
          refine LCg.CompEnd.intro F29 N29 _ ?_ off29 trivial ⟨rfl, ?_⟩
          · first | exact fun p hp => hp | lcg_sub
          · rw [List.range_succ, List.map_append]
            exact IntsAre.append hJ (.cons _ _ .nil)
        · intro ys hJ
          clear N27 F27 kp27 R27
          k_steps
          unfold Halt
          rename_i D33 h33 tk33 F33 N33 o33
          have eC : ((List.range 5).map (fun j : Nat => [s0, s1, s2, s3, s4].getD j 0 * ((wordF [s0, s1, s2, s3, s4] (j : Int)).length : Int))).sum = costI s0 s1 s2 s3 s4 := by
            show s0 * ((wordF [s0, s1, s2, s3, s4] 0).length : Int) + (s1 * ((wordF [s0, s1, s2, s3, s4] 1).length : Int) + (s2 * ((wordF [s0, s1, s2, s3, s4] 2).length : Int) + (s3 * ((wordF [s0, s1, s2, s3, s4] 3).length : Int) + (s4 * ((wordF [s0, s1, s2, s3, s4] 4).length : Int) + 0)))) = _
            rw [q0, q1, q2, q3, q4]
            unfold costI
            simp only [Int.add_zero, Int.add_assoc]
          refine LSm.sum_ints F33 N33 rfl ⟨_, News.get N33 (.head _), rfl, _, rfl⟩ hJ ?_
          intro h34 tk34 t34 F34 N34
          replace N34 : News _ _ _ _ := fun p hp => N34 p (.tail _ hp)
          rw [eC]
          clear F33 N33 o33 hJ eC
          obtain ⟨z1, z2⟩ := sh_cost shOk
          k_steps
          unfold Halt
          refine c_chp (by k_asm) (by k_asm) (by k_asm) (news_one (by k_asm) (p := (D, listOf #[.int s0 t0, .int s1 t1, .int s2 t2, .int s3 t3, .int s4 t4] 0)) (by k_mem)) (by k_asm) rfl (by ktr_room) ?_
          intro t35 v35 h35 tk35 hv35 kp35 F35
          have hle : v35 ≤ costI s0 s1 s2 s3 s4 := Int.le_trans hv35 z1
          have N35 := News.grown (by k_asm) kp35
          k_steps
          unfold Halt
          refine c_joined (by k_asm) (by k_asm) (by k_asm) (news_one (by k_asm) (p := (D, listOf #[.int s0 t0, .int s1 t1, .int s2 t2, .int s3 t3, .int s4 t4] 0)) (by k_mem)) (by k_asm) rfl (by ktr_room) (by ktr_room) ?_
          intro t36 h36 tk36 kp36 F36
          have N36 := News.grown N35 kp36
          k_steps
          rw [decide_eq_true z2]
          exact ⟨rfl, fun b o e => F36.keep b o e, ⟨_, News.get N36 (a := 83) (o := tabO ps12) (by k_mem)⟩, ⟨_, News.get N36 (a := 90) (o := tabO ps22) (by k_mem)⟩, rfl, hG22⟩
end
end Mine
theorem PySem.Challenge.cw_tv0018_01_holds : PySem.Challenge.rw_tv0018_01.Holds :=
  Mine.law0
