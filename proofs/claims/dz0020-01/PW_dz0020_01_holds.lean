import PyProof.Rows.All
import Wide.All
import OpenK.AllK
import Wide.FinOn
import PySem.Challenge.RW_dz0020_01
open PySem PySem.W PyProof.Rows
set_option Elab.async false
section
open PySem PySem.W PyProof.Rows
set_option Elab.async false
namespace Mine
set_option maxRecDepth 100000 in
set_option maxHeartbeats 8000000 in
open_top hd for PySem.Challenge.rw_dz0020_01
end Mine
end
section
open PySem PySem.W PySem.Calls PyProof.Rows
set_option Elab.async false
set_option maxRecDepth 100000
namespace Mine
theorem offDzE : True := by
  w_top off
  k_with_none
  trivial
noncomputable abbrev PR : Program := Challenge.rw_dz0020_01.row.prog
noncomputable abbrev LO : List Str := looseW hd.view_39 []
structure Cal (w : World) (env : Env) (h : Heap) : Prop where
  out : ∃ base h₀ L m mean mg mb, Below callerA base [] h₀ ∧ Fr h₀ L h m ∧ (hd.heap_39 w.params).In h₀ ∧ Top hd.view_39 LO mean mg mb h₀ ∧ env.frame = some L ∧ env.scope.kind = .function
theorem enter1 {w : World} {env : Env} {s : Shared} {f : Addr} {vs : List Value} {Q E : Value → Shared → Prop} {name qual : Str} {params : Arguments} {body : List Stmt} {scope : Scope} {dV kV doc pm cdv ct oc : Value} {an od : Option Addr} {osl : Array (Option Value)} {binds : List (Str × Value)}
    (C : Cal w env s.heap)
    (ho : (hd.heap_39 w.params).lookup f = some ⟨oc, od, .func (fnOf name qual params body scope dV kV doc pm an cdv ct), osl⟩) (hcd : codeIn (hd.heap_39 w.params) cdv qual = true)
    (hbind : BindsTo s (fnOf name qual params body scope dV kV doc pm an cdv ct) ⟨vs, []⟩ binds) (hloc : ∀ y ∈ binds, scope.names.lookup y.1 = some .local)
    (h : ∀ base mean mg mb L' h₁, Fr s.heap L' h₁ (fun y => binds.reverse.lookup y) → News s.heap L' h₁ [] → Below (callerA.deeper env) base [env] s.heap → (hd.heap_39 w.params).In s.heap → Top hd.view_39 LO mean mg mb s.heap →
      wpAny (model PR w) ((callerA.deeper env).deeper (envOf qual scope L' f cdv)) (execs body (envOf qual scope L' f cdv))
        (fun fl s' => Q (match fl with | .ret v => v | _ => .none) s')
        (fun e s' => wpAny (model PR w) ((callerA.deeper env).deeper (envOf qual scope L' f cdv)) (leaving (envOf qual scope L' f cdv) e) (fun _ s'' => E e s'') (fun e' s'' => E e' s'') s')
        { s with heap := h₁, toks := s.toks + binds.length })
    (hco : scope.isCoroutine = false) (hgen : scope.isGenerator = false) (hk : scope.kind = .function)
    (hcell : ∀ x ∈ scope.names, x.2 ≠ .cell) : wpAny (model PR w) (callerA.deeper env) (call (.ref f) vs) Q E s := by
  obtain ⟨base, h₀, L, m, mean, mg, mb, B, F, X, T, hf, hke⟩ := C.out
  have B' := pushX B F hf hke
  have X' := X.keeps F.keep
  have T' := T.keeps F.keep
  refine wpAny_call (codeAny_call_def (fd := fnOf name qual params body scope dV kV doc pm an cdv ct) (body := body) (binds := binds) (by simp only [depth_deeper, depth_caller]; decide) (X' _ _ ho) rfl T'.nolimit (codeRec_of X' hcd) rfl hbind hcell hloc (fun h₁ hns hk₁ => ?_) hco hgen hk)
  exact wpAny_mono (h base mean mg mb _ h₁ ⟨hns, hk₁, Nat.le_refl _⟩ News.nil B' X' T') (fun _ _ x => x) fun _ _ x => x
end Mine
end
section
open PySem PySem.W PySem.Calls PyProof.Rows
set_option Elab.async false
set_option maxRecDepth 100000
set_option maxHeartbeats 8000000
set_option pp.deepTerms false
set_option pp.deepTerms.threshold 6
set_option pp.maxSteps 20000
namespace Mine
theorem offDzQ : True := by
  w_top off
  k_with_none
  trivial
def quotF (b : Int) (xs : List Int) : Int × List Int :=
  xs.foldl (fun p k => ((p.1 * 64 + k).fmod b, p.2 ++ [(p.1 * 64 + k).fdiv b])) (0, [])
/-- what a def of the law's hands back: a new list of ints, all else as it stood -/
def RetL (s : Shared) (Q : Value → Shared → Prop) (zs : List Int) : Prop :=
  ∀ l vs n h' tk', s.heap.StaysIn h' → s.heap.get? l = none → h'.get? l = some (W.listOf (List.toArray vs) n) → IntsAre vs zs → Q (.ref l) { s with heap := h', toks := tk' }
theorem quot_call {w : World} {env : Env} {s : Shared} {la : Addr} {va : List Value} {xs : List Int} {b : Int} {tb : Tok} {Q E : Value → Shared → Prop}
   (C : Cal w env s.heap) (ha : s.heap.IsList la va.toArray) (hi : IntsAre va xs) (hb : 2 ≤ b) (hb' : b ≤ 64)
   (hlen : xs.length ≤ 8) (ret : RetL s Q (quotF b xs).2) :
   wpAny (model PR w) (callerA.deeper env) (call (.ref 49) [.ref la, .int b tb]) Q E s := by
  have dummy : (Challenge.rw_dz0020_01.prog, hd.heap_39) = (Challenge.rw_dz0020_01.prog, hd.heap_39) := rfl
  revert dummy
  k_fill
  intro _
  refine enter1 C (by k_is) (by k_is) (BindsTo.of_eq rfl) (locs rfl) ?_ rfl rfl rfl (by decide)
  intro base mean mg mb L' h₁ F N B X T
  dsimp only
  k_steps
  dsimp only
  rename Fr _ _ _ _ => F
  rename News _ _ _ _ => N
  exact ret _ _ _ _ _ F.keep (N.fresh (by k_mem)) (N.get (by k_mem)) (by assumption)
end Mine
end
section
open PySem PySem.W PySem.Calls PyProof.Rows
set_option Elab.async false
set_option maxRecDepth 100000
set_option maxHeartbeats 8000000
set_option pp.deepTerms false
set_option pp.deepTerms.threshold 6
set_option pp.maxSteps 20000
namespace Mine
theorem offDzS : True := by
  w_top off
  k_with_none
  trivial
def sumFold (xs ys : List Int) : Int × List Int :=
  (List.foldl
          (fun p k =>
            (if k < (xs.length : Int) ∧ k < (ys.length : Int) then
                (p.fst + (xs.getD (-1 - k + (xs.length : Int)).toNat 0 + ys.getD (-1 - k + (ys.length : Int)).toNat 0)).fdiv 64
              else
                if k < (xs.length : Int) ∧ ¬k < (ys.length : Int) then (p.fst + (xs.getD (-1 - k + (xs.length : Int)).toNat 0 + 0)).fdiv 64
                else (p.fst + (0 + ys.getD (-1 - k + (ys.length : Int)).toNat 0)).fdiv 64,
              if k < (xs.length : Int) ∧ k < (ys.length : Int) then
                p.snd ++
                  [(p.fst + (xs.getD (-1 - k + (xs.length : Int)).toNat 0 + ys.getD (-1 - k + (ys.length : Int)).toNat 0)).fmod 64]
              else
                if k < (xs.length : Int) ∧ ¬k < (ys.length : Int) then
                  p.snd ++ [(p.fst + (xs.getD (-1 - k + (xs.length : Int)).toNat 0 + 0)).fmod 64]
                else p.snd ++ [(p.fst + (0 + ys.getD (-1 - k + (ys.length : Int)).toNat 0)).fmod 64]))
          (0, []) (rangeKs 0 ((if (ys.length : Int) > (xs.length : Int) then (ys.length : Int) else (xs.length : Int)) - 0).toNat))
def sumF (xs ys : List Int) : List Int := (if 0 < (sumFold xs ys).1 then [(sumFold xs ys).1] else []) ++ (sumFold xs ys).2.reverse
theorem sum_call {w : World} {env : Env} {s : Shared} {la lc : Addr} {va vc : List Value} {xs ys : List Int} {Q E : Value → Shared → Prop}
   (C : Cal w env s.heap) (ha : s.heap.IsList la va.toArray) (hi : IntsAre va xs) (hc : s.heap.IsList lc vc.toArray) (hj : IntsAre vc ys)
   (hlen : xs.length ≤ 1000) (hlen2 : ys.length ≤ 1000) (ret : RetL s Q (sumF xs ys)) :
   wpAny (model PR w) (callerA.deeper env) (call (.ref 35) [.ref la, .ref lc]) Q E s := by
  have dummy : (Challenge.rw_dz0020_01.prog, hd.heap_39) = (Challenge.rw_dz0020_01.prog, hd.heap_39) := rfl
  revert dummy
  k_fill
  intro _
  refine enter1 C (by k_is) (by k_is) (BindsTo.of_eq rfl) (locs rfl) ?_ rfl rfl rfl (by decide)
  intro base mean mg mb L' h₁ F N B X T
  dsimp only
  k_steps
  all_goals (
    dsimp only
    rename Fr _ _ _ _ => F
    rename News _ _ _ _ => N
    refine ret _ _ _ _ _ F.keep (N.fresh (by k_mem)) (N.get (by k_mem)) ?_
    unfold sumF sumFold
    first | (rw [if_pos (by assumption)]; assumption) | (rw [if_neg (by assumption)]; assumption))
end Mine
end
section
open PySem PySem.W PySem.Calls PyProof.Rows
set_option Elab.async false
set_option maxRecDepth 100000
set_option maxHeartbeats 8000000
set_option pp.deepTerms true
set_option pp.deepTerms.threshold 6
set_option pp.maxSteps 20000
namespace Mine
theorem offDzP : True := by
  w_top off
  k_with_none
  trivial
/-- a product that the walk's arithmetic doesn't look into -/
@[irreducible] def mulI (a b : Int) : Int := a * b
theorem mulI_eq (a b : Int) : mulI a b = a * b := by unfold mulI; rfl
theorem mul_intI {w : World} {A : Around} {s : Shared} {a b : Int} {t u : Tok} {Q E : Value → Shared → Prop} (h : Q (.int (mulI a b) s.toks) { s with toks := s.toks + 1 }) (hm : IntMulOk a b) : wpAny (model PR w) A (binaryOp .Mult (.int a t) (.int b u)) Q E s :=
  mul_int (by rw [mulI_eq] at h; exact h) hm
def pIn (xs ys : List Int) (i : Int) (p : Int × List Int) (j : Int) : Int × List Int :=
  let c := p.1 + (p.2.getD (i + j).toNat 0 + mulI (xs.getD (-1 - i + (xs.length : Int)).toNat 0) (ys.getD (-1 - j + (ys.length : Int)).toNat 0))
  (c.fdiv 64, p.2.set (i + j).toNat (c.fmod 64))
def pOut (xs ys : List Int) (out : List Int) (i : Int) : List Int :=
  let p := (rangeKs 0 ys.length).foldl (pIn xs ys i) (0, out)
  p.2.set (i + ys.length).toNat p.1
def prodFold (xs ys : List Int) : List Int :=
  (rangeKs 0 xs.length).foldl (pOut xs ys) (List.replicate (xs.length + ys.length) 0)
structure PO (xs ys pre out : List Int) : Prop where
  eq : out = pre.foldl (pOut xs ys) (List.replicate (xs.length + ys.length) 0)
  len : out.length = xs.length + ys.length
structure PI (xs ys : List Int) (i : Int) (out0 pre : List Int) (carry : Int) (out : List Int) : Prop where
  eq : (carry, out) = pre.foldl (pIn xs ys i) (0, out0)
  len : out.length = xs.length + ys.length
theorem po_start {xs ys : List Int} : PO xs ys [] ((List.replicate ((xs.length : Int) + (ys.length : Int)).toNat [0]).flatten) := by
  have e : ((xs.length : Int) + (ys.length : Int)).toNat = xs.length + ys.length := by omega
  rw [e]
  have : ∀ n, (List.replicate n [(0 : Int)]).flatten = List.replicate n 0 := by
    intro n; induction n with
    | zero => rfl
    | succ n ih => simp [List.replicate_succ, ih]
  rw [this]
  exact ⟨rfl, by simp⟩
theorem pi_start {xs ys out0 : List Int} {i : Int} (h : out0.length = xs.length + ys.length) : PI xs ys i out0 [] 0 out0 := ⟨rfl, h⟩
theorem pi_step {xs ys out0 pre out : List Int} {i k carry : Int} (h : PI xs ys i out0 pre carry out) :
    PI xs ys i out0 (pre ++ [k]) ((carry + (out.getD (i + k).toNat 0 + mulI (xs.getD (-1 - i + (xs.length : Int)).toNat 0) (ys.getD (-1 - k + (ys.length : Int)).toNat 0))).fdiv 64)
      (out.set (i + k).toNat ((carry + (out.getD (i + k).toNat 0 + mulI (xs.getD (-1 - i + (xs.length : Int)).toNat 0) (ys.getD (-1 - k + (ys.length : Int)).toNat 0))).fmod 64)) := by
  obtain ⟨h1, h2⟩ := h
  refine ⟨?_, by simpa using h2⟩
  rw [List.foldl_append, ← h1]; rfl
theorem po_step {xs ys out0 pre out : List Int} {i carry : Int} (h : PO xs ys pre out0) (h' : PI xs ys i out0 (rangeKs 0 ((ys.length : Int) - 0).toNat) carry out) :
    PO xs ys (pre ++ [i]) (out.set (i + (ys.length : Int)).toNat carry) := by
  obtain ⟨h1, h2⟩ := h
  obtain ⟨h3, h4⟩ := h'
  refine ⟨?_, by simpa using h4⟩
  have e : ((ys.length : Int) - 0).toNat = ys.length := by omega
  rw [e] at h3
  rw [List.foldl_append, ← h1]
  simp only [List.foldl_cons, List.foldl_nil, pOut]
  rw [← h3]
def Dig (xs : List Int) : Prop := ∀ x ∈ xs, 0 ≤ x ∧ x < 64
theorem Dig.getD {xs : List Int} (h : Dig xs) (j : Nat) : 0 ≤ xs.getD j 0 ∧ xs.getD j 0 < 64 := by
  rw [List.getD_eq_getElem?_getD]
  cases e : xs[j]? with
  | none => decide
  | some v => exact h v (List.mem_of_getElem? e)
theorem Dig.mulOk {xs : List Int} (h : Dig xs) {j : Nat} {b : Int} : IntMulOk (xs.getD j 0) b := by
  have := h.getD j
  exact IntMulOk.of_left (intBits_le_iff.mpr (by omega))
def Stop (P : Prop) : Prop := P
theorem Stop.mk {P : Prop} (h : Stop P) : P := h
theorem prod_call {w : World} {env : Env} {s : Shared} {la lc : Addr} {va vc : List Value} {xs ys : List Int} {Q E : Value → Shared → Prop}
   (C : Cal w env s.heap) (ha : s.heap.IsList la va.toArray) (hi : IntsAre va xs) (hc : s.heap.IsList lc vc.toArray) (hj : IntsAre vc ys)
   (hdx : Dig xs) (hlen : xs.length ≤ 1000) (hlen2 : ys.length ≤ 1000) (ret : RetL s Q ((prodFold xs ys).reverse)) :
   wpAny (model PR w) (callerA.deeper env) (call (.ref 28) [.ref la, .ref lc]) Q E s := by
  have dummy : (Challenge.rw_dz0020_01.prog, hd.heap_39) = (Challenge.rw_dz0020_01.prog, hd.heap_39) := rfl
  revert dummy
  k_fill
  intro _
  refine enter1 C (by k_is) (by k_is) (BindsTo.of_eq rfl) (locs rfl) ?_ rfl rfl rfl (by decide)
  intro base mean mg mb L' h₁ F N B X T
  dsimp only
  k_with "binaryOp Mult int int" => ((with_reducible refine mul_intI ?_ (Dig.mulOk (by assumption))); (try dsimp only))
  k_with "pyIter ref" => (refine Stop.mk ?_)
  k_with "state" => (exact po_start)
  k_steps
  unfold Stop
  k_state (fun pre out => PO xs ys pre out) "out"
  · rename PO _ _ _ _ => hPO
    have hol := hPO.len
    k_steps
    unfold Stop
    k_with "state" => (first | exact pi_start (by assumption) | exact pi_step (by assumption) | exact po_step (by assumption) (by assumption))
    k_state_given ["i", "out!"] (fun i out0 pre carry out => PI xs ys i out0 pre carry out) "carry" "out"
    · rename PI _ _ _ _ _ _ _ => hPI
      have hol2 := hPI.len
      k_with "exec Assign" => (refine Stop.mk ?_)
      k_steps
      unfold Stop
      rename Fr _ _ _ _ => F
      try dsimp only at F
      k_with_none
      k_with "InvPostN" => (refine Stop.mk ?_)
      k_steps
      unfold Stop
      dsimp only [InvPostN]
      rename Fr _ _ _ _ => F
      rename News _ _ _ _ => N
      rename IntsAre _ _ => HI
      try dsimp only at F
      try dsimp only at N
      try dsimp only at HI
      refine' kst_end ⟨_, _, _, _, _⟩ F N ?hn ?ho ?ha ?hf ?hk ?hr ?hp
      case hn => kst_inAny
      case hf => exact HI
      case hk => kst_all
      case ha => rfl
      case ho => first | (intro p hp; kst_mem) | kst_anyIn
      case hp => exact pi_step hPI
      case hr =>
        intro z h1 h2 h3
        have h4 := h2 _ (.head _)
        dsimp only at h4
        simp only [if_neg h1, if_neg h4, h3, if_false, Bool.false_eq_true]
    · rename PI _ _ _ _ _ _ _ => hPI
      have hol2 := hPI.len
      k_with_none
      k_with "InvPostN" => (refine Stop.mk ?_)
      k_steps
      unfold Stop
      dsimp only [InvPostN]
      rename Fr _ _ _ _ => F
      rename News _ _ _ _ => N
      rename IntsAre _ _ => HI
      try dsimp only at F
      try dsimp only at N
      try dsimp only at HI
      refine' kst_end ⟨_, _, _⟩ F N ?hn ?ho ?ha ?hf ?hk ?hr ?hp
      case hn => kst_inAny
      case hf => exact HI
      case hk => kst_all
      case ha => rfl
      case ho => first | (intro p hp; kst_mem) | kst_anyIn
      case hp => exact po_step hPO hPI
      case hr =>
        intro z h1 h2 h3
        have h4 := h3
        simp only [List.contains_cons, List.contains_nil, Bool.or_false, Bool.or_eq_false_iff, beq_eq_false_iff_ne, ne_eq] at h4
        simp only [if_neg h1, if_neg h4.1, if_neg h4.2, h3, if_false, Bool.false_eq_true, List.contains_nil]
  · rename PO _ _ _ _ => hPO
    have hol := hPO.len
    k_with_none
    k_steps
    dsimp only
    rename Fr _ _ _ _ => F
    rename News _ _ _ _ => N
    refine ret _ _ _ _ _ F.keep (N.fresh (by k_mem)) (N.get (by k_mem)) ?_
    have e := hPO.eq
    have e' : ((xs.length : Int) - 0).toNat = xs.length := by omega
    rw [e'] at e
    subst e
    assumption
end Mine
end
section
open PySem PySem.W PySem.Calls PyProof.Rows
set_option Elab.async false
set_option maxRecDepth 100000
namespace Mine
theorem offDzEC : True := by
  w_top off
  k_with_none
  trivial
theorem enter1C {w : World} {env : Env} {s : Shared} {f : Addr} {vs : List Value} {Q E : Value → Shared → Prop} {name qual : Str} {params : Arguments} {body : List Stmt} {scope : Scope} {dV kV doc pm cdv ct oc : Value} {an od : Option Addr} {osl : Array (Option Value)} {binds : List (Str × Value)}
    (C : Cal w env s.heap)
    (ho : (hd.heap_39 w.params).lookup f = some ⟨oc, od, .func (fnOf name qual params body scope dV kV doc pm an cdv ct), osl⟩) (hcd : codeIn (hd.heap_39 w.params) cdv qual = true)
    (hbind : BindsTo s (fnOf name qual params body scope dV kV doc pm an cdv ct) ⟨vs, []⟩ binds)
    (hkind : (binds.all fun y => scope.names.lookup y.1 == some .local || scope.names.lookup y.1 == some .cell) = true)
    (hnd : ((cellsFrom 0 scope.names []).map (·.1)).Nodup)
    (h : ∀ base mean mg mb L' h₁ tk cells, Fr s.heap L' h₁ (bindL (envOfC qual scope L' f cdv).kindOf binds fun _ => none) → News s.heap L' h₁ cells →
      CellsAre (bindC (envOfC qual scope L' f cdv).kindOf binds fun _ => none) (cellsFrom (L' + 1) scope.names []) cells → Below (callerA.deeper env) base [env] s.heap → (hd.heap_39 w.params).In s.heap → Top hd.view_39 LO mean mg mb s.heap →
      wpAny (model PR w) ((callerA.deeper env).deeper (envOfC qual scope L' f cdv)) (execs body (envOfC qual scope L' f cdv))
        (fun fl s' => Q (match fl with | .ret v => v | _ => .none) s')
        (fun e s' => wpAny (model PR w) ((callerA.deeper env).deeper (envOfC qual scope L' f cdv)) (leaving (envOfC qual scope L' f cdv) e) (fun _ s'' => E e s'') (fun e' s'' => E e' s'') s')
        { s with heap := h₁, toks := tk })
    (hco : scope.isCoroutine = false) (hgen : scope.isGenerator = false) (hk : scope.kind = .function) :
    wpAny (model PR w) (callerA.deeper env) (call (.ref f) vs) Q E s := by
  obtain ⟨base, h₀, L, m, mean, mg, mb, B, F, X, T, hf, hke⟩ := C.out
  have B' := pushX B F hf hke
  have X' := X.keeps F.keep
  have T' := T.keeps F.keep
  refine wpAny_call (codeAny_call_function (by simp only [depth_deeper, depth_caller]; decide) (X' _ _ ho) rfl hco hgen rfl (codeRec_of X' hcd) (hbind _ _ _ _ ?_))
  refine wpAny_newFunctionEnv_cells hk (kindsX hkind _) fun env' he s' x => ?_
  subst he
  have kept := x.toInCall.keep
  refine ⟨T'.nolimit.keeps kept, codeAny_func ?_⟩
  obtain ⟨h₁, tk, rfl, _⟩ := x.done
  obtain ⟨cells, NC, Y⟩ := Cl.news (h₀ := s.heap) (Nat.le_refl _) fun n c hm =>
    ⟨x.cell n c (lookup_of_mem_nodup (cellsFrom_names scope.names 0 (s.heap.objs.size + 1) [] [] rfl ▸ hnd) hm), x.above n c hm⟩
  exact wpAny_mono (h base mean mg mb _ h₁ tk cells ⟨x.toInCall.ns, kept, Nat.le_refl _⟩ NC Y B' X' T') (fun _ _ y => y) fun _ _ y => y
end Mine
end
section
open PySem PySem.W PySem.Calls PyProof.Rows
set_option Elab.async false
set_option maxRecDepth 100000
set_option maxHeartbeats 8000000
namespace Mine
theorem offDzO : True := by
  w_top off
  k_with_none
  trivial
def octF (xs : List Int) (mk : Int) : List Int :=
  List.map
    (fun k' =>
      if 0 ≤ Int.fmod k' 7 ∧ Int.fmod k' 7 < 7 then
        (List.map (fun k' => k' + 64) (List.take (xs.length - 1) xs) ++ List.drop (xs.length - 1) xs).getD (Int.toNat k') 0 +
          128 * (mk.fdiv (2 ^ (Int.fmod k' 7).toNat)).fmod 2
      else k')
    (rangeKs 0
      ((((List.map (fun k' => k' + 64) (List.take (xs.length - 1) xs)).length + (List.drop (xs.length - 1) xs).length : Nat) : Int) -
          0).toNat)
theorem oct_call {w : World} {env : Env} {s : Shared} {la : Addr} {va : List Value} {xs : List Int} {mk : Int} {tm : Tok} {Q E : Value → Shared → Prop}
   (C : Cal w env s.heap) (ha : s.heap.IsList la va.toArray) (hi : IntsAre va xs)
   (hlen : xs.length ≤ 1000) (hne : 1 ≤ xs.length) (hm : 0 ≤ mk) (hm2 : mk < 128) (ret : RetL s Q (octF xs mk)) :
   wpAny (model PR w) (callerA.deeper env) (call (.ref 54) [.ref la, .int mk tm]) Q E s := by
  have dummy : (Challenge.rw_dz0020_01.prog, hd.heap_39) = (Challenge.rw_dz0020_01.prog, hd.heap_39) := rfl
  revert dummy
  k_fill
  intro _
  refine enter1C C (by k_is) (by k_is) (BindsTo.of_eq rfl) rfl (by decide +kernel) ?_ rfl rfl rfl
  intro base mean mg mb L' h₁ tk cells F N Y B X T
  k_cells Y
  try dsimp only
  k_with_none
  k_steps
  rename Fr _ _ _ _ => F
  rename News _ _ _ _ => N
  exact ret _ _ _ _ _ F.keep (N.fresh (by k_mem)) (N.get (by k_mem)) (by assumption)
end Mine
end
section
open PySem PySem.W PySem.Calls PyProof.Rows
open PySem.AutoSeq1 (wpAny_loadPart')
open PySem.MeetsSeq3 (plain_eq_loop entry_eq_loop)
set_option Elab.async false
set_option maxRecDepth 100000
set_option maxHeartbeats 4000000
namespace Mine
theorem offDzM : True := by
  w_top off
  k_with_none
  trivial
def gtL : List Int → List Int → Bool
  | x :: xs, y :: ys => if x == y then gtL xs ys else decide (x > y)
  | [], ys => decide (0 > ys.length)
  | xs, [] => decide (xs.length > 0)
def ltL : List Int → List Int → Bool
  | x :: xs, y :: ys => if x == y then ltL xs ys else decide (x < y)
  | [], ys => decide (0 < ys.length)
  | xs, [] => decide (xs.length < 0)
theorem cmp_loop_gt (l b : Addr) (vs us : List Value) (xs ys : List Int) (hi : IntsAre vs xs) (hj : IntsAre us ys) (n n2 : Nat) (hl12 : xs.length = ys.length) (k : Nat) :
    ∀ i : Nat, xs.length - i = k → i ≤ xs.length → Meets (Builtin.«list.__eq__.loop» ⟨[.ref l, .ref b, rawInt i, rawInt 4], []⟩)
      (fun _ R s => s.heap.get? l = some { cls := .type "list", dict := none, data := .seq vs.toArray n, slots := #[] } ∧ s.heap.get? b = some { cls := .type "list", dict := none, data := .seq us.toArray n2, slots := #[] } ∧
        R (.ok (.ret (.bool (gtL (xs.drop i) (ys.drop i))))) s) := by
  have e1 := hi.length
  have e2 := hj.length
  induction k with
  | zero =>
    intro i hk hle prog w A R s h
    obtain ⟨hp, g, d, tk, os⟩ := s; obtain ⟨hl, hb, h⟩ := h
    wp_walk using wpAny_loadPart' hl, wpAny_loadPart' hb
    have hi1 : vs.toArray[((i : Nat) : Int).toNat]? = none := by simp; omega
    have hi2 : us.toArray[((i : Nat) : Int).toNat]? = none := by simp; omega
    have hd : xs.drop i = [] := by simp; omega
    have hd2 : ys.drop i = [] := by simp; omega
    rw [hd, hd2] at h
    rw [hi1, hi2]
    wp_walk using wpAny_loadPart' hl, wpAny_loadPart' hb
    show R (.ok (.ret (.bool (decide (vs.toArray.size > us.toArray.size))))) _
    have : decide (vs.toArray.size > us.toArray.size) = gtL [] [] := by simp [gtL]; omega
    rw [this]; exact h
  | succ k ih =>
    intro i hk hle prog w A R s h
    obtain ⟨hp, g, d, tk, os⟩ := s; obtain ⟨hl, hb, h⟩ := h
    wp_walk using wpAny_loadPart' hl, wpAny_loadPart' hb
    have hlt : i < xs.length := by omega
    have hlt2 : i < ys.length := by omega
    obtain ⟨t, hx⟩ := hi.get i xs[i] (by simp [hlt])
    obtain ⟨u, hy⟩ := hj.get i ys[i] (by simp [hlt2])
    have hi1 : vs.toArray[((i : Nat) : Int).toNat]? = some (.int xs[i] t) := by simpa using hx
    have hi2 : us.toArray[((i : Nat) : Int).toNat]? = some (.int ys[i] u) := by simpa using hy
    have hd : xs.drop i = xs[i] :: xs.drop (i + 1) := by simp
    have hd2 : ys.drop i = ys[i] :: ys.drop (i + 1) := by simp
    have hc : ((i : Int) + 1) = ((i + 1 : Nat) : Int) := by push_cast; rfl
    rw [hd, hd2, gtL] at h
    rw [hi1, hi2]
    refine wpAny_bind (wpAny_eqBool_int ?_)
    cases hb' : (xs[i] == ys[i]) with
    | true =>
      rw [hb'] at h
      wp_walk
      rw [hc]
      exact ⟨plainId_quiet plain_eq_loop _, codeAny_builtin entry_eq_loop (by
        rw [Around.under_plainId plain_eq_loop _]
        exact ih (i + 1) (by omega) (by omega) prog w A R _ ⟨hl, hb, by simpa using h⟩)⟩
    | false =>
      rw [hb'] at h
      wp_walk using wpAny_loadPart' hl, wpAny_loadPart' hb
      rw [hi1, hi2]
      refine wpAny_bind (richCompare_gives (op := .Gt) (typeIs_int _ _ t) (typeIs_int _ _ u) F.slot_int_gt F.entry_int_gt (F.args_int_gt_2 _ _) (gives_int_gt _ _ t u) (fun x => nomatch x) ?_)
      change wpAny _ _ _ _ _ _
      wp_walk
      simpa using h
section
variable {prog : Program} {w : World} {A : Around} {E : Value → Shared → Prop} {s : Shared}
theorem list_gt_tree (l b : Addr) (vs us : List Value) (xs ys : List Int) (hi : IntsAre vs xs) (hj : IntsAre us ys) (n n2 : Nat) (hl12 : xs.length = ys.length) :
    Meets (Builtin.«list.__gt__» ⟨[.ref l, .ref b], []⟩)
      (fun _ R s => s.heap.get? l = some { cls := .type "list", dict := none, data := .seq vs.toArray n, slots := #[] } ∧ s.heap.get? b = some { cls := .type "list", dict := none, data := .seq us.toArray n2, slots := #[] } ∧
        R (.ok (.ret (.bool (gtL xs ys)))) s) := by
  intro prog w A R s h
  obtain ⟨hp, g, d, tk, os⟩ := s; obtain ⟨hl, hb, h⟩ := h
  have f3 := AutoSeq1.sub_list_list
  wp_walk using wpAny_loadPart' hl, wpAny_loadPart' hb
  exact ⟨plainId_quiet plain_eq_loop _, codeAny_builtin entry_eq_loop (by
    rw [Around.under_plainId plain_eq_loop _]
    exact cmp_loop_gt l b vs us xs ys hi hj n n2 hl12 _ 0 rfl (Nat.zero_le _) prog w A R _ ⟨hl, hb, by simpa using h⟩)⟩
theorem list_gt_cmp {l b : Addr} {vs us : List Value} {xs ys : List Int} (hi : IntsAre vs xs) (hj : IntsAre us ys) {n n2 : Nat} (hl12 : xs.length = ys.length) (hu : A.units < cLine) {Q : Value → Shared → Prop}
    (hl : s.heap.get? l = some (W.listOf vs.toArray n)) (hb : s.heap.get? b = some (W.listOf us.toArray n2)) (h : Q (.bool (gtL xs ys)) s) :
    wpAny (model prog w) A (richCompare .Gt (.ref l) (.ref b)) Q E s :=
  richCompare_meets_room ⟨_, hl, rfl⟩ ⟨_, hb, rfl⟩ F.slot_list_gt F.entry_list_gt (F.args_list_gt_2 _ _) (list_gt_tree l b vs us xs ys hi hj n n2 hl12) ⟨hl, hb, (fun x => nomatch x), h⟩ hu
end
theorem cmp_loop_lt (l b : Addr) (vs us : List Value) (xs ys : List Int) (hi : IntsAre vs xs) (hj : IntsAre us ys) (n n2 : Nat) (hl12 : xs.length = ys.length) (k : Nat) :
    ∀ i : Nat, xs.length - i = k → i ≤ xs.length → Meets (Builtin.«list.__eq__.loop» ⟨[.ref l, .ref b, rawInt i, rawInt 0], []⟩)
      (fun _ R s => s.heap.get? l = some { cls := .type "list", dict := none, data := .seq vs.toArray n, slots := #[] } ∧ s.heap.get? b = some { cls := .type "list", dict := none, data := .seq us.toArray n2, slots := #[] } ∧
        R (.ok (.ret (.bool (ltL (xs.drop i) (ys.drop i))))) s) := by
  have e1 := hi.length
  have e2 := hj.length
  induction k with
  | zero =>
    intro i hk hle prog w A R s h
    obtain ⟨hp, g, d, tk, os⟩ := s; obtain ⟨hl, hb, h⟩ := h
    wp_walk using wpAny_loadPart' hl, wpAny_loadPart' hb
    have hi1 : vs.toArray[((i : Nat) : Int).toNat]? = none := by simp; omega
    have hi2 : us.toArray[((i : Nat) : Int).toNat]? = none := by simp; omega
    have hd : xs.drop i = [] := by simp; omega
    have hd2 : ys.drop i = [] := by simp; omega
    rw [hd, hd2] at h
    rw [hi1, hi2]
    wp_walk using wpAny_loadPart' hl, wpAny_loadPart' hb
    show R (.ok (.ret (.bool (decide (vs.toArray.size < us.toArray.size))))) _
    have : decide (vs.toArray.size < us.toArray.size) = ltL [] [] := by simp [ltL]; omega
    rw [this]; exact h
  | succ k ih =>
    intro i hk hle prog w A R s h
    obtain ⟨hp, g, d, tk, os⟩ := s; obtain ⟨hl, hb, h⟩ := h
    wp_walk using wpAny_loadPart' hl, wpAny_loadPart' hb
    have hlt : i < xs.length := by omega
    have hlt2 : i < ys.length := by omega
    obtain ⟨t, hx⟩ := hi.get i xs[i] (by simp [hlt])
    obtain ⟨u, hy⟩ := hj.get i ys[i] (by simp [hlt2])
    have hi1 : vs.toArray[((i : Nat) : Int).toNat]? = some (.int xs[i] t) := by simpa using hx
    have hi2 : us.toArray[((i : Nat) : Int).toNat]? = some (.int ys[i] u) := by simpa using hy
    have hd : xs.drop i = xs[i] :: xs.drop (i + 1) := by simp
    have hd2 : ys.drop i = ys[i] :: ys.drop (i + 1) := by simp
    have hc : ((i : Int) + 1) = ((i + 1 : Nat) : Int) := by push_cast; rfl
    rw [hd, hd2, ltL] at h
    rw [hi1, hi2]
    refine wpAny_bind (wpAny_eqBool_int ?_)
    cases hb' : (xs[i] == ys[i]) with
    | true =>
      rw [hb'] at h
      wp_walk
      rw [hc]
      exact ⟨plainId_quiet plain_eq_loop _, codeAny_builtin entry_eq_loop (by
        rw [Around.under_plainId plain_eq_loop _]
        exact ih (i + 1) (by omega) (by omega) prog w A R _ ⟨hl, hb, by simpa using h⟩)⟩
    | false =>
      rw [hb'] at h
      wp_walk using wpAny_loadPart' hl, wpAny_loadPart' hb
      rw [hi1, hi2]
      refine wpAny_bind (richCompare_gives (op := .Lt) (typeIs_int _ _ t) (typeIs_int _ _ u) F.slot_int_lt F.entry_int_lt (F.args_int_lt_2 _ _) (gives_int_lt _ _ t u) (fun x => nomatch x) ?_)
      change wpAny _ _ _ _ _ _
      wp_walk
      simpa using h
section
variable {prog : Program} {w : World} {A : Around} {E : Value → Shared → Prop} {s : Shared}
theorem list_lt_tree (l b : Addr) (vs us : List Value) (xs ys : List Int) (hi : IntsAre vs xs) (hj : IntsAre us ys) (n n2 : Nat) (hl12 : xs.length = ys.length) :
    Meets (Builtin.«list.__lt__» ⟨[.ref l, .ref b], []⟩)
      (fun _ R s => s.heap.get? l = some { cls := .type "list", dict := none, data := .seq vs.toArray n, slots := #[] } ∧ s.heap.get? b = some { cls := .type "list", dict := none, data := .seq us.toArray n2, slots := #[] } ∧
        R (.ok (.ret (.bool (ltL xs ys)))) s) := by
  intro prog w A R s h
  obtain ⟨hp, g, d, tk, os⟩ := s; obtain ⟨hl, hb, h⟩ := h
  have f3 := AutoSeq1.sub_list_list
  wp_walk using wpAny_loadPart' hl, wpAny_loadPart' hb
  exact ⟨plainId_quiet plain_eq_loop _, codeAny_builtin entry_eq_loop (by
    rw [Around.under_plainId plain_eq_loop _]
    exact cmp_loop_lt l b vs us xs ys hi hj n n2 hl12 _ 0 rfl (Nat.zero_le _) prog w A R _ ⟨hl, hb, by simpa using h⟩)⟩
theorem list_lt_cmp {l b : Addr} {vs us : List Value} {xs ys : List Int} (hi : IntsAre vs xs) (hj : IntsAre us ys) {n n2 : Nat} (hl12 : xs.length = ys.length) (hu : A.units < cLine) {Q : Value → Shared → Prop}
    (hl : s.heap.get? l = some (W.listOf vs.toArray n)) (hb : s.heap.get? b = some (W.listOf us.toArray n2)) (h : Q (.bool (ltL xs ys)) s) :
    wpAny (model prog w) A (richCompare .Lt (.ref l) (.ref b)) Q E s :=
  richCompare_meets_room ⟨_, hl, rfl⟩ ⟨_, hb, rfl⟩ F.slot_list_lt F.entry_list_lt (F.args_list_lt_2 _ _) (list_lt_tree l b vs us xs ys hi hj n n2 hl12) ⟨hl, hb, (fun x => nomatch x), h⟩ hu
end
end Mine
end
section
open PySem PySem.W PySem.Calls PyProof.Rows
set_option Elab.async false
set_option maxRecDepth 100000
set_option maxHeartbeats 4000000
namespace Mine
theorem offDzMM : True := by
  w_top off
  k_with_none
  trivial
section
variable {prog : Program} {w : World} {A : Around} {E : Value → Shared → Prop} {s : Shared}
theorem max_loop_end {I S ax : Addr} {vb v1 v2 : Value} {c : Nat} {R : Result → Shared → Prop} (hh : A.handled = none) (hne : ax ≠ I) (hSI : S ≠ I)
    (hst : s.heap.IsTupleIter I ax 2 ∧ s.heap.IsTuple ax #[v1, v2]) (hS : s.heap.get? S = some { cls := .type "list", dict := none, data := .seq #[vb, vb] c, slots := #[] })
    (hR : ∀ h' tk, (∀ b o, b ≠ I → b ≠ S → s.heap.get? b = some o → h'.get? b = some o) → R (.ok (.ret vb)) { s with heap := h', toks := tk }) :
    codeAny (model prog w) A (.builtin "max.loop" ⟨[.ref I, .none, .ref S], []⟩) R s := by
  have W := Walks.tuple (prog := prog) (w := w) (A := A.in1) hh I ax hne #[v1, v2]
  refine codeAny_builtin F.entry_max_loop ?_
  rw [Around.under_plainId F.plain_max_loop _]
  show wpAny _ A.in1 (seqItems? (.ref S) >>= _) _ _ s
  refine wpAny_bind (wpAny_seqItems hS rfl ?_)
  show wpAny _ A.in1 (tryCatch (pyNext (.ref I)) _ >>= _) _ _ s
  refine wpAny_bind (wpAny_tryCatch (W.done s _ _ hst fun h' tk hk' => ?_))
  have hS' := hk' S _ (by simpa using hSI) hS
  show wpAny _ A.in1 (updateSeq S (fun _ => #[]) >>= _) _ _ _
  refine wpAny_bind ?_
  refine wpAny_updateSeq hS' rfl (wpAny_bind (wpAny_letGo (wpAny_pure ?_)))
  exact hR _ tk fun b o hbI hbS e => (Heap.get?_update_other _ _ (Ne.symm hbS)).trans (hk' b o (by simpa using hbI) e)
theorem max_loop_two {I S ax : Addr} {v1 v2 : Value} {c : Nat} {R : Result → Shared → Prop} (bt : Bool) (hh : A.handled = none) (hne : ax ≠ I) (hSI : S ≠ I) (hSx : S ≠ ax) {h0 : Heap} (hI0 : h0.get? I = none) (hS0 : h0.get? S = none) (hst0 : h0.StaysIn s.heap)
    (hcmp : ∀ (s' : Shared) (Q' E' : Value → Shared → Prop), h0.StaysIn s'.heap → Q' (.bool bt) s' → wpAny (model prog w) A.in1 (richCompare .Gt v2 v1) Q' E' s')
    (hst : s.heap.IsTupleIter I ax 1 ∧ s.heap.IsTuple ax #[v1, v2]) (hS : s.heap.get? S = some { cls := .type "list", dict := none, data := .seq #[v1, v1] c, slots := #[] })
    (hR : ∀ h' tk, h0.StaysIn h' → R (.ok (.ret (if bt then v2 else v1))) { s with heap := h', toks := tk }) :
    codeAny (model prog w) A (.builtin "max.loop" ⟨[.ref I, .none, .ref S], []⟩) R s := by
  have W := Walks.tuple (prog := prog) (w := w) (A := A.in1) hh I ax hne #[v1, v2]
  have hname : (toString "max" ++ toString ".loop" : String) = "max.loop" := by decide
  have off : ∀ b o, h0.get? b = some o → b ≠ I ∧ b ≠ S := fun b o e => ⟨fun q => (by rw [q, hI0] at e; cases e), fun q => (by rw [q, hS0] at e; cases e)⟩
  refine codeAny_builtin F.entry_max_loop ?_
  rw [Around.under_plainId F.plain_max_loop _]
  show wpAny _ A.in1 (seqItems? (.ref S) >>= _) _ _ s
  refine wpAny_bind (wpAny_seqItems hS rfl ?_)
  show wpAny _ A.in1 (tryCatch (pyNext (.ref I)) _ >>= _) _ _ s
  refine wpAny_bind (wpAny_tryCatch (W.item 1 s _ _ (by simp) hst fun v h' tk hP hst' hk' => ?_))
  have hv : v = v2 := by simpa using hP.symm
  subst hv
  have hS' := hk' S _ (by simpa using hSI) hS
  have k1 : h0.StaysIn h' := fun b o e => hk' b o (by simpa using (off b o e).1) (hst0 b o e)
  show wpAny _ A.in1 (tryCatch (holding [v, v] (richCompare .Gt v v1 >>= _)) _ >>= _) _ _ _
  refine wpAny_bind (wpAny_tryCatch (wpAny_holding (wpAny_bind (hcmp _ _ _ k1 ?_))))
  refine wpAny_bind (wpAny_holding (wpAny_truthy_bool ?_))
  refine wpAny_bind (wpAny_letGo (wpAny_pure ?_))
  cases bt with
  | true =>
    simp only [if_true]
    refine wpAny_bind ?_
    refine wpAny_updateSeq hS' rfl (wpAny_bind (wpAny_letGo ?_))
    rw [hname]
    refine wpAny_pure ⟨plainId_quiet F.plain_max_loop _, max_loop_end (v1 := v1) (v2 := v) hh hne hSI (W.frame _ _ _ hst' fun b hbf o e => ?_) (Heap.get?_update_self _ hS' rfl) fun h'' tk'' hk'' => ?_⟩
    · refine (Heap.get?_update_other _ _ ?_).trans e
      rintro rfl
      simp at hbf
      rcases hbf with q | q
      · exact hSI q
      · exact hSx q
    · refine hR h'' tk'' fun b o e => ?_
      exact hk'' b o (off b o e).1 (off b o e).2 ((Heap.get?_update_other _ _ (Ne.symm (off b o e).2)).trans (k1 b o e))
  | false =>
    simp only [Bool.false_eq_true, if_false]
    refine wpAny_bind (wpAny_letGo ?_)
    rw [hname]
    refine wpAny_pure ⟨plainId_quiet F.plain_max_loop _, max_loop_end (v1 := v1) (v2 := v) hh hne hSI hst' hS' fun h'' tk'' hk'' => ?_⟩
    exact hR h'' tk'' fun b o e => hk'' b o (off b o e).1 (off b o e).2 (k1 b o e)
theorem max_two_by {v1 v2 : Value} {Q : Value → Shared → Prop} (bt : Bool) (hh : A.handled = none)
    (hcmp : ∀ (s' : Shared) (Q' E' : Value → Shared → Prop), s.heap.StaysIn s'.heap → Q' (.bool bt) s' → wpAny (model prog w) A.in1 (richCompare .Gt v2 v1) Q' E' s')
    (h : ∀ h' tk, s.heap.StaysIn h' → Q (if bt then v2 else v1) { s with heap := h', toks := tk }) :
    wpAny (model prog w) A (call (.builtin "max") [v1, v2]) Q E s := by
  have hname : (toString "max" ++ toString ".loop" : String) = "max.loop" := by decide
  refine call_function_tree F.kind_max F.plain_max F.entry_max (F.args_max2 _ _) ?_
  show wpAny _ A.in1 (Builtin.Builtins.bindParams "max" ["key", "default"] 0 ⟨[], []⟩ >>= _) _ _ s
  refine wpAny_bind (wpAny_of_eq (show Builtin.Builtins.bindParams "max" ["key", "default"] 0 ⟨[], []⟩ = pure [none, none] from rfl) ?_)
  show wpAny _ A.in1 (newTuple [v1, v2] >>= _) _ _ s
  refine wpAny_bind (wpAny_newObj_type ?_)
  have hT : (s.heap.push { cls := .type "tuple", data := .seq #[v1, v2] }).IsTuple s.heap.objs.size #[v1, v2] := ⟨_, Heap.get?_push_size _ rfl, rfl, 0, rfl⟩
  refine wpAny_bind (wpAny_pyIter_tuple hT ?_)
  refine wpAny_bind (wpAny_newObj_type ?_)
  rw [hname]
  have z1 : (s.heap.push { cls := .type "tuple", data := .seq #[v1, v2] }).objs.size = s.heap.objs.size + 1 := Heap.size_push ..
  have z2 : ((s.heap.push { cls := .type "tuple", data := .seq #[v1, v2] }).push { cls := .type "tuple_iterator", data := .fields #[.ref s.heap.objs.size, .int 0 0] }).objs.size = s.heap.objs.size + 2 := by rw [Heap.size_push, z1]
  refine wpAny_pure ⟨plainId_quiet F.plain_max_loop _, ?_⟩
  have W := Walks.tuple (prog := prog) (w := w) (A := A.in1) hh (s.heap.push { cls := .type "tuple", data := .seq #[v1, v2] }).objs.size s.heap.objs.size (neN (by rw [z1]; omega)) #[v1, v2]
  generalize hI : (s.heap.push { cls := .type "tuple", data := .seq #[v1, v2] }).objs.size = I at *
  generalize hS : ((s.heap.push { cls := .type "tuple", data := .seq #[v1, v2] }).push { cls := .type "tuple_iterator", data := .fields #[.ref s.heap.objs.size, .int 0 0] }).objs.size = S at *
  refine codeAny_builtin F.entry_max_loop ?_
  rw [Around.under_plainId F.plain_max_loop _]
  show wpAny _ A.in1 (seqItems? (.ref S) >>= _) _ _ _
  refine wpAny_bind (wpAny_seqItems (by rw [← hS]; exact Heap.get?_push_size _ rfl) rfl ?_)
  show wpAny _ A.in1 (tryCatch (pyNext (.ref I)) _ >>= _) _ _ _
  have st0 : (((s.heap.push { cls := .type "tuple", data := .seq #[v1, v2] }).push { cls := .type "tuple_iterator", data := .fields #[.ref s.heap.objs.size, .int 0 0] }).push { cls := .type "list", data := .seq #[] }).IsTupleIter I s.heap.objs.size 0 ∧
      (((s.heap.push { cls := .type "tuple", data := .seq #[v1, v2] }).push { cls := .type "tuple_iterator", data := .fields #[.ref s.heap.objs.size, .int 0 0] }).push { cls := .type "list", data := .seq #[] }).IsTuple s.heap.objs.size #[v1, v2] := by
    refine ⟨⟨_, Heap.get?_push_of_some _ (by rw [← hI]; exact Heap.get?_push_size _ rfl), rfl, rfl⟩, (hT.push _).push _⟩
  refine wpAny_bind (wpAny_tryCatch (W.item 0 _ _ _ (by simp) st0 fun v h' tk hP hst' hk' => ?_))
  have hv : v = v1 := by simpa using hP.symm
  subst hv
  have hSI : S ≠ I := neN (by omega)
  have hS' := hk' S _ (by simpa using hSI) (by rw [← hS]; exact Heap.get?_push_size _ rfl)
  show wpAny _ A.in1 (updateSeq S (fun _ => #[v, v]) >>= _) _ _ _
  refine wpAny_bind ?_
  refine wpAny_updateSeq hS' rfl ?_
  rw [hname]
  have hI0 : s.heap.get? I = none := Heap.get?_none_of_le (by omega)
  have hS0 : s.heap.get? S = none := Heap.get?_none_of_le (by omega)
  have off : ∀ b o, s.heap.get? b = some o → b ≠ I ∧ b ≠ S := fun b o e => ⟨fun q => (by rw [q, hI0] at e; cases e), fun q => (by rw [q, hS0] at e; cases e)⟩
  have k1 : s.heap.StaysIn (h'.update S (Obj.mapSeq fun _ => #[v, v])) := fun b o e =>
    (Heap.get?_update_other _ _ (Ne.symm (off b o e).2)).trans (hk' b o (by simpa using (off b o e).1) (Heap.get?_push_of_some _ (Heap.get?_push_of_some _ (Heap.get?_push_of_some _ e))))
  refine wpAny_pure ⟨plainId_quiet F.plain_max_loop _, max_loop_two (v1 := v) (v2 := v2) bt hh (neN (by omega)) hSI (neN (by omega)) hI0 hS0 k1 hcmp (W.frame _ _ _ hst' fun b hbf o e => ?_) (Heap.get?_update_self _ hS' rfl) fun h'' tk'' hk'' => h h'' tk'' hk''⟩
  refine (Heap.get?_update_other _ _ ?_).trans e
  rintro rfl
  simp at hbf
  rcases hbf with q | q
  · exact hSI q
  · exact absurd q (neN (by omega))
theorem min_loop_end {I S ax : Addr} {vb v1 v2 : Value} {c : Nat} {R : Result → Shared → Prop} (hh : A.handled = none) (hne : ax ≠ I) (hSI : S ≠ I)
    (hst : s.heap.IsTupleIter I ax 2 ∧ s.heap.IsTuple ax #[v1, v2]) (hS : s.heap.get? S = some { cls := .type "list", dict := none, data := .seq #[vb, vb] c, slots := #[] })
    (hR : ∀ h' tk, (∀ b o, b ≠ I → b ≠ S → s.heap.get? b = some o → h'.get? b = some o) → R (.ok (.ret vb)) { s with heap := h', toks := tk }) :
    codeAny (model prog w) A (.builtin "min.loop" ⟨[.ref I, .none, .ref S], []⟩) R s := by
  have W := Walks.tuple (prog := prog) (w := w) (A := A.in1) hh I ax hne #[v1, v2]
  refine codeAny_builtin F.entry_min_loop ?_
  rw [Around.under_plainId F.plain_min_loop _]
  show wpAny _ A.in1 (seqItems? (.ref S) >>= _) _ _ s
  refine wpAny_bind (wpAny_seqItems hS rfl ?_)
  show wpAny _ A.in1 (tryCatch (pyNext (.ref I)) _ >>= _) _ _ s
  refine wpAny_bind (wpAny_tryCatch (W.done s _ _ hst fun h' tk hk' => ?_))
  have hS' := hk' S _ (by simpa using hSI) hS
  show wpAny _ A.in1 (updateSeq S (fun _ => #[]) >>= _) _ _ _
  refine wpAny_bind ?_
  refine wpAny_updateSeq hS' rfl (wpAny_bind (wpAny_letGo (wpAny_pure ?_)))
  exact hR _ tk fun b o hbI hbS e => (Heap.get?_update_other _ _ (Ne.symm hbS)).trans (hk' b o (by simpa using hbI) e)
theorem min_loop_two {I S ax : Addr} {v1 v2 : Value} {c : Nat} {R : Result → Shared → Prop} (bt : Bool) (hh : A.handled = none) (hne : ax ≠ I) (hSI : S ≠ I) (hSx : S ≠ ax) {h0 : Heap} (hI0 : h0.get? I = none) (hS0 : h0.get? S = none) (hst0 : h0.StaysIn s.heap)
    (hcmp : ∀ (s' : Shared) (Q' E' : Value → Shared → Prop), h0.StaysIn s'.heap → Q' (.bool bt) s' → wpAny (model prog w) A.in1 (richCompare .Lt v2 v1) Q' E' s')
    (hst : s.heap.IsTupleIter I ax 1 ∧ s.heap.IsTuple ax #[v1, v2]) (hS : s.heap.get? S = some { cls := .type "list", dict := none, data := .seq #[v1, v1] c, slots := #[] })
    (hR : ∀ h' tk, h0.StaysIn h' → R (.ok (.ret (if bt then v2 else v1))) { s with heap := h', toks := tk }) :
    codeAny (model prog w) A (.builtin "min.loop" ⟨[.ref I, .none, .ref S], []⟩) R s := by
  have W := Walks.tuple (prog := prog) (w := w) (A := A.in1) hh I ax hne #[v1, v2]
  have hname : (toString "min" ++ toString ".loop" : String) = "min.loop" := by decide
  have off : ∀ b o, h0.get? b = some o → b ≠ I ∧ b ≠ S := fun b o e => ⟨fun q => (by rw [q, hI0] at e; cases e), fun q => (by rw [q, hS0] at e; cases e)⟩
  refine codeAny_builtin F.entry_min_loop ?_
  rw [Around.under_plainId F.plain_min_loop _]
  show wpAny _ A.in1 (seqItems? (.ref S) >>= _) _ _ s
  refine wpAny_bind (wpAny_seqItems hS rfl ?_)
  show wpAny _ A.in1 (tryCatch (pyNext (.ref I)) _ >>= _) _ _ s
  refine wpAny_bind (wpAny_tryCatch (W.item 1 s _ _ (by simp) hst fun v h' tk hP hst' hk' => ?_))
  have hv : v = v2 := by simpa using hP.symm
  subst hv
  have hS' := hk' S _ (by simpa using hSI) hS
  have k1 : h0.StaysIn h' := fun b o e => hk' b o (by simpa using (off b o e).1) (hst0 b o e)
  show wpAny _ A.in1 (tryCatch (holding [v, v] (richCompare .Lt v v1 >>= _)) _ >>= _) _ _ _
  refine wpAny_bind (wpAny_tryCatch (wpAny_holding (wpAny_bind (hcmp _ _ _ k1 ?_))))
  refine wpAny_bind (wpAny_holding (wpAny_truthy_bool ?_))
  refine wpAny_bind (wpAny_letGo (wpAny_pure ?_))
  cases bt with
  | true =>
    simp only [if_true]
    refine wpAny_bind ?_
    refine wpAny_updateSeq hS' rfl (wpAny_bind (wpAny_letGo ?_))
    rw [hname]
    refine wpAny_pure ⟨plainId_quiet F.plain_min_loop _, min_loop_end (v1 := v1) (v2 := v) hh hne hSI (W.frame _ _ _ hst' fun b hbf o e => ?_) (Heap.get?_update_self _ hS' rfl) fun h'' tk'' hk'' => ?_⟩
    · refine (Heap.get?_update_other _ _ ?_).trans e
      rintro rfl
      simp at hbf
      rcases hbf with q | q
      · exact hSI q
      · exact hSx q
    · refine hR h'' tk'' fun b o e => ?_
      exact hk'' b o (off b o e).1 (off b o e).2 ((Heap.get?_update_other _ _ (Ne.symm (off b o e).2)).trans (k1 b o e))
  | false =>
    simp only [Bool.false_eq_true, if_false]
    refine wpAny_bind (wpAny_letGo ?_)
    rw [hname]
    refine wpAny_pure ⟨plainId_quiet F.plain_min_loop _, min_loop_end (v1 := v1) (v2 := v) hh hne hSI hst' hS' fun h'' tk'' hk'' => ?_⟩
    exact hR h'' tk'' fun b o e => hk'' b o (off b o e).1 (off b o e).2 (k1 b o e)
theorem min_two_by {v1 v2 : Value} {Q : Value → Shared → Prop} (bt : Bool) (hh : A.handled = none)
    (hcmp : ∀ (s' : Shared) (Q' E' : Value → Shared → Prop), s.heap.StaysIn s'.heap → Q' (.bool bt) s' → wpAny (model prog w) A.in1 (richCompare .Lt v2 v1) Q' E' s')
    (h : ∀ h' tk, s.heap.StaysIn h' → Q (if bt then v2 else v1) { s with heap := h', toks := tk }) :
    wpAny (model prog w) A (call (.builtin "min") [v1, v2]) Q E s := by
  have hname : (toString "min" ++ toString ".loop" : String) = "min.loop" := by decide
  refine call_function_tree F.kind_min F.plain_min F.entry_min (F.args_min2 _ _) ?_
  show wpAny _ A.in1 (Builtin.Builtins.bindParams "min" ["key", "default"] 0 ⟨[], []⟩ >>= _) _ _ s
  refine wpAny_bind (wpAny_of_eq (show Builtin.Builtins.bindParams "min" ["key", "default"] 0 ⟨[], []⟩ = pure [none, none] from rfl) ?_)
  show wpAny _ A.in1 (newTuple [v1, v2] >>= _) _ _ s
  refine wpAny_bind (wpAny_newObj_type ?_)
  have hT : (s.heap.push { cls := .type "tuple", data := .seq #[v1, v2] }).IsTuple s.heap.objs.size #[v1, v2] := ⟨_, Heap.get?_push_size _ rfl, rfl, 0, rfl⟩
  refine wpAny_bind (wpAny_pyIter_tuple hT ?_)
  refine wpAny_bind (wpAny_newObj_type ?_)
  rw [hname]
  have z1 : (s.heap.push { cls := .type "tuple", data := .seq #[v1, v2] }).objs.size = s.heap.objs.size + 1 := Heap.size_push ..
  have z2 : ((s.heap.push { cls := .type "tuple", data := .seq #[v1, v2] }).push { cls := .type "tuple_iterator", data := .fields #[.ref s.heap.objs.size, .int 0 0] }).objs.size = s.heap.objs.size + 2 := by rw [Heap.size_push, z1]
  refine wpAny_pure ⟨plainId_quiet F.plain_min_loop _, ?_⟩
  have W := Walks.tuple (prog := prog) (w := w) (A := A.in1) hh (s.heap.push { cls := .type "tuple", data := .seq #[v1, v2] }).objs.size s.heap.objs.size (neN (by rw [z1]; omega)) #[v1, v2]
  generalize hI : (s.heap.push { cls := .type "tuple", data := .seq #[v1, v2] }).objs.size = I at *
  generalize hS : ((s.heap.push { cls := .type "tuple", data := .seq #[v1, v2] }).push { cls := .type "tuple_iterator", data := .fields #[.ref s.heap.objs.size, .int 0 0] }).objs.size = S at *
  refine codeAny_builtin F.entry_min_loop ?_
  rw [Around.under_plainId F.plain_min_loop _]
  show wpAny _ A.in1 (seqItems? (.ref S) >>= _) _ _ _
  refine wpAny_bind (wpAny_seqItems (by rw [← hS]; exact Heap.get?_push_size _ rfl) rfl ?_)
  show wpAny _ A.in1 (tryCatch (pyNext (.ref I)) _ >>= _) _ _ _
  have st0 : (((s.heap.push { cls := .type "tuple", data := .seq #[v1, v2] }).push { cls := .type "tuple_iterator", data := .fields #[.ref s.heap.objs.size, .int 0 0] }).push { cls := .type "list", data := .seq #[] }).IsTupleIter I s.heap.objs.size 0 ∧
      (((s.heap.push { cls := .type "tuple", data := .seq #[v1, v2] }).push { cls := .type "tuple_iterator", data := .fields #[.ref s.heap.objs.size, .int 0 0] }).push { cls := .type "list", data := .seq #[] }).IsTuple s.heap.objs.size #[v1, v2] := by
    refine ⟨⟨_, Heap.get?_push_of_some _ (by rw [← hI]; exact Heap.get?_push_size _ rfl), rfl, rfl⟩, (hT.push _).push _⟩
  refine wpAny_bind (wpAny_tryCatch (W.item 0 _ _ _ (by simp) st0 fun v h' tk hP hst' hk' => ?_))
  have hv : v = v1 := by simpa using hP.symm
  subst hv
  have hSI : S ≠ I := neN (by omega)
  have hS' := hk' S _ (by simpa using hSI) (by rw [← hS]; exact Heap.get?_push_size _ rfl)
  show wpAny _ A.in1 (updateSeq S (fun _ => #[v, v]) >>= _) _ _ _
  refine wpAny_bind ?_
  refine wpAny_updateSeq hS' rfl ?_
  rw [hname]
  have hI0 : s.heap.get? I = none := Heap.get?_none_of_le (by omega)
  have hS0 : s.heap.get? S = none := Heap.get?_none_of_le (by omega)
  have off : ∀ b o, s.heap.get? b = some o → b ≠ I ∧ b ≠ S := fun b o e => ⟨fun q => (by rw [q, hI0] at e; cases e), fun q => (by rw [q, hS0] at e; cases e)⟩
  have k1 : s.heap.StaysIn (h'.update S (Obj.mapSeq fun _ => #[v, v])) := fun b o e =>
    (Heap.get?_update_other _ _ (Ne.symm (off b o e).2)).trans (hk' b o (by simpa using (off b o e).1) (Heap.get?_push_of_some _ (Heap.get?_push_of_some _ (Heap.get?_push_of_some _ e))))
  refine wpAny_pure ⟨plainId_quiet F.plain_min_loop _, min_loop_two (v1 := v) (v2 := v2) bt hh (neN (by omega)) hSI (neN (by omega)) hI0 hS0 k1 hcmp (W.frame _ _ _ hst' fun b hbf o e => ?_) (Heap.get?_update_self _ hS' rfl) fun h'' tk'' hk'' => h h'' tk'' hk''⟩
  refine (Heap.get?_update_other _ _ ?_).trans e
  rintro rfl
  simp at hbf
  rcases hbf with q | q
  · exact hSI q
  · exact absurd q (neN (by omega))
theorem max_lists {a c : Addr} {vs us : List Value} {xs ys : List Int} (hi : IntsAre vs xs) (hj : IntsAre us ys) {n n2 : Nat} (hl12 : xs.length = ys.length) (hh : A.handled = none) (hu : A.units + 1 < cLine) {Q : Value → Shared → Prop}
    (hl : s.heap.get? a = some (W.listOf vs.toArray n)) (hb : s.heap.get? c = some (W.listOf us.toArray n2)) (h : ∀ h' tk, s.heap.StaysIn h' → Q (if gtL ys xs then .ref c else .ref a) { s with heap := h', toks := tk }) :
    wpAny (model prog w) A (call (.builtin "max") [.ref a, .ref c]) Q E s :=
  max_two_by (gtL ys xs) hh (fun _ _ _ k q => list_gt_cmp hj hi hl12.symm hu (k _ _ hb) (k _ _ hl) q) h
theorem min_lists {a c : Addr} {vs us : List Value} {xs ys : List Int} (hi : IntsAre vs xs) (hj : IntsAre us ys) {n n2 : Nat} (hl12 : xs.length = ys.length) (hh : A.handled = none) (hu : A.units + 1 < cLine) {Q : Value → Shared → Prop}
    (hl : s.heap.get? a = some (W.listOf vs.toArray n)) (hb : s.heap.get? c = some (W.listOf us.toArray n2)) (h : ∀ h' tk, s.heap.StaysIn h' → Q (if ltL ys xs then .ref c else .ref a) { s with heap := h', toks := tk }) :
    wpAny (model prog w) A (call (.builtin "min") [.ref a, .ref c]) Q E s :=
  min_two_by (ltL ys xs) hh (fun _ _ _ k q => list_lt_cmp hj hi hl12.symm hu (k _ _ hb) (k _ _ hl) q) h
end
end Mine
end
section
open PySem PySem.W PySem.Calls PyProof.Rows
set_option Elab.async false
set_option maxRecDepth 100000
set_option maxHeartbeats 8000000
set_option pp.deepTerms false
set_option pp.deepTerms.threshold 6
set_option pp.maxSteps 20000
namespace Mine
theorem offDzD : True := by
  w_top off
  k_with_none
  trivial
section
variable {prog : Program} {w : World} {A : Around} {E : Value → Shared → Prop} {s : Shared} {h₀ : Heap} {L : Addr} {m : Str → Option Value} {news : List (Addr × Obj)} {a c : Addr} {vs us : List Value} {xs ys : List Int} {n n2 : Nat} {Q : Value → Shared → Prop}
theorem max_listsN (hh : A.handled = none) (hu : A.units + 1 < cLine) (F : Fr h₀ L s.heap m) (N : News h₀ L s.heap news) (ha : (a, W.listOf vs.toArray n) ∈ news) (hc : (c, W.listOf us.toArray n2) ∈ news)
    (hi : IntsAre vs xs) (hj : IntsAre us ys) (hl12 : xs.length = ys.length)
    (h1 : gtL ys xs = true → ∀ h' tk, Fr h₀ L h' m → News h₀ L h' news → Q (.ref c) { s with heap := h', toks := tk })
    (h2 : gtL ys xs = false → ∀ h' tk, Fr h₀ L h' m → News h₀ L h' news → Q (.ref a) { s with heap := h', toks := tk }) :
    wpAny (model prog w) A (call (.builtin "max") [.ref a, .ref c]) Q E s :=
  max_lists hi hj hl12 hh hu (N.get ha) (N.get hc) fun h' tk k => by
    have F' := F.grownK k
    have N' := N.grown k
    cases hb : gtL ys xs with
    | true => exact h1 hb h' tk F' N'
    | false => exact h2 hb h' tk F' N'
theorem min_listsN (hh : A.handled = none) (hu : A.units + 1 < cLine) (F : Fr h₀ L s.heap m) (N : News h₀ L s.heap news) (ha : (a, W.listOf vs.toArray n) ∈ news) (hc : (c, W.listOf us.toArray n2) ∈ news)
    (hi : IntsAre vs xs) (hj : IntsAre us ys) (hl12 : xs.length = ys.length)
    (h1 : ltL ys xs = true → ∀ h' tk, Fr h₀ L h' m → News h₀ L h' news → Q (.ref c) { s with heap := h', toks := tk })
    (h2 : ltL ys xs = false → ∀ h' tk, Fr h₀ L h' m → News h₀ L h' news → Q (.ref a) { s with heap := h', toks := tk }) :
    wpAny (model prog w) A (call (.builtin "min") [.ref a, .ref c]) Q E s :=
  min_lists hi hj hl12 hh hu (N.get ha) (N.get hc) fun h' tk k => by
    have F' := F.grownK k
    have N' := N.grown k
    cases hb : ltL ys xs with
    | true => exact h1 hb h' tk F' N'
    | false => exact h2 hb h' tk F' N'
end
def dStep (ps qs : List Int) (p : Int × List Int) (k : Int) : Int × List Int :=
  let d := ps.getD (-1 - k + (ps.length : Int)).toNat 0 - qs.getD (-1 - k + (qs.length : Int)).toNat 0 - p.1
  (if d < 0 then 1 else 0, p.2 ++ [d.fmod 64])
structure DI (ps qs pre : List Int) (lack : Int) (out : List Int) : Prop where
  eq : (lack, out) = pre.foldl (dStep ps qs) (0, [])
  len : out.length = pre.length
def pad8 (xs : List Int) : List Int := (List.replicate (8 - (xs.length : Int)).toNat [(0 : Int)]).flatten ++ xs
def diffF (xs ys : List Int) : List Int :=
  ((rangeKs 0 8).foldl (dStep (if gtL (pad8 ys) (pad8 xs) then pad8 ys else pad8 xs) (if ltL (pad8 ys) (pad8 xs) then pad8 ys else pad8 xs)) (0, [])).2.reverse
theorem di_start {ps qs : List Int} : DI ps qs [] 0 [] := ⟨rfl, rfl⟩
theorem di_neg {ps qs pre out : List Int} {lack k : Int} (h : DI ps qs pre lack out) (hd : ps.getD (-1 - k + (ps.length : Int)).toNat 0 - qs.getD (-1 - k + (qs.length : Int)).toNat 0 - lack < 0) :
    DI ps qs (pre ++ [k]) 1 (out ++ [(ps.getD (-1 - k + (ps.length : Int)).toNat 0 - qs.getD (-1 - k + (qs.length : Int)).toNat 0 - lack).fmod 64]) := by
  refine ⟨?_, by simp [h.len]⟩
  rw [List.foldl_append, ← h.eq]
  simp only [List.foldl_cons, List.foldl_nil, dStep, if_pos hd]
theorem di_pos {ps qs pre out : List Int} {lack k : Int} (h : DI ps qs pre lack out) (hd : ¬ ps.getD (-1 - k + (ps.length : Int)).toNat 0 - qs.getD (-1 - k + (qs.length : Int)).toNat 0 - lack < 0) :
    DI ps qs (pre ++ [k]) 0 (out ++ [(ps.getD (-1 - k + (ps.length : Int)).toNat 0 - qs.getD (-1 - k + (qs.length : Int)).toNat 0 - lack).fmod 64]) := by
  refine ⟨?_, by simp [h.len]⟩
  rw [List.foldl_append, ← h.eq]
  simp only [List.foldl_cons, List.foldl_nil, dStep, if_neg hd]
theorem diff_call {w : World} {env : Env} {s : Shared} {la lc : Addr} {va vc : List Value} {xs ys : List Int} {Q E : Value → Shared → Prop}
   (C : Cal w env s.heap) (ha : s.heap.IsList la va.toArray) (hi : IntsAre va xs) (hc : s.heap.IsList lc vc.toArray) (hj : IntsAre vc ys)
   (hlen : xs.length ≤ 8) (hlen2 : ys.length ≤ 8) (ret : RetL s Q (diffF xs ys)) :
   wpAny (model PR w) (callerA.deeper env) (call (.ref 42) [.ref la, .ref lc]) Q E s := by
  have dummy : (Challenge.rw_dz0020_01.prog, hd.heap_39) = (Challenge.rw_dz0020_01.prog, hd.heap_39) := rfl
  revert dummy
  k_fill
  intro _
  refine enter1 C (by k_is) (by k_is) (BindsTo.of_eq rfl) (locs rfl) ?_ rfl rfl rfl (by decide)
  intro base mean mg mb L' h₁ F N B X T
  dsimp only
  k_with_none
  k_with "pyIter ref" => (refine Stop.mk ?_)
  k_steps
  unfold Stop
  k_with_none
  k_with "call builtin:max" => ((with_reducible show wpAny _ _ (call (Value.builtin _) [Value.ref _, Value.ref _]) _ _ _); refine' max_listsN ?q1 ?q2 ?q3 ?q4 ?q5 ?q6 ?q7 ?q8 ?q9 ?_ ?_; (case q1 => rfl); (case q2 => exact Nat.le_of_ble_eq_true rfl); (case q3 => k_asm); (case q4 => k_asm); (case q5 => k_memK); (case q6 => k_memK); (case q7 => assumption); (case q8 => assumption); (case q9 => assumption); (all_goals (intro hb' h' tk' F' N'; (try dsimp only))))
  k_with "call builtin:min" => ((with_reducible show wpAny _ _ (call (Value.builtin _) [Value.ref _, Value.ref _]) _ _ _); refine' min_listsN ?q1 ?q2 ?q3 ?q4 ?q5 ?q6 ?q7 ?q8 ?q9 ?_ ?_; (case q1 => rfl); (case q2 => exact Nat.le_of_ble_eq_true rfl); (case q3 => k_asm); (case q4 => k_asm); (case q5 => k_memK); (case q6 => k_memK); (case q7 => assumption); (case q8 => assumption); (case q9 => assumption); (all_goals (intro hb' h' tk' F' N'; (try dsimp only))))
  have hX8 : (List.replicate (8 - (xs.length : Int)).toNat [(0 : Int)]).flatten.length + xs.length = 8 := by rw [List.length_flatten]; simp; omega
  have hY8 : (List.replicate (8 - (ys.length : Int)).toNat [(0 : Int)]).flatten.length + ys.length = 8 := by rw [List.length_flatten]; simp; omega
  generalize hgx : (List.replicate (8 - (xs.length : Int)).toNat [(0 : Int)]).flatten ++ xs = X8 at *
  generalize hgy : (List.replicate (8 - (ys.length : Int)).toNat [(0 : Int)]).flatten ++ ys = Y8 at *
  have lx : X8.length = 8 := by rw [← hgx, List.length_append]; exact hX8
  have ly : Y8.length = 8 := by rw [← hgy, List.length_append]; exact hY8
  have lxy : X8.length = Y8.length := by rw [lx, ly]
  k_with "state" => (first | exact di_start)
  obtain ⟨N8, hN8⟩ : ∃ N : Int, N = 8 := ⟨8, rfl⟩
  rename IsRange _ _ _ _ _ _ _ _ => hR8
  rw [← hN8] at hR8
  k_state (fun pre lack out => DI (if gtL Y8 X8 then Y8 else X8) (if ltL Y8 X8 then Y8 else X8) pre lack out) "lack" "out"
  · rename DI _ _ _ _ _ => hDI
    have hol := hDI.len
    k_with "InvPostN" => (refine Stop.mk ?_)
    k_steps
    all_goals (
      unfold Stop
      dsimp only [InvPostN]
      rename Fr _ _ _ _ => F
      rename News _ _ _ _ => N
      (try simp only [List.push_toArray] at N)
      rename (gtL _ _ = _) => hgt
      rename (ltL _ _ = _) => hlt
      refine' kst_end ⟨_, _, _, _, _⟩ F N ?hn ?ho ?ha ?hf ?hk ?hr ?hp
      case hn => kst_inAny
      case hk => kst_all
      case ha => rfl
      case ho => first | (intro p hp; kst_mem) | kst_anyIn
      case hf => kst_facts
      case hr =>
        intro z h1 h2 h3
        have h4 := h2 _ (.head _)
        dsimp only at h4
        simp only [if_neg h1, if_neg h4, h3, if_false, Bool.false_eq_true]
      case hp =>
        dsimp only
        simp only [hgt, hlt, if_true, Bool.false_eq_true, if_false] at hDI ⊢
        first | exact di_neg hDI (by assumption) | exact di_pos hDI (by assumption))
  · rename DI _ _ _ _ _ => hDI
    have hol := hDI.len
    k_with_none
    dsimp only
    k_steps
    dsimp only
    rename Fr _ _ _ _ => F
    rename News _ _ _ _ => N
    refine ret _ _ _ _ _ F.keep (N.fresh (by k_mem)) (N.get (by k_mem)) ?_
    have e := hDI.eq
    subst hN8
    rw [show ((8 : Int) - 0).toNat = 8 from rfl] at e
    subst hgx hgy
    unfold diffF pad8
    rw [← e]
    assumption
end Mine
end
section
open PySem PySem.W PySem.Calls PyProof.Rows
set_option Elab.async false
set_option maxRecDepth 100000
set_option maxHeartbeats 4000000
namespace Mine
theorem offDzV : True := by
  w_top off
  k_with_none
  trivial
/-- a bytes iterator at place i -/
abbrev iterO (bs : Array UInt8) (t : Tok) (i : Nat) : Obj := { cls := .type "bytes_iterator", data := .fields #[.bytes bs t, .int i 0] }
section
variable {prog : Program} {w : World} {A : Around} {E : Value → Shared → Prop} {s : Shared} {h₀ : Heap} {L : Addr} {m : Str → Option Value} {news : List (Addr × Obj)} {it : Addr} {bs : Array UInt8} {t : Tok} {i : Nat} {Q : Value → Shared → Prop}
theorem iterO_is {h : Heap} (hit : h.get? it = some (iterO bs t i)) : KBw.IsBytesIter h it bs t i := ⟨_, hit, rfl, rfl⟩
theorem next_special {c : UInt8} {Q : Option Value → Shared → Prop} (hit : s.heap.get? it = some (iterO bs t i)) (hx : bs[i]? = some c)
    (hQ : Q (some (.int (c.toNat : Int) s.toks)) { s with heap := s.heap.update it (Obj.mapFields (·.setIfInBounds 1 (rawInt ((i : Int) + 1)))), toks := s.toks + 1 }) :
    wpAny (model prog w) A (callSpecial? (.ref it) (Str.ofString "__next__")) Q E s := by
  have hI := iterO_is hit
  refine wpAny_callSpecial?_slot (name := Str.ofString "__next__") (KBw.iter_typeIs hI) KBw.slot_next
    (wpAny_call_entry KBw.slot_next (KBw.iter_typeIs hI) KBw.entry_next ?_ (KBw.args_next _))
  show wpAny _ _ (field (.ref it) 0 >>= _) _ _ s
  refine wpAny_bind (wpAny_field hit rfl (x := .bytes bs t) rfl ?_)
  show wpAny _ _ (if (Value.bytes bs t == Value.none) = true then _ else _) _ _ s
  rw [if_neg (show ¬ ((Value.bytes bs t == Value.none) = true) from Bool.false_ne_true)]
  show wpAny _ _ (field (.ref it) 1 >>= _) _ _ s
  refine wpAny_bind (wpAny_field hit rfl (x := .int i 0) rfl ?_)
  refine wpAny_bind (wpAny_of_eq (a := bs) rfl ?_)
  simp only [Int.toNat_natCast, hx]
  exact wpAny_bind (wpAny_setField hit rfl (by simp) (wpAny_bind (wpAny_mkInt (wpAny_pure ⟨_, rfl, hQ⟩))))
theorem iterO_step {h : Heap} (hit : h.get? it = some (iterO bs t i)) :
    (h.update it (Obj.mapFields (·.setIfInBounds 1 (rawInt ((i : Int) + 1))))).get? it = some (iterO bs t (i + 1)) := by
  rw [Heap.get?_update_self _ hit rfl]
  show some (Obj.mapFields _ (iterO bs t i)) = _
  simp [Obj.mapFields, rawInt]
theorem next_some {c : UInt8} (hit : s.heap.get? it = some (iterO bs t i)) (hx : bs[i]? = some c)
    (h : ∀ h', h'.get? it = some (iterO bs t (i + 1)) → (∀ b o, b ≠ it → s.heap.get? b = some o → h'.get? b = some o) → Q (.int (c.toNat : Int) s.toks) { s with heap := h', toks := s.toks + 1 }) :
    wpAny (model prog w) A (call (.builtin "next") [.ref it]) Q E s := by
  have hI := iterO_is hit
  refine call_function_entry (by decide +kernel) (by decide +kernel) kdk_entry_next (kdk_args_next _) ?_
  unfold Builtin.«next»
  refine wpAny_bind (m := someArgs "next" 1 2 _) (wpAny_of_eq (a := [Value.ref it]) (by first | rfl | kernel_rfl!) ?_)
  dsimp only
  refine wpAny_bind (wpAny_specialOf (name := Str.ofString "__next__") (KBw.iter_typeIs hI) KBw.slot_next.lookup ?_)
  refine wpAny_ite_split (fun hab => absurd hab (by decide)) (fun _ => ?_)
  refine wpAny_bind (next_special hit hx ?_)
  exact wpAny_pure ⟨_, rfl, h _ (iterO_step hit) fun b o hb e => (Heap.get?_update_other _ _ (Ne.symm hb)).trans e⟩
theorem next_stop (hh : A.handled = none) (hit : s.heap.get? it = some (iterO bs t i)) (hx : bs[i]? = none)
    (h : ∀ h' e t0, s.heap.get? e = none → h'.get? e = some { cls := .type "StopIteration", data := .fields #[.ref t0, .none, .none, .none, .bool false, .none] } → (∀ b o, b ≠ it → s.heap.get? b = some o → h'.get? b = some o) → E (.ref e) { s with heap := h' }) :
    wpAny (model prog w) A (call (.builtin "next") [.ref it]) Q E s := by
  have hI := iterO_is hit
  refine call_function_entry (by decide +kernel) (by decide +kernel) kdk_entry_next (kdk_args_next _) ?_
  unfold Builtin.«next»
  refine wpAny_bind (m := someArgs "next" 1 2 _) (wpAny_of_eq (a := [Value.ref it]) (by first | rfl | kernel_rfl!) ?_)
  dsimp only
  refine wpAny_bind (wpAny_specialOf (name := Str.ofString "__next__") (KBw.iter_typeIs hI) KBw.slot_next.lookup ?_)
  refine wpAny_ite_split (fun hab => absurd hab (by decide)) (fun _ => ?_)
  refine wpAny_bind (wpAny_callSpecial?_slot (name := Str.ofString "__next__") (KBw.iter_typeIs hI) KBw.slot_next
    (wpAny_call_entry KBw.slot_next (KBw.iter_typeIs hI) KBw.entry_next ?_ (KBw.args_next _)))
  show wpAny _ _ (field (.ref it) 0 >>= _) _ _ s
  refine wpAny_bind (wpAny_field hit rfl (x := .bytes bs t) rfl ?_)
  show wpAny _ _ (if (Value.bytes bs t == Value.none) = true then _ else _) _ _ s
  rw [if_neg (show ¬ ((Value.bytes bs t == Value.none) = true) from Bool.false_ne_true)]
  show wpAny _ _ (field (.ref it) 1 >>= _) _ _ s
  refine wpAny_bind (wpAny_field hit rfl (x := .int i 0) rfl ?_)
  refine wpAny_bind (wpAny_of_eq (a := bs) rfl ?_)
  simp only [Int.toNat_natCast, hx]
  refine wpAny_bind (wpAny_rule (wpAny_bind (wpAny_setField hit rfl (by simp) ?_)))
  show wpAny _ _ (newExc (.type "StopIteration") [] >>= _) _ _ _
  refine wpAny_bind ?_
  simp only [newExc, newTuple]
  refine wpAny_bind (wpAny_newObj_type ?_ (by size_fits))
  refine wpAny_bind (m := firstArgMember _ _) (wpAny_of_eq (a := Value.none) (by first | rfl | (simp only [firstArgMember]; rfl)) ?_)
  refine wpAny_newObj_type ?_ (by size_fits)
  simp only [raiseNew]
  refine wpAny_bind (wpAny_handled ?_)
  rw [show A.in1.in1.handled = none from hh]
  refine wpAny_bind (wpAny_pure (wpAny_throw ?_))
  refine h _ _ _ ?_ (Heap.get?_push_size _ rfl) fun b o hb e => Heap.get?_push_of_some _ (Heap.get?_push_of_some _ ((Heap.get?_update_other _ _ (Ne.symm hb)).trans e))
  exact Heap.get?_none_of_le (by rw [Heap.size_push, Heap.size_after_update]; exact Nat.le_succ _)
end
end Mine
end
section
open PySem PySem.W PySem.Calls PyProof.Rows
set_option Elab.async false
set_option maxRecDepth 100000
set_option maxHeartbeats 8000000
set_option pp.deepTerms false
set_option pp.deepTerms.threshold 6
set_option pp.maxSteps 20000
namespace Mine
theorem offDzW : True := by
  w_top off
  k_with_none
  trivial
theorem enterH {w : World} {A : Around} {s : Shared} {f : Addr} {vs : List Value} {Q E : Value → Shared → Prop} {name qual : Str} {params : Arguments} {body : List Stmt} {scope : Scope} {dV kV doc pm cdv ct oc : Value} {an od : Option Addr} {osl : Array (Option Value)} {binds : List (Str × Value)}
    {g0 : Heap} {mean : ExcName → Option Value} {mg mb : Str → Option Value} (hs : List Addr)
    (X : (hd.heap_39 w.params).In g0) (T : Top hd.view_39 LO mean mg mb g0) (k0 : g0.StaysIn s.heap) (n0 : ∀ a ∈ hs, g0.get? a = none) (hroom : A.depth < recursionLimit)
    (ho : (hd.heap_39 w.params).lookup f = some ⟨oc, od, .func (fnOf name qual params body scope dV kV doc pm an cdv ct), osl⟩) (hcd : codeIn (hd.heap_39 w.params) cdv qual = true)
    (hbind : BindsTo s (fnOf name qual params body scope dV kV doc pm an cdv ct) ⟨vs, []⟩ binds) (hloc : ∀ y ∈ binds, scope.names.lookup y.1 = some .local)
    (h : ∀ L' h₁, L' = s.heap.objs.size → Fr (hideAll s.heap hs) L' h₁ (fun y => binds.reverse.lookup y) → s.heap.StaysIn h₁ → (hd.heap_39 w.params).In (hideAll s.heap hs) → Top hd.view_39 LO mean mg mb (hideAll s.heap hs) →
      wpAny (model PR w) (A.deeper (envOf qual scope L' f cdv)) (execs body (envOf qual scope L' f cdv))
        (fun fl s' => Q (match fl with | .ret v => v | _ => .none) s')
        (fun e s' => wpAny (model PR w) (A.deeper (envOf qual scope L' f cdv)) (leaving (envOf qual scope L' f cdv) e) (fun _ s'' => E e s'') (fun e' s'' => E e' s'') s')
        { s with heap := h₁, toks := s.toks + binds.length })
    (hco : scope.isCoroutine = false) (hgen : scope.isGenerator = false) (hk : scope.kind = .function)
    (hcell : ∀ x ∈ scope.names, x.2 ≠ .cell) : wpAny (model PR w) A (call (.ref f) vs) Q E s := by
  have kg : g0.StaysIn (hideAll s.heap hs) := fun b o e => hideAll_get _ (k0 b o e) fun q => by rw [n0 b q] at e; cases e
  have X' := X.keeps k0
  refine wpAny_call (codeAny_call_def (fd := fnOf name qual params body scope dV kV doc pm an cdv ct) (body := body) (binds := binds) hroom (X' _ _ ho) rfl (T.keeps k0).nolimit (codeRec_of X' hcd) rfl hbind hcell hloc (fun h₁ hns hk₁ => ?_) hco hgen hk)
  exact wpAny_mono (h _ h₁ rfl ⟨hns, fun b o e => hk₁ b o (of_hideAll _ e), Nat.le_of_eq (hideAll_size _ _)⟩ hk₁ (X.keeps kg) (T.keeps kg)) (fun _ _ x => x) fun _ _ x => x
def pvGo (val b : Int) : List Int → Option (Int × List Int)
  | [] => if b / 64 % 2 = 0 then some (val, []) else none
  | c :: r => if b / 64 % 2 = 0 then some (val, c :: r) else pvGo (val * 64 + c % 64) c r
/-- what _parse_varint reads of the octets, and what it leaves -/
def pvF : List Int → Option (Int × List Int)
  | [] => none
  | b :: r => pvGo (b % 64) b r
theorem bitAnd_zero (x : Int) : Builtin.bitAnd x 0 = 0 := by
  have := kbt_mask x 0
  simpa using this
theorem bitAnd_high (a r : Int) (h0 : 0 ≤ r) (h1 : r < 64) : Builtin.bitAnd (a * 64) r = 0 := by
  rw [kbt_halves, kbt_halves, kbt_halves, kbt_halves, kbt_halves, kbt_halves]
  have e : r / 2 / 2 / 2 / 2 / 2 / 2 = 0 := by omega
  rw [e, bitAnd_zero]
  have c1 : ¬ (a * 64 % 2 = 1 ∧ r % 2 = 1) := by omega
  have c2 : ¬ (a * 64 / 2 % 2 = 1 ∧ r / 2 % 2 = 1) := by omega
  have c3 : ¬ (a * 64 / 2 / 2 % 2 = 1 ∧ r / 2 / 2 % 2 = 1) := by omega
  have c4 : ¬ (a * 64 / 2 / 2 / 2 % 2 = 1 ∧ r / 2 / 2 / 2 % 2 = 1) := by omega
  have c5 : ¬ (a * 64 / 2 / 2 / 2 / 2 % 2 = 1 ∧ r / 2 / 2 / 2 / 2 % 2 = 1) := by omega
  have c6 : ¬ (a * 64 / 2 / 2 / 2 / 2 / 2 % 2 = 1 ∧ r / 2 / 2 / 2 / 2 / 2 % 2 = 1) := by omega
  rw [if_neg c1, if_neg c2, if_neg c3, if_neg c4, if_neg c5, if_neg c6]
  rfl
section
variable {prog : Program} {w : World} {A : Around} {E : Value → Shared → Prop} {s : Shared} {Q : Value → Shared → Prop} {a b : Int} {t u : Tok}
theorem and63 (h : Q (.int (a % 64) s.toks) { s with toks := s.toks + 1 }) : wpAny (model prog w) A (binaryOp .BitAnd (.int a t) (.int 63 u)) Q E s :=
  and_int (by rw [bitAnd_m6]; exact h)
theorem and64 (h : Q (.int (a / 64 % 2 * 64) s.toks) { s with toks := s.toks + 1 }) : wpAny (model prog w) A (binaryOp .BitAnd (.int a t) (.int 64 u)) Q E s :=
  and_int (by have e := kbt_bit a 6; rw [show (2 : Int) ^ 6 = 64 from rfl] at e; rw [e]; exact h)
theorem shl6 (hsz : Builtin.Int.intBits a ≤ 1000000) (h : Q (.int (a * 64) s.toks) { s with toks := s.toks + 1 }) : wpAny (model prog w) A (inplaceOp .LShift (.int a t) (.int 6 u)) Q E s :=
  ilshift_int (by decide) (by omega) h
theorem or6 (h0 : 0 ≤ b) (h1 : b < 64) (h : Q (.int (a * 64 + b) s.toks) { s with toks := s.toks + 1 }) : wpAny (model prog w) A (inplaceOp .BitOr (.int (a * 64) t) (.int b u)) Q E s :=
  ior_int (by rw [bitOr_and, bitAnd_high a b h0 h1, Int.sub_zero]; exact h)
end
/-- the stop leaves _parse_varint's frame -/
theorem pv_leave {M : Model} {A : Around} {env env2 env3 : Env} {s s' : Shared} {it L1 L2 L3 e t0 : Addr} {o1 o2 : Obj} {h : Heap} {m : Str → Option Value} {Q : Unit → Shared → Prop} {E : Value → Shared → Prop}
    (hA : A.frames = some [env2, env]) (hf1 : env.frame = some L1) (hf2 : env2.frame = some L2) (hf3 : env3.frame = some L3) (hk1 : env.scope.kind = .function) (hk2 : env2.scope.kind = .function) (hk3 : env3.scope.kind = .function)
    (hL1 : s.heap.get? L1 = some o1) (hd1 : ∀ vs, o1.data ≠ .fields vs) (hL2 : s.heap.get? L2 = some o2) (hd2 : ∀ vs, o2.data ≠ .fields vs) (h1 : L1 ≠ it) (h2 : L2 ≠ it)
    (F : Fr (hideAll s.heap [it]) L3 h m) (h3 : L3 ≠ it) (hen : h.get? e = none) (he : s'.heap.get? e = some { cls := .type "StopIteration", data := .fields #[.ref t0, .none, .none, .none, .bool false, .none] })
    (keep : ∀ b o, b ≠ it → h.get? b = some o → s'.heap.get? b = some o)
    (hQ : ∀ h' B a0, (∀ b o, s.heap.get? b = some o → b ≠ it → b ≠ L2 → b ≠ L1 → B.get? b = some o) → Heap.FlyingW B [env2, env] e (.type "StopIteration") a0 h' →
      (∀ b o, b ≠ it → s.heap.get? b = some o → (∀ vs, o.data ≠ .fields vs) → ∃ sl, h'.get? b = some { o with slots := sl }) → Q () { s' with heap := h' }) :
    wpAny M (A.deeper env3) (leaving env3 (.ref e)) Q E s' := by
  obtain ⟨o3, es3, ep3, hL3, hd3, _⟩ := F.ns
  have up : ∀ b o, b ≠ it → s.heap.get? b = some o → h.get? b = some o := fun b o hb q => F.keep b o (hideAll_get _ q (by simpa using hb))
  have hB : (hideAll h [it, L3, L2, L1]).StaysIn s'.heap := fun b o q => keep b o (fun z => by rw [z, hideAll_none _ (.head _)] at q; cases q) (of_hideAll _ q)
  refine wpAny_leaving_firstW (a0 := .ref t0) (base := hideAll h [it, L3, L2, L1]) (Around.frames_deeper hA) ⟨by rw [hk3]; decide, ⟨L3, o3, hf3, hideAll_none _ (by simp), keep _ _ h3 hL3, by rw [hd3]; intro vs q; cases q⟩, by rw [hk2]; decide, ⟨L2, o2, hf2, hideAll_none _ (by simp), keep _ _ h2 (up _ _ h2 hL2), hd2⟩, by rw [hk1]; decide, ⟨L1, o1, hf1, hideAll_none _ (by simp), keep _ _ h1 (up _ _ h1 hL1), hd1⟩, trivial⟩ hf3 he hB ?_ rfl rfl rfl fun h' hL => ?_
  · cases q : (hideAll h [it, L3, L2, L1]).get? e with
    | none => rfl
    | some o => have := of_hideAll _ q; rw [hen] at this; cases this
  · obtain ⟨k1, ⟨_, _, k2⟩, k3, k4⟩ := hL
    refine hQ h' _ _ (fun b o q b1 b2 b3 => hideAll_get _ (up b o b1 q) ?_) ⟨k1, ?_, k2, k3⟩ fun b o b1 q hn => k4 b o (keep b o b1 (up b o b1 q)) hn
    · have b4 : b ≠ L3 := fun z => by
        have := Heap.lt_size q
        rw [z] at this
        exact Nat.lt_irrefl _ (Nat.lt_of_lt_of_le this (by have := F.above; rw [hideAll_size] at this; exact this))
      simp [b1, b2, b3, b4]
    · cases q : (hideAll h [it, L3, L2, L1]).get? e with
      | none => rfl
      | some o => have := of_hideAll _ q; rw [hen] at this; cases this
end Mine
end
section
open PySem PySem.W PySem.Calls PyProof.Rows
set_option Elab.async false
set_option maxRecDepth 100000
set_option maxHeartbeats 8000000
set_option pp.deepTerms false
set_option pp.deepTerms.threshold 6
set_option pp.maxSteps 20000
namespace Mine
theorem offDzX : True := by
  w_top off
  k_with_none
  trivial
theorem bInts_drop_nil {bs : Array UInt8} {i : Nat} (h : bs[i]? = none) : (KBw.bInts bs).drop i = [] := by
  have : bs.size ≤ i := by simpa using h
  exact List.drop_eq_nil_of_le (by rw [KBw.ints_length]; exact this)
theorem bInts_drop_cons {bs : Array UInt8} {i : Nat} {c : UInt8} (h : bs[i]? = some c) : (KBw.bInts bs).drop i = (c.toNat : Int) :: (KBw.bInts bs).drop (i + 1) := by
  have hi := KBw.ints_get h
  obtain ⟨hlt, e⟩ := List.getElem?_eq_some_iff.mp hi
  rw [List.drop_eq_getElem_cons hlt, e]
/-- the frame and the ledger behind a step of the iterator -/
theorem iter_moved {g : Heap} {L it : Addr} {h h' : Heap} {m : Str → Option Value} {o o' : Obj} (F : Fr g L h m) (N : News g L h [(it, o)]) (hit : h'.get? it = some o') (hk : ∀ b o, b ≠ it → h.get? b = some o → h'.get? b = some o) :
    Fr g L h' m ∧ News g L h' [(it, o')] := by
  have Ni := N (it, o) (.head _)
  obtain ⟨oL, es, ep, hL, r⟩ := F.ns
  refine ⟨⟨⟨oL, es, ep, hk _ _ (Ne.symm Ni.2.1) hL, r⟩, fun b x e => hk b x (fun z => by rw [z, Ni.2.2] at e; cases e) (F.keep b x e), F.above⟩, fun p hp => ?_⟩
  rw [List.mem_singleton.mp hp]
  exact ⟨hit, Ni.2⟩
structure PV (bs : Array UInt8) (i0 : Nat) (b val : Int) (i : Nat) : Prop where
  go : pvGo val b ((KBw.bInts bs).drop i) = pvF ((KBw.bInts bs).drop i0)
  ile : i ≤ bs.size
  v0 : 0 ≤ val
  vb : val < 2 ^ (6 * i)
theorem pv_call {w : World} {env env2 : Env} {s : Shared} {it L1 L2 : Addr} {o1 o2 : Obj} {bs : Array UInt8} {t : Tok} {i : Nat} {g0 : Heap} {mean : ExcName → Option Value} {mg mb : Str → Option Value} {Q E : Value → Shared → Prop}
   (X : (hd.heap_39 w.params).In g0) (T : Top hd.view_39 LO mean mg mb g0) (k0 : g0.StaysIn s.heap) (n0 : g0.get? it = none)
   (hf1 : env.frame = some L1) (hf2 : env2.frame = some L2) (hk1 : env.scope.kind = .function) (hk2 : env2.scope.kind = .function)
   (hL1 : s.heap.get? L1 = some o1) (hd1 : ∀ vs, o1.data ≠ .fields vs) (hL2 : s.heap.get? L2 = some o2) (hd2 : ∀ vs, o2.data ≠ .fields vs) (h1 : L1 ≠ it) (h2 : L2 ≠ it)
   (hit : s.heap.get? it = some (iterO bs t i)) (hbs : bs.size ≤ 100000)
   (hret : ∀ v j tv h' tk', pvF ((KBw.bInts bs).drop i) = some (v, (KBw.bInts bs).drop j) → j ≤ bs.size → (∀ b o, b ≠ it → s.heap.get? b = some o → h'.get? b = some o) → h'.get? it = some (iterO bs t j) → Q (.int v tv) { s with heap := h', toks := tk' })
   (hstop : pvF ((KBw.bInts bs).drop i) = none → ∀ e h' tk' B a0, (∀ b o, s.heap.get? b = some o → b ≠ it → b ≠ L2 → b ≠ L1 → B.get? b = some o) → Heap.FlyingW B [env2, env] e (.type "StopIteration") a0 h' →
      (∀ b o, b ≠ it → s.heap.get? b = some o → (∀ vs, o.data ≠ .fields vs) → ∃ sl, h'.get? b = some { o with slots := sl }) → E (.ref e) { s with heap := h', toks := tk' }) :
   wpAny (model PR w) ((callerA.deeper env).deeper env2) (call (.ref 21) [.ref it]) Q E s := by
  have dummy : (Challenge.rw_dz0020_01.prog, hd.heap_39) = (Challenge.rw_dz0020_01.prog, hd.heap_39) := rfl
  revert dummy
  k_fill
  intro _
  refine enterH [it] X T k0 (by intro a ha; rw [List.mem_singleton.mp ha]; exact n0) (by simp only [depth_deeper, depth_caller]; decide) (by k_is) (by k_is) (BindsTo.of_eq rfl) (locs rfl) ?_ rfl rfl rfl (by decide)
  intro L3 h₁ hL3 F hk₁ X3 T3
  have h3 : L3 ≠ it := hL3 ▸ Nat.ne_of_gt (Heap.lt_size hit)
  have N : News (hideAll s.heap [it]) L3 h₁ [(it, iterO bs t i)] := by
    intro p hp
    rw [List.mem_singleton.mp hp]
    exact ⟨hk₁ _ _ hit, Ne.symm h3, hideAll_none _ (.head _)⟩
  k_with_none
  k_with "call builtin:next" => (refine Stop.mk ?_)
  k_steps
  unfold Stop
  cases hx : bs[i]? with
  | none =>
    refine next_stop rfl (N.get (.head _)) hx ?_
    intro h' e t0 hen he hkeep
    dsimp only
    refine pv_leave (t0 := t0) (h := h₁) rfl hf1 hf2 rfl hk1 hk2 rfl hL1 hd1 hL2 hd2 h1 h2 F h3 hen he hkeep ?_
    intro h'' B a0 p1 p2 p3
    exact hstop (by rw [bInts_drop_nil hx]; rfl) e h'' _ B a0 p1 p2 p3
  | some c =>
    refine next_some (N.get (.head _)) hx ?_
    intro h' hit' hk'
    obtain ⟨F', N'⟩ := iter_moved F N hit' hk'
    clear F N
    dsimp only
    k_with_none
    k_with "binaryOp BitAnd int int" => ((with_reducible first | refine and63 ?_ | refine and64 ?_); (try dsimp only))
    k_with "exec While" => (refine Stop.mk ?_)
    k_with "exec While BinOp cons nil" => (refine Stop.mk ?_)
    k_steps
    unfold Stop
    rename Fr _ _ _ _ => F
    rename News _ _ _ _ => N
    have hc256 : (c.toNat : Int) < 256 := by have := c.toNat_lt; omega
    refine' ksw_while (σ := Int × Nat × Int × Nat × Nat) (fun c => [(it, iterO bs t c.2.2.2.2)]) (fun c => [(Str.ofString "b", Value.int c.1 c.2.1), (Str.ofString "val", Value.int c.2.2.1 c.2.2.2.1)]) (fun _ => True) [] (fun c => PV bs i c.1 c.2.2.1 c.2.2.2.2) (fun c => bs.size - c.2.2.2.2) ((c.toNat : Int), _, _, _, i + 1) F N trivial ?hk ?hp ?turn
    case hk => kst_all
    case hp =>
      have hlt : i < bs.size := (Array.getElem?_eq_some_iff.mp hx).1
      refine ⟨?_, hlt, by dsimp only; omega, ?_⟩
      · rw [bInts_drop_cons hx]; rfl
      · dsimp only
        have h64 : (c.toNat : Int) % 64 < 2 ^ 6 := by omega
        exact Int.lt_of_lt_of_le h64 (by exact_mod_cast Nat.pow_le_pow_right (by decide) (by omega))
    case turn =>
      rintro ⟨b, tb, val, tv, j⟩ u h tk - hP F2 N2
      dsimp only at hP F2 N2 ⊢
      k_with "call builtin:next" => (refine Stop.mk ?_)
      k_with "inplaceOp LShift int int" => ((with_reducible refine shl6 ?_ ?_); first | exact hvbits | (try dsimp only))
      have hvbits : Builtin.Int.intBits val ≤ 1000000 := Nat.le_trans ((intBits_le_iff (m := 6 * j)).mpr (by
        have h1 := hP.v0
        have h2 := hP.vb
        have h6 : ((val.natAbs : Nat) : Int) < ((2 ^ (6 * j) : Nat) : Int) := by rw [Int.natAbs_of_nonneg h1]; exact_mod_cast h2
        exact_mod_cast h6)) (by have h3 := hP.ile; omega)
      k_steps
      · unfold Stop
        rename Fr _ _ _ _ => F
        rename News _ _ _ _ => N
        have hbit : ¬ b / 64 % 2 = 0 := by omega
        cases hx2 : bs[j]? with
        | none =>
          refine next_stop rfl (N.get (.head _)) hx2 ?_
          intro h' e t0 hen he hkeep
          dsimp only
          refine pv_leave (t0 := t0) rfl hf1 hf2 rfl hk1 hk2 rfl hL1 hd1 hL2 hd2 h1 h2 F h3 hen he hkeep ?_
          intro h'' B a0 p1 p2 p3
          refine hstop ?_ e h'' _ B a0 p1 p2 p3
          rw [← hP.go, bInts_drop_nil hx2]
          simp [pvGo, hbit]
        | some c2 =>
          refine next_some (N.get (.head _)) hx2 ?_
          intro h' hit' hk'
          obtain ⟨F', N'⟩ := iter_moved F N hit' hk'
          clear F N
          dsimp only
          have hc2 : (c2.toNat : Int) < 256 := by have := c2.toNat_lt; omega
          k_with_none
          k_with "binaryOp BitAnd int int" => ((with_reducible first | refine and63 ?_ | refine and64 ?_); (try dsimp only))
          k_with "inplaceOp BitOr int int" => ((with_reducible refine' or6 ?oa ?ob ?_); (case oa => omega); (case ob => omega); (try dsimp only))
          k_with "KswPost" => (refine Stop.mk ?_)
          k_steps
          rename Fr _ _ _ _ => F
          rename News _ _ _ _ => N
          refine' ksw_end ⟨_, _, _, _, j + 1⟩ F N ?hn trivial ?hk ?hr ?hp ?hm
          case hn => kst_inAny
          case hk => kst_all
          case hr =>
            intro z h2 h3
            have h4 := h2 _ (.head _)
            have h5 := h2 _ (.tail _ (.head _))
            dsimp only at h4 h5
            simp only [kstB, if_neg h4, if_neg h5, h3, if_false, Bool.false_eq_true]
          case hm =>
            have hlt : j < bs.size := (Array.getElem?_eq_some_iff.mp hx2).1
            dsimp only
            omega
          case hp =>
            have hlt : j < bs.size := (Array.getElem?_eq_some_iff.mp hx2).1
            dsimp only
            refine ⟨?_, hlt, ?_, ?_⟩
            · rw [← hP.go, bInts_drop_cons hx2]
              simp [pvGo, hbit]
            · have := hP.v0
              omega
            · have h1 := hP.vb
              have e : (2 : Int) ^ (6 * (j + 1)) = 2 ^ (6 * j) * 64 := by rw [Nat.mul_add, Int.pow_add]; rfl
              rw [e]
              omega
      · dsimp only
        rename Fr _ _ _ _ => F
        rename News _ _ _ _ => N
        have hbit : b / 64 % 2 = 0 := by omega
        refine hret val j tv _ _ ?_ hP.ile (fun b' o hb' q => F.keep b' o (hideAll_get _ q (by simpa using hb'))) (N.get (.head _))
        rw [← hP.go]
        cases (KBw.bInts bs).drop j <;> simp [pvGo, hbit]
end Mine
end
section
open PySem PySem.W PySem.Calls PyProof.Rows
set_option Elab.async false
set_option maxRecDepth 100000
set_option maxHeartbeats 4000000
namespace Mine
theorem offDzY : True := by
  w_top off
  k_with_none
  trivial
section
variable {prog : Program} {w : World} {A : Around} {E : Value → Shared → Prop} {s : Shared} {h₀ : Heap} {L : Addr} {m : Str → Option Value} {news news' : List (Addr × Obj)} {Q : Value → Shared → Prop}
theorem iter_bytesN {bs : Array UInt8} {t : Tok} (F : Fr h₀ L s.heap m) (N : News h₀ L s.heap news)
    (h : ∀ it h', Fr h₀ L h' m → News h₀ L h' ((it, iterO bs t 0) :: news) → (∀ p ∈ news, p.1 < it) → Q (.ref it) { s with heap := h' }) :
    wpAny (model prog w) A (call (.builtin "iter") [.bytes bs t]) Q E s := by
  refine call_function_entry (by decide +kernel) (by decide +kernel) kdk_entry_iter (kdk_args_iter _) ?_
  unfold Builtin.«iter»
  refine wpAny_bind (m := someArgs "iter" 1 2 _) (wpAny_of_eq (a := [Value.bytes bs t]) (by first | rfl | kernel_rfl!) ?_)
  dsimp only
  refine wpAny_bind (KBw.pyIter_bytes ?_)
  exact wpAny_pure ⟨_, rfl, h _ _ (F.push _) (N.push F _) fun p hp => Heap.lt_size (N p hp).1⟩
/-- one object of the ledger turned, all else as it stood -/
theorem moved {g h h' : Heap} {it : Addr} {o o' : Obj} (F : Fr g L h m) (N : News g L h news) (U : Upd it o o' news news') (hit : h'.get? it = some o') (hk : ∀ b x, b ≠ it → h.get? b = some x → h'.get? b = some x) :
    Fr g L h' m ∧ News g L h' news' := by
  obtain ⟨pre, post, e1, e2, h1, h2⟩ := U.split
  subst e1 e2
  have Ni := N (it, o) (by simp)
  obtain ⟨oL, es, ep, hL, r⟩ := F.ns
  refine ⟨⟨⟨oL, es, ep, hk _ _ (Ne.symm Ni.2.1) hL, r⟩, fun b x e => hk b x (fun z => by rw [z, Ni.2.2] at e; cases e) (F.keep b x e), F.above⟩, fun p hp => ?_⟩
  rcases List.mem_append.mp hp with q | q
  · have P := N p (List.mem_append_left _ q); exact ⟨hk _ _ (h1 p q) P.1, P.2⟩
  · rcases List.mem_cons.mp q with rfl | q
    · exact ⟨hit, Ni.2⟩
    · have P := N p (List.mem_append_right _ (.tail _ q)); exact ⟨hk _ _ (h2 p q) P.1, P.2⟩
end
theorem stop_isExc : isSubtype (.type "StopIteration") (.type "BaseException") = pure true := owsi_raise.isExc
theorem stop_notTuple : isSubtype (.type ((Manifest.find? "StopIteration").elim "type" fun x => x.metatype)) (.type "tuple") = pure false := by
  rw [show ((Manifest.find? "StopIteration").elim "type" fun x => x.metatype) = "type" from by kernel_rfl, isSubtype_type]; kernel_rfl
theorem stop_self : isSubtype (.type "StopIteration") (.type "StopIteration") = pure true := by rw [isSubtype_type]; kernel_rfl
/-- _law_read's own clause takes the stop -/
theorem caught_pv {w : World} {A : Around} {env : Env} {name : Str} {scope : Scope} {L a e : Addr} {cd a0 : Value} {s' : Shared} {B h₀ h : Heap} {m : Str → Option Value} {mean : ExcName → Option Value} {mg mb : Str → Option Value}
    {b₀ : Stmt} {suite : List Stmt} {pos np : Pos} {Q : Flow → Shared → Prop} {E : Value → Shared → Prop}
    (hA : A.frames = some [envOf name scope L a cd, env]) (hfl : Heap.FlyingW B [envOf name scope L a cd, env] e (.type "StopIteration") a0 s'.heap)
    (F : Fr h₀ L h m) (kB : h₀.StaysIn B) (hsm : h.UpToSlots s'.heap) (X : (hd.heap_39 w.params).In h₀) (T : Top hd.view_39 LO mean mg mb h₀)
    (hx0 : nsIn (hd.heap_39 w.params) mainGlobals (Str.ofString "StopIteration") = some none)
    (k : ∀ h', Fr h₀ L h' m → B.StaysIn h' → s'.heap.UpToSlots h' →
      wpAny (model PR w) (A.mark (some (.ref e))) (execs (b₀ :: suite) (envOf name scope L a cd)) Q (fun _ _ => False) { s' with heap := h' })
    (hk : scope.kind = .function) (hx : (envOf name scope L a cd).kindOf (Str.ofString "StopIteration") = some .globalImplicit) :
    wpAny (model PR w) A (noteFrame (.ref e) (envOf name scope L a cd))
      (fun _ s₂ => wpAny (model PR w) A (setFlight (.ref e) none) (fun _ s₃ =>
        wpAny (model PR w) A (handleBy (.ref e) (envOf name scope L a cd) [.ExceptHandler (some (.Name (Str.ofString "StopIteration") np)) none (b₀ :: suite) pos]) Q E s₃) E s₂) E s' := by
  refine wpAny_looks_onW hA rfl hfl fun h₄ hheld₄ hsm₄ => ?_
  refine wpAny_landsW hheld₄ fun h₅ hheld hsm₅' => ?_
  have hsm₅ := hsm₄.trans hsm₅'
  have F₅ := F.of_stays (fun b o q => hheld.1 b o (kB b o q)) (hsm.trans hsm₅)
  obtain ⟨ob, hob, hobc⟩ := hheld.there
  refine wpAny_handleBy_builtin (X := "StopIteration") (T := "StopIteration") (b := true) stop_isExc stop_notTuple stop_self
    (name_B (cn := name) (cs := scope) (ccd := cd) F₅ X (topRead_of T) hx0 (v := .type "StopIteration") (by boot_by_name) (by decide) ⟨rfl, ⟨ob, hob, hobc⟩, ?_⟩ hk hx)
  refine lands_againW hheld fun h₆ hfl₆ hsm₆ => ?_
  have F₆ := F.of_stays (fun b o q => hfl₆.1 b o (kB b o q)) ((hsm.trans hsm₅).trans hsm₆)
  exact wpAny_noRaise (k h₆ F₆ hfl₆.1 (hsm₅.trans hsm₆))
end Mine
end
section
open PySem PySem.W PySem.Calls PyProof.Rows
set_option Elab.async false
set_option maxRecDepth 100000
set_option maxHeartbeats 8000000
set_option pp.deepTerms false
set_option pp.deepTerms.threshold 6
set_option pp.maxSteps 20000
namespace Mine
theorem offDzR : True := by
  w_top off
  k_with_none
  trivial
def Oct (xs : List Int) : Prop := ∀ x ∈ xs, 0 ≤ x ∧ x < 256
/-- all numbers that can be read, one behind the other -/
def readAll (n : Nat) (xs : List Int) : List Int := match n with
  | 0 => []
  | n + 1 => match pvF xs with
    | none => []
    | some (v, r) => v :: readAll n r
def RetR (s : Shared) (L1 : Addr) (Q : Value → Shared → Prop) (zs : List Int) : Prop :=
  ∀ l vs n h' tk', (∀ b o, b ≠ L1 → s.heap.get? b = some o → h'.get? b = some o) → (∀ o, s.heap.get? L1 = some o → (∀ vs, o.data ≠ .fields vs) → ∃ sl, h'.get? L1 = some { o with slots := sl }) →
    s.heap.get? l = none → h'.get? l = some (W.listOf (List.toArray vs) n) → IntsAre vs zs → Q (.ref l) { s with heap := h', toks := tk' }
theorem pvGo_len : ∀ (l : List Int) (val b v : Int) (r : List Int), pvGo val b l = some (v, r) → r.length ≤ l.length
  | [], val, b, v, r, h => by
    unfold pvGo at h
    split at h
    · cases h; exact Nat.le_refl _
    · cases h
  | c :: l, val, b, v, r, h => by
    unfold pvGo at h
    split at h
    · cases h; exact Nat.le_refl _
    · exact Nat.le_succ_of_le (pvGo_len l _ _ _ _ h)
theorem pvF_len {l : List Int} {v : Int} {r : List Int} (h : pvF l = some (v, r)) : r.length < l.length := by
  cases l with
  | nil => cases h
  | cons b l => exact Nat.lt_succ_of_le (pvGo_len _ _ _ _ _ h)
theorem ints_append : ∀ {vs us : List Value} {xs ys : List Int}, IntsAre vs xs → IntsAre us ys → IntsAre (vs ++ us) (xs ++ ys)
  | _, _, _, _, .nil, h => h
  | _, _, _, _, .cons n t h, h' => .cons n t (ints_append h h')
/-- k turns taken: ns is read, j octets are gone -/
structure RD (xs : List Int) (k : Nat) (ns : List Int) (j : Nat) : Prop where
  all : ∃ f, readAll (xs.length + 1) xs = ns ++ readAll f (xs.drop j) ∧ f + k = xs.length + 1
  kj : k ≤ j
  jl : j ≤ xs.length
  nl : ns.length = k
theorem read_call {w : World} {env : Env} {s : Shared} {lo L1 : Addr} {vo : List Value} {xs : List Int} {Q E : Value → Shared → Prop}
   (C : Cal w env s.heap) (hf1 : env.frame = some L1) (ha : s.heap.IsList lo vo.toArray) (hi : IntsAre vo xs)
   (hx : Oct xs) (hlen : xs.length ≤ 50000) (ret : RetR s L1 Q (readAll (xs.length + 1) xs)) :
   wpAny (model PR w) (callerA.deeper env) (call (.ref 61) [.ref lo]) Q E s := by
  have dummy : (Challenge.rw_dz0020_01.prog, hd.heap_39) = (Challenge.rw_dz0020_01.prog, hd.heap_39) := rfl
  revert dummy
  k_fill
  intro _
  obtain ⟨base, g0, L1', m1, mean, mg, mb, B1, F1, X, T, hf1', hk1⟩ := C.out
  obtain rfl : L1 = L1' := Option.some.inj (hf1.symm.trans hf1')
  have n1 : g0.get? L1 = none := Heap.get?_none_of_le F1.above
  obtain ⟨o1, es1, ep1, hL1, hd1, _⟩ := F1.ns
  have hnf1 : ∀ vs, o1.data ≠ .fields vs := by rw [hd1]; intro vs q; cases q
  refine enterH [L1] X T F1.keep (by intro a ha; rw [List.mem_singleton.mp ha]; exact n1) (by simp only [depth_deeper, depth_caller]; decide) (by k_is) (by k_is) (BindsTo.of_eq rfl) (locs rfl) ?_ rfl rfl rfl (by decide)
  intro L2 h₁ hL2 F hk₁ X2 T2
  have h12 : L1 ≠ L2 := hL2 ▸ Nat.ne_of_lt (Heap.lt_size hL1)
  have N : News (hideAll s.heap [L1]) L2 h₁ [(L1, o1)] := by
    intro p hp
    rw [List.mem_singleton.mp hp]
    exact ⟨hk₁ _ _ hL1, h12, hideAll_none _ (.head _)⟩
  have hlo : lo ≠ L1 := by
    rintro rfl
    obtain ⟨o, ho, hc, n, hd⟩ := ha
    rw [hL1] at ho
    cases ho
    rw [hd1] at hd
    cases hd
  have ha2 : (hideAll s.heap [L1]).IsList lo vo.toArray := by
    obtain ⟨o, ho, r⟩ := ha
    exact ⟨o, hideAll_get _ ho (by simpa using hlo), r⟩
  clear ha
  k_with_none
  k_with "call builtin:iter" => ((with_reducible show wpAny _ _ (call (Value.builtin "iter") [Value.bytes _ _]) _ _ _); refine' iter_bytesN ?iF ?iN ?_; (case iF => k_asm); (case iN => k_asm); intro it h' F' N' l1; (try k_lt l1); (try k_sweep); (try dsimp only))
  k_with "exec For Name BinOp cons nil" => ((rename Fr _ _ _ _ => lF'); (with_unfolding_all refine' For_invVF lF' ?k1 ?k2 ?_; (case k1 => exact rfl); (case k2 => exact rfl)))
  k_with "exec For" => ((rename Fr _ _ _ _ => lF'); (with_unfolding_all refine' For_invVF lF' ?k1 ?k2 ?_; (case k1 => exact rfl); (case k2 => exact rfl)))
  k_with "pyIter ref" => (refine Stop.mk ?_)
  k_steps
  unfold Stop
  rename Fr _ _ _ _ => F
  rename News _ _ _ _ => N
  rename IntsAre _ _ => HI
  rename_i tB kk kbaIn kbaS hA1 tkA lT hA2 lT1 hA3 l0 hA4 l01 lD wsD hh lD1
  refine' kst_listL (σ := List Value × List Int × Nat × Nat) (l := lD) (vs := wsD) (ns := xs ++ [0]) (nn := 0)
    (fun c => [(lD, W.listOf wsD.toArray 0), (l0, W.listOf #[Value.int 0 tk] 0), (lT, W.listOf c.1.toArray c.2.2.1), (it, iterO (byteArr xs) tB c.2.2.2), (L1, o1)])
    (fun _ => []) (fun c => IntsAre c.1 c.2.1) [] (fun pre c => RD xs pre.length c.2.1 c.2.2.2) ([], [], 0, 0) rfl (fun c => .head _) HI F N .nil (fun _ hp => nomatch hp) ?hp ?turn ?done
  case hp => exact ⟨⟨_, rfl, rfl⟩, Nat.le_refl _, Nat.zero_le _, rfl⟩
  case turn =>
    rintro ⟨us, ns, cnt, j⟩ pre post n t' u h tk2 own hns hmem hoff hF hP F2 N2
    dsimp only at hF hP F2 N2 hoff ⊢
    replace N2 : News (hideAll s.heap [L1]) _ h ((lD, W.listOf wsD.toArray 0) :: (l0, W.listOf #[Value.int 0 tk] 0) :: (lT, W.listOf us.toArray cnt) :: (it, iterO (byteArr xs) tB j) :: (L1, o1) :: own) := N2
    k_with_none
    k_with "call ref" => (refine Stop.mk ?_)
    k_steps
    unfold Stop
    rename Fr _ _ _ _ => F
    rename News _ _ _ _ => N
    obtain ⟨o2, es2, ep2, hL2o, hd2, _⟩ := id F.ns
    have hnf2 : ∀ vs, o2.data ≠ .fields vs := by rw [hd2]; intro vs q; cases q
    have mIt : (it, iterO (byteArr xs) tB j) ∈ ((lD, W.listOf wsD.toArray 0) :: (l0, W.listOf #[Value.int 0 tk] 0) :: (lT, W.listOf us.toArray cnt) :: (it, iterO (byteArr xs) tB j) :: (L1, o1) :: own) := .tail _ (.tail _ (.tail _ (.head _)))
    have mL1 : (L1, o1) ∈ ((lD, W.listOf wsD.toArray 0) :: (l0, W.listOf #[Value.int 0 tk] 0) :: (lT, W.listOf us.toArray cnt) :: (it, iterO (byteArr xs) tB j) :: (L1, o1) :: own) := .tail _ (.tail _ (.tail _ (.tail _ (.head _))))
    have mT : (lT, W.listOf us.toArray cnt) ∈ ((lD, W.listOf wsD.toArray 0) :: (l0, W.listOf #[Value.int 0 tk] 0) :: (lT, W.listOf us.toArray cnt) :: (it, iterO (byteArr xs) tB j) :: (L1, o1) :: own) := .tail _ (.tail _ (.head _))
    have nIt : L1 ≠ it := by
      rintro rfl
      have e1 := N.get mIt
      have e2 := N.get mL1
      rw [e1] at e2
      cases e2
      exact hnf1 _ rfl
    have hbI : KBw.bInts (byteArr xs) = xs := KBa.ints_make kbaIn
    have hbz : (byteArr xs).size = xs.length := byteArr_size xs
    obtain ⟨⟨f, hall, hf⟩, hkj, hjl, hnl⟩ := hP
    refine pv_call (g0 := hideAll s.heap [L1]) (L1 := L1) (L2 := L2) (o1 := o1) (o2 := o2) (bs := byteArr xs) (t := tB) (i := j) X2 T2 F.keep (N.fresh mIt) hf1 rfl hk1 rfl (N.get mL1) hnf1 hL2o hnf2 nIt (Ne.symm (N _ mIt).2.1) (N.get mIt) (by rw [hbz]; omega) ?hret ?hstop
    case hret =>
      intro v j' tv h' tk' hpv hj' hk' hit'
      rw [hbI] at hpv
      rw [hbz] at hj'
      obtain ⟨F', N'⟩ := moved (o' := iterO (byteArr xs) tB j') F N (by k_upd) hit' hk'
      clear F N
      dsimp only
      k_with_none
      k_with "InvPostN" => (refine Stop.mk ?_)
      k_steps
      unfold Stop
      dsimp only [InvPostN]
      rename Fr _ _ _ _ => F
      rename News _ _ _ _ => N
      (try simp only [List.push_toArray] at N)
      have hlt := pvF_len hpv
      simp only [List.length_drop] at hlt
      refine' kst_end ⟨us ++ [Value.int v tv], ns ++ [v], _, j'⟩ F N ?hn ?ho ?ha ?hf ?hk ?hr ?hp
      case hn => kst_inAny
      case hk => kst_all
      case ha => rfl
      case ho => first | (intro p hp; kst_mem) | kst_anyIn
      case hf => exact ints_append hF (.cons _ _ .nil)
      case hr =>
        intro z h1 h2 h3
        simp only [kstB, if_neg h1, h3, if_false, Bool.false_eq_true]
      case hp =>
        dsimp only
        rw [List.length_append]
        obtain ⟨f', rfl⟩ : ∃ f', f = f' + 1 := ⟨f - 1, by omega⟩
        refine ⟨⟨f', ?_, ?_⟩, ?_, hj', ?_⟩
        · rw [hall, readAll, hpv, List.append_assoc]; rfl
        · simp; omega
        · simp; omega
        · simp [hnl]
    case hstop =>
      intro hnone e h' tk' B a0 pB pF pS
      rw [hbI] at hnone
      dsimp only
      have kB : (hideAll s.heap [L1]).StaysIn B := fun b o q => pB b o (F.keep b o q) (fun z => by rw [z, N.fresh mIt] at q; cases q)
        (fun z => by have := Heap.lt_size q; rw [z] at this; exact Nat.lt_irrefl _ (Nat.lt_of_lt_of_le this F.above)) (fun z => by rw [z, hideAll_none _ (.head _)] at q; cases q)
      have hsm : h.UpToSlots h' := fun b o q hn => pS b o (fun z => by rw [z, N.get mIt] at q; cases q; exact hn _ rfl) q hn
      have nT1 : lT ≠ L1 := by
        rintro rfl
        have e1 := N.get mT
        have e2 := N.get mL1
        rw [e1] at e2
        cases e2
        cases hd1
      have nTi : lT ≠ it := by
        rintro rfl
        have e1 := N.get mT
        have e2 := N.get mIt
        rw [e1] at e2
        simp at e2
      refine caught_pv (h₀ := hideAll s.heap [L1]) (h := h) (B := B) rfl pF F kB hsm X2 T2 (by k_is) ?_ rfl rfl
      intro h6 F6 kB6 hs6
      have N6 : News (hideAll s.heap [L1]) L2 h6 [(lT, W.listOf us.toArray cnt)] := by
        intro p hp
        rw [List.mem_singleton.mp hp]
        exact ⟨kB6 _ _ (pB _ _ (N.get mT) nTi (N _ mT).2.1 nT1), (N _ mT).2⟩
      have kL1 : ∀ o, s.heap.get? L1 = some o → (∀ vs, o.data ≠ .fields vs) → ∃ sl, h6.get? L1 = some { o with slots := sl } := by
        intro o q hn
        rw [hL1] at q
        cases q
        exact (hsm.trans hs6) L1 o1 (N.get mL1) hnf1
      have fT : s.heap.get? lT = none := by
        cases q : s.heap.get? lT with
        | none => rfl
        | some o => have := hideAll_get [L1] q (by simpa using nT1); rw [N.fresh mT] at this; cases this
      have hres : readAll (xs.length + 1) xs = ns := by
        rw [hall]
        cases f with
        | zero => simp [readAll]
        | succ f => simp [readAll, hnone]
      clear F N
      k_with_none
      k_steps
      dsimp only
      exact ret lT us cnt h6 _ (fun b o hb q => F6.keep b o (hideAll_get _ q (by simpa using hb))) kL1 fT (N6.get (.head _)) (by rw [hres]; exact hF)
  case done =>
    rintro ⟨us, ns, cnt, j⟩ u h tk2 hF hP F2 N2
    exfalso
    have h1 := hP.kj
    have h2 := hP.jl
    dsimp only at h1 h2
    rw [List.length_append] at h1
    simp at h1
    omega
end Mine
end
section
open PySem PySem.W PySem.Calls PyProof.Rows
set_option Elab.async false
set_option maxRecDepth 100000
set_option maxHeartbeats 4000000
namespace Mine
theorem offDzN : True := by
  w_top off
  k_with_none
  trivial
/-- what the caller knows behind a call that made one list -/
def RetN (h₀ : Heap) (L : Addr) (m : Str → Option Value) (news : List (Addr × Obj)) (s : Shared) (Q : Value → Shared → Prop) (zs : List Int) : Prop :=
  ∀ l vs n h' tk', Fr h₀ L h' m → News h₀ L h' ((l, W.listOf (List.toArray vs) n) :: news) → (∀ p ∈ news, @Ne Nat p.1 l) → IntsAre vs zs → Q (.ref l) { s with heap := h', toks := tk' }
section
variable {w : World} {env : Env} {s : Shared} {Q E : Value → Shared → Prop} {h₀ : Heap} {L : Addr} {m : Str → Option Value} {news : List (Addr × Obj)} {mean : ExcName → Option Value} {mg mb : Str → Option Value} {zs : List Int}
theorem cal_of (B : Below callerA h₀ [] h₀) (F : Fr h₀ L s.heap m) (X : (hd.heap_39 w.params).In h₀) (T : Top hd.view_39 LO mean mg mb h₀) (hf : env.frame = some L) (hk : env.scope.kind = .function) : Cal w env s.heap :=
  ⟨⟨_, _, _, _, _, _, _, B, F, X, T, hf, hk⟩⟩
theorem RetN.toL (F : Fr h₀ L s.heap m) (N : News h₀ L s.heap news) (h : RetN h₀ L m news s Q zs) : RetL s Q zs := by
  intro l vs n h' tk' k hn hl hi
  have hL : L ≠ l := fun z => by
    obtain ⟨oL, _, _, hL, _⟩ := F.ns
    rw [z, hn] at hL; cases hL
  refine h l vs n h' tk' (F.grownK k) (fun p hp => ?_) (fun p hp z => ?_) hi
  · rcases List.mem_cons.mp hp with rfl | hp
    · refine ⟨hl, Ne.symm hL, ?_⟩
      cases q : h₀.get? l with
      | none => rfl
      | some o => have := F.keep _ _ q; rw [hn] at this; cases this
    · exact ⟨k _ _ (N p hp).1, (N p hp).2⟩
  · have := (N p hp).1; rw [z, hn] at this; cases this
theorem RetN.toR (F : Fr h₀ L s.heap m) (N : News h₀ L s.heap news) (h : RetN h₀ L m news s Q zs) : RetR s L Q zs := by
  intro l vs n h' tk' k kL hn hl hi
  obtain ⟨oL, es, ep, hLo, hLd, hLr⟩ := id F.ns
  have hL : L ≠ l := fun z => by rw [z, hn] at hLo; cases hLo
  have fk : ∀ b o, h₀.get? b = some o → h'.get? b = some o := fun b o q => k b o (fun z => by have := Heap.lt_size q; rw [z] at this; exact Nat.lt_irrefl _ (Nat.lt_of_lt_of_le this F.above)) (F.keep b o q)
  have F' : Fr h₀ L h' m := by
    obtain ⟨sl, hs⟩ := kL oL hLo (by rw [hLd]; intro vs q; cases q)
    exact ⟨⟨_, es, ep, hs, hLd, hLr⟩, fk, F.above⟩
  refine h l vs n h' tk' F' (fun p hp => ?_) (fun p hp z => ?_) hi
  · rcases List.mem_cons.mp hp with rfl | hp
    · refine ⟨hl, Ne.symm hL, ?_⟩
      cases q : h₀.get? l with
      | none => rfl
      | some o => have := F.keep _ _ q; rw [hn] at this; cases this
    · exact ⟨k _ _ (N p hp).2.1 (N p hp).1, (N p hp).2⟩
  · have := (N p hp).1; rw [z, hn] at this; cases this
variable (B : Below callerA h₀ [] h₀) (F : Fr h₀ L s.heap m) (N : News h₀ L s.heap news) (X : (hd.heap_39 w.params).In h₀) (T : Top hd.view_39 LO mean mg mb h₀) (hf : env.frame = some L) (hk : env.scope.kind = .function)
include B F N X T hf hk
theorem read_N {lo : Addr} {vo : List Value} {xs : List Int} (ha : s.heap.IsList lo vo.toArray) (hi : IntsAre vo xs) (hx : Oct xs) (hlen : xs.length ≤ 50000) (h : RetN h₀ L m news s Q (readAll (xs.length + 1) xs)) :
    wpAny (model PR w) (callerA.deeper env) (call (.ref 61) [.ref lo]) Q E s := read_call (cal_of B F X T hf hk) hf ha hi hx hlen (h.toR F N)
theorem quot_N {la : Addr} {va : List Value} {xs : List Int} {b : Int} {tb : Tok} (ha : s.heap.IsList la va.toArray) (hi : IntsAre va xs) (hb : 2 ≤ b) (hb' : b ≤ 64) (hlen : xs.length ≤ 8) (h : RetN h₀ L m news s Q (quotF b xs).2) :
    wpAny (model PR w) (callerA.deeper env) (call (.ref 49) [.ref la, .int b tb]) Q E s := quot_call (cal_of B F X T hf hk) ha hi hb hb' hlen (h.toL F N)
theorem oct_N {la : Addr} {va : List Value} {xs : List Int} {mk : Int} {tm : Tok} (ha : s.heap.IsList la va.toArray) (hi : IntsAre va xs) (hlen : xs.length ≤ 1000) (hne : 1 ≤ xs.length) (hm : 0 ≤ mk) (hm2 : mk < 128) (h : RetN h₀ L m news s Q (octF xs mk)) :
    wpAny (model PR w) (callerA.deeper env) (call (.ref 54) [.ref la, .int mk tm]) Q E s := oct_call (cal_of B F X T hf hk) ha hi hlen hne hm hm2 (h.toL F N)
theorem sum_N {la lc : Addr} {va vc : List Value} {xs ys : List Int} (ha : s.heap.IsList la va.toArray) (hi : IntsAre va xs) (hc : s.heap.IsList lc vc.toArray) (hj : IntsAre vc ys) (hlen : xs.length ≤ 8) (hlen2 : ys.length ≤ 8) (h : RetN h₀ L m news s Q (sumF xs ys)) :
    wpAny (model PR w) (callerA.deeper env) (call (.ref 35) [.ref la, .ref lc]) Q E s := sum_call (cal_of B F X T hf hk) ha hi hc hj (by omega) (by omega) (h.toL F N)
theorem diff_N {la lc : Addr} {va vc : List Value} {xs ys : List Int} (ha : s.heap.IsList la va.toArray) (hi : IntsAre va xs) (hc : s.heap.IsList lc vc.toArray) (hj : IntsAre vc ys) (hlen : xs.length ≤ 8) (hlen2 : ys.length ≤ 8) (h : RetN h₀ L m news s Q (diffF xs ys)) :
    wpAny (model PR w) (callerA.deeper env) (call (.ref 42) [.ref la, .ref lc]) Q E s := diff_call (cal_of B F X T hf hk) ha hi hc hj hlen hlen2 (h.toL F N)
theorem prod_N {la lc : Addr} {va vc : List Value} {xs ys : List Int} (ha : s.heap.IsList la va.toArray) (hi : IntsAre va xs) (hc : s.heap.IsList lc vc.toArray) (hj : IntsAre vc ys) (hdx : Dig xs) (hlen : xs.length ≤ 8) (hlen2 : ys.length ≤ 8) (h : RetN h₀ L m news s Q (prodFold xs ys).reverse) :
    wpAny (model PR w) (callerA.deeper env) (call (.ref 28) [.ref la, .ref lc]) Q E s := prod_call (cal_of B F X T hf hk) ha hi hc hj hdx (by omega) (by omega) (h.toL F N)
end
end Mine
end
section
open PySem PySem.W PySem.Calls PyProof.Rows
set_option Elab.async false
set_option maxRecDepth 100000
set_option maxHeartbeats 4000000
namespace Mine
theorem offDzJ : True := by
  w_top off
  k_with_none
  trivial
/-- the number that digits in base 64 tell -/
def valD (ds : List Int) : Int := ds.foldl (fun a d => a * 64 + d) 0
/-- a row of octets that tells v -/
structure Enc (row : List Int) (v : Int) : Prop where
  oct : Oct row
  split : ∃ ini last, row = ini ++ [last] ∧ (∀ x ∈ ini, x / 64 % 2 = 1) ∧ last / 64 % 2 = 0
  val : valD (row.map fun o => o.fmod 64) = v
  short : row.length ≤ 100
abbrev rowO (r : Addr × List Value × Nat) : Addr × Obj := (r.1, W.listOf r.2.1.toArray r.2.2)
inductive RowsAre : List (Addr × List Value × Nat) → List (List Int) → List Int → Prop
  | nil : RowsAre [] [] []
  | cons {r : Addr × List Value × Nat} {rs : List (Addr × List Value × Nat)} {xs : List Int} {rows : List (List Int)} {v : Int} {due : List Int} : IntsAre r.2.1 xs → Enc xs v → RowsAre rs rows due → RowsAre (r :: rs) (xs :: rows) (v :: due)
theorem RowsAre.get {rs : List (Addr × List Value × Nat)} {rows : List (List Int)} {due : List Int} (h : RowsAre rs rows due) : ∀ {k : Nat}, k < rs.length → ∃ r xs v, rs[k]? = some r ∧ rows[k]? = some xs ∧ due[k]? = some v ∧ IntsAre r.2.1 xs ∧ Enc xs v := by
  induction h with
  | nil => intro k hk; cases hk
  | cons h1 h2 _ ih =>
    intro k hk
    cases k with
    | zero => exact ⟨_, _, _, rfl, rfl, rfl, h1, h2⟩
    | succ k => simpa using ih (by simpa using hk)
theorem RowsAre.snoc {rs : List (Addr × List Value × Nat)} {rows : List (List Int)} {due : List Int} {r : Addr × List Value × Nat} {xs : List Int} {v : Int} (h : RowsAre rs rows due) (h1 : IntsAre r.2.1 xs) (h2 : Enc xs v) : RowsAre (rs ++ [r]) (rows ++ [xs]) (due ++ [v]) := by
  induction h with
  | nil => exact .cons h1 h2 .nil
  | cons a b _ ih => exact .cons a b ih
theorem RowsAre.len {rs : List (Addr × List Value × Nat)} {rows : List (List Int)} {due : List Int} (h : RowsAre rs rows due) : rows.length = rs.length ∧ due.length = rs.length := by
  induction h with
  | nil => exact ⟨rfl, rfl⟩
  | cons _ _ _ ih => simp [ih.1, ih.2]
/-- what holds of the law's frame and ledger between the turns -/
structure LJ (cellA rowsA dueA lD : Addr) (wsD : List Value) (i : Nat) (m : Str → Option Value) (news : List (Addr × Obj)) : Prop where
  out : ∃ (oc : Obj) (cv : Option Value) (rs : List (Addr × List Value × Nat)) (n1 : Nat) (dv : List Value) (n2 : Nat) (rows : List (List Int)) (due : List Int),
    news = (cellA, oc) :: (rowsA, W.listOf ((rs.map fun r => Value.ref r.1).toArray) n1) :: (dueA, W.listOf dv.toArray n2) :: (lD, W.listOf wsD.toArray 0) :: rs.map rowO ∧ oc.data = .cell cv ∧ RowsAre rs rows due ∧ IntsAre dv due ∧
    m (Str.ofString "rows") = some (.ref rowsA) ∧ m (Str.ofString "due") = some (.ref dueA) ∧ rs.length = 2 + i ∧ (∀ r ∈ rs, @Ne Nat r.1 cellA ∧ @Ne Nat r.1 rowsA ∧ @Ne Nat r.1 dueA ∧ @Ne Nat r.1 lD)
section
variable {prog : Program} {w : World} {A : Around} {E : Value → Shared → Prop} {s : Shared} {h₀ : Heap} {L : Addr} {m : Str → Option Value} {news : List (Addr × Obj)} {Q : Value → Shared → Prop}
/-- an item of the list of rows -/
theorem row_item {value slice : PySem.Expr} {a : Addr} {rs : List (Addr × List Value × Nat)} {rows : List (List Int)} {due : List Int} {n1 : Nat} {k : Int} {u : Tok} (N : News h₀ L s.heap news) (ha : (a, W.listOf ((rs.map fun r => Value.ref r.1).toArray) n1) ∈ news) (hR : RowsAre rs rows due)
    (hr : ∀ r ∈ rs, rowO r ∈ news) (h0 : 0 ≤ k) (h1 : k < rs.length) (hz : rs.length ≤ 1000)
    (h : ∀ b vs n xs v, (b, W.listOf (List.toArray vs) n) ∈ news → IntsAre vs xs → Enc xs v → rows[k.toNat]? = some xs → due[k.toNat]? = some v → Q (.ref b) s)
    (hs : subscripted slice false (.ref a) (.int k u) = operate [.ref a, .int k u] (getItem (.ref a) (.int k u)) := by with_unfolding_all rfl) :
    wpAny (model prog w) A (subscriptTail value slice (.ref a) (.int k u)) Q E s := by
  obtain ⟨r, xs, v, e1, e2, e3, hi, he⟩ := hR.get (k := k.toNat) (by omega)
  have hl : s.heap.IsList a ((rs.map fun r => Value.ref r.1).toArray) := ⟨_, N.get ha, rfl, n1, rfl⟩
  refine tail_any hl.typeIs F.slot_list_getitem.lookup (wpAny_getItem_list (x := .ref r.1) hl h0 (by omega) (by simp [e1]) ?_) hs
  exact h r.1 r.2.1 r.2.2 xs v (hr r (List.mem_of_getElem? e1)) hi he e2 e3
/-- the last eight items -/
theorem slice_last8 {value slice : PySem.Expr} {l : Addr} {vs : List Value} {ns : List Int} {t : Tok} (F : Fr h₀ L s.heap m) (N : News h₀ L s.heap news) (hl : s.heap.IsList l vs.toArray) (hi : IntsAre vs ns) (hz : ns.length ≤ 1000)
    (h : ∀ D ws h', Fr h₀ L h' m → News h₀ L h' ((D, W.listOf (List.toArray ws) 0) :: news) → (∀ p ∈ news, p.1 < D) → IntsAre ws (ns.drop (ns.length - 8)) → Q (.ref D) { s with heap := h' })
    (hs : subscripted slice false (.ref l) (.ref s.heap.objs.size) = operate [.ref s.heap.objs.size, .ref l] (getItem (.ref l) (.ref s.heap.objs.size)) := by with_unfolding_all rfl) :
    wpAny (model prog w) A (subscriptTail value slice (.ref l) (.ref s.heap.objs.size)) Q E { s with heap := s.heap.push { cls := .type "slice", data := .fields #[.int (-8) t, .none, .none] } } := by
  have hm := kmk_from_neg (x := -8) hi (by decide)
  have hsz : vs.toArray.size ≤ sizeLine := by rw [List.size_toArray, hi.length, sizeLine_eq]; omega
  refine tail_any (Heap.IsList.typeIs (s := { s with heap := s.heap.push { cls := .type "slice", data := .fields #[.int (-8) t, .none, .none] } }) (hl.push _)) list_getitem_lookup
    (wpAny_getItem_list_slice (hl.push _) (Heap.IsSliceOf.new ..) (.int _ _) .none .none (by simp) ?_ hsz) hs
  have N1 := News.push (F.push { cls := .type "slice", data := .fields #[.int (-8) t, .none, .none] }) (N.grown fun _ _ e => Heap.get?_push_of_some _ e) { cls := .type "list", data := .seq (slicePick vs.toArray (some (-8)) none none) }
  rw [Heap.size_push] at N1
  show Q (.ref (s.heap.push _).objs.size) _
  rw [Heap.size_push]
  refine h _ (slicePick vs.toArray (some (-8)) none none).toList _ ((F.push _).push _) ?_ (fun p hp => Nat.lt_succ_of_lt (Heap.lt_size (N p hp).1)) hm
  rw [Array.toArray_toList]
  exact N1
end
end Mine
end
section
open PySem PySem.W PySem.Calls PyProof.Rows
set_option Elab.async false
set_option maxHeartbeats 1000000
namespace Mine
theorem offDzA : True := by
  w_top off
  k_with_none
  trivial
theorem valD_foldl (ds : List Int) : ∀ a, ds.foldl (fun a d => a * 64 + d) a = a * 64 ^ ds.length + valD ds := by
  unfold valD
  induction ds with
  | nil => intro a; simp
  | cons d ds ih =>
    intro a
    rw [List.foldl_cons, List.foldl_cons, ih, ih (0 * 64 + d), List.length_cons, Int.pow_succ, Int.zero_mul, Int.zero_add, Int.add_mul, Int.mul_assoc, Int.mul_comm 64, Int.add_assoc]
theorem valD_nil : valD [] = 0 := rfl
theorem valD_cons (d : Int) (ds : List Int) : valD (d :: ds) = d * 64 ^ ds.length + valD ds := by
  show (d :: ds).foldl _ 0 = _
  rw [List.foldl_cons, valD_foldl]; simp
theorem valD_append (xs ys : List Int) : valD (xs ++ ys) = valD xs * 64 ^ ys.length + valD ys := by
  show (xs ++ ys).foldl _ 0 = _
  rw [List.foldl_append, valD_foldl]; rfl
theorem valD_snoc (xs : List Int) (d : Int) : valD (xs ++ [d]) = valD xs * 64 + d := by
  show (xs ++ [d]).foldl _ 0 = _
  rw [List.foldl_append]; rfl
theorem Dig.cons {d : Int} {ds : List Int} (h : Dig (d :: ds)) : (0 ≤ d ∧ d < 64) ∧ Dig ds := ⟨h d (.head _), fun x hx => h x (.tail _ hx)⟩
theorem valD_bound {ds : List Int} (h : Dig ds) : 0 ≤ valD ds ∧ valD ds < 64 ^ ds.length := by
  induction ds with
  | nil => exact ⟨Int.le_refl _, by decide⟩
  | cons d ds ih =>
    obtain ⟨⟨h0, h1⟩, h2⟩ := h.cons
    obtain ⟨i0, i1⟩ := ih h2
    rw [valD_cons, List.length_cons, Int.pow_succ]
    have hp : (0 : Int) < 64 ^ ds.length := Int.pow_pos (by decide)
    generalize (64 : Int) ^ ds.length = P at *
    have m0 : 0 ≤ d * P := Int.mul_nonneg h0 (Int.le_of_lt hp)
    have m1 : d * P ≤ 63 * P := Int.mul_le_mul_of_nonneg_right (by omega) (Int.le_of_lt hp)
    omega
theorem valD_bound8 {ds : List Int} (h : Dig ds) (hl : ds.length ≤ 8) : 0 ≤ valD ds ∧ valD ds < 281474976710656 := by
  obtain ⟨a, b⟩ := valD_bound h
  refine ⟨a, Int.lt_of_lt_of_le b ?_⟩
  have : (64 : Int) ^ ds.length ≤ 64 ^ 8 := by
    have := Nat.pow_le_pow_right (n := 64) (by decide) hl
    exact_mod_cast this
  exact this
theorem enc0 : Enc [191] 63 := ⟨by intro x hx; simp at hx; omega, ⟨[], 191, rfl, by simp, by decide⟩, by decide, by decide⟩
theorem enc1 : Enc [193, 64, 128] 4096 := ⟨by intro x hx; simp at hx; omega, ⟨[193, 64], 128, rfl, by intro x hx; simp at hx; omega, by decide⟩, by decide, by decide⟩
theorem enc_last8 {xs : List Int} {v : Int} (h : Enc xs v) : Enc (xs.drop (xs.length - 8)) (valD ((xs.drop (xs.length - 8)).map fun o => o.fmod 64)) := by
  obtain ⟨ini, last, e, h1, h2⟩ := h.split
  refine ⟨fun x hx => h.oct x (List.mem_of_mem_drop hx), ⟨ini.drop (xs.length - 8), last, ?_, fun x hx => h1 x (List.mem_of_mem_drop hx), h2⟩, rfl, ?_⟩
  · have hl : xs.length = ini.length + 1 := by rw [e]; simp
    conv => lhs; rw [show xs.drop (xs.length - 8) = (ini ++ [last]).drop (xs.length - 8) from by rw [← e]]
    rw [List.drop_append_of_le_length (by omega)]
  · have := h.short
    rw [List.length_drop]; omega
theorem pvGo_enc : ∀ (ini : List Int) (last val b : Int) (rest : List Int), b / 64 % 2 = 1 → (∀ x ∈ ini, x / 64 % 2 = 1) → last / 64 % 2 = 0 →
    pvGo val b (ini ++ last :: rest) = some ((ini ++ [last]).foldl (fun a o => a * 64 + o % 64) val, rest)
  | [], last, val, b, rest, hb, hi, hl => by
    rw [List.nil_append, pvGo, if_neg (by omega)]
    cases rest with
    | nil => rw [pvGo, if_pos hl]; rfl
    | cons c r => rw [pvGo, if_pos hl]; rfl
  | c :: ini, last, val, b, rest, hb, hi, hl => by
    rw [List.cons_append, pvGo, if_neg (by omega), pvGo_enc ini last _ c rest (hi c (.head _)) (fun x hx => hi x (.tail _ hx)) hl]
    rfl
theorem valD_map (xs : List Int) : valD (xs.map fun o => o.fmod 64) = xs.foldl (fun a o => a * 64 + o % 64) 0 := by
  unfold valD
  rw [List.foldl_map]
  congr 1
  funext a o
  rw [Int.fmod_eq_emod_of_nonneg _ (by decide)]
/-- _parse_varint reads one row's number and leaves what stands behind it -/
theorem enc_pv {xs : List Int} {v : Int} (h : Enc xs v) (rest : List Int) : pvF (xs ++ rest) = some (v, rest) := by
  obtain ⟨ini, last, e, h1, h2⟩ := h.split
  have hv := h.val
  rw [valD_map, e] at hv
  rw [e, List.append_assoc, ← hv]
  cases ini with
  | nil =>
    show pvGo (last % 64) last rest = _
    cases rest with
    | nil => rw [pvGo, if_pos h2]; simp
    | cons c r => rw [pvGo, if_pos h2]; simp
  | cons b ini =>
    show pvGo (b % 64) b (ini ++ last :: rest) = _
    rw [pvGo_enc ini last _ b rest (h1 b (.head _)) (fun x hx => h1 x (.tail _ hx)) h2]
    simp
theorem enc_read {xs : List Int} {v : Int} (h : Enc xs v) : readAll (xs.length + 1) xs = [v] := by
  have e := enc_pv h []
  rw [List.append_nil] at e
  obtain ⟨ini, last, e2, _⟩ := h.split
  rw [readAll, e]
  have hl : xs.length = ini.length + 1 := by rw [e2]; simp
  rw [hl]
  show v :: readAll (ini.length + 1) [] = [v]
  rfl
end Mine
end
section
open PySem PySem.W PySem.Calls PyProof.Rows
set_option Elab.async false
set_option maxHeartbeats 1000000
namespace Mine
theorem offDzB : True := by
  w_top off
  k_with_none
  trivial
/-- digits in base 64 that tell v -/
structure DG (dd : List Int) (v : Int) : Prop where
  dig : Dig dd
  pos : 1 ≤ dd.length
  short : dd.length ≤ 20
  val : valD dd = v
theorem Dig.snoc {ds : List Int} {d : Int} (h : Dig ds) (h0 : 0 ≤ d) (h1 : d < 64) : Dig (ds ++ [d]) := by
  intro x hx
  rcases List.mem_append.mp hx with hx | hx
  · exact h x hx
  · rw [List.mem_singleton.mp hx]; exact ⟨h0, h1⟩
theorem Dig.rev {ds : List Int} (h : Dig ds) : Dig ds.reverse := fun x hx => h x (List.mem_reverse.mp hx)
theorem dig_nil : Dig [] := fun _ h => nomatch h
theorem quot_fold (b : Int) (hb : 0 < b) (hb' : b ≤ 64) : ∀ (xs : List Int) (r : Int) (out : List Int), Dig xs → 0 ≤ r → r < b → Dig out →
    let p := xs.foldl (fun p k => ((p.1 * 64 + k).fmod b, p.2 ++ [(p.1 * 64 + k).fdiv b])) (r, out)
    0 ≤ p.1 ∧ p.1 < b ∧ Dig p.2 ∧ p.2.length = out.length + xs.length ∧ valD p.2 * b + p.1 = (valD out * b + r) * 64 ^ xs.length + valD xs
  | [], r, out, _, h0, h1, ho => by simp [valD_nil]; exact ⟨h0, h1, ho⟩
  | d :: xs, r, out, hx, h0, h1, ho => by
    obtain ⟨⟨d0, d1⟩, hx'⟩ := hx.cons
    have e := Int.mul_fdiv_add_fmod (r * 64 + d) b
    have f0 := Int.fmod_nonneg_of_pos (r * 64 + d) hb
    have f1 := Int.fmod_lt_of_pos (r * 64 + d) hb
    have q0 : 0 ≤ (r * 64 + d).fdiv b := Int.fdiv_nonneg (by omega) (by omega)
    have q1 : (r * 64 + d).fdiv b < 64 := by
      rw [Int.fdiv_eq_ediv_of_nonneg _ (by omega)]
      exact Int.ediv_lt_of_lt_mul hb (by omega)
    have ih := quot_fold b hb hb' xs ((r * 64 + d).fmod b) (out ++ [(r * 64 + d).fdiv b]) hx' f0 f1 (ho.snoc q0 q1)
    simp only [List.foldl_cons]
    dsimp only at ih ⊢
    obtain ⟨i0, i1, i2, i3, i4⟩ := ih
    refine ⟨i0, i1, i2, by rw [i3]; simp only [List.length_append, List.length_cons, List.length_nil]; omega, ?_⟩
    rw [i4, valD_snoc, valD_cons, List.length_cons, Int.pow_succ]
    generalize (r * 64 + d).fdiv b = q at *
    generalize (r * 64 + d).fmod b = m at *
    generalize (64 : Int) ^ xs.length = P
    have e2 : (valD out * 64 + q) * b + m = (valD out * b + r) * 64 + d := by
      rw [Int.add_mul, Int.mul_comm q b, Int.add_assoc, e, Int.add_mul, Int.mul_assoc, Int.mul_assoc, Int.mul_comm 64 b, Int.add_assoc]
    rw [e2, Int.add_mul, Int.mul_assoc, Int.mul_comm 64 P, Int.add_assoc]
theorem quot_DG {xs : List Int} {b : Int} (hx : Dig xs) (lx : xs.length ≤ 8) (px : 1 ≤ xs.length) (hb : 2 ≤ b) (hb' : b ≤ 64) : DG (quotF b xs).2 ((valD xs).fdiv b) := by
  have h := quot_fold b (by omega) hb' xs 0 [] hx (Int.le_refl _) (by omega) dig_nil
  dsimp only at h
  obtain ⟨h0, h1, h2, h3, h4⟩ := h
  refine ⟨h2, by unfold quotF; rw [h3]; simp; omega, by unfold quotF; rw [h3]; simp; omega, ?_⟩
  unfold quotF
  rw [valD_nil] at h4
  simp only [Int.zero_mul, Int.zero_add, Int.add_zero] at h4
  rw [← h4, Int.fdiv_eq_ediv_of_nonneg _ (by omega), Int.add_comm, Int.add_mul_ediv_right _ _ (by omega), Int.ediv_eq_zero_of_lt h0 h1, Int.zero_add]
/-- the low n digits that f tells -/
def lo (f : Nat → Int) : Nat → Int
  | 0 => 0
  | n + 1 => lo f n + f n * 64 ^ n
theorem lo_congr {f g : Nat → Int} : ∀ {n : Nat}, (∀ k, k < n → f k = g k) → lo f n = lo g n
  | 0, _ => rfl
  | n + 1, h => by rw [lo, lo, lo_congr fun k hk => h k (Nat.lt_succ_of_lt hk), h n (Nat.lt_succ_self _)]
theorem lo_more {f : Nat → Int} {l : Nat} (hz : ∀ k, l ≤ k → f k = 0) : ∀ j, lo f (l + j) = lo f l
  | 0 => rfl
  | j + 1 => by rw [← Nat.add_assoc, lo, hz _ (Nat.le_add_right _ _), lo_more hz j]; simp
/-- the digit at place k, the lowest first -/
def dg (xs : List Int) (k : Nat) : Int := if k < xs.length then xs.getD (xs.length - 1 - k) 0 else 0
theorem lo_dg_len : ∀ xs : List Int, lo (dg xs) xs.length = valD xs
  | [] => rfl
  | d :: ds => by
    rw [List.length_cons, lo, valD_cons]
    have e1 : lo (dg (d :: ds)) ds.length = lo (dg ds) ds.length := lo_congr fun k hk => by
      unfold dg
      rw [if_pos (by rw [List.length_cons]; omega), if_pos hk, List.length_cons, show ds.length + 1 - 1 - k = (ds.length - 1 - k) + 1 by omega, List.getD_cons_succ]
    have e2 : dg (d :: ds) ds.length = d := by
      unfold dg
      rw [if_pos (by rw [List.length_cons]; omega), List.length_cons, show ds.length + 1 - 1 - ds.length = 0 by omega, List.getD_cons_zero]
    rw [e1, e2, lo_dg_len ds, Int.add_comm]
theorem lo_dg (xs : List Int) {n : Nat} (h : xs.length ≤ n) : lo (dg xs) n = valD xs := by
  obtain ⟨j, rfl⟩ := Nat.exists_eq_add_of_le h
  rw [lo_more (fun k hk => by unfold dg; rw [if_neg (by omega)]), lo_dg_len]
theorem dg_dig {xs : List Int} (h : Dig xs) (k : Nat) : 0 ≤ dg xs k ∧ dg xs k < 64 := by
  unfold dg
  split
  · exact h.getD _
  · decide
theorem rangeKs_succ (n : Nat) : rangeKs 0 (n + 1) = rangeKs 0 n ++ [(n : Int)] := by
  unfold rangeKs; rw [List.range_succ, List.map_append]; simp
theorem valD_rev_snoc (out : List Int) (d : Int) : valD (out ++ [d]).reverse = d * 64 ^ out.length + valD out.reverse := by
  rw [List.reverse_append, List.reverse_singleton, List.singleton_append, valD_cons, List.length_reverse]
theorem getD_low (xs : List Int) (k : Nat) (h : k < xs.length) : xs.getD (-1 - (k : Int) + (xs.length : Int)).toNat 0 = dg xs k := by
  unfold dg
  rw [if_pos h, show (-1 - (k : Int) + (xs.length : Int)).toNat = xs.length - 1 - k by omega]
end Mine
end
section
open PySem PySem.W PySem.Calls PyProof.Rows
set_option Elab.async false
set_option maxHeartbeats 1000000
namespace Mine
theorem offDzC : True := by
  w_top off
  k_with_none
  trivial
/-- one place of a sum -/
def sStep (xs ys : List Int) (p : Int × List Int) (k : Int) : Int × List Int :=
  ((p.1 + (dg xs k.toNat + dg ys k.toNat)).fdiv 64, p.2 ++ [(p.1 + (dg xs k.toNat + dg ys k.toNat)).fmod 64])
theorem sum_inv {xs ys : List Int} (hx : Dig xs) (hy : Dig ys) : ∀ n : Nat, let p := (rangeKs 0 n).foldl (sStep xs ys) (0, [])
    0 ≤ p.1 ∧ p.1 ≤ 1 ∧ Dig p.2 ∧ p.2.length = n ∧ p.1 * 64 ^ n + valD p.2.reverse = lo (dg xs) n + lo (dg ys) n
  | 0 => ⟨Int.le_refl _, show (0 : Int) ≤ 1 by decide, dig_nil, rfl, rfl⟩
  | n + 1 => by
    have ih := sum_inv hx hy n
    rw [rangeKs_succ, List.foldl_append, List.foldl_cons, List.foldl_nil]
    generalize (rangeKs 0 n).foldl (sStep xs ys) (0, []) = p at ih ⊢
    obtain ⟨c, out⟩ := p
    dsimp only [sStep] at ih ⊢
    obtain ⟨i0, i1, i2, i3, i4⟩ := ih
    rw [Int.toNat_natCast]
    have a := dg_dig hx n
    have b := dg_dig hy n
    have e := Int.mul_fdiv_add_fmod (c + (dg xs n + dg ys n)) 64
    have f0 := Int.fmod_nonneg_of_pos (c + (dg xs n + dg ys n)) (b := 64) (by decide)
    have f1 := Int.fmod_lt_of_pos (c + (dg xs n + dg ys n)) (b := 64) (by decide)
    refine ⟨by omega, by omega, i2.snoc f0 f1, by rw [List.length_append, i3]; rfl, ?_⟩
    rw [valD_rev_snoc, i3, lo, lo, Int.pow_succ]
    generalize (c + (dg xs n + dg ys n)).fdiv 64 = q at *
    generalize (c + (dg xs n + dg ys n)).fmod 64 = m at *
    generalize dg xs n = u at *
    generalize dg ys n = v at *
    generalize (64 : Int) ^ n = P at *
    have e3 : (64 * q + m) * P = (c + (u + v)) * P := by rw [e]
    rw [Int.add_mul, Int.add_mul, Int.add_mul] at e3
    have e4 : q * (P * 64) = 64 * q * P := by rw [Int.mul_comm P 64, ← Int.mul_assoc, Int.mul_comm q 64]
    rw [e4]
    omega
theorem foldl_same {α β : Type} {f g : α → β → α} : ∀ {l : List β} (a : α), (∀ a, ∀ x ∈ l, f a x = g a x) → l.foldl f a = l.foldl g a
  | [], _, _ => rfl
  | x :: l, a, h => by rw [List.foldl_cons, List.foldl_cons, h a x (.head _), foldl_same _ fun a y hy => h a y (.tail _ hy)]
theorem sumFold_eq (xs ys : List Int) : sumFold xs ys = (rangeKs 0 (max xs.length ys.length)).foldl (sStep xs ys) (0, []) := by
  unfold sumFold
  rw [show ((if (ys.length : Int) > (xs.length : Int) then (ys.length : Int) else (xs.length : Int)) - 0).toNat = max xs.length ys.length by split <;> omega]
  refine foldl_same _ fun p k hk => ?_
  obtain ⟨k0, k1⟩ := mem_rangeKs hk
  obtain ⟨j, rfl⟩ := Int.eq_ofNat_of_zero_le k0
  dsimp only [sStep]
  rw [Int.toNat_natCast]
  by_cases h1 : j < xs.length <;> by_cases h2 : j < ys.length
  · rw [if_pos ⟨by omega, by omega⟩, if_pos ⟨by omega, by omega⟩, getD_low xs j h1, getD_low ys j h2]
  · rw [if_neg (by omega), if_pos ⟨by omega, by omega⟩, if_neg (by omega), if_pos ⟨by omega, by omega⟩, getD_low xs j h1, show dg ys j = 0 by unfold dg; rw [if_neg h2]]
  · rw [if_neg (by omega), if_neg (by omega), if_neg (by omega), if_neg (by omega), getD_low ys j h2, show dg xs j = 0 by unfold dg; rw [if_neg h1]]
  · exfalso; omega
theorem sum_DG {xs ys : List Int} (hx : Dig xs) (hy : Dig ys) (lx : xs.length ≤ 8) (ly : ys.length ≤ 8) (px : 1 ≤ xs.length) : DG (sumF xs ys) (valD xs + valD ys) := by
  have h := sum_inv hx hy (max xs.length ys.length)
  unfold sumF
  rw [sumFold_eq]
  generalize (rangeKs 0 (max xs.length ys.length)).foldl (sStep xs ys) (0, []) = p at h ⊢
  obtain ⟨c, out⟩ := p
  dsimp only at h ⊢
  obtain ⟨h0, h1, h2, h3, h4⟩ := h
  rw [lo_dg xs (by omega), lo_dg ys (by omega)] at h4
  split
  · rename_i hc
    refine ⟨?_, by simp, by simp; omega, ?_⟩
    · intro x hx
      rcases List.mem_cons.mp hx with rfl | hx
      · omega
      · exact h2.rev x hx
    · rw [List.singleton_append, valD_cons, List.length_reverse, h3]; exact h4
  · rename_i hc
    have : c = 0 := by omega
    subst this
    refine ⟨by rw [List.nil_append]; exact h2.rev, by simp; omega, by simp; omega, ?_⟩
    rw [List.nil_append, ← h4, Int.zero_mul, Int.zero_add]
theorem diff_inv {ps qs : List Int} (hp : Dig ps) (hq : Dig qs) : ∀ n : Nat, n ≤ ps.length → n ≤ qs.length → let p := (rangeKs 0 n).foldl (dStep ps qs) (0, [])
    0 ≤ p.1 ∧ p.1 ≤ 1 ∧ Dig p.2 ∧ p.2.length = n ∧ valD p.2.reverse = lo (dg ps) n - lo (dg qs) n + p.1 * 64 ^ n
  | 0, _, _ => ⟨Int.le_refl _, show (0 : Int) ≤ 1 by decide, dig_nil, rfl, rfl⟩
  | n + 1, h1, h2 => by
    have ih := diff_inv hp hq n (by omega) (by omega)
    rw [rangeKs_succ, List.foldl_append, List.foldl_cons, List.foldl_nil]
    generalize (rangeKs 0 n).foldl (dStep ps qs) (0, []) = p at ih ⊢
    obtain ⟨c, out⟩ := p
    dsimp only [dStep] at ih ⊢
    obtain ⟨i0, i1, i2, i3, i4⟩ := ih
    rw [getD_low ps n (by omega), getD_low qs n (by omega)]
    have a := dg_dig hp n
    have b := dg_dig hq n
    have f0 := Int.fmod_nonneg_of_pos (dg ps n - dg qs n - c) (b := 64) (by decide)
    have f1 := Int.fmod_lt_of_pos (dg ps n - dg qs n - c) (b := 64) (by decide)
    have e : (dg ps n - dg qs n - c).fmod 64 = dg ps n - dg qs n - c + 64 * (if dg ps n - dg qs n - c < 0 then 1 else 0) := by
      have e1 := Int.mul_fdiv_add_fmod (dg ps n - dg qs n - c) 64
      split <;> omega
    refine ⟨by split <;> omega, by split <;> omega, i2.snoc f0 f1, by rw [List.length_append, i3]; rfl, ?_⟩
    rw [valD_rev_snoc, i3, i4, lo, lo, Int.pow_succ, e]
    generalize (if dg ps n - dg qs n - c < 0 then (1 : Int) else 0) = q at *
    generalize dg ps n = u at *
    generalize dg qs n = v at *
    generalize (64 : Int) ^ n = P at *
    have e4 : q * (P * 64) = 64 * q * P := by rw [Int.mul_comm P 64, ← Int.mul_assoc, Int.mul_comm q 64]
    rw [e4, Int.add_mul, Int.sub_mul, Int.sub_mul]
    omega
theorem cmpL : ∀ {xs ys : List Int}, Dig xs → Dig ys → xs.length = ys.length → (gtL xs ys = true ↔ valD ys < valD xs) ∧ (ltL xs ys = true ↔ valD xs < valD ys)
  | [], [], _, _, _ => by simp [gtL, ltL, valD_nil]
  | x :: xs, y :: ys, hx, hy, hl => by
    obtain ⟨⟨x0, x1⟩, hx'⟩ := hx.cons
    obtain ⟨⟨y0, y1⟩, hy'⟩ := hy.cons
    have hl' : xs.length = ys.length := by simpa using hl
    obtain ⟨g, l⟩ := cmpL hx' hy' hl'
    obtain ⟨a0, a1⟩ := valD_bound hx'
    obtain ⟨b0, b1⟩ := valD_bound hy'
    rw [hl'] at a1
    rw [gtL, ltL, valD_cons, valD_cons, hl']
    have hp : (0 : Int) < 64 ^ ys.length := Int.pow_pos (by decide)
    generalize (64 : Int) ^ ys.length = P at *
    by_cases e : x = y
    · subst e
      simp only [beq_self_eq_true, if_true]
      rw [g, l]
      constructor <;> constructor <;> intro <;> omega
    · rw [if_neg (by simpa using e), if_neg (by simpa using e)]
      simp only [decide_eq_true_eq]
      rcases Int.lt_or_gt_of_ne e with h | h
      · have m : (x + 1) * P ≤ y * P := Int.mul_le_mul_of_nonneg_right (by omega) (Int.le_of_lt hp)
        rw [Int.add_mul, Int.one_mul] at m
        constructor <;> constructor <;> intro <;> omega
      · have m : (y + 1) * P ≤ x * P := Int.mul_le_mul_of_nonneg_right (by omega) (Int.le_of_lt hp)
        rw [Int.add_mul, Int.one_mul] at m
        constructor <;> constructor <;> intro <;> omega
theorem flat_rep : ∀ n : Nat, (List.replicate n [(0 : Int)]).flatten = List.replicate n 0
  | 0 => rfl
  | n + 1 => by simp [List.replicate_succ, flat_rep n]
theorem pad8_facts {xs : List Int} (hx : Dig xs) (lx : xs.length ≤ 8) : Dig (pad8 xs) ∧ (pad8 xs).length = 8 ∧ valD (pad8 xs) = valD xs := by
  have z : ∀ n : Nat, valD (List.replicate n 0) = 0 := by
    intro n
    induction n with
    | zero => rfl
    | succ n ih => rw [List.replicate_succ, valD_cons, ih]; simp
  unfold pad8
  rw [flat_rep]
  refine ⟨?_, by simp; omega, by rw [valD_append, z]; simp⟩
  intro x hx'
  rcases List.mem_append.mp hx' with h | h
  · rw [List.eq_of_mem_replicate h]; decide
  · exact hx x h
theorem diff_core {ps qs : List Int} (hp : Dig ps) (hq : Dig qs) (lp : ps.length = 8) (lq : qs.length = 8) (h : valD qs ≤ valD ps) : DG ((rangeKs 0 8).foldl (dStep ps qs) (0, [])).2.reverse (valD ps - valD qs) := by
  have d := diff_inv hp hq 8 (by omega) (by omega)
  generalize (rangeKs 0 8).foldl (dStep ps qs) (0, []) = p at d ⊢
  obtain ⟨c, out⟩ := p
  dsimp only at d ⊢
  obtain ⟨h0, h1, h2, h3, h4⟩ := d
  rw [lo_dg ps (by omega), lo_dg qs (by omega)] at h4
  have b := valD_bound h2.rev
  rw [List.length_reverse, h3] at b
  refine ⟨h2.rev, by simp; omega, by simp; omega, ?_⟩
  have : c = 0 := by omega
  subst this
  omega
theorem diff_DG {xs ys : List Int} (hx : Dig xs) (hy : Dig ys) (lx : xs.length ≤ 8) (ly : ys.length ≤ 8) : DG (diffF xs ys) (if valD xs - valD ys < 0 then -(valD xs - valD ys) else valD xs - valD ys) := by
  obtain ⟨dx, l1, v1⟩ := pad8_facts hx lx
  obtain ⟨dy, l2, v2⟩ := pad8_facts hy ly
  obtain ⟨g, l⟩ := cmpL dy dx (by omega)
  unfold diffF
  rw [v1, v2] at g l
  rcases Int.lt_trichotomy (valD xs) (valD ys) with h | h | h
  · rw [if_pos (g.mpr h), if_neg (fun q => by have := l.mp q; omega), if_pos (by omega)]
    have c := diff_core dy dx l2 l1 (by omega)
    rw [v1, v2] at c
    rw [show -(valD xs - valD ys) = valD ys - valD xs by omega]
    exact c
  · rw [if_neg (fun q => by have := g.mp q; omega), if_neg (fun q => by have := l.mp q; omega), if_neg (by omega)]
    have c := diff_core dx dx l1 l1 (by omega)
    rw [v1] at c
    rw [show valD xs - valD ys = valD xs - valD xs by omega]
    exact c
  · rw [if_neg (fun q => by have := g.mp q; omega), if_pos (l.mpr h), if_neg (by omega)]
    have c := diff_core dx dy l1 l2 (by omega)
    rw [v1, v2] at c
    exact c
end Mine
end
section
open PySem PySem.W PySem.Calls PyProof.Rows
set_option Elab.async false
set_option maxHeartbeats 1000000
namespace Mine
theorem offDzF : True := by
  w_top off
  k_with_none
  trivial
theorem map_getD_range (xs : List Int) : (List.range xs.length).map (fun i => xs.getD i 0) = xs := by
  apply List.ext_getElem
  · simp
  · intro i h1 h2
    simp [List.getD_eq_getElem?_getD, List.getElem?_eq_getElem h2]
def octG (dd : List Int) (mk k' : Int) : Int :=
  if 0 ≤ Int.fmod k' 7 ∧ Int.fmod k' 7 < 7 then
    (List.map (fun k' => k' + 64) (List.take (dd.length - 1) dd) ++ List.drop (dd.length - 1) dd).getD (Int.toNat k') 0 +
      128 * (mk.fdiv (2 ^ (Int.fmod k' 7).toNat)).fmod 2
  else k'
theorem octG_eq {dd : List Int} {mk : Int} {n : Nat} (hn : dd.length = n + 1) {k : Nat} (hk : k < n + 1) : ∃ b, (b = 0 ∨ b = 1) ∧ octG dd mk (k : Int) = dd.getD k 0 + (if k < n then 64 else 0) + 128 * b := by
  have f0 := Int.fmod_nonneg_of_pos (k : Int) (b := 7) (by decide)
  have f1 := Int.fmod_lt_of_pos (k : Int) (b := 7) (by decide)
  have g0 := Int.fmod_nonneg_of_pos (mk.fdiv (2 ^ (Int.fmod (k : Int) 7).toNat)) (b := 2) (by decide)
  have g1 := Int.fmod_lt_of_pos (mk.fdiv (2 ^ (Int.fmod (k : Int) 7).toNat)) (b := 2) (by decide)
  refine ⟨(mk.fdiv (2 ^ (Int.fmod (k : Int) 7).toNat)).fmod 2, by omega, ?_⟩
  unfold octG
  rw [if_pos ⟨f0, f1⟩, Int.toNat_natCast, hn, Nat.add_sub_cancel]
  congr 1
  have lt : (List.map (fun k' => k' + 64) (List.take n dd)).length = n := by rw [List.length_map, List.length_take]; omega
  rw [List.getD_eq_getElem?_getD, List.getD_eq_getElem?_getD]
  by_cases e : k < n
  · rw [if_pos e, List.getElem?_append_left (by omega), List.getElem?_map, List.getElem?_take, if_pos e, List.getElem?_eq_getElem (by omega : k < dd.length)]
    rfl
  · rw [if_neg e, List.getElem?_append_right (by omega), lt, List.getElem?_drop, show n + (k - n) = k by omega, Int.add_zero]
theorem octF_eq {dd : List Int} {mk : Int} {n : Nat} (hn : dd.length = n + 1) : octF dd mk = List.map (octG dd mk) (rangeKs 0 (n + 1)) := by
  have hlen : ((((List.map (fun k' => k' + 64) (List.take (dd.length - 1) dd)).length + (List.drop (dd.length - 1) dd).length : Nat) : Int) - 0).toNat = n + 1 := by
    rw [List.length_map, List.length_take, List.length_drop, hn]; omega
  unfold octF
  rw [hlen]; rfl
theorem enc_oct {dd : List Int} {v mk : Int} (h : DG dd v) (h0 : 0 ≤ mk) (h1 : mk < 128) : Enc (octF dd mk) v := by
  have hp := h.pos
  have hs := h.short
  obtain ⟨n, hn⟩ : ∃ n, dd.length = n + 1 := ⟨dd.length - 1, by omega⟩
  have memI : ∀ x ∈ List.map (octG dd mk) (rangeKs 0 n), ∃ d b, 0 ≤ d ∧ d < 64 ∧ (b = 0 ∨ b = 1) ∧ x = d + 64 + 128 * b := by
    intro x hx
    obtain ⟨k, hk, rfl⟩ := List.mem_map.mp hx
    obtain ⟨k0, k1⟩ := mem_rangeKs hk
    obtain ⟨j, rfl⟩ := Int.eq_ofNat_of_zero_le k0
    obtain ⟨b, hb, e⟩ := octG_eq (mk := mk) hn (k := j) (by omega)
    rw [if_pos (by omega : j < n)] at e
    exact ⟨dd.getD j 0, b, (h.dig.getD j).1, (h.dig.getD j).2, hb, e⟩
  obtain ⟨bl, hbl, el⟩ := octG_eq (mk := mk) hn (k := n) (by omega)
  rw [if_neg (Nat.lt_irrefl n), Int.add_zero] at el
  have dl := h.dig.getD n
  have es : octF dd mk = List.map (octG dd mk) (rangeKs 0 n) ++ [octG dd mk (n : Int)] := by
    rw [octF_eq hn, rangeKs_succ, List.map_append, List.map_cons, List.map_nil]
  refine ⟨?_, ⟨_, _, es, ?_, ?_⟩, ?_, ?_⟩
  · rw [es]
    intro x hx
    rcases List.mem_append.mp hx with hx | hx
    · obtain ⟨d, b, d0, d1, hb, rfl⟩ := memI x hx
      omega
    · rw [List.mem_singleton.mp hx, el]; omega
  · intro x hx
    obtain ⟨d, b, d0, d1, hb, rfl⟩ := memI x hx
    omega
  · rw [el]; omega
  · have e3 := map_getD_range dd
    rw [hn] at e3
    rw [← h.val, octF_eq hn, List.map_map]
    conv => rhs; rw [← e3]
    unfold rangeKs
    rw [List.map_map]
    congr 1
    apply List.map_congr_left
    intro k hk
    obtain ⟨b, hb, e⟩ := octG_eq (mk := mk) hn (k := k) (List.mem_range.mp hk)
    have dk := h.dig.getD k
    show Int.fmod (octG dd mk (0 + (k : Int))) 64 = _
    rw [Int.zero_add, e, Int.fmod_eq_emod_of_nonneg _ (by decide)]
    split <;> omega
  · rw [octF_eq hn, List.length_map, rangeKs_length]; omega
end Mine
end
section
open PySem PySem.W PySem.Calls PyProof.Rows
set_option Elab.async false
set_option maxHeartbeats 1000000
namespace Mine
theorem offDzG : True := by
  w_top off
  k_with_none
  trivial
/-- the digits of a list, the lowest first, as a function -/
def at0 (out : List Int) (k : Nat) : Int := out.getD k 0
theorem valD_rev : ∀ out : List Int, valD out.reverse = lo (at0 out) out.length := by
  intro out
  rw [← lo_dg out.reverse (Nat.le_refl _), List.length_reverse]
  refine lo_congr fun k hk => ?_
  unfold dg at0
  rw [List.length_reverse, if_pos hk, List.getD_eq_getElem?_getD, List.getD_eq_getElem?_getD, List.getElem?_reverse (by omega), show out.length - 1 - (out.length - 1 - k) = k by omega]
theorem at0_set {out : List Int} {j : Nat} {c : Int} (hj : j < out.length) (k : Nat) : at0 (out.set j c) k = if k = j then c else at0 out k := by
  unfold at0
  rw [List.getD_eq_getElem?_getD, List.getD_eq_getElem?_getD, List.getElem?_set]
  by_cases e : j = k
  · subst e; simp [hj]
  · rw [if_neg e, if_neg (fun q => e q.symm)]
theorem lo_set {f g : Nat → Int} {j : Nat} {c : Int} (h : ∀ k, g k = if k = j then c else f k) : ∀ n, j < n → lo g n = lo f n + (c - f j) * 64 ^ j
  | 0, hj => nomatch hj
  | n + 1, hj => by
    rw [lo, lo]
    by_cases e : j = n
    · subst e
      rw [lo_congr (f := g) (g := f) (fun k hk => by rw [h, if_neg (by omega)]), h, if_pos rfl, Int.sub_mul]
      omega
    · rw [lo_set h n (by omega), h n, if_neg (fun q => e q.symm)]
      omega
theorem valR_set {out : List Int} {j : Nat} {c : Int} (hj : j < out.length) : valD (out.set j c).reverse = valD out.reverse + (c - at0 out j) * 64 ^ j := by
  rw [valD_rev, valD_rev, List.length_set]
  exact lo_set (at0_set hj) _ hj
theorem dig_set {out : List Int} {j : Nat} {c : Int} (h : Dig out) (h0 : 0 ≤ c) (h1 : c < 64) : Dig (out.set j c) := by
  intro x hx
  rcases List.mem_or_eq_of_mem_set hx with hx | rfl
  · exact h x hx
  · exact ⟨h0, h1⟩
theorem prod_in {xs ys : List Int} (hx : Dig xs) (hy : Dig ys) {i : Nat} (hi : i < xs.length) {out0 : List Int} (ho : Dig out0) (hl : out0.length = xs.length + ys.length) : ∀ n : Nat, n ≤ ys.length →
    let p := (rangeKs 0 n).foldl (pIn xs ys (i : Int)) (0, out0)
    0 ≤ p.1 ∧ p.1 < 64 ∧ Dig p.2 ∧ p.2.length = xs.length + ys.length ∧ (∀ k, i + n ≤ k → at0 p.2 k = at0 out0 k) ∧ valD p.2.reverse + p.1 * 64 ^ (i + n) = valD out0.reverse + dg xs i * lo (dg ys) n * 64 ^ i
  | 0, _ => ⟨Int.le_refl _, show (0 : Int) < 64 by decide, ho, hl, fun _ _ => rfl, by simp [rangeKs, lo]⟩
  | n + 1, hn => by
    have ih := prod_in hx hy hi ho hl n (by omega)
    rw [rangeKs_succ, List.foldl_append, List.foldl_cons, List.foldl_nil]
    generalize (rangeKs 0 n).foldl (pIn xs ys (i : Int)) (0, out0) = p at ih ⊢
    obtain ⟨c, out⟩ := p
    dsimp only [pIn] at ih ⊢
    obtain ⟨i0, i1, i2, i3, i4, i5⟩ := ih
    rw [mulI_eq, getD_low xs i hi, getD_low ys n (by omega), show ((i : Int) + (n : Int)).toNat = i + n by omega]
    have a := dg_dig hx i
    have b := dg_dig hy n
    have o := i2.getD (i + n)
    have m0 : 0 ≤ dg xs i * dg ys n := Int.mul_nonneg a.1 b.1
    have m1 : dg xs i * dg ys n ≤ 63 * 63 := Int.mul_le_mul (by omega) (by omega) b.1 (by decide)
    have e := Int.mul_fdiv_add_fmod (c + (out.getD (i + n) 0 + dg xs i * dg ys n)) 64
    have f0 := Int.fmod_nonneg_of_pos (c + (out.getD (i + n) 0 + dg xs i * dg ys n)) (b := 64) (by decide)
    have f1 := Int.fmod_lt_of_pos (c + (out.getD (i + n) 0 + dg xs i * dg ys n)) (b := 64) (by decide)
    refine ⟨by omega, by omega, dig_set i2 f0 f1, by rw [List.length_set, i3], fun k hk => ?_, ?_⟩
    · rw [at0_set (by omega), if_neg (by omega), i4 k (by omega)]
    · rw [valR_set (by omega), lo, ← Nat.add_assoc, Int.pow_succ]
      have i5' : valD out.reverse = valD out0.reverse + dg xs i * lo (dg ys) n * 64 ^ i - c * 64 ^ (i + n) := by omega
      rw [i5']
      have e6 : dg xs i * (lo (dg ys) n + dg ys n * 64 ^ n) * 64 ^ i = dg xs i * lo (dg ys) n * 64 ^ i + dg xs i * dg ys n * 64 ^ (i + n) := by
        rw [Int.mul_add, Int.add_mul, Nat.add_comm i n, Int.pow_add, Int.mul_assoc (dg xs i) (dg ys n), ← Int.mul_assoc (dg ys n), Int.mul_assoc (dg xs i) (dg ys n * 64 ^ n)]
      rw [e6]
      show _ + (_ - out.getD (i + n) 0) * _ + _ = _
      generalize (c + (out.getD (i + n) 0 + dg xs i * dg ys n)).fdiv 64 = q at *
      generalize (c + (out.getD (i + n) 0 + dg xs i * dg ys n)).fmod 64 = m at *
      generalize out.getD (i + n) 0 = w at *
      generalize dg xs i * dg ys n = z at *
      generalize dg xs i * lo (dg ys) n * 64 ^ i = R at *
      generalize (64 : Int) ^ (i + n) = P at *
      have e3 : (64 * q + m) * P = (c + (w + z)) * P := by rw [e]
      rw [Int.add_mul, Int.add_mul, Int.add_mul] at e3
      have e4 : q * (P * 64) = 64 * q * P := by rw [Int.mul_comm P 64, ← Int.mul_assoc, Int.mul_comm q 64]
      rw [e4, Int.sub_mul]
      omega
theorem prod_out {xs ys : List Int} (hx : Dig xs) (hy : Dig ys) : ∀ n : Nat, n ≤ xs.length →
    let out := (rangeKs 0 n).foldl (pOut xs ys) (List.replicate (xs.length + ys.length) 0)
    Dig out ∧ out.length = xs.length + ys.length ∧ (∀ k, n + ys.length ≤ k → at0 out k = 0) ∧ valD out.reverse = lo (dg xs) n * valD ys
  | 0, _ => by
    refine ⟨fun x hx => ?_, List.length_replicate, fun k _ => ?_, ?_⟩
    · rw [List.eq_of_mem_replicate hx]; decide
    · show (List.replicate (xs.length + ys.length) (0 : Int)).getD k 0 = 0
      rw [List.getD_eq_getElem?_getD, List.getElem?_replicate]
      split <;> rfl
    · show valD (List.replicate (xs.length + ys.length) (0 : Int)).reverse = 0 * _
      rw [List.reverse_replicate, Int.zero_mul]
      have z : ∀ n : Nat, valD (List.replicate n 0) = 0 := by
        intro n
        induction n with
        | zero => rfl
        | succ n ih => rw [List.replicate_succ, valD_cons, ih]; simp
      exact z _
  | n + 1, hn => by
    have ih := prod_out hx hy n (by omega)
    rw [rangeKs_succ, List.foldl_append, List.foldl_cons, List.foldl_nil]
    generalize (rangeKs 0 n).foldl (pOut xs ys) (List.replicate (xs.length + ys.length) 0) = out0 at ih ⊢
    dsimp only at ih
    obtain ⟨i0, i1, i2, i3⟩ := ih
    have inn := prod_in hx hy (i := n) (by omega) i0 i1 ys.length (Nat.le_refl _)
    unfold pOut
    generalize (rangeKs 0 ys.length).foldl (pIn xs ys (n : Int)) (0, out0) = p at inn ⊢
    obtain ⟨c, out⟩ := p
    dsimp only at inn ⊢
    obtain ⟨j0, j1, j2, j3, j4, j5⟩ := inn
    rw [show ((n : Int) + (ys.length : Int)).toNat = n + ys.length by omega]
    have hz : at0 out (n + ys.length) = 0 := by rw [j4 _ (Nat.le_refl _), i2 _ (Nat.le_refl _)]
    refine ⟨dig_set j2 j0 j1, by rw [List.length_set, j3], fun k hk => ?_, ?_⟩
    · rw [at0_set (by omega), if_neg (by omega), j4 k (by omega), i2 k (by omega)]
    · rw [valR_set (by omega), hz, Int.sub_zero, j5, i3, lo_dg ys (Nat.le_refl _), lo, Int.add_mul, Int.mul_assoc (dg xs n), Int.mul_comm (valD ys), ← Int.mul_assoc (dg xs n)]
theorem prod_DG {xs ys : List Int} (hx : Dig xs) (hy : Dig ys) (lx : xs.length ≤ 8) (ly : ys.length ≤ 8) (px : 1 ≤ xs.length) : DG (prodFold xs ys).reverse (mulI (valD xs) (valD ys)) := by
  have h := prod_out hx hy xs.length (Nat.le_refl _)
  unfold prodFold
  generalize (rangeKs 0 xs.length).foldl (pOut xs ys) (List.replicate (xs.length + ys.length) 0) = out at h ⊢
  dsimp only at h
  obtain ⟨h0, h1, _, h3⟩ := h
  rw [lo_dg xs (Nat.le_refl _)] at h3
  refine ⟨h0.rev, by rw [List.length_reverse]; omega, by rw [List.length_reverse]; omega, by rw [mulI_eq]; exact h3⟩
end Mine
end
section
open PySem PySem.W PySem.Calls PyProof.Rows
set_option Elab.async false
set_option maxRecDepth 100000
set_option maxHeartbeats 8000000
set_option pp.deepTerms false
set_option pp.deepTerms.threshold 6
set_option pp.maxSteps 20000
namespace Mine
theorem offDzT : True := by
  w_top off
  k_with_none
  trivial
theorem ints_get : ∀ {vs : List Value} {ns : List Int}, IntsAre vs ns → ∀ {i : Nat} {v : Value}, vs[i]? = some v → ∃ x t, v = .int x t
  | _, _, .cons n t _, 0, _, e => ⟨n, t, (Option.some.inj e).symm⟩
  | _, _, .cons _ _ h, i + 1, _, e => ints_get h (i := i) e
theorem ints_one {vs : List Value} {x : Int} (h : IntsAre vs [x]) : ∃ t, vs = [.int x t] := by
  cases h with
  | cons n t h => cases h; exact ⟨t, rfl⟩
theorem dig_map (xs : List Int) : Dig (xs.map fun k' => k'.fmod 64) := by
  intro x hx
  obtain ⟨y, _, rfl⟩ := List.mem_map.mp hx
  exact ⟨Int.fmod_nonneg_of_pos _ (by decide), Int.fmod_lt_of_pos _ (by decide)⟩
theorem Enc.pos {xs : List Int} {v : Int} (h : Enc xs v) : 1 ≤ xs.length := by
  obtain ⟨ini, last, e, _⟩ := h.split
  rw [e, List.length_append]; simp
theorem mul_ok {a b : Int} (h : 0 ≤ a) (h' : a < 281474976710656) : IntMulOk a b := IntMulOk.of_left (intBits_le_iff.mpr (by omega))
abbrev startR (r0 r1 : Addr) (t0 t1 t2 t3 : Tok) : List (Addr × List Value × Nat) := [(r0, [Value.int 191 t0], 0), (r1, [Value.int 193 t1, Value.int 64 t2, Value.int 128 t3], 0)]
abbrev startN (cellA rowsA dueA lD r0 r1 : Addr) (oc : Obj) (wsD : List Value) (t0 t1 t2 t3 t4 t5 : Tok) : List (Addr × Obj) :=
  (cellA, oc) :: (rowsA, W.listOf (((startR r0 r1 t0 t1 t2 t3).map fun r => Value.ref r.1).toArray) 0) :: (dueA, W.listOf ([Value.int 63 t4, Value.int 4096 t5] : List Value).toArray 0) :: (lD, W.listOf wsD.toArray 0) :: (startR r0 r1 t0 t1 t2 t3).map rowO
theorem lj_start {cellA rowsA dueA lD r0 r1 : Addr} {oc : Obj} {cv : Option Value} {wsD : List Value} {t0 t1 t2 t3 t4 t5 : Tok} {m : Str → Option Value} (hoC : oc.data = .cell cv) (h1 : m (Str.ofString "rows") = some (.ref rowsA)) (h2 : m (Str.ofString "due") = some (.ref dueA))
    (a1 : @Ne Nat r0 cellA) (a2 : @Ne Nat r0 rowsA) (a3 : @Ne Nat r0 dueA) (a4 : @Ne Nat r0 lD) (b1 : @Ne Nat r1 cellA) (b2 : @Ne Nat r1 rowsA) (b3 : @Ne Nat r1 dueA) (b4 : @Ne Nat r1 lD) :
    LJ cellA rowsA dueA lD wsD 0 m (startN cellA rowsA dueA lD r0 r1 oc wsD t0 t1 t2 t3 t4 t5) := by
  refine ⟨⟨oc, cv, startR r0 r1 t0 t1 t2 t3, 0, _, 0, [[191], [193, 64, 128]], [63, 4096], rfl, hoC, .cons (.cons _ _ .nil) enc0 (.cons (.cons _ _ (.cons _ _ (.cons _ _ .nil))) enc1 .nil), .cons _ _ (.cons _ _ .nil), h1, h2, rfl, ?_⟩⟩
  intro r hr
  simp only [List.mem_cons, List.not_mem_nil, or_false] at hr
  rcases hr with rfl | rfl
  · exact ⟨a1, a2, a3, a4⟩
  · exact ⟨b1, b2, b3, b4⟩
theorem turn_end {h₀ : Heap} {L : Addr} {h' : Heap} {m' : Str → Option Value} {news' own T : List (Addr × Obj)} {s₁ : Shared} {tk : Nat} {Q : Flow → Shared → Prop} {cellA rowsA dueA lD lr : Addr} {wsD dv ur : List Value} {i n1 n2 nr : Nat} {rs : List (Addr × List Value × Nat)} {rows : List (List Int)} {due rr : List Int} {oc : Obj} {cv : Option Value} {num : Int} {tn : Tok}
    (F : Fr h₀ L h' m') (N : News h₀ L h' news') (hc : (cellA, oc) ∈ news') (hr : (rowsA, W.listOf (List.toArray ((rs.map fun r => Value.ref r.1) ++ [Value.ref lr])) n1) ∈ news') (hd : (dueA, W.listOf (List.toArray (dv ++ [Value.int num tn])) n2) ∈ news')
    (hl : (lD, W.listOf wsD.toArray 0) ∈ news') (hlr : (lr, W.listOf ur.toArray nr) ∈ news') (hT : ∀ p ∈ T, p ∈ news') (hTr : ∀ r ∈ rs, rowO r ∈ T) (hTo : ∀ p ∈ own, p ∈ T)
    (hoc : oc.data = .cell cv) (hR : RowsAre rs rows due) (hE : Enc rr num) (hi : IntsAre ur rr) (hDv : IntsAre dv due) (hm1 : m' (Str.ofString "rows") = some (.ref rowsA)) (hm2 : m' (Str.ofString "due") = some (.ref dueA)) (hlen : rs.length = 2 + i)
    (hne : ∀ r ∈ rs, @Ne Nat r.1 cellA ∧ @Ne Nat r.1 rowsA ∧ @Ne Nat r.1 dueA ∧ @Ne Nat r.1 lD) (hnl : @Ne Nat lr cellA ∧ @Ne Nat lr rowsA ∧ @Ne Nat lr dueA ∧ @Ne Nat lr lD) (hoff : OwnOff own (cellA :: rowsA :: dueA :: lD :: rs.map (·.1))) (hoT : ∀ p ∈ T, @Ne Nat p.1 lr) :
    InvPostG h₀ L (fun m' nx => (lD, W.listOf wsD.toArray 0) ∈ nx ∧ LJ cellA rowsA dueA lD wsD (i + 1) m' nx) own s₁ Q .next { s₁ with heap := h', toks := tk } := by
  refine InvEndG.intro (nx := (cellA, oc) :: (rowsA, W.listOf (((rs ++ [(lr, ur, nr)]).map fun r => Value.ref r.1).toArray) n1) :: (dueA, W.listOf (dv ++ [Value.int num tn]).toArray n2) :: (lD, W.listOf wsD.toArray 0) :: (rs ++ [(lr, ur, nr)]).map rowO) F N ⟨.tail _ (.tail _ (.tail _ (.head _))), ?_⟩ ?_ ?_ (fun p hp => hT p (hTo p hp))
  · refine ⟨⟨oc, cv, rs ++ [(lr, ur, nr)], n1, _, n2, rows ++ [rr], due ++ [num], rfl, hoc, hR.snoc hi hE, ints_append hDv (.cons _ _ .nil), hm1, hm2, ?_, ?_⟩⟩
    · rw [List.length_append, hlen]; simp only [List.length_cons, List.length_nil]; omega
    · intro r hr
      rcases List.mem_append.mp hr with hr | hr
      · exact hne r hr
      · rw [List.mem_singleton.mp hr]; exact hnl
  · intro p hp b hb
    have key : b ∈ (cellA :: rowsA :: dueA :: lD :: rs.map (·.1)) ∨ b = lr := by
      simp only [List.map_cons, List.map_append, List.map_map, List.mem_cons, List.mem_append, List.map_nil, List.not_mem_nil, or_false] at hb ⊢
      rcases hb with h | h | h | h | h | h
      · exact .inl (.inl h)
      · exact .inl (.inr (.inl h))
      · exact .inl (.inr (.inr (.inl h)))
      · exact .inl (.inr (.inr (.inr (.inl h))))
      · exact .inl (.inr (.inr (.inr (.inr h))))
      · exact .inr h
    rcases key with h | h
    · exact hoff p hp b h
    · rw [h]; exact hoT p (hTo p hp)
  · intro p hp
    rcases List.mem_cons.mp hp with rfl | hp
    · exact hc
    rcases List.mem_cons.mp hp with rfl | hp
    · rw [List.map_append]; exact hr
    rcases List.mem_cons.mp hp with rfl | hp
    · exact hd
    rcases List.mem_cons.mp hp with rfl | hp
    · exact hl
    rw [List.map_append] at hp
    rcases List.mem_append.mp hp with hp | hp
    · obtain ⟨r, hr, rfl⟩ := List.mem_map.mp hp
      exact hT _ (hTr r hr)
    · rw [List.mem_singleton.mp hp]; exact hlr
end Mine
end
section
open PySem PySem.W PySem.Calls PyProof.Rows
set_option Elab.async false
set_option maxRecDepth 100000
set_option maxHeartbeats 4000000
namespace Mine
theorem offDzH : True := by
  w_top off
  k_with_none
  trivial
section
variable {prog : Program} {w : World} {A : Around} {E : Value → Shared → Prop} {s : Shared} {h₀ : Heap} {L : Addr} {m : Str → Option Value} {env : Env}
/-- the source is a downward range, and the turns over it are served -/
def DownSrc (prog : Program) (w : World) (A : Around) (h₀ : Heap) (L : Addr) (m : Str → Option Value) (env : Env) (ct elt : Expr) (x : Str) (scope : Scope) (cl : List (Str × Addr)) (Q : Value → Shared → Prop) (xv : Value) (s₁ : Shared) : Prop :=
  ∃ r a b t u v n news, xv = .ref r ∧ A.handled = none ∧ Fr h₀ L s₁.heap m ∧ News h₀ L s₁.heap news ∧ IsRange s₁.heap r a b (-1) t u v ∧ Builtin.Range.small a b (-1) = true ∧ Builtin.Range.rangeSize a b (-1) = ((n : Nat) : Int) ∧ n ≤ sizeLine ∧
    ∀ g, LCt.CompRestT prog w A h₀ L m env ct elt x scope cl { s₁ with heap := g } (fun _ => True) (fun i v => ∃ t, v = .int (a - (i : Int)) t) (LCg.FinE h₀ L m { s₁ with heap := g } Q) n 0 [] news
theorem down_walks {I : Addr} (hh : A.handled = none) (a : Int) (n : Nat) : Walks prog w A I [I] [I] n (fun i v => ∃ t, v = .int (a - (i : Int)) t) (fun i h => IsRangeIter h I (a + (i : Nat) * (-1)) ((n : Int) - (i : Nat)) (-1)) where
  sub := (Walks.range (prog := prog) (w := w) hh I a (-1) n).sub
  frame := (Walks.range (prog := prog) (w := w) hh I a (-1) n).frame
  done := (Walks.range (prog := prog) (w := w) hh I a (-1) n).done
  self := (Walks.range (prog := prog) (w := w) hh I a (-1) n).self
  item := fun i s Q E hi st hQ => (Walks.range (prog := prog) (w := w) hh I a (-1) n).item i s Q E hi st fun v h' tk hP => hQ v h' tk (by
    obtain ⟨t, rfl⟩ := hP
    exact ⟨t, by rw [show a + (i : Int) * (-1) = a - (i : Int) by omega]⟩)
theorem comp_down {ct elt iter : Expr} {x : Str} {px : Pos} {scope : Scope} {cl : List (Str × Addr)} {pos : Pos} {Q : Value → Shared → Prop}
    (F₀ : Fr h₀ L s.heap m) (hclos : closureFor scope env = pure cl) (hcell : ∀ y ∈ scope.names, y.2 ≠ .cell) (hkind : scope.kind = .function)
    (hnames : ∀ y ∈ scope.names, y.2 = .local → scope.names.lookup y.1 = some .local) (hx : scope.names.lookup x = some .local)
    (h : wpAny (model prog w) A (eval iter env) (DownSrc prog w A h₀ L m env ct elt x scope cl Q) E s)
    (hs : ∀ x, foldedSetIterable iter env x = pure x := by intro _; rfl) :
    wpAny (model prog w) A (eval (.ListComp elt [⟨.Name x px, iter, [ct], 0⟩] scope pos) env) Q E s := by
  rw [eval_ListComp]
  refine wpAny_comprehension_free (use := none) rfl hs hclos hkind hnames (wpAny_mono h (fun xv s₁ h₁ => ?_) fun _ _ e => e)
  obtain ⟨r, a, b, t, u, v, n, news, rfl, hh, F, N, hr, hsm, hn, hsz, R⟩ := h₁
  refine wpAny_pyIter_range hr hsm ?_
  have grow : ∀ (o : Obj) b o', s₁.heap.get? b = some o' → (s₁.heap.push o).get? b = some o' := fun _ _ _ e => Heap.get?_push_of_some _ e
  refine LCt.block_T (down_walks hh a n) hsz (fun i h st => ⟨_, st⟩) (fun i h h' o nw st e e' _ _ _ => ?_) hcell hkind hx ?_ (fun b hb => ?_)
    (F.keeps (grow _)) (N.grown (grow _)) (Nat.ne_of_lt F.ns.lt) (next_is_new F) (fun p hp => Nat.ne_of_lt (Heap.lt_size (N p hp).1)) trivial (R _) ?_
  · have st' : h.get? _ = some _ := st
    show h'.get? _ = some _
    rw [e', ← e]; exact st'
  · show IsRangeIter _ _ _ _ _
    rw [hn]; simpa using Heap.get?_push_size _ rfl
  · rw [List.mem_singleton.mp hb]
    show s₁.heap.objs.size < (s₁.heap.push _).objs.size
    rw [Heap.size_push]; exact Nat.lt_succ_self _
  · intro D C h tk m' ys news' F' N' o1 hnC hC₀ hD₀ hCL hDL hCD offC fin
    refine ⟨m', hnC, fun h'' hs'' => fin D h'' tk (F'.change hs'' hCL hC₀) (fun p hp => ⟨hs''.extBut _ _ ?_ (N' p hp).1, (N' p hp).2⟩) o1⟩
    rcases List.mem_cons.mp hp with rfl | hp
    · exact Ne.symm hCD
    · exact offC p hp
end
/-- the digits of a number, from place k down, the leading noughts left out -/
def numF (number : Int) : Nat → List Int
  | 0 => []
  | k + 1 => (if k = 0 ∨ 64 ^ k ≤ number then [number / 64 ^ k % 64] else []) ++ numF number k
theorem emod_more {x P : Int} (hP : 0 < P) : x % (P * 64) = x / P % 64 * P + x % P := by
  have e1 := Int.mul_ediv_add_emod x P
  have e2 := Int.mul_ediv_add_emod (x / P) 64
  have r0 := Int.emod_nonneg x (Int.ne_of_gt hP)
  have r1 := Int.emod_lt_of_pos x hP
  have q0 := Int.emod_nonneg (x / P) (b := 64) (by decide)
  have q1 := Int.emod_lt_of_pos (x / P) (b := 64) (by decide)
  generalize x % P = r at *
  generalize x / P = q at *
  generalize q / 64 = u at *
  generalize q % 64 = c at *
  have m0 : 0 ≤ c * P := Int.mul_nonneg q0 (Int.le_of_lt hP)
  have m1 : c * P ≤ 63 * P := Int.mul_le_mul_of_nonneg_right (by omega) (Int.le_of_lt hP)
  have ex : x = c * P + r + P * 64 * u := by
    rw [← e1, ← e2, Int.mul_add, ← Int.mul_assoc, Int.mul_comm P c]
    omega
  rw [ex, Int.add_mul_emod_self_left]
  exact Int.emod_eq_of_lt (by omega) (by omega)
theorem numF_val {number : Int} (h0 : 0 ≤ number) : ∀ k, number < 64 ^ (k + 1) → Dig (numF number (k + 1)) ∧ 1 ≤ (numF number (k + 1)).length ∧ (numF number (k + 1)).length ≤ k + 1 ∧ valD (numF number (k + 1)) = number := by
  have full : ∀ k, ∀ j, j ≤ k → 64 ^ k ≤ number ∨ k = 0 → Dig (numF number (j + 1)) ∧ (numF number (j + 1)).length = j + 1 ∧ valD (numF number (j + 1)) = number % 64 ^ (j + 1) := by
    intro k j hj hk
    induction j with
    | zero =>
      refine ⟨?_, rfl, ?_⟩
      · intro x hx
        simp [numF] at hx
        omega
      · simp [numF, valD_cons, valD_nil]
    | succ j ih =>
      obtain ⟨i0, i1, i2⟩ := ih (by omega)
      have hle : (64 : Int) ^ (j + 1) ≤ number := by
        rcases hk with hk | hk
        · have := Nat.pow_le_pow_right (n := 64) (by decide) hj
          exact Int.le_trans (by exact_mod_cast this) hk
        · omega
      rw [numF, if_pos (.inr hle), List.singleton_append]
      have hp : (0 : Int) < 64 ^ (j + 1) := Int.pow_pos (by decide)
      refine ⟨?_, by rw [List.length_cons, i1], ?_⟩
      · intro x hx
        rcases List.mem_cons.mp hx with rfl | hx
        · omega
        · exact i0 x hx
      · rw [valD_cons, i1, i2, Int.pow_succ 64 (j + 1), emod_more hp]
  intro k
  induction k with
  | zero =>
    intro h
    obtain ⟨a, b, c⟩ := full 0 0 (Nat.le_refl _) (.inr rfl)
    exact ⟨a, by omega, by omega, by rw [c]; exact Int.emod_eq_of_lt h0 h⟩
  | succ k ih =>
    intro h
    by_cases e : 64 ^ (k + 1) ≤ number
    · obtain ⟨a, b, c⟩ := full (k + 1) (k + 1) (Nat.le_refl _) (.inl e)
      exact ⟨a, by omega, by omega, by rw [c]; exact Int.emod_eq_of_lt h0 h⟩
    · obtain ⟨a, b, c, d⟩ := ih (by omega)
      rw [numF, if_neg (by rintro (q | q) <;> omega), List.nil_append]
      exact ⟨a, b, by omega, d⟩
/-- some noughts ahead change nothing -/
theorem num_DG {number : Int} (h0 : 0 ≤ number) (h1 : number < 64 ^ 8) {z : Nat} (hz : z ≤ 2) : DG (List.replicate z 0 ++ numF number 8) number := by
  obtain ⟨a, b, c, d⟩ : Dig (numF number 8) ∧ 1 ≤ (numF number 8).length ∧ (numF number 8).length ≤ 8 ∧ valD (numF number 8) = number := numF_val h0 7 h1
  have zz : ∀ n : Nat, valD (List.replicate n 0) = 0 := by
    intro n
    induction n with
    | zero => rfl
    | succ n ih => rw [List.replicate_succ, valD_cons, ih]; simp
  refine ⟨?_, by rw [List.length_append]; omega, by rw [List.length_append, List.length_replicate]; omega, by rw [valD_append, zz, d]; simp⟩
  intro x hx
  rcases List.mem_append.mp hx with h | h
  · rw [List.eq_of_mem_replicate h]; decide
  · exact a x h
/-- what the comprehension's turn does to the digits so far -/
def numG (number : Int) (l : List Int) (k : Int) : List Int := if k = 0 ∨ 64 ^ k.toNat ≤ number then l ++ [(number.fdiv (64 ^ k.toNat)).fmod 64] else l
theorem numG_grows (number : Int) : KPfGrows (numG number) := by
  intro l k
  unfold numG
  split
  · rw [List.length_append]; exact Nat.le_refl _
  · exact Nat.le_succ _
theorem downKs_succ (k : Nat) : downKs ((k + 1 : Nat) : Int) (k + 2) = ((k + 1 : Nat) : Int) :: downKs (k : Int) (k + 1) := by
  unfold downKs
  rw [List.range_succ_eq_map, List.map_cons, List.map_map]
  congr 1
  simp
  intros
  omega
theorem numG_one (number : Int) (l : List Int) (k : Nat) : numG number l (k : Int) = l ++ (if k = 0 ∨ 64 ^ k ≤ number then [number / 64 ^ k % 64] else []) := by
  unfold numG
  rw [Int.toNat_natCast, Int.fmod_eq_emod_of_nonneg _ (by decide), Int.fdiv_eq_ediv_of_nonneg _ (Int.le_of_lt (Int.pow_pos (by decide)))]
  by_cases h : k = 0 ∨ (64 : Int) ^ k ≤ number
  · rw [if_pos h, if_pos (h.imp_left fun e => by rw [e]; rfl)]
  · rw [if_neg h, if_neg (fun q => h (q.imp_left fun e => by omega)), List.append_nil]
theorem numG_fold (number : Int) : ∀ (k : Nat) (l : List Int), (downKs (k : Int) (k + 1)).foldl (numG number) l = l ++ numF number (k + 1)
  | 0, l => by
    have e : downKs ((0 : Nat) : Int) (0 + 1) = [((0 : Nat) : Int)] := rfl
    rw [e, List.foldl_cons, List.foldl_nil, numG_one, numF, numF, List.append_nil]
  | k + 1, l => by
    rw [downKs_succ, List.foldl_cons, numG_fold number k, numG_one, List.append_assoc]
    rfl
theorem numG_fold8 (number : Int) : (downKs 7 8).foldl (numG number) [] = numF number 8 := numG_fold number 7 []
end Mine
end
section
open PySem PySem.W PySem.Calls PyProof.Rows
set_option Elab.async false
set_option maxRecDepth 100000
set_option maxHeartbeats 4000000
namespace Mine
theorem offDzU : True := by
  w_top off
  k_with_none
  trivial
section
variable {prog : Program} {w : World} {A : Around} {E : Value → Shared → Prop} {R : Result → Shared → Prop} {s : Shared}
theorem compTurn2_out (elt t1 i1 t2 i2 : Expr) (scope : Scope) (pos : Pos) (it acc : Value) (env : Env) :
    compTurn (.ListComp elt [⟨t1, i1, [], 0⟩, ⟨t2, i2, [], 0⟩] scope pos) 0 it acc env = (standAt i1.pos >>= fun _ => pyNext it >>= fun r => match r with
      | none => pure (.done .next)
      | some v => letOwnedTupleGo t1 it v >>= fun _ => assign t1 env v >>= fun _ =>
        eval i2 env >>= fun x => standAt i2.pos >>= fun _ => foldedSetIterable i2 env x >>= fun x => holding [x] (pyIter x) >>= fun it' =>
          runOwn (.compStart (.ListComp elt [⟨t1, i1, [], 0⟩, ⟨t2, i2, [], 0⟩] scope pos) 1 it' acc env) env >>= fun _ =>
          again (.compLoop (.ListComp elt [⟨t1, i1, [], 0⟩, ⟨t2, i2, [], 0⟩] scope pos) 0 it acc env)) := by rfl
theorem compTurn2_in (elt t1 i1 t2 i2 : Expr) (scope : Scope) (pos : Pos) (it acc : Value) (env : Env) :
    compTurn (.ListComp elt [⟨t1, i1, [], 0⟩, ⟨t2, i2, [], 0⟩] scope pos) 1 it acc env = (standAt i2.pos >>= fun _ => pyNext it >>= fun r => match r with
      | none => pure (.done .next)
      | some v => letOwnedTupleGo t2 it v >>= fun _ => assign t2 env v >>= fun _ =>
        (eval elt env >>= fun x => call (.builtin "list.append") [acc, x] >>= fun _ => pure ()) >>= fun _ =>
          again (.compLoop (.ListComp elt [⟨t1, i1, [], 0⟩, ⟨t2, i2, [], 0⟩] scope pos) 1 it acc env)) := by rfl
theorem compStart2 {elt t1 i1 t2 i2 : Expr} {scope : Scope} {pos : Pos} {it acc : Value} {env : Env}
    (h0 : codeAny (model prog w) A (.compLoop (.ListComp elt [⟨t1, i1, [], 0⟩, ⟨t2, i2, [], 0⟩] scope pos) 1 it acc env) R s)
    (h : wpAny (model prog w) A (pyIter it) (fun it' s' => codeAny (model prog w) A (.compLoop (.ListComp elt [⟨t1, i1, [], 0⟩, ⟨t2, i2, [], 0⟩] scope pos) 1 it' acc env) R s')
      (notedBy (model prog w) A env fun x s' => R (.error x) s') s) :
    codeAny (model prog w) A (.compStart (.ListComp elt [⟨t1, i1, [], 0⟩, ⟨t2, i2, [], 0⟩] scope pos) 1 it acc env) R s := by
  refine codeAny_of_tree ?_
  show wpAny _ _ ((compStart (.ListComp elt [⟨t1, i1, [], 0⟩, ⟨t2, i2, [], 0⟩] scope pos) 1 it acc env).onRaise (fun x => do noteFrame x env; standAt theWindowsPlace)) _ _ s
  refine wpAny_notedAt ?_
  unfold compStart
  show wpAny _ _ (ask >>= _) _ _ s
  refine wpAny_bind (wpAny_askSetting (wpAny_ite ?_))
  split
  · first
      | exact wpAny_bind (wpAny_pure (wpAny_pure (And.intro rfl h0)))
      | exact wpAny_pure (And.intro rfl h0)
  · first
      | exact wpAny_bind (wpAny_rule (wpAny_bind (wpAny_standAt (wpAny_bind (wpAny_mono h (fun it' s' h' => wpAny_pure (And.intro rfl h')) fun _ _ x => x)))))
      | (refine wpAny_bind (wpAny_rule ?_); show wpAny _ _ (standAt i2.pos >>= _) _ _ s; exact wpAny_bind (wpAny_standAt (wpAny_bind (wpAny_mono h (fun it' s' h' => wpAny_pure (And.intro rfl h')) fun _ _ x => x))))
theorem inner_loop {x y : Str} {px py py2 : Pos} {i1 i2 : Expr} {scope : Scope} {pos : Pos} {J ax D : Addr} {cenv : Env} {items ys0 : List Value} {m : Str → Option Value}
    (hh : A.handled = none) (hy : cenv.kindOf y = some .local) (hk : cenv.scope.kind = .function) (hyd : (y == ("__debug__" : Str)) = false)
    (hDJ : D ≠ J) (hDC : D ≠ cenv.locals) (hJC : J ≠ cenv.locals) (haJ : ax ≠ J) (haC : ax ≠ cenv.locals) (haD : ax ≠ D)
    (hit : s.heap.IsListIter J ax 0) (hl : s.heap.IsList ax items.toArray) (hacc : s.heap.IsList D ys0.toArray) (hn : s.heap.Ns cenv.locals m) (hsz : ys0.length + items.length ≤ sizeLine)
    (hR : ∀ h' tk m', h'.Ns cenv.locals m' → h'.IsList D (ys0 ++ items).toArray → (∀ b o, b ≠ cenv.locals → b ≠ J → b ≠ D → s.heap.get? b = some o → h'.get? b = some o) → R (.ok .next) { s with heap := h', toks := tk }) :
    codeAny (model prog w) A (.compLoop (.ListComp (.Name y py) [⟨.Name x px, i1, [], 0⟩, ⟨.Name y py2, i2, [], 0⟩] scope pos) 1 (.ref J) (.ref D) cenv) R s := by
  have hp : (cenv.scope.kind == .class || (cenv.scope.kind == .module && cenv.locals != cenv.globals)) = false := by rw [hk]; rfl
  refine codeAny_loop rfl
    (fun k s' => ∃ h' tk m' i, s' = { s with heap := h', toks := tk } ∧ h'.IsListIter J ax i ∧ h'.IsList D (ys0 ++ items.take i).toArray ∧ h'.Ns cenv.locals m' ∧ i ≤ items.length ∧ k = items.length + 1 - i ∧
      ∀ b o, b ≠ cenv.locals → b ≠ J → b ≠ D → s.heap.get? b = some o → h'.get? b = some o) ?_ (items.length + 1)
    ⟨s.heap, s.toks, m, 0, rfl, hit, by simpa using hacc, hn, Nat.zero_le _, rfl, fun _ _ _ _ _ e => e⟩
  rintro k s' ⟨H, tk, m', i, rfl, hit', hacc', hn', hi, rfl, hkeep⟩
  show wpAny _ A ((compTurn (.ListComp (.Name y py) [⟨.Name x px, i1, [], 0⟩, ⟨.Name y py2, i2, [], 0⟩] scope pos) 1 (.ref J) (.ref D) cenv).onRaise (fun x => do noteFrame x cenv; theTreesLotGoes x)) _ _ _
  refine wpAny_noted ?_
  rw [compTurn2_in]
  refine wpAny_bind (wpAny_standAt (wpAny_bind ?_))
  have hl' : H.IsList ax items.toArray := hl.at fun o e => hkeep ax o haC haJ haD e
  cases hv : items[i]? with
  | none =>
    have hle : items.length ≤ i := by simpa using hv
    refine wpAny_pyNext_list_end hh hit' hl' (by simpa using hv) fun h₁ he₁ => wpAny_pure ?_
    refine hR h₁ tk m' (hn'.extBut he₁ (Ne.symm hJC)) ?_ fun b o hbC hbJ hbD e => he₁ b o hbJ (hkeep b o hbC hbJ hbD e)
    rw [List.take_of_length_le hle] at hacc'
    exact hacc'.extBut he₁ hDJ
  | some v =>
    have hlt : i < items.length := (List.getElem?_eq_some_iff.mp hv).1
    refine wpAny_pyNext_list_item hit' hl' (x := v) (by simpa using hv) fun h₁ hit₁ hs₁ => ?_
    refine wpAny_bind (wpAny_of_eq rfl ?_)
    refine wpAny_bind (wpAny_assign_Name (wpAny_storeName_local hy (hn'.sameBut hs₁ (Ne.symm hJC)) (fun h₂ hn₂ hs₂ => ?_) hp))
    refine wpAny_bind (wpAny_bind (wpAny_Name (wpAny_loadName_local (v := v) hk hy hn₂ (by simp) ?_) hyd))
    have up : ∀ b o, b ≠ cenv.locals → b ≠ J → H.get? b = some o → h₂.get? b = some o := fun b o hbC hbJ e => hs₂.extBut b o hbC (hs₁.extBut b o hbJ e)
    have hacc₂ : h₂.IsList D (ys0 ++ items.take i).toArray := hacc'.at fun o e => up D o hDC hDJ e
    refine wpAny_bind (wpAny_list_append (hsz := by rw [List.size_toArray, List.length_append, List.length_take]; omega) hacc₂ fun h₅ hl₅ hs₅ => wpAny_pure (wpAny_pure ⟨rfl, ?_⟩))
    refine ⟨items.length + 1 - (i + 1), by omega, h₅, _, _, i + 1, rfl, (hit₁.extBut hs₂.extBut hJC).extBut hs₅.extBut (Ne.symm hDJ), ?_, hn₂.sameBut hs₅ (Ne.symm hDC), hlt, rfl, fun b o hbC hbJ hbD e => hs₅.extBut b o hbD (up b o hbC hbJ (hkeep b o hbC hbJ hbD e))⟩
    rw [List.take_add_one, hv, Option.toList_some, ← List.append_assoc]
    simpa using hl₅
theorem flat_loop {x y : Str} {px py py2 px2 : Pos} {i1 : Expr} {scope : Scope} {pos : Pos} {I ax D : Addr} {cenv : Env} {rs : List (Addr × List Value × Nat)} {m : Str → Option Value}
    (hh : A.handled = none) (hx : cenv.kindOf x = some .local) (hy : cenv.kindOf y = some .local) (hk : cenv.scope.kind = .function) (hxd : (x == ("__debug__" : Str)) = false) (hyd : (y == ("__debug__" : Str)) = false)
    (hDI : D ≠ I) (hDC : D ≠ cenv.locals) (hIC : I ≠ cenv.locals) (haI : ax ≠ I) (haC : ax ≠ cenv.locals) (haD : ax ≠ D)
    (hrow : ∀ r ∈ rs, s.heap.IsList r.1 r.2.1.toArray ∧ r.1 ≠ cenv.locals ∧ r.1 ≠ I ∧ r.1 ≠ D)
    (hit : s.heap.IsListIter I ax 0) (hl : s.heap.IsList ax (rs.map fun r => Value.ref r.1).toArray) (hacc : s.heap.IsList D #[]) (hn : s.heap.Ns cenv.locals m) (hsz : ((rs.map fun r => r.2.1).flatten).length ≤ sizeLine)
    (hR : ∀ h' tk m', h'.Ns cenv.locals m' → h'.IsList D ((rs.map fun r => r.2.1).flatten).toArray → (∀ b o, b ≠ cenv.locals → b ≠ I → b ≠ D → s.heap.get? b = some o → h'.get? b = some o) → R (.ok .next) { s with heap := h', toks := tk }) :
    codeAny (model prog w) A (.compLoop (.ListComp (.Name y py) [⟨.Name x px, i1, [], 0⟩, ⟨.Name y py2, .Name x px2, [], 0⟩] scope pos) 0 (.ref I) (.ref D) cenv) R s := by
  have hp : (cenv.scope.kind == .class || (cenv.scope.kind == .module && cenv.locals != cenv.globals)) = false := by rw [hk]; rfl
  refine codeAny_loop rfl
    (fun k s' => ∃ h' tk m' i, s' = { s with heap := h', toks := tk } ∧ h'.IsListIter I ax i ∧ h'.IsList D (((rs.take i).map fun r => r.2.1).flatten).toArray ∧ h'.Ns cenv.locals m' ∧ i ≤ rs.length ∧ k = rs.length + 1 - i ∧
      ∀ b o, b ≠ cenv.locals → b ≠ I → b ≠ D → s.heap.get? b = some o → h'.get? b = some o) ?_ (rs.length + 1)
    ⟨s.heap, s.toks, m, 0, rfl, hit, by simpa using hacc, hn, Nat.zero_le _, rfl, fun _ _ _ _ _ e => e⟩
  rintro k s' ⟨H, tk, m', i, rfl, hit', hacc', hn', hi, rfl, hkeep⟩
  show wpAny _ A ((compTurn (.ListComp (.Name y py) [⟨.Name x px, i1, [], 0⟩, ⟨.Name y py2, .Name x px2, [], 0⟩] scope pos) 0 (.ref I) (.ref D) cenv).onRaise (fun x => do noteFrame x cenv; theTreesLotGoes x)) _ _ _
  refine wpAny_noted ?_
  rw [compTurn2_out]
  refine wpAny_bind (wpAny_standAt (wpAny_bind ?_))
  have hl' : H.IsList ax (rs.map fun r => Value.ref r.1).toArray := hl.at fun o e => hkeep ax o haC haI haD e
  cases hv : rs[i]? with
  | none =>
    have hle : rs.length ≤ i := by simpa using hv
    refine wpAny_pyNext_list_end hh hit' hl' (by simpa using hv) fun h₁ he₁ => wpAny_pure ?_
    refine hR h₁ tk m' (hn'.extBut he₁ (Ne.symm hIC)) ?_ fun b o hbC hbI hbD e => he₁ b o hbI (hkeep b o hbC hbI hbD e)
    rw [List.take_of_length_le hle] at hacc'
    exact hacc'.extBut he₁ hDI
  | some r =>
    have hlt : i < rs.length := (List.getElem?_eq_some_iff.mp hv).1
    obtain ⟨hr0, hrC, hrI, hrD⟩ := hrow r (List.mem_of_getElem? hv)
    have htake : ((rs.take (i + 1)).map fun r => r.2.1).flatten = ((rs.take i).map fun r => r.2.1).flatten ++ r.2.1 := by
      rw [List.take_add_one, hv, Option.toList_some, List.map_append, List.flatten_append]; simp
    have hlen : (((rs.take i).map fun r => r.2.1).flatten).length + r.2.1.length ≤ sizeLine := by
      rw [← List.length_append, ← htake]
      refine Nat.le_trans ?_ hsz
      have e : rs = rs.take (i + 1) ++ rs.drop (i + 1) := (List.take_append_drop _ _).symm
      conv => rhs; rw [e, List.map_append, List.flatten_append, List.length_append]
      exact Nat.le_add_right _ _
    refine wpAny_pyNext_list_item hit' hl' (x := .ref r.1) (by simp [hv]) fun h₁ hit₁ hs₁ => ?_
    refine wpAny_bind (wpAny_of_eq rfl ?_)
    refine wpAny_bind (wpAny_assign_Name (wpAny_storeName_local hx (hn'.sameBut hs₁ (Ne.symm hIC)) (fun h₂ hn₂ hs₂ => ?_) hp))
    refine wpAny_bind (wpAny_Name (wpAny_loadName_local (v := .ref r.1) hk hx hn₂ (by simp) ?_) hxd)
    refine wpAny_bind (wpAny_standAt (wpAny_bind (wpAny_of_eq (a := Value.ref r.1) rfl ?_)))
    have up : ∀ b o, b ≠ cenv.locals → b ≠ I → H.get? b = some o → h₂.get? b = some o := fun b o hbC hbI e => hs₂.extBut b o hbC (hs₁.extBut b o hbI e)
    have hacc₂ : h₂.IsList D (((rs.take i).map fun r => r.2.1).flatten).toArray := hacc'.at fun o e => up D o hDC hDI e
    have hit₂ : h₂.IsListIter I ax (i + 1) := hit₁.extBut hs₂.extBut hIC
    have hr₂ : h₂.IsList r.1 r.2.1.toArray := hr0.at fun o e => up r.1 o hrC hrI (hkeep r.1 o hrC hrI hrD e)
    have lt2 : ∀ b, (∃ o, h₂.get? b = some o) → b ≠ h₂.objs.size := fun b ⟨o, e⟩ => Nat.ne_of_lt (Heap.lt_size e)
    have nI : I ≠ h₂.objs.size := lt2 I (let ⟨o, e, _⟩ := hit₂; ⟨o, e⟩)
    have nD : D ≠ h₂.objs.size := lt2 D (let ⟨o, e, _⟩ := hacc₂; ⟨o, e⟩)
    have nr : r.1 ≠ h₂.objs.size := lt2 r.1 (let ⟨o, e, _⟩ := hr₂; ⟨o, e⟩)
    have nC : cenv.locals ≠ h₂.objs.size := lt2 _ (let ⟨o, _, _, e, _⟩ := hn₂; ⟨o, e⟩)
    refine wpAny_bind (wpAny_holding (wpAny_pyIter_list hr₂ ?_))
    refine wpAny_bind (wpAny_runOwn ?_)
    have hitJ : (h₂.push { cls := .type "list_iterator", data := .fields #[.ref r.1, .int 0 0] }).IsListIter h₂.objs.size r.1 0 := ⟨_, Heap.get?_push_size _ rfl, rfl, rfl⟩
    refine compStart2 ?lp (wpAny_pyIter_listiter hitJ ?lp)
    refine inner_loop (A := A.mark none) hh hy hk hyd nD hDC (Ne.symm nC) nr hrC hrD hitJ (hr₂.push _) (hacc₂.push _) (hn₂.push _) hlen (fun h₅ tk₅ m₅ hn₅ hl₅ hk₅ => ?_)
    refine wpAny_pure ⟨rfl, rs.length + 1 - (i + 1), by omega, h₅, tk₅, m₅, i + 1, rfl, ?_, ?_, hn₅, hlt, rfl, fun b o hbC hbI hbD e => ?_⟩
    · exact (hit₂.at fun o e => hk₅ I o hIC nI (Ne.symm hDI) (Heap.get?_push_of_some _ e))
    · rw [htake]; exact hl₅
    · have e2 := up b o hbC hbI (hkeep b o hbC hbI hbD e)
      exact hk₅ b o hbC (lt2 b ⟨o, e2⟩) hbD (Heap.get?_push_of_some _ e2)
/-- the source is the list of rows, and nothing has moved -/
def FlatSrc (ax : Addr) (s : Shared) (v : Value) (s' : Shared) : Prop := v = .ref ax ∧ s' = s
theorem flat_comp {x y : Str} {px py py2 px2 : Pos} {i1 : Expr} {scope : Scope} {pos : Pos} {cl : List (Str × Addr)} {env : Env} {h₀ : Heap} {L : Addr} {m : Str → Option Value} {news : List (Addr × Obj)} {Q : Value → Shared → Prop} {ax : Addr} {rs : List (Addr × List Value × Nat)} {n1 : Nat}
    (F : Fr h₀ L s.heap m) (N : News h₀ L s.heap news) (hh : A.handled = none) (hax : (ax, W.listOf ((rs.map fun r => Value.ref r.1).toArray) n1) ∈ news) (hrs : ∀ r ∈ rs, rowO r ∈ news) (hsz : ((rs.map fun r => r.2.1).flatten).length ≤ sizeLine)
    (hclos : closureFor scope env = pure cl) (hcell : ∀ y ∈ scope.names, y.2 ≠ .cell) (hkind : scope.kind = .function) (hnames : ∀ y ∈ scope.names, y.2 = .local → scope.names.lookup y.1 = some .local)
    (hx : scope.names.lookup x = some .local) (hy : scope.names.lookup y = some .local) (hxd : (x == ("__debug__" : Str)) = false) (hyd : (y == ("__debug__" : Str)) = false)
    (hi1 : wpAny (model prog w) A (eval i1 env) (FlatSrc ax s) E s)
    (h : ∀ D h' tk, Fr h₀ L h' m → News h₀ L h' news → h'.IsList D ((rs.map fun r => r.2.1).flatten).toArray → Q (.ref D) { s with heap := h', toks := tk })
    (hs : ∀ x, foldedSetIterable i1 env x = pure x := by intro _; rfl) :
    wpAny (model prog w) A (eval (.ListComp (.Name y py) [⟨.Name x px, i1, [], 0⟩, ⟨.Name y py2, .Name x px2, [], 0⟩] scope pos) env) Q E s := by
  rw [eval_ListComp]
  refine wpAny_comprehension_free (use := none) rfl hs hclos hkind hnames (wpAny_mono hi1 (fun xv s₁ h₁ => ?_) fun _ _ e => e)
  obtain ⟨rfl, rfl⟩ := h₁
  have hl : s₁.heap.IsList ax (rs.map fun r => Value.ref r.1).toArray := ⟨_, N.get hax, rfl, n1, rfl⟩
  refine wpAny_pyIter_list hl ?_
  refine wpAny_newObj_type (wpAny_newFunctionEnv hcell (by intro y hy; simp at hy) (fun h₁ hns₁ hsb₁ => ?_) hkind)
  dsimp only at hns₁ hsb₁ ⊢
  generalize hH1 : s₁.heap.push { cls := .type "list_iterator", data := .fields #[.ref ax, .int 0 0] } = H1 at hns₁ hsb₁ ⊢
  generalize hH2 : H1.push { cls := .type "list", dict := none, data := .seq ([] : List Value).toArray } = H2 at hns₁ hsb₁ ⊢
  have z1 : H1.objs.size = s₁.heap.objs.size + 1 := by rw [← hH1, Heap.size_push]
  have z2 : H2.objs.size = s₁.heap.objs.size + 2 := by rw [← hH2, Heap.size_push, z1]
  have hDC : H1.objs.size ≠ H2.objs.size := by rw [z1, z2]; exact Nat.ne_of_lt (Nat.lt_succ_self _)
  have hIC : s₁.heap.objs.size ≠ H2.objs.size := by rw [z2]; exact Nat.ne_of_lt (Nat.lt_add_of_pos_right (by decide))
  have hDI : H1.objs.size ≠ s₁.heap.objs.size := by rw [z1]; exact Nat.ne_of_gt (Nat.lt_succ_self _)
  have below : ∀ b o, s₁.heap.get? b = some o → b ≠ H2.objs.size ∧ b ≠ s₁.heap.objs.size ∧ b ≠ H1.objs.size := fun b o e => by
    have lt : b < s₁.heap.objs.size := Heap.lt_size e
    rw [z1, z2]
    exact ⟨Nat.ne_of_lt (Nat.lt_add_right 2 lt), Nat.ne_of_lt lt, Nat.ne_of_lt (Nat.lt_add_right 1 lt)⟩
  have old : ∀ b o, s₁.heap.get? b = some o → h₁.get? b = some o := fun b o e => hsb₁.extBut b o (below b o e).1 (Heap.get?_push_of_some _ (hH2 ▸ Heap.get?_push_of_some _ (hH1 ▸ Heap.get?_push_of_some _ e)))
  have hit : h₁.IsListIter s₁.heap.objs.size ax 0 := ⟨_, hsb₁.extBut _ _ hIC (Heap.get?_push_of_some _ (hH2 ▸ Heap.get?_push_of_some _ (hH1 ▸ Heap.get?_push_size _ rfl))), rfl, rfl⟩
  have hacc : h₁.IsList H1.objs.size #[] := ⟨_, hsb₁.extBut _ _ hDC (Heap.get?_push_of_some _ (hH2 ▸ Heap.get?_push_size _ rfl)), rfl, _, rfl⟩
  obtain ⟨oax, eax, _⟩ := id hl
  have loop : codeAny (model prog w) A (.compLoop (.ListComp (.Name y py) [⟨.Name x px, i1, [], 0⟩, ⟨.Name y py2, .Name x px2, [], 0⟩] scope pos) 0 (.ref s₁.heap.objs.size) (.ref H1.objs.size) (compEnvC scope cl H2.objs.size env))
        (compPost (model prog w) A E none Q (.ref H1.objs.size) H2.objs.size) { s₁ with heap := h₁, toks := s₁.toks + ([] : List (Str × Value)).length } := by
    refine flat_loop (rs := rs) hh (lookup_relabel_local hx) (lookup_relabel_local hy) hkind hxd hyd hDI hDC hIC (below _ _ eax).2.1 (below _ _ eax).1 (below _ _ eax).2.2 (fun r hr => ?_) hit (hl.at fun o e => old _ o e) hacc hns₁ hsz (fun h' tk m' hn' hl' hk' => ?_)
    · have e := N.get (hrs r hr)
      exact ⟨⟨_, old _ _ e, rfl, _, rfl⟩, (below _ _ e).1, (below _ _ e).2.1, (below _ _ e).2.2⟩
    · have kk : ∀ h'', Heap.SameBut H2.objs.size h' h'' → ∀ b o, s₁.heap.get? b = some o → h''.get? b = some o := fun h'' hs'' b o e => hs''.extBut b o (below b o e).1 (hk' b o (below b o e).1 (below b o e).2.1 (below b o e).2.2 (old b o e))
      exact ⟨m', hn', fun h'' hs'' => h _ h'' tk (F.keeps (kk h'' hs'')) (N.grown (kk h'' hs'')) (hl'.at fun o e => hs''.extBut _ o hDC e)⟩
  exact codeAny_compStart_list loop (wpAny_pyIter_listiter hit loop)
end
end Mine
end
section
open PySem PySem.W PySem.Calls PyProof.Rows
set_option Elab.async false
set_option maxRecDepth 100000
set_option maxHeartbeats 4000000
namespace Mine
theorem offDzK : True := by
  w_top off
  k_with_none
  trivial
theorem join_read {rs : List (Addr × List Value × Nat)} {rows : List (List Int)} {due : List Int} (h : RowsAre rs rows due) : ∀ n, due.length ≤ n → readAll (n + 1) rows.flatten = due := by
  induction h with
  | nil => intro n _; rfl
  | cons _ h2 _ ih =>
    intro n hn
    obtain ⟨k, rfl⟩ : ∃ k, n = k + 1 := ⟨n - 1, by rw [List.length_cons] at hn; omega⟩
    rw [List.flatten_cons, readAll, enc_pv h2]
    show _ :: readAll (k + 1) _ = _
    rw [ih k (by rw [List.length_cons] at hn; omega)]
theorem join_facts {rs : List (Addr × List Value × Nat)} {rows : List (List Int)} {due : List Int} (h : RowsAre rs rows due) :
    IntsAre ((rs.map fun r => r.2.1).flatten) rows.flatten ∧ Oct rows.flatten ∧ rows.flatten.length ≤ 100 * rs.length ∧ due.length ≤ rows.flatten.length := by
  induction h with
  | nil => exact ⟨.nil, (fun x hx => by cases hx), Nat.le_refl _, Nat.le_refl _⟩
  | cons h1 h2 _ ih =>
    obtain ⟨a, b, c, d⟩ := ih
    refine ⟨IntsAre.append h1 a, ?_, ?_, ?_⟩
    · intro x hx
      rw [List.flatten_cons] at hx
      rcases List.mem_append.mp hx with hx | hx
      · exact h2.oct x hx
      · exact b x hx
    · have := h2.short
      rw [List.flatten_cons, List.length_append, List.length_cons]; omega
    · have := h2.pos
      rw [List.flatten_cons, List.length_append, List.length_cons]; omega
theorem pvGo_none : ∀ (l : List Int) (val b : Int), b / 64 % 2 = 1 → (∀ x ∈ l, x / 64 % 2 = 1) → pvGo val b l = none
  | [], val, b, hb, _ => by rw [pvGo, if_neg (by omega)]
  | c :: l, val, b, hb, h => by rw [pvGo, if_neg (by omega)]; exact pvGo_none l _ c (h c (.head _)) fun x hx => h x (.tail _ hx)
theorem cut_none {xs : List Int} {v : Int} (h : Enc xs v) {k : Nat} (hk : k < xs.length) : pvF (xs.take k) = none := by
  obtain ⟨ini, last, e, h1, _⟩ := h.split
  have hl : xs.length = ini.length + 1 := by rw [e]; simp
  have ht : xs.take k = ini.take k := by rw [e, List.take_append_of_le_length (by omega)]
  rw [ht]
  cases q : ini.take k with
  | nil => rfl
  | cons b r =>
    have hm : ∀ x ∈ b :: r, x / 64 % 2 = 1 := fun x hx => h1 x (List.mem_of_mem_take (q ▸ hx))
    exact pvGo_none r _ b (hm b (.head _)) fun x hx => hm x (.tail _ hx)
theorem cut_read {x2 x1 : List Int} {v2 v1 : Int} (h2 : Enc x2 v2) (h1 : Enc x1 v1) {k : Nat} (hk : k < x1.length) : readAll ((x2 ++ x1.take k).length + 1) (x2 ++ x1.take k) = [v2] := by
  rw [readAll, enc_pv h2, List.length_append]
  obtain ⟨j, hj⟩ : ∃ j, x2.length + (x1.take k).length = j + 1 := ⟨x2.length + (x1.take k).length - 1, by have := h2.pos; omega⟩
  rw [hj]
  show v2 :: readAll (j + 1) (x1.take k) = [v2]
  rw [readAll, cut_none h1 hk]
theorem cut_oct {x2 x1 : List Int} {v2 v1 : Int} (h2 : Enc x2 v2) (h1 : Enc x1 v1) (k : Nat) : Oct (x2 ++ x1.take k) := by
  intro x hx
  rcases List.mem_append.mp hx with hx | hx
  · exact h2.oct x hx
  · exact h1.oct x (List.mem_of_mem_take hx)
theorem cut_len {x2 x1 : List Int} {v2 v1 : Int} (h2 : Enc x2 v2) (h1 : Enc x1 v1) (k : Nat) : (x2 ++ x1.take k).length ≤ 50000 := by
  have a := h2.short
  have b := h1.short
  rw [List.length_append, List.length_take]; omega
section
variable {prog : Program} {w : World} {A : Around} {E : Value → Shared → Prop} {s : Shared} {h₀ : Heap} {L : Addr} {m : Str → Option Value} {news : List (Addr × Obj)} {Q : Value → Shared → Prop}
/-- an item of the list of rows, counted from behind -/
theorem row_neg {value slice : PySem.Expr} {a : Addr} {rs : List (Addr × List Value × Nat)} {r : Addr × List Value × Nat} {n1 : Nat} {k : Int} {u : Tok} (j : Nat) (N : News h₀ L s.heap news) (ha : (a, W.listOf ((rs.map fun r => Value.ref r.1).toArray) n1) ∈ news)
    (hr : rs[rs.length - j]? = some r) (hk : k = -(j : Int)) (hj : 1 ≤ j) (hj2 : j ≤ rs.length) (hj3 : j ≤ 1000) (h : Q (.ref r.1) s)
    (hs : subscripted slice false (.ref a) (.int k u) = operate [.ref a, .int k u] (getItem (.ref a) (.int k u)) := by with_unfolding_all rfl) :
    wpAny (model prog w) A (subscriptTail value slice (.ref a) (.int k u)) Q E s := by
  have hl : s.heap.IsList a ((rs.map fun r => Value.ref r.1).toArray) := ⟨_, N.get ha, rfl, n1, rfl⟩
  have hsz : ((rs.map fun r => Value.ref r.1).toArray).size = rs.length := by simp
  refine tail_any hl.typeIs F.slot_list_getitem.lookup (wpAny_getItem_list_neg (x := .ref r.1) hl (by omega) (by rw [hsz]; omega) (by omega) ?_ h) hs
  rw [hsz, show (k + (rs.length : Int)).toNat = rs.length - j by omega]
  simp [hr]
/-- the first items -/
theorem slice_upto {value slice : PySem.Expr} {l : Addr} {vs : List Value} {ns : List Int} {k : Int} {t : Tok} (F : Fr h₀ L s.heap m) (N : News h₀ L s.heap news) (hl : s.heap.IsList l vs.toArray) (hi : IntsAre vs ns) (hk : 0 ≤ k) (hz : ns.length ≤ 1000)
    (h : ∀ D ws h', Fr h₀ L h' m → News h₀ L h' ((D, W.listOf (List.toArray ws) 0) :: news) → (∀ p ∈ news, p.1 < D) → IntsAre ws (ns.take k.toNat) → Q (.ref D) { s with heap := h' })
    (hs : subscripted slice false (.ref l) (.ref s.heap.objs.size) = operate [.ref s.heap.objs.size, .ref l] (getItem (.ref l) (.ref s.heap.objs.size)) := by with_unfolding_all rfl) :
    wpAny (model prog w) A (subscriptTail value slice (.ref l) (.ref s.heap.objs.size)) Q E { s with heap := s.heap.push { cls := .type "slice", data := .fields #[.none, .int k t, .none] } } := by
  have hm := kmk_upto (y := k) hi hk
  have hsz : vs.toArray.size ≤ sizeLine := by rw [List.size_toArray, hi.length, sizeLine_eq]; omega
  refine tail_any (Heap.IsList.typeIs (s := { s with heap := s.heap.push { cls := .type "slice", data := .fields #[.none, .int k t, .none] } }) (hl.push _)) list_getitem_lookup
    (wpAny_getItem_list_slice (hl.push _) (Heap.IsSliceOf.new ..) .none (.int _ _) .none (by simp) ?_ hsz) hs
  have N1 := News.push (F.push { cls := .type "slice", data := .fields #[.none, .int k t, .none] }) (N.grown fun _ _ e => Heap.get?_push_of_some _ e) { cls := .type "list", data := .seq (slicePick vs.toArray none (some k) none) }
  rw [Heap.size_push] at N1
  show Q (.ref (s.heap.push _).objs.size) _
  rw [Heap.size_push]
  refine h _ (slicePick vs.toArray none (some k) none).toList _ ((F.push _).push _) ?_ (fun p hp => Nat.lt_succ_of_lt (Heap.lt_size (N p hp).1)) hm
  rw [Array.toArray_toList]
  exact N1
theorem pick_due {vs : List Value} {ns : List Int} (hi' : IntsAre vs ns) (h2 : 2 ≤ ns.length) : IntsAre (slicePick vs.toArray (some (-2)) (some (-1)) none).toList ((ns.drop (ns.length - 2)).take 1) := by
  have hz : vs.toArray.size = ns.length := kmk_size_eq hi'
  have e : sliceBounds (some (-2)) (some (-1)) none vs.toArray.size = (((vs.toArray.size - 2 : Nat) : Int), ((vs.toArray.size - 1 : Nat) : Int), 1) := by
    simp only [sliceBounds, Option.getD_none, show (1 : Int) > 0 by decide, if_true, if_pos (show (-2 : Int) < 0 by decide), if_pos (show (-1 : Int) < 0 by decide)]
    congr 1
    · omega
    · congr 1
      omega
  rw [kmk_pick_nat _ e]
  show IntsAre ((vs.drop (vs.toArray.size - 2)).take (vs.toArray.size - 1 - (vs.toArray.size - 2))) _
  rw [hz, show ns.length - 1 - (ns.length - 2) = 1 by omega]
  exact (hi'.drop _).take _
theorem take_due {ns : List Int} {v : Int} (h : ns[ns.length - 2]? = some v) : (ns.drop (ns.length - 2)).take 1 = [v] := by
  rw [List.take_one, List.head?_drop, h]; rfl
/-- the last item but one, as a list -/
theorem slice_due {value slice : PySem.Expr} {l : Addr} {vs : List Value} {ns : List Int} {t u : Tok} {v : Int} (F : Fr h₀ L s.heap m) (N : News h₀ L s.heap news) (hl : s.heap.IsList l vs.toArray) (hi : IntsAre vs ns) (hz : ns.length ≤ 1000) (h2 : 2 ≤ ns.length) (hv : ns[ns.length - 2]? = some v)
    (h : ∀ D ws h', Fr h₀ L h' m → News h₀ L h' ((D, W.listOf (List.toArray ws) 0) :: news) → (∀ p ∈ news, p.1 < D) → IntsAre ws [v] → Q (.ref D) { s with heap := h' })
    (hs : subscripted slice false (.ref l) (.ref s.heap.objs.size) = operate [.ref s.heap.objs.size, .ref l] (getItem (.ref l) (.ref s.heap.objs.size)) := by with_unfolding_all rfl) :
    wpAny (model prog w) A (subscriptTail value slice (.ref l) (.ref s.heap.objs.size)) Q E { s with heap := s.heap.push { cls := .type "slice", data := .fields #[.int (-2) t, .int (-1) u, .none] } } := by
  have hm := pick_due hi h2
  rw [take_due hv] at hm
  have hsz : vs.toArray.size ≤ sizeLine := by rw [List.size_toArray, hi.length, sizeLine_eq]; omega
  refine tail_any (Heap.IsList.typeIs (s := { s with heap := s.heap.push { cls := .type "slice", data := .fields #[.int (-2) t, .int (-1) u, .none] } }) (hl.push _)) list_getitem_lookup
    (wpAny_getItem_list_slice (hl.push _) (Heap.IsSliceOf.new ..) (.int _ _) (.int _ _) .none (by simp) ?_ hsz) hs
  have N1 := News.push (F.push { cls := .type "slice", data := .fields #[.int (-2) t, .int (-1) u, .none] }) (N.grown fun _ _ e => Heap.get?_push_of_some _ e) { cls := .type "list", data := .seq (slicePick vs.toArray (some (-2)) (some (-1)) none) }
  rw [Heap.size_push] at N1
  show Q (.ref (s.heap.push _).objs.size) _
  rw [Heap.size_push]
  refine h _ (slicePick vs.toArray (some (-2)) (some (-1)) none).toList _ ((F.push _).push _) ?_ (fun p hp => Nat.lt_succ_of_lt (Heap.lt_size (N p hp).1)) hm
  rw [Array.toArray_toList]
  exact N1
end
end Mine
end
section
open PySem PySem.W PySem.Calls PyProof.Rows
set_option Elab.async false
set_option maxRecDepth 100000
set_option maxHeartbeats 8000000
set_option pp.deepTerms false
set_option pp.deepTerms.threshold 6
set_option pp.maxSteps 20000
namespace Mine
theorem offDzL : True := by
  w_top off
  k_with_none
  trivial
theorem law_holds : PySem.Challenge.rw_dz0020_01.Holds := hd (by
  k_go0
  (all_goals try k_fold)
  k_with_none
  k_with "exec For Name BinOp cons nil" => ((rename Fr _ _ _ _ => lF'); (with_unfolding_all refine' For_invVF lF' ?k1 ?k2 ?_; (case k1 => exact rfl); (case k2 => exact rfl)))
  k_with "exec For" => ((rename Fr _ _ _ _ => lF'); (with_unfolding_all refine' For_invVF lF' ?k1 ?k2 ?_; (case k1 => exact rfl); (case k2 => exact rfl)))
  k_with "pyIter ref" => (refine Stop.mk ?_)
  k_steps
  unfold Stop
  rename Fr _ _ _ _ => F
  rename News _ _ _ _ => N
  rename Frag.In _ _ => KX
  rename Below _ _ _ _ => K0
  rename Top _ _ _ _ _ _ => TT
  rename Shared => s1
  rename World => w
  rename_i oC hoC hoX r0 hx8 lx6 r1 hx7 lx5 rowsA hx6 lx4 hx5 tk5 dueA hx4 lx3 hx3 lS wsS hx2 hIS hCS hLS lx2 l1A hx1 lx1 lD wsD hx0 hID lx0
  obtain ⟨t0, t1, t2, t3, t4, t5, N0⟩ : ∃ t0 t1 t2 t3 t4 t5, News _ _ _ (startN (s1.heap.objs.size + 1) rowsA dueA lD r0 r1 oC wsD t0 t1 t2 t3 t4 t5) :=
    ⟨_, _, _, _, _, _, List.forall_mem_cons.mpr ⟨N _ (by k_mem), List.forall_mem_cons.mpr ⟨N _ (by k_mem), List.forall_mem_cons.mpr ⟨N _ (by k_mem), List.forall_mem_cons.mpr ⟨N _ (by k_mem), List.forall_mem_cons.mpr ⟨N _ (by k_mem), List.forall_mem_cons.mpr ⟨N _ (by k_mem), List.forall_mem_nil _⟩⟩⟩⟩⟩⟩⟩
  refine' kdl_iter (l := lD) (vs := wsD) (nn := 0) (fun i m news => LJ (s1.heap.objs.size + 1) rowsA dueA lD wsD i m news) rfl ?hl F N0 ?hj ?turn ?done
  case hl => exact .tail _ (.tail _ (.tail _ (.head _)))
  case hj =>
    exact lj_start hoC rfl rfl (by omega) (by omega) (by omega) (by omega) (by omega) (by omega) (by omega) (by omega)
  case turn =>
    intro i v m₁ news₁ h tk' own hv hoff hl₁ hJ F1 N1
    clear F N N0
    obtain ⟨⟨oc, cv, rs, n1, dv, n2, rows, due, rfl, hoc, hR, hDv, hm1, hm2, hlen, hne⟩⟩ := hJ
    obtain ⟨x, tx, rfl⟩ := ints_get hID hv
    have hi17 : rs.length ≤ 20 := by
      have e1 := (List.getElem?_eq_some_iff.mp hv).1
      have e2 := hID.length
      rw [List.length_append] at e2
      simp only [List.length_cons, List.length_nil] at e2
      omega
    have em : (fun y => if y = Str.ofString "x" then some (Value.int x tx) else m₁ y) = (fun y => if y = Str.ofString "x" then some (Value.int x tx) else if y = Str.ofString "rows" then some (Value.ref rowsA) else if y = Str.ofString "due" then some (Value.ref dueA) else m₁ y) := by
      funext y
      by_cases e1 : y = Str.ofString "rows"
      · simp only [if_pos e1]; rw [e1, hm1]
      · by_cases e2 : y = Str.ofString "due"
        · simp only [if_neg e1, if_pos e2]; rw [e2, hm2]
        · simp only [if_neg e1, if_neg e2]
    rw [em] at F1
    clear em
    obtain ⟨T, hT⟩ : ∃ T, T = rs.map rowO ++ own := ⟨_, rfl⟩
    have hTr : ∀ r ∈ rs, rowO r ∈ T := fun r hr => hT ▸ List.mem_append_left _ (List.mem_map_of_mem hr)
    have hTo : ∀ p ∈ own, p ∈ T := fun p hp => hT ▸ List.mem_append_right _ hp
    have hToff : OwnOff T [s1.heap.objs.size + 1, rowsA, dueA, lD] := by
      intro p hp b hb
      rw [hT] at hp
      rcases List.mem_append.mp hp with hp | hp
      · obtain ⟨r, hr, rfl⟩ := List.mem_map.mp hp
        obtain ⟨e1, e2, e3, e4⟩ := hne r hr
        simp only [List.mem_cons, List.not_mem_nil, or_false] at hb
        rcases hb with rfl | rfl | rfl | rfl
        · exact e1
        · exact e2
        · exact e3
        · exact e4
      · refine hoff p hp b ?_
        simp only [List.mem_cons, List.not_mem_nil, or_false] at hb
        rcases hb with rfl | rfl | rfl | rfl <;> simp
    replace N1 : News s1.heap s1.heap.objs.size h ((s1.heap.objs.size + 1, oc) :: (rowsA, W.listOf ((rs.map fun r => Value.ref r.1).toArray) n1) :: (dueA, W.listOf dv.toArray n2) :: (lD, W.listOf wsD.toArray 0) :: T) := by
      rw [hT]; exact N1
    have nCR : @Ne Nat (s1.heap.objs.size + 1) rowsA := by omega
    have nCD : @Ne Nat (s1.heap.objs.size + 1) dueA := by omega
    have nRD : @Ne Nat rowsA dueA := by omega
    have nLR : @Ne Nat lD rowsA := by omega
    have nLD : @Ne Nat lD dueA := by omega
    have kM := kstMark
    k_with_none
    k_with "call builtin:len" => ((with_reducible show wpAny _ _ (call (Value.builtin "len") [Value.ref _]) _ _ _); refine' kst_len (us := rs.map fun r => Value.ref r.1) (k := rs.length) ?lN ?lM ?le ?lf ?_; (case lN => k_asm); (case lM => k_memK); (case le => simp); (case lf => omega); (try dsimp only))
    k_with "subscriptTail Name BinOp ref int" => (refine Stop.mk ?_)
    k_steps
    unfold Stop
    rename Fr _ _ _ _ => F
    rename News _ _ _ _ => N
    dsimp only
    refine' row_item N ?iA hR ?ir ?i0 ?i1 ?iz ?_ ?is
    case iA => exact .tail _ (.head _)
    case ir => exact fun r hr => .tail _ (.tail _ (.tail _ (.tail _ (hTr r hr))))
    case i0 => exact Int.fmod_nonneg_of_pos _ (by omega)
    case i1 => exact Int.fmod_lt_of_pos _ (by omega)
    case iz => omega
    case is => with_unfolding_all rfl
    intro b1 vs1 nn1 xs1 v1 hmem1 hi1 he1 hr1 hd1
    k_with_none
    k_with "subscriptTail Subscript Name BinOp Slice" => (refine Stop.mk ?_)
    k_steps
    unfold Stop
    have hz1 := he1.short
    with_unfolding_all refine' slice_last8 F N ⟨_, N.get hmem1, rfl, _, rfl⟩ hi1 (by omega) ?_ ?is
    case is => with_unfolding_all rfl
    intro l8 ws8 h8 F8 N8 lt8 hi8
    clear F N
    have he8 := enc_last8 he1
    have hl8 : (xs1.drop (xs1.length - 8)).length ≤ 8 := by rw [List.length_drop]; omega
    generalize hxa : xs1.drop (xs1.length - 8) = xa at *
    k_lt lt8
    dsimp only
    k_with_none
    k_with "call ref" => (refine Stop.mk ?_)
    k_steps
    unfold Stop
    rename Fr _ _ _ _ => F
    rename News _ _ _ _ => N
    refine read_N K0 F N KX TT rfl rfl ⟨_, N.get (by k_memK), rfl, _, rfl⟩ hi8 he8.oct (by omega) ?_
    intro la ua na hA tA FA NA neA hiA
    clear F N
    rw [enc_read he8] at hiA
    generalize hmv : valD (xa.map fun o => o.fmod 64) = mv at *
    obtain ⟨ta, rfl⟩ := ints_one hiA
    simp only [List.forall_mem_cons] at neA
    dsimp only at neA ⊢
    k_with_none
    k_with "call builtin:len" => ((with_reducible show wpAny _ _ (call (Value.builtin "len") [Value.ref _]) _ _ _); refine' kst_len (us := rs.map fun r => Value.ref r.1) (k := rs.length) ?lN ?lM ?le ?lf ?_; (case lN => k_asm); (case lM => k_memK); (case le => simp); (case lf => omega); (try dsimp only))
    k_with "subscriptTail Name BinOp ref int" => (refine Stop.mk ?_)
    k_steps
    unfold Stop
    rename Fr _ _ _ _ => F
    rename News _ _ _ _ => N
    dsimp only
    refine' row_item N ?iA hR ?ir ?i0 ?i1 ?iz ?_ ?is
    case iA => k_memK
    case ir => exact fun r hr => .tail _ (.tail _ (.tail _ (.tail _ (.tail _ (.tail _ (hTr r hr))))))
    case i0 => exact Int.fmod_nonneg_of_pos _ (by omega)
    case i1 => exact Int.fmod_lt_of_pos _ (by omega)
    case iz => omega
    case is => with_unfolding_all rfl
    intro b2 vs2 nn2 xs2 v2 hmem2 hi2 he2 hr2 hd2
    k_with_none
    k_with "subscriptTail Subscript Name BinOp Slice" => (refine Stop.mk ?_)
    k_steps
    unfold Stop
    have hz2 := he2.short
    with_unfolding_all refine' slice_last8 F N ⟨_, N.get hmem2, rfl, _, rfl⟩ hi2 (by omega) ?_ ?is
    case is => with_unfolding_all rfl
    intro l9 ws9 h9 F9 N9 lt9 hi9
    clear F N
    have he9 := enc_last8 he2
    have hl9 : (xs2.drop (xs2.length - 8)).length ≤ 8 := by rw [List.length_drop]; omega
    generalize hxc : xs2.drop (xs2.length - 8) = xc at *
    k_lt lt9
    dsimp only
    k_with_none
    k_with "call ref" => (refine Stop.mk ?_)
    k_steps
    unfold Stop
    rename Fr _ _ _ _ => F
    rename News _ _ _ _ => N
    refine read_N K0 F N KX TT rfl rfl ⟨_, N.get (by k_memK), rfl, _, rfl⟩ hi9 he9.oct (by omega) ?_
    intro lb ub nb hB tB FB NB neB hiB
    clear F N
    rw [enc_read he9] at hiB
    generalize hnv : valD (xc.map fun o => o.fmod 64) = nv at *
    obtain ⟨tb, rfl⟩ := ints_one hiB
    simp only [List.forall_mem_cons] at neB
    dsimp only at neB ⊢
    k_with_none
    k_with "exec If" => (refine Stop.mk ?_)
    k_steps
    unfold Stop
    k_with_none
    k_with "exec Assign" => (refine Stop.mk ?_)
    k_steps
    unfold Stop
    k_with_none
    k_with "exec If" => (refine Stop.mk ?_)
    k_steps
    unfold Stop
    rename Fr _ _ _ _ => F
    rename News _ _ _ _ => N
    rename_i g1 ya hya hyaL aA hh5 tkk1 oA hkA1 hkA2 hkA3 hkA4 hkA5 hkA6 hkA7 hkA8 hkA9 g2 hyc hycL cA hh4 tkk2 oCc tupA hh3 ltT hh2 hh1 hh0
    have N2 : News _ _ _ ((cA, _) :: (aA, _) :: (s1.heap.objs.size + 1, oc) :: (rowsA, W.listOf ((rs.map fun r => Value.ref r.1).toArray) n1) :: (dueA, W.listOf dv.toArray n2) :: (lD, W.listOf wsD.toArray 0) :: T) :=
      fun p hp => N p (by
        rcases List.mem_cons.mp hp with rfl | hp
        · exact .tail _ (.head _)
        rcases List.mem_cons.mp hp with rfl | hp
        · exact .tail _ (.tail _ (.head _))
        exact .tail _ (.tail _ (.tail _ (.tail _ (.tail _ (.tail _ (.tail _ (.tail _ hp))))))))
    clear N
    have hdA : Dig (xa.map fun k' => k'.fmod 64) := dig_map xa
    have hdC : Dig (xc.map fun k' => k'.fmod 64) := dig_map xc
    have hlA : (xa.map fun k' => k'.fmod 64).length ≤ 8 := by rw [List.length_map]; exact hl8
    have hlC : (xc.map fun k' => k'.fmod 64).length ≤ 8 := by rw [List.length_map]; exact hl9
    have hpA : 1 ≤ (xa.map fun k' => k'.fmod 64).length := by rw [List.length_map]; exact he8.pos
    have hpC : 1 ≤ (xc.map fun k' => k'.fmod 64).length := by rw [List.length_map]; exact he9.pos
    generalize hda : (xa.map fun k' => k'.fmod 64) = da at *
    generalize hdc : (xc.map fun k' => k'.fmod 64) = dc at *
    obtain ⟨hm0, hmB⟩ := valD_bound8 hdA hlA
    obtain ⟨hn0, hnB⟩ := valD_bound8 hdC hlC
    rw [hmv] at hm0 hmB
    rw [hnv] at hn0 hnB
    clear hmem1 hmem2 hr1 hr2 hd1 hd2 hi1 hi2 hi8 hi9 hiA hiB
    have hb2 : 2 ≤ nv.fmod 63 + 2 := by have := Int.fmod_nonneg_of_pos nv (b := 63) (by decide); omega
    have hb64 : nv.fmod 63 + 2 ≤ 64 := by have := Int.fmod_lt_of_pos nv (b := 63) (by decide); omega
    k_with_none
    k_with "binaryOp Mult int int" => ((with_reducible refine mul_intI ?_ (mul_ok (by assumption) (by assumption))); (try dsimp only))
    k_with "eval ListComp" => (refine Stop.mk ?_)
    k_with "call ref" => (refine Stop.mk ?_)
    k_steps
    all_goals unfold Stop
    rotate_left
    · rename Fr _ _ _ _ => F
      rename News _ _ _ _ => N
      refine prod_N K0 F N KX TT rfl rfl ⟨_, N.get (by k_memK), rfl, _, rfl⟩ hya ⟨_, N.get (by k_memK), rfl, _, rfl⟩ hyc hdA hlA hlC ?_
      intro ld ud nd hD tD FD ND neD hiD
      clear F N
      have hDG := prod_DG hdA hdC hlA hlC hpA
      rw [hmv, hnv] at hDG
      generalize (prodFold da dc).reverse = dd at hiD hDG
      simp only [List.forall_mem_cons] at neD
      dsimp only at neD ⊢
      k_with_none
      k_with "call ref" => (refine Stop.mk ?_)
      k_steps
      unfold Stop
      rename Fr _ _ _ _ => F
      rename News _ _ _ _ => N
      have hk0 := Int.fmod_nonneg_of_pos ((if x < 0 then -x else x).fdiv 5 + mv) (b := 128) (by decide)
      have hk1 := Int.fmod_lt_of_pos ((if x < 0 then -x else x).fdiv 5 + mv) (b := 128) (by decide)
      have hsh := hDG.short
      refine oct_N K0 F N KX TT rfl rfl ⟨_, N.get (by k_memK), rfl, _, rfl⟩ hiD (by omega) hDG.pos hk0 hk1 ?_
      intro lr ur nr hR' tR FR NR neR hiR
      clear F N
      have hEnc := enc_oct hDG hk0 hk1
      generalize octF dd _ = rr at hiR hEnc
      obtain ⟨neTup, neLd, neC, neA', neCell, neRows, neDue, neLD, neT⟩ : _ ∧ _ ∧ _ ∧ _ ∧ _ ∧ _ ∧ _ ∧ _ ∧ _ := by simpa only [List.forall_mem_cons] using neR
      have N3 : News _ _ _ ((lr, W.listOf ur.toArray nr) :: (s1.heap.objs.size + 1, _) :: (rowsA, W.listOf ((rs.map fun r => Value.ref r.1).toArray) n1) :: (dueA, W.listOf dv.toArray n2) :: (lD, W.listOf wsD.toArray 0) :: T) :=
        fun p hp => NR p (by
          rcases List.mem_cons.mp hp with rfl | hp
          · exact .head _
          exact .tail _ (.tail _ (.tail _ (.tail _ (.tail _ hp)))))
      clear NR neR
      k_with_none
      k_with "call builtin:list.append" => (refine Stop.mk ?_)
      k_steps
      unfold Stop
      rename Fr _ _ _ _ => F
      rename News _ _ _ _ => N
      refine' append_K F N (.tail (Ne.symm neRows) (.tail nCR (.head ?hu))) ?_ ?hz
      case hz => rw [List.size_toArray, List.length_map, sizeLine_eq]; omega
      case hu =>
        intro p hp
        rcases List.mem_cons.mp hp with rfl | hp
        · exact Ne.symm nRD
        rcases List.mem_cons.mp hp with rfl | hp
        · exact nLR
        exact hToff p hp _ (by simp)
      intro h5 F5 N5
      clear F N
      dsimp only
      k_with_none
      k_with "call builtin:list.append" => (refine Stop.mk ?_)
      k_steps
      unfold Stop
      rename Fr _ _ _ _ => F
      rename News _ _ _ _ => N
      refine' append_K F N (.tail (Ne.symm neDue) (.tail nCD (.tail nRD (.head ?hu)))) ?_ ?hz
      case hz => rw [List.size_toArray, hDv.length, sizeLine_eq, hR.len.2]; omega
      case hu =>
        intro p hp
        rcases List.mem_cons.mp hp with rfl | hp
        · exact nLD
        exact hToff p hp _ (by simp)
      intro h6 F6 N6
      clear F N
      dsimp only
      simp only [List.push_toArray] at N6
      k_with_none
      k_with "InvPostG" => (refine Stop.mk ?_)
      k_steps
      (try unfold Stop)
      rename Fr _ _ _ _ => F
      rename News _ _ _ _ => N
      refine turn_end (Q := fun _ _ => True) F N (.tail _ (.head _)) (.tail _ (.tail _ (.head _))) (.tail _ (.tail _ (.tail _ (.head _)))) (.tail _ (.tail _ (.tail _ (.tail _ (.head _))))) (.head _) (fun p hp => .tail _ (.tail _ (.tail _ (.tail _ (.tail _ hp))))) hTr hTo (by assumption) hR hEnc hiR hDv rfl rfl hlen hne ⟨Ne.symm neCell, Ne.symm neRows, Ne.symm neDue, Ne.symm neLD⟩ ?_ neT
      intro p hp b hb
      refine hoff p hp b ?_
      simpa using hb
    · rename Fr _ _ _ _ => F
      rename News _ _ _ _ => N
      refine sum_N K0 F N KX TT rfl rfl ⟨_, N.get (by k_memK), rfl, _, rfl⟩ hya ⟨_, N.get (by k_memK), rfl, _, rfl⟩ hyc hlA hlC ?_
      intro ld ud nd hD tD FD ND neD hiD
      clear F N
      have hDG := sum_DG hdA hdC hlA hlC hpA
      rw [hmv, hnv] at hDG
      generalize sumF da dc = dd at hiD hDG
      simp only [List.forall_mem_cons] at neD
      dsimp only at neD ⊢
      k_with_none
      k_with "call ref" => (refine Stop.mk ?_)
      k_steps
      unfold Stop
      rename Fr _ _ _ _ => F
      rename News _ _ _ _ => N
      have hk0 := Int.fmod_nonneg_of_pos ((if x < 0 then -x else x).fdiv 5 + mv) (b := 128) (by decide)
      have hk1 := Int.fmod_lt_of_pos ((if x < 0 then -x else x).fdiv 5 + mv) (b := 128) (by decide)
      have hsh := hDG.short
      refine oct_N K0 F N KX TT rfl rfl ⟨_, N.get (by k_memK), rfl, _, rfl⟩ hiD (by omega) hDG.pos hk0 hk1 ?_
      intro lr ur nr hR' tR FR NR neR hiR
      clear F N
      have hEnc := enc_oct hDG hk0 hk1
      generalize octF dd _ = rr at hiR hEnc
      obtain ⟨neTup, neLd, neC, neA', neCell, neRows, neDue, neLD, neT⟩ : _ ∧ _ ∧ _ ∧ _ ∧ _ ∧ _ ∧ _ ∧ _ ∧ _ := by simpa only [List.forall_mem_cons] using neR
      have N3 : News _ _ _ ((lr, W.listOf ur.toArray nr) :: (s1.heap.objs.size + 1, _) :: (rowsA, W.listOf ((rs.map fun r => Value.ref r.1).toArray) n1) :: (dueA, W.listOf dv.toArray n2) :: (lD, W.listOf wsD.toArray 0) :: T) :=
        fun p hp => NR p (by
          rcases List.mem_cons.mp hp with rfl | hp
          · exact .head _
          exact .tail _ (.tail _ (.tail _ (.tail _ (.tail _ hp)))))
      clear NR neR
      k_with_none
      k_with "call builtin:list.append" => (refine Stop.mk ?_)
      k_steps
      unfold Stop
      rename Fr _ _ _ _ => F
      rename News _ _ _ _ => N
      refine' append_K F N (.tail (Ne.symm neRows) (.tail nCR (.head ?hu))) ?_ ?hz
      case hz => rw [List.size_toArray, List.length_map, sizeLine_eq]; omega
      case hu =>
        intro p hp
        rcases List.mem_cons.mp hp with rfl | hp
        · exact Ne.symm nRD
        rcases List.mem_cons.mp hp with rfl | hp
        · exact nLR
        exact hToff p hp _ (by simp)
      intro h5 F5 N5
      clear F N
      dsimp only
      k_with_none
      k_with "call builtin:list.append" => (refine Stop.mk ?_)
      k_steps
      unfold Stop
      rename Fr _ _ _ _ => F
      rename News _ _ _ _ => N
      refine' append_K F N (.tail (Ne.symm neDue) (.tail nCD (.tail nRD (.head ?hu)))) ?_ ?hz
      case hz => rw [List.size_toArray, hDv.length, sizeLine_eq, hR.len.2]; omega
      case hu =>
        intro p hp
        rcases List.mem_cons.mp hp with rfl | hp
        · exact nLD
        exact hToff p hp _ (by simp)
      intro h6 F6 N6
      clear F N
      dsimp only
      simp only [List.push_toArray] at N6
      k_with_none
      k_with "InvPostG" => (refine Stop.mk ?_)
      k_steps
      (try unfold Stop)
      rename Fr _ _ _ _ => F
      rename News _ _ _ _ => N
      refine turn_end (Q := fun _ _ => True) F N (.tail _ (.head _)) (.tail _ (.tail _ (.head _))) (.tail _ (.tail _ (.tail _ (.head _)))) (.tail _ (.tail _ (.tail _ (.tail _ (.head _))))) (.head _) (fun p hp => .tail _ (.tail _ (.tail _ (.tail _ (.tail _ hp))))) hTr hTo (by assumption) hR hEnc hiR hDv rfl rfl hlen hne ⟨Ne.symm neCell, Ne.symm neRows, Ne.symm neDue, Ne.symm neLD⟩ ?_ neT
      intro p hp b hb
      refine hoff p hp b ?_
      simpa using hb
    · rename Fr _ _ _ _ => F
      rename News _ _ _ _ => N
      refine diff_N K0 F N KX TT rfl rfl ⟨_, N.get (by k_memK), rfl, _, rfl⟩ hya ⟨_, N.get (by k_memK), rfl, _, rfl⟩ hyc hlA hlC ?_
      intro ld ud nd hD tD FD ND neD hiD
      clear F N
      have hDG := diff_DG hdA hdC hlA hlC
      rw [hmv, hnv] at hDG
      generalize diffF da dc = dd at hiD hDG
      simp only [List.forall_mem_cons] at neD
      dsimp only at neD ⊢
      k_with_none
      k_with "call ref" => (refine Stop.mk ?_)
      k_steps
      unfold Stop
      rename Fr _ _ _ _ => F
      rename News _ _ _ _ => N
      have hk0 := Int.fmod_nonneg_of_pos ((if x < 0 then -x else x).fdiv 5 + mv) (b := 128) (by decide)
      have hk1 := Int.fmod_lt_of_pos ((if x < 0 then -x else x).fdiv 5 + mv) (b := 128) (by decide)
      have hsh := hDG.short
      refine oct_N K0 F N KX TT rfl rfl ⟨_, N.get (by k_memK), rfl, _, rfl⟩ hiD (by omega) hDG.pos hk0 hk1 ?_
      intro lr ur nr hR' tR FR NR neR hiR
      clear F N
      have hEnc := enc_oct hDG hk0 hk1
      generalize octF dd _ = rr at hiR hEnc
      obtain ⟨neTup, neLd, neC, neA', neCell, neRows, neDue, neLD, neT⟩ : _ ∧ _ ∧ _ ∧ _ ∧ _ ∧ _ ∧ _ ∧ _ ∧ _ := by simpa only [List.forall_mem_cons] using neR
      have N3 : News _ _ _ ((lr, W.listOf ur.toArray nr) :: (s1.heap.objs.size + 1, _) :: (rowsA, W.listOf ((rs.map fun r => Value.ref r.1).toArray) n1) :: (dueA, W.listOf dv.toArray n2) :: (lD, W.listOf wsD.toArray 0) :: T) :=
        fun p hp => NR p (by
          rcases List.mem_cons.mp hp with rfl | hp
          · exact .head _
          exact .tail _ (.tail _ (.tail _ (.tail _ (.tail _ hp)))))
      clear NR neR
      k_with_none
      k_with "call builtin:list.append" => (refine Stop.mk ?_)
      k_steps
      unfold Stop
      rename Fr _ _ _ _ => F
      rename News _ _ _ _ => N
      refine' append_K F N (.tail (Ne.symm neRows) (.tail nCR (.head ?hu))) ?_ ?hz
      case hz => rw [List.size_toArray, List.length_map, sizeLine_eq]; omega
      case hu =>
        intro p hp
        rcases List.mem_cons.mp hp with rfl | hp
        · exact Ne.symm nRD
        rcases List.mem_cons.mp hp with rfl | hp
        · exact nLR
        exact hToff p hp _ (by simp)
      intro h5 F5 N5
      clear F N
      dsimp only
      k_with_none
      k_with "call builtin:list.append" => (refine Stop.mk ?_)
      k_steps
      unfold Stop
      rename Fr _ _ _ _ => F
      rename News _ _ _ _ => N
      refine' append_K F N (.tail (Ne.symm neDue) (.tail nCD (.tail nRD (.head ?hu)))) ?_ ?hz
      case hz => rw [List.size_toArray, hDv.length, sizeLine_eq, hR.len.2]; omega
      case hu =>
        intro p hp
        rcases List.mem_cons.mp hp with rfl | hp
        · exact nLD
        exact hToff p hp _ (by simp)
      intro h6 F6 N6
      clear F N
      dsimp only
      simp only [List.push_toArray] at N6
      k_with_none
      k_with "InvPostG" => (refine Stop.mk ?_)
      k_steps
      (try unfold Stop)
      rename Fr _ _ _ _ => F
      rename News _ _ _ _ => N
      refine turn_end (Q := fun _ _ => True) F N (.tail _ (.head _)) (.tail _ (.tail _ (.head _))) (.tail _ (.tail _ (.tail _ (.head _)))) (.tail _ (.tail _ (.tail _ (.tail _ (.head _))))) (.head _) (fun p hp => .tail _ (.tail _ (.tail _ (.tail _ (.tail _ hp))))) hTr hTo (by assumption) hR hEnc hiR hDv rfl rfl hlen hne ⟨Ne.symm neCell, Ne.symm neRows, Ne.symm neDue, Ne.symm neLD⟩ ?_ neT
      intro p hp b hb
      refine hoff p hp b ?_
      simpa using hb
    · rename Fr _ _ _ _ => F
      rename News _ _ _ _ => N
      refine quot_N K0 F N KX TT rfl rfl ⟨_, N.get (by k_memK), rfl, _, rfl⟩ hya hb2 hb64 hlA ?_
      intro ld ud nd hD tD FD ND neD hiD
      clear F N
      have hDG := quot_DG hdA hlA hpA hb2 hb64
      rw [hmv] at hDG
      generalize (quotF _ da).2 = dd at hiD hDG
      simp only [List.forall_mem_cons] at neD
      dsimp only at neD ⊢
      k_with_none
      k_with "call ref" => (refine Stop.mk ?_)
      k_steps
      unfold Stop
      rename Fr _ _ _ _ => F
      rename News _ _ _ _ => N
      have hk0 := Int.fmod_nonneg_of_pos ((if x < 0 then -x else x).fdiv 5 + mv) (b := 128) (by decide)
      have hk1 := Int.fmod_lt_of_pos ((if x < 0 then -x else x).fdiv 5 + mv) (b := 128) (by decide)
      have hsh := hDG.short
      refine oct_N K0 F N KX TT rfl rfl ⟨_, N.get (by k_memK), rfl, _, rfl⟩ hiD (by omega) hDG.pos hk0 hk1 ?_
      intro lr ur nr hR' tR FR NR neR hiR
      clear F N
      have hEnc := enc_oct hDG hk0 hk1
      generalize octF dd _ = rr at hiR hEnc
      obtain ⟨neTup, neLd, neC, neA', neCell, neRows, neDue, neLD, neT⟩ : _ ∧ _ ∧ _ ∧ _ ∧ _ ∧ _ ∧ _ ∧ _ ∧ _ := by simpa only [List.forall_mem_cons] using neR
      have N3 : News _ _ _ ((lr, W.listOf ur.toArray nr) :: (s1.heap.objs.size + 1, _) :: (rowsA, W.listOf ((rs.map fun r => Value.ref r.1).toArray) n1) :: (dueA, W.listOf dv.toArray n2) :: (lD, W.listOf wsD.toArray 0) :: T) :=
        fun p hp => NR p (by
          rcases List.mem_cons.mp hp with rfl | hp
          · exact .head _
          exact .tail _ (.tail _ (.tail _ (.tail _ (.tail _ hp)))))
      clear NR neR
      k_with_none
      k_with "call builtin:list.append" => (refine Stop.mk ?_)
      k_steps
      unfold Stop
      rename Fr _ _ _ _ => F
      rename News _ _ _ _ => N
      refine' append_K F N (.tail (Ne.symm neRows) (.tail nCR (.head ?hu))) ?_ ?hz
      case hz => rw [List.size_toArray, List.length_map, sizeLine_eq]; omega
      case hu =>
        intro p hp
        rcases List.mem_cons.mp hp with rfl | hp
        · exact Ne.symm nRD
        rcases List.mem_cons.mp hp with rfl | hp
        · exact nLR
        exact hToff p hp _ (by simp)
      intro h5 F5 N5
      clear F N
      dsimp only
      k_with_none
      k_with "call builtin:list.append" => (refine Stop.mk ?_)
      k_steps
      unfold Stop
      rename Fr _ _ _ _ => F
      rename News _ _ _ _ => N
      refine' append_K F N (.tail (Ne.symm neDue) (.tail nCD (.tail nRD (.head ?hu)))) ?_ ?hz
      case hz => rw [List.size_toArray, hDv.length, sizeLine_eq, hR.len.2]; omega
      case hu =>
        intro p hp
        rcases List.mem_cons.mp hp with rfl | hp
        · exact nLD
        exact hToff p hp _ (by simp)
      intro h6 F6 N6
      clear F N
      dsimp only
      simp only [List.push_toArray] at N6
      k_with_none
      k_with "InvPostG" => (refine Stop.mk ?_)
      k_steps
      (try unfold Stop)
      rename Fr _ _ _ _ => F
      rename News _ _ _ _ => N
      refine turn_end (Q := fun _ _ => True) F N (.tail _ (.head _)) (.tail _ (.tail _ (.head _))) (.tail _ (.tail _ (.tail _ (.head _)))) (.tail _ (.tail _ (.tail _ (.tail _ (.head _))))) (.head _) (fun p hp => .tail _ (.tail _ (.tail _ (.tail _ (.tail _ hp))))) hTr hTo (by assumption) hR hEnc hiR hDv rfl rfl hlen hne ⟨Ne.symm neCell, Ne.symm neRows, Ne.symm neDue, Ne.symm neLD⟩ ?_ neT
      intro p hp b hb
      refine hoff p hp b ?_
      simpa using hb
    · rename Fr _ _ _ _ => F
      rename News _ _ _ _ => N
      refine comp_down F (by with_unfolding_all rfl) (by decide) (by rfl) (by decide) (by rfl) ?_
      k_with_none
      k_with "DownSrc" => (refine Stop.mk ?_)
      k_steps
      unfold Stop
      rename_i oN hcN l0A h0A Fx0 Nx0 lt0 zA hzA Fx1 Nx1 izA nzA szA ez1 ez2 ez3 ltz hhR tkR t₁ u₁ v₁ hRg F N hRk
      clear Fx0 Nx0 Fx1 Nx1
      obtain ⟨number, tn, hcell, hnum, hnum0, hnum1⟩ : ∃ number tn, oN.data = .cell (some (.int number tn)) ∧ number = ((if x < 0 then -x else x).fdiv 5).fmod 281474976710656 ∧ 0 ≤ number ∧ number < 281474976710656 := ⟨_, _, hcN, rfl, Int.fmod_nonneg_of_pos _ (by decide), Int.fmod_lt_of_pos _ (by decide)⟩
      clear hcN
      have hz3 : (((if x < 0 then -x else x).fdiv 5).fmod 3).toNat ≤ 2 := by
        have := Int.fmod_lt_of_pos ((if x < 0 then -x else x).fdiv 5) (b := 3) (by decide)
        omega
      refine ⟨_, 7, -1, t₁, u₁, v₁, 8, _, rfl, rfl, F, N, hRg, by decide, by decide, by decide, fun g => kci_rest (ks := downKs 7 8) (numG number) (downKs_length _ _) ?hP ?hturn ?hfin (numG_grows number)⟩
      case hP =>
        rintro i v hi ⟨t, rfl⟩
        exact ⟨_, t, by simp [downKs, hi], rfl⟩
      case hturn =>
        intro k t I oI C oC D m₂ ys l h tk E' hk hy hC hx Fq Nq off ne mk
        have hk0 := mem_downKs hk
        have hkp : (64 : Int) ^ k.toNat ≠ 0 := Int.ne_of_gt (Int.pow_pos (by decide))
        clear F N
        k_with_none
        k_with "binaryOp Pow int int" => ((with_reducible refine pow_int_small (by omega) (by omega) (by decide) ?_); (try dsimp only))
        k_with "binaryOp FloorDiv int int" => (refine Stop.mk ?_)
        k_with "CompEnd" => (refine Stop.mk ?_)
        k_steps
        all_goals unfold Stop
        · refine floordiv_int hkp ?_
          k_with_none
          k_with "CompEnd" => (refine Stop.mk ?_)
          k_steps
          unfold Stop
          exact LCg.CompEnd.intro Fq Nq _ (fun _ h => h) off trivial (kci_el (if_pos (.inl (by omega))) rfl rfl)
        · refine floordiv_int hkp ?_
          k_with_none
          k_with "CompEnd" => (refine Stop.mk ?_)
          k_steps
          unfold Stop
          exact LCg.CompEnd.intro Fq Nq _ (fun _ h => h) off trivial (kci_el (if_pos (.inr (by assumption))) rfl rfl)
        · exact LCg.CompEnd.intro Fq Nq _ (fun _ h => h) off trivial (kci_no (if_neg (by rintro (q | q) <;> first | omega | contradiction)) rfl)
      case hfin =>
        clear F N
        unfold KPfDone
        rw [numG_fold8]
        intro yN hyN hyNl D hDh tkD F N offD
        simp only [LCg.Off1] at offD
        dsimp only
        have hyNL := hyN.length
        k_with_none
        k_with "call ref" => (refine Stop.mk ?_)
        k_steps
        unfold Stop
        rename Fr _ _ _ _ => F
        rename News _ _ _ _ => N
        rename_i ld ud hq1 hiD ltD hq2
        have N2 : News _ _ _ ((ld, W.listOf ud.toArray 0) :: (s1.heap.objs.size + 1, oN) :: (rowsA, W.listOf ((rs.map fun r => Value.ref r.1).toArray) n1) :: (dueA, W.listOf dv.toArray n2) :: (lD, W.listOf wsD.toArray 0) :: T) :=
          fun p hp => N p (by
            rcases List.mem_cons.mp hp with rfl | hp
            · exact .head _
            exact .tail _ (.tail _ (.tail _ (.tail _ (.tail _ (.tail _ hp))))))
        clear N
        have hDG := num_DG hnum0 (show number < 64 ^ 8 from hnum1) hz3
        rw [flat_rep] at hiD
        generalize List.replicate _ (0 : Int) ++ numF number 8 = dd at hiD hDG
        have hk0 := Int.fmod_nonneg_of_pos ((if x < 0 then -x else x).fdiv 5 + mv) (b := 128) (by decide)
        have hk1 := Int.fmod_lt_of_pos ((if x < 0 then -x else x).fdiv 5 + mv) (b := 128) (by decide)
        have hsh := hDG.short
        refine oct_N K0 F N2 KX TT rfl rfl ⟨_, N2.get (.head _), rfl, _, rfl⟩ hiD (by omega) hDG.pos hk0 hk1 ?_
        intro lr ur nr hR' tR FR NR neR hiR
        clear F N2
        have hEnc := enc_oct hDG hk0 hk1
        generalize octF dd _ = rr at hiR hEnc
        obtain ⟨neLd, neCell, neRows, neDue, neLD, neT⟩ : _ ∧ _ ∧ _ ∧ _ ∧ _ ∧ _ := by simpa only [List.forall_mem_cons] using neR
        have N3 : News _ _ _ ((lr, W.listOf ur.toArray nr) :: (s1.heap.objs.size + 1, oN) :: (rowsA, W.listOf ((rs.map fun r => Value.ref r.1).toArray) n1) :: (dueA, W.listOf dv.toArray n2) :: (lD, W.listOf wsD.toArray 0) :: T) :=
          fun p hp => NR p (by
            rcases List.mem_cons.mp hp with rfl | hp
            · exact .head _
            exact .tail _ (.tail _ hp))
        clear NR neR
        dsimp only
        k_with_none
        k_with "call builtin:list.append" => (refine Stop.mk ?_)
        k_steps
        unfold Stop
        rename Fr _ _ _ _ => F
        rename News _ _ _ _ => N
        refine' append_K F N (.tail (Ne.symm neRows) (.tail nCR (.head ?hu))) ?_ ?hz
        case hz => rw [List.size_toArray, List.length_map, sizeLine_eq]; omega
        case hu =>
          intro p hp
          rcases List.mem_cons.mp hp with rfl | hp
          · exact Ne.symm nRD
          rcases List.mem_cons.mp hp with rfl | hp
          · exact nLR
          exact hToff p hp _ (by simp)
        intro h5 F5 N5
        clear F N
        dsimp only
        k_with_none
        k_with "call builtin:list.append" => (refine Stop.mk ?_)
        k_steps
        unfold Stop
        rename Fr _ _ _ _ => F
        rename News _ _ _ _ => N
        refine' append_K F N (.tail (Ne.symm neDue) (.tail nCD (.tail nRD (.head ?hu)))) ?_ ?hz
        case hz => rw [List.size_toArray, hDv.length, sizeLine_eq, hR.len.2]; omega
        case hu =>
          intro p hp
          rcases List.mem_cons.mp hp with rfl | hp
          · exact nLD
          exact hToff p hp _ (by simp)
        intro h6 F6 N6
        clear F N
        dsimp only
        simp only [List.push_toArray] at N6
        k_with_none
        k_with "InvPostG" => (refine Stop.mk ?_)
        k_steps
        (try unfold Stop)
        rename Fr _ _ _ _ => F
        rename News _ _ _ _ => N
        refine turn_end (Q := fun _ _ => True) F N (.tail _ (.head _)) (.tail _ (.tail _ (.head _))) (.tail _ (.tail _ (.tail _ (.head _)))) (.tail _ (.tail _ (.tail _ (.tail _ (.head _))))) (.head _) (fun p hp => .tail _ (.tail _ (.tail _ (.tail _ (.tail _ hp))))) hTr hTo (by assumption) hR hEnc hiR hDv rfl rfl hlen hne ⟨Ne.symm neCell, Ne.symm neRows, Ne.symm neDue, Ne.symm neLD⟩ ?_ neT
        intro p hp b hb
        refine hoff p hp b ?_
        simpa using hb
  case done =>
    intro m₁ news₁ h tk' hJ F1 N1
    clear F N N0
    obtain ⟨⟨oc, cv, rs, n1, dv, n2, rows, due, rfl, hoc, hR, hDv, hm1, hm2, hlen, hne⟩⟩ := hJ
    have em : m₁ = (fun y => if y = Str.ofString "rows" then some (Value.ref rowsA) else if y = Str.ofString "due" then some (Value.ref dueA) else m₁ y) := by
      funext y
      by_cases e1 : y = Str.ofString "rows"
      · simp only [if_pos e1]; rw [e1, hm1]
      · by_cases e2 : y = Str.ofString "due"
        · simp only [if_neg e1, if_pos e2]; rw [e2, hm2]
        · simp only [if_neg e1, if_neg e2]
    rw [em] at F1
    clear em
    have hi17 : rs.length ≤ 20 := by
      have e2 := hID.length
      rw [List.length_append] at e2
      simp only [List.length_cons, List.length_nil] at e2
      omega
    obtain ⟨⟨b1, vs1, nn1⟩, x1, v1, e1, e1', e1'', hi1, he1⟩ := hR.get (k := rs.length - 1) (by omega)
    obtain ⟨⟨b2, vs2, nn2⟩, x2, v2, e2, e2', e2'', hi2, he2⟩ := hR.get (k := rs.length - 2) (by omega)
    dsimp only at hi1 hi2
    have hDl := hR.len.2
    have e3 : due[due.length - 2]? = some v2 := by rw [hDl]; exact e2''
    obtain ⟨T, hT⟩ : ∃ T, T = rs.map rowO := ⟨_, rfl⟩
    have hTr : ∀ r ∈ rs, rowO r ∈ T := fun r hr => hT ▸ List.mem_map_of_mem hr
    have N2 : News _ _ _ ((b1, W.listOf vs1.toArray nn1) :: (b2, W.listOf vs2.toArray nn2) :: (s1.heap.objs.size + 1, oc) :: (rowsA, W.listOf ((rs.map fun r => Value.ref r.1).toArray) n1) :: (dueA, W.listOf dv.toArray n2) :: (lD, W.listOf wsD.toArray 0) :: T) := fun p hp => N1 p (by
      rcases List.mem_cons.mp hp with rfl | hp
      · exact .tail _ (.tail _ (.tail _ (.tail _ (List.mem_map_of_mem (f := rowO) (List.mem_of_getElem? e1)))))
      rcases List.mem_cons.mp hp with rfl | hp
      · exact .tail _ (.tail _ (.tail _ (.tail _ (List.mem_map_of_mem (f := rowO) (List.mem_of_getElem? e2)))))
      rw [hT] at hp
      exact hp)
    clear N1
    have hz1 := he1.short
    have hz2 := he2.short
    have hL1 := hi1.length
    have hL2 := hi2.length
    have hp1 := he1.pos
    have kM := kstMark
    k_with_none
    k_with "exec For" => ((rename Fr _ _ _ _ => lF'); (with_unfolding_all refine' For_invVF lF' ?k1 ?k2 ?_; (case k1 => exact rfl); (case k2 => exact rfl)))
    k_with "subscriptTail Name UnaryOp ref int" => ((rename News _ _ _ _ => nQ); (first | refine' row_neg (rs := rs) (n1 := n1) 1 nQ ?qa e1 (by decide) (by decide) ?q2 (by decide) ?_ ?qs | refine' row_neg (rs := rs) (n1 := n1) 2 nQ ?qa e2 (by decide) (by decide) ?q2 (by decide) ?_ ?qs); (case qa => k_memK); (case q2 => omega); (case qs => with_unfolding_all rfl); (try dsimp only))
    k_with "pyIter ref" => (refine Stop.mk ?_)
    k_steps
    unfold Stop
    rename Fr _ _ _ _ => F
    rename News _ _ _ _ => N
    rename IsRange _ _ _ _ _ _ _ _ => hRg
    dsimp only
    refine kst_range (σ := Unit) (fun _ => (b1, W.listOf vs1.toArray nn1) :: (b2, W.listOf vs2.toArray nn2) :: (s1.heap.objs.size + 1, oc) :: (rowsA, W.listOf ((rs.map fun r => Value.ref r.1).toArray) n1) :: (dueA, W.listOf dv.toArray n2) :: (lD, W.listOf wsD.toArray 0) :: T) (fun _ => [(Str.ofString "rows", Value.ref rowsA), (Str.ofString "due", Value.ref dueA)]) (fun _ => True) [] (fun _ _ => True) () rfl hRg ?hsm (rangeSize_nat _ _) F N trivial ?hk trivial ?tn ?fin
    case hsm => exact small_one (by omega) (by omega) (by omega) (by omega)
    case hk =>
      intro p hp
      simp only [List.mem_cons, List.not_mem_nil, or_false] at hp
      rcases hp with rfl | rfl <;> rfl
    case tn =>
      clear F N
      intro c pre k t u h2 tk2 own hk hpl hoff _ _ F N
      have hk0 : 0 ≤ k := by omega
      have hkn : k.toNat < x1.length := by omega
      simp only [kstB, List.contains_nil, Bool.false_eq_true, if_false, List.cons_append] at F N
      k_with_none
      k_with "subscriptTail Name UnaryOp ref int" => ((rename News _ _ _ _ => nQ); (first | refine' row_neg (rs := rs) (n1 := n1) 1 nQ ?qa e1 (by decide) (by decide) ?q2 (by decide) ?_ ?qs | refine' row_neg (rs := rs) (n1 := n1) 2 nQ ?qa e2 (by decide) (by decide) ?q2 (by decide) ?_ ?qs); (case qa => k_memK); (case q2 => omega); (case qs => with_unfolding_all rfl); (try dsimp only))
      k_with "subscriptTail Subscript" => (refine Stop.mk ?_)
      k_steps
      unfold Stop
      rename Fr _ _ _ _ => F
      rename News _ _ _ _ => N
      have hlb : Heap.IsList _ b1 vs1.toArray := ⟨_, (N (b1, W.listOf vs1.toArray nn1) (by first | exact .head _ | k_memK)).1, rfl, nn1, rfl⟩
      with_unfolding_all refine' slice_upto F N (by exact hlb) hi1 hk0 (by omega) ?_ ?is
      case is => with_unfolding_all rfl
      intro l8 ws8 h8 F8 N8 lt8 hi8
      clear F N
      k_lt lt8
      have hL8 := hi8.length
      dsimp only
      k_with_none
      k_with "call ref" => (refine Stop.mk ?_)
      k_steps
      unfold Stop
      rename Fr _ _ _ _ => F
      rename News _ _ _ _ => N
      refine read_N K0 F N KX TT rfl rfl ⟨_, N.get (.head _), rfl, _, rfl⟩ (by assumption) (cut_oct he2 he1 _) (cut_len he2 he1 _) ?_
      intro la ua na hA tA FA NA neA hiA
      clear F N
      rw [cut_read he2 he1 hkn] at hiA
      obtain ⟨ta, rfl⟩ := ints_one hiA
      clear hiA
      have N3 : News _ _ _ ((la, W.listOf [Value.int v2 ta].toArray na) :: (b1, W.listOf vs1.toArray nn1) :: (b2, W.listOf vs2.toArray nn2) :: (s1.heap.objs.size + 1, oc) :: (rowsA, W.listOf ((rs.map fun r => Value.ref r.1).toArray) n1) :: (dueA, W.listOf dv.toArray n2) :: (lD, W.listOf wsD.toArray 0) :: (T ++ own)) := fun p hp => NA p (by
        rcases List.mem_cons.mp hp with rfl | hp
        · exact .head _
        exact .tail _ (.tail _ (.tail _ hp)))
      clear NA neA
      dsimp only
      k_with_none
      k_with "InvPostN" => (refine Stop.mk ?_)
      k_steps
      all_goals (try unfold Stop)
      · dsimp only [InvPostN]
        rename Fr _ _ _ _ => F
        rename News _ _ _ _ => N
        refine' kst_end () F N ?hn ?ho ?ha ?hf ?hk ?hr ?hp
        case hn => exact fun p hp => .tail _ (.tail _ (List.mem_append_left own hp))
        case ho => exact fun p hp => .tail _ (.tail _ (.tail _ (.tail _ (.tail _ (.tail _ (.tail _ (.tail _ (List.mem_append_right T hp))))))))
        case hf => trivial
        case hp => trivial
        case ha => rfl
        case hk =>
          intro p hp
          simp only [List.mem_cons, List.not_mem_nil, or_false] at hp
          rcases hp with rfl | rfl <;> rfl
        case hr =>
          intro z h1 h2 _
          have h4 := h2 _ (.head _)
          have h5 := h2 _ (.tail _ (.head _))
          dsimp only at h4 h5
          simp only [if_neg h1, if_neg h4, if_neg h5]
      · exfalso
        have hq : [v2] = List.take (due.length - 1 - (due.length - 2)) (List.drop (due.length - 2) due) := by
          rw [show due.length - 1 - (due.length - 2) = 1 by omega, take_due e3]
        contradiction
    case fin =>
      clear F N
      intro c u h2 tk2 _ _ F N
      simp only [kstB, List.contains_nil, Bool.false_eq_true, if_false] at F N
      have jf := join_facts hR
      have jl := jf.1.length
      k_with_none
      k_with "eval ListComp" => (refine Stop.mk ?_)
      k_steps
      unfold Stop
      rename Fr _ _ _ _ => F
      rename News _ _ _ _ => N
      refine flat_comp (rs := rs) F N rfl (.tail _ (.tail _ (.tail _ (.head _)))) (fun r hr => .tail _ (.tail _ (.tail _ (.tail _ (.tail _ (.tail _ (hTr r hr))))))) ?hsz (by with_unfolding_all rfl) (by decide) (by rfl) (by decide) (by rfl) (by rfl) (by decide) (by decide) ?hi1 ?hfin
      case hsz => rw [jl, sizeLine_eq]; omega
      case hi1 =>
        k_with_none
        k_with "FlatSrc" => (refine Stop.mk ?_)
        k_steps
        unfold Stop
        exact ⟨rfl, rfl⟩
      case hfin =>
        intro D h3 tk3 F3 N3 hl3
        clear F N
        dsimp only
        k_with_none
        k_with "call ref" => (refine Stop.mk ?_)
        k_steps
        unfold Stop
        refine read_N K0 F3 N3 KX TT rfl rfl hl3 jf.1 jf.2.1 (by omega) ?_
        intro la ua na hA tA FA NA neA hiA
        clear F3 N3
        rw [join_read hR _ jf.2.2.2] at hiA
        simp only [List.forall_mem_cons] at neA
        dsimp only at neA ⊢
        k_with_none
        k_steps)
end Mine
end
theorem PySem.Challenge.cw_dz0020_01_holds : PySem.Challenge.rw_dz0020_01.Holds :=
  Mine.law_holds
